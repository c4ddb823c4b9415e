import JvmDerived
import JvmDerived.Pilot.@@N@@Statement
import JvmDerived.Pilot.@@N@@Code
set_option linter.unusedVariables false
set_option linter.unusedSimpArgs false
namespace Jvm.Pilot.@@N@@
open Jvm Jvm.ClassFile Sem Op Lib Jvm.Free Jvm.Stand Jvm.LawKit Jvm.RoadKit Bundle Jvm.Pilot.@@N@@.Jvm.D
theorem own_eqi {s : State} {args : Array Value} {t : Term} {k : Int32} (h : (Jvm.Cond.eq t (Term.int k)).value args s none s [] = some true) : t.eval args s none [] s = some (.int k) := by
  obtain ⟨u, v, hu, hv, k1, k2⟩ := cmp_v (Or.inl h)
  obtain rfl : v = .int k := Option.some.inj (hv.symm.trans (Term.int_eval k))
  obtain ⟨z, rfl⟩ := k2
  rw [hu]
  simp [Cond.value, hu, hv] at h
  rw [h]
theorem own_fld {s : State} {args : Array Value} {t : Term} {C n d : String} {k : Int32} {x : Addr} (ev : t.eval args s none [] s = some (.ref x)) (h : (Jvm.Cond.eq (Term.field t C n d) (Term.int k)).value args s none s [] = some true) : Fld s s.heap x C n d (.int k) := by
  have hu := own_eqi h
  rw [fld_at ev] at hu
  exact Fld.start hu
theorem own_nm (k : Int32) : ¬ ((k &&& (2147483647 : Int32)) = (-1 : Int32)) := by
  have h := (c_and k 2147483647 (by decide)).1
  intro q
  rw [q] at h
  exact absurd h (by decide)
theorem d3_0 : decode jdk_96_method_17_code 0 = .ok (.getstatic 9, 3) := by decide +kernel
theorem d3_3 : decode jdk_96_method_17_code 3 = .ok (.areturn, 1) := by decide +kernel
theorem pn_2 : plainName "java/util/Set" = true := by first | (simp [plainName, overriddenIn]; done) | decide +kernel
theorem ef_3_3 (m : MethodId)  : entryFrame m #[] 0 = mkF m 0 #[] [] := by first | (simp [entryFrame, mkF, argsToLocals, Value.category]; done) | rfl
def QrmSet (Z : State) (aS : Addr) (h0 : Heap) (n0 : Nat) (v : Option Value) (h : Heap) (L : List Loc) : Prop := v = some (.ref aS) ∧ Fr n0 L ∧ h = h0
set_option maxRecDepth 65536 in
set_option maxHeartbeats 40000000 in
theorem rmSet (l : Launch) (Z : State) (a0 : Array Value) (hw : ∀ d ∈ tables_1, d.before a0 Z = true) (ws : List Jvm.Cond) (aS : Addr) (h0 : Heap) (n0 : Nat) (O0 : Old Z n0 h0) (S_EMPTY_SET : Sta Z Z.heap "java/util/ImmutableCollections" "EMPTY_SET" "Ljava/util/ImmutableCollections$SetN;" (.ref aS)) :
    MetFree l (⟨"java/util/Set", "of", "()Ljava/util/Set;"⟩ : MethodName) (head1 (Jvm.Cond.code (⟨"java/util/Set", "of", "()Ljava/util/Set;"⟩ : MethodName) jdk_96_method_17_code 0 (some (.object "java/util/Set")) :: ws) ({ frames := 0, cells := 0, slots := 0, locals := 0 } : Room)) (fun a_ U_ => a_ = #[] ∧ Z.Warmed39 U_.vm ∧ U_.heap = h0) (fun _ _ _ _ _ => True) (fun _ U_ o_ U'_ => ∃ v_ L_, o_ = .returned v_ ∧ QrmSet Z aS h0 n0 v_ U'_.heap L_ ∧ FrameEnd U_ o_ U'_ L_ ({ frames := 0, cells := 0, slots := 0, locals := 0 } : Room).cells ({ frames := 0, cells := 0, slots := 0, locals := 0 } : Room).slots) := by
  refine MetFree.of_bodySF (plainFor_of_name pn_2) hisR ?_
  intro pg ee s mm args below meth cc s₁ Bd hml0 hP hK
  obtain ⟨rfl, hZ, hh⟩ := hP
  have hx := Bd.exec
  have hby := Bd.bytes
  have hml : cc.maxLocals = 0 := hml0
  have hown : s.vm.findClass "java/util/Set" = some mm.cls := findClass_of_methodNamed Bd.named
  have hnm := (name_of_methodNamed Bd.named Bd.method).1
  have X0 : Stand pg l ee ({ frames := 0, cells := 0, slots := 0, locals := 0 } : Room) s mm #[] below meth cc s₁ [] 0 0 := Stand.of_body Bd
  have e0 : s₁.heap = h0 := by rw [← hh, Bd.state]; rfl
  have N0 := Fr.nil n0
  have K0 : Keep h0 h0 ([] : List Addr) := Keep.refl _ _
  have pre0 : ∀ t, Steps pg.tables ee below (s₁.setTop (mkF mm 0 #[] [])) t → Steps pg.tables ee below (s₁.setTop (entryFrame mm #[] 0)) t := fun t k => castTop (ef_3_3 mm ) k
  obtain ⟨T1, X1, e1, st1⟩ := getS2 X0 hx hZ hown (host := "") (Or.inl (hw _ (List.mem_of_getElem? (i := 14) rfl))) Via.refl e0 (S_EMPTY_SET.ext O0.2) (g := (mkF mm 0 #[] [])) rfl (hb hby d3_0)
  obtain ⟨fs, hr, hrun, hended, hW, hsame⟩ := X1.leave (v := some (.ref aS)) (fun h => by rw [Bd.returns] at h; cases h)
  refine ⟨_, _, pre0 _ ?_, hrun, hended, _, _, rfl, ?_, ⟨_, rfl⟩, hW, hsame.mono (by decide) (by decide)⟩
  · show Steps pg.tables ee below (s₁.setTop (mkF mm 0 #[] [])) _
    refine st1 _ ?_
    show Steps pg.tables ee below (T1.setTop (mkF mm 3 #[] [(.ref aS)])) _
    exact retOut X1 hx Bd.returns rfl (Or.inr (Or.inr (Or.inr (Or.inr ⟨rfl, rfl, rfl⟩)))) (hb hby d3_3) hr
  · show QrmSet Z aS h0 n0 _ T1.heap _
    rw [e1]
    exact ⟨rfl, N0, rfl⟩
theorem d4_0 : decode jdk_40_method_36_code 0 = .ok (.getstatic 90, 3) := by decide +kernel
theorem d4_3 : decode jdk_40_method_36_code 3 = .ok (.areturn, 1) := by decide +kernel
theorem pn_6 : plainName "java/util/List" = true := by first | (simp [plainName, overriddenIn]; done) | decide +kernel
theorem ef_4_7 (m : MethodId)  : entryFrame m #[] 0 = mkF m 0 #[] [] := by first | (simp [entryFrame, mkF, argsToLocals, Value.category]; done) | rfl
def QrmList (Z : State) (aL : Addr) (h0 : Heap) (n0 : Nat) (v : Option Value) (h : Heap) (L : List Loc) : Prop := v = some (.ref aL) ∧ Fr n0 L ∧ h = h0
set_option maxRecDepth 65536 in
set_option maxHeartbeats 40000000 in
theorem rmList (l : Launch) (Z : State) (a0 : Array Value) (hw : ∀ d ∈ tables_1, d.before a0 Z = true) (ws : List Jvm.Cond) (aL : Addr) (h0 : Heap) (n0 : Nat) (O0 : Old Z n0 h0) (S_EMPTY_LIST : Sta Z Z.heap "java/util/ImmutableCollections" "EMPTY_LIST" "Ljava/util/ImmutableCollections$ListN;" (.ref aL)) :
    MetFree l (⟨"java/util/List", "of", "()Ljava/util/List;"⟩ : MethodName) (head1 (Jvm.Cond.code (⟨"java/util/List", "of", "()Ljava/util/List;"⟩ : MethodName) jdk_40_method_36_code 0 (some (.object "java/util/List")) :: ws) ({ frames := 0, cells := 0, slots := 0, locals := 0 } : Room)) (fun a_ U_ => a_ = #[] ∧ Z.Warmed39 U_.vm ∧ U_.heap = h0) (fun _ _ _ _ _ => True) (fun _ U_ o_ U'_ => ∃ v_ L_, o_ = .returned v_ ∧ QrmList Z aL h0 n0 v_ U'_.heap L_ ∧ FrameEnd U_ o_ U'_ L_ ({ frames := 0, cells := 0, slots := 0, locals := 0 } : Room).cells ({ frames := 0, cells := 0, slots := 0, locals := 0 } : Room).slots) := by
  refine MetFree.of_bodySF (plainFor_of_name pn_6) hisR ?_
  intro pg ee s mm args below meth cc s₁ Bd hml0 hP hK
  obtain ⟨rfl, hZ, hh⟩ := hP
  have hx := Bd.exec
  have hby := Bd.bytes
  have hml : cc.maxLocals = 0 := hml0
  have hown : s.vm.findClass "java/util/List" = some mm.cls := findClass_of_methodNamed Bd.named
  have hnm := (name_of_methodNamed Bd.named Bd.method).1
  have X0 : Stand pg l ee ({ frames := 0, cells := 0, slots := 0, locals := 0 } : Room) s mm #[] below meth cc s₁ [] 0 0 := Stand.of_body Bd
  have e0 : s₁.heap = h0 := by rw [← hh, Bd.state]; rfl
  have N0 := Fr.nil n0
  have K0 : Keep h0 h0 ([] : List Addr) := Keep.refl _ _
  have pre0 : ∀ t, Steps pg.tables ee below (s₁.setTop (mkF mm 0 #[] [])) t → Steps pg.tables ee below (s₁.setTop (entryFrame mm #[] 0)) t := fun t k => castTop (ef_4_7 mm ) k
  obtain ⟨T1, X1, e1, st1⟩ := getS2 X0 hx hZ hown (host := "") (Or.inl (hw _ (List.mem_of_getElem? (i := 25) rfl))) Via.refl e0 (S_EMPTY_LIST.ext O0.2) (g := (mkF mm 0 #[] [])) rfl (hb hby d4_0)
  obtain ⟨fs, hr, hrun, hended, hW, hsame⟩ := X1.leave (v := some (.ref aL)) (fun h => by rw [Bd.returns] at h; cases h)
  refine ⟨_, _, pre0 _ ?_, hrun, hended, _, _, rfl, ?_, ⟨_, rfl⟩, hW, hsame.mono (by decide) (by decide)⟩
  · show Steps pg.tables ee below (s₁.setTop (mkF mm 0 #[] [])) _
    refine st1 _ ?_
    show Steps pg.tables ee below (T1.setTop (mkF mm 3 #[] [(.ref aL)])) _
    exact retOut X1 hx Bd.returns rfl (Or.inr (Or.inr (Or.inr (Or.inr ⟨rfl, rfl, rfl⟩)))) (hb hby d4_3) hr
  · show QrmList Z aL h0 n0 _ T1.heap _
    rw [e1]
    exact ⟨rfl, N0, rfl⟩
theorem d1_0 : decode prog_34_method_1_code 0 = .ok (.aload_n 0, 1) := by decide +kernel
theorem d1_1 : decode prog_34_method_1_code 1 = .ok (.invokespecial 3, 3) := by decide +kernel
theorem d1_4 : decode prog_34_method_1_code 4 = .ok (.aload_n 0, 1) := by decide +kernel
theorem d1_5 : decode prog_34_method_1_code 5 = .ok (.invokestatic 9, 3) := by decide +kernel
theorem pd_12 : parseMethodDescriptor "()Ljava/util/Set;" = some ⟨[], some (.object "java/util/Set")⟩ := by decide +kernel
theorem d1_8 : decode prog_34_method_1_code 8 = .ok (.putfield 15, 3) := by decide +kernel
theorem d1_11 : decode prog_34_method_1_code 11 = .ok (.aload_n 0, 1) := by decide +kernel
theorem d1_12 : decode prog_34_method_1_code 12 = .ok (.ldc 21, 2) := by decide +kernel
theorem d1_14 : decode prog_34_method_1_code 14 = .ok (.putfield 22, 3) := by decide +kernel
theorem d1_17 : decode prog_34_method_1_code 17 = .ok (.aload_n 0, 1) := by decide +kernel
theorem d1_18 : decode prog_34_method_1_code 18 = .ok (.invokestatic 26, 3) := by decide +kernel
theorem pd_19 : parseMethodDescriptor "()Ljava/util/List;" = some ⟨[], some (.object "java/util/List")⟩ := by decide +kernel
theorem d1_21 : decode prog_34_method_1_code 21 = .ok (.putfield 31, 3) := by decide +kernel
theorem d1_24 : decode prog_34_method_1_code 24 = .ok (.aload_n 0, 1) := by decide +kernel
theorem d1_25 : decode prog_34_method_1_code 25 = .ok (.iload_n 1, 1) := by decide +kernel
theorem d1_26 : decode prog_34_method_1_code 26 = .ok (.putfield 35, 3) := by decide +kernel
theorem d1_29 : decode prog_34_method_1_code 29 = .ok (.aload_n 0, 1) := by decide +kernel
theorem d1_30 : decode prog_34_method_1_code 30 = .ok (.iload_n 2, 1) := by decide +kernel
theorem d1_31 : decode prog_34_method_1_code 31 = .ok (.putfield 38, 3) := by decide +kernel
theorem d1_34 : decode prog_34_method_1_code 34 = .ok (.aload_n 0, 1) := by decide +kernel
theorem d1_35 : decode prog_34_method_1_code 35 = .ok (.lload_n 3, 1) := by decide +kernel
theorem d1_36 : decode prog_34_method_1_code 36 = .ok (.putfield 41, 3) := by decide +kernel
theorem d1_39 : decode prog_34_method_1_code 39 = .ok (.aload_n 0, 1) := by decide +kernel
theorem d1_40 : decode prog_34_method_1_code 40 = .ok (.lload 5, 2) := by decide +kernel
theorem d1_42 : decode prog_34_method_1_code 42 = .ok (.putfield 45, 3) := by decide +kernel
theorem d1_45 : decode prog_34_method_1_code 45 = .ok (.aload_n 0, 1) := by decide +kernel
theorem d1_46 : decode prog_34_method_1_code 46 = .ok (.aload 7, 2) := by decide +kernel
theorem d1_48 : decode prog_34_method_1_code 48 = .ok (.invokevirtual 48, 3) := by decide +kernel
theorem d1_51 : decode prog_34_method_1_code 51 = .ok (.checkcast 49, 3) := by decide +kernel
theorem d1_54 : decode prog_34_method_1_code 54 = .ok (.putfield 54, 3) := by decide +kernel
theorem d1_57 : decode prog_34_method_1_code 57 = .ok (.return_, 1) := by decide +kernel
theorem pn_39 : plainName "com/example/stops_to_routes/stopstoroutes/planner/Vehicle" = true := by first | (simp [plainName, overriddenIn]; done) | decide +kernel
theorem ef_1_40 (m : MethodId) (x0 : Addr) (x1 : Int32) (x2 : Int32) (x3 : Int64) (x4 : Int64) (x5 : Addr) : entryFrame m #[(.ref x0), (.int x1), (.int x2), (.long x3), (.long x4), (.ref x5)] 8 = mkF m 0 #[.val (.ref x0), .val (.int x1), .val (.int x2), .val (.long x3), .second, .val (.long x4), .second, .val (.ref x5)] [] := by first | (simp [entryFrame, mkF, argsToLocals, Value.category]; done) | rfl
def QrmI (Z : State) (a : Addr) (sa : Int32) (en : Int32) (x : Int64) (y : Int64) (ar : Addr) (ka : ClassId) (vz : Value) (aS : Addr) (aL : Addr) (h0 : Heap) (n0 : Nat) (v : Option Value) (h : Heap) (L : List Loc) : Prop := v = none ∧ Fr n0 L ∧ Keep h0 h [a] ∧ ∃ cp : Addr, Exa Z h a "com/example/stops_to_routes/stopstoroutes/planner/Vehicle" ∧ Fld Z h a "com/example/stops_to_routes/stopstoroutes/planner/Vehicle" "skills" "Ljava/util/Set;" (.ref aS) ∧ Fld Z h a "com/example/stops_to_routes/stopstoroutes/planner/Vehicle" "maxStops" "I" (.int (2147483647 : Int32)) ∧ Fld Z h a "com/example/stops_to_routes/stopstoroutes/planner/Vehicle" "breaks" "Ljava/util/List;" (.ref aL) ∧ Fld Z h a "com/example/stops_to_routes/stopstoroutes/planner/Vehicle" "start" "I" (.int sa) ∧ Fld Z h a "com/example/stops_to_routes/stopstoroutes/planner/Vehicle" "end" "I" (.int en) ∧ Fld Z h a "com/example/stops_to_routes/stopstoroutes/planner/Vehicle" "shiftStart" "J" (.long x) ∧ Fld Z h a "com/example/stops_to_routes/stopstoroutes/planner/Vehicle" "shiftEnd" "J" (.long y) ∧ Fld Z h a "com/example/stops_to_routes/stopstoroutes/planner/Vehicle" "capacity" "[J" (.ref cp)
set_option maxRecDepth 65536 in
set_option maxHeartbeats 40000000 in
theorem rmI (l : Launch) (Z : State) (a0 : Array Value) (hw : ∀ d ∈ tables_1, d.before a0 Z = true) (ws : List Jvm.Cond) (a : Addr) (sa : Int32) (en : Int32) (x : Int64) (y : Int64) (ar : Addr) (ka : ClassId) (vz : Value) (aS : Addr) (aL : Addr) (h0 : Heap) (n0 : Nat) (O0 : Old Z n0 h0) (E_a : Exa Z h0 a "com/example/stops_to_routes/stopstoroutes/planner/Vehicle") (F_skills_a : Fld Z h0 a "com/example/stops_to_routes/stopstoroutes/planner/Vehicle" "skills" "Ljava/util/Set;" .null) (F_maxStops_a : Fld Z h0 a "com/example/stops_to_routes/stopstoroutes/planner/Vehicle" "maxStops" "I" (.int (0 : Int32))) (F_breaks_a : Fld Z h0 a "com/example/stops_to_routes/stopstoroutes/planner/Vehicle" "breaks" "Ljava/util/List;" .null) (F_start_a : Fld Z h0 a "com/example/stops_to_routes/stopstoroutes/planner/Vehicle" "start" "I" (.int (0 : Int32))) (F_end_a : Fld Z h0 a "com/example/stops_to_routes/stopstoroutes/planner/Vehicle" "end" "I" (.int (0 : Int32))) (F_shiftStart_a : Fld Z h0 a "com/example/stops_to_routes/stopstoroutes/planner/Vehicle" "shiftStart" "J" (.long (0 : Int64))) (F_shiftEnd_a : Fld Z h0 a "com/example/stops_to_routes/stopstoroutes/planner/Vehicle" "shiftEnd" "J" (.long (0 : Int64))) (F_capacity_a : Fld Z h0 a "com/example/stops_to_routes/stopstoroutes/planner/Vehicle" "capacity" "[J" .null) (g_a : n0 ≤ a) (V_ar : Arv Z h0 ar ka .long (1 : Int32) [vz] (.long (0 : Int64))) (E_ar : Exa Z h0 ar "[J") (hne : ar ≠ a) (S_EMPTY_SET : Sta Z Z.heap "java/util/ImmutableCollections" "EMPTY_SET" "Ljava/util/ImmutableCollections$SetN;" (.ref aS)) (S_EMPTY_LIST : Sta Z Z.heap "java/util/ImmutableCollections" "EMPTY_LIST" "Ljava/util/ImmutableCollections$ListN;" (.ref aL)) :
    MetFree l (⟨"com/example/stops_to_routes/stopstoroutes/planner/Vehicle", "<init>", "(IIJJ[J)V"⟩ : MethodName) (head1 (Jvm.Cond.code (⟨"com/example/stops_to_routes/stopstoroutes/planner/Vehicle", "<init>", "(IIJJ[J)V"⟩ : MethodName) prog_34_method_1_code 8 none :: ws) ({ frames := 1, cells := 1, slots := 1, locals := 15 } : Room)) (fun a_ U_ => a_ = #[(.ref a), (.int sa), (.int en), (.long x), (.long y), (.ref ar)] ∧ Z.Warmed39 U_.vm ∧ U_.heap = h0) (fun _ _ _ _ _ => True) (fun _ U_ o_ U'_ => ∃ v_ L_, o_ = .returned v_ ∧ QrmI Z a sa en x y ar ka vz aS aL h0 n0 v_ U'_.heap L_ ∧ FrameEnd U_ o_ U'_ L_ ({ frames := 1, cells := 1, slots := 1, locals := 15 } : Room).cells ({ frames := 1, cells := 1, slots := 1, locals := 15 } : Room).slots) := by
  refine MetFree.of_bodySF (plainFor_of_name pn_39) hisR ?_
  intro pg ee s mm args below meth cc s₁ Bd hml0 hP hK
  obtain ⟨rfl, hZ, hh⟩ := hP
  have hx := Bd.exec
  have hby := Bd.bytes
  have hml : cc.maxLocals = 8 := hml0
  have hown : s.vm.findClass "com/example/stops_to_routes/stopstoroutes/planner/Vehicle" = some mm.cls := findClass_of_methodNamed Bd.named
  have hnm := (name_of_methodNamed Bd.named Bd.method).1
  have X0 : Stand pg l ee ({ frames := 1, cells := 1, slots := 1, locals := 15 } : Room) s mm #[(.ref a), (.int sa), (.int en), (.long x), (.long y), (.ref ar)] below meth cc s₁ [] 0 0 := Stand.of_body Bd
  have e0 : s₁.heap = h0 := by rw [← hh, Bd.state]; rfl
  have N0 := Fr.nil n0
  have K0 : Keep h0 h0 ([a] : List Addr) := Keep.refl _ _
  have pre0 : ∀ t, Steps pg.tables ee below (s₁.setTop (mkF mm 0 #[.val (.ref a), .val (.int sa), .val (.int en), .val (.long x), .second, .val (.long y), .second, .val (.ref ar)] [])) t → Steps pg.tables ee below (s₁.setTop (entryFrame mm #[(.ref a), (.int sa), (.int en), (.long x), (.long y), (.ref ar)] 8)) t := fun t k => castTop (ef_1_40 mm a sa en x y ar) k
  obtain ⟨T1, X1, e1, st1⟩ := initO X0 hx hZ hown (hw _ (List.mem_of_getElem? (i := 7) rfl)) (hw _ (List.mem_of_getElem? (i := 8) rfl)) (hw _ (List.mem_of_getElem? (i := 9) rfl)) e0 (g := (mkF mm 1 #[.val (.ref a), .val (.int sa), .val (.int en), .val (.long x), .second, .val (.long y), .second, .val (.ref ar)] [(.ref a)])) rfl (by rw [hml]; rfl) rfl (hb hby d1_1) (by decide) (W := 0) (by show 2 * 0 + _ ≤ _; exact Nat.le_of_eq rfl) (by decide)
  obtain ⟨_, _, ⟨T2, L2, k2, n2⟩, -, X2, ⟨Lc2, hQ2, l2, y2, z2⟩, st2⟩ := Jvm.LawKit.callS X1 hx (y := (⟨"java/util/Set", "of", "()Ljava/util/Set;"⟩ : MethodName)) hown (mvT hZ (hw _ (List.mem_of_getElem? (i := 10) rfl))) (mvT hZ (hw _ (List.mem_of_getElem? (i := 11) rfl))) (mvT hZ (hw _ (List.mem_of_getElem? (i := 12) rfl))) (mvT hZ (hw _ (List.mem_of_getElem? (i := 13) rfl))) (by decide) (backOf (W := 1) (rmSet l Z a0 hw [] aS h0 n0 O0 S_EMPTY_SET) hZ (hw _ (List.mem_of_getElem? (i := 13) rfl)) (hw _ (List.mem_of_getElem? (i := 12) rfl)) (by decide) (by decide)) (g := (mkF mm 5 #[.val (.ref a), .val (.int sa), .val (.int en), .val (.long x), .second, .val (.long y), .second, .val (.ref ar)] [(.ref a)])) rfl (by rw [hml]; rfl) (argsL := []) (rest := [(.ref a)]) (lenOf pd_12 rfl) rfl (by show 2 * 0 + _ ≤ _; exact Nat.le_of_eq rfl) (hb hby d1_5) (fun _ _ => ⟨rfl, e1, (by decide : 0 + 0 ≤ _), (by decide : 0 + 0 ≤ _)⟩)
  dsimp only [Pt.U, Pt.locs, Pt.cells, Pt.slots] at X2 l2 y2 z2 st2 hQ2
  subst l2 y2 z2
  obtain ⟨rfl, N2q, e2⟩ := hQ2
  have N2 := Fr.app N0 N2q
  obtain ⟨T3, h3, X3, e3, W3, st3⟩ := putF X2 hx hZ hown (host := "") (Or.inl (hw _ (List.mem_of_getElem? (i := 16) rfl))) Via.refl e2 F_skills_a E_a (Or.inl (hw _ (List.mem_of_getElem? (i := 17) rfl))) (hw _ (List.mem_of_getElem? (i := 2) rfl)) (ty := (.object "java/util/Set")) (by decide) rfl rfl (g := (mkF mm 8 #[.val (.ref a), .val (.int sa), .val (.int en), .val (.long x), .second, .val (.long y), .second, .val (.ref ar)] [(.ref aS), (.ref a)])) rfl rfl (hb hby d1_8)
  have Fw3 : Fld Z h3 a "com/example/stops_to_routes/stopstoroutes/planner/Vehicle" "skills" "Ljava/util/Set;" (.ref aS) := F_skills_a.same W3
  have N3 := Fr.snoc X3 N2 g_a
  have O3 := O0.wr W3 g_a
  have KK3 := K0.wr W3 (Or.inl (by simp))
  obtain ⟨T4, h4, X4, e4, W4, st4⟩ := putF X3 hx hZ hown (host := "") (Or.inl (hw _ (List.mem_of_getElem? (i := 19) rfl))) Via.refl e3 (F_maxStops_a.other W3 (Or.inr (slot_ne (Or.inl (hw _ (List.mem_of_getElem? (i := 20) rfl))) (Or.inl (hw _ (List.mem_of_getElem? (i := 17) rfl))) (by decide) (t := .int) (t' := (.object "java/util/Set")) (by decide) (by decide)))) (E_a.wr W3) (Or.inl (hw _ (List.mem_of_getElem? (i := 20) rfl))) (hw _ (List.mem_of_getElem? (i := 2) rfl)) (ty := .int) (by decide) rfl rfl (g := (mkF mm 14 #[.val (.ref a), .val (.int sa), .val (.int en), .val (.long x), .second, .val (.long y), .second, .val (.ref ar)] [(.int (2147483647 : Int32)), (.ref a)])) rfl rfl (hb hby d1_14)
  have Fw4 : Fld Z h4 a "com/example/stops_to_routes/stopstoroutes/planner/Vehicle" "maxStops" "I" (.int (2147483647 : Int32)) := (F_maxStops_a.other W3 (Or.inr (slot_ne (Or.inl (hw _ (List.mem_of_getElem? (i := 20) rfl))) (Or.inl (hw _ (List.mem_of_getElem? (i := 17) rfl))) (by decide) (t := .int) (t' := (.object "java/util/Set")) (by decide) (by decide)))).same W4
  have N4 := Fr.snoc X4 N3 g_a
  have O4 := O3.wr W4 g_a
  have KK4 := KK3.wr W4 (Or.inl (by simp))
  obtain ⟨_, _, ⟨T5, L5, k5, n5⟩, -, X5, ⟨Lc5, hQ5, l5, y5, z5⟩, st5⟩ := Jvm.LawKit.callS X4 hx (y := (⟨"java/util/List", "of", "()Ljava/util/List;"⟩ : MethodName)) hown (mvT hZ (hw _ (List.mem_of_getElem? (i := 21) rfl))) (mvT hZ (hw _ (List.mem_of_getElem? (i := 22) rfl))) (mvT hZ (hw _ (List.mem_of_getElem? (i := 23) rfl))) (mvT hZ (hw _ (List.mem_of_getElem? (i := 24) rfl))) (by decide) (backOf (W := 1) (rmList l Z a0 hw [] aL h4 n0 O4 S_EMPTY_LIST) hZ (hw _ (List.mem_of_getElem? (i := 24) rfl)) (hw _ (List.mem_of_getElem? (i := 23) rfl)) (by decide) (by decide)) (g := (mkF mm 18 #[.val (.ref a), .val (.int sa), .val (.int en), .val (.long x), .second, .val (.long y), .second, .val (.ref ar)] [(.ref a)])) rfl (by rw [hml]; rfl) (argsL := []) (rest := [(.ref a)]) (lenOf pd_19 rfl) rfl (by show 2 * 0 + _ ≤ _; exact Nat.le_of_eq rfl) (hb hby d1_18) (fun _ _ => ⟨rfl, e4, (by decide : 0 + 0 ≤ _), (by decide : 0 + 0 ≤ _)⟩)
  dsimp only [Pt.U, Pt.locs, Pt.cells, Pt.slots] at X5 l5 y5 z5 st5 hQ5
  subst l5 y5 z5
  obtain ⟨rfl, N5q, e5⟩ := hQ5
  have N5 := Fr.app N4 N5q
  obtain ⟨T6, h6, X6, e6, W6, st6⟩ := putF X5 hx hZ hown (host := "") (Or.inl (hw _ (List.mem_of_getElem? (i := 26) rfl))) Via.refl e5 ((F_breaks_a.other W3 (Or.inr (slot_ne (Or.inl (hw _ (List.mem_of_getElem? (i := 27) rfl))) (Or.inl (hw _ (List.mem_of_getElem? (i := 17) rfl))) (by decide) (t := (.object "java/util/List")) (t' := (.object "java/util/Set")) (by decide) (by decide)))).other W4 (Or.inr (slot_ne (Or.inl (hw _ (List.mem_of_getElem? (i := 27) rfl))) (Or.inl (hw _ (List.mem_of_getElem? (i := 20) rfl))) (by decide) (t := (.object "java/util/List")) (t' := .int) (by decide) (by decide)))) ((E_a.wr W3).wr W4) (Or.inl (hw _ (List.mem_of_getElem? (i := 27) rfl))) (hw _ (List.mem_of_getElem? (i := 2) rfl)) (ty := (.object "java/util/List")) (by decide) rfl rfl (g := (mkF mm 21 #[.val (.ref a), .val (.int sa), .val (.int en), .val (.long x), .second, .val (.long y), .second, .val (.ref ar)] [(.ref aL), (.ref a)])) rfl rfl (hb hby d1_21)
  have Fw6 : Fld Z h6 a "com/example/stops_to_routes/stopstoroutes/planner/Vehicle" "breaks" "Ljava/util/List;" (.ref aL) := ((F_breaks_a.other W3 (Or.inr (slot_ne (Or.inl (hw _ (List.mem_of_getElem? (i := 27) rfl))) (Or.inl (hw _ (List.mem_of_getElem? (i := 17) rfl))) (by decide) (t := (.object "java/util/List")) (t' := (.object "java/util/Set")) (by decide) (by decide)))).other W4 (Or.inr (slot_ne (Or.inl (hw _ (List.mem_of_getElem? (i := 27) rfl))) (Or.inl (hw _ (List.mem_of_getElem? (i := 20) rfl))) (by decide) (t := (.object "java/util/List")) (t' := .int) (by decide) (by decide)))).same W6
  have N6 := Fr.snoc X6 N5 g_a
  have O6 := O4.wr W6 g_a
  have KK6 := KK4.wr W6 (Or.inl (by simp))
  obtain ⟨T7, h7, X7, e7, W7, st7⟩ := putF X6 hx hZ hown (host := "") (Or.inl (hw _ (List.mem_of_getElem? (i := 28) rfl))) Via.refl e6 (((F_start_a.other W3 (Or.inr (slot_ne (Or.inr (hw _ (List.mem_of_getElem? (i := 29) rfl))) (Or.inl (hw _ (List.mem_of_getElem? (i := 17) rfl))) (by decide) (t := .int) (t' := (.object "java/util/Set")) (by decide) (by decide)))).other W4 (Or.inr (slot_ne (Or.inr (hw _ (List.mem_of_getElem? (i := 29) rfl))) (Or.inl (hw _ (List.mem_of_getElem? (i := 20) rfl))) (by decide) (t := .int) (t' := .int) (by decide) (by decide)))).other W6 (Or.inr (slot_ne (Or.inr (hw _ (List.mem_of_getElem? (i := 29) rfl))) (Or.inl (hw _ (List.mem_of_getElem? (i := 27) rfl))) (by decide) (t := .int) (t' := (.object "java/util/List")) (by decide) (by decide)))) (((E_a.wr W3).wr W4).wr W6) (Or.inr ⟨(hw _ (List.mem_of_getElem? (i := 29) rfl)), rfl, hnm⟩) (hw _ (List.mem_of_getElem? (i := 2) rfl)) (ty := .int) (by decide) rfl rfl (g := (mkF mm 26 #[.val (.ref a), .val (.int sa), .val (.int en), .val (.long x), .second, .val (.long y), .second, .val (.ref ar)] [(.int sa), (.ref a)])) rfl rfl (hb hby d1_26)
  have Fw7 : Fld Z h7 a "com/example/stops_to_routes/stopstoroutes/planner/Vehicle" "start" "I" (.int sa) := (((F_start_a.other W3 (Or.inr (slot_ne (Or.inr (hw _ (List.mem_of_getElem? (i := 29) rfl))) (Or.inl (hw _ (List.mem_of_getElem? (i := 17) rfl))) (by decide) (t := .int) (t' := (.object "java/util/Set")) (by decide) (by decide)))).other W4 (Or.inr (slot_ne (Or.inr (hw _ (List.mem_of_getElem? (i := 29) rfl))) (Or.inl (hw _ (List.mem_of_getElem? (i := 20) rfl))) (by decide) (t := .int) (t' := .int) (by decide) (by decide)))).other W6 (Or.inr (slot_ne (Or.inr (hw _ (List.mem_of_getElem? (i := 29) rfl))) (Or.inl (hw _ (List.mem_of_getElem? (i := 27) rfl))) (by decide) (t := .int) (t' := (.object "java/util/List")) (by decide) (by decide)))).same W7
  have N7 := Fr.snoc X7 N6 g_a
  have O7 := O6.wr W7 g_a
  have KK7 := KK6.wr W7 (Or.inl (by simp))
  obtain ⟨T8, h8, X8, e8, W8, st8⟩ := putF X7 hx hZ hown (host := "") (Or.inl (hw _ (List.mem_of_getElem? (i := 30) rfl))) Via.refl e7 ((((F_end_a.other W3 (Or.inr (slot_ne (Or.inr (hw _ (List.mem_of_getElem? (i := 31) rfl))) (Or.inl (hw _ (List.mem_of_getElem? (i := 17) rfl))) (by decide) (t := .int) (t' := (.object "java/util/Set")) (by decide) (by decide)))).other W4 (Or.inr (slot_ne (Or.inr (hw _ (List.mem_of_getElem? (i := 31) rfl))) (Or.inl (hw _ (List.mem_of_getElem? (i := 20) rfl))) (by decide) (t := .int) (t' := .int) (by decide) (by decide)))).other W6 (Or.inr (slot_ne (Or.inr (hw _ (List.mem_of_getElem? (i := 31) rfl))) (Or.inl (hw _ (List.mem_of_getElem? (i := 27) rfl))) (by decide) (t := .int) (t' := (.object "java/util/List")) (by decide) (by decide)))).other W7 (Or.inr (slot_ne (Or.inr (hw _ (List.mem_of_getElem? (i := 31) rfl))) (Or.inr (hw _ (List.mem_of_getElem? (i := 29) rfl))) (by decide) (t := .int) (t' := .int) (by decide) (by decide)))) ((((E_a.wr W3).wr W4).wr W6).wr W7) (Or.inr ⟨(hw _ (List.mem_of_getElem? (i := 31) rfl)), rfl, hnm⟩) (hw _ (List.mem_of_getElem? (i := 2) rfl)) (ty := .int) (by decide) rfl rfl (g := (mkF mm 31 #[.val (.ref a), .val (.int sa), .val (.int en), .val (.long x), .second, .val (.long y), .second, .val (.ref ar)] [(.int en), (.ref a)])) rfl rfl (hb hby d1_31)
  have Fw8 : Fld Z h8 a "com/example/stops_to_routes/stopstoroutes/planner/Vehicle" "end" "I" (.int en) := ((((F_end_a.other W3 (Or.inr (slot_ne (Or.inr (hw _ (List.mem_of_getElem? (i := 31) rfl))) (Or.inl (hw _ (List.mem_of_getElem? (i := 17) rfl))) (by decide) (t := .int) (t' := (.object "java/util/Set")) (by decide) (by decide)))).other W4 (Or.inr (slot_ne (Or.inr (hw _ (List.mem_of_getElem? (i := 31) rfl))) (Or.inl (hw _ (List.mem_of_getElem? (i := 20) rfl))) (by decide) (t := .int) (t' := .int) (by decide) (by decide)))).other W6 (Or.inr (slot_ne (Or.inr (hw _ (List.mem_of_getElem? (i := 31) rfl))) (Or.inl (hw _ (List.mem_of_getElem? (i := 27) rfl))) (by decide) (t := .int) (t' := (.object "java/util/List")) (by decide) (by decide)))).other W7 (Or.inr (slot_ne (Or.inr (hw _ (List.mem_of_getElem? (i := 31) rfl))) (Or.inr (hw _ (List.mem_of_getElem? (i := 29) rfl))) (by decide) (t := .int) (t' := .int) (by decide) (by decide)))).same W8
  have N8 := Fr.snoc X8 N7 g_a
  have O8 := O7.wr W8 g_a
  have KK8 := KK7.wr W8 (Or.inl (by simp))
  obtain ⟨T9, h9, X9, e9, W9, st9⟩ := putF X8 hx hZ hown (host := "") (Or.inl (hw _ (List.mem_of_getElem? (i := 32) rfl))) Via.refl e8 (((((F_shiftStart_a.other W3 (Or.inr (slot_ne (Or.inr (hw _ (List.mem_of_getElem? (i := 33) rfl))) (Or.inl (hw _ (List.mem_of_getElem? (i := 17) rfl))) (by decide) (t := .long) (t' := (.object "java/util/Set")) (by decide) (by decide)))).other W4 (Or.inr (slot_ne (Or.inr (hw _ (List.mem_of_getElem? (i := 33) rfl))) (Or.inl (hw _ (List.mem_of_getElem? (i := 20) rfl))) (by decide) (t := .long) (t' := .int) (by decide) (by decide)))).other W6 (Or.inr (slot_ne (Or.inr (hw _ (List.mem_of_getElem? (i := 33) rfl))) (Or.inl (hw _ (List.mem_of_getElem? (i := 27) rfl))) (by decide) (t := .long) (t' := (.object "java/util/List")) (by decide) (by decide)))).other W7 (Or.inr (slot_ne (Or.inr (hw _ (List.mem_of_getElem? (i := 33) rfl))) (Or.inr (hw _ (List.mem_of_getElem? (i := 29) rfl))) (by decide) (t := .long) (t' := .int) (by decide) (by decide)))).other W8 (Or.inr (slot_ne (Or.inr (hw _ (List.mem_of_getElem? (i := 33) rfl))) (Or.inr (hw _ (List.mem_of_getElem? (i := 31) rfl))) (by decide) (t := .long) (t' := .int) (by decide) (by decide)))) (((((E_a.wr W3).wr W4).wr W6).wr W7).wr W8) (Or.inr ⟨(hw _ (List.mem_of_getElem? (i := 33) rfl)), rfl, hnm⟩) (hw _ (List.mem_of_getElem? (i := 2) rfl)) (ty := .long) (by decide) rfl rfl (g := (mkF mm 36 #[.val (.ref a), .val (.int sa), .val (.int en), .val (.long x), .second, .val (.long y), .second, .val (.ref ar)] [(.long x), (.ref a)])) rfl rfl (hb hby d1_36)
  have Fw9 : Fld Z h9 a "com/example/stops_to_routes/stopstoroutes/planner/Vehicle" "shiftStart" "J" (.long x) := (((((F_shiftStart_a.other W3 (Or.inr (slot_ne (Or.inr (hw _ (List.mem_of_getElem? (i := 33) rfl))) (Or.inl (hw _ (List.mem_of_getElem? (i := 17) rfl))) (by decide) (t := .long) (t' := (.object "java/util/Set")) (by decide) (by decide)))).other W4 (Or.inr (slot_ne (Or.inr (hw _ (List.mem_of_getElem? (i := 33) rfl))) (Or.inl (hw _ (List.mem_of_getElem? (i := 20) rfl))) (by decide) (t := .long) (t' := .int) (by decide) (by decide)))).other W6 (Or.inr (slot_ne (Or.inr (hw _ (List.mem_of_getElem? (i := 33) rfl))) (Or.inl (hw _ (List.mem_of_getElem? (i := 27) rfl))) (by decide) (t := .long) (t' := (.object "java/util/List")) (by decide) (by decide)))).other W7 (Or.inr (slot_ne (Or.inr (hw _ (List.mem_of_getElem? (i := 33) rfl))) (Or.inr (hw _ (List.mem_of_getElem? (i := 29) rfl))) (by decide) (t := .long) (t' := .int) (by decide) (by decide)))).other W8 (Or.inr (slot_ne (Or.inr (hw _ (List.mem_of_getElem? (i := 33) rfl))) (Or.inr (hw _ (List.mem_of_getElem? (i := 31) rfl))) (by decide) (t := .long) (t' := .int) (by decide) (by decide)))).same W9
  have N9 := Fr.snoc X9 N8 g_a
  have O9 := O8.wr W9 g_a
  have KK9 := KK8.wr W9 (Or.inl (by simp))
  obtain ⟨T10, h10, X10, e10, W10, st10⟩ := putF X9 hx hZ hown (host := "") (Or.inl (hw _ (List.mem_of_getElem? (i := 34) rfl))) Via.refl e9 ((((((F_shiftEnd_a.other W3 (Or.inr (slot_ne (Or.inr (hw _ (List.mem_of_getElem? (i := 35) rfl))) (Or.inl (hw _ (List.mem_of_getElem? (i := 17) rfl))) (by decide) (t := .long) (t' := (.object "java/util/Set")) (by decide) (by decide)))).other W4 (Or.inr (slot_ne (Or.inr (hw _ (List.mem_of_getElem? (i := 35) rfl))) (Or.inl (hw _ (List.mem_of_getElem? (i := 20) rfl))) (by decide) (t := .long) (t' := .int) (by decide) (by decide)))).other W6 (Or.inr (slot_ne (Or.inr (hw _ (List.mem_of_getElem? (i := 35) rfl))) (Or.inl (hw _ (List.mem_of_getElem? (i := 27) rfl))) (by decide) (t := .long) (t' := (.object "java/util/List")) (by decide) (by decide)))).other W7 (Or.inr (slot_ne (Or.inr (hw _ (List.mem_of_getElem? (i := 35) rfl))) (Or.inr (hw _ (List.mem_of_getElem? (i := 29) rfl))) (by decide) (t := .long) (t' := .int) (by decide) (by decide)))).other W8 (Or.inr (slot_ne (Or.inr (hw _ (List.mem_of_getElem? (i := 35) rfl))) (Or.inr (hw _ (List.mem_of_getElem? (i := 31) rfl))) (by decide) (t := .long) (t' := .int) (by decide) (by decide)))).other W9 (Or.inr (slot_ne (Or.inr (hw _ (List.mem_of_getElem? (i := 35) rfl))) (Or.inr (hw _ (List.mem_of_getElem? (i := 33) rfl))) (by decide) (t := .long) (t' := .long) (by decide) (by decide)))) ((((((E_a.wr W3).wr W4).wr W6).wr W7).wr W8).wr W9) (Or.inr ⟨(hw _ (List.mem_of_getElem? (i := 35) rfl)), rfl, hnm⟩) (hw _ (List.mem_of_getElem? (i := 2) rfl)) (ty := .long) (by decide) rfl rfl (g := (mkF mm 42 #[.val (.ref a), .val (.int sa), .val (.int en), .val (.long x), .second, .val (.long y), .second, .val (.ref ar)] [(.long y), (.ref a)])) rfl rfl (hb hby d1_42)
  have Fw10 : Fld Z h10 a "com/example/stops_to_routes/stopstoroutes/planner/Vehicle" "shiftEnd" "J" (.long y) := ((((((F_shiftEnd_a.other W3 (Or.inr (slot_ne (Or.inr (hw _ (List.mem_of_getElem? (i := 35) rfl))) (Or.inl (hw _ (List.mem_of_getElem? (i := 17) rfl))) (by decide) (t := .long) (t' := (.object "java/util/Set")) (by decide) (by decide)))).other W4 (Or.inr (slot_ne (Or.inr (hw _ (List.mem_of_getElem? (i := 35) rfl))) (Or.inl (hw _ (List.mem_of_getElem? (i := 20) rfl))) (by decide) (t := .long) (t' := .int) (by decide) (by decide)))).other W6 (Or.inr (slot_ne (Or.inr (hw _ (List.mem_of_getElem? (i := 35) rfl))) (Or.inl (hw _ (List.mem_of_getElem? (i := 27) rfl))) (by decide) (t := .long) (t' := (.object "java/util/List")) (by decide) (by decide)))).other W7 (Or.inr (slot_ne (Or.inr (hw _ (List.mem_of_getElem? (i := 35) rfl))) (Or.inr (hw _ (List.mem_of_getElem? (i := 29) rfl))) (by decide) (t := .long) (t' := .int) (by decide) (by decide)))).other W8 (Or.inr (slot_ne (Or.inr (hw _ (List.mem_of_getElem? (i := 35) rfl))) (Or.inr (hw _ (List.mem_of_getElem? (i := 31) rfl))) (by decide) (t := .long) (t' := .int) (by decide) (by decide)))).other W9 (Or.inr (slot_ne (Or.inr (hw _ (List.mem_of_getElem? (i := 35) rfl))) (Or.inr (hw _ (List.mem_of_getElem? (i := 33) rfl))) (by decide) (t := .long) (t' := .long) (by decide) (by decide)))).same W10
  have N10 := Fr.snoc X10 N9 g_a
  have O10 := O9.wr W10 g_a
  have KK10 := KK9.wr W10 (Or.inl (by simp))
  obtain ⟨T11, h11, X11, e11, E11, A11, Ex11, st11⟩ := cloneH X10 hx hZ hown (hw _ (List.mem_of_getElem? (i := 36) rfl)) (hw _ (List.mem_of_getElem? (i := 37) rfl)) (hw _ (List.mem_of_getElem? (i := 41) rfl)) (hw _ (List.mem_of_getElem? (i := 39) rfl)) (hw _ (List.mem_of_getElem? (i := 40) rfl)) (hw _ (List.mem_of_getElem? (i := 42) rfl)) e10 (Arv.arh (((((((V_ar.other W3 hne).other W4 hne).other W6 hne).other W7 hne).other W8 hne).other W9 hne).other W10 hne)) (((((((E_ar.wr W3).wr W4).wr W6).wr W7).wr W8).wr W9).wr W10) (g := (mkF mm 48 #[.val (.ref a), .val (.int sa), .val (.int en), .val (.long x), .second, .val (.long y), .second, .val (.ref ar)] [(.ref ar), (.ref a)])) rfl (by rw [hml]; rfl) rfl (hb hby d1_48) (by decide) (W := 1) (cap := 1) (by show 2 * 0 + _ ≤ _; exact Nat.le_of_eq rfl) (by decide) (by decide) (by decide) (by decide)
  obtain ⟨b11, g11⟩ : ∃ z, z = h10.size := ⟨_, rfl⟩
  rw [← g11] at A11 Ex11 st11
  have g_b11 : n0 ≤ b11 := Nat.le_trans (O10.1 ▸ O10.2.1) (Nat.le_of_eq g11.symm)
  have sz_b11 : h0.size ≤ b11 := Nat.le_trans KK10.1 (Nat.le_of_eq g11.symm)
  have O11 := O10.ext E11
  have KK11 := KK10.ext E11
  have V11 : Arv Z h11 b11 ka .long (1 : Int32) [vz] (.long (0 : Int64)) := A11
  obtain ⟨T12, X12, e12, st12⟩ := castY X11 hx hZ hown (hw _ (List.mem_of_getElem? (i := 43) rfl)) e11 (Ins.self Ex11) (g := (mkF mm 51 #[.val (.ref a), .val (.int sa), .val (.int en), .val (.long x), .second, .val (.long y), .second, .val (.ref ar)] [(.ref b11), (.ref a)])) rfl rfl (hb hby d1_51)
  obtain ⟨T13, h13, X13, e13, W13, st13⟩ := putF X12 hx hZ hown (host := "") (Or.inl (hw _ (List.mem_of_getElem? (i := 45) rfl))) Via.refl e12 ((((((((F_capacity_a.other W3 (Or.inr (slot_ne (Or.inr (hw _ (List.mem_of_getElem? (i := 46) rfl))) (Or.inl (hw _ (List.mem_of_getElem? (i := 17) rfl))) (by decide) (t := (.array .long)) (t' := (.object "java/util/Set")) (by decide) (by decide)))).other W4 (Or.inr (slot_ne (Or.inr (hw _ (List.mem_of_getElem? (i := 46) rfl))) (Or.inl (hw _ (List.mem_of_getElem? (i := 20) rfl))) (by decide) (t := (.array .long)) (t' := .int) (by decide) (by decide)))).other W6 (Or.inr (slot_ne (Or.inr (hw _ (List.mem_of_getElem? (i := 46) rfl))) (Or.inl (hw _ (List.mem_of_getElem? (i := 27) rfl))) (by decide) (t := (.array .long)) (t' := (.object "java/util/List")) (by decide) (by decide)))).other W7 (Or.inr (slot_ne (Or.inr (hw _ (List.mem_of_getElem? (i := 46) rfl))) (Or.inr (hw _ (List.mem_of_getElem? (i := 29) rfl))) (by decide) (t := (.array .long)) (t' := .int) (by decide) (by decide)))).other W8 (Or.inr (slot_ne (Or.inr (hw _ (List.mem_of_getElem? (i := 46) rfl))) (Or.inr (hw _ (List.mem_of_getElem? (i := 31) rfl))) (by decide) (t := (.array .long)) (t' := .int) (by decide) (by decide)))).other W9 (Or.inr (slot_ne (Or.inr (hw _ (List.mem_of_getElem? (i := 46) rfl))) (Or.inr (hw _ (List.mem_of_getElem? (i := 33) rfl))) (by decide) (t := (.array .long)) (t' := .long) (by decide) (by decide)))).other W10 (Or.inr (slot_ne (Or.inr (hw _ (List.mem_of_getElem? (i := 46) rfl))) (Or.inr (hw _ (List.mem_of_getElem? (i := 35) rfl))) (by decide) (t := (.array .long)) (t' := .long) (by decide) (by decide)))).ext E11) ((((((((E_a.wr W3).wr W4).wr W6).wr W7).wr W8).wr W9).wr W10).ext E11) (Or.inr ⟨(hw _ (List.mem_of_getElem? (i := 46) rfl)), rfl, hnm⟩) (hw _ (List.mem_of_getElem? (i := 2) rfl)) (ty := (.array .long)) (by decide) rfl rfl (g := (mkF mm 54 #[.val (.ref a), .val (.int sa), .val (.int en), .val (.long x), .second, .val (.long y), .second, .val (.ref ar)] [(.ref b11), (.ref a)])) rfl rfl (hb hby d1_54)
  have Fw13 : Fld Z h13 a "com/example/stops_to_routes/stopstoroutes/planner/Vehicle" "capacity" "[J" (.ref b11) := ((((((((F_capacity_a.other W3 (Or.inr (slot_ne (Or.inr (hw _ (List.mem_of_getElem? (i := 46) rfl))) (Or.inl (hw _ (List.mem_of_getElem? (i := 17) rfl))) (by decide) (t := (.array .long)) (t' := (.object "java/util/Set")) (by decide) (by decide)))).other W4 (Or.inr (slot_ne (Or.inr (hw _ (List.mem_of_getElem? (i := 46) rfl))) (Or.inl (hw _ (List.mem_of_getElem? (i := 20) rfl))) (by decide) (t := (.array .long)) (t' := .int) (by decide) (by decide)))).other W6 (Or.inr (slot_ne (Or.inr (hw _ (List.mem_of_getElem? (i := 46) rfl))) (Or.inl (hw _ (List.mem_of_getElem? (i := 27) rfl))) (by decide) (t := (.array .long)) (t' := (.object "java/util/List")) (by decide) (by decide)))).other W7 (Or.inr (slot_ne (Or.inr (hw _ (List.mem_of_getElem? (i := 46) rfl))) (Or.inr (hw _ (List.mem_of_getElem? (i := 29) rfl))) (by decide) (t := (.array .long)) (t' := .int) (by decide) (by decide)))).other W8 (Or.inr (slot_ne (Or.inr (hw _ (List.mem_of_getElem? (i := 46) rfl))) (Or.inr (hw _ (List.mem_of_getElem? (i := 31) rfl))) (by decide) (t := (.array .long)) (t' := .int) (by decide) (by decide)))).other W9 (Or.inr (slot_ne (Or.inr (hw _ (List.mem_of_getElem? (i := 46) rfl))) (Or.inr (hw _ (List.mem_of_getElem? (i := 33) rfl))) (by decide) (t := (.array .long)) (t' := .long) (by decide) (by decide)))).other W10 (Or.inr (slot_ne (Or.inr (hw _ (List.mem_of_getElem? (i := 46) rfl))) (Or.inr (hw _ (List.mem_of_getElem? (i := 35) rfl))) (by decide) (t := (.array .long)) (t' := .long) (by decide) (by decide)))).ext E11).same W13
  have N13 := Fr.snoc X13 N10 g_a
  have O13 := O11.wr W13 g_a
  have KK13 := KK11.wr W13 (Or.inl (by simp))
  obtain ⟨fs, hr, hrun, hended, hW, hsame⟩ := X13.leave (v := none) (fun _ => rfl)
  refine ⟨_, _, pre0 _ ?_, hrun, hended, _, _, rfl, ?_, ⟨_, rfl⟩, hW, hsame.mono (by decide) (by decide)⟩
  · show Steps pg.tables ee below (s₁.setTop (mkF mm 0 #[.val (.ref a), .val (.int sa), .val (.int en), .val (.long x), .second, .val (.long y), .second, .val (.ref ar)] [])) _
    refine XS.aloadN X0.here hx rfl (hb hby d1_0) rfl rfl ?_
    show Steps pg.tables ee below (s₁.setTop (mkF mm 1 #[.val (.ref a), .val (.int sa), .val (.int en), .val (.long x), .second, .val (.long y), .second, .val (.ref ar)] [(.ref a)])) _
    refine st1 _ ?_
    show Steps pg.tables ee below (T1.setTop (mkF mm 4 #[.val (.ref a), .val (.int sa), .val (.int en), .val (.long x), .second, .val (.long y), .second, .val (.ref ar)] [])) _
    refine XS.aloadN X1.here hx rfl (hb hby d1_4) rfl rfl ?_
    show Steps pg.tables ee below (T1.setTop (mkF mm 5 #[.val (.ref a), .val (.int sa), .val (.int en), .val (.long x), .second, .val (.long y), .second, .val (.ref ar)] [(.ref a)])) _
    refine st2 _ ?_
    show Steps pg.tables ee below (T2.setTop (mkF mm 8 #[.val (.ref a), .val (.int sa), .val (.int en), .val (.long x), .second, .val (.long y), .second, .val (.ref ar)] [(.ref aS), (.ref a)])) _
    refine st3 _ ?_
    show Steps pg.tables ee below (T3.setTop (mkF mm 11 #[.val (.ref a), .val (.int sa), .val (.int en), .val (.long x), .second, .val (.long y), .second, .val (.ref ar)] [])) _
    refine XS.aloadN X3.here hx rfl (hb hby d1_11) rfl rfl ?_
    show Steps pg.tables ee below (T3.setTop (mkF mm 12 #[.val (.ref a), .val (.int sa), .val (.int en), .val (.long x), .second, .val (.long y), .second, .val (.ref ar)] [(.ref a)])) _
    refine X3.ldcInt hx hown (mvT hZ (hw _ (List.mem_of_getElem? (i := 18) rfl))) (g := (mkF mm 12 #[.val (.ref a), .val (.int sa), .val (.int en), .val (.long x), .second, .val (.long y), .second, .val (.ref ar)] [(.ref a)])) rfl (hb hby d1_12) _ ?_
    show Steps pg.tables ee below (T3.setTop (mkF mm 14 #[.val (.ref a), .val (.int sa), .val (.int en), .val (.long x), .second, .val (.long y), .second, .val (.ref ar)] [(.int (2147483647 : Int32)), (.ref a)])) _
    refine st4 _ ?_
    show Steps pg.tables ee below (T4.setTop (mkF mm 17 #[.val (.ref a), .val (.int sa), .val (.int en), .val (.long x), .second, .val (.long y), .second, .val (.ref ar)] [])) _
    refine XS.aloadN X4.here hx rfl (hb hby d1_17) rfl rfl ?_
    show Steps pg.tables ee below (T4.setTop (mkF mm 18 #[.val (.ref a), .val (.int sa), .val (.int en), .val (.long x), .second, .val (.long y), .second, .val (.ref ar)] [(.ref a)])) _
    refine st5 _ ?_
    show Steps pg.tables ee below (T5.setTop (mkF mm 21 #[.val (.ref a), .val (.int sa), .val (.int en), .val (.long x), .second, .val (.long y), .second, .val (.ref ar)] [(.ref aL), (.ref a)])) _
    refine st6 _ ?_
    show Steps pg.tables ee below (T6.setTop (mkF mm 24 #[.val (.ref a), .val (.int sa), .val (.int en), .val (.long x), .second, .val (.long y), .second, .val (.ref ar)] [])) _
    refine XS.aloadN X6.here hx rfl (hb hby d1_24) rfl rfl ?_
    show Steps pg.tables ee below (T6.setTop (mkF mm 25 #[.val (.ref a), .val (.int sa), .val (.int en), .val (.long x), .second, .val (.long y), .second, .val (.ref ar)] [(.ref a)])) _
    refine XS.iloadN X6.here hx rfl (hb hby d1_25) rfl ?_
    show Steps pg.tables ee below (T6.setTop (mkF mm 26 #[.val (.ref a), .val (.int sa), .val (.int en), .val (.long x), .second, .val (.long y), .second, .val (.ref ar)] [(.int sa), (.ref a)])) _
    refine st7 _ ?_
    show Steps pg.tables ee below (T7.setTop (mkF mm 29 #[.val (.ref a), .val (.int sa), .val (.int en), .val (.long x), .second, .val (.long y), .second, .val (.ref ar)] [])) _
    refine XS.aloadN X7.here hx rfl (hb hby d1_29) rfl rfl ?_
    show Steps pg.tables ee below (T7.setTop (mkF mm 30 #[.val (.ref a), .val (.int sa), .val (.int en), .val (.long x), .second, .val (.long y), .second, .val (.ref ar)] [(.ref a)])) _
    refine XS.iloadN X7.here hx rfl (hb hby d1_30) rfl ?_
    show Steps pg.tables ee below (T7.setTop (mkF mm 31 #[.val (.ref a), .val (.int sa), .val (.int en), .val (.long x), .second, .val (.long y), .second, .val (.ref ar)] [(.int en), (.ref a)])) _
    refine st8 _ ?_
    show Steps pg.tables ee below (T8.setTop (mkF mm 34 #[.val (.ref a), .val (.int sa), .val (.int en), .val (.long x), .second, .val (.long y), .second, .val (.ref ar)] [])) _
    refine XS.aloadN X8.here hx rfl (hb hby d1_34) rfl rfl ?_
    show Steps pg.tables ee below (T8.setTop (mkF mm 35 #[.val (.ref a), .val (.int sa), .val (.int en), .val (.long x), .second, .val (.long y), .second, .val (.ref ar)] [(.ref a)])) _
    refine XS.lloadN X8.here hx rfl (hb hby d1_35) rfl ?_
    show Steps pg.tables ee below (T8.setTop (mkF mm 36 #[.val (.ref a), .val (.int sa), .val (.int en), .val (.long x), .second, .val (.long y), .second, .val (.ref ar)] [(.long x), (.ref a)])) _
    refine st9 _ ?_
    show Steps pg.tables ee below (T9.setTop (mkF mm 39 #[.val (.ref a), .val (.int sa), .val (.int en), .val (.long x), .second, .val (.long y), .second, .val (.ref ar)] [])) _
    refine XS.aloadN X9.here hx rfl (hb hby d1_39) rfl rfl ?_
    show Steps pg.tables ee below (T9.setTop (mkF mm 40 #[.val (.ref a), .val (.int sa), .val (.int en), .val (.long x), .second, .val (.long y), .second, .val (.ref ar)] [(.ref a)])) _
    refine XS.lload X9.here hx rfl (hb hby d1_40) rfl ?_
    show Steps pg.tables ee below (T9.setTop (mkF mm 42 #[.val (.ref a), .val (.int sa), .val (.int en), .val (.long x), .second, .val (.long y), .second, .val (.ref ar)] [(.long y), (.ref a)])) _
    refine st10 _ ?_
    show Steps pg.tables ee below (T10.setTop (mkF mm 45 #[.val (.ref a), .val (.int sa), .val (.int en), .val (.long x), .second, .val (.long y), .second, .val (.ref ar)] [])) _
    refine XS.aloadN X10.here hx rfl (hb hby d1_45) rfl rfl ?_
    show Steps pg.tables ee below (T10.setTop (mkF mm 46 #[.val (.ref a), .val (.int sa), .val (.int en), .val (.long x), .second, .val (.long y), .second, .val (.ref ar)] [(.ref a)])) _
    refine XS.aload X10.here hx rfl (hb hby d1_46) rfl rfl ?_
    show Steps pg.tables ee below (T10.setTop (mkF mm 48 #[.val (.ref a), .val (.int sa), .val (.int en), .val (.long x), .second, .val (.long y), .second, .val (.ref ar)] [(.ref ar), (.ref a)])) _
    refine st11 _ ?_
    show Steps pg.tables ee below (T11.setTop (mkF mm 51 #[.val (.ref a), .val (.int sa), .val (.int en), .val (.long x), .second, .val (.long y), .second, .val (.ref ar)] [(.ref b11), (.ref a)])) _
    refine st12 _ ?_
    show Steps pg.tables ee below (T12.setTop (mkF mm 54 #[.val (.ref a), .val (.int sa), .val (.int en), .val (.long x), .second, .val (.long y), .second, .val (.ref ar)] [(.ref b11), (.ref a)])) _
    refine st13 _ ?_
    show Steps pg.tables ee below (T13.setTop (mkF mm 57 #[.val (.ref a), .val (.int sa), .val (.int en), .val (.long x), .second, .val (.long y), .second, .val (.ref ar)] [])) _
    exact X13.returnOut hx Bd.returns (hb hby d1_57) hr
  · show QrmI Z a sa en x y ar ka vz aS aL h0 n0 _ T13.heap _
    rw [e13]
    exact ⟨rfl, N13, KK13, _, (((((((((E_a.wr W3).wr W4).wr W6).wr W7).wr W8).wr W9).wr W10).ext E11).wr W13), ((((((((Fw3.other W4 (Or.inr (slot_ne (Or.inl (hw _ (List.mem_of_getElem? (i := 17) rfl))) (Or.inl (hw _ (List.mem_of_getElem? (i := 20) rfl))) (by decide) (t := (.object "java/util/Set")) (t' := .int) (by decide) (by decide)))).other W6 (Or.inr (slot_ne (Or.inl (hw _ (List.mem_of_getElem? (i := 17) rfl))) (Or.inl (hw _ (List.mem_of_getElem? (i := 27) rfl))) (by decide) (t := (.object "java/util/Set")) (t' := (.object "java/util/List")) (by decide) (by decide)))).other W7 (Or.inr (slot_ne (Or.inl (hw _ (List.mem_of_getElem? (i := 17) rfl))) (Or.inr (hw _ (List.mem_of_getElem? (i := 29) rfl))) (by decide) (t := (.object "java/util/Set")) (t' := .int) (by decide) (by decide)))).other W8 (Or.inr (slot_ne (Or.inl (hw _ (List.mem_of_getElem? (i := 17) rfl))) (Or.inr (hw _ (List.mem_of_getElem? (i := 31) rfl))) (by decide) (t := (.object "java/util/Set")) (t' := .int) (by decide) (by decide)))).other W9 (Or.inr (slot_ne (Or.inl (hw _ (List.mem_of_getElem? (i := 17) rfl))) (Or.inr (hw _ (List.mem_of_getElem? (i := 33) rfl))) (by decide) (t := (.object "java/util/Set")) (t' := .long) (by decide) (by decide)))).other W10 (Or.inr (slot_ne (Or.inl (hw _ (List.mem_of_getElem? (i := 17) rfl))) (Or.inr (hw _ (List.mem_of_getElem? (i := 35) rfl))) (by decide) (t := (.object "java/util/Set")) (t' := .long) (by decide) (by decide)))).ext E11).other W13 (Or.inr (slot_ne (Or.inl (hw _ (List.mem_of_getElem? (i := 17) rfl))) (Or.inr (hw _ (List.mem_of_getElem? (i := 46) rfl))) (by decide) (t := (.object "java/util/Set")) (t' := (.array .long)) (by decide) (by decide)))), (((((((Fw4.other W6 (Or.inr (slot_ne (Or.inl (hw _ (List.mem_of_getElem? (i := 20) rfl))) (Or.inl (hw _ (List.mem_of_getElem? (i := 27) rfl))) (by decide) (t := .int) (t' := (.object "java/util/List")) (by decide) (by decide)))).other W7 (Or.inr (slot_ne (Or.inl (hw _ (List.mem_of_getElem? (i := 20) rfl))) (Or.inr (hw _ (List.mem_of_getElem? (i := 29) rfl))) (by decide) (t := .int) (t' := .int) (by decide) (by decide)))).other W8 (Or.inr (slot_ne (Or.inl (hw _ (List.mem_of_getElem? (i := 20) rfl))) (Or.inr (hw _ (List.mem_of_getElem? (i := 31) rfl))) (by decide) (t := .int) (t' := .int) (by decide) (by decide)))).other W9 (Or.inr (slot_ne (Or.inl (hw _ (List.mem_of_getElem? (i := 20) rfl))) (Or.inr (hw _ (List.mem_of_getElem? (i := 33) rfl))) (by decide) (t := .int) (t' := .long) (by decide) (by decide)))).other W10 (Or.inr (slot_ne (Or.inl (hw _ (List.mem_of_getElem? (i := 20) rfl))) (Or.inr (hw _ (List.mem_of_getElem? (i := 35) rfl))) (by decide) (t := .int) (t' := .long) (by decide) (by decide)))).ext E11).other W13 (Or.inr (slot_ne (Or.inl (hw _ (List.mem_of_getElem? (i := 20) rfl))) (Or.inr (hw _ (List.mem_of_getElem? (i := 46) rfl))) (by decide) (t := .int) (t' := (.array .long)) (by decide) (by decide)))), ((((((Fw6.other W7 (Or.inr (slot_ne (Or.inl (hw _ (List.mem_of_getElem? (i := 27) rfl))) (Or.inr (hw _ (List.mem_of_getElem? (i := 29) rfl))) (by decide) (t := (.object "java/util/List")) (t' := .int) (by decide) (by decide)))).other W8 (Or.inr (slot_ne (Or.inl (hw _ (List.mem_of_getElem? (i := 27) rfl))) (Or.inr (hw _ (List.mem_of_getElem? (i := 31) rfl))) (by decide) (t := (.object "java/util/List")) (t' := .int) (by decide) (by decide)))).other W9 (Or.inr (slot_ne (Or.inl (hw _ (List.mem_of_getElem? (i := 27) rfl))) (Or.inr (hw _ (List.mem_of_getElem? (i := 33) rfl))) (by decide) (t := (.object "java/util/List")) (t' := .long) (by decide) (by decide)))).other W10 (Or.inr (slot_ne (Or.inl (hw _ (List.mem_of_getElem? (i := 27) rfl))) (Or.inr (hw _ (List.mem_of_getElem? (i := 35) rfl))) (by decide) (t := (.object "java/util/List")) (t' := .long) (by decide) (by decide)))).ext E11).other W13 (Or.inr (slot_ne (Or.inl (hw _ (List.mem_of_getElem? (i := 27) rfl))) (Or.inr (hw _ (List.mem_of_getElem? (i := 46) rfl))) (by decide) (t := (.object "java/util/List")) (t' := (.array .long)) (by decide) (by decide)))), (((((Fw7.other W8 (Or.inr (slot_ne (Or.inr (hw _ (List.mem_of_getElem? (i := 29) rfl))) (Or.inr (hw _ (List.mem_of_getElem? (i := 31) rfl))) (by decide) (t := .int) (t' := .int) (by decide) (by decide)))).other W9 (Or.inr (slot_ne (Or.inr (hw _ (List.mem_of_getElem? (i := 29) rfl))) (Or.inr (hw _ (List.mem_of_getElem? (i := 33) rfl))) (by decide) (t := .int) (t' := .long) (by decide) (by decide)))).other W10 (Or.inr (slot_ne (Or.inr (hw _ (List.mem_of_getElem? (i := 29) rfl))) (Or.inr (hw _ (List.mem_of_getElem? (i := 35) rfl))) (by decide) (t := .int) (t' := .long) (by decide) (by decide)))).ext E11).other W13 (Or.inr (slot_ne (Or.inr (hw _ (List.mem_of_getElem? (i := 29) rfl))) (Or.inr (hw _ (List.mem_of_getElem? (i := 46) rfl))) (by decide) (t := .int) (t' := (.array .long)) (by decide) (by decide)))), ((((Fw8.other W9 (Or.inr (slot_ne (Or.inr (hw _ (List.mem_of_getElem? (i := 31) rfl))) (Or.inr (hw _ (List.mem_of_getElem? (i := 33) rfl))) (by decide) (t := .int) (t' := .long) (by decide) (by decide)))).other W10 (Or.inr (slot_ne (Or.inr (hw _ (List.mem_of_getElem? (i := 31) rfl))) (Or.inr (hw _ (List.mem_of_getElem? (i := 35) rfl))) (by decide) (t := .int) (t' := .long) (by decide) (by decide)))).ext E11).other W13 (Or.inr (slot_ne (Or.inr (hw _ (List.mem_of_getElem? (i := 31) rfl))) (Or.inr (hw _ (List.mem_of_getElem? (i := 46) rfl))) (by decide) (t := .int) (t' := (.array .long)) (by decide) (by decide)))), (((Fw9.other W10 (Or.inr (slot_ne (Or.inr (hw _ (List.mem_of_getElem? (i := 33) rfl))) (Or.inr (hw _ (List.mem_of_getElem? (i := 35) rfl))) (by decide) (t := .long) (t' := .long) (by decide) (by decide)))).ext E11).other W13 (Or.inr (slot_ne (Or.inr (hw _ (List.mem_of_getElem? (i := 33) rfl))) (Or.inr (hw _ (List.mem_of_getElem? (i := 46) rfl))) (by decide) (t := .long) (t' := (.array .long)) (by decide) (by decide)))), ((Fw10.ext E11).other W13 (Or.inr (slot_ne (Or.inr (hw _ (List.mem_of_getElem? (i := 35) rfl))) (Or.inr (hw _ (List.mem_of_getElem? (i := 46) rfl))) (by decide) (t := .long) (t' := (.array .long)) (by decide) (by decide)))), Fw13⟩
theorem d7_0 : decode prog_34_method_2_code 0 = .ok (.aload_n 0, 1) := by decide +kernel
theorem d7_1 : decode prog_34_method_2_code 1 = .ok (.invokespecial 3, 3) := by decide +kernel
theorem d7_4 : decode prog_34_method_2_code 4 = .ok (.aload_n 0, 1) := by decide +kernel
theorem d7_5 : decode prog_34_method_2_code 5 = .ok (.invokestatic 9, 3) := by decide +kernel
theorem d7_8 : decode prog_34_method_2_code 8 = .ok (.putfield 15, 3) := by decide +kernel
theorem d7_11 : decode prog_34_method_2_code 11 = .ok (.aload_n 0, 1) := by decide +kernel
theorem d7_12 : decode prog_34_method_2_code 12 = .ok (.ldc 21, 2) := by decide +kernel
theorem d7_14 : decode prog_34_method_2_code 14 = .ok (.putfield 22, 3) := by decide +kernel
theorem d7_17 : decode prog_34_method_2_code 17 = .ok (.aload_n 0, 1) := by decide +kernel
theorem d7_18 : decode prog_34_method_2_code 18 = .ok (.invokestatic 26, 3) := by decide +kernel
theorem d7_21 : decode prog_34_method_2_code 21 = .ok (.putfield 31, 3) := by decide +kernel
theorem d7_24 : decode prog_34_method_2_code 24 = .ok (.aload_n 0, 1) := by decide +kernel
theorem d7_25 : decode prog_34_method_2_code 25 = .ok (.aload_n 1, 1) := by decide +kernel
theorem d7_26 : decode prog_34_method_2_code 26 = .ok (.getfield 35, 3) := by decide +kernel
theorem d7_29 : decode prog_34_method_2_code 29 = .ok (.putfield 35, 3) := by decide +kernel
theorem d7_32 : decode prog_34_method_2_code 32 = .ok (.aload_n 0, 1) := by decide +kernel
theorem d7_33 : decode prog_34_method_2_code 33 = .ok (.aload_n 1, 1) := by decide +kernel
theorem d7_34 : decode prog_34_method_2_code 34 = .ok (.getfield 38, 3) := by decide +kernel
theorem d7_37 : decode prog_34_method_2_code 37 = .ok (.putfield 38, 3) := by decide +kernel
theorem d7_40 : decode prog_34_method_2_code 40 = .ok (.aload_n 0, 1) := by decide +kernel
theorem d7_41 : decode prog_34_method_2_code 41 = .ok (.aload_n 1, 1) := by decide +kernel
theorem d7_42 : decode prog_34_method_2_code 42 = .ok (.getfield 41, 3) := by decide +kernel
theorem d7_45 : decode prog_34_method_2_code 45 = .ok (.putfield 41, 3) := by decide +kernel
theorem d7_48 : decode prog_34_method_2_code 48 = .ok (.aload_n 0, 1) := by decide +kernel
theorem d7_49 : decode prog_34_method_2_code 49 = .ok (.aload_n 1, 1) := by decide +kernel
theorem d7_50 : decode prog_34_method_2_code 50 = .ok (.getfield 45, 3) := by decide +kernel
theorem d7_53 : decode prog_34_method_2_code 53 = .ok (.putfield 45, 3) := by decide +kernel
theorem d7_56 : decode prog_34_method_2_code 56 = .ok (.aload_n 0, 1) := by decide +kernel
theorem d7_57 : decode prog_34_method_2_code 57 = .ok (.aload_n 1, 1) := by decide +kernel
theorem d7_58 : decode prog_34_method_2_code 58 = .ok (.getfield 54, 3) := by decide +kernel
theorem d7_61 : decode prog_34_method_2_code 61 = .ok (.putfield 54, 3) := by decide +kernel
theorem d7_64 : decode prog_34_method_2_code 64 = .ok (.aload_n 0, 1) := by decide +kernel
theorem d7_65 : decode prog_34_method_2_code 65 = .ok (.aload_n 1, 1) := by decide +kernel
theorem d7_66 : decode prog_34_method_2_code 66 = .ok (.getfield 15, 3) := by decide +kernel
theorem d7_69 : decode prog_34_method_2_code 69 = .ok (.putfield 15, 3) := by decide +kernel
theorem d7_72 : decode prog_34_method_2_code 72 = .ok (.aload_n 0, 1) := by decide +kernel
theorem d7_73 : decode prog_34_method_2_code 73 = .ok (.aload_n 1, 1) := by decide +kernel
theorem d7_74 : decode prog_34_method_2_code 74 = .ok (.getfield 22, 3) := by decide +kernel
theorem d7_77 : decode prog_34_method_2_code 77 = .ok (.putfield 22, 3) := by decide +kernel
theorem d7_80 : decode prog_34_method_2_code 80 = .ok (.aload_n 0, 1) := by decide +kernel
theorem d7_81 : decode prog_34_method_2_code 81 = .ok (.aload_n 1, 1) := by decide +kernel
theorem d7_82 : decode prog_34_method_2_code 82 = .ok (.getfield 31, 3) := by decide +kernel
theorem d7_85 : decode prog_34_method_2_code 85 = .ok (.putfield 31, 3) := by decide +kernel
theorem d7_88 : decode prog_34_method_2_code 88 = .ok (.return_, 1) := by decide +kernel
theorem ef_7_85 (m : MethodId) (x0 : Addr) (x1 : Addr) : entryFrame m #[(.ref x0), (.ref x1)] 2 = mkF m 0 #[.val (.ref x0), .val (.ref x1)] [] := by first | (simp [entryFrame, mkF, argsToLocals, Value.category]; done) | rfl
def QrmC (Z : State) (a : Addr) (o : Addr) (f0 : Addr) (f1 : Int32) (f2 : Addr) (f3 : Int32) (f4 : Int32) (f5 : Int64) (f6 : Int64) (f7 : Addr) (aS : Addr) (aL : Addr) (h0 : Heap) (n0 : Nat) (v : Option Value) (h : Heap) (L : List Loc) : Prop := v = none ∧ Fr n0 L ∧ Keep h0 h [a] ∧ Exa Z h a "com/example/stops_to_routes/stopstoroutes/planner/Vehicle" ∧ Fld Z h a "com/example/stops_to_routes/stopstoroutes/planner/Vehicle" "skills" "Ljava/util/Set;" (.ref f0) ∧ Fld Z h a "com/example/stops_to_routes/stopstoroutes/planner/Vehicle" "maxStops" "I" (.int f1) ∧ Fld Z h a "com/example/stops_to_routes/stopstoroutes/planner/Vehicle" "breaks" "Ljava/util/List;" (.ref f2) ∧ Fld Z h a "com/example/stops_to_routes/stopstoroutes/planner/Vehicle" "start" "I" (.int f3) ∧ Fld Z h a "com/example/stops_to_routes/stopstoroutes/planner/Vehicle" "end" "I" (.int f4) ∧ Fld Z h a "com/example/stops_to_routes/stopstoroutes/planner/Vehicle" "shiftStart" "J" (.long f5) ∧ Fld Z h a "com/example/stops_to_routes/stopstoroutes/planner/Vehicle" "shiftEnd" "J" (.long f6) ∧ Fld Z h a "com/example/stops_to_routes/stopstoroutes/planner/Vehicle" "capacity" "[J" (.ref f7)
set_option maxRecDepth 65536 in
set_option maxHeartbeats 40000000 in
theorem rmC (l : Launch) (Z : State) (a0 : Array Value) (hw : ∀ d ∈ tables_1, d.before a0 Z = true) (ws : List Jvm.Cond) (a : Addr) (o : Addr) (f0 : Addr) (f1 : Int32) (f2 : Addr) (f3 : Int32) (f4 : Int32) (f5 : Int64) (f6 : Int64) (f7 : Addr) (aS : Addr) (aL : Addr) (h0 : Heap) (n0 : Nat) (O0 : Old Z n0 h0) (E_a : Exa Z h0 a "com/example/stops_to_routes/stopstoroutes/planner/Vehicle") (F_skills_a : Fld Z h0 a "com/example/stops_to_routes/stopstoroutes/planner/Vehicle" "skills" "Ljava/util/Set;" .null) (F_maxStops_a : Fld Z h0 a "com/example/stops_to_routes/stopstoroutes/planner/Vehicle" "maxStops" "I" (.int (0 : Int32))) (F_breaks_a : Fld Z h0 a "com/example/stops_to_routes/stopstoroutes/planner/Vehicle" "breaks" "Ljava/util/List;" .null) (F_start_a : Fld Z h0 a "com/example/stops_to_routes/stopstoroutes/planner/Vehicle" "start" "I" (.int (0 : Int32))) (F_end_a : Fld Z h0 a "com/example/stops_to_routes/stopstoroutes/planner/Vehicle" "end" "I" (.int (0 : Int32))) (F_shiftStart_a : Fld Z h0 a "com/example/stops_to_routes/stopstoroutes/planner/Vehicle" "shiftStart" "J" (.long (0 : Int64))) (F_shiftEnd_a : Fld Z h0 a "com/example/stops_to_routes/stopstoroutes/planner/Vehicle" "shiftEnd" "J" (.long (0 : Int64))) (F_capacity_a : Fld Z h0 a "com/example/stops_to_routes/stopstoroutes/planner/Vehicle" "capacity" "[J" .null) (g_a : n0 ≤ a) (E_o : Exa Z h0 o "com/example/stops_to_routes/stopstoroutes/planner/Vehicle") (F_skills_o : Fld Z h0 o "com/example/stops_to_routes/stopstoroutes/planner/Vehicle" "skills" "Ljava/util/Set;" (.ref f0)) (F_maxStops_o : Fld Z h0 o "com/example/stops_to_routes/stopstoroutes/planner/Vehicle" "maxStops" "I" (.int f1)) (F_breaks_o : Fld Z h0 o "com/example/stops_to_routes/stopstoroutes/planner/Vehicle" "breaks" "Ljava/util/List;" (.ref f2)) (F_start_o : Fld Z h0 o "com/example/stops_to_routes/stopstoroutes/planner/Vehicle" "start" "I" (.int f3)) (F_end_o : Fld Z h0 o "com/example/stops_to_routes/stopstoroutes/planner/Vehicle" "end" "I" (.int f4)) (F_shiftStart_o : Fld Z h0 o "com/example/stops_to_routes/stopstoroutes/planner/Vehicle" "shiftStart" "J" (.long f5)) (F_shiftEnd_o : Fld Z h0 o "com/example/stops_to_routes/stopstoroutes/planner/Vehicle" "shiftEnd" "J" (.long f6)) (F_capacity_o : Fld Z h0 o "com/example/stops_to_routes/stopstoroutes/planner/Vehicle" "capacity" "[J" (.ref f7)) (hne : o ≠ a) (S_EMPTY_SET : Sta Z Z.heap "java/util/ImmutableCollections" "EMPTY_SET" "Ljava/util/ImmutableCollections$SetN;" (.ref aS)) (S_EMPTY_LIST : Sta Z Z.heap "java/util/ImmutableCollections" "EMPTY_LIST" "Ljava/util/ImmutableCollections$ListN;" (.ref aL)) :
    MetFree l (⟨"com/example/stops_to_routes/stopstoroutes/planner/Vehicle", "<init>", "(Lcom/example/stops_to_routes/stopstoroutes/planner/Vehicle;)V"⟩ : MethodName) (head1 (Jvm.Cond.code (⟨"com/example/stops_to_routes/stopstoroutes/planner/Vehicle", "<init>", "(Lcom/example/stops_to_routes/stopstoroutes/planner/Vehicle;)V"⟩ : MethodName) prog_34_method_2_code 2 none :: ws) ({ frames := 1, cells := 0, slots := 0, locals := 12 } : Room)) (fun a_ U_ => a_ = #[(.ref a), (.ref o)] ∧ Z.Warmed39 U_.vm ∧ U_.heap = h0) (fun _ _ _ _ _ => True) (fun _ U_ o_ U'_ => ∃ v_ L_, o_ = .returned v_ ∧ QrmC Z a o f0 f1 f2 f3 f4 f5 f6 f7 aS aL h0 n0 v_ U'_.heap L_ ∧ FrameEnd U_ o_ U'_ L_ ({ frames := 1, cells := 0, slots := 0, locals := 12 } : Room).cells ({ frames := 1, cells := 0, slots := 0, locals := 12 } : Room).slots) := by
  refine MetFree.of_bodySF (plainFor_of_name pn_39) hisR ?_
  intro pg ee s mm args below meth cc s₁ Bd hml0 hP hK
  obtain ⟨rfl, hZ, hh⟩ := hP
  have hx := Bd.exec
  have hby := Bd.bytes
  have hml : cc.maxLocals = 2 := hml0
  have hown : s.vm.findClass "com/example/stops_to_routes/stopstoroutes/planner/Vehicle" = some mm.cls := findClass_of_methodNamed Bd.named
  have hnm := (name_of_methodNamed Bd.named Bd.method).1
  have X0 : Stand pg l ee ({ frames := 1, cells := 0, slots := 0, locals := 12 } : Room) s mm #[(.ref a), (.ref o)] below meth cc s₁ [] 0 0 := Stand.of_body Bd
  have e0 : s₁.heap = h0 := by rw [← hh, Bd.state]; rfl
  have N0 := Fr.nil n0
  have K0 : Keep h0 h0 ([a] : List Addr) := Keep.refl _ _
  have pre0 : ∀ t, Steps pg.tables ee below (s₁.setTop (mkF mm 0 #[.val (.ref a), .val (.ref o)] [])) t → Steps pg.tables ee below (s₁.setTop (entryFrame mm #[(.ref a), (.ref o)] 2)) t := fun t k => castTop (ef_7_85 mm a o) k
  obtain ⟨T1, X1, e1, st1⟩ := initO X0 hx hZ hown (hw _ (List.mem_of_getElem? (i := 7) rfl)) (hw _ (List.mem_of_getElem? (i := 8) rfl)) (hw _ (List.mem_of_getElem? (i := 9) rfl)) e0 (g := (mkF mm 1 #[.val (.ref a), .val (.ref o)] [(.ref a)])) rfl (by rw [hml]; rfl) rfl (hb hby d7_1) (by decide) (W := 0) (by show 2 * 0 + _ ≤ _; exact Nat.le_of_eq rfl) (by decide)
  obtain ⟨_, _, ⟨T2, L2, k2, n2⟩, -, X2, ⟨Lc2, hQ2, l2, y2, z2⟩, st2⟩ := Jvm.LawKit.callS X1 hx (y := (⟨"java/util/Set", "of", "()Ljava/util/Set;"⟩ : MethodName)) hown (mvT hZ (hw _ (List.mem_of_getElem? (i := 10) rfl))) (mvT hZ (hw _ (List.mem_of_getElem? (i := 11) rfl))) (mvT hZ (hw _ (List.mem_of_getElem? (i := 12) rfl))) (mvT hZ (hw _ (List.mem_of_getElem? (i := 13) rfl))) (by decide) (backOf (W := 1) (rmSet l Z a0 hw [] aS h0 n0 O0 S_EMPTY_SET) hZ (hw _ (List.mem_of_getElem? (i := 13) rfl)) (hw _ (List.mem_of_getElem? (i := 12) rfl)) (by decide) (by decide)) (g := (mkF mm 5 #[.val (.ref a), .val (.ref o)] [(.ref a)])) rfl (by rw [hml]; rfl) (argsL := []) (rest := [(.ref a)]) (lenOf pd_12 rfl) rfl (by show 2 * 0 + _ ≤ _; exact Nat.le_of_eq rfl) (hb hby d7_5) (fun _ _ => ⟨rfl, e1, (by decide : 0 + 0 ≤ _), (by decide : 0 + 0 ≤ _)⟩)
  dsimp only [Pt.U, Pt.locs, Pt.cells, Pt.slots] at X2 l2 y2 z2 st2 hQ2
  subst l2 y2 z2
  obtain ⟨rfl, N2q, e2⟩ := hQ2
  have N2 := Fr.app N0 N2q
  obtain ⟨T3, h3, X3, e3, W3, st3⟩ := putF X2 hx hZ hown (host := "") (Or.inl (hw _ (List.mem_of_getElem? (i := 16) rfl))) Via.refl e2 F_skills_a E_a (Or.inl (hw _ (List.mem_of_getElem? (i := 17) rfl))) (hw _ (List.mem_of_getElem? (i := 2) rfl)) (ty := (.object "java/util/Set")) (by decide) rfl rfl (g := (mkF mm 8 #[.val (.ref a), .val (.ref o)] [(.ref aS), (.ref a)])) rfl rfl (hb hby d7_8)
  have Fw3 : Fld Z h3 a "com/example/stops_to_routes/stopstoroutes/planner/Vehicle" "skills" "Ljava/util/Set;" (.ref aS) := F_skills_a.same W3
  have N3 := Fr.snoc X3 N2 g_a
  have O3 := O0.wr W3 g_a
  have KK3 := K0.wr W3 (Or.inl (by simp))
  obtain ⟨T4, h4, X4, e4, W4, st4⟩ := putF X3 hx hZ hown (host := "") (Or.inl (hw _ (List.mem_of_getElem? (i := 19) rfl))) Via.refl e3 (F_maxStops_a.other W3 (Or.inr (slot_ne (Or.inl (hw _ (List.mem_of_getElem? (i := 20) rfl))) (Or.inl (hw _ (List.mem_of_getElem? (i := 17) rfl))) (by decide) (t := .int) (t' := (.object "java/util/Set")) (by decide) (by decide)))) (E_a.wr W3) (Or.inl (hw _ (List.mem_of_getElem? (i := 20) rfl))) (hw _ (List.mem_of_getElem? (i := 2) rfl)) (ty := .int) (by decide) rfl rfl (g := (mkF mm 14 #[.val (.ref a), .val (.ref o)] [(.int (2147483647 : Int32)), (.ref a)])) rfl rfl (hb hby d7_14)
  have Fw4 : Fld Z h4 a "com/example/stops_to_routes/stopstoroutes/planner/Vehicle" "maxStops" "I" (.int (2147483647 : Int32)) := (F_maxStops_a.other W3 (Or.inr (slot_ne (Or.inl (hw _ (List.mem_of_getElem? (i := 20) rfl))) (Or.inl (hw _ (List.mem_of_getElem? (i := 17) rfl))) (by decide) (t := .int) (t' := (.object "java/util/Set")) (by decide) (by decide)))).same W4
  have N4 := Fr.snoc X4 N3 g_a
  have O4 := O3.wr W4 g_a
  have KK4 := KK3.wr W4 (Or.inl (by simp))
  obtain ⟨_, _, ⟨T5, L5, k5, n5⟩, -, X5, ⟨Lc5, hQ5, l5, y5, z5⟩, st5⟩ := Jvm.LawKit.callS X4 hx (y := (⟨"java/util/List", "of", "()Ljava/util/List;"⟩ : MethodName)) hown (mvT hZ (hw _ (List.mem_of_getElem? (i := 21) rfl))) (mvT hZ (hw _ (List.mem_of_getElem? (i := 22) rfl))) (mvT hZ (hw _ (List.mem_of_getElem? (i := 23) rfl))) (mvT hZ (hw _ (List.mem_of_getElem? (i := 24) rfl))) (by decide) (backOf (W := 1) (rmList l Z a0 hw [] aL h4 n0 O4 S_EMPTY_LIST) hZ (hw _ (List.mem_of_getElem? (i := 24) rfl)) (hw _ (List.mem_of_getElem? (i := 23) rfl)) (by decide) (by decide)) (g := (mkF mm 18 #[.val (.ref a), .val (.ref o)] [(.ref a)])) rfl (by rw [hml]; rfl) (argsL := []) (rest := [(.ref a)]) (lenOf pd_19 rfl) rfl (by show 2 * 0 + _ ≤ _; exact Nat.le_of_eq rfl) (hb hby d7_18) (fun _ _ => ⟨rfl, e4, (by decide : 0 + 0 ≤ _), (by decide : 0 + 0 ≤ _)⟩)
  dsimp only [Pt.U, Pt.locs, Pt.cells, Pt.slots] at X5 l5 y5 z5 st5 hQ5
  subst l5 y5 z5
  obtain ⟨rfl, N5q, e5⟩ := hQ5
  have N5 := Fr.app N4 N5q
  obtain ⟨T6, h6, X6, e6, W6, st6⟩ := putF X5 hx hZ hown (host := "") (Or.inl (hw _ (List.mem_of_getElem? (i := 26) rfl))) Via.refl e5 ((F_breaks_a.other W3 (Or.inr (slot_ne (Or.inl (hw _ (List.mem_of_getElem? (i := 27) rfl))) (Or.inl (hw _ (List.mem_of_getElem? (i := 17) rfl))) (by decide) (t := (.object "java/util/List")) (t' := (.object "java/util/Set")) (by decide) (by decide)))).other W4 (Or.inr (slot_ne (Or.inl (hw _ (List.mem_of_getElem? (i := 27) rfl))) (Or.inl (hw _ (List.mem_of_getElem? (i := 20) rfl))) (by decide) (t := (.object "java/util/List")) (t' := .int) (by decide) (by decide)))) ((E_a.wr W3).wr W4) (Or.inl (hw _ (List.mem_of_getElem? (i := 27) rfl))) (hw _ (List.mem_of_getElem? (i := 2) rfl)) (ty := (.object "java/util/List")) (by decide) rfl rfl (g := (mkF mm 21 #[.val (.ref a), .val (.ref o)] [(.ref aL), (.ref a)])) rfl rfl (hb hby d7_21)
  have Fw6 : Fld Z h6 a "com/example/stops_to_routes/stopstoroutes/planner/Vehicle" "breaks" "Ljava/util/List;" (.ref aL) := ((F_breaks_a.other W3 (Or.inr (slot_ne (Or.inl (hw _ (List.mem_of_getElem? (i := 27) rfl))) (Or.inl (hw _ (List.mem_of_getElem? (i := 17) rfl))) (by decide) (t := (.object "java/util/List")) (t' := (.object "java/util/Set")) (by decide) (by decide)))).other W4 (Or.inr (slot_ne (Or.inl (hw _ (List.mem_of_getElem? (i := 27) rfl))) (Or.inl (hw _ (List.mem_of_getElem? (i := 20) rfl))) (by decide) (t := (.object "java/util/List")) (t' := .int) (by decide) (by decide)))).same W6
  have N6 := Fr.snoc X6 N5 g_a
  have O6 := O4.wr W6 g_a
  have KK6 := KK4.wr W6 (Or.inl (by simp))
  obtain ⟨T7, X7, e7, st7⟩ := getF X6 hx hZ hown (host := "") (Or.inl (hw _ (List.mem_of_getElem? (i := 28) rfl))) Via.refl e6 (((F_start_o.other W3 (Or.inl hne)).other W4 (Or.inl hne)).other W6 (Or.inl hne)) (g := (mkF mm 26 #[.val (.ref a), .val (.ref o)] [(.ref o), (.ref a)])) rfl rfl (hb hby d7_26)
  obtain ⟨T8, h8, X8, e8, W8, st8⟩ := putF X7 hx hZ hown (host := "") (Or.inl (hw _ (List.mem_of_getElem? (i := 28) rfl))) Via.refl e7 (((F_start_a.other W3 (Or.inr (slot_ne (Or.inr (hw _ (List.mem_of_getElem? (i := 29) rfl))) (Or.inl (hw _ (List.mem_of_getElem? (i := 17) rfl))) (by decide) (t := .int) (t' := (.object "java/util/Set")) (by decide) (by decide)))).other W4 (Or.inr (slot_ne (Or.inr (hw _ (List.mem_of_getElem? (i := 29) rfl))) (Or.inl (hw _ (List.mem_of_getElem? (i := 20) rfl))) (by decide) (t := .int) (t' := .int) (by decide) (by decide)))).other W6 (Or.inr (slot_ne (Or.inr (hw _ (List.mem_of_getElem? (i := 29) rfl))) (Or.inl (hw _ (List.mem_of_getElem? (i := 27) rfl))) (by decide) (t := .int) (t' := (.object "java/util/List")) (by decide) (by decide)))) (((E_a.wr W3).wr W4).wr W6) (Or.inr ⟨(hw _ (List.mem_of_getElem? (i := 29) rfl)), rfl, hnm⟩) (hw _ (List.mem_of_getElem? (i := 2) rfl)) (ty := .int) (by decide) rfl rfl (g := (mkF mm 29 #[.val (.ref a), .val (.ref o)] [(.int f3), (.ref a)])) rfl rfl (hb hby d7_29)
  have Fw8 : Fld Z h8 a "com/example/stops_to_routes/stopstoroutes/planner/Vehicle" "start" "I" (.int f3) := (((F_start_a.other W3 (Or.inr (slot_ne (Or.inr (hw _ (List.mem_of_getElem? (i := 29) rfl))) (Or.inl (hw _ (List.mem_of_getElem? (i := 17) rfl))) (by decide) (t := .int) (t' := (.object "java/util/Set")) (by decide) (by decide)))).other W4 (Or.inr (slot_ne (Or.inr (hw _ (List.mem_of_getElem? (i := 29) rfl))) (Or.inl (hw _ (List.mem_of_getElem? (i := 20) rfl))) (by decide) (t := .int) (t' := .int) (by decide) (by decide)))).other W6 (Or.inr (slot_ne (Or.inr (hw _ (List.mem_of_getElem? (i := 29) rfl))) (Or.inl (hw _ (List.mem_of_getElem? (i := 27) rfl))) (by decide) (t := .int) (t' := (.object "java/util/List")) (by decide) (by decide)))).same W8
  have N8 := Fr.snoc X8 N6 g_a
  have O8 := O6.wr W8 g_a
  have KK8 := KK6.wr W8 (Or.inl (by simp))
  obtain ⟨T9, X9, e9, st9⟩ := getF X8 hx hZ hown (host := "") (Or.inl (hw _ (List.mem_of_getElem? (i := 30) rfl))) Via.refl e8 ((((F_end_o.other W3 (Or.inl hne)).other W4 (Or.inl hne)).other W6 (Or.inl hne)).other W8 (Or.inl hne)) (g := (mkF mm 34 #[.val (.ref a), .val (.ref o)] [(.ref o), (.ref a)])) rfl rfl (hb hby d7_34)
  obtain ⟨T10, h10, X10, e10, W10, st10⟩ := putF X9 hx hZ hown (host := "") (Or.inl (hw _ (List.mem_of_getElem? (i := 30) rfl))) Via.refl e9 ((((F_end_a.other W3 (Or.inr (slot_ne (Or.inr (hw _ (List.mem_of_getElem? (i := 31) rfl))) (Or.inl (hw _ (List.mem_of_getElem? (i := 17) rfl))) (by decide) (t := .int) (t' := (.object "java/util/Set")) (by decide) (by decide)))).other W4 (Or.inr (slot_ne (Or.inr (hw _ (List.mem_of_getElem? (i := 31) rfl))) (Or.inl (hw _ (List.mem_of_getElem? (i := 20) rfl))) (by decide) (t := .int) (t' := .int) (by decide) (by decide)))).other W6 (Or.inr (slot_ne (Or.inr (hw _ (List.mem_of_getElem? (i := 31) rfl))) (Or.inl (hw _ (List.mem_of_getElem? (i := 27) rfl))) (by decide) (t := .int) (t' := (.object "java/util/List")) (by decide) (by decide)))).other W8 (Or.inr (slot_ne (Or.inr (hw _ (List.mem_of_getElem? (i := 31) rfl))) (Or.inr (hw _ (List.mem_of_getElem? (i := 29) rfl))) (by decide) (t := .int) (t' := .int) (by decide) (by decide)))) ((((E_a.wr W3).wr W4).wr W6).wr W8) (Or.inr ⟨(hw _ (List.mem_of_getElem? (i := 31) rfl)), rfl, hnm⟩) (hw _ (List.mem_of_getElem? (i := 2) rfl)) (ty := .int) (by decide) rfl rfl (g := (mkF mm 37 #[.val (.ref a), .val (.ref o)] [(.int f4), (.ref a)])) rfl rfl (hb hby d7_37)
  have Fw10 : Fld Z h10 a "com/example/stops_to_routes/stopstoroutes/planner/Vehicle" "end" "I" (.int f4) := ((((F_end_a.other W3 (Or.inr (slot_ne (Or.inr (hw _ (List.mem_of_getElem? (i := 31) rfl))) (Or.inl (hw _ (List.mem_of_getElem? (i := 17) rfl))) (by decide) (t := .int) (t' := (.object "java/util/Set")) (by decide) (by decide)))).other W4 (Or.inr (slot_ne (Or.inr (hw _ (List.mem_of_getElem? (i := 31) rfl))) (Or.inl (hw _ (List.mem_of_getElem? (i := 20) rfl))) (by decide) (t := .int) (t' := .int) (by decide) (by decide)))).other W6 (Or.inr (slot_ne (Or.inr (hw _ (List.mem_of_getElem? (i := 31) rfl))) (Or.inl (hw _ (List.mem_of_getElem? (i := 27) rfl))) (by decide) (t := .int) (t' := (.object "java/util/List")) (by decide) (by decide)))).other W8 (Or.inr (slot_ne (Or.inr (hw _ (List.mem_of_getElem? (i := 31) rfl))) (Or.inr (hw _ (List.mem_of_getElem? (i := 29) rfl))) (by decide) (t := .int) (t' := .int) (by decide) (by decide)))).same W10
  have N10 := Fr.snoc X10 N8 g_a
  have O10 := O8.wr W10 g_a
  have KK10 := KK8.wr W10 (Or.inl (by simp))
  obtain ⟨T11, X11, e11, st11⟩ := getF X10 hx hZ hown (host := "") (Or.inl (hw _ (List.mem_of_getElem? (i := 32) rfl))) Via.refl e10 (((((F_shiftStart_o.other W3 (Or.inl hne)).other W4 (Or.inl hne)).other W6 (Or.inl hne)).other W8 (Or.inl hne)).other W10 (Or.inl hne)) (g := (mkF mm 42 #[.val (.ref a), .val (.ref o)] [(.ref o), (.ref a)])) rfl rfl (hb hby d7_42)
  obtain ⟨T12, h12, X12, e12, W12, st12⟩ := putF X11 hx hZ hown (host := "") (Or.inl (hw _ (List.mem_of_getElem? (i := 32) rfl))) Via.refl e11 (((((F_shiftStart_a.other W3 (Or.inr (slot_ne (Or.inr (hw _ (List.mem_of_getElem? (i := 33) rfl))) (Or.inl (hw _ (List.mem_of_getElem? (i := 17) rfl))) (by decide) (t := .long) (t' := (.object "java/util/Set")) (by decide) (by decide)))).other W4 (Or.inr (slot_ne (Or.inr (hw _ (List.mem_of_getElem? (i := 33) rfl))) (Or.inl (hw _ (List.mem_of_getElem? (i := 20) rfl))) (by decide) (t := .long) (t' := .int) (by decide) (by decide)))).other W6 (Or.inr (slot_ne (Or.inr (hw _ (List.mem_of_getElem? (i := 33) rfl))) (Or.inl (hw _ (List.mem_of_getElem? (i := 27) rfl))) (by decide) (t := .long) (t' := (.object "java/util/List")) (by decide) (by decide)))).other W8 (Or.inr (slot_ne (Or.inr (hw _ (List.mem_of_getElem? (i := 33) rfl))) (Or.inr (hw _ (List.mem_of_getElem? (i := 29) rfl))) (by decide) (t := .long) (t' := .int) (by decide) (by decide)))).other W10 (Or.inr (slot_ne (Or.inr (hw _ (List.mem_of_getElem? (i := 33) rfl))) (Or.inr (hw _ (List.mem_of_getElem? (i := 31) rfl))) (by decide) (t := .long) (t' := .int) (by decide) (by decide)))) (((((E_a.wr W3).wr W4).wr W6).wr W8).wr W10) (Or.inr ⟨(hw _ (List.mem_of_getElem? (i := 33) rfl)), rfl, hnm⟩) (hw _ (List.mem_of_getElem? (i := 2) rfl)) (ty := .long) (by decide) rfl rfl (g := (mkF mm 45 #[.val (.ref a), .val (.ref o)] [(.long f5), (.ref a)])) rfl rfl (hb hby d7_45)
  have Fw12 : Fld Z h12 a "com/example/stops_to_routes/stopstoroutes/planner/Vehicle" "shiftStart" "J" (.long f5) := (((((F_shiftStart_a.other W3 (Or.inr (slot_ne (Or.inr (hw _ (List.mem_of_getElem? (i := 33) rfl))) (Or.inl (hw _ (List.mem_of_getElem? (i := 17) rfl))) (by decide) (t := .long) (t' := (.object "java/util/Set")) (by decide) (by decide)))).other W4 (Or.inr (slot_ne (Or.inr (hw _ (List.mem_of_getElem? (i := 33) rfl))) (Or.inl (hw _ (List.mem_of_getElem? (i := 20) rfl))) (by decide) (t := .long) (t' := .int) (by decide) (by decide)))).other W6 (Or.inr (slot_ne (Or.inr (hw _ (List.mem_of_getElem? (i := 33) rfl))) (Or.inl (hw _ (List.mem_of_getElem? (i := 27) rfl))) (by decide) (t := .long) (t' := (.object "java/util/List")) (by decide) (by decide)))).other W8 (Or.inr (slot_ne (Or.inr (hw _ (List.mem_of_getElem? (i := 33) rfl))) (Or.inr (hw _ (List.mem_of_getElem? (i := 29) rfl))) (by decide) (t := .long) (t' := .int) (by decide) (by decide)))).other W10 (Or.inr (slot_ne (Or.inr (hw _ (List.mem_of_getElem? (i := 33) rfl))) (Or.inr (hw _ (List.mem_of_getElem? (i := 31) rfl))) (by decide) (t := .long) (t' := .int) (by decide) (by decide)))).same W12
  have N12 := Fr.snoc X12 N10 g_a
  have O12 := O10.wr W12 g_a
  have KK12 := KK10.wr W12 (Or.inl (by simp))
  obtain ⟨T13, X13, e13, st13⟩ := getF X12 hx hZ hown (host := "") (Or.inl (hw _ (List.mem_of_getElem? (i := 34) rfl))) Via.refl e12 ((((((F_shiftEnd_o.other W3 (Or.inl hne)).other W4 (Or.inl hne)).other W6 (Or.inl hne)).other W8 (Or.inl hne)).other W10 (Or.inl hne)).other W12 (Or.inl hne)) (g := (mkF mm 50 #[.val (.ref a), .val (.ref o)] [(.ref o), (.ref a)])) rfl rfl (hb hby d7_50)
  obtain ⟨T14, h14, X14, e14, W14, st14⟩ := putF X13 hx hZ hown (host := "") (Or.inl (hw _ (List.mem_of_getElem? (i := 34) rfl))) Via.refl e13 ((((((F_shiftEnd_a.other W3 (Or.inr (slot_ne (Or.inr (hw _ (List.mem_of_getElem? (i := 35) rfl))) (Or.inl (hw _ (List.mem_of_getElem? (i := 17) rfl))) (by decide) (t := .long) (t' := (.object "java/util/Set")) (by decide) (by decide)))).other W4 (Or.inr (slot_ne (Or.inr (hw _ (List.mem_of_getElem? (i := 35) rfl))) (Or.inl (hw _ (List.mem_of_getElem? (i := 20) rfl))) (by decide) (t := .long) (t' := .int) (by decide) (by decide)))).other W6 (Or.inr (slot_ne (Or.inr (hw _ (List.mem_of_getElem? (i := 35) rfl))) (Or.inl (hw _ (List.mem_of_getElem? (i := 27) rfl))) (by decide) (t := .long) (t' := (.object "java/util/List")) (by decide) (by decide)))).other W8 (Or.inr (slot_ne (Or.inr (hw _ (List.mem_of_getElem? (i := 35) rfl))) (Or.inr (hw _ (List.mem_of_getElem? (i := 29) rfl))) (by decide) (t := .long) (t' := .int) (by decide) (by decide)))).other W10 (Or.inr (slot_ne (Or.inr (hw _ (List.mem_of_getElem? (i := 35) rfl))) (Or.inr (hw _ (List.mem_of_getElem? (i := 31) rfl))) (by decide) (t := .long) (t' := .int) (by decide) (by decide)))).other W12 (Or.inr (slot_ne (Or.inr (hw _ (List.mem_of_getElem? (i := 35) rfl))) (Or.inr (hw _ (List.mem_of_getElem? (i := 33) rfl))) (by decide) (t := .long) (t' := .long) (by decide) (by decide)))) ((((((E_a.wr W3).wr W4).wr W6).wr W8).wr W10).wr W12) (Or.inr ⟨(hw _ (List.mem_of_getElem? (i := 35) rfl)), rfl, hnm⟩) (hw _ (List.mem_of_getElem? (i := 2) rfl)) (ty := .long) (by decide) rfl rfl (g := (mkF mm 53 #[.val (.ref a), .val (.ref o)] [(.long f6), (.ref a)])) rfl rfl (hb hby d7_53)
  have Fw14 : Fld Z h14 a "com/example/stops_to_routes/stopstoroutes/planner/Vehicle" "shiftEnd" "J" (.long f6) := ((((((F_shiftEnd_a.other W3 (Or.inr (slot_ne (Or.inr (hw _ (List.mem_of_getElem? (i := 35) rfl))) (Or.inl (hw _ (List.mem_of_getElem? (i := 17) rfl))) (by decide) (t := .long) (t' := (.object "java/util/Set")) (by decide) (by decide)))).other W4 (Or.inr (slot_ne (Or.inr (hw _ (List.mem_of_getElem? (i := 35) rfl))) (Or.inl (hw _ (List.mem_of_getElem? (i := 20) rfl))) (by decide) (t := .long) (t' := .int) (by decide) (by decide)))).other W6 (Or.inr (slot_ne (Or.inr (hw _ (List.mem_of_getElem? (i := 35) rfl))) (Or.inl (hw _ (List.mem_of_getElem? (i := 27) rfl))) (by decide) (t := .long) (t' := (.object "java/util/List")) (by decide) (by decide)))).other W8 (Or.inr (slot_ne (Or.inr (hw _ (List.mem_of_getElem? (i := 35) rfl))) (Or.inr (hw _ (List.mem_of_getElem? (i := 29) rfl))) (by decide) (t := .long) (t' := .int) (by decide) (by decide)))).other W10 (Or.inr (slot_ne (Or.inr (hw _ (List.mem_of_getElem? (i := 35) rfl))) (Or.inr (hw _ (List.mem_of_getElem? (i := 31) rfl))) (by decide) (t := .long) (t' := .int) (by decide) (by decide)))).other W12 (Or.inr (slot_ne (Or.inr (hw _ (List.mem_of_getElem? (i := 35) rfl))) (Or.inr (hw _ (List.mem_of_getElem? (i := 33) rfl))) (by decide) (t := .long) (t' := .long) (by decide) (by decide)))).same W14
  have N14 := Fr.snoc X14 N12 g_a
  have O14 := O12.wr W14 g_a
  have KK14 := KK12.wr W14 (Or.inl (by simp))
  obtain ⟨T15, X15, e15, st15⟩ := getF X14 hx hZ hown (host := "") (Or.inl (hw _ (List.mem_of_getElem? (i := 45) rfl))) Via.refl e14 (((((((F_capacity_o.other W3 (Or.inl hne)).other W4 (Or.inl hne)).other W6 (Or.inl hne)).other W8 (Or.inl hne)).other W10 (Or.inl hne)).other W12 (Or.inl hne)).other W14 (Or.inl hne)) (g := (mkF mm 58 #[.val (.ref a), .val (.ref o)] [(.ref o), (.ref a)])) rfl rfl (hb hby d7_58)
  obtain ⟨T16, h16, X16, e16, W16, st16⟩ := putF X15 hx hZ hown (host := "") (Or.inl (hw _ (List.mem_of_getElem? (i := 45) rfl))) Via.refl e15 (((((((F_capacity_a.other W3 (Or.inr (slot_ne (Or.inr (hw _ (List.mem_of_getElem? (i := 46) rfl))) (Or.inl (hw _ (List.mem_of_getElem? (i := 17) rfl))) (by decide) (t := (.array .long)) (t' := (.object "java/util/Set")) (by decide) (by decide)))).other W4 (Or.inr (slot_ne (Or.inr (hw _ (List.mem_of_getElem? (i := 46) rfl))) (Or.inl (hw _ (List.mem_of_getElem? (i := 20) rfl))) (by decide) (t := (.array .long)) (t' := .int) (by decide) (by decide)))).other W6 (Or.inr (slot_ne (Or.inr (hw _ (List.mem_of_getElem? (i := 46) rfl))) (Or.inl (hw _ (List.mem_of_getElem? (i := 27) rfl))) (by decide) (t := (.array .long)) (t' := (.object "java/util/List")) (by decide) (by decide)))).other W8 (Or.inr (slot_ne (Or.inr (hw _ (List.mem_of_getElem? (i := 46) rfl))) (Or.inr (hw _ (List.mem_of_getElem? (i := 29) rfl))) (by decide) (t := (.array .long)) (t' := .int) (by decide) (by decide)))).other W10 (Or.inr (slot_ne (Or.inr (hw _ (List.mem_of_getElem? (i := 46) rfl))) (Or.inr (hw _ (List.mem_of_getElem? (i := 31) rfl))) (by decide) (t := (.array .long)) (t' := .int) (by decide) (by decide)))).other W12 (Or.inr (slot_ne (Or.inr (hw _ (List.mem_of_getElem? (i := 46) rfl))) (Or.inr (hw _ (List.mem_of_getElem? (i := 33) rfl))) (by decide) (t := (.array .long)) (t' := .long) (by decide) (by decide)))).other W14 (Or.inr (slot_ne (Or.inr (hw _ (List.mem_of_getElem? (i := 46) rfl))) (Or.inr (hw _ (List.mem_of_getElem? (i := 35) rfl))) (by decide) (t := (.array .long)) (t' := .long) (by decide) (by decide)))) (((((((E_a.wr W3).wr W4).wr W6).wr W8).wr W10).wr W12).wr W14) (Or.inr ⟨(hw _ (List.mem_of_getElem? (i := 46) rfl)), rfl, hnm⟩) (hw _ (List.mem_of_getElem? (i := 2) rfl)) (ty := (.array .long)) (by decide) rfl rfl (g := (mkF mm 61 #[.val (.ref a), .val (.ref o)] [(.ref f7), (.ref a)])) rfl rfl (hb hby d7_61)
  have Fw16 : Fld Z h16 a "com/example/stops_to_routes/stopstoroutes/planner/Vehicle" "capacity" "[J" (.ref f7) := (((((((F_capacity_a.other W3 (Or.inr (slot_ne (Or.inr (hw _ (List.mem_of_getElem? (i := 46) rfl))) (Or.inl (hw _ (List.mem_of_getElem? (i := 17) rfl))) (by decide) (t := (.array .long)) (t' := (.object "java/util/Set")) (by decide) (by decide)))).other W4 (Or.inr (slot_ne (Or.inr (hw _ (List.mem_of_getElem? (i := 46) rfl))) (Or.inl (hw _ (List.mem_of_getElem? (i := 20) rfl))) (by decide) (t := (.array .long)) (t' := .int) (by decide) (by decide)))).other W6 (Or.inr (slot_ne (Or.inr (hw _ (List.mem_of_getElem? (i := 46) rfl))) (Or.inl (hw _ (List.mem_of_getElem? (i := 27) rfl))) (by decide) (t := (.array .long)) (t' := (.object "java/util/List")) (by decide) (by decide)))).other W8 (Or.inr (slot_ne (Or.inr (hw _ (List.mem_of_getElem? (i := 46) rfl))) (Or.inr (hw _ (List.mem_of_getElem? (i := 29) rfl))) (by decide) (t := (.array .long)) (t' := .int) (by decide) (by decide)))).other W10 (Or.inr (slot_ne (Or.inr (hw _ (List.mem_of_getElem? (i := 46) rfl))) (Or.inr (hw _ (List.mem_of_getElem? (i := 31) rfl))) (by decide) (t := (.array .long)) (t' := .int) (by decide) (by decide)))).other W12 (Or.inr (slot_ne (Or.inr (hw _ (List.mem_of_getElem? (i := 46) rfl))) (Or.inr (hw _ (List.mem_of_getElem? (i := 33) rfl))) (by decide) (t := (.array .long)) (t' := .long) (by decide) (by decide)))).other W14 (Or.inr (slot_ne (Or.inr (hw _ (List.mem_of_getElem? (i := 46) rfl))) (Or.inr (hw _ (List.mem_of_getElem? (i := 35) rfl))) (by decide) (t := (.array .long)) (t' := .long) (by decide) (by decide)))).same W16
  have N16 := Fr.snoc X16 N14 g_a
  have O16 := O14.wr W16 g_a
  have KK16 := KK14.wr W16 (Or.inl (by simp))
  obtain ⟨T17, X17, e17, st17⟩ := getF X16 hx hZ hown (host := "") (Or.inl (hw _ (List.mem_of_getElem? (i := 16) rfl))) Via.refl e16 ((((((((F_skills_o.other W3 (Or.inl hne)).other W4 (Or.inl hne)).other W6 (Or.inl hne)).other W8 (Or.inl hne)).other W10 (Or.inl hne)).other W12 (Or.inl hne)).other W14 (Or.inl hne)).other W16 (Or.inl hne)) (g := (mkF mm 66 #[.val (.ref a), .val (.ref o)] [(.ref o), (.ref a)])) rfl rfl (hb hby d7_66)
  obtain ⟨T18, h18, X18, e18, W18, st18⟩ := putF X17 hx hZ hown (host := "") (Or.inl (hw _ (List.mem_of_getElem? (i := 16) rfl))) Via.refl e17 (((((((Fw3.other W4 (Or.inr (slot_ne (Or.inl (hw _ (List.mem_of_getElem? (i := 17) rfl))) (Or.inl (hw _ (List.mem_of_getElem? (i := 20) rfl))) (by decide) (t := (.object "java/util/Set")) (t' := .int) (by decide) (by decide)))).other W6 (Or.inr (slot_ne (Or.inl (hw _ (List.mem_of_getElem? (i := 17) rfl))) (Or.inl (hw _ (List.mem_of_getElem? (i := 27) rfl))) (by decide) (t := (.object "java/util/Set")) (t' := (.object "java/util/List")) (by decide) (by decide)))).other W8 (Or.inr (slot_ne (Or.inl (hw _ (List.mem_of_getElem? (i := 17) rfl))) (Or.inr (hw _ (List.mem_of_getElem? (i := 29) rfl))) (by decide) (t := (.object "java/util/Set")) (t' := .int) (by decide) (by decide)))).other W10 (Or.inr (slot_ne (Or.inl (hw _ (List.mem_of_getElem? (i := 17) rfl))) (Or.inr (hw _ (List.mem_of_getElem? (i := 31) rfl))) (by decide) (t := (.object "java/util/Set")) (t' := .int) (by decide) (by decide)))).other W12 (Or.inr (slot_ne (Or.inl (hw _ (List.mem_of_getElem? (i := 17) rfl))) (Or.inr (hw _ (List.mem_of_getElem? (i := 33) rfl))) (by decide) (t := (.object "java/util/Set")) (t' := .long) (by decide) (by decide)))).other W14 (Or.inr (slot_ne (Or.inl (hw _ (List.mem_of_getElem? (i := 17) rfl))) (Or.inr (hw _ (List.mem_of_getElem? (i := 35) rfl))) (by decide) (t := (.object "java/util/Set")) (t' := .long) (by decide) (by decide)))).other W16 (Or.inr (slot_ne (Or.inl (hw _ (List.mem_of_getElem? (i := 17) rfl))) (Or.inr (hw _ (List.mem_of_getElem? (i := 46) rfl))) (by decide) (t := (.object "java/util/Set")) (t' := (.array .long)) (by decide) (by decide)))) ((((((((E_a.wr W3).wr W4).wr W6).wr W8).wr W10).wr W12).wr W14).wr W16) (Or.inl (hw _ (List.mem_of_getElem? (i := 17) rfl))) (hw _ (List.mem_of_getElem? (i := 2) rfl)) (ty := (.object "java/util/Set")) (by decide) rfl rfl (g := (mkF mm 69 #[.val (.ref a), .val (.ref o)] [(.ref f0), (.ref a)])) rfl rfl (hb hby d7_69)
  have Fw18 : Fld Z h18 a "com/example/stops_to_routes/stopstoroutes/planner/Vehicle" "skills" "Ljava/util/Set;" (.ref f0) := (((((((Fw3.other W4 (Or.inr (slot_ne (Or.inl (hw _ (List.mem_of_getElem? (i := 17) rfl))) (Or.inl (hw _ (List.mem_of_getElem? (i := 20) rfl))) (by decide) (t := (.object "java/util/Set")) (t' := .int) (by decide) (by decide)))).other W6 (Or.inr (slot_ne (Or.inl (hw _ (List.mem_of_getElem? (i := 17) rfl))) (Or.inl (hw _ (List.mem_of_getElem? (i := 27) rfl))) (by decide) (t := (.object "java/util/Set")) (t' := (.object "java/util/List")) (by decide) (by decide)))).other W8 (Or.inr (slot_ne (Or.inl (hw _ (List.mem_of_getElem? (i := 17) rfl))) (Or.inr (hw _ (List.mem_of_getElem? (i := 29) rfl))) (by decide) (t := (.object "java/util/Set")) (t' := .int) (by decide) (by decide)))).other W10 (Or.inr (slot_ne (Or.inl (hw _ (List.mem_of_getElem? (i := 17) rfl))) (Or.inr (hw _ (List.mem_of_getElem? (i := 31) rfl))) (by decide) (t := (.object "java/util/Set")) (t' := .int) (by decide) (by decide)))).other W12 (Or.inr (slot_ne (Or.inl (hw _ (List.mem_of_getElem? (i := 17) rfl))) (Or.inr (hw _ (List.mem_of_getElem? (i := 33) rfl))) (by decide) (t := (.object "java/util/Set")) (t' := .long) (by decide) (by decide)))).other W14 (Or.inr (slot_ne (Or.inl (hw _ (List.mem_of_getElem? (i := 17) rfl))) (Or.inr (hw _ (List.mem_of_getElem? (i := 35) rfl))) (by decide) (t := (.object "java/util/Set")) (t' := .long) (by decide) (by decide)))).other W16 (Or.inr (slot_ne (Or.inl (hw _ (List.mem_of_getElem? (i := 17) rfl))) (Or.inr (hw _ (List.mem_of_getElem? (i := 46) rfl))) (by decide) (t := (.object "java/util/Set")) (t' := (.array .long)) (by decide) (by decide)))).same W18
  have N18 := Fr.snoc X18 N16 g_a
  have O18 := O16.wr W18 g_a
  have KK18 := KK16.wr W18 (Or.inl (by simp))
  obtain ⟨T19, X19, e19, st19⟩ := getF X18 hx hZ hown (host := "") (Or.inl (hw _ (List.mem_of_getElem? (i := 19) rfl))) Via.refl e18 (((((((((F_maxStops_o.other W3 (Or.inl hne)).other W4 (Or.inl hne)).other W6 (Or.inl hne)).other W8 (Or.inl hne)).other W10 (Or.inl hne)).other W12 (Or.inl hne)).other W14 (Or.inl hne)).other W16 (Or.inl hne)).other W18 (Or.inl hne)) (g := (mkF mm 74 #[.val (.ref a), .val (.ref o)] [(.ref o), (.ref a)])) rfl rfl (hb hby d7_74)
  obtain ⟨T20, h20, X20, e20, W20, st20⟩ := putF X19 hx hZ hown (host := "") (Or.inl (hw _ (List.mem_of_getElem? (i := 19) rfl))) Via.refl e19 (((((((Fw4.other W6 (Or.inr (slot_ne (Or.inl (hw _ (List.mem_of_getElem? (i := 20) rfl))) (Or.inl (hw _ (List.mem_of_getElem? (i := 27) rfl))) (by decide) (t := .int) (t' := (.object "java/util/List")) (by decide) (by decide)))).other W8 (Or.inr (slot_ne (Or.inl (hw _ (List.mem_of_getElem? (i := 20) rfl))) (Or.inr (hw _ (List.mem_of_getElem? (i := 29) rfl))) (by decide) (t := .int) (t' := .int) (by decide) (by decide)))).other W10 (Or.inr (slot_ne (Or.inl (hw _ (List.mem_of_getElem? (i := 20) rfl))) (Or.inr (hw _ (List.mem_of_getElem? (i := 31) rfl))) (by decide) (t := .int) (t' := .int) (by decide) (by decide)))).other W12 (Or.inr (slot_ne (Or.inl (hw _ (List.mem_of_getElem? (i := 20) rfl))) (Or.inr (hw _ (List.mem_of_getElem? (i := 33) rfl))) (by decide) (t := .int) (t' := .long) (by decide) (by decide)))).other W14 (Or.inr (slot_ne (Or.inl (hw _ (List.mem_of_getElem? (i := 20) rfl))) (Or.inr (hw _ (List.mem_of_getElem? (i := 35) rfl))) (by decide) (t := .int) (t' := .long) (by decide) (by decide)))).other W16 (Or.inr (slot_ne (Or.inl (hw _ (List.mem_of_getElem? (i := 20) rfl))) (Or.inr (hw _ (List.mem_of_getElem? (i := 46) rfl))) (by decide) (t := .int) (t' := (.array .long)) (by decide) (by decide)))).other W18 (Or.inr (slot_ne (Or.inl (hw _ (List.mem_of_getElem? (i := 20) rfl))) (Or.inl (hw _ (List.mem_of_getElem? (i := 17) rfl))) (by decide) (t := .int) (t' := (.object "java/util/Set")) (by decide) (by decide)))) (((((((((E_a.wr W3).wr W4).wr W6).wr W8).wr W10).wr W12).wr W14).wr W16).wr W18) (Or.inl (hw _ (List.mem_of_getElem? (i := 20) rfl))) (hw _ (List.mem_of_getElem? (i := 2) rfl)) (ty := .int) (by decide) rfl rfl (g := (mkF mm 77 #[.val (.ref a), .val (.ref o)] [(.int f1), (.ref a)])) rfl rfl (hb hby d7_77)
  have Fw20 : Fld Z h20 a "com/example/stops_to_routes/stopstoroutes/planner/Vehicle" "maxStops" "I" (.int f1) := (((((((Fw4.other W6 (Or.inr (slot_ne (Or.inl (hw _ (List.mem_of_getElem? (i := 20) rfl))) (Or.inl (hw _ (List.mem_of_getElem? (i := 27) rfl))) (by decide) (t := .int) (t' := (.object "java/util/List")) (by decide) (by decide)))).other W8 (Or.inr (slot_ne (Or.inl (hw _ (List.mem_of_getElem? (i := 20) rfl))) (Or.inr (hw _ (List.mem_of_getElem? (i := 29) rfl))) (by decide) (t := .int) (t' := .int) (by decide) (by decide)))).other W10 (Or.inr (slot_ne (Or.inl (hw _ (List.mem_of_getElem? (i := 20) rfl))) (Or.inr (hw _ (List.mem_of_getElem? (i := 31) rfl))) (by decide) (t := .int) (t' := .int) (by decide) (by decide)))).other W12 (Or.inr (slot_ne (Or.inl (hw _ (List.mem_of_getElem? (i := 20) rfl))) (Or.inr (hw _ (List.mem_of_getElem? (i := 33) rfl))) (by decide) (t := .int) (t' := .long) (by decide) (by decide)))).other W14 (Or.inr (slot_ne (Or.inl (hw _ (List.mem_of_getElem? (i := 20) rfl))) (Or.inr (hw _ (List.mem_of_getElem? (i := 35) rfl))) (by decide) (t := .int) (t' := .long) (by decide) (by decide)))).other W16 (Or.inr (slot_ne (Or.inl (hw _ (List.mem_of_getElem? (i := 20) rfl))) (Or.inr (hw _ (List.mem_of_getElem? (i := 46) rfl))) (by decide) (t := .int) (t' := (.array .long)) (by decide) (by decide)))).other W18 (Or.inr (slot_ne (Or.inl (hw _ (List.mem_of_getElem? (i := 20) rfl))) (Or.inl (hw _ (List.mem_of_getElem? (i := 17) rfl))) (by decide) (t := .int) (t' := (.object "java/util/Set")) (by decide) (by decide)))).same W20
  have N20 := Fr.snoc X20 N18 g_a
  have O20 := O18.wr W20 g_a
  have KK20 := KK18.wr W20 (Or.inl (by simp))
  obtain ⟨T21, X21, e21, st21⟩ := getF X20 hx hZ hown (host := "") (Or.inl (hw _ (List.mem_of_getElem? (i := 26) rfl))) Via.refl e20 ((((((((((F_breaks_o.other W3 (Or.inl hne)).other W4 (Or.inl hne)).other W6 (Or.inl hne)).other W8 (Or.inl hne)).other W10 (Or.inl hne)).other W12 (Or.inl hne)).other W14 (Or.inl hne)).other W16 (Or.inl hne)).other W18 (Or.inl hne)).other W20 (Or.inl hne)) (g := (mkF mm 82 #[.val (.ref a), .val (.ref o)] [(.ref o), (.ref a)])) rfl rfl (hb hby d7_82)
  obtain ⟨T22, h22, X22, e22, W22, st22⟩ := putF X21 hx hZ hown (host := "") (Or.inl (hw _ (List.mem_of_getElem? (i := 26) rfl))) Via.refl e21 (((((((Fw6.other W8 (Or.inr (slot_ne (Or.inl (hw _ (List.mem_of_getElem? (i := 27) rfl))) (Or.inr (hw _ (List.mem_of_getElem? (i := 29) rfl))) (by decide) (t := (.object "java/util/List")) (t' := .int) (by decide) (by decide)))).other W10 (Or.inr (slot_ne (Or.inl (hw _ (List.mem_of_getElem? (i := 27) rfl))) (Or.inr (hw _ (List.mem_of_getElem? (i := 31) rfl))) (by decide) (t := (.object "java/util/List")) (t' := .int) (by decide) (by decide)))).other W12 (Or.inr (slot_ne (Or.inl (hw _ (List.mem_of_getElem? (i := 27) rfl))) (Or.inr (hw _ (List.mem_of_getElem? (i := 33) rfl))) (by decide) (t := (.object "java/util/List")) (t' := .long) (by decide) (by decide)))).other W14 (Or.inr (slot_ne (Or.inl (hw _ (List.mem_of_getElem? (i := 27) rfl))) (Or.inr (hw _ (List.mem_of_getElem? (i := 35) rfl))) (by decide) (t := (.object "java/util/List")) (t' := .long) (by decide) (by decide)))).other W16 (Or.inr (slot_ne (Or.inl (hw _ (List.mem_of_getElem? (i := 27) rfl))) (Or.inr (hw _ (List.mem_of_getElem? (i := 46) rfl))) (by decide) (t := (.object "java/util/List")) (t' := (.array .long)) (by decide) (by decide)))).other W18 (Or.inr (slot_ne (Or.inl (hw _ (List.mem_of_getElem? (i := 27) rfl))) (Or.inl (hw _ (List.mem_of_getElem? (i := 17) rfl))) (by decide) (t := (.object "java/util/List")) (t' := (.object "java/util/Set")) (by decide) (by decide)))).other W20 (Or.inr (slot_ne (Or.inl (hw _ (List.mem_of_getElem? (i := 27) rfl))) (Or.inl (hw _ (List.mem_of_getElem? (i := 20) rfl))) (by decide) (t := (.object "java/util/List")) (t' := .int) (by decide) (by decide)))) ((((((((((E_a.wr W3).wr W4).wr W6).wr W8).wr W10).wr W12).wr W14).wr W16).wr W18).wr W20) (Or.inl (hw _ (List.mem_of_getElem? (i := 27) rfl))) (hw _ (List.mem_of_getElem? (i := 2) rfl)) (ty := (.object "java/util/List")) (by decide) rfl rfl (g := (mkF mm 85 #[.val (.ref a), .val (.ref o)] [(.ref f2), (.ref a)])) rfl rfl (hb hby d7_85)
  have Fw22 : Fld Z h22 a "com/example/stops_to_routes/stopstoroutes/planner/Vehicle" "breaks" "Ljava/util/List;" (.ref f2) := (((((((Fw6.other W8 (Or.inr (slot_ne (Or.inl (hw _ (List.mem_of_getElem? (i := 27) rfl))) (Or.inr (hw _ (List.mem_of_getElem? (i := 29) rfl))) (by decide) (t := (.object "java/util/List")) (t' := .int) (by decide) (by decide)))).other W10 (Or.inr (slot_ne (Or.inl (hw _ (List.mem_of_getElem? (i := 27) rfl))) (Or.inr (hw _ (List.mem_of_getElem? (i := 31) rfl))) (by decide) (t := (.object "java/util/List")) (t' := .int) (by decide) (by decide)))).other W12 (Or.inr (slot_ne (Or.inl (hw _ (List.mem_of_getElem? (i := 27) rfl))) (Or.inr (hw _ (List.mem_of_getElem? (i := 33) rfl))) (by decide) (t := (.object "java/util/List")) (t' := .long) (by decide) (by decide)))).other W14 (Or.inr (slot_ne (Or.inl (hw _ (List.mem_of_getElem? (i := 27) rfl))) (Or.inr (hw _ (List.mem_of_getElem? (i := 35) rfl))) (by decide) (t := (.object "java/util/List")) (t' := .long) (by decide) (by decide)))).other W16 (Or.inr (slot_ne (Or.inl (hw _ (List.mem_of_getElem? (i := 27) rfl))) (Or.inr (hw _ (List.mem_of_getElem? (i := 46) rfl))) (by decide) (t := (.object "java/util/List")) (t' := (.array .long)) (by decide) (by decide)))).other W18 (Or.inr (slot_ne (Or.inl (hw _ (List.mem_of_getElem? (i := 27) rfl))) (Or.inl (hw _ (List.mem_of_getElem? (i := 17) rfl))) (by decide) (t := (.object "java/util/List")) (t' := (.object "java/util/Set")) (by decide) (by decide)))).other W20 (Or.inr (slot_ne (Or.inl (hw _ (List.mem_of_getElem? (i := 27) rfl))) (Or.inl (hw _ (List.mem_of_getElem? (i := 20) rfl))) (by decide) (t := (.object "java/util/List")) (t' := .int) (by decide) (by decide)))).same W22
  have N22 := Fr.snoc X22 N20 g_a
  have O22 := O20.wr W22 g_a
  have KK22 := KK20.wr W22 (Or.inl (by simp))
  obtain ⟨fs, hr, hrun, hended, hW, hsame⟩ := X22.leave (v := none) (fun _ => rfl)
  refine ⟨_, _, pre0 _ ?_, hrun, hended, _, _, rfl, ?_, ⟨_, rfl⟩, hW, hsame.mono (by decide) (by decide)⟩
  · show Steps pg.tables ee below (s₁.setTop (mkF mm 0 #[.val (.ref a), .val (.ref o)] [])) _
    refine XS.aloadN X0.here hx rfl (hb hby d7_0) rfl rfl ?_
    show Steps pg.tables ee below (s₁.setTop (mkF mm 1 #[.val (.ref a), .val (.ref o)] [(.ref a)])) _
    refine st1 _ ?_
    show Steps pg.tables ee below (T1.setTop (mkF mm 4 #[.val (.ref a), .val (.ref o)] [])) _
    refine XS.aloadN X1.here hx rfl (hb hby d7_4) rfl rfl ?_
    show Steps pg.tables ee below (T1.setTop (mkF mm 5 #[.val (.ref a), .val (.ref o)] [(.ref a)])) _
    refine st2 _ ?_
    show Steps pg.tables ee below (T2.setTop (mkF mm 8 #[.val (.ref a), .val (.ref o)] [(.ref aS), (.ref a)])) _
    refine st3 _ ?_
    show Steps pg.tables ee below (T3.setTop (mkF mm 11 #[.val (.ref a), .val (.ref o)] [])) _
    refine XS.aloadN X3.here hx rfl (hb hby d7_11) rfl rfl ?_
    show Steps pg.tables ee below (T3.setTop (mkF mm 12 #[.val (.ref a), .val (.ref o)] [(.ref a)])) _
    refine X3.ldcInt hx hown (mvT hZ (hw _ (List.mem_of_getElem? (i := 18) rfl))) (g := (mkF mm 12 #[.val (.ref a), .val (.ref o)] [(.ref a)])) rfl (hb hby d7_12) _ ?_
    show Steps pg.tables ee below (T3.setTop (mkF mm 14 #[.val (.ref a), .val (.ref o)] [(.int (2147483647 : Int32)), (.ref a)])) _
    refine st4 _ ?_
    show Steps pg.tables ee below (T4.setTop (mkF mm 17 #[.val (.ref a), .val (.ref o)] [])) _
    refine XS.aloadN X4.here hx rfl (hb hby d7_17) rfl rfl ?_
    show Steps pg.tables ee below (T4.setTop (mkF mm 18 #[.val (.ref a), .val (.ref o)] [(.ref a)])) _
    refine st5 _ ?_
    show Steps pg.tables ee below (T5.setTop (mkF mm 21 #[.val (.ref a), .val (.ref o)] [(.ref aL), (.ref a)])) _
    refine st6 _ ?_
    show Steps pg.tables ee below (T6.setTop (mkF mm 24 #[.val (.ref a), .val (.ref o)] [])) _
    refine XS.aloadN X6.here hx rfl (hb hby d7_24) rfl rfl ?_
    show Steps pg.tables ee below (T6.setTop (mkF mm 25 #[.val (.ref a), .val (.ref o)] [(.ref a)])) _
    refine XS.aloadN X6.here hx rfl (hb hby d7_25) rfl rfl ?_
    show Steps pg.tables ee below (T6.setTop (mkF mm 26 #[.val (.ref a), .val (.ref o)] [(.ref o), (.ref a)])) _
    refine st7 _ ?_
    show Steps pg.tables ee below (T7.setTop (mkF mm 29 #[.val (.ref a), .val (.ref o)] [(.int f3), (.ref a)])) _
    refine st8 _ ?_
    show Steps pg.tables ee below (T8.setTop (mkF mm 32 #[.val (.ref a), .val (.ref o)] [])) _
    refine XS.aloadN X8.here hx rfl (hb hby d7_32) rfl rfl ?_
    show Steps pg.tables ee below (T8.setTop (mkF mm 33 #[.val (.ref a), .val (.ref o)] [(.ref a)])) _
    refine XS.aloadN X8.here hx rfl (hb hby d7_33) rfl rfl ?_
    show Steps pg.tables ee below (T8.setTop (mkF mm 34 #[.val (.ref a), .val (.ref o)] [(.ref o), (.ref a)])) _
    refine st9 _ ?_
    show Steps pg.tables ee below (T9.setTop (mkF mm 37 #[.val (.ref a), .val (.ref o)] [(.int f4), (.ref a)])) _
    refine st10 _ ?_
    show Steps pg.tables ee below (T10.setTop (mkF mm 40 #[.val (.ref a), .val (.ref o)] [])) _
    refine XS.aloadN X10.here hx rfl (hb hby d7_40) rfl rfl ?_
    show Steps pg.tables ee below (T10.setTop (mkF mm 41 #[.val (.ref a), .val (.ref o)] [(.ref a)])) _
    refine XS.aloadN X10.here hx rfl (hb hby d7_41) rfl rfl ?_
    show Steps pg.tables ee below (T10.setTop (mkF mm 42 #[.val (.ref a), .val (.ref o)] [(.ref o), (.ref a)])) _
    refine st11 _ ?_
    show Steps pg.tables ee below (T11.setTop (mkF mm 45 #[.val (.ref a), .val (.ref o)] [(.long f5), (.ref a)])) _
    refine st12 _ ?_
    show Steps pg.tables ee below (T12.setTop (mkF mm 48 #[.val (.ref a), .val (.ref o)] [])) _
    refine XS.aloadN X12.here hx rfl (hb hby d7_48) rfl rfl ?_
    show Steps pg.tables ee below (T12.setTop (mkF mm 49 #[.val (.ref a), .val (.ref o)] [(.ref a)])) _
    refine XS.aloadN X12.here hx rfl (hb hby d7_49) rfl rfl ?_
    show Steps pg.tables ee below (T12.setTop (mkF mm 50 #[.val (.ref a), .val (.ref o)] [(.ref o), (.ref a)])) _
    refine st13 _ ?_
    show Steps pg.tables ee below (T13.setTop (mkF mm 53 #[.val (.ref a), .val (.ref o)] [(.long f6), (.ref a)])) _
    refine st14 _ ?_
    show Steps pg.tables ee below (T14.setTop (mkF mm 56 #[.val (.ref a), .val (.ref o)] [])) _
    refine XS.aloadN X14.here hx rfl (hb hby d7_56) rfl rfl ?_
    show Steps pg.tables ee below (T14.setTop (mkF mm 57 #[.val (.ref a), .val (.ref o)] [(.ref a)])) _
    refine XS.aloadN X14.here hx rfl (hb hby d7_57) rfl rfl ?_
    show Steps pg.tables ee below (T14.setTop (mkF mm 58 #[.val (.ref a), .val (.ref o)] [(.ref o), (.ref a)])) _
    refine st15 _ ?_
    show Steps pg.tables ee below (T15.setTop (mkF mm 61 #[.val (.ref a), .val (.ref o)] [(.ref f7), (.ref a)])) _
    refine st16 _ ?_
    show Steps pg.tables ee below (T16.setTop (mkF mm 64 #[.val (.ref a), .val (.ref o)] [])) _
    refine XS.aloadN X16.here hx rfl (hb hby d7_64) rfl rfl ?_
    show Steps pg.tables ee below (T16.setTop (mkF mm 65 #[.val (.ref a), .val (.ref o)] [(.ref a)])) _
    refine XS.aloadN X16.here hx rfl (hb hby d7_65) rfl rfl ?_
    show Steps pg.tables ee below (T16.setTop (mkF mm 66 #[.val (.ref a), .val (.ref o)] [(.ref o), (.ref a)])) _
    refine st17 _ ?_
    show Steps pg.tables ee below (T17.setTop (mkF mm 69 #[.val (.ref a), .val (.ref o)] [(.ref f0), (.ref a)])) _
    refine st18 _ ?_
    show Steps pg.tables ee below (T18.setTop (mkF mm 72 #[.val (.ref a), .val (.ref o)] [])) _
    refine XS.aloadN X18.here hx rfl (hb hby d7_72) rfl rfl ?_
    show Steps pg.tables ee below (T18.setTop (mkF mm 73 #[.val (.ref a), .val (.ref o)] [(.ref a)])) _
    refine XS.aloadN X18.here hx rfl (hb hby d7_73) rfl rfl ?_
    show Steps pg.tables ee below (T18.setTop (mkF mm 74 #[.val (.ref a), .val (.ref o)] [(.ref o), (.ref a)])) _
    refine st19 _ ?_
    show Steps pg.tables ee below (T19.setTop (mkF mm 77 #[.val (.ref a), .val (.ref o)] [(.int f1), (.ref a)])) _
    refine st20 _ ?_
    show Steps pg.tables ee below (T20.setTop (mkF mm 80 #[.val (.ref a), .val (.ref o)] [])) _
    refine XS.aloadN X20.here hx rfl (hb hby d7_80) rfl rfl ?_
    show Steps pg.tables ee below (T20.setTop (mkF mm 81 #[.val (.ref a), .val (.ref o)] [(.ref a)])) _
    refine XS.aloadN X20.here hx rfl (hb hby d7_81) rfl rfl ?_
    show Steps pg.tables ee below (T20.setTop (mkF mm 82 #[.val (.ref a), .val (.ref o)] [(.ref o), (.ref a)])) _
    refine st21 _ ?_
    show Steps pg.tables ee below (T21.setTop (mkF mm 85 #[.val (.ref a), .val (.ref o)] [(.ref f2), (.ref a)])) _
    refine st22 _ ?_
    show Steps pg.tables ee below (T22.setTop (mkF mm 88 #[.val (.ref a), .val (.ref o)] [])) _
    exact X22.returnOut hx Bd.returns (hb hby d7_88) hr
  · show QrmC Z a o f0 f1 f2 f3 f4 f5 f6 f7 aS aL h0 n0 _ T22.heap _
    rw [e22]
    exact ⟨rfl, N22, KK22, (((((((((((E_a.wr W3).wr W4).wr W6).wr W8).wr W10).wr W12).wr W14).wr W16).wr W18).wr W20).wr W22), ((Fw18.other W20 (Or.inr (slot_ne (Or.inl (hw _ (List.mem_of_getElem? (i := 17) rfl))) (Or.inl (hw _ (List.mem_of_getElem? (i := 20) rfl))) (by decide) (t := (.object "java/util/Set")) (t' := .int) (by decide) (by decide)))).other W22 (Or.inr (slot_ne (Or.inl (hw _ (List.mem_of_getElem? (i := 17) rfl))) (Or.inl (hw _ (List.mem_of_getElem? (i := 27) rfl))) (by decide) (t := (.object "java/util/Set")) (t' := (.object "java/util/List")) (by decide) (by decide)))), (Fw20.other W22 (Or.inr (slot_ne (Or.inl (hw _ (List.mem_of_getElem? (i := 20) rfl))) (Or.inl (hw _ (List.mem_of_getElem? (i := 27) rfl))) (by decide) (t := .int) (t' := (.object "java/util/List")) (by decide) (by decide)))), Fw22, (((((((Fw8.other W10 (Or.inr (slot_ne (Or.inr (hw _ (List.mem_of_getElem? (i := 29) rfl))) (Or.inr (hw _ (List.mem_of_getElem? (i := 31) rfl))) (by decide) (t := .int) (t' := .int) (by decide) (by decide)))).other W12 (Or.inr (slot_ne (Or.inr (hw _ (List.mem_of_getElem? (i := 29) rfl))) (Or.inr (hw _ (List.mem_of_getElem? (i := 33) rfl))) (by decide) (t := .int) (t' := .long) (by decide) (by decide)))).other W14 (Or.inr (slot_ne (Or.inr (hw _ (List.mem_of_getElem? (i := 29) rfl))) (Or.inr (hw _ (List.mem_of_getElem? (i := 35) rfl))) (by decide) (t := .int) (t' := .long) (by decide) (by decide)))).other W16 (Or.inr (slot_ne (Or.inr (hw _ (List.mem_of_getElem? (i := 29) rfl))) (Or.inr (hw _ (List.mem_of_getElem? (i := 46) rfl))) (by decide) (t := .int) (t' := (.array .long)) (by decide) (by decide)))).other W18 (Or.inr (slot_ne (Or.inr (hw _ (List.mem_of_getElem? (i := 29) rfl))) (Or.inl (hw _ (List.mem_of_getElem? (i := 17) rfl))) (by decide) (t := .int) (t' := (.object "java/util/Set")) (by decide) (by decide)))).other W20 (Or.inr (slot_ne (Or.inr (hw _ (List.mem_of_getElem? (i := 29) rfl))) (Or.inl (hw _ (List.mem_of_getElem? (i := 20) rfl))) (by decide) (t := .int) (t' := .int) (by decide) (by decide)))).other W22 (Or.inr (slot_ne (Or.inr (hw _ (List.mem_of_getElem? (i := 29) rfl))) (Or.inl (hw _ (List.mem_of_getElem? (i := 27) rfl))) (by decide) (t := .int) (t' := (.object "java/util/List")) (by decide) (by decide)))), ((((((Fw10.other W12 (Or.inr (slot_ne (Or.inr (hw _ (List.mem_of_getElem? (i := 31) rfl))) (Or.inr (hw _ (List.mem_of_getElem? (i := 33) rfl))) (by decide) (t := .int) (t' := .long) (by decide) (by decide)))).other W14 (Or.inr (slot_ne (Or.inr (hw _ (List.mem_of_getElem? (i := 31) rfl))) (Or.inr (hw _ (List.mem_of_getElem? (i := 35) rfl))) (by decide) (t := .int) (t' := .long) (by decide) (by decide)))).other W16 (Or.inr (slot_ne (Or.inr (hw _ (List.mem_of_getElem? (i := 31) rfl))) (Or.inr (hw _ (List.mem_of_getElem? (i := 46) rfl))) (by decide) (t := .int) (t' := (.array .long)) (by decide) (by decide)))).other W18 (Or.inr (slot_ne (Or.inr (hw _ (List.mem_of_getElem? (i := 31) rfl))) (Or.inl (hw _ (List.mem_of_getElem? (i := 17) rfl))) (by decide) (t := .int) (t' := (.object "java/util/Set")) (by decide) (by decide)))).other W20 (Or.inr (slot_ne (Or.inr (hw _ (List.mem_of_getElem? (i := 31) rfl))) (Or.inl (hw _ (List.mem_of_getElem? (i := 20) rfl))) (by decide) (t := .int) (t' := .int) (by decide) (by decide)))).other W22 (Or.inr (slot_ne (Or.inr (hw _ (List.mem_of_getElem? (i := 31) rfl))) (Or.inl (hw _ (List.mem_of_getElem? (i := 27) rfl))) (by decide) (t := .int) (t' := (.object "java/util/List")) (by decide) (by decide)))), (((((Fw12.other W14 (Or.inr (slot_ne (Or.inr (hw _ (List.mem_of_getElem? (i := 33) rfl))) (Or.inr (hw _ (List.mem_of_getElem? (i := 35) rfl))) (by decide) (t := .long) (t' := .long) (by decide) (by decide)))).other W16 (Or.inr (slot_ne (Or.inr (hw _ (List.mem_of_getElem? (i := 33) rfl))) (Or.inr (hw _ (List.mem_of_getElem? (i := 46) rfl))) (by decide) (t := .long) (t' := (.array .long)) (by decide) (by decide)))).other W18 (Or.inr (slot_ne (Or.inr (hw _ (List.mem_of_getElem? (i := 33) rfl))) (Or.inl (hw _ (List.mem_of_getElem? (i := 17) rfl))) (by decide) (t := .long) (t' := (.object "java/util/Set")) (by decide) (by decide)))).other W20 (Or.inr (slot_ne (Or.inr (hw _ (List.mem_of_getElem? (i := 33) rfl))) (Or.inl (hw _ (List.mem_of_getElem? (i := 20) rfl))) (by decide) (t := .long) (t' := .int) (by decide) (by decide)))).other W22 (Or.inr (slot_ne (Or.inr (hw _ (List.mem_of_getElem? (i := 33) rfl))) (Or.inl (hw _ (List.mem_of_getElem? (i := 27) rfl))) (by decide) (t := .long) (t' := (.object "java/util/List")) (by decide) (by decide)))), ((((Fw14.other W16 (Or.inr (slot_ne (Or.inr (hw _ (List.mem_of_getElem? (i := 35) rfl))) (Or.inr (hw _ (List.mem_of_getElem? (i := 46) rfl))) (by decide) (t := .long) (t' := (.array .long)) (by decide) (by decide)))).other W18 (Or.inr (slot_ne (Or.inr (hw _ (List.mem_of_getElem? (i := 35) rfl))) (Or.inl (hw _ (List.mem_of_getElem? (i := 17) rfl))) (by decide) (t := .long) (t' := (.object "java/util/Set")) (by decide) (by decide)))).other W20 (Or.inr (slot_ne (Or.inr (hw _ (List.mem_of_getElem? (i := 35) rfl))) (Or.inl (hw _ (List.mem_of_getElem? (i := 20) rfl))) (by decide) (t := .long) (t' := .int) (by decide) (by decide)))).other W22 (Or.inr (slot_ne (Or.inr (hw _ (List.mem_of_getElem? (i := 35) rfl))) (Or.inl (hw _ (List.mem_of_getElem? (i := 27) rfl))) (by decide) (t := .long) (t' := (.object "java/util/List")) (by decide) (by decide)))), (((Fw16.other W18 (Or.inr (slot_ne (Or.inr (hw _ (List.mem_of_getElem? (i := 46) rfl))) (Or.inl (hw _ (List.mem_of_getElem? (i := 17) rfl))) (by decide) (t := (.array .long)) (t' := (.object "java/util/Set")) (by decide) (by decide)))).other W20 (Or.inr (slot_ne (Or.inr (hw _ (List.mem_of_getElem? (i := 46) rfl))) (Or.inl (hw _ (List.mem_of_getElem? (i := 20) rfl))) (by decide) (t := (.array .long)) (t' := .int) (by decide) (by decide)))).other W22 (Or.inr (slot_ne (Or.inr (hw _ (List.mem_of_getElem? (i := 46) rfl))) (Or.inl (hw _ (List.mem_of_getElem? (i := 27) rfl))) (by decide) (t := (.array .long)) (t' := (.object "java/util/List")) (by decide) (by decide))))⟩
theorem d6_0 : decode prog_34_method_4_code 0 = .ok (.new 16, 3) := by decide +kernel
theorem d6_3 : decode prog_34_method_4_code 3 = .ok (.dup, 1) := by decide +kernel
theorem d6_4 : decode prog_34_method_4_code 4 = .ok (.aload_n 0, 1) := by decide +kernel
theorem d6_5 : decode prog_34_method_4_code 5 = .ok (.invokespecial 57, 3) := by decide +kernel
theorem pd_90 : parseMethodDescriptor "(Lcom/example/stops_to_routes/stopstoroutes/planner/Vehicle;)V" = some ⟨[(.object "com/example/stops_to_routes/stopstoroutes/planner/Vehicle")], none⟩ := by decide +kernel
theorem d6_8 : decode prog_34_method_4_code 8 = .ok (.astore_n 2, 1) := by decide +kernel
theorem d6_9 : decode prog_34_method_4_code 9 = .ok (.aload_n 2, 1) := by decide +kernel
theorem d6_10 : decode prog_34_method_4_code 10 = .ok (.iload_n 1, 1) := by decide +kernel
theorem d6_11 : decode prog_34_method_4_code 11 = .ok (.putfield 22, 3) := by decide +kernel
theorem d6_14 : decode prog_34_method_4_code 14 = .ok (.aload_n 2, 1) := by decide +kernel
theorem d6_15 : decode prog_34_method_4_code 15 = .ok (.areturn, 1) := by decide +kernel
theorem ef_6_97 (m : MethodId) (x0 : Addr) (x1 : Int32) : entryFrame m #[(.ref x0), (.int x1)] 3 = mkF m 0 #[.val (.ref x0), .val (.int x1), .unset] [] := by first | (simp [entryFrame, mkF, argsToLocals, Value.category]; done) | rfl
def QrmS (Z : State) (o : Addr) (ms : Int32) (f0 : Addr) (f1 : Int32) (f2 : Addr) (f3 : Int32) (f4 : Int32) (f5 : Int64) (f6 : Int64) (f7 : Addr) (aS : Addr) (aL : Addr) (h0 : Heap) (n0 : Nat) (v : Option Value) (h : Heap) (L : List Loc) : Prop := ∃ b : Addr, v = some (.ref b) ∧ Fr n0 L ∧ Keep h0 h [] ∧ Exa Z h b "com/example/stops_to_routes/stopstoroutes/planner/Vehicle" ∧ Fld Z h b "com/example/stops_to_routes/stopstoroutes/planner/Vehicle" "end" "I" (.int f4)
set_option maxRecDepth 65536 in
set_option maxHeartbeats 40000000 in
theorem rmS (l : Launch) (Z : State) (a0 : Array Value) (hw : ∀ d ∈ tables_1, d.before a0 Z = true) (ws : List Jvm.Cond) (o : Addr) (ms : Int32) (f0 : Addr) (f1 : Int32) (f2 : Addr) (f3 : Int32) (f4 : Int32) (f5 : Int64) (f6 : Int64) (f7 : Addr) (aS : Addr) (aL : Addr) (h0 : Heap) (n0 : Nat) (O0 : Old Z n0 h0) (E_o : Exa Z h0 o "com/example/stops_to_routes/stopstoroutes/planner/Vehicle") (F_skills_o : Fld Z h0 o "com/example/stops_to_routes/stopstoroutes/planner/Vehicle" "skills" "Ljava/util/Set;" (.ref f0)) (F_maxStops_o : Fld Z h0 o "com/example/stops_to_routes/stopstoroutes/planner/Vehicle" "maxStops" "I" (.int f1)) (F_breaks_o : Fld Z h0 o "com/example/stops_to_routes/stopstoroutes/planner/Vehicle" "breaks" "Ljava/util/List;" (.ref f2)) (F_start_o : Fld Z h0 o "com/example/stops_to_routes/stopstoroutes/planner/Vehicle" "start" "I" (.int f3)) (F_end_o : Fld Z h0 o "com/example/stops_to_routes/stopstoroutes/planner/Vehicle" "end" "I" (.int f4)) (F_shiftStart_o : Fld Z h0 o "com/example/stops_to_routes/stopstoroutes/planner/Vehicle" "shiftStart" "J" (.long f5)) (F_shiftEnd_o : Fld Z h0 o "com/example/stops_to_routes/stopstoroutes/planner/Vehicle" "shiftEnd" "J" (.long f6)) (F_capacity_o : Fld Z h0 o "com/example/stops_to_routes/stopstoroutes/planner/Vehicle" "capacity" "[J" (.ref f7)) (S_EMPTY_SET : Sta Z Z.heap "java/util/ImmutableCollections" "EMPTY_SET" "Ljava/util/ImmutableCollections$SetN;" (.ref aS)) (S_EMPTY_LIST : Sta Z Z.heap "java/util/ImmutableCollections" "EMPTY_LIST" "Ljava/util/ImmutableCollections$ListN;" (.ref aL)) :
    MetFree l (⟨"com/example/stops_to_routes/stopstoroutes/planner/Vehicle", "servingAtMost", "(I)Lcom/example/stops_to_routes/stopstoroutes/planner/Vehicle;"⟩ : MethodName) (head1 (Jvm.Cond.code (⟨"com/example/stops_to_routes/stopstoroutes/planner/Vehicle", "servingAtMost", "(I)Lcom/example/stops_to_routes/stopstoroutes/planner/Vehicle;"⟩ : MethodName) prog_34_method_4_code 3 (some (.object "com/example/stops_to_routes/stopstoroutes/planner/Vehicle")) :: ws) ({ frames := 2, cells := 1, slots := 8, locals := 26 } : Room)) (fun a_ U_ => a_ = #[(.ref o), (.int ms)] ∧ Z.Warmed39 U_.vm ∧ U_.heap = h0) (fun _ _ _ _ _ => True) (fun _ U_ o_ U'_ => ∃ v_ L_, o_ = .returned v_ ∧ QrmS Z o ms f0 f1 f2 f3 f4 f5 f6 f7 aS aL h0 n0 v_ U'_.heap L_ ∧ FrameEnd U_ o_ U'_ L_ ({ frames := 2, cells := 1, slots := 8, locals := 26 } : Room).cells ({ frames := 2, cells := 1, slots := 8, locals := 26 } : Room).slots) := by
  refine MetFree.of_bodySF (plainFor_of_name pn_39) hisR ?_
  intro pg ee s mm args below meth cc s₁ Bd hml0 hP hK
  obtain ⟨rfl, hZ, hh⟩ := hP
  have hx := Bd.exec
  have hby := Bd.bytes
  have hml : cc.maxLocals = 3 := hml0
  have hown : s.vm.findClass "com/example/stops_to_routes/stopstoroutes/planner/Vehicle" = some mm.cls := findClass_of_methodNamed Bd.named
  have hnm := (name_of_methodNamed Bd.named Bd.method).1
  have X0 : Stand pg l ee ({ frames := 2, cells := 1, slots := 8, locals := 26 } : Room) s mm #[(.ref o), (.int ms)] below meth cc s₁ [] 0 0 := Stand.of_body Bd
  have e0 : s₁.heap = h0 := by rw [← hh, Bd.state]; rfl
  have N0 := Fr.nil n0
  have K0 : Keep h0 h0 ([] : List Addr) := Keep.refl _ _
  have pre0 : ∀ t, Steps pg.tables ee below (s₁.setTop (mkF mm 0 #[.val (.ref o), .val (.int ms), .unset] [])) t → Steps pg.tables ee below (s₁.setTop (entryFrame mm #[(.ref o), (.int ms)] 3)) t := fun t k => castTop (ef_6_97 mm o ms) k
  obtain ⟨T1, h1, X1, e1, E1, A1, D1, -, st1⟩ := newO X0 hx hZ hown (hw _ (List.mem_of_getElem? (i := 57) rfl)) (hw _ (List.mem_of_getElem? (i := 2) rfl)) (hw _ (List.mem_of_getElem? (i := 3) rfl)) e0 (g := (mkF mm 0 #[.val (.ref o), .val (.int ms), .unset] [])) rfl (hb hby d6_0) (by decide) (by decide)
  obtain ⟨b1, g1⟩ : ∃ z, z = h0.size := ⟨_, rfl⟩
  rw [← g1] at A1 D1 st1
  have g_b1 : n0 ≤ b1 := Nat.le_trans (O0.1 ▸ O0.2.1) (Nat.le_of_eq g1.symm)
  have sz_b1 : h0.size ≤ b1 := Nat.le_trans K0.1 (Nat.le_of_eq g1.symm)
  have O1 := O0.ext E1
  have KK1 := K0.ext E1
  have F_skills_b1 : Fld Z h1 b1 "com/example/stops_to_routes/stopstoroutes/planner/Vehicle" "skills" "Ljava/util/Set;" .null := D1 (Or.inl (hw _ (List.mem_of_getElem? (i := 17) rfl))) (ty := (.object "java/util/Set")) (by decide)
  have F_maxStops_b1 : Fld Z h1 b1 "com/example/stops_to_routes/stopstoroutes/planner/Vehicle" "maxStops" "I" (.int (0 : Int32)) := D1 (Or.inl (hw _ (List.mem_of_getElem? (i := 20) rfl))) (ty := .int) (by decide)
  have F_breaks_b1 : Fld Z h1 b1 "com/example/stops_to_routes/stopstoroutes/planner/Vehicle" "breaks" "Ljava/util/List;" .null := D1 (Or.inl (hw _ (List.mem_of_getElem? (i := 27) rfl))) (ty := (.object "java/util/List")) (by decide)
  have F_start_b1 : Fld Z h1 b1 "com/example/stops_to_routes/stopstoroutes/planner/Vehicle" "start" "I" (.int (0 : Int32)) := D1 (Or.inr (hw _ (List.mem_of_getElem? (i := 29) rfl))) (ty := .int) (by decide)
  have F_end_b1 : Fld Z h1 b1 "com/example/stops_to_routes/stopstoroutes/planner/Vehicle" "end" "I" (.int (0 : Int32)) := D1 (Or.inr (hw _ (List.mem_of_getElem? (i := 31) rfl))) (ty := .int) (by decide)
  have F_shiftStart_b1 : Fld Z h1 b1 "com/example/stops_to_routes/stopstoroutes/planner/Vehicle" "shiftStart" "J" (.long (0 : Int64)) := D1 (Or.inr (hw _ (List.mem_of_getElem? (i := 33) rfl))) (ty := .long) (by decide)
  have F_shiftEnd_b1 : Fld Z h1 b1 "com/example/stops_to_routes/stopstoroutes/planner/Vehicle" "shiftEnd" "J" (.long (0 : Int64)) := D1 (Or.inr (hw _ (List.mem_of_getElem? (i := 35) rfl))) (ty := .long) (by decide)
  have F_capacity_b1 : Fld Z h1 b1 "com/example/stops_to_routes/stopstoroutes/planner/Vehicle" "capacity" "[J" .null := D1 (Or.inr (hw _ (List.mem_of_getElem? (i := 46) rfl))) (ty := (.array .long)) (by decide)
  obtain ⟨_, _, ⟨T2, L2, k2, n2⟩, -, X2, ⟨Lc2, hQ2, l2, y2, z2⟩, st2⟩ := X1.specialBack hx (y := (⟨"com/example/stops_to_routes/stopstoroutes/planner/Vehicle", "<init>", "(Lcom/example/stops_to_routes/stopstoroutes/planner/Vehicle;)V"⟩ : MethodName)) rfl hown (mvT hZ (hw _ (List.mem_of_getElem? (i := 58) rfl))) (mvT hZ (hw _ (List.mem_of_getElem? (i := 59) rfl))) (mvT hZ (hw _ (List.mem_of_getElem? (i := 60) rfl))) (by decide) (backOf (W := 1) (rmC l Z a0 hw [] b1 o f0 f1 f2 f3 f4 f5 f6 f7 aS aL h1 n0 O1 A1 F_skills_b1 F_maxStops_b1 F_breaks_b1 F_start_b1 F_end_b1 F_shiftStart_b1 F_shiftEnd_b1 F_capacity_b1 g_b1 (E_o.ext E1) (F_skills_o.ext E1) (F_maxStops_o.ext E1) (F_breaks_o.ext E1) (F_start_o.ext E1) (F_end_o.ext E1) (F_shiftStart_o.ext E1) (F_shiftEnd_o.ext E1) (F_capacity_o.ext E1) (Nat.ne_of_lt (Nat.lt_of_lt_of_le E_o.lt (Nat.le_of_eq g1.symm))) S_EMPTY_SET S_EMPTY_LIST) hZ (hw _ (List.mem_of_getElem? (i := 60) rfl)) (hw _ (List.mem_of_getElem? (i := 3) rfl)) (by decide) (by decide)) (g := (mkF mm 5 #[.val (.ref o), .val (.int ms), .unset] [(.ref o), (.ref b1), (.ref b1)])) rfl (by rw [hml]; rfl) (Steps.refl _) (a := b1) (argsL := [(.ref o)]) (rest := [(.ref b1)]) (lenOf pd_90 rfl) rfl (by show 2 * 0 + _ ≤ _; exact Nat.le_of_eq rfl) (hb hby d6_5) (fun _ _ => ⟨rfl, e1, (by decide : 1 + 0 ≤ _), (by decide : 8 + 0 ≤ _)⟩)
  dsimp only [Pt.U, Pt.locs, Pt.cells, Pt.slots] at X2 l2 y2 z2 st2 hQ2
  subst l2 y2 z2
  obtain ⟨rfl, N2q, K2, Ex2, Fv0_2, Fv1_2, Fv2_2, Fv3_2, Fv4_2, Fv5_2, Fv6_2, Fv7_2⟩ := hQ2
  have O2 := O1.keep K2 (allS g_b1 all0)
  have KK2 := KK1.trans K2 (allS (Or.inr sz_b1) all0)
  have N2 := Fr.app N0 N2q
  obtain ⟨T3, h3, X3, e3, W3, st3⟩ := putF X2 hx hZ hown (host := "") (Or.inl (hw _ (List.mem_of_getElem? (i := 19) rfl))) Via.refl rfl Fv1_2 Ex2 (Or.inl (hw _ (List.mem_of_getElem? (i := 20) rfl))) (hw _ (List.mem_of_getElem? (i := 2) rfl)) (ty := .int) (by decide) rfl rfl (g := (mkF mm 11 #[.val (.ref o), .val (.int ms), .val (.ref b1)] [(.int ms), (.ref b1)])) rfl rfl (hb hby d6_11)
  have Fw3 : Fld Z h3 b1 "com/example/stops_to_routes/stopstoroutes/planner/Vehicle" "maxStops" "I" (.int ms) := Fv1_2.same W3
  have N3 := Fr.snoc X3 N2 g_b1
  have O3 := O2.wr W3 g_b1
  have KK3 := KK2.wr W3 (Or.inr sz_b1)
  obtain ⟨fs, hr, hrun, hended, hW, hsame⟩ := X3.leave (v := some (.ref b1)) (fun h => by rw [Bd.returns] at h; cases h)
  refine ⟨_, _, pre0 _ ?_, hrun, hended, _, _, rfl, ?_, ⟨_, rfl⟩, hW, hsame.mono (by decide) (by decide)⟩
  · show Steps pg.tables ee below (s₁.setTop (mkF mm 0 #[.val (.ref o), .val (.int ms), .unset] [])) _
    refine st1 _ ?_
    show Steps pg.tables ee below (T1.setTop (mkF mm 3 #[.val (.ref o), .val (.int ms), .unset] [(.ref b1)])) _
    refine XS.dup X1.here hx rfl (hb hby d6_3) rfl rfl ?_
    show Steps pg.tables ee below (T1.setTop (mkF mm 4 #[.val (.ref o), .val (.int ms), .unset] [(.ref b1), (.ref b1)])) _
    refine XS.aloadN X1.here hx rfl (hb hby d6_4) rfl rfl ?_
    show Steps pg.tables ee below (T1.setTop (mkF mm 5 #[.val (.ref o), .val (.int ms), .unset] [(.ref o), (.ref b1), (.ref b1)])) _
    refine st2.trans ?_
    show Steps pg.tables ee below (T2.setTop (mkF mm 8 #[.val (.ref o), .val (.int ms), .unset] [(.ref b1)])) _
    refine XS.astoreN X2.here hx rfl (hb hby d6_8) rfl rfl (l' := #[.val (.ref o), .val (.int ms), .val (.ref b1)]) rfl ?_
    show Steps pg.tables ee below (T2.setTop (mkF mm 9 #[.val (.ref o), .val (.int ms), .val (.ref b1)] [])) _
    refine XS.aloadN X2.here hx rfl (hb hby d6_9) rfl rfl ?_
    show Steps pg.tables ee below (T2.setTop (mkF mm 10 #[.val (.ref o), .val (.int ms), .val (.ref b1)] [(.ref b1)])) _
    refine XS.iloadN X2.here hx rfl (hb hby d6_10) rfl ?_
    show Steps pg.tables ee below (T2.setTop (mkF mm 11 #[.val (.ref o), .val (.int ms), .val (.ref b1)] [(.int ms), (.ref b1)])) _
    refine st3 _ ?_
    show Steps pg.tables ee below (T3.setTop (mkF mm 14 #[.val (.ref o), .val (.int ms), .val (.ref b1)] [])) _
    refine XS.aloadN X3.here hx rfl (hb hby d6_14) rfl rfl ?_
    show Steps pg.tables ee below (T3.setTop (mkF mm 15 #[.val (.ref o), .val (.int ms), .val (.ref b1)] [(.ref b1)])) _
    exact retOut X3 hx Bd.returns rfl (Or.inr (Or.inr (Or.inr (Or.inr ⟨rfl, rfl, rfl⟩)))) (hb hby d6_15) hr
  · show QrmS Z o ms f0 f1 f2 f3 f4 f5 f6 f7 aS aL h0 n0 _ T3.heap _
    rw [e3]
    exact ⟨_, rfl, N3, KK3, (Ex2.wr W3), (Fv4_2.other W3 (Or.inr (slot_ne (Or.inr (hw _ (List.mem_of_getElem? (i := 31) rfl))) (Or.inl (hw _ (List.mem_of_getElem? (i := 20) rfl))) (by decide) (t := .int) (t' := .int) (by decide) (by decide))))⟩
theorem d5_0 : decode prog_34_method_8_code 0 = .ok (.aload_n 0, 1) := by decide +kernel
theorem d5_1 : decode prog_34_method_8_code 1 = .ok (.getfield 38, 3) := by decide +kernel
theorem d5_4 : decode prog_34_method_8_code 4 = .ok (.iconst (-1), 1) := by decide +kernel
theorem d5_5 : decode prog_34_method_8_code 5 = .ok (.if_icmp .eq 7, 3) := by decide +kernel
theorem d5_12 : decode prog_34_method_8_code 12 = .ok (.iconst 0, 1) := by decide +kernel
theorem d5_13 : decode prog_34_method_8_code 13 = .ok (.ireturn, 1) := by decide +kernel
theorem ef_5_104 (m : MethodId) (x0 : Addr) : entryFrame m #[(.ref x0)] 1 = mkF m 0 #[.val (.ref x0)] [] := by first | (simp [entryFrame, mkF, argsToLocals, Value.category]; done) | rfl
def QrmH0 (Z : State) (a : Addr) (p : Int32) (h0 : Heap) (n0 : Nat) (v : Option Value) (h : Heap) (L : List Loc) : Prop := v = some (.int (0 : Int32)) ∧ Fr n0 L ∧ h = h0
set_option maxRecDepth 65536 in
set_option maxHeartbeats 40000000 in
theorem rmH0 (l : Launch) (Z : State) (a0 : Array Value) (hw : ∀ d ∈ tables_1, d.before a0 Z = true) (ws : List Jvm.Cond) (a : Addr) (p : Int32) (h0 : Heap) (n0 : Nat) (O0 : Old Z n0 h0) (F : Fld Z h0 a "com/example/stops_to_routes/stopstoroutes/planner/Vehicle" "end" "I" (.int p)) (hp : p = (-1 : Int32)) :
    MetFree l (⟨"com/example/stops_to_routes/stopstoroutes/planner/Vehicle", "hasEnd", "()Z"⟩ : MethodName) (head1 (Jvm.Cond.code (⟨"com/example/stops_to_routes/stopstoroutes/planner/Vehicle", "hasEnd", "()Z"⟩ : MethodName) prog_34_method_8_code 1 (some .boolean) :: ws) ({ frames := 0, cells := 0, slots := 0, locals := 0 } : Room)) (fun a_ U_ => a_ = #[(.ref a)] ∧ Z.Warmed39 U_.vm ∧ U_.heap = h0) (fun _ _ _ _ _ => True) (fun _ U_ o_ U'_ => ∃ v_ L_, o_ = .returned v_ ∧ QrmH0 Z a p h0 n0 v_ U'_.heap L_ ∧ FrameEnd U_ o_ U'_ L_ ({ frames := 0, cells := 0, slots := 0, locals := 0 } : Room).cells ({ frames := 0, cells := 0, slots := 0, locals := 0 } : Room).slots) := by
  refine MetFree.of_bodySF (plainFor_of_name pn_39) hisR ?_
  intro pg ee s mm args below meth cc s₁ Bd hml0 hP hK
  obtain ⟨rfl, hZ, hh⟩ := hP
  have hx := Bd.exec
  have hby := Bd.bytes
  have hml : cc.maxLocals = 1 := hml0
  have hown : s.vm.findClass "com/example/stops_to_routes/stopstoroutes/planner/Vehicle" = some mm.cls := findClass_of_methodNamed Bd.named
  have hnm := (name_of_methodNamed Bd.named Bd.method).1
  have X0 : Stand pg l ee ({ frames := 0, cells := 0, slots := 0, locals := 0 } : Room) s mm #[(.ref a)] below meth cc s₁ [] 0 0 := Stand.of_body Bd
  have e0 : s₁.heap = h0 := by rw [← hh, Bd.state]; rfl
  have N0 := Fr.nil n0
  have K0 : Keep h0 h0 ([] : List Addr) := Keep.refl _ _
  have pre0 : ∀ t, Steps pg.tables ee below (s₁.setTop (mkF mm 0 #[.val (.ref a)] [])) t → Steps pg.tables ee below (s₁.setTop (entryFrame mm #[(.ref a)] 1)) t := fun t k => castTop (ef_5_104 mm a) k
  obtain ⟨T1, X1, e1, st1⟩ := getF X0 hx hZ hown (host := "") (Or.inl (hw _ (List.mem_of_getElem? (i := 30) rfl))) Via.refl e0 F (g := (mkF mm 1 #[.val (.ref a)] [(.ref a)])) rfl rfl (hb hby d5_1)
  obtain ⟨fs, hr, hrun, hended, hW, hsame⟩ := X1.leave (v := some (.int (0 : Int32))) (fun h => by rw [Bd.returns] at h; cases h)
  refine ⟨_, _, pre0 _ ?_, hrun, hended, _, _, rfl, ?_, ⟨_, rfl⟩, hW, hsame.mono (by decide) (by decide)⟩
  · show Steps pg.tables ee below (s₁.setTop (mkF mm 0 #[.val (.ref a)] [])) _
    refine XS.aloadN X0.here hx rfl (hb hby d5_0) rfl rfl ?_
    show Steps pg.tables ee below (s₁.setTop (mkF mm 1 #[.val (.ref a)] [(.ref a)])) _
    refine st1 _ ?_
    show Steps pg.tables ee below (T1.setTop (mkF mm 4 #[.val (.ref a)] [(.int p)])) _
    refine XS.iconst X1.here hx rfl (hb hby d5_4) ?_
    show Steps pg.tables ee below (T1.setTop (mkF mm 5 #[.val (.ref a)] [(.int (-1 : Int32)), (.int p)])) _
    refine XS.icmpYes X1.here hx rfl (pc0 := 5) (pc' := 12) rfl (hb hby d5_5) rfl (teq hp).1 (by decide) (by decide) ?_
    show Steps pg.tables ee below (T1.setTop (mkF mm 12 #[.val (.ref a)] [])) _
    refine XS.iconst X1.here hx rfl (hb hby d5_12) ?_
    show Steps pg.tables ee below (T1.setTop (mkF mm 13 #[.val (.ref a)] [(.int (0 : Int32))])) _
    exact retN X1 hx (t := .boolean) Bd.returns (by simp) (hb hby d5_13) hr
  · show QrmH0 Z a p h0 n0 _ T1.heap _
    rw [e1]
    exact ⟨rfl, N0, rfl⟩
theorem d5_8 : decode prog_34_method_8_code 8 = .ok (.iconst 1, 1) := by decide +kernel
theorem d5_9 : decode prog_34_method_8_code 9 = .ok (.goto 4, 3) := by decide +kernel
def QrmH1 (Z : State) (a : Addr) (p : Int32) (h0 : Heap) (n0 : Nat) (v : Option Value) (h : Heap) (L : List Loc) : Prop := v = some (.int (1 : Int32)) ∧ Fr n0 L ∧ h = h0
set_option maxRecDepth 65536 in
set_option maxHeartbeats 40000000 in
theorem rmH1 (l : Launch) (Z : State) (a0 : Array Value) (hw : ∀ d ∈ tables_1, d.before a0 Z = true) (ws : List Jvm.Cond) (a : Addr) (p : Int32) (h0 : Heap) (n0 : Nat) (O0 : Old Z n0 h0) (F : Fld Z h0 a "com/example/stops_to_routes/stopstoroutes/planner/Vehicle" "end" "I" (.int p)) (hp : ¬ (p = (-1 : Int32))) :
    MetFree l (⟨"com/example/stops_to_routes/stopstoroutes/planner/Vehicle", "hasEnd", "()Z"⟩ : MethodName) (head1 (Jvm.Cond.code (⟨"com/example/stops_to_routes/stopstoroutes/planner/Vehicle", "hasEnd", "()Z"⟩ : MethodName) prog_34_method_8_code 1 (some .boolean) :: ws) ({ frames := 0, cells := 0, slots := 0, locals := 0 } : Room)) (fun a_ U_ => a_ = #[(.ref a)] ∧ Z.Warmed39 U_.vm ∧ U_.heap = h0) (fun _ _ _ _ _ => True) (fun _ U_ o_ U'_ => ∃ v_ L_, o_ = .returned v_ ∧ QrmH1 Z a p h0 n0 v_ U'_.heap L_ ∧ FrameEnd U_ o_ U'_ L_ ({ frames := 0, cells := 0, slots := 0, locals := 0 } : Room).cells ({ frames := 0, cells := 0, slots := 0, locals := 0 } : Room).slots) := by
  refine MetFree.of_bodySF (plainFor_of_name pn_39) hisR ?_
  intro pg ee s mm args below meth cc s₁ Bd hml0 hP hK
  obtain ⟨rfl, hZ, hh⟩ := hP
  have hx := Bd.exec
  have hby := Bd.bytes
  have hml : cc.maxLocals = 1 := hml0
  have hown : s.vm.findClass "com/example/stops_to_routes/stopstoroutes/planner/Vehicle" = some mm.cls := findClass_of_methodNamed Bd.named
  have hnm := (name_of_methodNamed Bd.named Bd.method).1
  have X0 : Stand pg l ee ({ frames := 0, cells := 0, slots := 0, locals := 0 } : Room) s mm #[(.ref a)] below meth cc s₁ [] 0 0 := Stand.of_body Bd
  have e0 : s₁.heap = h0 := by rw [← hh, Bd.state]; rfl
  have N0 := Fr.nil n0
  have K0 : Keep h0 h0 ([] : List Addr) := Keep.refl _ _
  have pre0 : ∀ t, Steps pg.tables ee below (s₁.setTop (mkF mm 0 #[.val (.ref a)] [])) t → Steps pg.tables ee below (s₁.setTop (entryFrame mm #[(.ref a)] 1)) t := fun t k => castTop (ef_5_104 mm a) k
  obtain ⟨T1, X1, e1, st1⟩ := getF X0 hx hZ hown (host := "") (Or.inl (hw _ (List.mem_of_getElem? (i := 30) rfl))) Via.refl e0 F (g := (mkF mm 1 #[.val (.ref a)] [(.ref a)])) rfl rfl (hb hby d5_1)
  obtain ⟨fs, hr, hrun, hended, hW, hsame⟩ := X1.leave (v := some (.int (1 : Int32))) (fun h => by rw [Bd.returns] at h; cases h)
  refine ⟨_, _, pre0 _ ?_, hrun, hended, _, _, rfl, ?_, ⟨_, rfl⟩, hW, hsame.mono (by decide) (by decide)⟩
  · show Steps pg.tables ee below (s₁.setTop (mkF mm 0 #[.val (.ref a)] [])) _
    refine XS.aloadN X0.here hx rfl (hb hby d5_0) rfl rfl ?_
    show Steps pg.tables ee below (s₁.setTop (mkF mm 1 #[.val (.ref a)] [(.ref a)])) _
    refine st1 _ ?_
    show Steps pg.tables ee below (T1.setTop (mkF mm 4 #[.val (.ref a)] [(.int p)])) _
    refine XS.iconst X1.here hx rfl (hb hby d5_4) ?_
    show Steps pg.tables ee below (T1.setTop (mkF mm 5 #[.val (.ref a)] [(.int (-1 : Int32)), (.int p)])) _
    refine XS.icmpNo X1.here hx rfl (hb hby d5_5) rfl (feq hp).1 ?_
    show Steps pg.tables ee below (T1.setTop (mkF mm 8 #[.val (.ref a)] [])) _
    refine XS.iconst X1.here hx rfl (hb hby d5_8) ?_
    show Steps pg.tables ee below (T1.setTop (mkF mm 9 #[.val (.ref a)] [(.int (1 : Int32))])) _
    refine XS.goto X1.here hx rfl (pc0 := 9) (pc' := 13) rfl (hb hby d5_9) (by decide) (by decide) ?_
    show Steps pg.tables ee below (T1.setTop (mkF mm 13 #[.val (.ref a)] [(.int (1 : Int32))])) _
    exact retN X1 hx (t := .boolean) Bd.returns (by simp) (hb hby d5_13) hr
  · show QrmH1 Z a p h0 n0 _ T1.heap _
    rw [e1]
    exact ⟨rfl, N0, rfl⟩
theorem d8_0 : decode prog_34_method_7_code 0 = .ok (.aload_n 0, 1) := by decide +kernel
theorem d8_1 : decode prog_34_method_7_code 1 = .ok (.getfield 38, 3) := by decide +kernel
theorem d8_4 : decode prog_34_method_7_code 4 = .ok (.ireturn, 1) := by decide +kernel
theorem ef_8_110 (m : MethodId) (x0 : Addr) : entryFrame m #[(.ref x0)] 1 = mkF m 0 #[.val (.ref x0)] [] := by first | (simp [entryFrame, mkF, argsToLocals, Value.category]; done) | rfl
def QrmE (Z : State) (a : Addr) (p : Int32) (h0 : Heap) (n0 : Nat) (v : Option Value) (h : Heap) (L : List Loc) : Prop := v = some (.int p) ∧ Fr n0 L ∧ h = h0
set_option maxRecDepth 65536 in
set_option maxHeartbeats 40000000 in
theorem rmE (l : Launch) (Z : State) (a0 : Array Value) (hw : ∀ d ∈ tables_1, d.before a0 Z = true) (ws : List Jvm.Cond) (a : Addr) (p : Int32) (h0 : Heap) (n0 : Nat) (O0 : Old Z n0 h0) (F : Fld Z h0 a "com/example/stops_to_routes/stopstoroutes/planner/Vehicle" "end" "I" (.int p)) :
    MetFree l (⟨"com/example/stops_to_routes/stopstoroutes/planner/Vehicle", "end", "()I"⟩ : MethodName) (head1 (Jvm.Cond.code (⟨"com/example/stops_to_routes/stopstoroutes/planner/Vehicle", "end", "()I"⟩ : MethodName) prog_34_method_7_code 1 (some .int) :: ws) ({ frames := 0, cells := 0, slots := 0, locals := 0 } : Room)) (fun a_ U_ => a_ = #[(.ref a)] ∧ Z.Warmed39 U_.vm ∧ U_.heap = h0) (fun _ _ _ _ _ => True) (fun _ U_ o_ U'_ => ∃ v_ L_, o_ = .returned v_ ∧ QrmE Z a p h0 n0 v_ U'_.heap L_ ∧ FrameEnd U_ o_ U'_ L_ ({ frames := 0, cells := 0, slots := 0, locals := 0 } : Room).cells ({ frames := 0, cells := 0, slots := 0, locals := 0 } : Room).slots) := by
  refine MetFree.of_bodySF (plainFor_of_name pn_39) hisR ?_
  intro pg ee s mm args below meth cc s₁ Bd hml0 hP hK
  obtain ⟨rfl, hZ, hh⟩ := hP
  have hx := Bd.exec
  have hby := Bd.bytes
  have hml : cc.maxLocals = 1 := hml0
  have hown : s.vm.findClass "com/example/stops_to_routes/stopstoroutes/planner/Vehicle" = some mm.cls := findClass_of_methodNamed Bd.named
  have hnm := (name_of_methodNamed Bd.named Bd.method).1
  have X0 : Stand pg l ee ({ frames := 0, cells := 0, slots := 0, locals := 0 } : Room) s mm #[(.ref a)] below meth cc s₁ [] 0 0 := Stand.of_body Bd
  have e0 : s₁.heap = h0 := by rw [← hh, Bd.state]; rfl
  have N0 := Fr.nil n0
  have K0 : Keep h0 h0 ([] : List Addr) := Keep.refl _ _
  have pre0 : ∀ t, Steps pg.tables ee below (s₁.setTop (mkF mm 0 #[.val (.ref a)] [])) t → Steps pg.tables ee below (s₁.setTop (entryFrame mm #[(.ref a)] 1)) t := fun t k => castTop (ef_8_110 mm a) k
  obtain ⟨T1, X1, e1, st1⟩ := getF X0 hx hZ hown (host := "") (Or.inl (hw _ (List.mem_of_getElem? (i := 30) rfl))) Via.refl e0 F (g := (mkF mm 1 #[.val (.ref a)] [(.ref a)])) rfl rfl (hb hby d8_1)
  obtain ⟨fs, hr, hrun, hended, hW, hsame⟩ := X1.leave (v := some (.int p)) (fun h => by rw [Bd.returns] at h; cases h)
  refine ⟨_, _, pre0 _ ?_, hrun, hended, _, _, rfl, ?_, ⟨_, rfl⟩, hW, hsame.mono (by decide) (by decide)⟩
  · show Steps pg.tables ee below (s₁.setTop (mkF mm 0 #[.val (.ref a)] [])) _
    refine XS.aloadN X0.here hx rfl (hb hby d8_0) rfl rfl ?_
    show Steps pg.tables ee below (s₁.setTop (mkF mm 1 #[.val (.ref a)] [(.ref a)])) _
    refine st1 _ ?_
    show Steps pg.tables ee below (T1.setTop (mkF mm 4 #[.val (.ref a)] [(.int p)])) _
    exact retOut X1 hx Bd.returns rfl (Or.inl ⟨rfl, Or.inl rfl, _, rfl⟩) (hb hby d8_4) hr
  · show QrmE Z a p h0 n0 _ T1.heap _
    rw [e1]
    exact ⟨rfl, N0, rfl⟩
theorem pd_111 : parseMethodDescriptor "(IIJJ[J)V" = some ⟨[.int, .int, .long, .long, (.array .long)], none⟩ := by decide +kernel
theorem pd_112 : parseMethodDescriptor "()Z" = some ⟨[], some .boolean⟩ := by decide +kernel
theorem pd_113 : parseMethodDescriptor "(I)Lcom/example/stops_to_routes/stopstoroutes/planner/Vehicle;" = some ⟨[.int], some (.object "com/example/stops_to_routes/stopstoroutes/planner/Vehicle")⟩ := by decide +kernel
theorem pd_114 : parseMethodDescriptor "()I" = some ⟨[], some .int⟩ := by decide +kernel
theorem pn_115 : plainName "com/example/stops_to_routes/stopstoroutes/planner/VehicleHasEndPinLaw" = true := by first | (simp [plainName, overriddenIn]; done) | decide +kernel
theorem ef_0_116 (m : MethodId) (x0 : Int32) (x1 : Int32) (x2 : Int64) (x3 : Int64) (x4 : Int64) (x5 : Int32) : entryFrame m #[(.int x0), (.int x1), (.long x2), (.long x3), (.long x4), (.int x5)] maxLocals = mkF m 0 #[.val (.int x0), .val (.int x1), .val (.long x2), .second, .val (.long x3), .second, .val (.long x4), .second, .val (.int x5), .unset, .unset, .unset, .unset, .unset, .unset, .unset, .unset] [] := by first | (simp [entryFrame, mkF, argsToLocals, Value.category, maxLocals]; done) | rfl
def Qrm0 (Z : State) (p0 : Int32) (p1 : Int32) (q2 : Int64) (q3 : Int64) (q4 : Int64) (p5 : Int32) (aS : Addr) (aL : Addr) (h0 : Heap) (n0 : Nat) (v : Option Value) (h : Heap) (L : List Loc) : Prop := v = some (.int (1 : Int32)) ∧ Fr n0 L
set_option maxRecDepth 65536 in
set_option maxHeartbeats 40000000 in
theorem rm0 (l : Launch) (Z : State) (a0 : Array Value) (hw : ∀ d ∈ tables_1, d.before a0 Z = true) (ws : List Jvm.Cond) (p0 : Int32) (p1 : Int32) (q2 : Int64) (q3 : Int64) (q4 : Int64) (p5 : Int32) (aS : Addr) (aL : Addr) (h0 : Heap) (n0 : Nat) (O0 : Old Z n0 h0) (S_EMPTY_SET : Sta Z Z.heap "java/util/ImmutableCollections" "EMPTY_SET" "Ljava/util/ImmutableCollections$SetN;" (.ref aS)) (S_EMPTY_LIST : Sta Z Z.heap "java/util/ImmutableCollections" "EMPTY_LIST" "Ljava/util/ImmutableCollections$ListN;" (.ref aL)) :
    MetFree l x (head1 (Jvm.Cond.code x code maxLocals ret :: ws) room_1) (fun a_ U_ => a_ = #[(.int p0), (.int p1), (.long q2), (.long q3), (.long q4), (.int p5)] ∧ Z.Warmed39 U_.vm ∧ U_.heap = h0) (fun _ _ _ _ _ => True) (fun _ U_ o_ U'_ => ∃ v_ L_, o_ = .returned v_ ∧ Qrm0 Z p0 p1 q2 q3 q4 p5 aS aL h0 n0 v_ U'_.heap L_ ∧ FrameEnd U_ o_ U'_ L_ 4 18) := by
  refine MetFree.of_bodySF (plainFor_of_name pn_115) hisR ?_
  intro pg ee s mm args below meth cc s₁ Bd hml0 hP hK
  obtain ⟨rfl, hZ, hh⟩ := hP
  have hx := Bd.exec
  have hby := Bd.bytes
  have hml : cc.maxLocals = 17 := hml0
  have hown : s.vm.findClass "com/example/stops_to_routes/stopstoroutes/planner/VehicleHasEndPinLaw" = some mm.cls := findClass_of_methodNamed Bd.named
  have hnm := (name_of_methodNamed Bd.named Bd.method).1
  have X0 : Stand pg l ee room_1 s mm #[(.int p0), (.int p1), (.long q2), (.long q3), (.long q4), (.int p5)] below meth cc s₁ [] 0 0 := Stand.of_body Bd
  have e0 : s₁.heap = h0 := by rw [← hh, Bd.state]; rfl
  have N0 := Fr.nil n0
  have K0 : Keep h0 h0 ([] : List Addr) := Keep.refl _ _
  have pre0 : ∀ t, Steps pg.tables ee below (s₁.setTop (mkF mm 0 #[.val (.int p0), .val (.int p1), .val (.long q2), .second, .val (.long q3), .second, .val (.long q4), .second, .val (.int p5), .unset, .unset, .unset, .unset, .unset, .unset, .unset, .unset] [])) t → Steps pg.tables ee below (s₁.setTop (entryFrame mm #[(.int p0), (.int p1), (.long q2), (.long q3), (.long q4), (.int p5)] maxLocals)) t := fun t k => castTop (ef_0_116 mm p0 p1 q2 q3 q4 p5) k
  have pre1 : ∀ t, Steps pg.tables ee below (s₁.setTop (mkF mm 4 #[.val (.int p0), .val (.int p1), .val (.long q2), .second, .val (.long q3), .second, .val (.long q4), .second, .val (.int p5), .unset, .unset, .unset, .unset, .unset, .unset, .unset, .unset] [(.int (p5 &&& (1 : Int32)))])) t → Steps pg.tables ee below (s₁.setTop (entryFrame mm #[(.int p0), (.int p1), (.long q2), (.long q3), (.long q4), (.int p5)] maxLocals)) t := fun t k => pre0 t (by
      show Steps pg.tables ee below (s₁.setTop (mkF mm 0 #[.val (.int p0), .val (.int p1), .val (.long q2), .second, .val (.long q3), .second, .val (.long q4), .second, .val (.int p5), .unset, .unset, .unset, .unset, .unset, .unset, .unset, .unset] [])) _
      refine XS.iload X0.here hx rfl (hb hby at_0) rfl ?_
      show Steps pg.tables ee below (s₁.setTop (mkF mm 2 #[.val (.int p0), .val (.int p1), .val (.long q2), .second, .val (.long q3), .second, .val (.long q4), .second, .val (.int p5), .unset, .unset, .unset, .unset, .unset, .unset, .unset, .unset] [(.int p5)])) _
      refine XS.iconst X0.here hx rfl (hb hby at_2) ?_
      show Steps pg.tables ee below (s₁.setTop (mkF mm 3 #[.val (.int p0), .val (.int p1), .val (.long q2), .second, .val (.long q3), .second, .val (.long q4), .second, .val (.int p5), .unset, .unset, .unset, .unset, .unset, .unset, .unset, .unset] [(.int (1 : Int32)), (.int p5)])) _
      refine XS.iand X0.here hx rfl (hb hby at_3) rfl ?_
      exact k)
  by_cases hc2 : (p5 &&& (1 : Int32)) = (0 : Int32)
  · obtain ⟨T3, h3, k3, X3, e3, E3, A3, Ea3, st3⟩ := newPE X0 hx hZ (hw _ (List.mem_of_getElem? (i := 0) rfl)) e0 (g := (mkF mm 30 #[.val (.int p0), .val (.int p1), .val (.long q2), .second, .val (.long q3), .second, .val (.long q4), .second, .val (.int p5), .val (.int (0 : Int32)), .val (.int (p1 &&& (2147483647 : Int32))), .unset, .unset, .unset, .unset, .unset, .unset] [(.int (1 : Int32))])) rfl (hb hby at_30) rfl (by decide) (cap := 1) (by decide) (by decide) (by decide) (by decide) (ad := "[J") (by decide)
    obtain ⟨b3, g3⟩ : ∃ z, z = h0.size := ⟨_, rfl⟩
    rw [← g3] at A3 Ea3 st3
    have g_b3 : n0 ≤ b3 := Nat.le_trans (O0.1 ▸ O0.2.1) (Nat.le_of_eq g3.symm)
    have sz_b3 : h0.size ≤ b3 := Nat.le_trans K0.1 (Nat.le_of_eq g3.symm)
    have O3 := O0.ext E3
    have KK3 := K0.ext E3
    have V3 : Arv Z h3 b3 k3 .long (1 : Int32) [(.long (0 : Int64))] (.long (0 : Int64)) := (Arv.new A3 (by decide)).pad (pad_rep [] (.long (0 : Int64)) 1)
    obtain ⟨cl4, Ar4, qk4, Sz4, Nn4, Hh4, Gg4⟩ := V3
    have hin4 : ¬ ((0 : Int32) < 0 ∨ cl4.slots.size ≤ ((0 : Int32)).toNatClampNeg) := inb_of Sz4 ⟨by decide, by decide⟩
    obtain ⟨T5, h5, X5, e5, W5, st5⟩ := stJ X3 hx hZ e3 Ar4 (j := (0 : Int32)) hin4 (g := (mkF mm 36 #[.val (.int p0), .val (.int p1), .val (.long q2), .second, .val (.long q3), .second, .val (.long q4), .second, .val (.int p5), .val (.int (0 : Int32)), .val (.int (p1 &&& (2147483647 : Int32))), .unset, .unset, .unset, .unset, .unset, .unset] [(.long q4), (.int (0 : Int32)), (.ref b3), (.ref b3)])) rfl rfl (hb hby at_36)
    have V5 : Arv Z h5 b3 k3 .long (1 : Int32) [(.long q4)] (.long (0 : Int64)) := Arv.set Ar4 qk4 Sz4 Nn4 Hh4 Gg4 rfl W5 0 rfl (Nat.le_of_ble_eq_true rfl)
    have N5 := Fr.snoc X5 N0 g_b3
    have O5 := O3.wr W5 g_b3
    have KK5 := KK3.wr W5 (Or.inr sz_b3)
    obtain ⟨T6, h6, X6, e6, E6, A6, D6, -, st6⟩ := newO X5 hx hZ hown (hw _ (List.mem_of_getElem? (i := 1) rfl)) (hw _ (List.mem_of_getElem? (i := 2) rfl)) (hw _ (List.mem_of_getElem? (i := 3) rfl)) e5 (g := (mkF mm 39 #[.val (.int p0), .val (.int p1), .val (.long q2), .second, .val (.long q3), .second, .val (.long q4), .second, .val (.int p5), .val (.int (0 : Int32)), .val (.int (p1 &&& (2147483647 : Int32))), .val (.ref b3), .unset, .unset, .unset, .unset, .unset] [])) rfl (hb hby at_39) (by decide) (by decide)
    obtain ⟨b6, g6⟩ : ∃ z, z = h5.size := ⟨_, rfl⟩
    rw [← g6] at A6 D6 st6
    have g_b6 : n0 ≤ b6 := Nat.le_trans (O5.1 ▸ O5.2.1) (Nat.le_of_eq g6.symm)
    have sz_b6 : h0.size ≤ b6 := Nat.le_trans KK5.1 (Nat.le_of_eq g6.symm)
    have O6 := O5.ext E6
    have KK6 := KK5.ext E6
    have F_skills_b6 : Fld Z h6 b6 "com/example/stops_to_routes/stopstoroutes/planner/Vehicle" "skills" "Ljava/util/Set;" .null := D6 (Or.inl (hw _ (List.mem_of_getElem? (i := 17) rfl))) (ty := (.object "java/util/Set")) (by decide)
    have F_maxStops_b6 : Fld Z h6 b6 "com/example/stops_to_routes/stopstoroutes/planner/Vehicle" "maxStops" "I" (.int (0 : Int32)) := D6 (Or.inl (hw _ (List.mem_of_getElem? (i := 20) rfl))) (ty := .int) (by decide)
    have F_breaks_b6 : Fld Z h6 b6 "com/example/stops_to_routes/stopstoroutes/planner/Vehicle" "breaks" "Ljava/util/List;" .null := D6 (Or.inl (hw _ (List.mem_of_getElem? (i := 27) rfl))) (ty := (.object "java/util/List")) (by decide)
    have F_start_b6 : Fld Z h6 b6 "com/example/stops_to_routes/stopstoroutes/planner/Vehicle" "start" "I" (.int (0 : Int32)) := D6 (Or.inr (hw _ (List.mem_of_getElem? (i := 29) rfl))) (ty := .int) (by decide)
    have F_end_b6 : Fld Z h6 b6 "com/example/stops_to_routes/stopstoroutes/planner/Vehicle" "end" "I" (.int (0 : Int32)) := D6 (Or.inr (hw _ (List.mem_of_getElem? (i := 31) rfl))) (ty := .int) (by decide)
    have F_shiftStart_b6 : Fld Z h6 b6 "com/example/stops_to_routes/stopstoroutes/planner/Vehicle" "shiftStart" "J" (.long (0 : Int64)) := D6 (Or.inr (hw _ (List.mem_of_getElem? (i := 33) rfl))) (ty := .long) (by decide)
    have F_shiftEnd_b6 : Fld Z h6 b6 "com/example/stops_to_routes/stopstoroutes/planner/Vehicle" "shiftEnd" "J" (.long (0 : Int64)) := D6 (Or.inr (hw _ (List.mem_of_getElem? (i := 35) rfl))) (ty := .long) (by decide)
    have F_capacity_b6 : Fld Z h6 b6 "com/example/stops_to_routes/stopstoroutes/planner/Vehicle" "capacity" "[J" .null := D6 (Or.inr (hw _ (List.mem_of_getElem? (i := 46) rfl))) (ty := (.array .long)) (by decide)
    obtain ⟨_, _, ⟨T7, L7, k7, n7⟩, -, X7, ⟨Lc7, hQ7, l7, y7, z7⟩, st7⟩ := X6.specialBack hx (y := (⟨"com/example/stops_to_routes/stopstoroutes/planner/Vehicle", "<init>", "(IIJJ[J)V"⟩ : MethodName)) rfl hown (mvT hZ (hw _ (List.mem_of_getElem? (i := 4) rfl))) (mvT hZ (hw _ (List.mem_of_getElem? (i := 5) rfl))) (mvT hZ (hw _ (List.mem_of_getElem? (i := 6) rfl))) (by decide) (backOf (W := 1) (rmI l Z a0 hw [] b6 p0 (p1 &&& (2147483647 : Int32)) q2 q3 b3 k3 (.long q4)  aS aL h6 n0 O6 A6 F_skills_b6 F_maxStops_b6 F_breaks_b6 F_start_b6 F_end_b6 F_shiftStart_b6 F_shiftEnd_b6 F_capacity_b6 g_b6 (V5.ext E6) ((Ea3.wr W5).ext E6) (Nat.ne_of_lt (Nat.lt_of_lt_of_le V5.lt (Nat.le_of_eq g6.symm))) S_EMPTY_SET S_EMPTY_LIST) hZ (hw _ (List.mem_of_getElem? (i := 6) rfl)) (hw _ (List.mem_of_getElem? (i := 3) rfl)) (by decide) (by decide)) (g := (mkF mm 51 #[.val (.int p0), .val (.int p1), .val (.long q2), .second, .val (.long q3), .second, .val (.long q4), .second, .val (.int p5), .val (.int (0 : Int32)), .val (.int (p1 &&& (2147483647 : Int32))), .val (.ref b3), .unset, .unset, .unset, .unset, .unset] [(.ref b3), (.long q3), (.long q2), (.int (p1 &&& (2147483647 : Int32))), (.int p0), (.ref b6), (.ref b6)])) rfl (by rw [hml]; rfl) (Steps.refl _) (a := b6) (argsL := [(.int p0), (.int (p1 &&& (2147483647 : Int32))), (.long q2), (.long q3), (.ref b3)]) (rest := [(.ref b6)]) (lenOf pd_111 rfl) rfl (by show 2 * 0 + _ ≤ _; exact Nat.le_of_eq rfl) (hb hby at_51) (fun _ _ => ⟨rfl, e6, (by decide : 2 + 1 ≤ _), (by decide : 9 + 1 ≤ _)⟩)
    dsimp only [Pt.U, Pt.locs, Pt.cells, Pt.slots] at X7 l7 y7 z7 st7 hQ7
    subst l7 y7 z7
    obtain ⟨rfl, N7q, K7, cp7, Ex7, Fv0_7, Fv1_7, Fv2_7, Fv3_7, Fv4_7, Fv5_7, Fv6_7, Fv7_7⟩ := hQ7
    have O7 := O6.keep K7 (allS g_b6 all0)
    have KK7 := KK6.trans K7 (allS (Or.inr sz_b6) all0)
    have N7 := Fr.app N5 N7q
    obtain ⟨cq8, kq8, q8a, q8b, q8c⟩ := isOf hZ rfl Ex7
    obtain ⟨_, _, ⟨T8, L8, k8, n8⟩, -, X8, ⟨Lc8, hQ8, l8, y8, z8⟩, st8⟩ := X7.virtualBack hx (y := (⟨"com/example/stops_to_routes/stopstoroutes/planner/Vehicle", "hasEnd", "()Z"⟩ : MethodName)) (z := (⟨"com/example/stops_to_routes/stopstoroutes/planner/Vehicle", "hasEnd", "()Z"⟩ : MethodName)) hown (mvT hZ (hw _ (List.mem_of_getElem? (i := 47) rfl))) (mvT hZ (hw _ (List.mem_of_getElem? (i := 48) rfl))) (notFace_of_selects (args := #[]) (mvT hZ (hw _ (List.mem_of_getElem? (i := 50) rfl)))) (mvT hZ (hw _ (List.mem_of_getElem? (i := 50) rfl))) (mvT hZ (hw _ (List.mem_of_getElem? (i := 49) rfl))) (by decide) (backOf (W := 0) (rmH1 l Z a0 hw [] b6 (p1 &&& (2147483647 : Int32)) T7.heap n0 O7 Fv4_7 (own_nm p1)) hZ (hw _ (List.mem_of_getElem? (i := 51) rfl)) (hw _ (List.mem_of_getElem? (i := 3) rfl)) (by decide) (by decide)) q8a q8c (g := (mkF mm 58 #[.val (.int p0), .val (.int p1), .val (.long q2), .second, .val (.long q3), .second, .val (.long q4), .second, .val (.int p5), .val (.int (0 : Int32)), .val (.int (p1 &&& (2147483647 : Int32))), .val (.ref b3), .val (.ref b6), .unset, .unset, .unset, .unset] [(.ref b6)])) rfl (by rw [hml]; rfl) (Steps.refl _) (argsL := []) (rest := []) (lenOf pd_112 rfl) rfl (by show 2 * 0 + _ ≤ _; exact Nat.le_of_eq rfl) (hb hby at_58) (fun _ _ => ⟨rfl, rfl, (by decide : 3 + 0 ≤ _), (by decide : 10 + 0 ≤ _)⟩)
    dsimp only [Pt.U, Pt.locs, Pt.cells, Pt.slots] at X8 l8 y8 z8 st8 hQ8
    subst l8 y8 z8
    obtain ⟨rfl, N8q, e8⟩ := hQ8
    have N8 := Fr.app N7 N8q
    obtain ⟨cq9, kq9, q9a, q9b, q9c⟩ := isOf hZ e8 Ex7
    obtain ⟨_, _, ⟨T9, L9, k9, n9⟩, -, X9, ⟨Lc9, hQ9, l9, y9, z9⟩, st9⟩ := X8.virtualBack hx (y := (⟨"com/example/stops_to_routes/stopstoroutes/planner/Vehicle", "servingAtMost", "(I)Lcom/example/stops_to_routes/stopstoroutes/planner/Vehicle;"⟩ : MethodName)) (z := (⟨"com/example/stops_to_routes/stopstoroutes/planner/Vehicle", "servingAtMost", "(I)Lcom/example/stops_to_routes/stopstoroutes/planner/Vehicle;"⟩ : MethodName)) hown (mvT hZ (hw _ (List.mem_of_getElem? (i := 52) rfl))) (mvT hZ (hw _ (List.mem_of_getElem? (i := 53) rfl))) (notFace_of_selects (args := #[]) (mvT hZ (hw _ (List.mem_of_getElem? (i := 55) rfl)))) (mvT hZ (hw _ (List.mem_of_getElem? (i := 55) rfl))) (mvT hZ (hw _ (List.mem_of_getElem? (i := 54) rfl))) (by decide) (backOf (W := 0) (rmS l Z a0 hw [] b6 p1 aS (2147483647 : Int32) aL p0 (p1 &&& (2147483647 : Int32)) q2 q3 cp7 aS aL T7.heap n0 O7 Ex7 Fv0_7 Fv1_7 Fv2_7 Fv3_7 Fv4_7 Fv5_7 Fv6_7 Fv7_7 S_EMPTY_SET S_EMPTY_LIST) hZ (hw _ (List.mem_of_getElem? (i := 56) rfl)) (hw _ (List.mem_of_getElem? (i := 3) rfl)) (by decide) (by decide)) q9a q9c (g := (mkF mm 66 #[.val (.int p0), .val (.int p1), .val (.long q2), .second, .val (.long q3), .second, .val (.long q4), .second, .val (.int p5), .val (.int (0 : Int32)), .val (.int (p1 &&& (2147483647 : Int32))), .val (.ref b3), .val (.ref b6), .val (.int (1 : Int32)), .unset, .unset, .unset] [(.int p1), (.ref b6)])) rfl (by rw [hml]; rfl) (Steps.refl _) (argsL := [(.int p1)]) (rest := []) (lenOf pd_113 rfl) rfl (by show 2 * 0 + _ ≤ _; exact Nat.le_of_eq rfl) (hb hby at_66) (fun _ _ => ⟨rfl, e8, (by decide : 3 + 1 ≤ _), (by decide : 10 + 8 ≤ _)⟩)
    dsimp only [Pt.U, Pt.locs, Pt.cells, Pt.slots] at X9 l9 y9 z9 st9 hQ9
    subst l9 y9 z9
    obtain ⟨bs9, rfl, N9q, K9, Ex9, Fe9⟩ := hQ9
    have O9 := O7.keep K9 all0
    have KK9 := KK7.trans K9 all0
    have N9 := Fr.app N8 N9q
    obtain ⟨cq10, kq10, q10a, q10b, q10c⟩ := isOf hZ rfl Ex9
    obtain ⟨_, _, ⟨T10, L10, k10, n10⟩, -, X10, ⟨Lc10, hQ10, l10, y10, z10⟩, st10⟩ := X9.virtualBack hx (y := (⟨"com/example/stops_to_routes/stopstoroutes/planner/Vehicle", "hasEnd", "()Z"⟩ : MethodName)) (z := (⟨"com/example/stops_to_routes/stopstoroutes/planner/Vehicle", "hasEnd", "()Z"⟩ : MethodName)) hown (mvT hZ (hw _ (List.mem_of_getElem? (i := 47) rfl))) (mvT hZ (hw _ (List.mem_of_getElem? (i := 48) rfl))) (notFace_of_selects (args := #[]) (mvT hZ (hw _ (List.mem_of_getElem? (i := 50) rfl)))) (mvT hZ (hw _ (List.mem_of_getElem? (i := 50) rfl))) (mvT hZ (hw _ (List.mem_of_getElem? (i := 49) rfl))) (by decide) (backOf (W := 0) (rmH1 l Z a0 hw [] bs9 (p1 &&& (2147483647 : Int32)) T9.heap n0 O9 Fe9 (own_nm p1)) hZ (hw _ (List.mem_of_getElem? (i := 51) rfl)) (hw _ (List.mem_of_getElem? (i := 3) rfl)) (by decide) (by decide)) q10a q10c (g := (mkF mm 73 #[.val (.int p0), .val (.int p1), .val (.long q2), .second, .val (.long q3), .second, .val (.long q4), .second, .val (.int p5), .val (.int (0 : Int32)), .val (.int (p1 &&& (2147483647 : Int32))), .val (.ref b3), .val (.ref b6), .val (.int (1 : Int32)), .val (.ref bs9), .unset, .unset] [(.ref bs9)])) rfl (by rw [hml]; rfl) (Steps.refl _) (argsL := []) (rest := []) (lenOf pd_112 rfl) rfl (by show 2 * 0 + _ ≤ _; exact Nat.le_of_eq rfl) (hb hby at_73) (fun _ _ => ⟨rfl, rfl, (by decide : 4 + 0 ≤ _), (by decide : 18 + 0 ≤ _)⟩)
    dsimp only [Pt.U, Pt.locs, Pt.cells, Pt.slots] at X10 l10 y10 z10 st10 hQ10
    subst l10 y10 z10
    obtain ⟨rfl, N10q, e10⟩ := hQ10
    have N10 := Fr.app N9 N10q
    obtain ⟨cq11, kq11, q11a, q11b, q11c⟩ := isOf hZ e10 (Ex7.keep K9)
    obtain ⟨_, _, ⟨T11, L11, k11, n11⟩, -, X11, ⟨Lc11, hQ11, l11, y11, z11⟩, st11⟩ := X10.virtualBack hx (y := (⟨"com/example/stops_to_routes/stopstoroutes/planner/Vehicle", "end", "()I"⟩ : MethodName)) (z := (⟨"com/example/stops_to_routes/stopstoroutes/planner/Vehicle", "end", "()I"⟩ : MethodName)) hown (mvT hZ (hw _ (List.mem_of_getElem? (i := 61) rfl))) (mvT hZ (hw _ (List.mem_of_getElem? (i := 62) rfl))) (notFace_of_selects (args := #[]) (mvT hZ (hw _ (List.mem_of_getElem? (i := 64) rfl)))) (mvT hZ (hw _ (List.mem_of_getElem? (i := 64) rfl))) (mvT hZ (hw _ (List.mem_of_getElem? (i := 63) rfl))) (by decide) (backOf (W := 0) (rmE l Z a0 hw [] b6 (p1 &&& (2147483647 : Int32)) T9.heap n0 O9 (Fv4_7.keep K9 nin0)) hZ (hw _ (List.mem_of_getElem? (i := 65) rfl)) (hw _ (List.mem_of_getElem? (i := 3) rfl)) (by decide) (by decide)) q11a q11c (g := (mkF mm 106 #[.val (.int p0), .val (.int p1), .val (.long q2), .second, .val (.long q3), .second, .val (.long q4), .second, .val (.int p5), .val (.int (0 : Int32)), .val (.int (p1 &&& (2147483647 : Int32))), .val (.ref b3), .val (.ref b6), .val (.int (1 : Int32)), .val (.ref bs9), .val (.int (1 : Int32)), .val (.int (1 : Int32))] [(.ref b6)])) rfl (by rw [hml]; rfl) (Steps.refl _) (argsL := []) (rest := []) (lenOf pd_114 rfl) rfl (by show 2 * 0 + _ ≤ _; exact Nat.le_of_eq rfl) (hb hby at_106) (fun _ _ => ⟨rfl, e10, (by decide : 4 + 0 ≤ _), (by decide : 18 + 0 ≤ _)⟩)
    dsimp only [Pt.U, Pt.locs, Pt.cells, Pt.slots] at X11 l11 y11 z11 st11 hQ11
    subst l11 y11 z11
    obtain ⟨rfl, N11q, e11⟩ := hQ11
    have N11 := Fr.app N10 N11q
    obtain ⟨fs, hr, hrun, hended, hW, hsame⟩ := X11.leave (v := some (.int (1 : Int32))) (fun h => by rw [Bd.returns] at h; cases h)
    refine ⟨_, _, pre1 _ ?_, hrun, hended, _, _, rfl, ?_, ⟨_, rfl⟩, hW, hsame.mono (by decide) (by decide)⟩
    · show Steps pg.tables ee below (s₁.setTop (mkF mm 4 #[.val (.int p0), .val (.int p1), .val (.long q2), .second, .val (.long q3), .second, .val (.long q4), .second, .val (.int p5), .unset, .unset, .unset, .unset, .unset, .unset, .unset, .unset] [(.int (p5 &&& (1 : Int32)))])) _
      refine XS.ifYes X0.here hx rfl (pc0 := 4) (pc' := 11) rfl (hb hby at_4) rfl ((if0 _ _).trans (teq hc2).1) (by decide) (by decide) ?_
      show Steps pg.tables ee below (s₁.setTop (mkF mm 11 #[.val (.int p0), .val (.int p1), .val (.long q2), .second, .val (.long q3), .second, .val (.long q4), .second, .val (.int p5), .unset, .unset, .unset, .unset, .unset, .unset, .unset, .unset] [])) _
      refine XS.iconst X0.here hx rfl (hb hby at_11) ?_
      show Steps pg.tables ee below (s₁.setTop (mkF mm 12 #[.val (.int p0), .val (.int p1), .val (.long q2), .second, .val (.long q3), .second, .val (.long q4), .second, .val (.int p5), .unset, .unset, .unset, .unset, .unset, .unset, .unset, .unset] [(.int (0 : Int32))])) _
      refine XS.istore X0.here hx rfl (hb hby at_12) rfl (l' := #[.val (.int p0), .val (.int p1), .val (.long q2), .second, .val (.long q3), .second, .val (.long q4), .second, .val (.int p5), .val (.int (0 : Int32)), .unset, .unset, .unset, .unset, .unset, .unset, .unset]) rfl ?_
      show Steps pg.tables ee below (s₁.setTop (mkF mm 14 #[.val (.int p0), .val (.int p1), .val (.long q2), .second, .val (.long q3), .second, .val (.long q4), .second, .val (.int p5), .val (.int (0 : Int32)), .unset, .unset, .unset, .unset, .unset, .unset, .unset] [])) _
      refine XS.iload X0.here hx rfl (hb hby at_14) rfl ?_
      show Steps pg.tables ee below (s₁.setTop (mkF mm 16 #[.val (.int p0), .val (.int p1), .val (.long q2), .second, .val (.long q3), .second, .val (.long q4), .second, .val (.int p5), .val (.int (0 : Int32)), .unset, .unset, .unset, .unset, .unset, .unset, .unset] [(.int (0 : Int32))])) _
      refine XS.ifYes X0.here hx rfl (pc0 := 16) (pc' := 23) rfl (hb hby at_16) rfl ((if0 _ _).trans (teq (by decide : (0 : Int32) = (0 : Int32))).1) (by decide) (by decide) ?_
      show Steps pg.tables ee below (s₁.setTop (mkF mm 23 #[.val (.int p0), .val (.int p1), .val (.long q2), .second, .val (.long q3), .second, .val (.long q4), .second, .val (.int p5), .val (.int (0 : Int32)), .unset, .unset, .unset, .unset, .unset, .unset, .unset] [])) _
      refine XS.iloadN X0.here hx rfl (hb hby at_23) rfl ?_
      show Steps pg.tables ee below (s₁.setTop (mkF mm 24 #[.val (.int p0), .val (.int p1), .val (.long q2), .second, .val (.long q3), .second, .val (.long q4), .second, .val (.int p5), .val (.int (0 : Int32)), .unset, .unset, .unset, .unset, .unset, .unset, .unset] [(.int p1)])) _
      refine X0.ldcInt hx hown (mvT hZ (hw _ (List.mem_of_getElem? (i := 66) rfl))) (g := (mkF mm 24 #[.val (.int p0), .val (.int p1), .val (.long q2), .second, .val (.long q3), .second, .val (.long q4), .second, .val (.int p5), .val (.int (0 : Int32)), .unset, .unset, .unset, .unset, .unset, .unset, .unset] [(.int p1)])) rfl (hb hby at_24) _ ?_
      show Steps pg.tables ee below (s₁.setTop (mkF mm 26 #[.val (.int p0), .val (.int p1), .val (.long q2), .second, .val (.long q3), .second, .val (.long q4), .second, .val (.int p5), .val (.int (0 : Int32)), .unset, .unset, .unset, .unset, .unset, .unset, .unset] [(.int (2147483647 : Int32)), (.int p1)])) _
      refine XS.iand X0.here hx rfl (hb hby at_26) rfl ?_
      show Steps pg.tables ee below (s₁.setTop (mkF mm 27 #[.val (.int p0), .val (.int p1), .val (.long q2), .second, .val (.long q3), .second, .val (.long q4), .second, .val (.int p5), .val (.int (0 : Int32)), .unset, .unset, .unset, .unset, .unset, .unset, .unset] [(.int (p1 &&& (2147483647 : Int32)))])) _
      refine XS.istore X0.here hx rfl (hb hby at_27) rfl (l' := #[.val (.int p0), .val (.int p1), .val (.long q2), .second, .val (.long q3), .second, .val (.long q4), .second, .val (.int p5), .val (.int (0 : Int32)), .val (.int (p1 &&& (2147483647 : Int32))), .unset, .unset, .unset, .unset, .unset, .unset]) rfl ?_
      show Steps pg.tables ee below (s₁.setTop (mkF mm 29 #[.val (.int p0), .val (.int p1), .val (.long q2), .second, .val (.long q3), .second, .val (.long q4), .second, .val (.int p5), .val (.int (0 : Int32)), .val (.int (p1 &&& (2147483647 : Int32))), .unset, .unset, .unset, .unset, .unset, .unset] [])) _
      refine XS.iconst X0.here hx rfl (hb hby at_29) ?_
      show Steps pg.tables ee below (s₁.setTop (mkF mm 30 #[.val (.int p0), .val (.int p1), .val (.long q2), .second, .val (.long q3), .second, .val (.long q4), .second, .val (.int p5), .val (.int (0 : Int32)), .val (.int (p1 &&& (2147483647 : Int32))), .unset, .unset, .unset, .unset, .unset, .unset] [(.int (1 : Int32))])) _
      refine st3 _ ?_
      show Steps pg.tables ee below (T3.setTop (mkF mm 32 #[.val (.int p0), .val (.int p1), .val (.long q2), .second, .val (.long q3), .second, .val (.long q4), .second, .val (.int p5), .val (.int (0 : Int32)), .val (.int (p1 &&& (2147483647 : Int32))), .unset, .unset, .unset, .unset, .unset, .unset] [(.ref b3)])) _
      refine XS.dup X3.here hx rfl (hb hby at_32) rfl rfl ?_
      show Steps pg.tables ee below (T3.setTop (mkF mm 33 #[.val (.int p0), .val (.int p1), .val (.long q2), .second, .val (.long q3), .second, .val (.long q4), .second, .val (.int p5), .val (.int (0 : Int32)), .val (.int (p1 &&& (2147483647 : Int32))), .unset, .unset, .unset, .unset, .unset, .unset] [(.ref b3), (.ref b3)])) _
      refine XS.iconst X3.here hx rfl (hb hby at_33) ?_
      show Steps pg.tables ee below (T3.setTop (mkF mm 34 #[.val (.int p0), .val (.int p1), .val (.long q2), .second, .val (.long q3), .second, .val (.long q4), .second, .val (.int p5), .val (.int (0 : Int32)), .val (.int (p1 &&& (2147483647 : Int32))), .unset, .unset, .unset, .unset, .unset, .unset] [(.int (0 : Int32)), (.ref b3), (.ref b3)])) _
      refine XS.lload X3.here hx rfl (hb hby at_34) rfl ?_
      show Steps pg.tables ee below (T3.setTop (mkF mm 36 #[.val (.int p0), .val (.int p1), .val (.long q2), .second, .val (.long q3), .second, .val (.long q4), .second, .val (.int p5), .val (.int (0 : Int32)), .val (.int (p1 &&& (2147483647 : Int32))), .unset, .unset, .unset, .unset, .unset, .unset] [(.long q4), (.int (0 : Int32)), (.ref b3), (.ref b3)])) _
      refine st5 _ ?_
      show Steps pg.tables ee below (T5.setTop (mkF mm 37 #[.val (.int p0), .val (.int p1), .val (.long q2), .second, .val (.long q3), .second, .val (.long q4), .second, .val (.int p5), .val (.int (0 : Int32)), .val (.int (p1 &&& (2147483647 : Int32))), .unset, .unset, .unset, .unset, .unset, .unset] [(.ref b3)])) _
      refine XS.astore X5.here hx rfl (hb hby at_37) rfl rfl (l' := #[.val (.int p0), .val (.int p1), .val (.long q2), .second, .val (.long q3), .second, .val (.long q4), .second, .val (.int p5), .val (.int (0 : Int32)), .val (.int (p1 &&& (2147483647 : Int32))), .val (.ref b3), .unset, .unset, .unset, .unset, .unset]) rfl ?_
      show Steps pg.tables ee below (T5.setTop (mkF mm 39 #[.val (.int p0), .val (.int p1), .val (.long q2), .second, .val (.long q3), .second, .val (.long q4), .second, .val (.int p5), .val (.int (0 : Int32)), .val (.int (p1 &&& (2147483647 : Int32))), .val (.ref b3), .unset, .unset, .unset, .unset, .unset] [])) _
      refine st6 _ ?_
      show Steps pg.tables ee below (T6.setTop (mkF mm 42 #[.val (.int p0), .val (.int p1), .val (.long q2), .second, .val (.long q3), .second, .val (.long q4), .second, .val (.int p5), .val (.int (0 : Int32)), .val (.int (p1 &&& (2147483647 : Int32))), .val (.ref b3), .unset, .unset, .unset, .unset, .unset] [(.ref b6)])) _
      refine XS.dup X6.here hx rfl (hb hby at_42) rfl rfl ?_
      show Steps pg.tables ee below (T6.setTop (mkF mm 43 #[.val (.int p0), .val (.int p1), .val (.long q2), .second, .val (.long q3), .second, .val (.long q4), .second, .val (.int p5), .val (.int (0 : Int32)), .val (.int (p1 &&& (2147483647 : Int32))), .val (.ref b3), .unset, .unset, .unset, .unset, .unset] [(.ref b6), (.ref b6)])) _
      refine XS.iloadN X6.here hx rfl (hb hby at_43) rfl ?_
      show Steps pg.tables ee below (T6.setTop (mkF mm 44 #[.val (.int p0), .val (.int p1), .val (.long q2), .second, .val (.long q3), .second, .val (.long q4), .second, .val (.int p5), .val (.int (0 : Int32)), .val (.int (p1 &&& (2147483647 : Int32))), .val (.ref b3), .unset, .unset, .unset, .unset, .unset] [(.int p0), (.ref b6), (.ref b6)])) _
      refine XS.iload X6.here hx rfl (hb hby at_44) rfl ?_
      show Steps pg.tables ee below (T6.setTop (mkF mm 46 #[.val (.int p0), .val (.int p1), .val (.long q2), .second, .val (.long q3), .second, .val (.long q4), .second, .val (.int p5), .val (.int (0 : Int32)), .val (.int (p1 &&& (2147483647 : Int32))), .val (.ref b3), .unset, .unset, .unset, .unset, .unset] [(.int (p1 &&& (2147483647 : Int32))), (.int p0), (.ref b6), (.ref b6)])) _
      refine XS.lloadN X6.here hx rfl (hb hby at_46) rfl ?_
      show Steps pg.tables ee below (T6.setTop (mkF mm 47 #[.val (.int p0), .val (.int p1), .val (.long q2), .second, .val (.long q3), .second, .val (.long q4), .second, .val (.int p5), .val (.int (0 : Int32)), .val (.int (p1 &&& (2147483647 : Int32))), .val (.ref b3), .unset, .unset, .unset, .unset, .unset] [(.long q2), (.int (p1 &&& (2147483647 : Int32))), (.int p0), (.ref b6), (.ref b6)])) _
      refine XS.lload X6.here hx rfl (hb hby at_47) rfl ?_
      show Steps pg.tables ee below (T6.setTop (mkF mm 49 #[.val (.int p0), .val (.int p1), .val (.long q2), .second, .val (.long q3), .second, .val (.long q4), .second, .val (.int p5), .val (.int (0 : Int32)), .val (.int (p1 &&& (2147483647 : Int32))), .val (.ref b3), .unset, .unset, .unset, .unset, .unset] [(.long q3), (.long q2), (.int (p1 &&& (2147483647 : Int32))), (.int p0), (.ref b6), (.ref b6)])) _
      refine XS.aload X6.here hx rfl (hb hby at_49) rfl rfl ?_
      show Steps pg.tables ee below (T6.setTop (mkF mm 51 #[.val (.int p0), .val (.int p1), .val (.long q2), .second, .val (.long q3), .second, .val (.long q4), .second, .val (.int p5), .val (.int (0 : Int32)), .val (.int (p1 &&& (2147483647 : Int32))), .val (.ref b3), .unset, .unset, .unset, .unset, .unset] [(.ref b3), (.long q3), (.long q2), (.int (p1 &&& (2147483647 : Int32))), (.int p0), (.ref b6), (.ref b6)])) _
      refine st7.trans ?_
      show Steps pg.tables ee below (T7.setTop (mkF mm 54 #[.val (.int p0), .val (.int p1), .val (.long q2), .second, .val (.long q3), .second, .val (.long q4), .second, .val (.int p5), .val (.int (0 : Int32)), .val (.int (p1 &&& (2147483647 : Int32))), .val (.ref b3), .unset, .unset, .unset, .unset, .unset] [(.ref b6)])) _
      refine XS.astore X7.here hx rfl (hb hby at_54) rfl rfl (l' := #[.val (.int p0), .val (.int p1), .val (.long q2), .second, .val (.long q3), .second, .val (.long q4), .second, .val (.int p5), .val (.int (0 : Int32)), .val (.int (p1 &&& (2147483647 : Int32))), .val (.ref b3), .val (.ref b6), .unset, .unset, .unset, .unset]) rfl ?_
      show Steps pg.tables ee below (T7.setTop (mkF mm 56 #[.val (.int p0), .val (.int p1), .val (.long q2), .second, .val (.long q3), .second, .val (.long q4), .second, .val (.int p5), .val (.int (0 : Int32)), .val (.int (p1 &&& (2147483647 : Int32))), .val (.ref b3), .val (.ref b6), .unset, .unset, .unset, .unset] [])) _
      refine XS.aload X7.here hx rfl (hb hby at_56) rfl rfl ?_
      show Steps pg.tables ee below (T7.setTop (mkF mm 58 #[.val (.int p0), .val (.int p1), .val (.long q2), .second, .val (.long q3), .second, .val (.long q4), .second, .val (.int p5), .val (.int (0 : Int32)), .val (.int (p1 &&& (2147483647 : Int32))), .val (.ref b3), .val (.ref b6), .unset, .unset, .unset, .unset] [(.ref b6)])) _
      refine st8.trans ?_
      show Steps pg.tables ee below (T8.setTop (mkF mm 61 #[.val (.int p0), .val (.int p1), .val (.long q2), .second, .val (.long q3), .second, .val (.long q4), .second, .val (.int p5), .val (.int (0 : Int32)), .val (.int (p1 &&& (2147483647 : Int32))), .val (.ref b3), .val (.ref b6), .unset, .unset, .unset, .unset] [(.int (1 : Int32))])) _
      refine XS.istore X8.here hx rfl (hb hby at_61) rfl (l' := #[.val (.int p0), .val (.int p1), .val (.long q2), .second, .val (.long q3), .second, .val (.long q4), .second, .val (.int p5), .val (.int (0 : Int32)), .val (.int (p1 &&& (2147483647 : Int32))), .val (.ref b3), .val (.ref b6), .val (.int (1 : Int32)), .unset, .unset, .unset]) rfl ?_
      show Steps pg.tables ee below (T8.setTop (mkF mm 63 #[.val (.int p0), .val (.int p1), .val (.long q2), .second, .val (.long q3), .second, .val (.long q4), .second, .val (.int p5), .val (.int (0 : Int32)), .val (.int (p1 &&& (2147483647 : Int32))), .val (.ref b3), .val (.ref b6), .val (.int (1 : Int32)), .unset, .unset, .unset] [])) _
      refine XS.aload X8.here hx rfl (hb hby at_63) rfl rfl ?_
      show Steps pg.tables ee below (T8.setTop (mkF mm 65 #[.val (.int p0), .val (.int p1), .val (.long q2), .second, .val (.long q3), .second, .val (.long q4), .second, .val (.int p5), .val (.int (0 : Int32)), .val (.int (p1 &&& (2147483647 : Int32))), .val (.ref b3), .val (.ref b6), .val (.int (1 : Int32)), .unset, .unset, .unset] [(.ref b6)])) _
      refine XS.iloadN X8.here hx rfl (hb hby at_65) rfl ?_
      show Steps pg.tables ee below (T8.setTop (mkF mm 66 #[.val (.int p0), .val (.int p1), .val (.long q2), .second, .val (.long q3), .second, .val (.long q4), .second, .val (.int p5), .val (.int (0 : Int32)), .val (.int (p1 &&& (2147483647 : Int32))), .val (.ref b3), .val (.ref b6), .val (.int (1 : Int32)), .unset, .unset, .unset] [(.int p1), (.ref b6)])) _
      refine st9.trans ?_
      show Steps pg.tables ee below (T9.setTop (mkF mm 69 #[.val (.int p0), .val (.int p1), .val (.long q2), .second, .val (.long q3), .second, .val (.long q4), .second, .val (.int p5), .val (.int (0 : Int32)), .val (.int (p1 &&& (2147483647 : Int32))), .val (.ref b3), .val (.ref b6), .val (.int (1 : Int32)), .unset, .unset, .unset] [(.ref bs9)])) _
      refine XS.astore X9.here hx rfl (hb hby at_69) rfl rfl (l' := #[.val (.int p0), .val (.int p1), .val (.long q2), .second, .val (.long q3), .second, .val (.long q4), .second, .val (.int p5), .val (.int (0 : Int32)), .val (.int (p1 &&& (2147483647 : Int32))), .val (.ref b3), .val (.ref b6), .val (.int (1 : Int32)), .val (.ref bs9), .unset, .unset]) rfl ?_
      show Steps pg.tables ee below (T9.setTop (mkF mm 71 #[.val (.int p0), .val (.int p1), .val (.long q2), .second, .val (.long q3), .second, .val (.long q4), .second, .val (.int p5), .val (.int (0 : Int32)), .val (.int (p1 &&& (2147483647 : Int32))), .val (.ref b3), .val (.ref b6), .val (.int (1 : Int32)), .val (.ref bs9), .unset, .unset] [])) _
      refine XS.aload X9.here hx rfl (hb hby at_71) rfl rfl ?_
      show Steps pg.tables ee below (T9.setTop (mkF mm 73 #[.val (.int p0), .val (.int p1), .val (.long q2), .second, .val (.long q3), .second, .val (.long q4), .second, .val (.int p5), .val (.int (0 : Int32)), .val (.int (p1 &&& (2147483647 : Int32))), .val (.ref b3), .val (.ref b6), .val (.int (1 : Int32)), .val (.ref bs9), .unset, .unset] [(.ref bs9)])) _
      refine st10.trans ?_
      show Steps pg.tables ee below (T10.setTop (mkF mm 76 #[.val (.int p0), .val (.int p1), .val (.long q2), .second, .val (.long q3), .second, .val (.long q4), .second, .val (.int p5), .val (.int (0 : Int32)), .val (.int (p1 &&& (2147483647 : Int32))), .val (.ref b3), .val (.ref b6), .val (.int (1 : Int32)), .val (.ref bs9), .unset, .unset] [(.int (1 : Int32))])) _
      refine XS.istore X10.here hx rfl (hb hby at_76) rfl (l' := #[.val (.int p0), .val (.int p1), .val (.long q2), .second, .val (.long q3), .second, .val (.long q4), .second, .val (.int p5), .val (.int (0 : Int32)), .val (.int (p1 &&& (2147483647 : Int32))), .val (.ref b3), .val (.ref b6), .val (.int (1 : Int32)), .val (.ref bs9), .val (.int (1 : Int32)), .unset]) rfl ?_
      show Steps pg.tables ee below (T10.setTop (mkF mm 78 #[.val (.int p0), .val (.int p1), .val (.long q2), .second, .val (.long q3), .second, .val (.long q4), .second, .val (.int p5), .val (.int (0 : Int32)), .val (.int (p1 &&& (2147483647 : Int32))), .val (.ref b3), .val (.ref b6), .val (.int (1 : Int32)), .val (.ref bs9), .val (.int (1 : Int32)), .unset] [])) _
      refine XS.iload X10.here hx rfl (hb hby at_78) rfl ?_
      show Steps pg.tables ee below (T10.setTop (mkF mm 80 #[.val (.int p0), .val (.int p1), .val (.long q2), .second, .val (.long q3), .second, .val (.long q4), .second, .val (.int p5), .val (.int (0 : Int32)), .val (.int (p1 &&& (2147483647 : Int32))), .val (.ref b3), .val (.ref b6), .val (.int (1 : Int32)), .val (.ref bs9), .val (.int (1 : Int32)), .unset] [(.int (0 : Int32))])) _
      refine XS.ifNo X10.here hx rfl (hb hby at_80) rfl ((if0 _ _).trans (teq (by decide : (0 : Int32) = (0 : Int32))).2) ?_
      show Steps pg.tables ee below (T10.setTop (mkF mm 83 #[.val (.int p0), .val (.int p1), .val (.long q2), .second, .val (.long q3), .second, .val (.long q4), .second, .val (.int p5), .val (.int (0 : Int32)), .val (.int (p1 &&& (2147483647 : Int32))), .val (.ref b3), .val (.ref b6), .val (.int (1 : Int32)), .val (.ref bs9), .val (.int (1 : Int32)), .unset] [])) _
      refine XS.iconst X10.here hx rfl (hb hby at_83) ?_
      show Steps pg.tables ee below (T10.setTop (mkF mm 84 #[.val (.int p0), .val (.int p1), .val (.long q2), .second, .val (.long q3), .second, .val (.long q4), .second, .val (.int p5), .val (.int (0 : Int32)), .val (.int (p1 &&& (2147483647 : Int32))), .val (.ref b3), .val (.ref b6), .val (.int (1 : Int32)), .val (.ref bs9), .val (.int (1 : Int32)), .unset] [(.int (1 : Int32))])) _
      refine XS.goto X10.here hx rfl (pc0 := 84) (pc' := 88) rfl (hb hby at_84) (by decide) (by decide) ?_
      show Steps pg.tables ee below (T10.setTop (mkF mm 88 #[.val (.int p0), .val (.int p1), .val (.long q2), .second, .val (.long q3), .second, .val (.long q4), .second, .val (.int p5), .val (.int (0 : Int32)), .val (.int (p1 &&& (2147483647 : Int32))), .val (.ref b3), .val (.ref b6), .val (.int (1 : Int32)), .val (.ref bs9), .val (.int (1 : Int32)), .unset] [(.int (1 : Int32))])) _
      refine XS.istore X10.here hx rfl (hb hby at_88) rfl (l' := #[.val (.int p0), .val (.int p1), .val (.long q2), .second, .val (.long q3), .second, .val (.long q4), .second, .val (.int p5), .val (.int (0 : Int32)), .val (.int (p1 &&& (2147483647 : Int32))), .val (.ref b3), .val (.ref b6), .val (.int (1 : Int32)), .val (.ref bs9), .val (.int (1 : Int32)), .val (.int (1 : Int32))]) rfl ?_
      show Steps pg.tables ee below (T10.setTop (mkF mm 90 #[.val (.int p0), .val (.int p1), .val (.long q2), .second, .val (.long q3), .second, .val (.long q4), .second, .val (.int p5), .val (.int (0 : Int32)), .val (.int (p1 &&& (2147483647 : Int32))), .val (.ref b3), .val (.ref b6), .val (.int (1 : Int32)), .val (.ref bs9), .val (.int (1 : Int32)), .val (.int (1 : Int32))] [])) _
      refine XS.iload X10.here hx rfl (hb hby at_90) rfl ?_
      show Steps pg.tables ee below (T10.setTop (mkF mm 92 #[.val (.int p0), .val (.int p1), .val (.long q2), .second, .val (.long q3), .second, .val (.long q4), .second, .val (.int p5), .val (.int (0 : Int32)), .val (.int (p1 &&& (2147483647 : Int32))), .val (.ref b3), .val (.ref b6), .val (.int (1 : Int32)), .val (.ref bs9), .val (.int (1 : Int32)), .val (.int (1 : Int32))] [(.int (1 : Int32))])) _
      refine XS.iload X10.here hx rfl (hb hby at_92) rfl ?_
      show Steps pg.tables ee below (T10.setTop (mkF mm 94 #[.val (.int p0), .val (.int p1), .val (.long q2), .second, .val (.long q3), .second, .val (.long q4), .second, .val (.int p5), .val (.int (0 : Int32)), .val (.int (p1 &&& (2147483647 : Int32))), .val (.ref b3), .val (.ref b6), .val (.int (1 : Int32)), .val (.ref bs9), .val (.int (1 : Int32)), .val (.int (1 : Int32))] [(.int (1 : Int32)), (.int (1 : Int32))])) _
      refine XS.icmpNo X10.here hx rfl (hb hby at_94) rfl (teq (by decide : (1 : Int32) = (1 : Int32))).2 ?_
      show Steps pg.tables ee below (T10.setTop (mkF mm 97 #[.val (.int p0), .val (.int p1), .val (.long q2), .second, .val (.long q3), .second, .val (.long q4), .second, .val (.int p5), .val (.int (0 : Int32)), .val (.int (p1 &&& (2147483647 : Int32))), .val (.ref b3), .val (.ref b6), .val (.int (1 : Int32)), .val (.ref bs9), .val (.int (1 : Int32)), .val (.int (1 : Int32))] [])) _
      refine XS.iload X10.here hx rfl (hb hby at_97) rfl ?_
      show Steps pg.tables ee below (T10.setTop (mkF mm 99 #[.val (.int p0), .val (.int p1), .val (.long q2), .second, .val (.long q3), .second, .val (.long q4), .second, .val (.int p5), .val (.int (0 : Int32)), .val (.int (p1 &&& (2147483647 : Int32))), .val (.ref b3), .val (.ref b6), .val (.int (1 : Int32)), .val (.ref bs9), .val (.int (1 : Int32)), .val (.int (1 : Int32))] [(.int (1 : Int32))])) _
      refine XS.iload X10.here hx rfl (hb hby at_99) rfl ?_
      show Steps pg.tables ee below (T10.setTop (mkF mm 101 #[.val (.int p0), .val (.int p1), .val (.long q2), .second, .val (.long q3), .second, .val (.long q4), .second, .val (.int p5), .val (.int (0 : Int32)), .val (.int (p1 &&& (2147483647 : Int32))), .val (.ref b3), .val (.ref b6), .val (.int (1 : Int32)), .val (.ref bs9), .val (.int (1 : Int32)), .val (.int (1 : Int32))] [(.int (1 : Int32)), (.int (1 : Int32))])) _
      refine XS.icmpNo X10.here hx rfl (hb hby at_101) rfl (teq (by decide : (1 : Int32) = (1 : Int32))).2 ?_
      show Steps pg.tables ee below (T10.setTop (mkF mm 104 #[.val (.int p0), .val (.int p1), .val (.long q2), .second, .val (.long q3), .second, .val (.long q4), .second, .val (.int p5), .val (.int (0 : Int32)), .val (.int (p1 &&& (2147483647 : Int32))), .val (.ref b3), .val (.ref b6), .val (.int (1 : Int32)), .val (.ref bs9), .val (.int (1 : Int32)), .val (.int (1 : Int32))] [])) _
      refine XS.aload X10.here hx rfl (hb hby at_104) rfl rfl ?_
      show Steps pg.tables ee below (T10.setTop (mkF mm 106 #[.val (.int p0), .val (.int p1), .val (.long q2), .second, .val (.long q3), .second, .val (.long q4), .second, .val (.int p5), .val (.int (0 : Int32)), .val (.int (p1 &&& (2147483647 : Int32))), .val (.ref b3), .val (.ref b6), .val (.int (1 : Int32)), .val (.ref bs9), .val (.int (1 : Int32)), .val (.int (1 : Int32))] [(.ref b6)])) _
      refine st11.trans ?_
      show Steps pg.tables ee below (T11.setTop (mkF mm 109 #[.val (.int p0), .val (.int p1), .val (.long q2), .second, .val (.long q3), .second, .val (.long q4), .second, .val (.int p5), .val (.int (0 : Int32)), .val (.int (p1 &&& (2147483647 : Int32))), .val (.ref b3), .val (.ref b6), .val (.int (1 : Int32)), .val (.ref bs9), .val (.int (1 : Int32)), .val (.int (1 : Int32))] [(.int (p1 &&& (2147483647 : Int32)))])) _
      refine XS.iload X11.here hx rfl (hb hby at_109) rfl ?_
      show Steps pg.tables ee below (T11.setTop (mkF mm 111 #[.val (.int p0), .val (.int p1), .val (.long q2), .second, .val (.long q3), .second, .val (.long q4), .second, .val (.int p5), .val (.int (0 : Int32)), .val (.int (p1 &&& (2147483647 : Int32))), .val (.ref b3), .val (.ref b6), .val (.int (1 : Int32)), .val (.ref bs9), .val (.int (1 : Int32)), .val (.int (1 : Int32))] [(.int (p1 &&& (2147483647 : Int32))), (.int (p1 &&& (2147483647 : Int32)))])) _
      refine XS.icmpNo X11.here hx rfl (hb hby at_111) rfl (teq (rfl : (p1 &&& (2147483647 : Int32)) = (p1 &&& (2147483647 : Int32)))).2 ?_
      show Steps pg.tables ee below (T11.setTop (mkF mm 114 #[.val (.int p0), .val (.int p1), .val (.long q2), .second, .val (.long q3), .second, .val (.long q4), .second, .val (.int p5), .val (.int (0 : Int32)), .val (.int (p1 &&& (2147483647 : Int32))), .val (.ref b3), .val (.ref b6), .val (.int (1 : Int32)), .val (.ref bs9), .val (.int (1 : Int32)), .val (.int (1 : Int32))] [])) _
      refine XS.iconst X11.here hx rfl (hb hby at_114) ?_
      show Steps pg.tables ee below (T11.setTop (mkF mm 115 #[.val (.int p0), .val (.int p1), .val (.long q2), .second, .val (.long q3), .second, .val (.long q4), .second, .val (.int p5), .val (.int (0 : Int32)), .val (.int (p1 &&& (2147483647 : Int32))), .val (.ref b3), .val (.ref b6), .val (.int (1 : Int32)), .val (.ref bs9), .val (.int (1 : Int32)), .val (.int (1 : Int32))] [(.int (1 : Int32))])) _
      refine XS.goto X11.here hx rfl (pc0 := 115) (pc' := 119) rfl (hb hby at_115) (by decide) (by decide) ?_
      show Steps pg.tables ee below (T11.setTop (mkF mm 119 #[.val (.int p0), .val (.int p1), .val (.long q2), .second, .val (.long q3), .second, .val (.long q4), .second, .val (.int p5), .val (.int (0 : Int32)), .val (.int (p1 &&& (2147483647 : Int32))), .val (.ref b3), .val (.ref b6), .val (.int (1 : Int32)), .val (.ref bs9), .val (.int (1 : Int32)), .val (.int (1 : Int32))] [(.int (1 : Int32))])) _
      exact retN X11 hx (t := .boolean) Bd.returns (by simp) (hb hby at_119) hr
    · show Qrm0 Z p0 p1 q2 q3 q4 p5 aS aL h0 n0 _ T11.heap _
      rw [e11]
      exact ⟨rfl, N11⟩
  · obtain ⟨T12, h12, k12, X12, e12, E12, A12, Ea12, st12⟩ := newPE X0 hx hZ (hw _ (List.mem_of_getElem? (i := 0) rfl)) e0 (g := (mkF mm 30 #[.val (.int p0), .val (.int p1), .val (.long q2), .second, .val (.long q3), .second, .val (.long q4), .second, .val (.int p5), .val (.int (1 : Int32)), .val (.int (-1 : Int32)), .unset, .unset, .unset, .unset, .unset, .unset] [(.int (1 : Int32))])) rfl (hb hby at_30) rfl (by decide) (cap := 1) (by decide) (by decide) (by decide) (by decide) (ad := "[J") (by decide)
    obtain ⟨b12, g12⟩ : ∃ z, z = h0.size := ⟨_, rfl⟩
    rw [← g12] at A12 Ea12 st12
    have g_b12 : n0 ≤ b12 := Nat.le_trans (O0.1 ▸ O0.2.1) (Nat.le_of_eq g12.symm)
    have sz_b12 : h0.size ≤ b12 := Nat.le_trans K0.1 (Nat.le_of_eq g12.symm)
    have O12 := O0.ext E12
    have KK12 := K0.ext E12
    have V12 : Arv Z h12 b12 k12 .long (1 : Int32) [(.long (0 : Int64))] (.long (0 : Int64)) := (Arv.new A12 (by decide)).pad (pad_rep [] (.long (0 : Int64)) 1)
    obtain ⟨cl13, Ar13, qk13, Sz13, Nn13, Hh13, Gg13⟩ := V12
    have hin13 : ¬ ((0 : Int32) < 0 ∨ cl13.slots.size ≤ ((0 : Int32)).toNatClampNeg) := inb_of Sz13 ⟨by decide, by decide⟩
    obtain ⟨T14, h14, X14, e14, W14, st14⟩ := stJ X12 hx hZ e12 Ar13 (j := (0 : Int32)) hin13 (g := (mkF mm 36 #[.val (.int p0), .val (.int p1), .val (.long q2), .second, .val (.long q3), .second, .val (.long q4), .second, .val (.int p5), .val (.int (1 : Int32)), .val (.int (-1 : Int32)), .unset, .unset, .unset, .unset, .unset, .unset] [(.long q4), (.int (0 : Int32)), (.ref b12), (.ref b12)])) rfl rfl (hb hby at_36)
    have V14 : Arv Z h14 b12 k12 .long (1 : Int32) [(.long q4)] (.long (0 : Int64)) := Arv.set Ar13 qk13 Sz13 Nn13 Hh13 Gg13 rfl W14 0 rfl (Nat.le_of_ble_eq_true rfl)
    have N14 := Fr.snoc X14 N0 g_b12
    have O14 := O12.wr W14 g_b12
    have KK14 := KK12.wr W14 (Or.inr sz_b12)
    obtain ⟨T15, h15, X15, e15, E15, A15, D15, -, st15⟩ := newO X14 hx hZ hown (hw _ (List.mem_of_getElem? (i := 1) rfl)) (hw _ (List.mem_of_getElem? (i := 2) rfl)) (hw _ (List.mem_of_getElem? (i := 3) rfl)) e14 (g := (mkF mm 39 #[.val (.int p0), .val (.int p1), .val (.long q2), .second, .val (.long q3), .second, .val (.long q4), .second, .val (.int p5), .val (.int (1 : Int32)), .val (.int (-1 : Int32)), .val (.ref b12), .unset, .unset, .unset, .unset, .unset] [])) rfl (hb hby at_39) (by decide) (by decide)
    obtain ⟨b15, g15⟩ : ∃ z, z = h14.size := ⟨_, rfl⟩
    rw [← g15] at A15 D15 st15
    have g_b15 : n0 ≤ b15 := Nat.le_trans (O14.1 ▸ O14.2.1) (Nat.le_of_eq g15.symm)
    have sz_b15 : h0.size ≤ b15 := Nat.le_trans KK14.1 (Nat.le_of_eq g15.symm)
    have O15 := O14.ext E15
    have KK15 := KK14.ext E15
    have F_skills_b15 : Fld Z h15 b15 "com/example/stops_to_routes/stopstoroutes/planner/Vehicle" "skills" "Ljava/util/Set;" .null := D15 (Or.inl (hw _ (List.mem_of_getElem? (i := 17) rfl))) (ty := (.object "java/util/Set")) (by decide)
    have F_maxStops_b15 : Fld Z h15 b15 "com/example/stops_to_routes/stopstoroutes/planner/Vehicle" "maxStops" "I" (.int (0 : Int32)) := D15 (Or.inl (hw _ (List.mem_of_getElem? (i := 20) rfl))) (ty := .int) (by decide)
    have F_breaks_b15 : Fld Z h15 b15 "com/example/stops_to_routes/stopstoroutes/planner/Vehicle" "breaks" "Ljava/util/List;" .null := D15 (Or.inl (hw _ (List.mem_of_getElem? (i := 27) rfl))) (ty := (.object "java/util/List")) (by decide)
    have F_start_b15 : Fld Z h15 b15 "com/example/stops_to_routes/stopstoroutes/planner/Vehicle" "start" "I" (.int (0 : Int32)) := D15 (Or.inr (hw _ (List.mem_of_getElem? (i := 29) rfl))) (ty := .int) (by decide)
    have F_end_b15 : Fld Z h15 b15 "com/example/stops_to_routes/stopstoroutes/planner/Vehicle" "end" "I" (.int (0 : Int32)) := D15 (Or.inr (hw _ (List.mem_of_getElem? (i := 31) rfl))) (ty := .int) (by decide)
    have F_shiftStart_b15 : Fld Z h15 b15 "com/example/stops_to_routes/stopstoroutes/planner/Vehicle" "shiftStart" "J" (.long (0 : Int64)) := D15 (Or.inr (hw _ (List.mem_of_getElem? (i := 33) rfl))) (ty := .long) (by decide)
    have F_shiftEnd_b15 : Fld Z h15 b15 "com/example/stops_to_routes/stopstoroutes/planner/Vehicle" "shiftEnd" "J" (.long (0 : Int64)) := D15 (Or.inr (hw _ (List.mem_of_getElem? (i := 35) rfl))) (ty := .long) (by decide)
    have F_capacity_b15 : Fld Z h15 b15 "com/example/stops_to_routes/stopstoroutes/planner/Vehicle" "capacity" "[J" .null := D15 (Or.inr (hw _ (List.mem_of_getElem? (i := 46) rfl))) (ty := (.array .long)) (by decide)
    obtain ⟨_, _, ⟨T16, L16, k16, n16⟩, -, X16, ⟨Lc16, hQ16, l16, y16, z16⟩, st16⟩ := X15.specialBack hx (y := (⟨"com/example/stops_to_routes/stopstoroutes/planner/Vehicle", "<init>", "(IIJJ[J)V"⟩ : MethodName)) rfl hown (mvT hZ (hw _ (List.mem_of_getElem? (i := 4) rfl))) (mvT hZ (hw _ (List.mem_of_getElem? (i := 5) rfl))) (mvT hZ (hw _ (List.mem_of_getElem? (i := 6) rfl))) (by decide) (backOf (W := 1) (rmI l Z a0 hw [] b15 p0 (-1 : Int32) q2 q3 b12 k12 (.long q4)  aS aL h15 n0 O15 A15 F_skills_b15 F_maxStops_b15 F_breaks_b15 F_start_b15 F_end_b15 F_shiftStart_b15 F_shiftEnd_b15 F_capacity_b15 g_b15 (V14.ext E15) ((Ea12.wr W14).ext E15) (Nat.ne_of_lt (Nat.lt_of_lt_of_le V14.lt (Nat.le_of_eq g15.symm))) S_EMPTY_SET S_EMPTY_LIST) hZ (hw _ (List.mem_of_getElem? (i := 6) rfl)) (hw _ (List.mem_of_getElem? (i := 3) rfl)) (by decide) (by decide)) (g := (mkF mm 51 #[.val (.int p0), .val (.int p1), .val (.long q2), .second, .val (.long q3), .second, .val (.long q4), .second, .val (.int p5), .val (.int (1 : Int32)), .val (.int (-1 : Int32)), .val (.ref b12), .unset, .unset, .unset, .unset, .unset] [(.ref b12), (.long q3), (.long q2), (.int (-1 : Int32)), (.int p0), (.ref b15), (.ref b15)])) rfl (by rw [hml]; rfl) (Steps.refl _) (a := b15) (argsL := [(.int p0), (.int (-1 : Int32)), (.long q2), (.long q3), (.ref b12)]) (rest := [(.ref b15)]) (lenOf pd_111 rfl) rfl (by show 2 * 0 + _ ≤ _; exact Nat.le_of_eq rfl) (hb hby at_51) (fun _ _ => ⟨rfl, e15, (by decide : 2 + 1 ≤ _), (by decide : 9 + 1 ≤ _)⟩)
    dsimp only [Pt.U, Pt.locs, Pt.cells, Pt.slots] at X16 l16 y16 z16 st16 hQ16
    subst l16 y16 z16
    obtain ⟨rfl, N16q, K16, cp16, Ex16, Fv0_16, Fv1_16, Fv2_16, Fv3_16, Fv4_16, Fv5_16, Fv6_16, Fv7_16⟩ := hQ16
    have O16 := O15.keep K16 (allS g_b15 all0)
    have KK16 := KK15.trans K16 (allS (Or.inr sz_b15) all0)
    have N16 := Fr.app N14 N16q
    obtain ⟨cq17, kq17, q17a, q17b, q17c⟩ := isOf hZ rfl Ex16
    obtain ⟨_, _, ⟨T17, L17, k17, n17⟩, -, X17, ⟨Lc17, hQ17, l17, y17, z17⟩, st17⟩ := X16.virtualBack hx (y := (⟨"com/example/stops_to_routes/stopstoroutes/planner/Vehicle", "hasEnd", "()Z"⟩ : MethodName)) (z := (⟨"com/example/stops_to_routes/stopstoroutes/planner/Vehicle", "hasEnd", "()Z"⟩ : MethodName)) hown (mvT hZ (hw _ (List.mem_of_getElem? (i := 47) rfl))) (mvT hZ (hw _ (List.mem_of_getElem? (i := 48) rfl))) (notFace_of_selects (args := #[]) (mvT hZ (hw _ (List.mem_of_getElem? (i := 50) rfl)))) (mvT hZ (hw _ (List.mem_of_getElem? (i := 50) rfl))) (mvT hZ (hw _ (List.mem_of_getElem? (i := 49) rfl))) (by decide) (backOf (W := 0) (rmH0 l Z a0 hw [] b15 (-1 : Int32) T16.heap n0 O16 Fv4_16 rfl) hZ (hw _ (List.mem_of_getElem? (i := 51) rfl)) (hw _ (List.mem_of_getElem? (i := 3) rfl)) (by decide) (by decide)) q17a q17c (g := (mkF mm 58 #[.val (.int p0), .val (.int p1), .val (.long q2), .second, .val (.long q3), .second, .val (.long q4), .second, .val (.int p5), .val (.int (1 : Int32)), .val (.int (-1 : Int32)), .val (.ref b12), .val (.ref b15), .unset, .unset, .unset, .unset] [(.ref b15)])) rfl (by rw [hml]; rfl) (Steps.refl _) (argsL := []) (rest := []) (lenOf pd_112 rfl) rfl (by show 2 * 0 + _ ≤ _; exact Nat.le_of_eq rfl) (hb hby at_58) (fun _ _ => ⟨rfl, rfl, (by decide : 3 + 0 ≤ _), (by decide : 10 + 0 ≤ _)⟩)
    dsimp only [Pt.U, Pt.locs, Pt.cells, Pt.slots] at X17 l17 y17 z17 st17 hQ17
    subst l17 y17 z17
    obtain ⟨rfl, N17q, e17⟩ := hQ17
    have N17 := Fr.app N16 N17q
    obtain ⟨cq18, kq18, q18a, q18b, q18c⟩ := isOf hZ e17 Ex16
    obtain ⟨_, _, ⟨T18, L18, k18, n18⟩, -, X18, ⟨Lc18, hQ18, l18, y18, z18⟩, st18⟩ := X17.virtualBack hx (y := (⟨"com/example/stops_to_routes/stopstoroutes/planner/Vehicle", "servingAtMost", "(I)Lcom/example/stops_to_routes/stopstoroutes/planner/Vehicle;"⟩ : MethodName)) (z := (⟨"com/example/stops_to_routes/stopstoroutes/planner/Vehicle", "servingAtMost", "(I)Lcom/example/stops_to_routes/stopstoroutes/planner/Vehicle;"⟩ : MethodName)) hown (mvT hZ (hw _ (List.mem_of_getElem? (i := 52) rfl))) (mvT hZ (hw _ (List.mem_of_getElem? (i := 53) rfl))) (notFace_of_selects (args := #[]) (mvT hZ (hw _ (List.mem_of_getElem? (i := 55) rfl)))) (mvT hZ (hw _ (List.mem_of_getElem? (i := 55) rfl))) (mvT hZ (hw _ (List.mem_of_getElem? (i := 54) rfl))) (by decide) (backOf (W := 0) (rmS l Z a0 hw [] b15 p1 aS (2147483647 : Int32) aL p0 (-1 : Int32) q2 q3 cp16 aS aL T16.heap n0 O16 Ex16 Fv0_16 Fv1_16 Fv2_16 Fv3_16 Fv4_16 Fv5_16 Fv6_16 Fv7_16 S_EMPTY_SET S_EMPTY_LIST) hZ (hw _ (List.mem_of_getElem? (i := 56) rfl)) (hw _ (List.mem_of_getElem? (i := 3) rfl)) (by decide) (by decide)) q18a q18c (g := (mkF mm 66 #[.val (.int p0), .val (.int p1), .val (.long q2), .second, .val (.long q3), .second, .val (.long q4), .second, .val (.int p5), .val (.int (1 : Int32)), .val (.int (-1 : Int32)), .val (.ref b12), .val (.ref b15), .val (.int (0 : Int32)), .unset, .unset, .unset] [(.int p1), (.ref b15)])) rfl (by rw [hml]; rfl) (Steps.refl _) (argsL := [(.int p1)]) (rest := []) (lenOf pd_113 rfl) rfl (by show 2 * 0 + _ ≤ _; exact Nat.le_of_eq rfl) (hb hby at_66) (fun _ _ => ⟨rfl, e17, (by decide : 3 + 1 ≤ _), (by decide : 10 + 8 ≤ _)⟩)
    dsimp only [Pt.U, Pt.locs, Pt.cells, Pt.slots] at X18 l18 y18 z18 st18 hQ18
    subst l18 y18 z18
    obtain ⟨bs18, rfl, N18q, K18, Ex18, Fe18⟩ := hQ18
    have O18 := O16.keep K18 all0
    have KK18 := KK16.trans K18 all0
    have N18 := Fr.app N17 N18q
    obtain ⟨cq19, kq19, q19a, q19b, q19c⟩ := isOf hZ rfl Ex18
    obtain ⟨_, _, ⟨T19, L19, k19, n19⟩, -, X19, ⟨Lc19, hQ19, l19, y19, z19⟩, st19⟩ := X18.virtualBack hx (y := (⟨"com/example/stops_to_routes/stopstoroutes/planner/Vehicle", "hasEnd", "()Z"⟩ : MethodName)) (z := (⟨"com/example/stops_to_routes/stopstoroutes/planner/Vehicle", "hasEnd", "()Z"⟩ : MethodName)) hown (mvT hZ (hw _ (List.mem_of_getElem? (i := 47) rfl))) (mvT hZ (hw _ (List.mem_of_getElem? (i := 48) rfl))) (notFace_of_selects (args := #[]) (mvT hZ (hw _ (List.mem_of_getElem? (i := 50) rfl)))) (mvT hZ (hw _ (List.mem_of_getElem? (i := 50) rfl))) (mvT hZ (hw _ (List.mem_of_getElem? (i := 49) rfl))) (by decide) (backOf (W := 0) (rmH0 l Z a0 hw [] bs18 (-1 : Int32) T18.heap n0 O18 Fe18 rfl) hZ (hw _ (List.mem_of_getElem? (i := 51) rfl)) (hw _ (List.mem_of_getElem? (i := 3) rfl)) (by decide) (by decide)) q19a q19c (g := (mkF mm 73 #[.val (.int p0), .val (.int p1), .val (.long q2), .second, .val (.long q3), .second, .val (.long q4), .second, .val (.int p5), .val (.int (1 : Int32)), .val (.int (-1 : Int32)), .val (.ref b12), .val (.ref b15), .val (.int (0 : Int32)), .val (.ref bs18), .unset, .unset] [(.ref bs18)])) rfl (by rw [hml]; rfl) (Steps.refl _) (argsL := []) (rest := []) (lenOf pd_112 rfl) rfl (by show 2 * 0 + _ ≤ _; exact Nat.le_of_eq rfl) (hb hby at_73) (fun _ _ => ⟨rfl, rfl, (by decide : 4 + 0 ≤ _), (by decide : 18 + 0 ≤ _)⟩)
    dsimp only [Pt.U, Pt.locs, Pt.cells, Pt.slots] at X19 l19 y19 z19 st19 hQ19
    subst l19 y19 z19
    obtain ⟨rfl, N19q, e19⟩ := hQ19
    have N19 := Fr.app N18 N19q
    obtain ⟨cq20, kq20, q20a, q20b, q20c⟩ := isOf hZ e19 (Ex16.keep K18)
    obtain ⟨_, _, ⟨T20, L20, k20, n20⟩, -, X20, ⟨Lc20, hQ20, l20, y20, z20⟩, st20⟩ := X19.virtualBack hx (y := (⟨"com/example/stops_to_routes/stopstoroutes/planner/Vehicle", "end", "()I"⟩ : MethodName)) (z := (⟨"com/example/stops_to_routes/stopstoroutes/planner/Vehicle", "end", "()I"⟩ : MethodName)) hown (mvT hZ (hw _ (List.mem_of_getElem? (i := 61) rfl))) (mvT hZ (hw _ (List.mem_of_getElem? (i := 62) rfl))) (notFace_of_selects (args := #[]) (mvT hZ (hw _ (List.mem_of_getElem? (i := 64) rfl)))) (mvT hZ (hw _ (List.mem_of_getElem? (i := 64) rfl))) (mvT hZ (hw _ (List.mem_of_getElem? (i := 63) rfl))) (by decide) (backOf (W := 0) (rmE l Z a0 hw [] b15 (-1 : Int32) T18.heap n0 O18 (Fv4_16.keep K18 nin0)) hZ (hw _ (List.mem_of_getElem? (i := 65) rfl)) (hw _ (List.mem_of_getElem? (i := 3) rfl)) (by decide) (by decide)) q20a q20c (g := (mkF mm 106 #[.val (.int p0), .val (.int p1), .val (.long q2), .second, .val (.long q3), .second, .val (.long q4), .second, .val (.int p5), .val (.int (1 : Int32)), .val (.int (-1 : Int32)), .val (.ref b12), .val (.ref b15), .val (.int (0 : Int32)), .val (.ref bs18), .val (.int (0 : Int32)), .val (.int (0 : Int32))] [(.ref b15)])) rfl (by rw [hml]; rfl) (Steps.refl _) (argsL := []) (rest := []) (lenOf pd_114 rfl) rfl (by show 2 * 0 + _ ≤ _; exact Nat.le_of_eq rfl) (hb hby at_106) (fun _ _ => ⟨rfl, e19, (by decide : 4 + 0 ≤ _), (by decide : 18 + 0 ≤ _)⟩)
    dsimp only [Pt.U, Pt.locs, Pt.cells, Pt.slots] at X20 l20 y20 z20 st20 hQ20
    subst l20 y20 z20
    obtain ⟨rfl, N20q, e20⟩ := hQ20
    have N20 := Fr.app N19 N20q
    obtain ⟨fs, hr, hrun, hended, hW, hsame⟩ := X20.leave (v := some (.int (1 : Int32))) (fun h => by rw [Bd.returns] at h; cases h)
    refine ⟨_, _, pre1 _ ?_, hrun, hended, _, _, rfl, ?_, ⟨_, rfl⟩, hW, hsame.mono (by decide) (by decide)⟩
    · show Steps pg.tables ee below (s₁.setTop (mkF mm 4 #[.val (.int p0), .val (.int p1), .val (.long q2), .second, .val (.long q3), .second, .val (.long q4), .second, .val (.int p5), .unset, .unset, .unset, .unset, .unset, .unset, .unset, .unset] [(.int (p5 &&& (1 : Int32)))])) _
      refine XS.ifNo X0.here hx rfl (hb hby at_4) rfl ((if0 _ _).trans (feq hc2).1) ?_
      show Steps pg.tables ee below (s₁.setTop (mkF mm 7 #[.val (.int p0), .val (.int p1), .val (.long q2), .second, .val (.long q3), .second, .val (.long q4), .second, .val (.int p5), .unset, .unset, .unset, .unset, .unset, .unset, .unset, .unset] [])) _
      refine XS.iconst X0.here hx rfl (hb hby at_7) ?_
      show Steps pg.tables ee below (s₁.setTop (mkF mm 8 #[.val (.int p0), .val (.int p1), .val (.long q2), .second, .val (.long q3), .second, .val (.long q4), .second, .val (.int p5), .unset, .unset, .unset, .unset, .unset, .unset, .unset, .unset] [(.int (1 : Int32))])) _
      refine XS.goto X0.here hx rfl (pc0 := 8) (pc' := 12) rfl (hb hby at_8) (by decide) (by decide) ?_
      show Steps pg.tables ee below (s₁.setTop (mkF mm 12 #[.val (.int p0), .val (.int p1), .val (.long q2), .second, .val (.long q3), .second, .val (.long q4), .second, .val (.int p5), .unset, .unset, .unset, .unset, .unset, .unset, .unset, .unset] [(.int (1 : Int32))])) _
      refine XS.istore X0.here hx rfl (hb hby at_12) rfl (l' := #[.val (.int p0), .val (.int p1), .val (.long q2), .second, .val (.long q3), .second, .val (.long q4), .second, .val (.int p5), .val (.int (1 : Int32)), .unset, .unset, .unset, .unset, .unset, .unset, .unset]) rfl ?_
      show Steps pg.tables ee below (s₁.setTop (mkF mm 14 #[.val (.int p0), .val (.int p1), .val (.long q2), .second, .val (.long q3), .second, .val (.long q4), .second, .val (.int p5), .val (.int (1 : Int32)), .unset, .unset, .unset, .unset, .unset, .unset, .unset] [])) _
      refine XS.iload X0.here hx rfl (hb hby at_14) rfl ?_
      show Steps pg.tables ee below (s₁.setTop (mkF mm 16 #[.val (.int p0), .val (.int p1), .val (.long q2), .second, .val (.long q3), .second, .val (.long q4), .second, .val (.int p5), .val (.int (1 : Int32)), .unset, .unset, .unset, .unset, .unset, .unset, .unset] [(.int (1 : Int32))])) _
      refine XS.ifNo X0.here hx rfl (hb hby at_16) rfl ((if0 _ _).trans (feq (by decide : ¬ ((1 : Int32) = (0 : Int32)))).1) ?_
      show Steps pg.tables ee below (s₁.setTop (mkF mm 19 #[.val (.int p0), .val (.int p1), .val (.long q2), .second, .val (.long q3), .second, .val (.long q4), .second, .val (.int p5), .val (.int (1 : Int32)), .unset, .unset, .unset, .unset, .unset, .unset, .unset] [])) _
      refine XS.iconst X0.here hx rfl (hb hby at_19) ?_
      show Steps pg.tables ee below (s₁.setTop (mkF mm 20 #[.val (.int p0), .val (.int p1), .val (.long q2), .second, .val (.long q3), .second, .val (.long q4), .second, .val (.int p5), .val (.int (1 : Int32)), .unset, .unset, .unset, .unset, .unset, .unset, .unset] [(.int (-1 : Int32))])) _
      refine XS.goto X0.here hx rfl (pc0 := 20) (pc' := 27) rfl (hb hby at_20) (by decide) (by decide) ?_
      show Steps pg.tables ee below (s₁.setTop (mkF mm 27 #[.val (.int p0), .val (.int p1), .val (.long q2), .second, .val (.long q3), .second, .val (.long q4), .second, .val (.int p5), .val (.int (1 : Int32)), .unset, .unset, .unset, .unset, .unset, .unset, .unset] [(.int (-1 : Int32))])) _
      refine XS.istore X0.here hx rfl (hb hby at_27) rfl (l' := #[.val (.int p0), .val (.int p1), .val (.long q2), .second, .val (.long q3), .second, .val (.long q4), .second, .val (.int p5), .val (.int (1 : Int32)), .val (.int (-1 : Int32)), .unset, .unset, .unset, .unset, .unset, .unset]) rfl ?_
      show Steps pg.tables ee below (s₁.setTop (mkF mm 29 #[.val (.int p0), .val (.int p1), .val (.long q2), .second, .val (.long q3), .second, .val (.long q4), .second, .val (.int p5), .val (.int (1 : Int32)), .val (.int (-1 : Int32)), .unset, .unset, .unset, .unset, .unset, .unset] [])) _
      refine XS.iconst X0.here hx rfl (hb hby at_29) ?_
      show Steps pg.tables ee below (s₁.setTop (mkF mm 30 #[.val (.int p0), .val (.int p1), .val (.long q2), .second, .val (.long q3), .second, .val (.long q4), .second, .val (.int p5), .val (.int (1 : Int32)), .val (.int (-1 : Int32)), .unset, .unset, .unset, .unset, .unset, .unset] [(.int (1 : Int32))])) _
      refine st12 _ ?_
      show Steps pg.tables ee below (T12.setTop (mkF mm 32 #[.val (.int p0), .val (.int p1), .val (.long q2), .second, .val (.long q3), .second, .val (.long q4), .second, .val (.int p5), .val (.int (1 : Int32)), .val (.int (-1 : Int32)), .unset, .unset, .unset, .unset, .unset, .unset] [(.ref b12)])) _
      refine XS.dup X12.here hx rfl (hb hby at_32) rfl rfl ?_
      show Steps pg.tables ee below (T12.setTop (mkF mm 33 #[.val (.int p0), .val (.int p1), .val (.long q2), .second, .val (.long q3), .second, .val (.long q4), .second, .val (.int p5), .val (.int (1 : Int32)), .val (.int (-1 : Int32)), .unset, .unset, .unset, .unset, .unset, .unset] [(.ref b12), (.ref b12)])) _
      refine XS.iconst X12.here hx rfl (hb hby at_33) ?_
      show Steps pg.tables ee below (T12.setTop (mkF mm 34 #[.val (.int p0), .val (.int p1), .val (.long q2), .second, .val (.long q3), .second, .val (.long q4), .second, .val (.int p5), .val (.int (1 : Int32)), .val (.int (-1 : Int32)), .unset, .unset, .unset, .unset, .unset, .unset] [(.int (0 : Int32)), (.ref b12), (.ref b12)])) _
      refine XS.lload X12.here hx rfl (hb hby at_34) rfl ?_
      show Steps pg.tables ee below (T12.setTop (mkF mm 36 #[.val (.int p0), .val (.int p1), .val (.long q2), .second, .val (.long q3), .second, .val (.long q4), .second, .val (.int p5), .val (.int (1 : Int32)), .val (.int (-1 : Int32)), .unset, .unset, .unset, .unset, .unset, .unset] [(.long q4), (.int (0 : Int32)), (.ref b12), (.ref b12)])) _
      refine st14 _ ?_
      show Steps pg.tables ee below (T14.setTop (mkF mm 37 #[.val (.int p0), .val (.int p1), .val (.long q2), .second, .val (.long q3), .second, .val (.long q4), .second, .val (.int p5), .val (.int (1 : Int32)), .val (.int (-1 : Int32)), .unset, .unset, .unset, .unset, .unset, .unset] [(.ref b12)])) _
      refine XS.astore X14.here hx rfl (hb hby at_37) rfl rfl (l' := #[.val (.int p0), .val (.int p1), .val (.long q2), .second, .val (.long q3), .second, .val (.long q4), .second, .val (.int p5), .val (.int (1 : Int32)), .val (.int (-1 : Int32)), .val (.ref b12), .unset, .unset, .unset, .unset, .unset]) rfl ?_
      show Steps pg.tables ee below (T14.setTop (mkF mm 39 #[.val (.int p0), .val (.int p1), .val (.long q2), .second, .val (.long q3), .second, .val (.long q4), .second, .val (.int p5), .val (.int (1 : Int32)), .val (.int (-1 : Int32)), .val (.ref b12), .unset, .unset, .unset, .unset, .unset] [])) _
      refine st15 _ ?_
      show Steps pg.tables ee below (T15.setTop (mkF mm 42 #[.val (.int p0), .val (.int p1), .val (.long q2), .second, .val (.long q3), .second, .val (.long q4), .second, .val (.int p5), .val (.int (1 : Int32)), .val (.int (-1 : Int32)), .val (.ref b12), .unset, .unset, .unset, .unset, .unset] [(.ref b15)])) _
      refine XS.dup X15.here hx rfl (hb hby at_42) rfl rfl ?_
      show Steps pg.tables ee below (T15.setTop (mkF mm 43 #[.val (.int p0), .val (.int p1), .val (.long q2), .second, .val (.long q3), .second, .val (.long q4), .second, .val (.int p5), .val (.int (1 : Int32)), .val (.int (-1 : Int32)), .val (.ref b12), .unset, .unset, .unset, .unset, .unset] [(.ref b15), (.ref b15)])) _
      refine XS.iloadN X15.here hx rfl (hb hby at_43) rfl ?_
      show Steps pg.tables ee below (T15.setTop (mkF mm 44 #[.val (.int p0), .val (.int p1), .val (.long q2), .second, .val (.long q3), .second, .val (.long q4), .second, .val (.int p5), .val (.int (1 : Int32)), .val (.int (-1 : Int32)), .val (.ref b12), .unset, .unset, .unset, .unset, .unset] [(.int p0), (.ref b15), (.ref b15)])) _
      refine XS.iload X15.here hx rfl (hb hby at_44) rfl ?_
      show Steps pg.tables ee below (T15.setTop (mkF mm 46 #[.val (.int p0), .val (.int p1), .val (.long q2), .second, .val (.long q3), .second, .val (.long q4), .second, .val (.int p5), .val (.int (1 : Int32)), .val (.int (-1 : Int32)), .val (.ref b12), .unset, .unset, .unset, .unset, .unset] [(.int (-1 : Int32)), (.int p0), (.ref b15), (.ref b15)])) _
      refine XS.lloadN X15.here hx rfl (hb hby at_46) rfl ?_
      show Steps pg.tables ee below (T15.setTop (mkF mm 47 #[.val (.int p0), .val (.int p1), .val (.long q2), .second, .val (.long q3), .second, .val (.long q4), .second, .val (.int p5), .val (.int (1 : Int32)), .val (.int (-1 : Int32)), .val (.ref b12), .unset, .unset, .unset, .unset, .unset] [(.long q2), (.int (-1 : Int32)), (.int p0), (.ref b15), (.ref b15)])) _
      refine XS.lload X15.here hx rfl (hb hby at_47) rfl ?_
      show Steps pg.tables ee below (T15.setTop (mkF mm 49 #[.val (.int p0), .val (.int p1), .val (.long q2), .second, .val (.long q3), .second, .val (.long q4), .second, .val (.int p5), .val (.int (1 : Int32)), .val (.int (-1 : Int32)), .val (.ref b12), .unset, .unset, .unset, .unset, .unset] [(.long q3), (.long q2), (.int (-1 : Int32)), (.int p0), (.ref b15), (.ref b15)])) _
      refine XS.aload X15.here hx rfl (hb hby at_49) rfl rfl ?_
      show Steps pg.tables ee below (T15.setTop (mkF mm 51 #[.val (.int p0), .val (.int p1), .val (.long q2), .second, .val (.long q3), .second, .val (.long q4), .second, .val (.int p5), .val (.int (1 : Int32)), .val (.int (-1 : Int32)), .val (.ref b12), .unset, .unset, .unset, .unset, .unset] [(.ref b12), (.long q3), (.long q2), (.int (-1 : Int32)), (.int p0), (.ref b15), (.ref b15)])) _
      refine st16.trans ?_
      show Steps pg.tables ee below (T16.setTop (mkF mm 54 #[.val (.int p0), .val (.int p1), .val (.long q2), .second, .val (.long q3), .second, .val (.long q4), .second, .val (.int p5), .val (.int (1 : Int32)), .val (.int (-1 : Int32)), .val (.ref b12), .unset, .unset, .unset, .unset, .unset] [(.ref b15)])) _
      refine XS.astore X16.here hx rfl (hb hby at_54) rfl rfl (l' := #[.val (.int p0), .val (.int p1), .val (.long q2), .second, .val (.long q3), .second, .val (.long q4), .second, .val (.int p5), .val (.int (1 : Int32)), .val (.int (-1 : Int32)), .val (.ref b12), .val (.ref b15), .unset, .unset, .unset, .unset]) rfl ?_
      show Steps pg.tables ee below (T16.setTop (mkF mm 56 #[.val (.int p0), .val (.int p1), .val (.long q2), .second, .val (.long q3), .second, .val (.long q4), .second, .val (.int p5), .val (.int (1 : Int32)), .val (.int (-1 : Int32)), .val (.ref b12), .val (.ref b15), .unset, .unset, .unset, .unset] [])) _
      refine XS.aload X16.here hx rfl (hb hby at_56) rfl rfl ?_
      show Steps pg.tables ee below (T16.setTop (mkF mm 58 #[.val (.int p0), .val (.int p1), .val (.long q2), .second, .val (.long q3), .second, .val (.long q4), .second, .val (.int p5), .val (.int (1 : Int32)), .val (.int (-1 : Int32)), .val (.ref b12), .val (.ref b15), .unset, .unset, .unset, .unset] [(.ref b15)])) _
      refine st17.trans ?_
      show Steps pg.tables ee below (T17.setTop (mkF mm 61 #[.val (.int p0), .val (.int p1), .val (.long q2), .second, .val (.long q3), .second, .val (.long q4), .second, .val (.int p5), .val (.int (1 : Int32)), .val (.int (-1 : Int32)), .val (.ref b12), .val (.ref b15), .unset, .unset, .unset, .unset] [(.int (0 : Int32))])) _
      refine XS.istore X17.here hx rfl (hb hby at_61) rfl (l' := #[.val (.int p0), .val (.int p1), .val (.long q2), .second, .val (.long q3), .second, .val (.long q4), .second, .val (.int p5), .val (.int (1 : Int32)), .val (.int (-1 : Int32)), .val (.ref b12), .val (.ref b15), .val (.int (0 : Int32)), .unset, .unset, .unset]) rfl ?_
      show Steps pg.tables ee below (T17.setTop (mkF mm 63 #[.val (.int p0), .val (.int p1), .val (.long q2), .second, .val (.long q3), .second, .val (.long q4), .second, .val (.int p5), .val (.int (1 : Int32)), .val (.int (-1 : Int32)), .val (.ref b12), .val (.ref b15), .val (.int (0 : Int32)), .unset, .unset, .unset] [])) _
      refine XS.aload X17.here hx rfl (hb hby at_63) rfl rfl ?_
      show Steps pg.tables ee below (T17.setTop (mkF mm 65 #[.val (.int p0), .val (.int p1), .val (.long q2), .second, .val (.long q3), .second, .val (.long q4), .second, .val (.int p5), .val (.int (1 : Int32)), .val (.int (-1 : Int32)), .val (.ref b12), .val (.ref b15), .val (.int (0 : Int32)), .unset, .unset, .unset] [(.ref b15)])) _
      refine XS.iloadN X17.here hx rfl (hb hby at_65) rfl ?_
      show Steps pg.tables ee below (T17.setTop (mkF mm 66 #[.val (.int p0), .val (.int p1), .val (.long q2), .second, .val (.long q3), .second, .val (.long q4), .second, .val (.int p5), .val (.int (1 : Int32)), .val (.int (-1 : Int32)), .val (.ref b12), .val (.ref b15), .val (.int (0 : Int32)), .unset, .unset, .unset] [(.int p1), (.ref b15)])) _
      refine st18.trans ?_
      show Steps pg.tables ee below (T18.setTop (mkF mm 69 #[.val (.int p0), .val (.int p1), .val (.long q2), .second, .val (.long q3), .second, .val (.long q4), .second, .val (.int p5), .val (.int (1 : Int32)), .val (.int (-1 : Int32)), .val (.ref b12), .val (.ref b15), .val (.int (0 : Int32)), .unset, .unset, .unset] [(.ref bs18)])) _
      refine XS.astore X18.here hx rfl (hb hby at_69) rfl rfl (l' := #[.val (.int p0), .val (.int p1), .val (.long q2), .second, .val (.long q3), .second, .val (.long q4), .second, .val (.int p5), .val (.int (1 : Int32)), .val (.int (-1 : Int32)), .val (.ref b12), .val (.ref b15), .val (.int (0 : Int32)), .val (.ref bs18), .unset, .unset]) rfl ?_
      show Steps pg.tables ee below (T18.setTop (mkF mm 71 #[.val (.int p0), .val (.int p1), .val (.long q2), .second, .val (.long q3), .second, .val (.long q4), .second, .val (.int p5), .val (.int (1 : Int32)), .val (.int (-1 : Int32)), .val (.ref b12), .val (.ref b15), .val (.int (0 : Int32)), .val (.ref bs18), .unset, .unset] [])) _
      refine XS.aload X18.here hx rfl (hb hby at_71) rfl rfl ?_
      show Steps pg.tables ee below (T18.setTop (mkF mm 73 #[.val (.int p0), .val (.int p1), .val (.long q2), .second, .val (.long q3), .second, .val (.long q4), .second, .val (.int p5), .val (.int (1 : Int32)), .val (.int (-1 : Int32)), .val (.ref b12), .val (.ref b15), .val (.int (0 : Int32)), .val (.ref bs18), .unset, .unset] [(.ref bs18)])) _
      refine st19.trans ?_
      show Steps pg.tables ee below (T19.setTop (mkF mm 76 #[.val (.int p0), .val (.int p1), .val (.long q2), .second, .val (.long q3), .second, .val (.long q4), .second, .val (.int p5), .val (.int (1 : Int32)), .val (.int (-1 : Int32)), .val (.ref b12), .val (.ref b15), .val (.int (0 : Int32)), .val (.ref bs18), .unset, .unset] [(.int (0 : Int32))])) _
      refine XS.istore X19.here hx rfl (hb hby at_76) rfl (l' := #[.val (.int p0), .val (.int p1), .val (.long q2), .second, .val (.long q3), .second, .val (.long q4), .second, .val (.int p5), .val (.int (1 : Int32)), .val (.int (-1 : Int32)), .val (.ref b12), .val (.ref b15), .val (.int (0 : Int32)), .val (.ref bs18), .val (.int (0 : Int32)), .unset]) rfl ?_
      show Steps pg.tables ee below (T19.setTop (mkF mm 78 #[.val (.int p0), .val (.int p1), .val (.long q2), .second, .val (.long q3), .second, .val (.long q4), .second, .val (.int p5), .val (.int (1 : Int32)), .val (.int (-1 : Int32)), .val (.ref b12), .val (.ref b15), .val (.int (0 : Int32)), .val (.ref bs18), .val (.int (0 : Int32)), .unset] [])) _
      refine XS.iload X19.here hx rfl (hb hby at_78) rfl ?_
      show Steps pg.tables ee below (T19.setTop (mkF mm 80 #[.val (.int p0), .val (.int p1), .val (.long q2), .second, .val (.long q3), .second, .val (.long q4), .second, .val (.int p5), .val (.int (1 : Int32)), .val (.int (-1 : Int32)), .val (.ref b12), .val (.ref b15), .val (.int (0 : Int32)), .val (.ref bs18), .val (.int (0 : Int32)), .unset] [(.int (1 : Int32))])) _
      refine XS.ifYes X19.here hx rfl (pc0 := 80) (pc' := 87) rfl (hb hby at_80) rfl ((if0 _ _).trans (feq (by decide : ¬ ((1 : Int32) = (0 : Int32)))).2) (by decide) (by decide) ?_
      show Steps pg.tables ee below (T19.setTop (mkF mm 87 #[.val (.int p0), .val (.int p1), .val (.long q2), .second, .val (.long q3), .second, .val (.long q4), .second, .val (.int p5), .val (.int (1 : Int32)), .val (.int (-1 : Int32)), .val (.ref b12), .val (.ref b15), .val (.int (0 : Int32)), .val (.ref bs18), .val (.int (0 : Int32)), .unset] [])) _
      refine XS.iconst X19.here hx rfl (hb hby at_87) ?_
      show Steps pg.tables ee below (T19.setTop (mkF mm 88 #[.val (.int p0), .val (.int p1), .val (.long q2), .second, .val (.long q3), .second, .val (.long q4), .second, .val (.int p5), .val (.int (1 : Int32)), .val (.int (-1 : Int32)), .val (.ref b12), .val (.ref b15), .val (.int (0 : Int32)), .val (.ref bs18), .val (.int (0 : Int32)), .unset] [(.int (0 : Int32))])) _
      refine XS.istore X19.here hx rfl (hb hby at_88) rfl (l' := #[.val (.int p0), .val (.int p1), .val (.long q2), .second, .val (.long q3), .second, .val (.long q4), .second, .val (.int p5), .val (.int (1 : Int32)), .val (.int (-1 : Int32)), .val (.ref b12), .val (.ref b15), .val (.int (0 : Int32)), .val (.ref bs18), .val (.int (0 : Int32)), .val (.int (0 : Int32))]) rfl ?_
      show Steps pg.tables ee below (T19.setTop (mkF mm 90 #[.val (.int p0), .val (.int p1), .val (.long q2), .second, .val (.long q3), .second, .val (.long q4), .second, .val (.int p5), .val (.int (1 : Int32)), .val (.int (-1 : Int32)), .val (.ref b12), .val (.ref b15), .val (.int (0 : Int32)), .val (.ref bs18), .val (.int (0 : Int32)), .val (.int (0 : Int32))] [])) _
      refine XS.iload X19.here hx rfl (hb hby at_90) rfl ?_
      show Steps pg.tables ee below (T19.setTop (mkF mm 92 #[.val (.int p0), .val (.int p1), .val (.long q2), .second, .val (.long q3), .second, .val (.long q4), .second, .val (.int p5), .val (.int (1 : Int32)), .val (.int (-1 : Int32)), .val (.ref b12), .val (.ref b15), .val (.int (0 : Int32)), .val (.ref bs18), .val (.int (0 : Int32)), .val (.int (0 : Int32))] [(.int (0 : Int32))])) _
      refine XS.iload X19.here hx rfl (hb hby at_92) rfl ?_
      show Steps pg.tables ee below (T19.setTop (mkF mm 94 #[.val (.int p0), .val (.int p1), .val (.long q2), .second, .val (.long q3), .second, .val (.long q4), .second, .val (.int p5), .val (.int (1 : Int32)), .val (.int (-1 : Int32)), .val (.ref b12), .val (.ref b15), .val (.int (0 : Int32)), .val (.ref bs18), .val (.int (0 : Int32)), .val (.int (0 : Int32))] [(.int (0 : Int32)), (.int (0 : Int32))])) _
      refine XS.icmpNo X19.here hx rfl (hb hby at_94) rfl (teq (by decide : (0 : Int32) = (0 : Int32))).2 ?_
      show Steps pg.tables ee below (T19.setTop (mkF mm 97 #[.val (.int p0), .val (.int p1), .val (.long q2), .second, .val (.long q3), .second, .val (.long q4), .second, .val (.int p5), .val (.int (1 : Int32)), .val (.int (-1 : Int32)), .val (.ref b12), .val (.ref b15), .val (.int (0 : Int32)), .val (.ref bs18), .val (.int (0 : Int32)), .val (.int (0 : Int32))] [])) _
      refine XS.iload X19.here hx rfl (hb hby at_97) rfl ?_
      show Steps pg.tables ee below (T19.setTop (mkF mm 99 #[.val (.int p0), .val (.int p1), .val (.long q2), .second, .val (.long q3), .second, .val (.long q4), .second, .val (.int p5), .val (.int (1 : Int32)), .val (.int (-1 : Int32)), .val (.ref b12), .val (.ref b15), .val (.int (0 : Int32)), .val (.ref bs18), .val (.int (0 : Int32)), .val (.int (0 : Int32))] [(.int (0 : Int32))])) _
      refine XS.iload X19.here hx rfl (hb hby at_99) rfl ?_
      show Steps pg.tables ee below (T19.setTop (mkF mm 101 #[.val (.int p0), .val (.int p1), .val (.long q2), .second, .val (.long q3), .second, .val (.long q4), .second, .val (.int p5), .val (.int (1 : Int32)), .val (.int (-1 : Int32)), .val (.ref b12), .val (.ref b15), .val (.int (0 : Int32)), .val (.ref bs18), .val (.int (0 : Int32)), .val (.int (0 : Int32))] [(.int (0 : Int32)), (.int (0 : Int32))])) _
      refine XS.icmpNo X19.here hx rfl (hb hby at_101) rfl (teq (by decide : (0 : Int32) = (0 : Int32))).2 ?_
      show Steps pg.tables ee below (T19.setTop (mkF mm 104 #[.val (.int p0), .val (.int p1), .val (.long q2), .second, .val (.long q3), .second, .val (.long q4), .second, .val (.int p5), .val (.int (1 : Int32)), .val (.int (-1 : Int32)), .val (.ref b12), .val (.ref b15), .val (.int (0 : Int32)), .val (.ref bs18), .val (.int (0 : Int32)), .val (.int (0 : Int32))] [])) _
      refine XS.aload X19.here hx rfl (hb hby at_104) rfl rfl ?_
      show Steps pg.tables ee below (T19.setTop (mkF mm 106 #[.val (.int p0), .val (.int p1), .val (.long q2), .second, .val (.long q3), .second, .val (.long q4), .second, .val (.int p5), .val (.int (1 : Int32)), .val (.int (-1 : Int32)), .val (.ref b12), .val (.ref b15), .val (.int (0 : Int32)), .val (.ref bs18), .val (.int (0 : Int32)), .val (.int (0 : Int32))] [(.ref b15)])) _
      refine st20.trans ?_
      show Steps pg.tables ee below (T20.setTop (mkF mm 109 #[.val (.int p0), .val (.int p1), .val (.long q2), .second, .val (.long q3), .second, .val (.long q4), .second, .val (.int p5), .val (.int (1 : Int32)), .val (.int (-1 : Int32)), .val (.ref b12), .val (.ref b15), .val (.int (0 : Int32)), .val (.ref bs18), .val (.int (0 : Int32)), .val (.int (0 : Int32))] [(.int (-1 : Int32))])) _
      refine XS.iload X20.here hx rfl (hb hby at_109) rfl ?_
      show Steps pg.tables ee below (T20.setTop (mkF mm 111 #[.val (.int p0), .val (.int p1), .val (.long q2), .second, .val (.long q3), .second, .val (.long q4), .second, .val (.int p5), .val (.int (1 : Int32)), .val (.int (-1 : Int32)), .val (.ref b12), .val (.ref b15), .val (.int (0 : Int32)), .val (.ref bs18), .val (.int (0 : Int32)), .val (.int (0 : Int32))] [(.int (-1 : Int32)), (.int (-1 : Int32))])) _
      refine XS.icmpNo X20.here hx rfl (hb hby at_111) rfl (teq (by decide : (-1 : Int32) = (-1 : Int32))).2 ?_
      show Steps pg.tables ee below (T20.setTop (mkF mm 114 #[.val (.int p0), .val (.int p1), .val (.long q2), .second, .val (.long q3), .second, .val (.long q4), .second, .val (.int p5), .val (.int (1 : Int32)), .val (.int (-1 : Int32)), .val (.ref b12), .val (.ref b15), .val (.int (0 : Int32)), .val (.ref bs18), .val (.int (0 : Int32)), .val (.int (0 : Int32))] [])) _
      refine XS.iconst X20.here hx rfl (hb hby at_114) ?_
      show Steps pg.tables ee below (T20.setTop (mkF mm 115 #[.val (.int p0), .val (.int p1), .val (.long q2), .second, .val (.long q3), .second, .val (.long q4), .second, .val (.int p5), .val (.int (1 : Int32)), .val (.int (-1 : Int32)), .val (.ref b12), .val (.ref b15), .val (.int (0 : Int32)), .val (.ref bs18), .val (.int (0 : Int32)), .val (.int (0 : Int32))] [(.int (1 : Int32))])) _
      refine XS.goto X20.here hx rfl (pc0 := 115) (pc' := 119) rfl (hb hby at_115) (by decide) (by decide) ?_
      show Steps pg.tables ee below (T20.setTop (mkF mm 119 #[.val (.int p0), .val (.int p1), .val (.long q2), .second, .val (.long q3), .second, .val (.long q4), .second, .val (.int p5), .val (.int (1 : Int32)), .val (.int (-1 : Int32)), .val (.ref b12), .val (.ref b15), .val (.int (0 : Int32)), .val (.ref bs18), .val (.int (0 : Int32)), .val (.int (0 : Int32))] [(.int (1 : Int32))])) _
      exact retN X20 hx (t := .boolean) Bd.returns (by simp) (hb hby at_119) hr
    · show Qrm0 Z p0 p1 q2 q3 q4 p5 aS aL h0 n0 _ T20.heap _
      rw [e20]
      exact ⟨rfl, N20⟩
set_option maxRecDepth 65536 in
set_option maxHeartbeats 40000000 in
theorem comes_1 {Post : Tables → Env → Array Value → State → Outcome → State → Prop} (hpost : ∀ tb e args s v u, (limb_1_1.after args s (.returned v) u = true ∧ limb_1_2.after args s (.returned v) u = true ∧ True) → FrameEnd s (.returned v) u (Jvm.fieldLocs frame_1_writes args s ++ Jvm.arrayLocs frame_1_arrays args s ++ Jvm.staticLocs frame_1_statics s) 16 128 → Post tb e args s (.returned v) u) :
    ArmFor flags0 classFile x code maxLocals ret World_1 tables_1 room_1 Calls_1 rest_1 Pre_1 Post := by
  intro l hfl _ _ p e ha hc hk s m args below hf hA hF happ hP
  obtain ⟨hcalls, hrest, hpre⟩ := hP
  obtain ⟨-, -, -, hnamed, -, -, -, hat⟩ := (Spec.applies_iff hf).mp happ
  obtain ⟨hg, hn⟩ := and_e (Cond.before_iff.mp (show (Jvm.Cond.and given_1 narrow_1).before args s = true from hpre))
  obtain ⟨gg1, gg2⟩ := and_e hg
  obtain ⟨gg3, gg4⟩ := and_e gg2
  obtain ⟨gg5, gg6⟩ := and_e gg4
  obtain ⟨gg7, gg8⟩ := and_e gg6
  obtain ⟨gg9, gg10⟩ := and_e gg8
  obtain ⟨gg11, gg12⟩ := and_e gg10
  obtain ⟨w0, w1, w2, w3, w4, w5, rfl⟩ : ∃ w0 w1 w2 w3 w4 w5 : Value, args = #[w0, w1, w2, w3, w4, w5] := by
    have hs : args.size = 6 := by simpa [Cond.value, given_1] using gg1
    obtain ⟨L⟩ := args
    match L, hs with
    | [w0, w1, w2, w3, w4, w5], _ => exact ⟨w0, w1, w2, w3, w4, w5, rfl⟩
  have hw := fun d (hd : d ∈ tables_1) => atoms_spec (ws := Jvm.Cond.code x code maxLocals ret :: tables_1) hat d (List.mem_cons_of_mem _ hd)
  have hfit : Fit s := fun {y c} hc i hi => by
    obtain ⟨ha, rfl⟩ := Array.getElem?_eq_some_iff.mp hc
    have q := List.all_eq_true.mp ((Array.all_eq_true_iff_forall_mem.mp hF) _ (Array.getElem_mem ha)) i (List.mem_range.mpr hi)
    simpa [Array.getElem?_eq_getElem hi] using q
  obtain ⟨hsets, hown0⟩ := atoms_of _ (rest_1_c_eq ▸ (show rest_1_c.before _ s = true from hrest))
  have hr0 := Cond.before_iff.mp hown0
  obtain ⟨i0, ei0⟩ := is_v gg3
  obtain rfl : w0 = (.int i0) := Option.some.inj ei0
  obtain ⟨i1, ei1⟩ := is_v gg5
  obtain rfl : w1 = (.int i1) := Option.some.inj ei1
  obtain ⟨i2, ei2⟩ := isL_v gg7
  obtain rfl : w2 = (.long i2) := Option.some.inj ei2
  obtain ⟨i3, ei3⟩ := isL_v gg9
  obtain rfl : w3 = (.long i3) := Option.some.inj ei3
  obtain ⟨i4, ei4⟩ := isL_v gg11
  obtain rfl : w4 = (.long i4) := Option.some.inj ei4
  obtain ⟨i5, ei5⟩ := is_v gg12
  obtain rfl : w5 = (.int i5) := Option.some.inj ei5
  obtain ⟨aS, evS⟩ := exa_v (Cond.before_iff.mp (hsets _ (List.mem_of_getElem? (i := 2) rfl)))
  have S_EMPTY_SET := Sta.start evS (Or.inl (hsets _ (List.mem_of_getElem? (i := 1) rfl)))
  obtain ⟨aL, evL⟩ := exa_v (Cond.before_iff.mp (hsets _ (List.mem_of_getElem? (i := 9) rfl)))
  have S_EMPTY_LIST := Sta.start evL (Or.inl (hsets _ (List.mem_of_getElem? (i := 8) rfl)))
  obtain ⟨n, o, h1, h2, h3, _, L, rfl, ⟨rfl, N⟩, hq⟩ := rm0 l s _ hw tables_1 i0 i1 i2 i3 i4 i5 aS aL s.heap s.heap.size (Old.start s) S_EMPTY_SET S_EMPTY_LIST p e ha hc hk s m _ below hf ((Spec.applies_iff_loose hf).mp happ).1 ⟨rfl, State.Warmed39.refl s, rfl⟩ trivial
  refine ⟨n, _, h1, h2, h3, hpost _ _ _ _ _ _ ⟨Cond.after_iff.mpr rfl, Cond.after_iff.mpr (eq_i res_at (Term.int_eval (1)) rfl), trivial⟩ ⟨hq.1, hq.2.1, (hq.2.2.sift fun y hy => Or.inr (N y hy)).mono (by decide) (by decide)⟩⟩
theorem main_1_1 : Claimed_1_1 := comes_1 fun _ _ _ _ _ _ h hF => ⟨h.1, hF⟩
theorem main_1_2 : Claimed_1_2 := comes_1 fun _ _ _ _ _ _ h hF => ⟨h.2.1, hF⟩
end Jvm.Pilot.@@N@@
namespace Jvm.Pilot.@@N@@
open Jvm Jvm.ClassFile Sem Op Lib Jvm.Free Jvm.Stand Jvm.Pilot.@@N@@.Jvm.D
/-! MADE BY PROGRAM (witnessworld.py) out of the Statement's table words and the real class files: 25 classes; the members and pool entries that the words name. The judged class is class 1, her method 1. -/
namespace start1
open Jvm.ClassFile
def u (s : String) : CpInfo := .utf8 (stringToUtf16 s)
/-- a pool by its gaps: so many unusable entries, then the entry; so many at the end -/
def gap : Nat → List CpInfo → List CpInfo
  | 0, r => r
  | n + 1, r => .unusable :: gap n r
def poolList (es : List (Nat × CpInfo)) (last : Nat) : List CpInfo := es.foldr (fun e r => gap e.1 (e.2 :: r)) (gap last [])
def pool (es : List (Nat × CpInfo)) (last : Nat) : Array CpInfo := ⟨poolList es last⟩
def fileOf (pool : Array CpInfo) (this : Nat) (attrs : Array Attribute := #[]) (ms : Array MethodInfo := #[]) (fl : Nat := 33) (sup : Nat := 0) (ifs : Array Nat := #[]) (fds : Array FieldInfo := #[]) : ClassFile where
  minorVersion := 0
  majorVersion := 65
  constantPool := pool
  accessFlags := fl
  thisClass := this
  superClass := sup
  interfaces := ifs
  fields := fds
  methods := ms
  attributes := attrs
def plain (name : String) (sup : Option ClassId) : Class where
  name := name
  kind := .ordinary
  loader := none
  accessFlags := 33
  super := sup
  interfaces := #[]
  cf := none
  fields := #[]
  methods := #[]
  instanceTypes := #[]
  staticTypes := #[]
  resolved := #[]
  callSites := []
  init := .initialized
  statics := none
  mirror := none

def pool0 : Array CpInfo := pool [(5, u "<init>"), (0, u "()V"), (1, .class_ 10), (1, u "java/lang/Object"), (85, u "clone"), (0, u "()Ljava/lang/Object;")] 26

def k0c0 : Code := { maxStack := 0, maxLocals := 1, code := object_method_1_code, exceptionTable := #[], attributes := #[] }
def k0m0 : Method := { name := "<init>", desc := "()V", sig := { parameters := [], returnType := none }, accessFlags := 1, code := some k0c0 }
def k0m1 : Method := { name := "clone", desc := "()Ljava/lang/Object;", sig := { parameters := [], returnType := some (.object "java/lang/Object") }, accessFlags := 260, code := none }
/-- java/lang/Object -/
def k0 : Class := { plain "java/lang/Object" none with
  accessFlags := 33
  interfaces := #[]
  cf := some (fileOf pool0 8 #[] #[{ accessFlags := 1, nameIndex := 5, descriptorIndex := 6, attributes := #[] }, { accessFlags := 260, nameIndex := 96, descriptorIndex := 97, attributes := #[] }] 33 0 #[] #[])
  fields := #[]
  methods := #[k0m0, k0m1]
  instanceTypes := #[]
  staticTypes := #[]
  resolved := Array.replicate 124 none
  statics := none }

def pool1 : Array CpInfo := pool [(2, .class_ 4), (1, u "java/lang/Object"), (0, u "<init>"), (0, u "()V"), (0, .class_ 8), (0, u "com/example/stops_to_routes/stopstoroutes/planner/Vehicle"), (0, .integer 2147483647), (0, .methodref 7 11), (0, .nameAndType 5 12), (0, u "(IIJJ[J)V"), (0, .methodref 7 14), (0, .nameAndType 15 16), (0, u "hasEnd"), (0, u "()Z"), (0, .methodref 7 18), (0, .nameAndType 19 20), (0, u "servingAtMost"), (0, u "(I)Lcom/example/stops_to_routes/stopstoroutes/planner/Vehicle;"), (0, .methodref 7 22), (0, .nameAndType 23 24), (0, u "end"), (0, u "()I"), (0, .class_ 26), (0, u "com/example/stops_to_routes/stopstoroutes/planner/VehicleHasEndPinLaw"), (2, u "law"), (0, u "(IIJJJI)Z")] 5

def k1m0 : Method := { name := "<init>", desc := "()V", sig := { parameters := [], returnType := none }, accessFlags := 1, code := none }
def k1c1 : Code := { maxStack := 9, maxLocals := 17, code := code, exceptionTable := #[], attributes := #[] }
def k1m1 : Method := { name := "law", desc := "(IIJJJI)Z", sig := { parameters := [.int, .int, .long, .long, .long, .int], returnType := some .boolean }, accessFlags := 9, code := some k1c1 }
/-- com/example/stops_to_routes/stopstoroutes/planner/VehicleHasEndPinLaw -/
def k1 : Class := { plain "com/example/stops_to_routes/stopstoroutes/planner/VehicleHasEndPinLaw" (some 0) with
  accessFlags := 49
  interfaces := #[]
  cf := some (fileOf pool1 25 #[] #[{ accessFlags := 1, nameIndex := 5, descriptorIndex := 6, attributes := #[] }, { accessFlags := 9, nameIndex := 29, descriptorIndex := 30, attributes := #[] }] 49 2 #[] #[])
  fields := #[]
  methods := #[k1m0, k1m1]
  instanceTypes := #[]
  staticTypes := #[]
  resolved := Array.replicate 36 none
  statics := none }

def pool2 : Array CpInfo := pool [(3, .methodref 4 5), (0, .class_ 6), (0, .nameAndType 7 8), (0, u "java/lang/Object"), (0, u "<init>"), (0, u "()V"), (0, .interfaceMethodref 10 11), (0, .class_ 12), (0, .nameAndType 13 14), (0, u "java/util/Set"), (0, u "of"), (0, u "()Ljava/util/Set;"), (0, .fieldref 16 17), (0, .class_ 18), (0, .nameAndType 19 20), (0, u "com/example/stops_to_routes/stopstoroutes/planner/Vehicle"), (0, u "skills"), (0, u "Ljava/util/Set;"), (0, .integer 2147483647), (0, .fieldref 16 23), (0, .nameAndType 24 25), (0, u "maxStops"), (0, u "I"), (0, .interfaceMethodref 27 28), (0, .class_ 29), (0, .nameAndType 13 30), (0, u "java/util/List"), (0, u "()Ljava/util/List;"), (0, .fieldref 16 32), (0, .nameAndType 33 34), (0, u "breaks"), (0, u "Ljava/util/List;"), (0, .fieldref 16 36), (0, .nameAndType 37 25), (0, u "start"), (0, .fieldref 16 39), (0, .nameAndType 40 25), (0, u "end"), (0, .fieldref 16 42), (0, .nameAndType 43 44), (0, u "shiftStart"), (0, u "J"), (0, .fieldref 16 46), (0, .nameAndType 47 44), (0, u "shiftEnd"), (0, .methodref 49 50), (0, .class_ 51), (0, .nameAndType 52 53), (0, u "[J"), (0, u "clone"), (0, u "()Ljava/lang/Object;"), (0, .fieldref 16 55), (0, .nameAndType 56 51), (0, u "capacity"), (0, .methodref 16 58), (0, .nameAndType 7 59), (0, u "(Lcom/example/stops_to_routes/stopstoroutes/planner/Vehicle;)V"), (31, u "()I"), (1, u "NO_END"), (2, u "NO_STOP_LIMIT"), (3, u "(IIJJ[J)V"), (5, u "servingAtMost"), (0, u "(I)Lcom/example/stops_to_routes/stopstoroutes/planner/Vehicle;"), (3, u "hasEnd"), (0, u "()Z")] 8

def k2c0 : Code := { maxStack := 3, maxLocals := 8, code := prog_34_method_1_code, exceptionTable := #[], attributes := #[] }
def k2m0 : Method := { name := "<init>", desc := "(IIJJ[J)V", sig := { parameters := [.int, .int, .long, .long, (.array .long)], returnType := none }, accessFlags := 1, code := some k2c0 }
def k2c1 : Code := { maxStack := 3, maxLocals := 2, code := prog_34_method_2_code, exceptionTable := #[], attributes := #[] }
def k2m1 : Method := { name := "<init>", desc := "(Lcom/example/stops_to_routes/stopstoroutes/planner/Vehicle;)V", sig := { parameters := [(.object "com/example/stops_to_routes/stopstoroutes/planner/Vehicle")], returnType := none }, accessFlags := 2, code := some k2c1 }
def k2c2 : Code := { maxStack := 3, maxLocals := 3, code := prog_34_method_4_code, exceptionTable := #[], attributes := #[] }
def k2m2 : Method := { name := "servingAtMost", desc := "(I)Lcom/example/stops_to_routes/stopstoroutes/planner/Vehicle;", sig := { parameters := [.int], returnType := some (.object "com/example/stops_to_routes/stopstoroutes/planner/Vehicle") }, accessFlags := 1, code := some k2c2 }
def k2c3 : Code := { maxStack := 1, maxLocals := 1, code := prog_34_method_7_code, exceptionTable := #[], attributes := #[] }
def k2m3 : Method := { name := "end", desc := "()I", sig := { parameters := [], returnType := some .int }, accessFlags := 1, code := some k2c3 }
def k2c4 : Code := { maxStack := 2, maxLocals := 1, code := prog_34_method_8_code, exceptionTable := #[], attributes := #[] }
def k2m4 : Method := { name := "hasEnd", desc := "()Z", sig := { parameters := [], returnType := some .boolean }, accessFlags := 1, code := some k2c4 }
/-- com/example/stops_to_routes/stopstoroutes/planner/Vehicle -/
def k2 : Class := { plain "com/example/stops_to_routes/stopstoroutes/planner/Vehicle" (some 0) with
  accessFlags := 49
  interfaces := #[]
  cf := some (fileOf pool2 16 #[] #[{ accessFlags := 1, nameIndex := 7, descriptorIndex := 100, attributes := #[] }, { accessFlags := 2, nameIndex := 7, descriptorIndex := 59, attributes := #[] }, { accessFlags := 1, nameIndex := 106, descriptorIndex := 107, attributes := #[] }, { accessFlags := 1, nameIndex := 40, descriptorIndex := 91, attributes := #[] }, { accessFlags := 1, nameIndex := 111, descriptorIndex := 112, attributes := #[] }] 49 4 #[] #[{ accessFlags := 25, nameIndex := 93, descriptorIndex := 25, attributes := #[] }, { accessFlags := 25, nameIndex := 96, descriptorIndex := 25, attributes := #[] }, { accessFlags := 18, nameIndex := 37, descriptorIndex := 25, attributes := #[] }, { accessFlags := 18, nameIndex := 40, descriptorIndex := 25, attributes := #[] }, { accessFlags := 18, nameIndex := 43, descriptorIndex := 44, attributes := #[] }, { accessFlags := 18, nameIndex := 47, descriptorIndex := 44, attributes := #[] }, { accessFlags := 18, nameIndex := 56, descriptorIndex := 51, attributes := #[] }, { accessFlags := 2, nameIndex := 19, descriptorIndex := 20, attributes := #[] }, { accessFlags := 2, nameIndex := 24, descriptorIndex := 25, attributes := #[] }, { accessFlags := 2, nameIndex := 33, descriptorIndex := 34, attributes := #[] }])
  fields := #[{ name := "NO_END", type := .int, accessFlags := 25, slot := 0, constantValue := 0 }, { name := "NO_STOP_LIMIT", type := .int, accessFlags := 25, slot := 1, constantValue := 0 }, { name := "start", type := .int, accessFlags := 18, slot := 0, constantValue := 0 }, { name := "end", type := .int, accessFlags := 18, slot := 1, constantValue := 0 }, { name := "shiftStart", type := .long, accessFlags := 18, slot := 2, constantValue := 0 }, { name := "shiftEnd", type := .long, accessFlags := 18, slot := 3, constantValue := 0 }, { name := "capacity", type := (.array .long), accessFlags := 18, slot := 4, constantValue := 0 }, { name := "skills", type := (.object "java/util/Set"), accessFlags := 2, slot := 5, constantValue := 0 }, { name := "maxStops", type := .int, accessFlags := 2, slot := 6, constantValue := 0 }, { name := "breaks", type := (.object "java/util/List"), accessFlags := 2, slot := 7, constantValue := 0 }]
  methods := #[k2m0, k2m1, k2m2, k2m3, k2m4]
  instanceTypes := #[.int, .int, .long, .long, (.array .long), (.object "java/util/Set"), .int, (.object "java/util/List")]
  staticTypes := #[.int, .int]
  resolved := Array.replicate 121 none
  statics := none }

def pool3 : Array CpInfo := pool [(8, .class_ 10), (1, u "java/lang/Iterable"), (24, .class_ 36), (0, u "java/lang/Object")] 25

/-- java/lang/Iterable -/
def k3 : Class := { plain "java/lang/Iterable" (some 0) with
  accessFlags := 1537
  interfaces := #[]
  cf := some (fileOf pool3 8 #[] #[] 1537 35 #[] #[])
  fields := #[]
  methods := #[]
  instanceTypes := #[]
  staticTypes := #[]
  resolved := Array.replicate 62 none
  statics := none }

def pool4 : Array CpInfo := pool [(10, .class_ 12), (1, u "java/util/Collection"), (47, .class_ 61), (0, u "java/lang/Object"), (0, .class_ 63), (0, u "java/lang/Iterable")] 51

/-- java/util/Collection -/
def k4 : Class := { plain "java/util/Collection" (some 0) with
  accessFlags := 1537
  interfaces := #[3]
  cf := some (fileOf pool4 10 #[] #[] 1537 60 #[62] #[])
  fields := #[]
  methods := #[]
  instanceTypes := #[]
  staticTypes := #[]
  resolved := Array.replicate 115 none
  statics := none }

def pool5 : Array CpInfo := pool [(9, .fieldref 10 11), (0, .class_ 12), (0, .nameAndType 13 14), (0, u "java/util/ImmutableCollections"), (0, u "EMPTY_SET"), (0, u "Ljava/util/ImmutableCollections$SetN;"), (11, .class_ 27), (0, u "java/lang/Object"), (5, .class_ 34), (0, u "java/util/Set"), (1, .class_ 38), (1, u "java/util/Collection"), (4, u "of"), (0, u "()Ljava/util/Set;")] 99

def k5c0 : Code := { maxStack := 1, maxLocals := 0, code := jdk_96_method_17_code, exceptionTable := #[], attributes := #[] }
def k5m0 : Method := { name := "of", desc := "()Ljava/util/Set;", sig := { parameters := [], returnType := some (.object "java/util/Set") }, accessFlags := 9, code := some k5c0 }
/-- java/util/Set -/
def k5 : Class := { plain "java/util/Set" (some 0) with
  accessFlags := 1537
  interfaces := #[4]
  cf := some (fileOf pool5 33 #[] #[{ accessFlags := 9, nameIndex := 43, descriptorIndex := 44, attributes := #[] }] 1537 26 #[36] #[])
  fields := #[]
  methods := #[k5m0]
  instanceTypes := #[]
  staticTypes := #[]
  resolved := Array.replicate 144 none
  statics := none }

def pool6 : Array CpInfo := pool [(2, .class_ 4), (1, u "java/lang/Object"), (0, u "<init>"), (0, u "()V"), (3, .class_ 11), (0, u "java/util/ImmutableCollections$List12"), (0, .class_ 13), (0, u "java/util/ImmutableCollections$ListN"), (3, u "Z"), (29, .class_ 49), (1, u "java/util/ImmutableCollections"), (0, u "$assertionsDisabled"), (5, u "[Ljava/lang/Object;"), (5, u "EMPTY_LIST"), (0, u "Ljava/util/ImmutableCollections$ListN;"), (8, u "EMPTY_LIST_NULLS"), (22, u "SALT32L"), (0, u "J"), (2, u "REVERSE"), (6, u "archivedObjects"), (2, u "EMPTY"), (0, u "Ljava/lang/Object;"), (0, .class_ 112), (0, u "java/util/ImmutableCollections$SetN"), (5, u "EMPTY_SET"), (0, u "Ljava/util/ImmutableCollections$SetN;"), (0, .class_ 121), (0, u "java/util/ImmutableCollections$MapN"), (3, u "EMPTY_MAP"), (0, u "Ljava/util/ImmutableCollections$MapN;"), (4, u "EXPAND_FACTOR"), (0, u "I"), (36, .class_ 170), (0, u "java/util/ImmutableCollections$MapN$MapNIterator"), (0, .class_ 172), (0, u "java/util/ImmutableCollections$MapN$1"), (0, .class_ 174), (0, u "java/util/ImmutableCollections$Map1"), (0, .class_ 176), (0, u "java/util/ImmutableCollections$AbstractImmutableMap"), (0, .class_ 178), (0, u "java/util/ImmutableCollections$SetN$SetNIterator"), (0, .class_ 180), (0, u "java/util/ImmutableCollections$Set12"), (0, .class_ 182), (0, u "java/util/ImmutableCollections$Set12$1"), (0, .class_ 184), (0, u "java/util/ImmutableCollections$AbstractImmutableSet"), (0, .class_ 186), (0, u "java/util/ImmutableCollections$SubList"), (0, .class_ 188), (0, u "java/util/ImmutableCollections$ListItr"), (0, .class_ 190), (0, u "java/util/ImmutableCollections$AbstractImmutableList"), (0, .class_ 192), (0, u "java/util/ImmutableCollections$AbstractImmutableCollection"), (0, .class_ 194), (0, u "java/util/ImmutableCollections$Access"), (0, .class_ 196), (0, u "java/util/ImmutableCollections$Access$1")] 16

def k6m0 : Method := { name := "<init>", desc := "()V", sig := { parameters := [], returnType := none }, accessFlags := 2, code := none }
/-- java/util/ImmutableCollections -/
def k6 : Class := { plain "java/util/ImmutableCollections" (some 0) with
  accessFlags := 32
  interfaces := #[]
  cf := some (fileOf pool6 47 #[.nestMembers #[120, 169, 171, 173, 175, 111, 177, 179, 181, 183, 12, 10, 185, 187, 189, 191, 193, 195]] #[{ accessFlags := 2, nameIndex := 5, descriptorIndex := 6, attributes := #[] }] 32 2 #[] #[{ accessFlags := 26, nameIndex := 95, descriptorIndex := 96, attributes := #[] }, { accessFlags := 26, nameIndex := 99, descriptorIndex := 17, attributes := #[] }, { accessFlags := 10, nameIndex := 106, descriptorIndex := 56, attributes := #[] }, { accessFlags := 26, nameIndex := 109, descriptorIndex := 110, attributes := #[] }, { accessFlags := 24, nameIndex := 62, descriptorIndex := 63, attributes := #[] }, { accessFlags := 24, nameIndex := 72, descriptorIndex := 63, attributes := #[] }, { accessFlags := 24, nameIndex := 118, descriptorIndex := 119, attributes := #[] }, { accessFlags := 24, nameIndex := 125, descriptorIndex := 126, attributes := #[] }, { accessFlags := 24, nameIndex := 131, descriptorIndex := 132, attributes := #[] }, { accessFlags := 4120, nameIndex := 50, descriptorIndex := 17, attributes := #[] }])
  fields := #[{ name := "SALT32L", type := .long, accessFlags := 26, slot := 0, constantValue := 0 }, { name := "REVERSE", type := .boolean, accessFlags := 26, slot := 1, constantValue := 0 }, { name := "archivedObjects", type := (.array (.object "java/lang/Object")), accessFlags := 10, slot := 2, constantValue := 0 }, { name := "EMPTY", type := (.object "java/lang/Object"), accessFlags := 26, slot := 3, constantValue := 0 }, { name := "EMPTY_LIST", type := (.object "java/util/ImmutableCollections$ListN"), accessFlags := 24, slot := 4, constantValue := 0 }, { name := "EMPTY_LIST_NULLS", type := (.object "java/util/ImmutableCollections$ListN"), accessFlags := 24, slot := 5, constantValue := 0 }, { name := "EMPTY_SET", type := (.object "java/util/ImmutableCollections$SetN"), accessFlags := 24, slot := 6, constantValue := 0 }, { name := "EMPTY_MAP", type := (.object "java/util/ImmutableCollections$MapN"), accessFlags := 24, slot := 7, constantValue := 0 }, { name := "EXPAND_FACTOR", type := .int, accessFlags := 24, slot := 8, constantValue := 0 }, { name := "$assertionsDisabled", type := .boolean, accessFlags := 4120, slot := 9, constantValue := 0 }]
  methods := #[k6m0]
  instanceTypes := #[]
  staticTypes := #[.long, .boolean, (.array (.object "java/lang/Object")), (.object "java/lang/Object"), (.object "java/util/ImmutableCollections$ListN"), (.object "java/util/ImmutableCollections$ListN"), (.object "java/util/ImmutableCollections$SetN"), (.object "java/util/ImmutableCollections$MapN"), .int, .boolean]
  resolved := Array.replicate 213 none
  statics := some 0 }

def pool7 : Array CpInfo := pool [(8, .class_ 10), (1, u "java/util/SequencedCollection"), (15, .class_ 27), (0, u "java/lang/Object"), (0, .class_ 29), (0, u "java/util/Collection")] 27

/-- java/util/SequencedCollection -/
def k7 : Class := { plain "java/util/SequencedCollection" (some 0) with
  accessFlags := 1537
  interfaces := #[4]
  cf := some (fileOf pool7 8 #[] #[] 1537 26 #[28] #[])
  fields := #[]
  methods := #[]
  instanceTypes := #[]
  staticTypes := #[]
  resolved := Array.replicate 57 none
  statics := none }

def pool8 : Array CpInfo := pool [(8, .class_ 10), (1, u "java/util/List"), (77, u "of"), (1, .fieldref 91 92), (0, .class_ 93), (0, .nameAndType 94 95), (0, u "java/util/ImmutableCollections"), (0, u "EMPTY_LIST"), (0, u "Ljava/util/ImmutableCollections$ListN;"), (7, .class_ 104), (0, u "java/lang/Object"), (14, u "()Ljava/util/List;"), (0, .class_ 121), (0, u "java/util/SequencedCollection")] 129

def k8c0 : Code := { maxStack := 1, maxLocals := 0, code := jdk_40_method_36_code, exceptionTable := #[], attributes := #[] }
def k8m0 : Method := { name := "of", desc := "()Ljava/util/List;", sig := { parameters := [], returnType := some (.object "java/util/List") }, accessFlags := 9, code := some k8c0 }
/-- java/util/List -/
def k8 : Class := { plain "java/util/List" (some 0) with
  accessFlags := 1537
  interfaces := #[7]
  cf := some (fileOf pool8 8 #[] #[{ accessFlags := 9, nameIndex := 88, descriptorIndex := 119, attributes := #[] }] 1537 103 #[120] #[])
  fields := #[]
  methods := #[k8m0]
  instanceTypes := #[]
  staticTypes := #[]
  resolved := Array.replicate 251 none
  statics := none }

def pool9 : Array CpInfo := pool [(1, .class_ 2), (0, u "java/lang/Cloneable"), (0, .class_ 4), (0, u "java/lang/Object")] 2

/-- java/lang/Cloneable -/
def k9 : Class := { plain "java/lang/Cloneable" (some 0) with
  accessFlags := 1537
  interfaces := #[]
  cf := some (fileOf pool9 1 #[] #[] 1537 3 #[] #[])
  fields := #[]
  methods := #[]
  instanceTypes := #[]
  staticTypes := #[]
  resolved := Array.replicate 7 none
  statics := none }

def pool10 : Array CpInfo := pool [(2, .class_ 4), (1, u "java/lang/Object"), (0, u "<init>"), (0, u "()V"), (1, .class_ 10), (1, u "java/util/AbstractCollection"), (66, .class_ 78), (0, u "java/util/Collection")] 81

def k10m0 : Method := { name := "<init>", desc := "()V", sig := { parameters := [], returnType := none }, accessFlags := 4, code := none }
/-- java/util/AbstractCollection -/
def k10 : Class := { plain "java/util/AbstractCollection" (some 0) with
  accessFlags := 1057
  interfaces := #[4]
  cf := some (fileOf pool10 8 #[] #[{ accessFlags := 4, nameIndex := 5, descriptorIndex := 6, attributes := #[] }] 1057 2 #[77] #[])
  fields := #[]
  methods := #[k10m0]
  instanceTypes := #[]
  staticTypes := #[]
  resolved := Array.replicate 160 none
  statics := none }

def pool11 : Array CpInfo := pool [(2, .class_ 4), (1, u "java/util/AbstractCollection"), (0, u "<init>"), (0, u "()V"), (1, .class_ 10), (1, u "java/util/ImmutableCollections"), (2, .class_ 14), (0, u "java/util/ImmutableCollections$AbstractImmutableCollection")] 41

def k11m0 : Method := { name := "<init>", desc := "()V", sig := { parameters := [], returnType := none }, accessFlags := 0, code := none }
/-- java/util/ImmutableCollections$AbstractImmutableCollection -/
def k11 : Class := { plain "java/util/ImmutableCollections$AbstractImmutableCollection" (some 10) with
  accessFlags := 1056
  interfaces := #[]
  cf := some (fileOf pool11 13 #[.nestHost 8] #[{ accessFlags := 0, nameIndex := 5, descriptorIndex := 6, attributes := #[] }] 1056 2 #[] #[])
  fields := #[]
  methods := #[k11m0]
  instanceTypes := #[]
  staticTypes := #[]
  resolved := Array.replicate 56 none
  statics := none }

def pool12 : Array CpInfo := pool [(2, .class_ 4), (1, u "java/util/ImmutableCollections$AbstractImmutableCollection"), (0, u "<init>"), (0, u "()V"), (0, .class_ 8), (0, u "java/util/Set"), (7, .class_ 17), (0, u "java/util/ImmutableCollections$AbstractImmutableSet"), (43, .class_ 62), (0, u "java/util/ImmutableCollections")] 3

def k12m0 : Method := { name := "<init>", desc := "()V", sig := { parameters := [], returnType := none }, accessFlags := 0, code := none }
/-- java/util/ImmutableCollections$AbstractImmutableSet -/
def k12 : Class := { plain "java/util/ImmutableCollections$AbstractImmutableSet" (some 11) with
  accessFlags := 1056
  interfaces := #[5]
  cf := some (fileOf pool12 16 #[.nestHost 61] #[{ accessFlags := 0, nameIndex := 5, descriptorIndex := 6, attributes := #[] }] 1056 2 #[7] #[])
  fields := #[]
  methods := #[k12m0]
  instanceTypes := #[]
  staticTypes := #[]
  resolved := Array.replicate 66 none
  statics := none }

def pool13 : Array CpInfo := pool [(1, .class_ 2), (0, u "java/io/Serializable"), (0, .class_ 4), (0, u "java/lang/Object")] 2

/-- java/io/Serializable -/
def k13 : Class := { plain "java/io/Serializable" (some 0) with
  accessFlags := 1537
  interfaces := #[]
  cf := some (fileOf pool13 1 #[] #[] 1537 3 #[] #[])
  fields := #[]
  methods := #[]
  instanceTypes := #[]
  staticTypes := #[]
  resolved := Array.replicate 7 none
  statics := none }

def pool14 : Array CpInfo := pool [(1, .class_ 2), (0, u "java/util/ImmutableCollections"), (1, .class_ 6), (1, u "java/util/ImmutableCollections$AbstractImmutableSet"), (3, .class_ 12), (1, u "java/util/ImmutableCollections$SetN"), (0, u "size"), (0, u "I"), (4, u "elements"), (0, u "[Ljava/lang/Object;"), (86, .class_ 108), (0, u "java/io/Serializable")] 59

/-- java/util/ImmutableCollections$SetN -/
def k14 : Class := { plain "java/util/ImmutableCollections$SetN" (some 12) with
  accessFlags := 48
  interfaces := #[13]
  cf := some (fileOf pool14 10 #[.nestHost 1] #[] 48 4 #[107] #[{ accessFlags := 16, nameIndex := 19, descriptorIndex := 20, attributes := #[] }, { accessFlags := 16, nameIndex := 13, descriptorIndex := 14, attributes := #[] }])
  fields := #[{ name := "elements", type := (.array (.object "java/lang/Object")), accessFlags := 16, slot := 0, constantValue := 0 }, { name := "size", type := .int, accessFlags := 16, slot := 1, constantValue := 0 }]
  methods := #[]
  instanceTypes := #[(.array (.object "java/lang/Object")), .int]
  staticTypes := #[]
  resolved := Array.replicate 168 none
  statics := none }

def pool15 : Array CpInfo := pool [(1, .class_ 2), (0, u "java/util/RandomAccess"), (0, .class_ 4), (0, u "java/lang/Object")] 2

/-- java/util/RandomAccess -/
def k15 : Class := { plain "java/util/RandomAccess" (some 0) with
  accessFlags := 1537
  interfaces := #[]
  cf := some (fileOf pool15 1 #[] #[] 1537 3 #[] #[])
  fields := #[]
  methods := #[]
  instanceTypes := #[]
  staticTypes := #[]
  resolved := Array.replicate 7 none
  statics := none }

def pool16 : Array CpInfo := pool [(2, .class_ 4), (1, u "java/util/ImmutableCollections$AbstractImmutableCollection"), (0, u "<init>"), (0, u "()V"), (1, .class_ 10), (1, u "java/util/ImmutableCollections"), (3, .class_ 16), (1, u "java/util/ImmutableCollections$AbstractImmutableList"), (60, .class_ 78), (0, u "java/util/List"), (45, .class_ 125), (0, u "java/util/RandomAccess")] 70

def k16m0 : Method := { name := "<init>", desc := "()V", sig := { parameters := [], returnType := none }, accessFlags := 0, code := none }
/-- java/util/ImmutableCollections$AbstractImmutableList -/
def k16 : Class := { plain "java/util/ImmutableCollections$AbstractImmutableList" (some 11) with
  accessFlags := 1056
  interfaces := #[8, 15]
  cf := some (fileOf pool16 14 #[.nestHost 8] #[{ accessFlags := 0, nameIndex := 5, descriptorIndex := 6, attributes := #[] }] 1056 2 #[77, 124] #[])
  fields := #[]
  methods := #[k16m0]
  instanceTypes := #[]
  staticTypes := #[]
  resolved := Array.replicate 196 none
  statics := none }

def pool17 : Array CpInfo := pool [(2, .class_ 4), (1, u "java/util/ImmutableCollections$AbstractImmutableList"), (3, .class_ 10), (1, u "java/util/ImmutableCollections$ListN"), (0, u "elements"), (0, u "[Ljava/lang/Object;"), (2, u "allowNulls"), (0, u "Z"), (42, .class_ 60), (0, u "java/io/Serializable"), (53, .class_ 115), (0, u "java/util/ImmutableCollections")] 3

/-- java/util/ImmutableCollections$ListN -/
def k17 : Class := { plain "java/util/ImmutableCollections$ListN" (some 16) with
  accessFlags := 48
  interfaces := #[13]
  cf := some (fileOf pool17 8 #[.nestHost 114] #[] 48 2 #[59] #[{ accessFlags := 18, nameIndex := 11, descriptorIndex := 12, attributes := #[] }, { accessFlags := 18, nameIndex := 15, descriptorIndex := 16, attributes := #[] }])
  fields := #[{ name := "elements", type := (.array (.object "java/lang/Object")), accessFlags := 18, slot := 0, constantValue := 0 }, { name := "allowNulls", type := .boolean, accessFlags := 18, slot := 1, constantValue := 0 }]
  methods := #[]
  instanceTypes := #[(.array (.object "java/lang/Object")), .boolean]
  staticTypes := #[]
  resolved := Array.replicate 119 none
  statics := none }

/-- the primitive byte -/
def k18 : Class := { plain "byte" none with kind := .primitive 'B', accessFlags := 0x411 }
/-- [B -/
def k19 : Class := { plain "[B" (some 0) with kind := .array 18 .byte, interfaces := #[9, 13], accessFlags := 1041 }

/-- the primitive int -/
def k20 : Class := { plain "int" none with kind := .primitive 'I', accessFlags := 0x411 }
/-- [I -/
def k21 : Class := { plain "[I" (some 0) with kind := .array 20 .int, interfaces := #[9, 13], accessFlags := 1041 }

/-- the primitive long -/
def k22 : Class := { plain "long" none with kind := .primitive 'J', accessFlags := 0x411 }
/-- [J -/
def k23 : Class := { plain "[J" (some 0) with kind := .array 22 .long, interfaces := #[9, 13], accessFlags := 1041 }

/-- [Ljava/lang/Object; -/
def k24 : Class := { plain "[Ljava/lang/Object;" (some 0) with kind := .array 0 (.object "java/lang/Object"), interfaces := #[9, 13], accessFlags := 1041 }

def heap : Heap := #[{ cls := 6, slots := #[.long 0, .int 0, .null, .null, .ref 3, .null, .ref 2, .null, .int 0, .int 0], vm := .statics 6 },
  { cls := 24, slots := #[], vm := .none },
  { cls := 14, slots := #[.ref 1, .int 0], vm := .none },
  { cls := 17, slots := #[.ref 1, .int 0], vm := .none }]
def classes : Array Class := #[k0, k1, k2, k3, k4, k5, k6, k7, k8, k9, k10, k11, k12, k13, k14, k15, k16, k17, k18, k19, k20, k21, k22, k23, k24]
def interned : List (Array UInt16 × Addr) := []
def slotsUsed : Nat := 14
def theMethod : MethodId := ⟨1, 1⟩
def args0 : Array Value := #[.int 1, .int 2, .long 3, .long 4, .long 5, .int 6]
def aboutOver (below : List Frame) : State where
  vm := { classes := classes, interned := interned.toArray }
  heap := heap
  slotsUsed := slotsUsed
  threads := #[{ frames := .invoking theMethod args0 :: below }]
def below0 : List Frame := [.native { method := ⟨0, 0⟩, args := #[] }]
def about1 : State := aboutOver below0
def p0 : Program := .bare "" "" ""
def e0 : Env := launch0.env 0 0 0
theorem w_frames : about1.frames = Frame.invoking theMethod args0 :: below0 := rfl
set_option maxRecDepth 65536 in
theorem w_args : argsFit about1.vm theMethod args0 = true := by decide +kernel
set_option maxRecDepth 65536 in
theorem w_heap : heapFits about1 = true := by decide +kernel
set_option maxRecDepth 65536 in
theorem w_runnable : about1.curStatus? = some .runnable := by decide +kernel
set_option maxRecDepth 65536 in
theorem w_alone : about1.alone = true := by decide +kernel
set_option maxRecDepth 65536 in
theorem w_named : about1.methodNamed? x = some theMethod := by decide +kernel
set_option maxRecDepth 65536 in
theorem w_hears : about1.hears theMethod below0 = true := by decide +kernel
set_option maxRecDepth 65536 in
theorem w_ripe : about1.ripe theMethod args0 below0 = true := by decide +kernel
theorem w_running : about1.status = .running := rfl
set_option maxRecDepth 65536 in
theorem w_room : about1.hasRoom e0.platform room_1 = true :=
  launch0.hasRoom_least _ room_1 (by decide +kernel) (by decide +kernel) (by decide +kernel) (by decide +kernel) (by decide +kernel) (by decide +kernel)
theorem allAtoms_all (ts : List Jvm.Cond) (a : Array Jvm.Value) (st : Jvm.State) : (allAtoms ts).before a st = ts.all (fun c => c.before a st) := by
  induction ts with
  | nil => rfl
  | cons c t ih =>
    show (Jvm.Cond.and c (allAtoms t)).before a st = _
    rw [Jvm.Cond.before_and, ih, List.all_cons]
def words1 : List Jvm.Cond := Jvm.Cond.code x code maxLocals ret :: tables_1
/-- a 'code' word, met by the world's own term for the bytes: nothing is compared byte by byte -/
theorem code_word {y : MethodName} {bytes : ByteArray} {mx : Nat} {rt : Option FieldType} {a : Array Value} {s : State} {m : MethodId} {meth : Method} {c : Code} (h1 : s.methodNamed? y = some m) (h2 : s.vm.method? m = some meth) (h3 : meth.code = some c) (h4 : c.code = bytes)
    (h5 : (c.maxLocals == mx && c.exceptionTable.isEmpty && decide (c.maxStack ≤ mostOperands) && decide (meth.sig.returnType = rt) && !meth.locks && decide (parseMethodDescriptor y.desc = some meth.sig)) = true) : (Jvm.Cond.code y bytes mx rt).before a s = true := by
  simp only [Bool.and_eq_true, beq_iff_eq, Bool.not_eq_true', decide_eq_true_eq] at h5
  obtain ⟨⟨⟨⟨⟨g1, g2⟩, g3⟩, g4⟩, g5⟩, g6⟩ := h5
  simp [Cond.before, Cond.holds, Cond.value, h1, h2, h3, h4, g1, g2, g3, g4, g5, g6]
def isCode : Jvm.Cond → Bool
  | .code _ _ _ _ => true
  | _ => false
theorem all_split {L : List Jvm.Cond} {P : Jvm.Cond → Bool} (h1 : L.all (fun c => isCode c || P c) = true) (h2 : ∀ c ∈ L.filter isCode, P c = true) : L.all P = true := by
  refine List.all_eq_true.mpr fun c hc => ?_
  have h := List.all_eq_true.mp h1 c hc
  rcases Bool.eq_false_or_eq_true (isCode c) with hi | hi
  · exact h2 c (List.mem_filter.mpr ⟨hc, hi⟩)
  · simpa [hi] using h
set_option maxRecDepth 65536 in
theorem w_c0 : (Jvm.Cond.code x code maxLocals ret).before args0 about1 = true := code_word (m := ⟨1, 1⟩) (meth := k1m1) (c := k1c1) (by decide +kernel) rfl rfl rfl (by decide +kernel)
set_option maxRecDepth 65536 in
theorem w_c1 : (Jvm.Cond.code ({ cls := "com/example/stops_to_routes/stopstoroutes/planner/Vehicle", name := "<init>", desc := "(IIJJ[J)V" } : Jvm.MethodName) prog_34_method_1_code (8 : Nat) (Option.none : Option Jvm.ClassFile.FieldType)).before args0 about1 = true := code_word (m := ⟨2, 0⟩) (meth := k2m0) (c := k2c0) (by decide +kernel) rfl rfl rfl (by decide +kernel)
set_option maxRecDepth 65536 in
theorem w_c2 : (Jvm.Cond.code ({ cls := "java/lang/Object", name := "<init>", desc := "()V" } : Jvm.MethodName) object_method_1_code (1 : Nat) (Option.none : Option Jvm.ClassFile.FieldType)).before args0 about1 = true := code_word (m := ⟨0, 0⟩) (meth := k0m0) (c := k0c0) (by decide +kernel) rfl rfl rfl (by decide +kernel)
set_option maxRecDepth 65536 in
theorem w_c3 : (Jvm.Cond.code ({ cls := "java/util/Set", name := "of", desc := "()Ljava/util/Set;" } : Jvm.MethodName) jdk_96_method_17_code (0 : Nat) (Option.some (Jvm.ClassFile.FieldType.object "java/util/Set"))).before args0 about1 = true := code_word (m := ⟨5, 0⟩) (meth := k5m0) (c := k5c0) (by decide +kernel) rfl rfl rfl (by decide +kernel)
set_option maxRecDepth 65536 in
theorem w_c4 : (Jvm.Cond.code ({ cls := "java/util/List", name := "of", desc := "()Ljava/util/List;" } : Jvm.MethodName) jdk_40_method_36_code (0 : Nat) (Option.some (Jvm.ClassFile.FieldType.object "java/util/List"))).before args0 about1 = true := code_word (m := ⟨8, 0⟩) (meth := k8m0) (c := k8c0) (by decide +kernel) rfl rfl rfl (by decide +kernel)
set_option maxRecDepth 65536 in
theorem w_c5 : (Jvm.Cond.code ({ cls := "com/example/stops_to_routes/stopstoroutes/planner/Vehicle", name := "hasEnd", desc := "()Z" } : Jvm.MethodName) prog_34_method_8_code (1 : Nat) (Option.some Jvm.ClassFile.FieldType.boolean)).before args0 about1 = true := code_word (m := ⟨2, 4⟩) (meth := k2m4) (c := k2c4) (by decide +kernel) rfl rfl rfl (by decide +kernel)
set_option maxRecDepth 65536 in
theorem w_c6 : (Jvm.Cond.code ({ cls := "com/example/stops_to_routes/stopstoroutes/planner/Vehicle", name := "servingAtMost", desc := "(I)Lcom/example/stops_to_routes/stopstoroutes/planner/Vehicle;" } : Jvm.MethodName) prog_34_method_4_code (3 : Nat) (Option.some (Jvm.ClassFile.FieldType.object "com/example/stops_to_routes/stopstoroutes/planner/Vehicle"))).before args0 about1 = true := code_word (m := ⟨2, 2⟩) (meth := k2m2) (c := k2c2) (by decide +kernel) rfl rfl rfl (by decide +kernel)
set_option maxRecDepth 65536 in
theorem w_c7 : (Jvm.Cond.code ({ cls := "com/example/stops_to_routes/stopstoroutes/planner/Vehicle", name := "<init>", desc := "(Lcom/example/stops_to_routes/stopstoroutes/planner/Vehicle;)V" } : Jvm.MethodName) prog_34_method_2_code (2 : Nat) (Option.none : Option Jvm.ClassFile.FieldType)).before args0 about1 = true := code_word (m := ⟨2, 1⟩) (meth := k2m1) (c := k2c1) (by decide +kernel) rfl rfl rfl (by decide +kernel)
set_option maxRecDepth 65536 in
theorem w_c8 : (Jvm.Cond.code ({ cls := "com/example/stops_to_routes/stopstoroutes/planner/Vehicle", name := "end", desc := "()I" } : Jvm.MethodName) prog_34_method_7_code (1 : Nat) (Option.some Jvm.ClassFile.FieldType.int)).before args0 about1 = true := code_word (m := ⟨2, 3⟩) (meth := k2m3) (c := k2c3) (by decide +kernel) rfl rfl rfl (by decide +kernel)
def codes1 : List Jvm.Cond := [Jvm.Cond.code x code maxLocals ret, Jvm.Cond.code ({ cls := "com/example/stops_to_routes/stopstoroutes/planner/Vehicle", name := "<init>", desc := "(IIJJ[J)V" } : Jvm.MethodName) prog_34_method_1_code (8 : Nat) (Option.none : Option Jvm.ClassFile.FieldType), Jvm.Cond.code ({ cls := "java/lang/Object", name := "<init>", desc := "()V" } : Jvm.MethodName) object_method_1_code (1 : Nat) (Option.none : Option Jvm.ClassFile.FieldType), Jvm.Cond.code ({ cls := "java/util/Set", name := "of", desc := "()Ljava/util/Set;" } : Jvm.MethodName) jdk_96_method_17_code (0 : Nat) (Option.some (Jvm.ClassFile.FieldType.object "java/util/Set")), Jvm.Cond.code ({ cls := "java/util/List", name := "of", desc := "()Ljava/util/List;" } : Jvm.MethodName) jdk_40_method_36_code (0 : Nat) (Option.some (Jvm.ClassFile.FieldType.object "java/util/List")), Jvm.Cond.code ({ cls := "com/example/stops_to_routes/stopstoroutes/planner/Vehicle", name := "hasEnd", desc := "()Z" } : Jvm.MethodName) prog_34_method_8_code (1 : Nat) (Option.some Jvm.ClassFile.FieldType.boolean), Jvm.Cond.code ({ cls := "com/example/stops_to_routes/stopstoroutes/planner/Vehicle", name := "servingAtMost", desc := "(I)Lcom/example/stops_to_routes/stopstoroutes/planner/Vehicle;" } : Jvm.MethodName) prog_34_method_4_code (3 : Nat) (Option.some (Jvm.ClassFile.FieldType.object "com/example/stops_to_routes/stopstoroutes/planner/Vehicle")), Jvm.Cond.code ({ cls := "com/example/stops_to_routes/stopstoroutes/planner/Vehicle", name := "<init>", desc := "(Lcom/example/stops_to_routes/stopstoroutes/planner/Vehicle;)V" } : Jvm.MethodName) prog_34_method_2_code (2 : Nat) (Option.none : Option Jvm.ClassFile.FieldType), Jvm.Cond.code ({ cls := "com/example/stops_to_routes/stopstoroutes/planner/Vehicle", name := "end", desc := "()I" } : Jvm.MethodName) prog_34_method_7_code (1 : Nat) (Option.some Jvm.ClassFile.FieldType.int)]
set_option maxRecDepth 65536 in
theorem codes_eq : words1.filter isCode = codes1 := rfl
theorem w_codes : ∀ c ∈ words1.filter isCode, c.before args0 about1 = true := by
  rw [codes_eq]
  intro c hc
  simp only [codes1, List.mem_cons, List.not_mem_nil, or_false] at hc
  rcases hc with rfl | rfl | rfl | rfl | rfl | rfl | rfl | rfl | rfl
  · exact w_c0
  · exact w_c1
  · exact w_c2
  · exact w_c3
  · exact w_c4
  · exact w_c5
  · exact w_c6
  · exact w_c7
  · exact w_c8
set_option maxRecDepth 65536 in
theorem w_t1 : (words1.take 24).all (fun c => isCode c || c.before args0 about1) = true := by decide +kernel
set_option maxRecDepth 65536 in
theorem w_t2 : ((words1.drop 24).take 24).all (fun c => isCode c || c.before args0 about1) = true := by decide +kernel
set_option maxRecDepth 65536 in
theorem w_t3 : ((words1.drop 24).drop 24).all (fun c => isCode c || c.before args0 about1) = true := by decide +kernel
theorem w_tables : (allAtoms (Jvm.Cond.code x code maxLocals ret :: tables_1)).before args0 about1 = true := by
  rw [allAtoms_all]
  show words1.all (fun c => c.before args0 about1) = true
  refine all_split ?_ w_codes
  rw [← List.take_append_drop 24 words1, List.all_append, w_t1, ← List.take_append_drop 24 (words1.drop 24), List.all_append, w_t2, w_t3]
  rfl
set_option maxRecDepth 65536 in
theorem w_rest : rest_1_c.before args0 about1 = true := by decide +kernel
set_option maxRecDepth 65536 in
theorem w_case : (Jvm.Cond.and given_1 narrow_1).before args0 about1 = true := by decide +kernel
theorem w_applies : (headSpec (Jvm.Cond.code x code maxLocals ret :: tables_1) room_1).applies x e0.platform about1 = true :=
  (Spec.applies_iff w_frames).mpr ⟨w_running, w_runnable, w_alone, w_named, w_hears, w_ripe, w_room, w_tables⟩
theorem atStart : AtStart classFile x code maxLocals ret World_1 tables_1 room_1 Calls_1 rest_1 Pre_1 launch0 p0 e0 about1 theMethod args0 below0 :=
  ⟨lists_1, trivial, launch0.admits_env _ _ _, launch0.least_env, fairChoices_fair.cas, fairChoices_fair.clock, w_frames, w_args, w_heap, w_applies, trivial, w_rest, w_case⟩
end start1
theorem witness_1 : WitnessClaimed_1 := ⟨start1.p0, start1.e0, start1.about1, start1.theMethod, start1.args0, start1.below0, start1.atStart⟩
end Jvm.Pilot.@@N@@
