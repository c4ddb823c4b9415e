import JvmDerived
import JvmDerived.Pilot.@@N@@Statement
import JvmDerived.Pilot.@@N@@Code
set_option linter.unusedVariables false
set_option linter.unusedSimpArgs false
namespace Jvm.Pilot.@@N@@
open Jvm Jvm.ClassFile Sem Op Lib Jvm.Free Jvm.Stand Jvm.LawKit Jvm.RoadKit Bundle Jvm.Pilot.@@N@@.Jvm.D
theorem own_eqi {s : State} {args : Array Value} {t : Term} {k : Int32} (h : (Jvm.Cond.eq t (Term.int k)).value args s none s [] = some true) : t.eval args s none [] s = some (.int k) := by
  obtain ⟨u, v, hu, hv, k1, k2⟩ := cmp_v (Or.inl h)
  obtain rfl : v = .int k := Option.some.inj (hv.symm.trans (Term.int_eval k))
  obtain ⟨z, rfl⟩ := k2
  rw [hu]
  simp [Cond.value, hu, hv] at h
  rw [h]
theorem own_fld {s : State} {args : Array Value} {t : Term} {C n d : String} {k : Int32} {x : Addr} (ev : t.eval args s none [] s = some (.ref x)) (h : (Jvm.Cond.eq (Term.field t C n d) (Term.int k)).value args s none s [] = some true) : Fld s s.heap x C n d (.int k) := by
  have hu := own_eqi h
  rw [fld_at ev] at hu
  exact Fld.start hu
theorem own_root {Z : State} {a0 : Array Value} {O K : String} {n : Nat} (w : (Jvm.Cond.noSuperclass O).before a0 Z = true) (wk : (Jvm.Cond.instantiable K n).before a0 Z = true) (hn : O ≠ K) : NS Z O K := by
  obtain ⟨c, k, h1, h2, h3, -⟩ := Cond.noSuperclass_spec w
  obtain ⟨t, kt, g1, -⟩ := Cond.instantiable_spec wk
  have ne := ids_ne h1 g1 hn
  refine ⟨c, t, h1, g1, fun fuel => ?_⟩
  match fuel with
  | 0 => rfl
  | f + 1 => simp [Vm.isSubclassAux, ne, h2, h3]
theorem own_no {Z : State} {a0 : Array Value} {C S K : String} {n : Nat} (w : (Jvm.Cond.superclass C S).before a0 Z = true) (wk : (Jvm.Cond.instantiable K n).before a0 Z = true) (ns : NS Z C K) (hn : C ≠ K) : ∃ c t, Z.vm.findClass C = some c ∧ Z.vm.findClass K = some t ∧ Z.vm.assignable c t = false := by
  obtain ⟨c, t, h0, g0, n3⟩ := ns
  obtain ⟨p, k, kp, -, h2, -, -, h5, -⟩ := Cond.superclass_spec h0 w
  obtain ⟨t', kt, g1, g2, g5, g6, -⟩ := Cond.instantiable_spec wk
  cases g0.symm.trans g1
  have ne := ids_ne h0 g0 hn
  have g7 : kt.isInterface = false := by
    cases hI : kt.isInterface with
    | false => rfl
    | true => rw [hI] at g6; cases g6
  refine ⟨c, t, h0, g0, ?_⟩
  show Z.vm.assignableAux (255 + 1) c t = false
  simp [Vm.assignableAux, ne, h2, g2, h5, g5, g7, Vm.isSubclass, n3]
theorem own_len {s : State} {args : Array Value} {t : Term} {a : Addr} {cl : Cell} {ty : FieldType} {k : Int32} (ev : t.eval args s none [] s = some (.ref a)) (A : Arr s s.heap a cl ty) (h : (Term.length t).eval args s none [] s = some (.int k)) : cl.slots.size < 2 ^ 31 ∧ cl.slots.size.toInt32 = k := by
  have ha := A.fin (Vm.Alike.refl _)
  by_cases hl : cl.slots.size < 2 ^ 31
  · rw [len_f ev ha hl] at h
    exact ⟨hl, Value.int.inj (Option.some.inj h)⟩
  · simp [Term.eval, ev, ha, hl] at h
theorem own_sub {s : State} {args : Array Value} {a b : Term} {idx : List Nat} {x y : Int32} (ha : a.eval args s none idx s = some (.int x)) (hb : b.eval args s none idx s = some (.int y)) : (Term.sub a b).eval args s none idx s = some (.int (x - y)) := by simp [Term.eval, ha, hb]
theorem own_ix {q : Int64} (h1 : ¬ ((lcmpW q (-128 : Int64)) < (0 : Int32))) (h2 : ¬ ((0 : Int32) < (lcmpW q (127 : Int64)))) : ¬ ((q.toInt32 + (128 : Int32)) < 0) ∧ (q.toInt32 + (128 : Int32)) < (256 : Int32) := by
  rw [lw_lt, Int64.lt_iff_toInt_lt] at h1
  rw [lw_gt, Int64.lt_iff_toInt_lt] at h2
  have e1 : (-128 : Int64).toInt = -128 := by decide
  have e2 : (127 : Int64).toInt = 127 := by decide
  have e3 : (128 : Int32).toInt = 128 := by decide
  have e4 : (256 : Int32).toInt = 256 := by decide
  have e5 : (0 : Int32).toInt = 0 := by decide
  have a1 := c_l2i q
  have a2 := rng32 q.toInt32
  have a3 := c_iadd q.toInt32 128
  have a4 := rng32 (q.toInt32 + 128)
  rw [Int32.lt_iff_toInt_lt, Int32.lt_iff_toInt_lt]
  omega
theorem d1_0 : decode prog_5_method_1_code 0 = .ok (.aload_n 0, 1) := by decide +kernel
theorem d1_1 : decode prog_5_method_1_code 1 = .ok (.invokespecial 1, 3) := by decide +kernel
theorem d1_4 : decode prog_5_method_1_code 4 = .ok (.aload_n 0, 1) := by decide +kernel
theorem d1_5 : decode prog_5_method_1_code 5 = .ok (.lload_n 1, 1) := by decide +kernel
theorem d1_6 : decode prog_5_method_1_code 6 = .ok (.putfield 7, 3) := by decide +kernel
theorem d1_9 : decode prog_5_method_1_code 9 = .ok (.aload_n 0, 1) := by decide +kernel
theorem d1_10 : decode prog_5_method_1_code 10 = .ok (.lload_n 3, 1) := by decide +kernel
theorem d1_11 : decode prog_5_method_1_code 11 = .ok (.putfield 13, 3) := by decide +kernel
theorem d1_14 : decode prog_5_method_1_code 14 = .ok (.aload_n 0, 1) := by decide +kernel
theorem d1_15 : decode prog_5_method_1_code 15 = .ok (.lload 5, 2) := by decide +kernel
theorem d1_17 : decode prog_5_method_1_code 17 = .ok (.putfield 16, 3) := by decide +kernel
theorem d1_20 : decode prog_5_method_1_code 20 = .ok (.return_, 1) := by decide +kernel
theorem pn_12 : plainName "com/example/stops_to_routes/stopstoroutes/planner/Break" = true := by first | (simp [plainName, overriddenIn]; done) | decide +kernel
theorem ef_1_13 (m : MethodId) (x0 : Addr) (x1 : Int64) (x2 : Int64) (x3 : Int64) : entryFrame m #[(.ref x0), (.long x1), (.long x2), (.long x3)] 7 = mkF m 0 #[.val (.ref x0), .val (.long x1), .second, .val (.long x2), .second, .val (.long x3), .second] [] := by first | (simp [entryFrame, mkF, argsToLocals, Value.category]; done) | rfl
def QrmI (Z : State) (a : Addr) (e : Int64) (l_ : Int64) (d : Int64) (h0 : Heap) (n0 : Nat) (v : Option Value) (h : Heap) (L : List Loc) : Prop := v = none ∧ Fr n0 L ∧ Keep h0 h [a] ∧ Exa Z h a "com/example/stops_to_routes/stopstoroutes/planner/Break" ∧ Fld Z h a "com/example/stops_to_routes/stopstoroutes/planner/Break" "earliest" "J" (.long e) ∧ Fld Z h a "com/example/stops_to_routes/stopstoroutes/planner/Break" "latest" "J" (.long l_) ∧ Fld Z h a "com/example/stops_to_routes/stopstoroutes/planner/Break" "duration" "J" (.long d)
set_option maxRecDepth 65536 in
set_option maxHeartbeats 40000000 in
theorem rmI (l : Launch) (Z : State) (a0 : Array Value) (hw : ∀ d ∈ tables_1, d.before a0 Z = true) (ws : List Jvm.Cond) (a : Addr) (e : Int64) (l_ : Int64) (d : Int64) (h0 : Heap) (n0 : Nat) (O0 : Old Z n0 h0) (E_a : Exa Z h0 a "com/example/stops_to_routes/stopstoroutes/planner/Break") (F_earliest_a : Fld Z h0 a "com/example/stops_to_routes/stopstoroutes/planner/Break" "earliest" "J" (.long (0 : Int64))) (F_latest_a : Fld Z h0 a "com/example/stops_to_routes/stopstoroutes/planner/Break" "latest" "J" (.long (0 : Int64))) (F_duration_a : Fld Z h0 a "com/example/stops_to_routes/stopstoroutes/planner/Break" "duration" "J" (.long (0 : Int64))) (g_a : n0 ≤ a) :
    MetFree l (⟨"com/example/stops_to_routes/stopstoroutes/planner/Break", "<init>", "(JJJ)V"⟩ : MethodName) (head1 (Jvm.Cond.code (⟨"com/example/stops_to_routes/stopstoroutes/planner/Break", "<init>", "(JJJ)V"⟩ : MethodName) prog_5_method_1_code 7 none :: ws) ({ frames := 1, cells := 0, slots := 0, locals := 12 } : Room)) (fun a_ U_ => a_ = #[(.ref a), (.long e), (.long l_), (.long d)] ∧ Z.Warmed39 U_.vm ∧ U_.heap = h0) (fun _ _ _ _ _ => True) (fun _ U_ o_ U'_ => ∃ v_ L_, o_ = .returned v_ ∧ QrmI Z a e l_ d h0 n0 v_ U'_.heap L_ ∧ FrameEnd U_ o_ U'_ L_ ({ frames := 1, cells := 0, slots := 0, locals := 12 } : Room).cells ({ frames := 1, cells := 0, slots := 0, locals := 12 } : Room).slots) := by
  refine MetFree.of_bodySF (plainFor_of_name pn_12) hisR ?_
  intro pg ee s mm args below meth cc s₁ Bd hml0 hP hK
  obtain ⟨rfl, hZ, hh⟩ := hP
  have hx := Bd.exec
  have hby := Bd.bytes
  have hml : cc.maxLocals = 7 := hml0
  have hown : s.vm.findClass "com/example/stops_to_routes/stopstoroutes/planner/Break" = some mm.cls := findClass_of_methodNamed Bd.named
  have hnm := (name_of_methodNamed Bd.named Bd.method).1
  have X0 : Stand pg l ee ({ frames := 1, cells := 0, slots := 0, locals := 12 } : Room) s mm #[(.ref a), (.long e), (.long l_), (.long d)] below meth cc s₁ [] 0 0 := Stand.of_body Bd
  have e0 : s₁.heap = h0 := by rw [← hh, Bd.state]; rfl
  have N0 := Fr.nil n0
  have K0 : Keep h0 h0 ([a] : List Addr) := Keep.refl _ _
  have pre0 : ∀ t, Steps pg.tables ee below (s₁.setTop (mkF mm 0 #[.val (.ref a), .val (.long e), .second, .val (.long l_), .second, .val (.long d), .second] [])) t → Steps pg.tables ee below (s₁.setTop (entryFrame mm #[(.ref a), (.long e), (.long l_), (.long d)] 7)) t := fun t k => castTop (ef_1_13 mm a e l_ d) k
  obtain ⟨T1, X1, e1, st1⟩ := initO X0 hx hZ hown (hw _ (List.mem_of_getElem? (i := 6) rfl)) (hw _ (List.mem_of_getElem? (i := 7) rfl)) (hw _ (List.mem_of_getElem? (i := 8) rfl)) e0 (g := (mkF mm 1 #[.val (.ref a), .val (.long e), .second, .val (.long l_), .second, .val (.long d), .second] [(.ref a)])) rfl (by rw [hml]; rfl) rfl (hb hby d1_1) (by decide) (W := 0) (by show 2 * 0 + _ ≤ _; exact Nat.le_of_eq rfl) (by decide)
  obtain ⟨T2, h2, X2, e2, W2, st2⟩ := putF X1 hx hZ hown (host := "") (Or.inl (hw _ (List.mem_of_getElem? (i := 9) rfl))) Via.refl e1 F_earliest_a E_a (Or.inr ⟨(hw _ (List.mem_of_getElem? (i := 10) rfl)), rfl, hnm⟩) (hw _ (List.mem_of_getElem? (i := 1) rfl)) (ty := .long) (by decide) rfl rfl (g := (mkF mm 6 #[.val (.ref a), .val (.long e), .second, .val (.long l_), .second, .val (.long d), .second] [(.long e), (.ref a)])) rfl rfl (hb hby d1_6)
  have Fw2 : Fld Z h2 a "com/example/stops_to_routes/stopstoroutes/planner/Break" "earliest" "J" (.long e) := F_earliest_a.same W2
  have N2 := Fr.snoc X2 N0 g_a
  have O2 := O0.wr W2 g_a
  have KK2 := K0.wr W2 (Or.inl (by simp))
  obtain ⟨T3, h3, X3, e3, W3, st3⟩ := putF X2 hx hZ hown (host := "") (Or.inl (hw _ (List.mem_of_getElem? (i := 11) rfl))) Via.refl e2 (F_latest_a.other W2 (Or.inr (slot_ne (Or.inr (hw _ (List.mem_of_getElem? (i := 12) rfl))) (Or.inr (hw _ (List.mem_of_getElem? (i := 10) rfl))) (by decide) (t := .long) (t' := .long) (by decide) (by decide)))) (E_a.wr W2) (Or.inr ⟨(hw _ (List.mem_of_getElem? (i := 12) rfl)), rfl, hnm⟩) (hw _ (List.mem_of_getElem? (i := 1) rfl)) (ty := .long) (by decide) rfl rfl (g := (mkF mm 11 #[.val (.ref a), .val (.long e), .second, .val (.long l_), .second, .val (.long d), .second] [(.long l_), (.ref a)])) rfl rfl (hb hby d1_11)
  have Fw3 : Fld Z h3 a "com/example/stops_to_routes/stopstoroutes/planner/Break" "latest" "J" (.long l_) := (F_latest_a.other W2 (Or.inr (slot_ne (Or.inr (hw _ (List.mem_of_getElem? (i := 12) rfl))) (Or.inr (hw _ (List.mem_of_getElem? (i := 10) rfl))) (by decide) (t := .long) (t' := .long) (by decide) (by decide)))).same W3
  have N3 := Fr.snoc X3 N2 g_a
  have O3 := O2.wr W3 g_a
  have KK3 := KK2.wr W3 (Or.inl (by simp))
  obtain ⟨T4, h4, X4, e4, W4, st4⟩ := putF X3 hx hZ hown (host := "") (Or.inl (hw _ (List.mem_of_getElem? (i := 13) rfl))) Via.refl e3 ((F_duration_a.other W2 (Or.inr (slot_ne (Or.inr (hw _ (List.mem_of_getElem? (i := 14) rfl))) (Or.inr (hw _ (List.mem_of_getElem? (i := 10) rfl))) (by decide) (t := .long) (t' := .long) (by decide) (by decide)))).other W3 (Or.inr (slot_ne (Or.inr (hw _ (List.mem_of_getElem? (i := 14) rfl))) (Or.inr (hw _ (List.mem_of_getElem? (i := 12) rfl))) (by decide) (t := .long) (t' := .long) (by decide) (by decide)))) ((E_a.wr W2).wr W3) (Or.inr ⟨(hw _ (List.mem_of_getElem? (i := 14) rfl)), rfl, hnm⟩) (hw _ (List.mem_of_getElem? (i := 1) rfl)) (ty := .long) (by decide) rfl rfl (g := (mkF mm 17 #[.val (.ref a), .val (.long e), .second, .val (.long l_), .second, .val (.long d), .second] [(.long d), (.ref a)])) rfl rfl (hb hby d1_17)
  have Fw4 : Fld Z h4 a "com/example/stops_to_routes/stopstoroutes/planner/Break" "duration" "J" (.long d) := ((F_duration_a.other W2 (Or.inr (slot_ne (Or.inr (hw _ (List.mem_of_getElem? (i := 14) rfl))) (Or.inr (hw _ (List.mem_of_getElem? (i := 10) rfl))) (by decide) (t := .long) (t' := .long) (by decide) (by decide)))).other W3 (Or.inr (slot_ne (Or.inr (hw _ (List.mem_of_getElem? (i := 14) rfl))) (Or.inr (hw _ (List.mem_of_getElem? (i := 12) rfl))) (by decide) (t := .long) (t' := .long) (by decide) (by decide)))).same W4
  have N4 := Fr.snoc X4 N3 g_a
  have O4 := O3.wr W4 g_a
  have KK4 := KK3.wr W4 (Or.inl (by simp))
  obtain ⟨fs, hr, hrun, hended, hW, hsame⟩ := X4.leave (v := none) (fun _ => rfl)
  refine ⟨_, _, pre0 _ ?_, hrun, hended, _, _, rfl, ?_, ⟨_, rfl⟩, hW, hsame.mono (by decide) (by decide)⟩
  · show Steps pg.tables ee below (s₁.setTop (mkF mm 0 #[.val (.ref a), .val (.long e), .second, .val (.long l_), .second, .val (.long d), .second] [])) _
    refine XS.aloadN X0.here hx rfl (hb hby d1_0) rfl rfl ?_
    show Steps pg.tables ee below (s₁.setTop (mkF mm 1 #[.val (.ref a), .val (.long e), .second, .val (.long l_), .second, .val (.long d), .second] [(.ref a)])) _
    refine st1 _ ?_
    show Steps pg.tables ee below (T1.setTop (mkF mm 4 #[.val (.ref a), .val (.long e), .second, .val (.long l_), .second, .val (.long d), .second] [])) _
    refine XS.aloadN X1.here hx rfl (hb hby d1_4) rfl rfl ?_
    show Steps pg.tables ee below (T1.setTop (mkF mm 5 #[.val (.ref a), .val (.long e), .second, .val (.long l_), .second, .val (.long d), .second] [(.ref a)])) _
    refine XS.lloadN X1.here hx rfl (hb hby d1_5) rfl ?_
    show Steps pg.tables ee below (T1.setTop (mkF mm 6 #[.val (.ref a), .val (.long e), .second, .val (.long l_), .second, .val (.long d), .second] [(.long e), (.ref a)])) _
    refine st2 _ ?_
    show Steps pg.tables ee below (T2.setTop (mkF mm 9 #[.val (.ref a), .val (.long e), .second, .val (.long l_), .second, .val (.long d), .second] [])) _
    refine XS.aloadN X2.here hx rfl (hb hby d1_9) rfl rfl ?_
    show Steps pg.tables ee below (T2.setTop (mkF mm 10 #[.val (.ref a), .val (.long e), .second, .val (.long l_), .second, .val (.long d), .second] [(.ref a)])) _
    refine XS.lloadN X2.here hx rfl (hb hby d1_10) rfl ?_
    show Steps pg.tables ee below (T2.setTop (mkF mm 11 #[.val (.ref a), .val (.long e), .second, .val (.long l_), .second, .val (.long d), .second] [(.long l_), (.ref a)])) _
    refine st3 _ ?_
    show Steps pg.tables ee below (T3.setTop (mkF mm 14 #[.val (.ref a), .val (.long e), .second, .val (.long l_), .second, .val (.long d), .second] [])) _
    refine XS.aloadN X3.here hx rfl (hb hby d1_14) rfl rfl ?_
    show Steps pg.tables ee below (T3.setTop (mkF mm 15 #[.val (.ref a), .val (.long e), .second, .val (.long l_), .second, .val (.long d), .second] [(.ref a)])) _
    refine XS.lload X3.here hx rfl (hb hby d1_15) rfl ?_
    show Steps pg.tables ee below (T3.setTop (mkF mm 17 #[.val (.ref a), .val (.long e), .second, .val (.long l_), .second, .val (.long d), .second] [(.long d), (.ref a)])) _
    refine st4 _ ?_
    show Steps pg.tables ee below (T4.setTop (mkF mm 20 #[.val (.ref a), .val (.long e), .second, .val (.long l_), .second, .val (.long d), .second] [])) _
    exact X4.returnOut hx Bd.returns (hb hby d1_20) hr
  · show QrmI Z a e l_ d h0 n0 _ T4.heap _
    rw [e4]
    exact ⟨rfl, N4, KK4, (((E_a.wr W2).wr W3).wr W4), ((Fw2.other W3 (Or.inr (slot_ne (Or.inr (hw _ (List.mem_of_getElem? (i := 10) rfl))) (Or.inr (hw _ (List.mem_of_getElem? (i := 12) rfl))) (by decide) (t := .long) (t' := .long) (by decide) (by decide)))).other W4 (Or.inr (slot_ne (Or.inr (hw _ (List.mem_of_getElem? (i := 10) rfl))) (Or.inr (hw _ (List.mem_of_getElem? (i := 14) rfl))) (by decide) (t := .long) (t' := .long) (by decide) (by decide)))), (Fw3.other W4 (Or.inr (slot_ne (Or.inr (hw _ (List.mem_of_getElem? (i := 12) rfl))) (Or.inr (hw _ (List.mem_of_getElem? (i := 14) rfl))) (by decide) (t := .long) (t' := .long) (by decide) (by decide)))), Fw4⟩
theorem d6_0 : decode jdk_18_method_1_code 0 = .ok (.aload_n 0, 1) := by decide +kernel
theorem d6_1 : decode jdk_18_method_1_code 1 = .ok (.invokespecial 1, 3) := by decide +kernel
theorem d6_4 : decode jdk_18_method_1_code 4 = .ok (.return_, 1) := by decide +kernel
theorem pn_17 : plainName "java/lang/Number" = true := by first | (simp [plainName, overriddenIn]; done) | decide +kernel
theorem ef_6_18 (m : MethodId) (x0 : Addr) : entryFrame m #[(.ref x0)] 1 = mkF m 0 #[.val (.ref x0)] [] := by first | (simp [entryFrame, mkF, argsToLocals, Value.category]; done) | rfl
def QrmNum (Z : State) (a : Addr) (h0 : Heap) (n0 : Nat) (v : Option Value) (h : Heap) (L : List Loc) : Prop := v = none ∧ Fr n0 L ∧ h = h0
set_option maxRecDepth 65536 in
set_option maxHeartbeats 40000000 in
theorem rmNum (l : Launch) (Z : State) (a0 : Array Value) (hw : ∀ d ∈ tables_1, d.before a0 Z = true) (ws : List Jvm.Cond) (a : Addr) (h0 : Heap) (n0 : Nat) (O0 : Old Z n0 h0)  :
    MetFree l (⟨"java/lang/Number", "<init>", "()V"⟩ : MethodName) (head1 (Jvm.Cond.code (⟨"java/lang/Number", "<init>", "()V"⟩ : MethodName) jdk_18_method_1_code 1 none :: ws) ({ frames := 1, cells := 0, slots := 0, locals := 12 } : Room)) (fun a_ U_ => a_ = #[(.ref a)] ∧ Z.Warmed39 U_.vm ∧ U_.heap = h0) (fun _ _ _ _ _ => True) (fun _ U_ o_ U'_ => ∃ v_ L_, o_ = .returned v_ ∧ QrmNum Z a h0 n0 v_ U'_.heap L_ ∧ FrameEnd U_ o_ U'_ L_ ({ frames := 1, cells := 0, slots := 0, locals := 12 } : Room).cells ({ frames := 1, cells := 0, slots := 0, locals := 12 } : Room).slots) := by
  refine MetFree.of_bodySF (plainFor_of_name pn_17) hisR ?_
  intro pg ee s mm args below meth cc s₁ Bd hml0 hP hK
  obtain ⟨rfl, hZ, hh⟩ := hP
  have hx := Bd.exec
  have hby := Bd.bytes
  have hml : cc.maxLocals = 1 := hml0
  have hown : s.vm.findClass "java/lang/Number" = some mm.cls := findClass_of_methodNamed Bd.named
  have hnm := (name_of_methodNamed Bd.named Bd.method).1
  have X0 : Stand pg l ee ({ frames := 1, cells := 0, slots := 0, locals := 12 } : Room) s mm #[(.ref a)] below meth cc s₁ [] 0 0 := Stand.of_body Bd
  have e0 : s₁.heap = h0 := by rw [← hh, Bd.state]; rfl
  have N0 := Fr.nil n0
  have K0 : Keep h0 h0 ([] : List Addr) := Keep.refl _ _
  have pre0 : ∀ t, Steps pg.tables ee below (s₁.setTop (mkF mm 0 #[.val (.ref a)] [])) t → Steps pg.tables ee below (s₁.setTop (entryFrame mm #[(.ref a)] 1)) t := fun t k => castTop (ef_6_18 mm a) k
  obtain ⟨T1, X1, e1, st1⟩ := initO X0 hx hZ hown (hw _ (List.mem_of_getElem? (i := 45) rfl)) (hw _ (List.mem_of_getElem? (i := 7) rfl)) (hw _ (List.mem_of_getElem? (i := 8) rfl)) e0 (g := (mkF mm 1 #[.val (.ref a)] [(.ref a)])) rfl (by rw [hml]; rfl) rfl (hb hby d6_1) (by decide) (W := 0) (by show 2 * 0 + _ ≤ _; exact Nat.le_of_eq rfl) (by decide)
  obtain ⟨fs, hr, hrun, hended, hW, hsame⟩ := X1.leave (v := none) (fun _ => rfl)
  refine ⟨_, _, pre0 _ ?_, hrun, hended, _, _, rfl, ?_, ⟨_, rfl⟩, hW, hsame.mono (by decide) (by decide)⟩
  · show Steps pg.tables ee below (s₁.setTop (mkF mm 0 #[.val (.ref a)] [])) _
    refine XS.aloadN X0.here hx rfl (hb hby d6_0) rfl rfl ?_
    show Steps pg.tables ee below (s₁.setTop (mkF mm 1 #[.val (.ref a)] [(.ref a)])) _
    refine st1 _ ?_
    show Steps pg.tables ee below (T1.setTop (mkF mm 4 #[.val (.ref a)] [])) _
    exact X1.returnOut hx Bd.returns (hb hby d6_4) hr
  · show QrmNum Z a h0 n0 _ T1.heap _
    rw [e1]
    exact ⟨rfl, N0, rfl⟩
theorem d5_0 : decode jdk_35_method_26_code 0 = .ok (.aload_n 0, 1) := by decide +kernel
theorem d5_1 : decode jdk_35_method_26_code 1 = .ok (.invokespecial 270, 3) := by decide +kernel
theorem pd_21 : parseMethodDescriptor "()V" = some ⟨[], none⟩ := by decide +kernel
theorem d5_4 : decode jdk_35_method_26_code 4 = .ok (.aload_n 0, 1) := by decide +kernel
theorem d5_5 : decode jdk_35_method_26_code 5 = .ok (.lload_n 1, 1) := by decide +kernel
theorem d5_6 : decode jdk_35_method_26_code 6 = .ok (.putfield 273, 3) := by decide +kernel
theorem d5_9 : decode jdk_35_method_26_code 9 = .ok (.return_, 1) := by decide +kernel
theorem pn_26 : plainName "java/lang/Long" = true := by first | (simp [plainName, overriddenIn]; done) | decide +kernel
theorem ef_5_27 (m : MethodId) (x0 : Addr) (x1 : Int64) : entryFrame m #[(.ref x0), (.long x1)] 3 = mkF m 0 #[.val (.ref x0), .val (.long x1), .second] [] := by first | (simp [entryFrame, mkF, argsToLocals, Value.category]; done) | rfl
def QrmLI (Z : State) (a : Addr) (q : Int64) (h0 : Heap) (n0 : Nat) (v : Option Value) (h : Heap) (L : List Loc) : Prop := v = none ∧ Fr n0 L ∧ Keep h0 h [a] ∧ Exa Z h a "java/lang/Long" ∧ Fld Z h a "java/lang/Long" "value" "J" (.long q)
set_option maxRecDepth 65536 in
set_option maxHeartbeats 40000000 in
theorem rmLI (l : Launch) (Z : State) (a0 : Array Value) (hw : ∀ d ∈ tables_1, d.before a0 Z = true) (ws : List Jvm.Cond) (a : Addr) (q : Int64) (h0 : Heap) (n0 : Nat) (O0 : Old Z n0 h0) (E_a : Exa Z h0 a "java/lang/Long") (F_value_a : Fld Z h0 a "java/lang/Long" "value" "J" (.long (0 : Int64))) (g_a : n0 ≤ a) :
    MetFree l (⟨"java/lang/Long", "<init>", "(J)V"⟩ : MethodName) (head1 (Jvm.Cond.code (⟨"java/lang/Long", "<init>", "(J)V"⟩ : MethodName) jdk_35_method_26_code 3 none :: ws) ({ frames := 2, cells := 0, slots := 0, locals := 24 } : Room)) (fun a_ U_ => a_ = #[(.ref a), (.long q)] ∧ Z.Warmed39 U_.vm ∧ U_.heap = h0) (fun _ _ _ _ _ => True) (fun _ U_ o_ U'_ => ∃ v_ L_, o_ = .returned v_ ∧ QrmLI Z a q h0 n0 v_ U'_.heap L_ ∧ FrameEnd U_ o_ U'_ L_ ({ frames := 2, cells := 0, slots := 0, locals := 24 } : Room).cells ({ frames := 2, cells := 0, slots := 0, locals := 24 } : Room).slots) := by
  refine MetFree.of_bodySF (plainFor_of_name pn_26) hisR ?_
  intro pg ee s mm args below meth cc s₁ Bd hml0 hP hK
  obtain ⟨rfl, hZ, hh⟩ := hP
  have hx := Bd.exec
  have hby := Bd.bytes
  have hml : cc.maxLocals = 3 := hml0
  have hown : s.vm.findClass "java/lang/Long" = some mm.cls := findClass_of_methodNamed Bd.named
  have hnm := (name_of_methodNamed Bd.named Bd.method).1
  have X0 : Stand pg l ee ({ frames := 2, cells := 0, slots := 0, locals := 24 } : Room) s mm #[(.ref a), (.long q)] below meth cc s₁ [] 0 0 := Stand.of_body Bd
  have e0 : s₁.heap = h0 := by rw [← hh, Bd.state]; rfl
  have N0 := Fr.nil n0
  have K0 : Keep h0 h0 ([a] : List Addr) := Keep.refl _ _
  have pre0 : ∀ t, Steps pg.tables ee below (s₁.setTop (mkF mm 0 #[.val (.ref a), .val (.long q), .second] [])) t → Steps pg.tables ee below (s₁.setTop (entryFrame mm #[(.ref a), (.long q)] 3)) t := fun t k => castTop (ef_5_27 mm a q) k
  obtain ⟨_, _, ⟨T1, L1, k1, n1⟩, -, X1, ⟨Lc1, hQ1, l1, y1, z1⟩, st1⟩ := X0.specialBack hx (y := (⟨"java/lang/Number", "<init>", "()V"⟩ : MethodName)) rfl hown (mvT hZ (hw _ (List.mem_of_getElem? (i := 39) rfl))) (mvT hZ (hw _ (List.mem_of_getElem? (i := 40) rfl))) (mvT hZ (hw _ (List.mem_of_getElem? (i := 44) rfl))) (by decide) (backOf (W := 0) (rmNum l Z a0 hw [] a h0 n0 O0) hZ (hw _ (List.mem_of_getElem? (i := 44) rfl)) (hw _ (List.mem_of_getElem? (i := 43) rfl)) (by decide) (by decide)) (g := (mkF mm 1 #[.val (.ref a), .val (.long q), .second] [(.ref a)])) rfl (by rw [hml]; rfl) (Steps.refl _) (a := a) (argsL := []) (rest := []) (lenOf pd_21 rfl) rfl (by show 2 * 0 + _ ≤ _; exact Nat.le_of_eq rfl) (hb hby d5_1) (fun _ _ => ⟨rfl, e0, (by decide : 0 + 0 ≤ _), (by decide : 0 + 0 ≤ _)⟩)
  dsimp only [Pt.U, Pt.locs, Pt.cells, Pt.slots] at X1 l1 y1 z1 st1 hQ1
  subst l1 y1 z1
  obtain ⟨rfl, N1q, e1⟩ := hQ1
  have N1 := Fr.app N0 N1q
  obtain ⟨T2, h2, X2, e2, W2, st2⟩ := putF X1 hx hZ hown (host := "") (Or.inl (hw _ (List.mem_of_getElem? (i := 46) rfl))) Via.refl e1 F_value_a E_a (Or.inr ⟨(hw _ (List.mem_of_getElem? (i := 47) rfl)), rfl, hnm⟩) (hw _ (List.mem_of_getElem? (i := 34) rfl)) (ty := .long) (by decide) rfl rfl (g := (mkF mm 6 #[.val (.ref a), .val (.long q), .second] [(.long q), (.ref a)])) rfl rfl (hb hby d5_6)
  have Fw2 : Fld Z h2 a "java/lang/Long" "value" "J" (.long q) := F_value_a.same W2
  have N2 := Fr.snoc X2 N1 g_a
  have O2 := O0.wr W2 g_a
  have KK2 := K0.wr W2 (Or.inl (by simp))
  obtain ⟨fs, hr, hrun, hended, hW, hsame⟩ := X2.leave (v := none) (fun _ => rfl)
  refine ⟨_, _, pre0 _ ?_, hrun, hended, _, _, rfl, ?_, ⟨_, rfl⟩, hW, hsame.mono (by decide) (by decide)⟩
  · show Steps pg.tables ee below (s₁.setTop (mkF mm 0 #[.val (.ref a), .val (.long q), .second] [])) _
    refine XS.aloadN X0.here hx rfl (hb hby d5_0) rfl rfl ?_
    show Steps pg.tables ee below (s₁.setTop (mkF mm 1 #[.val (.ref a), .val (.long q), .second] [(.ref a)])) _
    refine st1.trans ?_
    show Steps pg.tables ee below (T1.setTop (mkF mm 4 #[.val (.ref a), .val (.long q), .second] [])) _
    refine XS.aloadN X1.here hx rfl (hb hby d5_4) rfl rfl ?_
    show Steps pg.tables ee below (T1.setTop (mkF mm 5 #[.val (.ref a), .val (.long q), .second] [(.ref a)])) _
    refine XS.lloadN X1.here hx rfl (hb hby d5_5) rfl ?_
    show Steps pg.tables ee below (T1.setTop (mkF mm 6 #[.val (.ref a), .val (.long q), .second] [(.long q), (.ref a)])) _
    refine st2 _ ?_
    show Steps pg.tables ee below (T2.setTop (mkF mm 9 #[.val (.ref a), .val (.long q), .second] [])) _
    exact X2.returnOut hx Bd.returns (hb hby d5_9) hr
  · show QrmLI Z a q h0 n0 _ T2.heap _
    rw [e2]
    exact ⟨rfl, N2, KK2, (E_a.wr W2), Fw2⟩
theorem d3_0 : decode jdk_35_method_24_code 0 = .ok (.sipush 128, 3) := by decide +kernel
theorem d3_3 : decode jdk_35_method_24_code 3 = .ok (.istore_n 2, 1) := by decide +kernel
theorem d3_4 : decode jdk_35_method_24_code 4 = .ok (.lload_n 0, 1) := by decide +kernel
theorem d3_5 : decode jdk_35_method_24_code 5 = .ok (.ldc2_w 230, 3) := by decide +kernel
theorem d3_8 : decode jdk_35_method_24_code 8 = .ok (.lcmp, 1) := by decide +kernel
theorem d3_9 : decode jdk_35_method_24_code 9 = .ok (.ifCond .lt 22, 3) := by decide +kernel
theorem d3_31 : decode jdk_35_method_24_code 31 = .ok (.new 1, 3) := by decide +kernel
theorem d3_34 : decode jdk_35_method_24_code 34 = .ok (.dup, 1) := by decide +kernel
theorem d3_35 : decode jdk_35_method_24_code 35 = .ok (.lload_n 0, 1) := by decide +kernel
theorem d3_36 : decode jdk_35_method_24_code 36 = .ok (.invokespecial 240, 3) := by decide +kernel
theorem pd_38 : parseMethodDescriptor "(J)V" = some ⟨[.long], none⟩ := by decide +kernel
theorem d3_39 : decode jdk_35_method_24_code 39 = .ok (.areturn, 1) := by decide +kernel
theorem d3_12 : decode jdk_35_method_24_code 12 = .ok (.lload_n 0, 1) := by decide +kernel
theorem d3_13 : decode jdk_35_method_24_code 13 = .ok (.ldc2_w 232, 3) := by decide +kernel
theorem d3_16 : decode jdk_35_method_24_code 16 = .ok (.lcmp, 1) := by decide +kernel
theorem d3_17 : decode jdk_35_method_24_code 17 = .ok (.ifCond .gt 14, 3) := by decide +kernel
theorem d3_20 : decode jdk_35_method_24_code 20 = .ok (.getstatic 234, 3) := by decide +kernel
theorem d3_23 : decode jdk_35_method_24_code 23 = .ok (.lload_n 0, 1) := by decide +kernel
theorem d3_24 : decode jdk_35_method_24_code 24 = .ok (.l2i, 1) := by decide +kernel
theorem d3_25 : decode jdk_35_method_24_code 25 = .ok (.sipush 128, 3) := by decide +kernel
theorem d3_28 : decode jdk_35_method_24_code 28 = .ok (.iadd, 1) := by decide +kernel
theorem d3_29 : decode jdk_35_method_24_code 29 = .ok (.aaload, 1) := by decide +kernel
theorem d3_30 : decode jdk_35_method_24_code 30 = .ok (.areturn, 1) := by decide +kernel
theorem ef_3_51 (m : MethodId) (x0 : Int64) : entryFrame m #[(.long x0)] 3 = mkF m 0 #[.val (.long x0), .second, .unset] [] := by first | (simp [entryFrame, mkF, argsToLocals, Value.category]; done) | rfl
def QrmVo (Z : State) (q : Int64) (ca : Addr) (cl : Cell) (val : Int32 → Value) (h0 : Heap) (n0 : Nat) (v : Option Value) (h : Heap) (L : List Loc) : Prop := ∃ b : Addr, v = some (.ref b) ∧ Fr n0 L ∧ Keep h0 h [] ∧ Exa Z h b "java/lang/Long"
set_option maxRecDepth 65536 in
set_option maxHeartbeats 40000000 in
theorem rmVo (l : Launch) (Z : State) (a0 : Array Value) (hw : ∀ d ∈ tables_1, d.before a0 Z = true) (ws : List Jvm.Cond) (q : Int64) (ca : Addr) (cl : Cell) (val : Int32 → Value) (h0 : Heap) (n0 : Nat) (O0 : Old Z n0 h0) (S_cache : Sta Z Z.heap "java/lang/Long$LongCache" "cache" "[Ljava/lang/Long;" (.ref ca)) (BX : Bxs Z ca cl "java/lang/Long" "J" (256 : Int32) val) :
    MetFree l (⟨"java/lang/Long", "valueOf", "(J)Ljava/lang/Long;"⟩ : MethodName) (head1 (Jvm.Cond.code (⟨"java/lang/Long", "valueOf", "(J)Ljava/lang/Long;"⟩ : MethodName) jdk_35_method_24_code 3 (some (.object "java/lang/Long")) :: ws) ({ frames := 3, cells := 1, slots := 1, locals := 39 } : Room)) (fun a_ U_ => a_ = #[(.long q)] ∧ Z.Warmed39 U_.vm ∧ U_.heap = h0) (fun _ _ _ _ _ => True) (fun _ U_ o_ U'_ => ∃ v_ L_, o_ = .returned v_ ∧ QrmVo Z q ca cl val h0 n0 v_ U'_.heap L_ ∧ FrameEnd U_ o_ U'_ L_ ({ frames := 3, cells := 1, slots := 1, locals := 39 } : Room).cells ({ frames := 3, cells := 1, slots := 1, locals := 39 } : Room).slots) := by
  refine MetFree.of_bodySF (plainFor_of_name pn_26) hisR ?_
  intro pg ee s mm args below meth cc s₁ Bd hml0 hP hK
  obtain ⟨rfl, hZ, hh⟩ := hP
  have hx := Bd.exec
  have hby := Bd.bytes
  have hml : cc.maxLocals = 3 := hml0
  have hown : s.vm.findClass "java/lang/Long" = some mm.cls := findClass_of_methodNamed Bd.named
  have hnm := (name_of_methodNamed Bd.named Bd.method).1
  have X0 : Stand pg l ee ({ frames := 3, cells := 1, slots := 1, locals := 39 } : Room) s mm #[(.long q)] below meth cc s₁ [] 0 0 := Stand.of_body Bd
  have e0 : s₁.heap = h0 := by rw [← hh, Bd.state]; rfl
  have N0 := Fr.nil n0
  have K0 : Keep h0 h0 ([] : List Addr) := Keep.refl _ _
  have pre0 : ∀ t, Steps pg.tables ee below (s₁.setTop (mkF mm 0 #[.val (.long q), .second, .unset] [])) t → Steps pg.tables ee below (s₁.setTop (entryFrame mm #[(.long q)] 3)) t := fun t k => castTop (ef_3_51 mm q) k
  have pre1 : ∀ t, Steps pg.tables ee below (s₁.setTop (mkF mm 9 #[.val (.long q), .second, .val (.int (128 : Int32))] [(.int (lcmpW q (-128 : Int64)))])) t → Steps pg.tables ee below (s₁.setTop (entryFrame mm #[(.long q)] 3)) t := fun t k => pre0 t (by
      show Steps pg.tables ee below (s₁.setTop (mkF mm 0 #[.val (.long q), .second, .unset] [])) _
      refine XS.sipush X0.here hx rfl (hb hby d3_0) ?_
      show Steps pg.tables ee below (s₁.setTop (mkF mm 3 #[.val (.long q), .second, .unset] [(.int (128 : Int32))])) _
      refine XS.istoreN X0.here hx rfl (hb hby d3_3) rfl (l' := #[.val (.long q), .second, .val (.int (128 : Int32))]) rfl ?_
      show Steps pg.tables ee below (s₁.setTop (mkF mm 4 #[.val (.long q), .second, .val (.int (128 : Int32))] [])) _
      refine XS.lloadN X0.here hx rfl (hb hby d3_4) rfl ?_
      show Steps pg.tables ee below (s₁.setTop (mkF mm 5 #[.val (.long q), .second, .val (.int (128 : Int32))] [(.long q)])) _
      refine X0.ldc2Long hx hown (mvT hZ (hw _ (List.mem_of_getElem? (i := 19) rfl))) (g := (mkF mm 5 #[.val (.long q), .second, .val (.int (128 : Int32))] [(.long q)])) rfl (hb hby d3_5) _ ?_
      show Steps pg.tables ee below (s₁.setTop (mkF mm 8 #[.val (.long q), .second, .val (.int (128 : Int32))] [(.long (-128 : Int64)), (.long q)])) _
      refine XS.lcmp X0.here hx rfl (hb hby d3_8) rfl ?_
      exact k)
  by_cases hc2 : (lcmpW q (-128 : Int64)) < (0 : Int32)
  · obtain ⟨T3, h3, X3, e3, E3, A3, D3, -, st3⟩ := newO X0 hx hZ hown (hw _ (List.mem_of_getElem? (i := 33) rfl)) (hw _ (List.mem_of_getElem? (i := 34) rfl)) (hw _ (List.mem_of_getElem? (i := 17) rfl)) e0 (g := (mkF mm 31 #[.val (.long q), .second, .val (.int (128 : Int32))] [])) rfl (hb hby d3_31) (by decide) (by decide)
    obtain ⟨b3, g3⟩ : ∃ z, z = h0.size := ⟨_, rfl⟩
    rw [← g3] at A3 D3 st3
    have g_b3 : n0 ≤ b3 := Nat.le_trans (O0.1 ▸ O0.2.1) (Nat.le_of_eq g3.symm)
    have sz_b3 : h0.size ≤ b3 := Nat.le_trans K0.1 (Nat.le_of_eq g3.symm)
    have O3 := O0.ext E3
    have KK3 := K0.ext E3
    have F_value_b3 : Fld Z h3 b3 "java/lang/Long" "value" "J" (.long (0 : Int64)) := D3 (Or.inr (hw _ (List.mem_of_getElem? (i := 47) rfl))) (ty := .long) (by decide)
    obtain ⟨_, _, ⟨T4, L4, k4, n4⟩, -, X4, ⟨Lc4, hQ4, l4, y4, z4⟩, st4⟩ := X3.specialBack hx (y := (⟨"java/lang/Long", "<init>", "(J)V"⟩ : MethodName)) rfl hown (mvT hZ (hw _ (List.mem_of_getElem? (i := 35) rfl))) (mvT hZ (hw _ (List.mem_of_getElem? (i := 36) rfl))) (mvT hZ (hw _ (List.mem_of_getElem? (i := 38) rfl))) (by decide) (backOf (W := 1) (rmLI l Z a0 hw [] b3 q h3 n0 O3 A3 F_value_b3 g_b3 ) hZ (hw _ (List.mem_of_getElem? (i := 38) rfl)) (hw _ (List.mem_of_getElem? (i := 17) rfl)) (by decide) (by decide)) (g := (mkF mm 36 #[.val (.long q), .second, .val (.int (128 : Int32))] [(.long q), (.ref b3), (.ref b3)])) rfl (by rw [hml]; rfl) (Steps.refl _) (a := b3) (argsL := [(.long q)]) (rest := [(.ref b3)]) (lenOf pd_38 rfl) rfl (by show 2 * 0 + _ ≤ _; exact Nat.le_of_eq rfl) (hb hby d3_36) (fun _ _ => ⟨rfl, e3, (by decide : 1 + 0 ≤ _), (by decide : 1 + 0 ≤ _)⟩)
    dsimp only [Pt.U, Pt.locs, Pt.cells, Pt.slots] at X4 l4 y4 z4 st4 hQ4
    subst l4 y4 z4
    obtain ⟨rfl, N4q, K4, Ex4, Fv0_4⟩ := hQ4
    have O4 := O3.keep K4 (allS g_b3 all0)
    have KK4 := KK3.trans K4 (allS (Or.inr sz_b3) all0)
    have N4 := Fr.app N0 N4q
    obtain ⟨fs, hr, hrun, hended, hW, hsame⟩ := X4.leave (v := some (.ref b3)) (fun h => by rw [Bd.returns] at h; cases h)
    refine ⟨_, _, pre1 _ ?_, hrun, hended, _, _, rfl, ?_, ⟨_, rfl⟩, hW, hsame.mono (by decide) (by decide)⟩
    · show Steps pg.tables ee below (s₁.setTop (mkF mm 9 #[.val (.long q), .second, .val (.int (128 : Int32))] [(.int (lcmpW q (-128 : Int64)))])) _
      refine XS.ifYes X0.here hx rfl (pc0 := 9) (pc' := 31) rfl (hb hby d3_9) rfl ((if0 _ _).trans (tlt hc2).1) (by decide) (by decide) ?_
      show Steps pg.tables ee below (s₁.setTop (mkF mm 31 #[.val (.long q), .second, .val (.int (128 : Int32))] [])) _
      refine st3 _ ?_
      show Steps pg.tables ee below (T3.setTop (mkF mm 34 #[.val (.long q), .second, .val (.int (128 : Int32))] [(.ref b3)])) _
      refine XS.dup X3.here hx rfl (hb hby d3_34) rfl rfl ?_
      show Steps pg.tables ee below (T3.setTop (mkF mm 35 #[.val (.long q), .second, .val (.int (128 : Int32))] [(.ref b3), (.ref b3)])) _
      refine XS.lloadN X3.here hx rfl (hb hby d3_35) rfl ?_
      show Steps pg.tables ee below (T3.setTop (mkF mm 36 #[.val (.long q), .second, .val (.int (128 : Int32))] [(.long q), (.ref b3), (.ref b3)])) _
      refine st4.trans ?_
      show Steps pg.tables ee below (T4.setTop (mkF mm 39 #[.val (.long q), .second, .val (.int (128 : Int32))] [(.ref b3)])) _
      exact retOut X4 hx Bd.returns rfl (Or.inr (Or.inr (Or.inr (Or.inr ⟨rfl, rfl, rfl⟩)))) (hb hby d3_39) hr
    · show QrmVo Z q ca cl val h0 n0 _ T4.heap _
      exact ⟨_, rfl, N4, KK4, Ex4⟩
  · have pre5 : ∀ t, Steps pg.tables ee below (s₁.setTop (mkF mm 17 #[.val (.long q), .second, .val (.int (128 : Int32))] [(.int (lcmpW q (127 : Int64)))])) t → Steps pg.tables ee below (s₁.setTop (entryFrame mm #[(.long q)] 3)) t := fun t k => pre1 t (by
        show Steps pg.tables ee below (s₁.setTop (mkF mm 9 #[.val (.long q), .second, .val (.int (128 : Int32))] [(.int (lcmpW q (-128 : Int64)))])) _
        refine XS.ifNo X0.here hx rfl (hb hby d3_9) rfl ((if0 _ _).trans (flt hc2).1) ?_
        show Steps pg.tables ee below (s₁.setTop (mkF mm 12 #[.val (.long q), .second, .val (.int (128 : Int32))] [])) _
        refine XS.lloadN X0.here hx rfl (hb hby d3_12) rfl ?_
        show Steps pg.tables ee below (s₁.setTop (mkF mm 13 #[.val (.long q), .second, .val (.int (128 : Int32))] [(.long q)])) _
        refine X0.ldc2Long hx hown (mvT hZ (hw _ (List.mem_of_getElem? (i := 20) rfl))) (g := (mkF mm 13 #[.val (.long q), .second, .val (.int (128 : Int32))] [(.long q)])) rfl (hb hby d3_13) _ ?_
        show Steps pg.tables ee below (s₁.setTop (mkF mm 16 #[.val (.long q), .second, .val (.int (128 : Int32))] [(.long (127 : Int64)), (.long q)])) _
        refine XS.lcmp X0.here hx rfl (hb hby d3_16) rfl ?_
        exact k)
    by_cases hc6 : (0 : Int32) < (lcmpW q (127 : Int64))
    · obtain ⟨T7, h7, X7, e7, E7, A7, D7, -, st7⟩ := newO X0 hx hZ hown (hw _ (List.mem_of_getElem? (i := 33) rfl)) (hw _ (List.mem_of_getElem? (i := 34) rfl)) (hw _ (List.mem_of_getElem? (i := 17) rfl)) e0 (g := (mkF mm 31 #[.val (.long q), .second, .val (.int (128 : Int32))] [])) rfl (hb hby d3_31) (by decide) (by decide)
      obtain ⟨b7, g7⟩ : ∃ z, z = h0.size := ⟨_, rfl⟩
      rw [← g7] at A7 D7 st7
      have g_b7 : n0 ≤ b7 := Nat.le_trans (O0.1 ▸ O0.2.1) (Nat.le_of_eq g7.symm)
      have sz_b7 : h0.size ≤ b7 := Nat.le_trans K0.1 (Nat.le_of_eq g7.symm)
      have O7 := O0.ext E7
      have KK7 := K0.ext E7
      have F_value_b7 : Fld Z h7 b7 "java/lang/Long" "value" "J" (.long (0 : Int64)) := D7 (Or.inr (hw _ (List.mem_of_getElem? (i := 47) rfl))) (ty := .long) (by decide)
      obtain ⟨_, _, ⟨T8, L8, k8, n8⟩, -, X8, ⟨Lc8, hQ8, l8, y8, z8⟩, st8⟩ := X7.specialBack hx (y := (⟨"java/lang/Long", "<init>", "(J)V"⟩ : MethodName)) rfl hown (mvT hZ (hw _ (List.mem_of_getElem? (i := 35) rfl))) (mvT hZ (hw _ (List.mem_of_getElem? (i := 36) rfl))) (mvT hZ (hw _ (List.mem_of_getElem? (i := 38) rfl))) (by decide) (backOf (W := 1) (rmLI l Z a0 hw [] b7 q h7 n0 O7 A7 F_value_b7 g_b7 ) hZ (hw _ (List.mem_of_getElem? (i := 38) rfl)) (hw _ (List.mem_of_getElem? (i := 17) rfl)) (by decide) (by decide)) (g := (mkF mm 36 #[.val (.long q), .second, .val (.int (128 : Int32))] [(.long q), (.ref b7), (.ref b7)])) rfl (by rw [hml]; rfl) (Steps.refl _) (a := b7) (argsL := [(.long q)]) (rest := [(.ref b7)]) (lenOf pd_38 rfl) rfl (by show 2 * 0 + _ ≤ _; exact Nat.le_of_eq rfl) (hb hby d3_36) (fun _ _ => ⟨rfl, e7, (by decide : 1 + 0 ≤ _), (by decide : 1 + 0 ≤ _)⟩)
      dsimp only [Pt.U, Pt.locs, Pt.cells, Pt.slots] at X8 l8 y8 z8 st8 hQ8
      subst l8 y8 z8
      obtain ⟨rfl, N8q, K8, Ex8, Fv0_8⟩ := hQ8
      have O8 := O7.keep K8 (allS g_b7 all0)
      have KK8 := KK7.trans K8 (allS (Or.inr sz_b7) all0)
      have N8 := Fr.app N0 N8q
      obtain ⟨fs, hr, hrun, hended, hW, hsame⟩ := X8.leave (v := some (.ref b7)) (fun h => by rw [Bd.returns] at h; cases h)
      refine ⟨_, _, pre5 _ ?_, hrun, hended, _, _, rfl, ?_, ⟨_, rfl⟩, hW, hsame.mono (by decide) (by decide)⟩
      · show Steps pg.tables ee below (s₁.setTop (mkF mm 17 #[.val (.long q), .second, .val (.int (128 : Int32))] [(.int (lcmpW q (127 : Int64)))])) _
        refine XS.ifYes X0.here hx rfl (pc0 := 17) (pc' := 31) rfl (hb hby d3_17) rfl ((if0 _ _).trans (tlt hc6).2.2.1) (by decide) (by decide) ?_
        show Steps pg.tables ee below (s₁.setTop (mkF mm 31 #[.val (.long q), .second, .val (.int (128 : Int32))] [])) _
        refine st7 _ ?_
        show Steps pg.tables ee below (T7.setTop (mkF mm 34 #[.val (.long q), .second, .val (.int (128 : Int32))] [(.ref b7)])) _
        refine XS.dup X7.here hx rfl (hb hby d3_34) rfl rfl ?_
        show Steps pg.tables ee below (T7.setTop (mkF mm 35 #[.val (.long q), .second, .val (.int (128 : Int32))] [(.ref b7), (.ref b7)])) _
        refine XS.lloadN X7.here hx rfl (hb hby d3_35) rfl ?_
        show Steps pg.tables ee below (T7.setTop (mkF mm 36 #[.val (.long q), .second, .val (.int (128 : Int32))] [(.long q), (.ref b7), (.ref b7)])) _
        refine st8.trans ?_
        show Steps pg.tables ee below (T8.setTop (mkF mm 39 #[.val (.long q), .second, .val (.int (128 : Int32))] [(.ref b7)])) _
        exact retOut X8 hx Bd.returns rfl (Or.inr (Or.inr (Or.inr (Or.inr ⟨rfl, rfl, rfl⟩)))) (hb hby d3_39) hr
      · show QrmVo Z q ca cl val h0 n0 _ T8.heap _
        exact ⟨_, rfl, N8, KK8, Ex8⟩
    · obtain ⟨T9, X9, e9, st9⟩ := getS2 X0 hx hZ hown (host := "") (Or.inl (hw _ (List.mem_of_getElem? (i := 21) rfl))) Via.refl e0 (S_cache.ext O0.2) (g := (mkF mm 20 #[.val (.long q), .second, .val (.int (128 : Int32))] [])) rfl (hb hby d3_20)
      have hin : ¬ (((q.toInt32) + (128 : Int32)) < 0 ∨ cl.slots.size ≤ (((q.toInt32) + (128 : Int32))).toNatClampNeg) := inb_of BX.2.1 (own_ix hc2 hc6)
      obtain ⟨bx, hat, Ebx, -⟩ := BX.2.2.2 _ hin
      have Ar := BX.1.ext O0.2
      obtain ⟨fs, hr, hrun, hended, hW, hsame⟩ := X9.leave (v := some (.ref bx)) (fun h => by rw [Bd.returns] at h; cases h)
      refine ⟨_, _, pre5 _ ?_, hrun, hended, _, _, rfl, ?_, ⟨_, rfl⟩, hW, hsame.mono (by decide) (by decide)⟩
      · show Steps pg.tables ee below (s₁.setTop (mkF mm 17 #[.val (.long q), .second, .val (.int (128 : Int32))] [(.int (lcmpW q (127 : Int64)))])) _
        refine XS.ifNo X0.here hx rfl (hb hby d3_17) rfl ((if0 _ _).trans (flt hc6).2.2.1) ?_
        show Steps pg.tables ee below (s₁.setTop (mkF mm 20 #[.val (.long q), .second, .val (.int (128 : Int32))] [])) _
        refine st9 _ ?_
        show Steps pg.tables ee below (T9.setTop (mkF mm 23 #[.val (.long q), .second, .val (.int (128 : Int32))] [(.ref ca)])) _
        refine XS.lloadN X9.here hx rfl (hb hby d3_23) rfl ?_
        show Steps pg.tables ee below (T9.setTop (mkF mm 24 #[.val (.long q), .second, .val (.int (128 : Int32))] [(.long q), (.ref ca)])) _
        refine XS.l2i X9.here hx rfl (hb hby d3_24) rfl ?_
        show Steps pg.tables ee below (T9.setTop (mkF mm 25 #[.val (.long q), .second, .val (.int (128 : Int32))] [(.int (q.toInt32)), (.ref ca)])) _
        refine XS.sipush X9.here hx rfl (hb hby d3_25) ?_
        show Steps pg.tables ee below (T9.setTop (mkF mm 28 #[.val (.long q), .second, .val (.int (128 : Int32))] [(.int (128 : Int32)), (.int (q.toInt32)), (.ref ca)])) _
        refine XS.iadd X9.here hx rfl (hb hby d3_28) rfl ?_
        show Steps pg.tables ee below (T9.setTop (mkF mm 29 #[.val (.long q), .second, .val (.int (128 : Int32))] [(.int ((q.toInt32) + (128 : Int32))), (.ref ca)])) _
        refine X9.aaload hx (j := ((q.toInt32) + (128 : Int32))) (v := (.ref bx)) (by rw [e9]; exact Ar.1) (State.isArrayOf_alike hZ.alike Ar.2.1) rfl Ar.2.2 hin hat (g := (mkF mm 29 #[.val (.long q), .second, .val (.int (128 : Int32))] [(.int ((q.toInt32) + (128 : Int32))), (.ref ca)])) rfl rfl (hb hby d3_29) _ ?_
        show Steps pg.tables ee below (T9.setTop (mkF mm 30 #[.val (.long q), .second, .val (.int (128 : Int32))] [(.ref bx)])) _
        exact retOut X9 hx Bd.returns rfl (Or.inr (Or.inr (Or.inr (Or.inr ⟨rfl, rfl, rfl⟩)))) (hb hby d3_30) hr
      · show QrmVo Z q ca cl val h0 n0 _ T9.heap _
        rw [e9]
        exact ⟨_, rfl, N0, K0, (Ebx.ext O0.2)⟩
theorem d4_0 : decode prog_5_method_5_code 0 = .ok (.aload_n 1, 1) := by decide +kernel
theorem d4_1 : decode prog_5_method_5_code 1 = .ok (.instanceof 8, 3) := by decide +kernel
theorem d4_4 : decode prog_5_method_5_code 4 = .ok (.ifCond .ne 5, 3) := by decide +kernel
theorem d4_9 : decode prog_5_method_5_code 9 = .ok (.aload_n 1, 1) := by decide +kernel
theorem d4_10 : decode prog_5_method_5_code 10 = .ok (.checkcast 8, 3) := by decide +kernel
theorem d4_13 : decode prog_5_method_5_code 13 = .ok (.astore_n 2, 1) := by decide +kernel
theorem d4_14 : decode prog_5_method_5_code 14 = .ok (.aload_n 0, 1) := by decide +kernel
theorem d4_15 : decode prog_5_method_5_code 15 = .ok (.getfield 7, 3) := by decide +kernel
theorem d4_18 : decode prog_5_method_5_code 18 = .ok (.aload_n 2, 1) := by decide +kernel
theorem d4_19 : decode prog_5_method_5_code 19 = .ok (.getfield 7, 3) := by decide +kernel
theorem d4_22 : decode prog_5_method_5_code 22 = .ok (.lcmp, 1) := by decide +kernel
theorem d4_23 : decode prog_5_method_5_code 23 = .ok (.ifCond .ne 31, 3) := by decide +kernel
theorem d4_54 : decode prog_5_method_5_code 54 = .ok (.iconst 0, 1) := by decide +kernel
theorem d4_55 : decode prog_5_method_5_code 55 = .ok (.ireturn, 1) := by decide +kernel
theorem ef_4_66 (m : MethodId) (x0 : Addr) (x1 : Addr) : entryFrame m #[(.ref x0), (.ref x1)] 3 = mkF m 0 #[.val (.ref x0), .val (.ref x1), .unset] [] := by first | (simp [entryFrame, mkF, argsToLocals, Value.category]; done) | rfl
def QrmQ0 (Z : State) (a : Addr) (b : Addr) (e : Int64) (l_ : Int64) (d : Int64) (e' : Int64) (l' : Int64) (d' : Int64) (h0 : Heap) (n0 : Nat) (v : Option Value) (h : Heap) (L : List Loc) : Prop := v = some (.int (0 : Int32)) ∧ Fr n0 L ∧ h = h0
set_option maxRecDepth 65536 in
set_option maxHeartbeats 40000000 in
theorem rmQ0 (l : Launch) (Z : State) (a0 : Array Value) (hw : ∀ d ∈ tables_1, d.before a0 Z = true) (ws : List Jvm.Cond) (a : Addr) (b : Addr) (e : Int64) (l_ : Int64) (d : Int64) (e' : Int64) (l' : Int64) (d' : Int64) (h0 : Heap) (n0 : Nat) (O0 : Old Z n0 h0) (F0 : Fld Z h0 a "com/example/stops_to_routes/stopstoroutes/planner/Break" "earliest" "J" (.long e)) (F1 : Fld Z h0 a "com/example/stops_to_routes/stopstoroutes/planner/Break" "latest" "J" (.long l_)) (F2 : Fld Z h0 a "com/example/stops_to_routes/stopstoroutes/planner/Break" "duration" "J" (.long d)) (G0 : Fld Z h0 b "com/example/stops_to_routes/stopstoroutes/planner/Break" "earliest" "J" (.long e')) (G1 : Fld Z h0 b "com/example/stops_to_routes/stopstoroutes/planner/Break" "latest" "J" (.long l')) (G2 : Fld Z h0 b "com/example/stops_to_routes/stopstoroutes/planner/Break" "duration" "J" (.long d')) (Eb : Exa Z h0 b "com/example/stops_to_routes/stopstoroutes/planner/Break") (c0 : ¬ ((lcmpW e e') = (0 : Int32))) :
    MetFree l (⟨"com/example/stops_to_routes/stopstoroutes/planner/Break", "equals", "(Ljava/lang/Object;)Z"⟩ : MethodName) (head1 (Jvm.Cond.code (⟨"com/example/stops_to_routes/stopstoroutes/planner/Break", "equals", "(Ljava/lang/Object;)Z"⟩ : MethodName) prog_5_method_5_code 3 (some .boolean) :: ws) ({ frames := 0, cells := 0, slots := 0, locals := 0 } : Room)) (fun a_ U_ => a_ = #[(.ref a), (.ref b)] ∧ Z.Warmed39 U_.vm ∧ U_.heap = h0) (fun _ _ _ _ _ => True) (fun _ U_ o_ U'_ => ∃ v_ L_, o_ = .returned v_ ∧ QrmQ0 Z a b e l_ d e' l' d' h0 n0 v_ U'_.heap L_ ∧ FrameEnd U_ o_ U'_ L_ ({ frames := 0, cells := 0, slots := 0, locals := 0 } : Room).cells ({ frames := 0, cells := 0, slots := 0, locals := 0 } : Room).slots) := by
  refine MetFree.of_bodySF (plainFor_of_name pn_12) hisR ?_
  intro pg ee s mm args below meth cc s₁ Bd hml0 hP hK
  obtain ⟨rfl, hZ, hh⟩ := hP
  have hx := Bd.exec
  have hby := Bd.bytes
  have hml : cc.maxLocals = 3 := hml0
  have hown : s.vm.findClass "com/example/stops_to_routes/stopstoroutes/planner/Break" = some mm.cls := findClass_of_methodNamed Bd.named
  have hnm := (name_of_methodNamed Bd.named Bd.method).1
  have X0 : Stand pg l ee ({ frames := 0, cells := 0, slots := 0, locals := 0 } : Room) s mm #[(.ref a), (.ref b)] below meth cc s₁ [] 0 0 := Stand.of_body Bd
  have e0 : s₁.heap = h0 := by rw [← hh, Bd.state]; rfl
  have N0 := Fr.nil n0
  have K0 : Keep h0 h0 ([] : List Addr) := Keep.refl _ _
  have pre0 : ∀ t, Steps pg.tables ee below (s₁.setTop (mkF mm 0 #[.val (.ref a), .val (.ref b), .unset] [])) t → Steps pg.tables ee below (s₁.setTop (entryFrame mm #[(.ref a), (.ref b)] 3)) t := fun t k => castTop (ef_4_66 mm a b) k
  obtain ⟨T1, X1, e1, st1⟩ := instY X0 hx hZ hown (hw _ (List.mem_of_getElem? (i := 28) rfl)) e0 (Ins.self Eb) (g := (mkF mm 1 #[.val (.ref a), .val (.ref b), .unset] [(.ref b)])) rfl rfl (hb hby d4_1)
  obtain ⟨T2, X2, e2, st2⟩ := castY X1 hx hZ hown (hw _ (List.mem_of_getElem? (i := 28) rfl)) e1 (Ins.self Eb) (g := (mkF mm 10 #[.val (.ref a), .val (.ref b), .unset] [(.ref b)])) rfl rfl (hb hby d4_10)
  obtain ⟨T3, X3, e3, st3⟩ := getF X2 hx hZ hown (host := "") (Or.inl (hw _ (List.mem_of_getElem? (i := 9) rfl))) Via.refl e2 F0 (g := (mkF mm 15 #[.val (.ref a), .val (.ref b), .val (.ref b)] [(.ref a)])) rfl rfl (hb hby d4_15)
  obtain ⟨T4, X4, e4, st4⟩ := getF X3 hx hZ hown (host := "") (Or.inl (hw _ (List.mem_of_getElem? (i := 9) rfl))) Via.refl e3 G0 (g := (mkF mm 19 #[.val (.ref a), .val (.ref b), .val (.ref b)] [(.ref b), (.long e)])) rfl rfl (hb hby d4_19)
  obtain ⟨fs, hr, hrun, hended, hW, hsame⟩ := X4.leave (v := some (.int (0 : Int32))) (fun h => by rw [Bd.returns] at h; cases h)
  refine ⟨_, _, pre0 _ ?_, hrun, hended, _, _, rfl, ?_, ⟨_, rfl⟩, hW, hsame.mono (by decide) (by decide)⟩
  · show Steps pg.tables ee below (s₁.setTop (mkF mm 0 #[.val (.ref a), .val (.ref b), .unset] [])) _
    refine XS.aloadN X0.here hx rfl (hb hby d4_0) rfl rfl ?_
    show Steps pg.tables ee below (s₁.setTop (mkF mm 1 #[.val (.ref a), .val (.ref b), .unset] [(.ref b)])) _
    refine st1 _ ?_
    show Steps pg.tables ee below (T1.setTop (mkF mm 4 #[.val (.ref a), .val (.ref b), .unset] [(.int (1 : Int32))])) _
    refine XS.ifYes X1.here hx rfl (pc0 := 4) (pc' := 9) rfl (hb hby d4_4) rfl ((if0 _ _).trans (feq (by decide : ¬ ((1 : Int32) = (0 : Int32)))).2) (by decide) (by decide) ?_
    show Steps pg.tables ee below (T1.setTop (mkF mm 9 #[.val (.ref a), .val (.ref b), .unset] [])) _
    refine XS.aloadN X1.here hx rfl (hb hby d4_9) rfl rfl ?_
    show Steps pg.tables ee below (T1.setTop (mkF mm 10 #[.val (.ref a), .val (.ref b), .unset] [(.ref b)])) _
    refine st2 _ ?_
    show Steps pg.tables ee below (T2.setTop (mkF mm 13 #[.val (.ref a), .val (.ref b), .unset] [(.ref b)])) _
    refine XS.astoreN X2.here hx rfl (hb hby d4_13) rfl rfl (l' := #[.val (.ref a), .val (.ref b), .val (.ref b)]) rfl ?_
    show Steps pg.tables ee below (T2.setTop (mkF mm 14 #[.val (.ref a), .val (.ref b), .val (.ref b)] [])) _
    refine XS.aloadN X2.here hx rfl (hb hby d4_14) rfl rfl ?_
    show Steps pg.tables ee below (T2.setTop (mkF mm 15 #[.val (.ref a), .val (.ref b), .val (.ref b)] [(.ref a)])) _
    refine st3 _ ?_
    show Steps pg.tables ee below (T3.setTop (mkF mm 18 #[.val (.ref a), .val (.ref b), .val (.ref b)] [(.long e)])) _
    refine XS.aloadN X3.here hx rfl (hb hby d4_18) rfl rfl ?_
    show Steps pg.tables ee below (T3.setTop (mkF mm 19 #[.val (.ref a), .val (.ref b), .val (.ref b)] [(.ref b), (.long e)])) _
    refine st4 _ ?_
    show Steps pg.tables ee below (T4.setTop (mkF mm 22 #[.val (.ref a), .val (.ref b), .val (.ref b)] [(.long e'), (.long e)])) _
    refine XS.lcmp X4.here hx rfl (hb hby d4_22) rfl ?_
    show Steps pg.tables ee below (T4.setTop (mkF mm 23 #[.val (.ref a), .val (.ref b), .val (.ref b)] [(.int (lcmpW e e'))])) _
    refine XS.ifYes X4.here hx rfl (pc0 := 23) (pc' := 54) rfl (hb hby d4_23) rfl ((if0 _ _).trans (feq c0).2) (by decide) (by decide) ?_
    show Steps pg.tables ee below (T4.setTop (mkF mm 54 #[.val (.ref a), .val (.ref b), .val (.ref b)] [])) _
    refine XS.iconst X4.here hx rfl (hb hby d4_54) ?_
    show Steps pg.tables ee below (T4.setTop (mkF mm 55 #[.val (.ref a), .val (.ref b), .val (.ref b)] [(.int (0 : Int32))])) _
    exact retN X4 hx (t := .boolean) Bd.returns (by simp) (hb hby d4_55) hr
  · show QrmQ0 Z a b e l_ d e' l' d' h0 n0 _ T4.heap _
    rw [e4]
    exact ⟨rfl, N0, rfl⟩
theorem d4_26 : decode prog_5_method_5_code 26 = .ok (.aload_n 0, 1) := by decide +kernel
theorem d4_27 : decode prog_5_method_5_code 27 = .ok (.getfield 13, 3) := by decide +kernel
theorem d4_30 : decode prog_5_method_5_code 30 = .ok (.aload_n 2, 1) := by decide +kernel
theorem d4_31 : decode prog_5_method_5_code 31 = .ok (.getfield 13, 3) := by decide +kernel
theorem d4_34 : decode prog_5_method_5_code 34 = .ok (.lcmp, 1) := by decide +kernel
theorem d4_35 : decode prog_5_method_5_code 35 = .ok (.ifCond .ne 19, 3) := by decide +kernel
def QrmQ1 (Z : State) (a : Addr) (b : Addr) (e : Int64) (l_ : Int64) (d : Int64) (e' : Int64) (l' : Int64) (d' : Int64) (h0 : Heap) (n0 : Nat) (v : Option Value) (h : Heap) (L : List Loc) : Prop := v = some (.int (0 : Int32)) ∧ Fr n0 L ∧ h = h0
set_option maxRecDepth 65536 in
set_option maxHeartbeats 40000000 in
theorem rmQ1 (l : Launch) (Z : State) (a0 : Array Value) (hw : ∀ d ∈ tables_1, d.before a0 Z = true) (ws : List Jvm.Cond) (a : Addr) (b : Addr) (e : Int64) (l_ : Int64) (d : Int64) (e' : Int64) (l' : Int64) (d' : Int64) (h0 : Heap) (n0 : Nat) (O0 : Old Z n0 h0) (F0 : Fld Z h0 a "com/example/stops_to_routes/stopstoroutes/planner/Break" "earliest" "J" (.long e)) (F1 : Fld Z h0 a "com/example/stops_to_routes/stopstoroutes/planner/Break" "latest" "J" (.long l_)) (F2 : Fld Z h0 a "com/example/stops_to_routes/stopstoroutes/planner/Break" "duration" "J" (.long d)) (G0 : Fld Z h0 b "com/example/stops_to_routes/stopstoroutes/planner/Break" "earliest" "J" (.long e')) (G1 : Fld Z h0 b "com/example/stops_to_routes/stopstoroutes/planner/Break" "latest" "J" (.long l')) (G2 : Fld Z h0 b "com/example/stops_to_routes/stopstoroutes/planner/Break" "duration" "J" (.long d')) (Eb : Exa Z h0 b "com/example/stops_to_routes/stopstoroutes/planner/Break") (c0 : (lcmpW e e') = (0 : Int32)) (c1 : ¬ ((lcmpW l_ l') = (0 : Int32))) :
    MetFree l (⟨"com/example/stops_to_routes/stopstoroutes/planner/Break", "equals", "(Ljava/lang/Object;)Z"⟩ : MethodName) (head1 (Jvm.Cond.code (⟨"com/example/stops_to_routes/stopstoroutes/planner/Break", "equals", "(Ljava/lang/Object;)Z"⟩ : MethodName) prog_5_method_5_code 3 (some .boolean) :: ws) ({ frames := 0, cells := 0, slots := 0, locals := 0 } : Room)) (fun a_ U_ => a_ = #[(.ref a), (.ref b)] ∧ Z.Warmed39 U_.vm ∧ U_.heap = h0) (fun _ _ _ _ _ => True) (fun _ U_ o_ U'_ => ∃ v_ L_, o_ = .returned v_ ∧ QrmQ1 Z a b e l_ d e' l' d' h0 n0 v_ U'_.heap L_ ∧ FrameEnd U_ o_ U'_ L_ ({ frames := 0, cells := 0, slots := 0, locals := 0 } : Room).cells ({ frames := 0, cells := 0, slots := 0, locals := 0 } : Room).slots) := by
  refine MetFree.of_bodySF (plainFor_of_name pn_12) hisR ?_
  intro pg ee s mm args below meth cc s₁ Bd hml0 hP hK
  obtain ⟨rfl, hZ, hh⟩ := hP
  have hx := Bd.exec
  have hby := Bd.bytes
  have hml : cc.maxLocals = 3 := hml0
  have hown : s.vm.findClass "com/example/stops_to_routes/stopstoroutes/planner/Break" = some mm.cls := findClass_of_methodNamed Bd.named
  have hnm := (name_of_methodNamed Bd.named Bd.method).1
  have X0 : Stand pg l ee ({ frames := 0, cells := 0, slots := 0, locals := 0 } : Room) s mm #[(.ref a), (.ref b)] below meth cc s₁ [] 0 0 := Stand.of_body Bd
  have e0 : s₁.heap = h0 := by rw [← hh, Bd.state]; rfl
  have N0 := Fr.nil n0
  have K0 : Keep h0 h0 ([] : List Addr) := Keep.refl _ _
  have pre0 : ∀ t, Steps pg.tables ee below (s₁.setTop (mkF mm 0 #[.val (.ref a), .val (.ref b), .unset] [])) t → Steps pg.tables ee below (s₁.setTop (entryFrame mm #[(.ref a), (.ref b)] 3)) t := fun t k => castTop (ef_4_66 mm a b) k
  obtain ⟨T1, X1, e1, st1⟩ := instY X0 hx hZ hown (hw _ (List.mem_of_getElem? (i := 28) rfl)) e0 (Ins.self Eb) (g := (mkF mm 1 #[.val (.ref a), .val (.ref b), .unset] [(.ref b)])) rfl rfl (hb hby d4_1)
  obtain ⟨T2, X2, e2, st2⟩ := castY X1 hx hZ hown (hw _ (List.mem_of_getElem? (i := 28) rfl)) e1 (Ins.self Eb) (g := (mkF mm 10 #[.val (.ref a), .val (.ref b), .unset] [(.ref b)])) rfl rfl (hb hby d4_10)
  obtain ⟨T3, X3, e3, st3⟩ := getF X2 hx hZ hown (host := "") (Or.inl (hw _ (List.mem_of_getElem? (i := 9) rfl))) Via.refl e2 F0 (g := (mkF mm 15 #[.val (.ref a), .val (.ref b), .val (.ref b)] [(.ref a)])) rfl rfl (hb hby d4_15)
  obtain ⟨T4, X4, e4, st4⟩ := getF X3 hx hZ hown (host := "") (Or.inl (hw _ (List.mem_of_getElem? (i := 9) rfl))) Via.refl e3 G0 (g := (mkF mm 19 #[.val (.ref a), .val (.ref b), .val (.ref b)] [(.ref b), (.long e)])) rfl rfl (hb hby d4_19)
  obtain ⟨T5, X5, e5, st5⟩ := getF X4 hx hZ hown (host := "") (Or.inl (hw _ (List.mem_of_getElem? (i := 11) rfl))) Via.refl e4 F1 (g := (mkF mm 27 #[.val (.ref a), .val (.ref b), .val (.ref b)] [(.ref a)])) rfl rfl (hb hby d4_27)
  obtain ⟨T6, X6, e6, st6⟩ := getF X5 hx hZ hown (host := "") (Or.inl (hw _ (List.mem_of_getElem? (i := 11) rfl))) Via.refl e5 G1 (g := (mkF mm 31 #[.val (.ref a), .val (.ref b), .val (.ref b)] [(.ref b), (.long l_)])) rfl rfl (hb hby d4_31)
  obtain ⟨fs, hr, hrun, hended, hW, hsame⟩ := X6.leave (v := some (.int (0 : Int32))) (fun h => by rw [Bd.returns] at h; cases h)
  refine ⟨_, _, pre0 _ ?_, hrun, hended, _, _, rfl, ?_, ⟨_, rfl⟩, hW, hsame.mono (by decide) (by decide)⟩
  · show Steps pg.tables ee below (s₁.setTop (mkF mm 0 #[.val (.ref a), .val (.ref b), .unset] [])) _
    refine XS.aloadN X0.here hx rfl (hb hby d4_0) rfl rfl ?_
    show Steps pg.tables ee below (s₁.setTop (mkF mm 1 #[.val (.ref a), .val (.ref b), .unset] [(.ref b)])) _
    refine st1 _ ?_
    show Steps pg.tables ee below (T1.setTop (mkF mm 4 #[.val (.ref a), .val (.ref b), .unset] [(.int (1 : Int32))])) _
    refine XS.ifYes X1.here hx rfl (pc0 := 4) (pc' := 9) rfl (hb hby d4_4) rfl ((if0 _ _).trans (feq (by decide : ¬ ((1 : Int32) = (0 : Int32)))).2) (by decide) (by decide) ?_
    show Steps pg.tables ee below (T1.setTop (mkF mm 9 #[.val (.ref a), .val (.ref b), .unset] [])) _
    refine XS.aloadN X1.here hx rfl (hb hby d4_9) rfl rfl ?_
    show Steps pg.tables ee below (T1.setTop (mkF mm 10 #[.val (.ref a), .val (.ref b), .unset] [(.ref b)])) _
    refine st2 _ ?_
    show Steps pg.tables ee below (T2.setTop (mkF mm 13 #[.val (.ref a), .val (.ref b), .unset] [(.ref b)])) _
    refine XS.astoreN X2.here hx rfl (hb hby d4_13) rfl rfl (l' := #[.val (.ref a), .val (.ref b), .val (.ref b)]) rfl ?_
    show Steps pg.tables ee below (T2.setTop (mkF mm 14 #[.val (.ref a), .val (.ref b), .val (.ref b)] [])) _
    refine XS.aloadN X2.here hx rfl (hb hby d4_14) rfl rfl ?_
    show Steps pg.tables ee below (T2.setTop (mkF mm 15 #[.val (.ref a), .val (.ref b), .val (.ref b)] [(.ref a)])) _
    refine st3 _ ?_
    show Steps pg.tables ee below (T3.setTop (mkF mm 18 #[.val (.ref a), .val (.ref b), .val (.ref b)] [(.long e)])) _
    refine XS.aloadN X3.here hx rfl (hb hby d4_18) rfl rfl ?_
    show Steps pg.tables ee below (T3.setTop (mkF mm 19 #[.val (.ref a), .val (.ref b), .val (.ref b)] [(.ref b), (.long e)])) _
    refine st4 _ ?_
    show Steps pg.tables ee below (T4.setTop (mkF mm 22 #[.val (.ref a), .val (.ref b), .val (.ref b)] [(.long e'), (.long e)])) _
    refine XS.lcmp X4.here hx rfl (hb hby d4_22) rfl ?_
    show Steps pg.tables ee below (T4.setTop (mkF mm 23 #[.val (.ref a), .val (.ref b), .val (.ref b)] [(.int (lcmpW e e'))])) _
    refine XS.ifNo X4.here hx rfl (hb hby d4_23) rfl ((if0 _ _).trans (teq c0).2) ?_
    show Steps pg.tables ee below (T4.setTop (mkF mm 26 #[.val (.ref a), .val (.ref b), .val (.ref b)] [])) _
    refine XS.aloadN X4.here hx rfl (hb hby d4_26) rfl rfl ?_
    show Steps pg.tables ee below (T4.setTop (mkF mm 27 #[.val (.ref a), .val (.ref b), .val (.ref b)] [(.ref a)])) _
    refine st5 _ ?_
    show Steps pg.tables ee below (T5.setTop (mkF mm 30 #[.val (.ref a), .val (.ref b), .val (.ref b)] [(.long l_)])) _
    refine XS.aloadN X5.here hx rfl (hb hby d4_30) rfl rfl ?_
    show Steps pg.tables ee below (T5.setTop (mkF mm 31 #[.val (.ref a), .val (.ref b), .val (.ref b)] [(.ref b), (.long l_)])) _
    refine st6 _ ?_
    show Steps pg.tables ee below (T6.setTop (mkF mm 34 #[.val (.ref a), .val (.ref b), .val (.ref b)] [(.long l'), (.long l_)])) _
    refine XS.lcmp X6.here hx rfl (hb hby d4_34) rfl ?_
    show Steps pg.tables ee below (T6.setTop (mkF mm 35 #[.val (.ref a), .val (.ref b), .val (.ref b)] [(.int (lcmpW l_ l'))])) _
    refine XS.ifYes X6.here hx rfl (pc0 := 35) (pc' := 54) rfl (hb hby d4_35) rfl ((if0 _ _).trans (feq c1).2) (by decide) (by decide) ?_
    show Steps pg.tables ee below (T6.setTop (mkF mm 54 #[.val (.ref a), .val (.ref b), .val (.ref b)] [])) _
    refine XS.iconst X6.here hx rfl (hb hby d4_54) ?_
    show Steps pg.tables ee below (T6.setTop (mkF mm 55 #[.val (.ref a), .val (.ref b), .val (.ref b)] [(.int (0 : Int32))])) _
    exact retN X6 hx (t := .boolean) Bd.returns (by simp) (hb hby d4_55) hr
  · show QrmQ1 Z a b e l_ d e' l' d' h0 n0 _ T6.heap _
    rw [e6]
    exact ⟨rfl, N0, rfl⟩
theorem d4_38 : decode prog_5_method_5_code 38 = .ok (.aload_n 0, 1) := by decide +kernel
theorem d4_39 : decode prog_5_method_5_code 39 = .ok (.getfield 16, 3) := by decide +kernel
theorem d4_42 : decode prog_5_method_5_code 42 = .ok (.aload_n 2, 1) := by decide +kernel
theorem d4_43 : decode prog_5_method_5_code 43 = .ok (.getfield 16, 3) := by decide +kernel
theorem d4_46 : decode prog_5_method_5_code 46 = .ok (.lcmp, 1) := by decide +kernel
theorem d4_47 : decode prog_5_method_5_code 47 = .ok (.ifCond .ne 7, 3) := by decide +kernel
def QrmQ2 (Z : State) (a : Addr) (b : Addr) (e : Int64) (l_ : Int64) (d : Int64) (e' : Int64) (l' : Int64) (d' : Int64) (h0 : Heap) (n0 : Nat) (v : Option Value) (h : Heap) (L : List Loc) : Prop := v = some (.int (0 : Int32)) ∧ Fr n0 L ∧ h = h0
set_option maxRecDepth 65536 in
set_option maxHeartbeats 40000000 in
theorem rmQ2 (l : Launch) (Z : State) (a0 : Array Value) (hw : ∀ d ∈ tables_1, d.before a0 Z = true) (ws : List Jvm.Cond) (a : Addr) (b : Addr) (e : Int64) (l_ : Int64) (d : Int64) (e' : Int64) (l' : Int64) (d' : Int64) (h0 : Heap) (n0 : Nat) (O0 : Old Z n0 h0) (F0 : Fld Z h0 a "com/example/stops_to_routes/stopstoroutes/planner/Break" "earliest" "J" (.long e)) (F1 : Fld Z h0 a "com/example/stops_to_routes/stopstoroutes/planner/Break" "latest" "J" (.long l_)) (F2 : Fld Z h0 a "com/example/stops_to_routes/stopstoroutes/planner/Break" "duration" "J" (.long d)) (G0 : Fld Z h0 b "com/example/stops_to_routes/stopstoroutes/planner/Break" "earliest" "J" (.long e')) (G1 : Fld Z h0 b "com/example/stops_to_routes/stopstoroutes/planner/Break" "latest" "J" (.long l')) (G2 : Fld Z h0 b "com/example/stops_to_routes/stopstoroutes/planner/Break" "duration" "J" (.long d')) (Eb : Exa Z h0 b "com/example/stops_to_routes/stopstoroutes/planner/Break") (c0 : (lcmpW e e') = (0 : Int32)) (c1 : (lcmpW l_ l') = (0 : Int32)) (c2 : ¬ ((lcmpW d d') = (0 : Int32))) :
    MetFree l (⟨"com/example/stops_to_routes/stopstoroutes/planner/Break", "equals", "(Ljava/lang/Object;)Z"⟩ : MethodName) (head1 (Jvm.Cond.code (⟨"com/example/stops_to_routes/stopstoroutes/planner/Break", "equals", "(Ljava/lang/Object;)Z"⟩ : MethodName) prog_5_method_5_code 3 (some .boolean) :: ws) ({ frames := 0, cells := 0, slots := 0, locals := 0 } : Room)) (fun a_ U_ => a_ = #[(.ref a), (.ref b)] ∧ Z.Warmed39 U_.vm ∧ U_.heap = h0) (fun _ _ _ _ _ => True) (fun _ U_ o_ U'_ => ∃ v_ L_, o_ = .returned v_ ∧ QrmQ2 Z a b e l_ d e' l' d' h0 n0 v_ U'_.heap L_ ∧ FrameEnd U_ o_ U'_ L_ ({ frames := 0, cells := 0, slots := 0, locals := 0 } : Room).cells ({ frames := 0, cells := 0, slots := 0, locals := 0 } : Room).slots) := by
  refine MetFree.of_bodySF (plainFor_of_name pn_12) hisR ?_
  intro pg ee s mm args below meth cc s₁ Bd hml0 hP hK
  obtain ⟨rfl, hZ, hh⟩ := hP
  have hx := Bd.exec
  have hby := Bd.bytes
  have hml : cc.maxLocals = 3 := hml0
  have hown : s.vm.findClass "com/example/stops_to_routes/stopstoroutes/planner/Break" = some mm.cls := findClass_of_methodNamed Bd.named
  have hnm := (name_of_methodNamed Bd.named Bd.method).1
  have X0 : Stand pg l ee ({ frames := 0, cells := 0, slots := 0, locals := 0 } : Room) s mm #[(.ref a), (.ref b)] below meth cc s₁ [] 0 0 := Stand.of_body Bd
  have e0 : s₁.heap = h0 := by rw [← hh, Bd.state]; rfl
  have N0 := Fr.nil n0
  have K0 : Keep h0 h0 ([] : List Addr) := Keep.refl _ _
  have pre0 : ∀ t, Steps pg.tables ee below (s₁.setTop (mkF mm 0 #[.val (.ref a), .val (.ref b), .unset] [])) t → Steps pg.tables ee below (s₁.setTop (entryFrame mm #[(.ref a), (.ref b)] 3)) t := fun t k => castTop (ef_4_66 mm a b) k
  obtain ⟨T1, X1, e1, st1⟩ := instY X0 hx hZ hown (hw _ (List.mem_of_getElem? (i := 28) rfl)) e0 (Ins.self Eb) (g := (mkF mm 1 #[.val (.ref a), .val (.ref b), .unset] [(.ref b)])) rfl rfl (hb hby d4_1)
  obtain ⟨T2, X2, e2, st2⟩ := castY X1 hx hZ hown (hw _ (List.mem_of_getElem? (i := 28) rfl)) e1 (Ins.self Eb) (g := (mkF mm 10 #[.val (.ref a), .val (.ref b), .unset] [(.ref b)])) rfl rfl (hb hby d4_10)
  obtain ⟨T3, X3, e3, st3⟩ := getF X2 hx hZ hown (host := "") (Or.inl (hw _ (List.mem_of_getElem? (i := 9) rfl))) Via.refl e2 F0 (g := (mkF mm 15 #[.val (.ref a), .val (.ref b), .val (.ref b)] [(.ref a)])) rfl rfl (hb hby d4_15)
  obtain ⟨T4, X4, e4, st4⟩ := getF X3 hx hZ hown (host := "") (Or.inl (hw _ (List.mem_of_getElem? (i := 9) rfl))) Via.refl e3 G0 (g := (mkF mm 19 #[.val (.ref a), .val (.ref b), .val (.ref b)] [(.ref b), (.long e)])) rfl rfl (hb hby d4_19)
  obtain ⟨T5, X5, e5, st5⟩ := getF X4 hx hZ hown (host := "") (Or.inl (hw _ (List.mem_of_getElem? (i := 11) rfl))) Via.refl e4 F1 (g := (mkF mm 27 #[.val (.ref a), .val (.ref b), .val (.ref b)] [(.ref a)])) rfl rfl (hb hby d4_27)
  obtain ⟨T6, X6, e6, st6⟩ := getF X5 hx hZ hown (host := "") (Or.inl (hw _ (List.mem_of_getElem? (i := 11) rfl))) Via.refl e5 G1 (g := (mkF mm 31 #[.val (.ref a), .val (.ref b), .val (.ref b)] [(.ref b), (.long l_)])) rfl rfl (hb hby d4_31)
  obtain ⟨T7, X7, e7, st7⟩ := getF X6 hx hZ hown (host := "") (Or.inl (hw _ (List.mem_of_getElem? (i := 13) rfl))) Via.refl e6 F2 (g := (mkF mm 39 #[.val (.ref a), .val (.ref b), .val (.ref b)] [(.ref a)])) rfl rfl (hb hby d4_39)
  obtain ⟨T8, X8, e8, st8⟩ := getF X7 hx hZ hown (host := "") (Or.inl (hw _ (List.mem_of_getElem? (i := 13) rfl))) Via.refl e7 G2 (g := (mkF mm 43 #[.val (.ref a), .val (.ref b), .val (.ref b)] [(.ref b), (.long d)])) rfl rfl (hb hby d4_43)
  obtain ⟨fs, hr, hrun, hended, hW, hsame⟩ := X8.leave (v := some (.int (0 : Int32))) (fun h => by rw [Bd.returns] at h; cases h)
  refine ⟨_, _, pre0 _ ?_, hrun, hended, _, _, rfl, ?_, ⟨_, rfl⟩, hW, hsame.mono (by decide) (by decide)⟩
  · show Steps pg.tables ee below (s₁.setTop (mkF mm 0 #[.val (.ref a), .val (.ref b), .unset] [])) _
    refine XS.aloadN X0.here hx rfl (hb hby d4_0) rfl rfl ?_
    show Steps pg.tables ee below (s₁.setTop (mkF mm 1 #[.val (.ref a), .val (.ref b), .unset] [(.ref b)])) _
    refine st1 _ ?_
    show Steps pg.tables ee below (T1.setTop (mkF mm 4 #[.val (.ref a), .val (.ref b), .unset] [(.int (1 : Int32))])) _
    refine XS.ifYes X1.here hx rfl (pc0 := 4) (pc' := 9) rfl (hb hby d4_4) rfl ((if0 _ _).trans (feq (by decide : ¬ ((1 : Int32) = (0 : Int32)))).2) (by decide) (by decide) ?_
    show Steps pg.tables ee below (T1.setTop (mkF mm 9 #[.val (.ref a), .val (.ref b), .unset] [])) _
    refine XS.aloadN X1.here hx rfl (hb hby d4_9) rfl rfl ?_
    show Steps pg.tables ee below (T1.setTop (mkF mm 10 #[.val (.ref a), .val (.ref b), .unset] [(.ref b)])) _
    refine st2 _ ?_
    show Steps pg.tables ee below (T2.setTop (mkF mm 13 #[.val (.ref a), .val (.ref b), .unset] [(.ref b)])) _
    refine XS.astoreN X2.here hx rfl (hb hby d4_13) rfl rfl (l' := #[.val (.ref a), .val (.ref b), .val (.ref b)]) rfl ?_
    show Steps pg.tables ee below (T2.setTop (mkF mm 14 #[.val (.ref a), .val (.ref b), .val (.ref b)] [])) _
    refine XS.aloadN X2.here hx rfl (hb hby d4_14) rfl rfl ?_
    show Steps pg.tables ee below (T2.setTop (mkF mm 15 #[.val (.ref a), .val (.ref b), .val (.ref b)] [(.ref a)])) _
    refine st3 _ ?_
    show Steps pg.tables ee below (T3.setTop (mkF mm 18 #[.val (.ref a), .val (.ref b), .val (.ref b)] [(.long e)])) _
    refine XS.aloadN X3.here hx rfl (hb hby d4_18) rfl rfl ?_
    show Steps pg.tables ee below (T3.setTop (mkF mm 19 #[.val (.ref a), .val (.ref b), .val (.ref b)] [(.ref b), (.long e)])) _
    refine st4 _ ?_
    show Steps pg.tables ee below (T4.setTop (mkF mm 22 #[.val (.ref a), .val (.ref b), .val (.ref b)] [(.long e'), (.long e)])) _
    refine XS.lcmp X4.here hx rfl (hb hby d4_22) rfl ?_
    show Steps pg.tables ee below (T4.setTop (mkF mm 23 #[.val (.ref a), .val (.ref b), .val (.ref b)] [(.int (lcmpW e e'))])) _
    refine XS.ifNo X4.here hx rfl (hb hby d4_23) rfl ((if0 _ _).trans (teq c0).2) ?_
    show Steps pg.tables ee below (T4.setTop (mkF mm 26 #[.val (.ref a), .val (.ref b), .val (.ref b)] [])) _
    refine XS.aloadN X4.here hx rfl (hb hby d4_26) rfl rfl ?_
    show Steps pg.tables ee below (T4.setTop (mkF mm 27 #[.val (.ref a), .val (.ref b), .val (.ref b)] [(.ref a)])) _
    refine st5 _ ?_
    show Steps pg.tables ee below (T5.setTop (mkF mm 30 #[.val (.ref a), .val (.ref b), .val (.ref b)] [(.long l_)])) _
    refine XS.aloadN X5.here hx rfl (hb hby d4_30) rfl rfl ?_
    show Steps pg.tables ee below (T5.setTop (mkF mm 31 #[.val (.ref a), .val (.ref b), .val (.ref b)] [(.ref b), (.long l_)])) _
    refine st6 _ ?_
    show Steps pg.tables ee below (T6.setTop (mkF mm 34 #[.val (.ref a), .val (.ref b), .val (.ref b)] [(.long l'), (.long l_)])) _
    refine XS.lcmp X6.here hx rfl (hb hby d4_34) rfl ?_
    show Steps pg.tables ee below (T6.setTop (mkF mm 35 #[.val (.ref a), .val (.ref b), .val (.ref b)] [(.int (lcmpW l_ l'))])) _
    refine XS.ifNo X6.here hx rfl (hb hby d4_35) rfl ((if0 _ _).trans (teq c1).2) ?_
    show Steps pg.tables ee below (T6.setTop (mkF mm 38 #[.val (.ref a), .val (.ref b), .val (.ref b)] [])) _
    refine XS.aloadN X6.here hx rfl (hb hby d4_38) rfl rfl ?_
    show Steps pg.tables ee below (T6.setTop (mkF mm 39 #[.val (.ref a), .val (.ref b), .val (.ref b)] [(.ref a)])) _
    refine st7 _ ?_
    show Steps pg.tables ee below (T7.setTop (mkF mm 42 #[.val (.ref a), .val (.ref b), .val (.ref b)] [(.long d)])) _
    refine XS.aloadN X7.here hx rfl (hb hby d4_42) rfl rfl ?_
    show Steps pg.tables ee below (T7.setTop (mkF mm 43 #[.val (.ref a), .val (.ref b), .val (.ref b)] [(.ref b), (.long d)])) _
    refine st8 _ ?_
    show Steps pg.tables ee below (T8.setTop (mkF mm 46 #[.val (.ref a), .val (.ref b), .val (.ref b)] [(.long d'), (.long d)])) _
    refine XS.lcmp X8.here hx rfl (hb hby d4_46) rfl ?_
    show Steps pg.tables ee below (T8.setTop (mkF mm 47 #[.val (.ref a), .val (.ref b), .val (.ref b)] [(.int (lcmpW d d'))])) _
    refine XS.ifYes X8.here hx rfl (pc0 := 47) (pc' := 54) rfl (hb hby d4_47) rfl ((if0 _ _).trans (feq c2).2) (by decide) (by decide) ?_
    show Steps pg.tables ee below (T8.setTop (mkF mm 54 #[.val (.ref a), .val (.ref b), .val (.ref b)] [])) _
    refine XS.iconst X8.here hx rfl (hb hby d4_54) ?_
    show Steps pg.tables ee below (T8.setTop (mkF mm 55 #[.val (.ref a), .val (.ref b), .val (.ref b)] [(.int (0 : Int32))])) _
    exact retN X8 hx (t := .boolean) Bd.returns (by simp) (hb hby d4_55) hr
  · show QrmQ2 Z a b e l_ d e' l' d' h0 n0 _ T8.heap _
    rw [e8]
    exact ⟨rfl, N0, rfl⟩
theorem d4_50 : decode prog_5_method_5_code 50 = .ok (.iconst 1, 1) := by decide +kernel
theorem d4_51 : decode prog_5_method_5_code 51 = .ok (.goto 4, 3) := by decide +kernel
def QrmQ3 (Z : State) (a : Addr) (b : Addr) (e : Int64) (l_ : Int64) (d : Int64) (e' : Int64) (l' : Int64) (d' : Int64) (h0 : Heap) (n0 : Nat) (v : Option Value) (h : Heap) (L : List Loc) : Prop := v = some (.int (1 : Int32)) ∧ Fr n0 L ∧ h = h0
set_option maxRecDepth 65536 in
set_option maxHeartbeats 40000000 in
theorem rmQ3 (l : Launch) (Z : State) (a0 : Array Value) (hw : ∀ d ∈ tables_1, d.before a0 Z = true) (ws : List Jvm.Cond) (a : Addr) (b : Addr) (e : Int64) (l_ : Int64) (d : Int64) (e' : Int64) (l' : Int64) (d' : Int64) (h0 : Heap) (n0 : Nat) (O0 : Old Z n0 h0) (F0 : Fld Z h0 a "com/example/stops_to_routes/stopstoroutes/planner/Break" "earliest" "J" (.long e)) (F1 : Fld Z h0 a "com/example/stops_to_routes/stopstoroutes/planner/Break" "latest" "J" (.long l_)) (F2 : Fld Z h0 a "com/example/stops_to_routes/stopstoroutes/planner/Break" "duration" "J" (.long d)) (G0 : Fld Z h0 b "com/example/stops_to_routes/stopstoroutes/planner/Break" "earliest" "J" (.long e')) (G1 : Fld Z h0 b "com/example/stops_to_routes/stopstoroutes/planner/Break" "latest" "J" (.long l')) (G2 : Fld Z h0 b "com/example/stops_to_routes/stopstoroutes/planner/Break" "duration" "J" (.long d')) (Eb : Exa Z h0 b "com/example/stops_to_routes/stopstoroutes/planner/Break") (c0 : (lcmpW e e') = (0 : Int32)) (c1 : (lcmpW l_ l') = (0 : Int32)) (c2 : (lcmpW d d') = (0 : Int32)) :
    MetFree l (⟨"com/example/stops_to_routes/stopstoroutes/planner/Break", "equals", "(Ljava/lang/Object;)Z"⟩ : MethodName) (head1 (Jvm.Cond.code (⟨"com/example/stops_to_routes/stopstoroutes/planner/Break", "equals", "(Ljava/lang/Object;)Z"⟩ : MethodName) prog_5_method_5_code 3 (some .boolean) :: ws) ({ frames := 0, cells := 0, slots := 0, locals := 0 } : Room)) (fun a_ U_ => a_ = #[(.ref a), (.ref b)] ∧ Z.Warmed39 U_.vm ∧ U_.heap = h0) (fun _ _ _ _ _ => True) (fun _ U_ o_ U'_ => ∃ v_ L_, o_ = .returned v_ ∧ QrmQ3 Z a b e l_ d e' l' d' h0 n0 v_ U'_.heap L_ ∧ FrameEnd U_ o_ U'_ L_ ({ frames := 0, cells := 0, slots := 0, locals := 0 } : Room).cells ({ frames := 0, cells := 0, slots := 0, locals := 0 } : Room).slots) := by
  refine MetFree.of_bodySF (plainFor_of_name pn_12) hisR ?_
  intro pg ee s mm args below meth cc s₁ Bd hml0 hP hK
  obtain ⟨rfl, hZ, hh⟩ := hP
  have hx := Bd.exec
  have hby := Bd.bytes
  have hml : cc.maxLocals = 3 := hml0
  have hown : s.vm.findClass "com/example/stops_to_routes/stopstoroutes/planner/Break" = some mm.cls := findClass_of_methodNamed Bd.named
  have hnm := (name_of_methodNamed Bd.named Bd.method).1
  have X0 : Stand pg l ee ({ frames := 0, cells := 0, slots := 0, locals := 0 } : Room) s mm #[(.ref a), (.ref b)] below meth cc s₁ [] 0 0 := Stand.of_body Bd
  have e0 : s₁.heap = h0 := by rw [← hh, Bd.state]; rfl
  have N0 := Fr.nil n0
  have K0 : Keep h0 h0 ([] : List Addr) := Keep.refl _ _
  have pre0 : ∀ t, Steps pg.tables ee below (s₁.setTop (mkF mm 0 #[.val (.ref a), .val (.ref b), .unset] [])) t → Steps pg.tables ee below (s₁.setTop (entryFrame mm #[(.ref a), (.ref b)] 3)) t := fun t k => castTop (ef_4_66 mm a b) k
  obtain ⟨T1, X1, e1, st1⟩ := instY X0 hx hZ hown (hw _ (List.mem_of_getElem? (i := 28) rfl)) e0 (Ins.self Eb) (g := (mkF mm 1 #[.val (.ref a), .val (.ref b), .unset] [(.ref b)])) rfl rfl (hb hby d4_1)
  obtain ⟨T2, X2, e2, st2⟩ := castY X1 hx hZ hown (hw _ (List.mem_of_getElem? (i := 28) rfl)) e1 (Ins.self Eb) (g := (mkF mm 10 #[.val (.ref a), .val (.ref b), .unset] [(.ref b)])) rfl rfl (hb hby d4_10)
  obtain ⟨T3, X3, e3, st3⟩ := getF X2 hx hZ hown (host := "") (Or.inl (hw _ (List.mem_of_getElem? (i := 9) rfl))) Via.refl e2 F0 (g := (mkF mm 15 #[.val (.ref a), .val (.ref b), .val (.ref b)] [(.ref a)])) rfl rfl (hb hby d4_15)
  obtain ⟨T4, X4, e4, st4⟩ := getF X3 hx hZ hown (host := "") (Or.inl (hw _ (List.mem_of_getElem? (i := 9) rfl))) Via.refl e3 G0 (g := (mkF mm 19 #[.val (.ref a), .val (.ref b), .val (.ref b)] [(.ref b), (.long e)])) rfl rfl (hb hby d4_19)
  obtain ⟨T5, X5, e5, st5⟩ := getF X4 hx hZ hown (host := "") (Or.inl (hw _ (List.mem_of_getElem? (i := 11) rfl))) Via.refl e4 F1 (g := (mkF mm 27 #[.val (.ref a), .val (.ref b), .val (.ref b)] [(.ref a)])) rfl rfl (hb hby d4_27)
  obtain ⟨T6, X6, e6, st6⟩ := getF X5 hx hZ hown (host := "") (Or.inl (hw _ (List.mem_of_getElem? (i := 11) rfl))) Via.refl e5 G1 (g := (mkF mm 31 #[.val (.ref a), .val (.ref b), .val (.ref b)] [(.ref b), (.long l_)])) rfl rfl (hb hby d4_31)
  obtain ⟨T7, X7, e7, st7⟩ := getF X6 hx hZ hown (host := "") (Or.inl (hw _ (List.mem_of_getElem? (i := 13) rfl))) Via.refl e6 F2 (g := (mkF mm 39 #[.val (.ref a), .val (.ref b), .val (.ref b)] [(.ref a)])) rfl rfl (hb hby d4_39)
  obtain ⟨T8, X8, e8, st8⟩ := getF X7 hx hZ hown (host := "") (Or.inl (hw _ (List.mem_of_getElem? (i := 13) rfl))) Via.refl e7 G2 (g := (mkF mm 43 #[.val (.ref a), .val (.ref b), .val (.ref b)] [(.ref b), (.long d)])) rfl rfl (hb hby d4_43)
  obtain ⟨fs, hr, hrun, hended, hW, hsame⟩ := X8.leave (v := some (.int (1 : Int32))) (fun h => by rw [Bd.returns] at h; cases h)
  refine ⟨_, _, pre0 _ ?_, hrun, hended, _, _, rfl, ?_, ⟨_, rfl⟩, hW, hsame.mono (by decide) (by decide)⟩
  · show Steps pg.tables ee below (s₁.setTop (mkF mm 0 #[.val (.ref a), .val (.ref b), .unset] [])) _
    refine XS.aloadN X0.here hx rfl (hb hby d4_0) rfl rfl ?_
    show Steps pg.tables ee below (s₁.setTop (mkF mm 1 #[.val (.ref a), .val (.ref b), .unset] [(.ref b)])) _
    refine st1 _ ?_
    show Steps pg.tables ee below (T1.setTop (mkF mm 4 #[.val (.ref a), .val (.ref b), .unset] [(.int (1 : Int32))])) _
    refine XS.ifYes X1.here hx rfl (pc0 := 4) (pc' := 9) rfl (hb hby d4_4) rfl ((if0 _ _).trans (feq (by decide : ¬ ((1 : Int32) = (0 : Int32)))).2) (by decide) (by decide) ?_
    show Steps pg.tables ee below (T1.setTop (mkF mm 9 #[.val (.ref a), .val (.ref b), .unset] [])) _
    refine XS.aloadN X1.here hx rfl (hb hby d4_9) rfl rfl ?_
    show Steps pg.tables ee below (T1.setTop (mkF mm 10 #[.val (.ref a), .val (.ref b), .unset] [(.ref b)])) _
    refine st2 _ ?_
    show Steps pg.tables ee below (T2.setTop (mkF mm 13 #[.val (.ref a), .val (.ref b), .unset] [(.ref b)])) _
    refine XS.astoreN X2.here hx rfl (hb hby d4_13) rfl rfl (l' := #[.val (.ref a), .val (.ref b), .val (.ref b)]) rfl ?_
    show Steps pg.tables ee below (T2.setTop (mkF mm 14 #[.val (.ref a), .val (.ref b), .val (.ref b)] [])) _
    refine XS.aloadN X2.here hx rfl (hb hby d4_14) rfl rfl ?_
    show Steps pg.tables ee below (T2.setTop (mkF mm 15 #[.val (.ref a), .val (.ref b), .val (.ref b)] [(.ref a)])) _
    refine st3 _ ?_
    show Steps pg.tables ee below (T3.setTop (mkF mm 18 #[.val (.ref a), .val (.ref b), .val (.ref b)] [(.long e)])) _
    refine XS.aloadN X3.here hx rfl (hb hby d4_18) rfl rfl ?_
    show Steps pg.tables ee below (T3.setTop (mkF mm 19 #[.val (.ref a), .val (.ref b), .val (.ref b)] [(.ref b), (.long e)])) _
    refine st4 _ ?_
    show Steps pg.tables ee below (T4.setTop (mkF mm 22 #[.val (.ref a), .val (.ref b), .val (.ref b)] [(.long e'), (.long e)])) _
    refine XS.lcmp X4.here hx rfl (hb hby d4_22) rfl ?_
    show Steps pg.tables ee below (T4.setTop (mkF mm 23 #[.val (.ref a), .val (.ref b), .val (.ref b)] [(.int (lcmpW e e'))])) _
    refine XS.ifNo X4.here hx rfl (hb hby d4_23) rfl ((if0 _ _).trans (teq c0).2) ?_
    show Steps pg.tables ee below (T4.setTop (mkF mm 26 #[.val (.ref a), .val (.ref b), .val (.ref b)] [])) _
    refine XS.aloadN X4.here hx rfl (hb hby d4_26) rfl rfl ?_
    show Steps pg.tables ee below (T4.setTop (mkF mm 27 #[.val (.ref a), .val (.ref b), .val (.ref b)] [(.ref a)])) _
    refine st5 _ ?_
    show Steps pg.tables ee below (T5.setTop (mkF mm 30 #[.val (.ref a), .val (.ref b), .val (.ref b)] [(.long l_)])) _
    refine XS.aloadN X5.here hx rfl (hb hby d4_30) rfl rfl ?_
    show Steps pg.tables ee below (T5.setTop (mkF mm 31 #[.val (.ref a), .val (.ref b), .val (.ref b)] [(.ref b), (.long l_)])) _
    refine st6 _ ?_
    show Steps pg.tables ee below (T6.setTop (mkF mm 34 #[.val (.ref a), .val (.ref b), .val (.ref b)] [(.long l'), (.long l_)])) _
    refine XS.lcmp X6.here hx rfl (hb hby d4_34) rfl ?_
    show Steps pg.tables ee below (T6.setTop (mkF mm 35 #[.val (.ref a), .val (.ref b), .val (.ref b)] [(.int (lcmpW l_ l'))])) _
    refine XS.ifNo X6.here hx rfl (hb hby d4_35) rfl ((if0 _ _).trans (teq c1).2) ?_
    show Steps pg.tables ee below (T6.setTop (mkF mm 38 #[.val (.ref a), .val (.ref b), .val (.ref b)] [])) _
    refine XS.aloadN X6.here hx rfl (hb hby d4_38) rfl rfl ?_
    show Steps pg.tables ee below (T6.setTop (mkF mm 39 #[.val (.ref a), .val (.ref b), .val (.ref b)] [(.ref a)])) _
    refine st7 _ ?_
    show Steps pg.tables ee below (T7.setTop (mkF mm 42 #[.val (.ref a), .val (.ref b), .val (.ref b)] [(.long d)])) _
    refine XS.aloadN X7.here hx rfl (hb hby d4_42) rfl rfl ?_
    show Steps pg.tables ee below (T7.setTop (mkF mm 43 #[.val (.ref a), .val (.ref b), .val (.ref b)] [(.ref b), (.long d)])) _
    refine st8 _ ?_
    show Steps pg.tables ee below (T8.setTop (mkF mm 46 #[.val (.ref a), .val (.ref b), .val (.ref b)] [(.long d'), (.long d)])) _
    refine XS.lcmp X8.here hx rfl (hb hby d4_46) rfl ?_
    show Steps pg.tables ee below (T8.setTop (mkF mm 47 #[.val (.ref a), .val (.ref b), .val (.ref b)] [(.int (lcmpW d d'))])) _
    refine XS.ifNo X8.here hx rfl (hb hby d4_47) rfl ((if0 _ _).trans (teq c2).2) ?_
    show Steps pg.tables ee below (T8.setTop (mkF mm 50 #[.val (.ref a), .val (.ref b), .val (.ref b)] [])) _
    refine XS.iconst X8.here hx rfl (hb hby d4_50) ?_
    show Steps pg.tables ee below (T8.setTop (mkF mm 51 #[.val (.ref a), .val (.ref b), .val (.ref b)] [(.int (1 : Int32))])) _
    refine XS.goto X8.here hx rfl (pc0 := 51) (pc' := 55) rfl (hb hby d4_51) (by decide) (by decide) ?_
    show Steps pg.tables ee below (T8.setTop (mkF mm 55 #[.val (.ref a), .val (.ref b), .val (.ref b)] [(.int (1 : Int32))])) _
    exact retN X8 hx (t := .boolean) Bd.returns (by simp) (hb hby d4_55) hr
  · show QrmQ3 Z a b e l_ d e' l' d' h0 n0 _ T8.heap _
    rw [e8]
    exact ⟨rfl, N0, rfl⟩
def QrmQS (Z : State) (a : Addr) (e : Int64) (l_ : Int64) (d : Int64) (h0 : Heap) (n0 : Nat) (v : Option Value) (h : Heap) (L : List Loc) : Prop := v = some (.int (1 : Int32)) ∧ Fr n0 L ∧ h = h0
set_option maxRecDepth 65536 in
set_option maxHeartbeats 40000000 in
theorem rmQS (l : Launch) (Z : State) (a0 : Array Value) (hw : ∀ d ∈ tables_1, d.before a0 Z = true) (ws : List Jvm.Cond) (a : Addr) (e : Int64) (l_ : Int64) (d : Int64) (h0 : Heap) (n0 : Nat) (O0 : Old Z n0 h0) (F0 : Fld Z h0 a "com/example/stops_to_routes/stopstoroutes/planner/Break" "earliest" "J" (.long e)) (F1 : Fld Z h0 a "com/example/stops_to_routes/stopstoroutes/planner/Break" "latest" "J" (.long l_)) (F2 : Fld Z h0 a "com/example/stops_to_routes/stopstoroutes/planner/Break" "duration" "J" (.long d)) (Ea : Exa Z h0 a "com/example/stops_to_routes/stopstoroutes/planner/Break") :
    MetFree l (⟨"com/example/stops_to_routes/stopstoroutes/planner/Break", "equals", "(Ljava/lang/Object;)Z"⟩ : MethodName) (head1 (Jvm.Cond.code (⟨"com/example/stops_to_routes/stopstoroutes/planner/Break", "equals", "(Ljava/lang/Object;)Z"⟩ : MethodName) prog_5_method_5_code 3 (some .boolean) :: ws) ({ frames := 0, cells := 0, slots := 0, locals := 0 } : Room)) (fun a_ U_ => a_ = #[(.ref a), (.ref a)] ∧ Z.Warmed39 U_.vm ∧ U_.heap = h0) (fun _ _ _ _ _ => True) (fun _ U_ o_ U'_ => ∃ v_ L_, o_ = .returned v_ ∧ QrmQS Z a e l_ d h0 n0 v_ U'_.heap L_ ∧ FrameEnd U_ o_ U'_ L_ ({ frames := 0, cells := 0, slots := 0, locals := 0 } : Room).cells ({ frames := 0, cells := 0, slots := 0, locals := 0 } : Room).slots) := by
  refine MetFree.of_bodySF (plainFor_of_name pn_12) hisR ?_
  intro pg ee s mm args below meth cc s₁ Bd hml0 hP hK
  obtain ⟨rfl, hZ, hh⟩ := hP
  have hx := Bd.exec
  have hby := Bd.bytes
  have hml : cc.maxLocals = 3 := hml0
  have hown : s.vm.findClass "com/example/stops_to_routes/stopstoroutes/planner/Break" = some mm.cls := findClass_of_methodNamed Bd.named
  have hnm := (name_of_methodNamed Bd.named Bd.method).1
  have X0 : Stand pg l ee ({ frames := 0, cells := 0, slots := 0, locals := 0 } : Room) s mm #[(.ref a), (.ref a)] below meth cc s₁ [] 0 0 := Stand.of_body Bd
  have e0 : s₁.heap = h0 := by rw [← hh, Bd.state]; rfl
  have N0 := Fr.nil n0
  have K0 : Keep h0 h0 ([] : List Addr) := Keep.refl _ _
  have pre0 : ∀ t, Steps pg.tables ee below (s₁.setTop (mkF mm 0 #[.val (.ref a), .val (.ref a), .unset] [])) t → Steps pg.tables ee below (s₁.setTop (entryFrame mm #[(.ref a), (.ref a)] 3)) t := fun t k => castTop (ef_4_66 mm a a) k
  obtain ⟨T1, X1, e1, st1⟩ := instY X0 hx hZ hown (hw _ (List.mem_of_getElem? (i := 28) rfl)) e0 (Ins.self Ea) (g := (mkF mm 1 #[.val (.ref a), .val (.ref a), .unset] [(.ref a)])) rfl rfl (hb hby d4_1)
  obtain ⟨T2, X2, e2, st2⟩ := castY X1 hx hZ hown (hw _ (List.mem_of_getElem? (i := 28) rfl)) e1 (Ins.self Ea) (g := (mkF mm 10 #[.val (.ref a), .val (.ref a), .unset] [(.ref a)])) rfl rfl (hb hby d4_10)
  obtain ⟨T3, X3, e3, st3⟩ := getF X2 hx hZ hown (host := "") (Or.inl (hw _ (List.mem_of_getElem? (i := 9) rfl))) Via.refl e2 F0 (g := (mkF mm 15 #[.val (.ref a), .val (.ref a), .val (.ref a)] [(.ref a)])) rfl rfl (hb hby d4_15)
  obtain ⟨T4, X4, e4, st4⟩ := getF X3 hx hZ hown (host := "") (Or.inl (hw _ (List.mem_of_getElem? (i := 9) rfl))) Via.refl e3 F0 (g := (mkF mm 19 #[.val (.ref a), .val (.ref a), .val (.ref a)] [(.ref a), (.long e)])) rfl rfl (hb hby d4_19)
  obtain ⟨T5, X5, e5, st5⟩ := getF X4 hx hZ hown (host := "") (Or.inl (hw _ (List.mem_of_getElem? (i := 11) rfl))) Via.refl e4 F1 (g := (mkF mm 27 #[.val (.ref a), .val (.ref a), .val (.ref a)] [(.ref a)])) rfl rfl (hb hby d4_27)
  obtain ⟨T6, X6, e6, st6⟩ := getF X5 hx hZ hown (host := "") (Or.inl (hw _ (List.mem_of_getElem? (i := 11) rfl))) Via.refl e5 F1 (g := (mkF mm 31 #[.val (.ref a), .val (.ref a), .val (.ref a)] [(.ref a), (.long l_)])) rfl rfl (hb hby d4_31)
  obtain ⟨T7, X7, e7, st7⟩ := getF X6 hx hZ hown (host := "") (Or.inl (hw _ (List.mem_of_getElem? (i := 13) rfl))) Via.refl e6 F2 (g := (mkF mm 39 #[.val (.ref a), .val (.ref a), .val (.ref a)] [(.ref a)])) rfl rfl (hb hby d4_39)
  obtain ⟨T8, X8, e8, st8⟩ := getF X7 hx hZ hown (host := "") (Or.inl (hw _ (List.mem_of_getElem? (i := 13) rfl))) Via.refl e7 F2 (g := (mkF mm 43 #[.val (.ref a), .val (.ref a), .val (.ref a)] [(.ref a), (.long d)])) rfl rfl (hb hby d4_43)
  obtain ⟨fs, hr, hrun, hended, hW, hsame⟩ := X8.leave (v := some (.int (1 : Int32))) (fun h => by rw [Bd.returns] at h; cases h)
  refine ⟨_, _, pre0 _ ?_, hrun, hended, _, _, rfl, ?_, ⟨_, rfl⟩, hW, hsame.mono (by decide) (by decide)⟩
  · show Steps pg.tables ee below (s₁.setTop (mkF mm 0 #[.val (.ref a), .val (.ref a), .unset] [])) _
    refine XS.aloadN X0.here hx rfl (hb hby d4_0) rfl rfl ?_
    show Steps pg.tables ee below (s₁.setTop (mkF mm 1 #[.val (.ref a), .val (.ref a), .unset] [(.ref a)])) _
    refine st1 _ ?_
    show Steps pg.tables ee below (T1.setTop (mkF mm 4 #[.val (.ref a), .val (.ref a), .unset] [(.int (1 : Int32))])) _
    refine XS.ifYes X1.here hx rfl (pc0 := 4) (pc' := 9) rfl (hb hby d4_4) rfl ((if0 _ _).trans (feq (by decide : ¬ ((1 : Int32) = (0 : Int32)))).2) (by decide) (by decide) ?_
    show Steps pg.tables ee below (T1.setTop (mkF mm 9 #[.val (.ref a), .val (.ref a), .unset] [])) _
    refine XS.aloadN X1.here hx rfl (hb hby d4_9) rfl rfl ?_
    show Steps pg.tables ee below (T1.setTop (mkF mm 10 #[.val (.ref a), .val (.ref a), .unset] [(.ref a)])) _
    refine st2 _ ?_
    show Steps pg.tables ee below (T2.setTop (mkF mm 13 #[.val (.ref a), .val (.ref a), .unset] [(.ref a)])) _
    refine XS.astoreN X2.here hx rfl (hb hby d4_13) rfl rfl (l' := #[.val (.ref a), .val (.ref a), .val (.ref a)]) rfl ?_
    show Steps pg.tables ee below (T2.setTop (mkF mm 14 #[.val (.ref a), .val (.ref a), .val (.ref a)] [])) _
    refine XS.aloadN X2.here hx rfl (hb hby d4_14) rfl rfl ?_
    show Steps pg.tables ee below (T2.setTop (mkF mm 15 #[.val (.ref a), .val (.ref a), .val (.ref a)] [(.ref a)])) _
    refine st3 _ ?_
    show Steps pg.tables ee below (T3.setTop (mkF mm 18 #[.val (.ref a), .val (.ref a), .val (.ref a)] [(.long e)])) _
    refine XS.aloadN X3.here hx rfl (hb hby d4_18) rfl rfl ?_
    show Steps pg.tables ee below (T3.setTop (mkF mm 19 #[.val (.ref a), .val (.ref a), .val (.ref a)] [(.ref a), (.long e)])) _
    refine st4 _ ?_
    show Steps pg.tables ee below (T4.setTop (mkF mm 22 #[.val (.ref a), .val (.ref a), .val (.ref a)] [(.long e), (.long e)])) _
    refine XS.lcmp X4.here hx rfl (hb hby d4_22) rfl ?_
    show Steps pg.tables ee below (T4.setTop (mkF mm 23 #[.val (.ref a), .val (.ref a), .val (.ref a)] [(.int (lcmpW e e))])) _
    refine XS.ifNo X4.here hx rfl (hb hby d4_23) rfl ((if0 _ _).trans (teq ((lw_eq _ _).mpr rfl)).2) ?_
    show Steps pg.tables ee below (T4.setTop (mkF mm 26 #[.val (.ref a), .val (.ref a), .val (.ref a)] [])) _
    refine XS.aloadN X4.here hx rfl (hb hby d4_26) rfl rfl ?_
    show Steps pg.tables ee below (T4.setTop (mkF mm 27 #[.val (.ref a), .val (.ref a), .val (.ref a)] [(.ref a)])) _
    refine st5 _ ?_
    show Steps pg.tables ee below (T5.setTop (mkF mm 30 #[.val (.ref a), .val (.ref a), .val (.ref a)] [(.long l_)])) _
    refine XS.aloadN X5.here hx rfl (hb hby d4_30) rfl rfl ?_
    show Steps pg.tables ee below (T5.setTop (mkF mm 31 #[.val (.ref a), .val (.ref a), .val (.ref a)] [(.ref a), (.long l_)])) _
    refine st6 _ ?_
    show Steps pg.tables ee below (T6.setTop (mkF mm 34 #[.val (.ref a), .val (.ref a), .val (.ref a)] [(.long l_), (.long l_)])) _
    refine XS.lcmp X6.here hx rfl (hb hby d4_34) rfl ?_
    show Steps pg.tables ee below (T6.setTop (mkF mm 35 #[.val (.ref a), .val (.ref a), .val (.ref a)] [(.int (lcmpW l_ l_))])) _
    refine XS.ifNo X6.here hx rfl (hb hby d4_35) rfl ((if0 _ _).trans (teq ((lw_eq _ _).mpr rfl)).2) ?_
    show Steps pg.tables ee below (T6.setTop (mkF mm 38 #[.val (.ref a), .val (.ref a), .val (.ref a)] [])) _
    refine XS.aloadN X6.here hx rfl (hb hby d4_38) rfl rfl ?_
    show Steps pg.tables ee below (T6.setTop (mkF mm 39 #[.val (.ref a), .val (.ref a), .val (.ref a)] [(.ref a)])) _
    refine st7 _ ?_
    show Steps pg.tables ee below (T7.setTop (mkF mm 42 #[.val (.ref a), .val (.ref a), .val (.ref a)] [(.long d)])) _
    refine XS.aloadN X7.here hx rfl (hb hby d4_42) rfl rfl ?_
    show Steps pg.tables ee below (T7.setTop (mkF mm 43 #[.val (.ref a), .val (.ref a), .val (.ref a)] [(.ref a), (.long d)])) _
    refine st8 _ ?_
    show Steps pg.tables ee below (T8.setTop (mkF mm 46 #[.val (.ref a), .val (.ref a), .val (.ref a)] [(.long d), (.long d)])) _
    refine XS.lcmp X8.here hx rfl (hb hby d4_46) rfl ?_
    show Steps pg.tables ee below (T8.setTop (mkF mm 47 #[.val (.ref a), .val (.ref a), .val (.ref a)] [(.int (lcmpW d d))])) _
    refine XS.ifNo X8.here hx rfl (hb hby d4_47) rfl ((if0 _ _).trans (teq ((lw_eq _ _).mpr rfl)).2) ?_
    show Steps pg.tables ee below (T8.setTop (mkF mm 50 #[.val (.ref a), .val (.ref a), .val (.ref a)] [])) _
    refine XS.iconst X8.here hx rfl (hb hby d4_50) ?_
    show Steps pg.tables ee below (T8.setTop (mkF mm 51 #[.val (.ref a), .val (.ref a), .val (.ref a)] [(.int (1 : Int32))])) _
    refine XS.goto X8.here hx rfl (pc0 := 51) (pc' := 55) rfl (hb hby d4_51) (by decide) (by decide) ?_
    show Steps pg.tables ee below (T8.setTop (mkF mm 55 #[.val (.ref a), .val (.ref a), .val (.ref a)] [(.int (1 : Int32))])) _
    exact retN X8 hx (t := .boolean) Bd.returns (by simp) (hb hby d4_55) hr
  · show QrmQS Z a e l_ d h0 n0 _ T8.heap _
    rw [e8]
    exact ⟨rfl, N0, rfl⟩
theorem d4_7 : decode prog_5_method_5_code 7 = .ok (.iconst 0, 1) := by decide +kernel
theorem d4_8 : decode prog_5_method_5_code 8 = .ok (.ireturn, 1) := by decide +kernel
theorem ef_4_83 (m : MethodId) (x0 : Addr) : entryFrame m #[(.ref x0), .null] 3 = mkF m 0 #[.val (.ref x0), .val .null, .unset] [] := by first | (simp [entryFrame, mkF, argsToLocals, Value.category]; done) | rfl
def QrmQN (Z : State) (a : Addr) (h0 : Heap) (n0 : Nat) (v : Option Value) (h : Heap) (L : List Loc) : Prop := v = some (.int (0 : Int32)) ∧ Fr n0 L ∧ h = h0
set_option maxRecDepth 65536 in
set_option maxHeartbeats 40000000 in
theorem rmQN (l : Launch) (Z : State) (a0 : Array Value) (hw : ∀ d ∈ tables_1, d.before a0 Z = true) (ws : List Jvm.Cond) (a : Addr) (h0 : Heap) (n0 : Nat) (O0 : Old Z n0 h0)  :
    MetFree l (⟨"com/example/stops_to_routes/stopstoroutes/planner/Break", "equals", "(Ljava/lang/Object;)Z"⟩ : MethodName) (head1 (Jvm.Cond.code (⟨"com/example/stops_to_routes/stopstoroutes/planner/Break", "equals", "(Ljava/lang/Object;)Z"⟩ : MethodName) prog_5_method_5_code 3 (some .boolean) :: ws) ({ frames := 0, cells := 0, slots := 0, locals := 0 } : Room)) (fun a_ U_ => a_ = #[(.ref a), .null] ∧ Z.Warmed39 U_.vm ∧ U_.heap = h0) (fun _ _ _ _ _ => True) (fun _ U_ o_ U'_ => ∃ v_ L_, o_ = .returned v_ ∧ QrmQN Z a h0 n0 v_ U'_.heap L_ ∧ FrameEnd U_ o_ U'_ L_ ({ frames := 0, cells := 0, slots := 0, locals := 0 } : Room).cells ({ frames := 0, cells := 0, slots := 0, locals := 0 } : Room).slots) := by
  refine MetFree.of_bodySF (plainFor_of_name pn_12) hisR ?_
  intro pg ee s mm args below meth cc s₁ Bd hml0 hP hK
  obtain ⟨rfl, hZ, hh⟩ := hP
  have hx := Bd.exec
  have hby := Bd.bytes
  have hml : cc.maxLocals = 3 := hml0
  have hown : s.vm.findClass "com/example/stops_to_routes/stopstoroutes/planner/Break" = some mm.cls := findClass_of_methodNamed Bd.named
  have hnm := (name_of_methodNamed Bd.named Bd.method).1
  have X0 : Stand pg l ee ({ frames := 0, cells := 0, slots := 0, locals := 0 } : Room) s mm #[(.ref a), .null] below meth cc s₁ [] 0 0 := Stand.of_body Bd
  have e0 : s₁.heap = h0 := by rw [← hh, Bd.state]; rfl
  have N0 := Fr.nil n0
  have K0 : Keep h0 h0 ([] : List Addr) := Keep.refl _ _
  have pre0 : ∀ t, Steps pg.tables ee below (s₁.setTop (mkF mm 0 #[.val (.ref a), .val .null, .unset] [])) t → Steps pg.tables ee below (s₁.setTop (entryFrame mm #[(.ref a), .null] 3)) t := fun t k => castTop (ef_4_83 mm a) k
  obtain ⟨fs, hr, hrun, hended, hW, hsame⟩ := X0.leave (v := some (.int (0 : Int32))) (fun h => by rw [Bd.returns] at h; cases h)
  refine ⟨_, _, pre0 _ ?_, hrun, hended, _, _, rfl, ?_, ⟨_, rfl⟩, hW, hsame.mono (by decide) (by decide)⟩
  · show Steps pg.tables ee below (s₁.setTop (mkF mm 0 #[.val (.ref a), .val .null, .unset] [])) _
    refine XS.aloadN X0.here hx rfl (hb hby d4_0) rfl rfl ?_
    show Steps pg.tables ee below (s₁.setTop (mkF mm 1 #[.val (.ref a), .val .null, .unset] [.null])) _
    refine X0.instanceofNull hx (g := (mkF mm 1 #[.val (.ref a), .val .null, .unset] [.null])) rfl rfl (hb hby d4_1) _ ?_
    show Steps pg.tables ee below (s₁.setTop (mkF mm 4 #[.val (.ref a), .val .null, .unset] [(.int (0 : Int32))])) _
    refine XS.ifNo X0.here hx rfl (hb hby d4_4) rfl ((if0 _ _).trans (teq (by decide : (0 : Int32) = (0 : Int32))).2) ?_
    show Steps pg.tables ee below (s₁.setTop (mkF mm 7 #[.val (.ref a), .val .null, .unset] [])) _
    refine XS.iconst X0.here hx rfl (hb hby d4_7) ?_
    show Steps pg.tables ee below (s₁.setTop (mkF mm 8 #[.val (.ref a), .val .null, .unset] [(.int (0 : Int32))])) _
    exact retN X0 hx (t := .boolean) Bd.returns (by simp) (hb hby d4_8) hr
  · show QrmQN Z a h0 n0 _ s₁.heap _
    rw [e0]
    exact ⟨rfl, N0, rfl⟩
def QrmQO (Z : State) (a : Addr) (b : Addr) (h0 : Heap) (n0 : Nat) (v : Option Value) (h : Heap) (L : List Loc) : Prop := v = some (.int (0 : Int32)) ∧ Fr n0 L ∧ h = h0
set_option maxRecDepth 65536 in
set_option maxHeartbeats 40000000 in
theorem rmQO (l : Launch) (Z : State) (a0 : Array Value) (hw : ∀ d ∈ tables_1, d.before a0 Z = true) (ws : List Jvm.Cond) (a : Addr) (b : Addr) (h0 : Heap) (n0 : Nat) (O0 : Old Z n0 h0) (Eb : Exa Z h0 b "java/lang/Long") :
    MetFree l (⟨"com/example/stops_to_routes/stopstoroutes/planner/Break", "equals", "(Ljava/lang/Object;)Z"⟩ : MethodName) (head1 (Jvm.Cond.code (⟨"com/example/stops_to_routes/stopstoroutes/planner/Break", "equals", "(Ljava/lang/Object;)Z"⟩ : MethodName) prog_5_method_5_code 3 (some .boolean) :: ws) ({ frames := 0, cells := 0, slots := 0, locals := 0 } : Room)) (fun a_ U_ => a_ = #[(.ref a), (.ref b)] ∧ Z.Warmed39 U_.vm ∧ U_.heap = h0) (fun _ _ _ _ _ => True) (fun _ U_ o_ U'_ => ∃ v_ L_, o_ = .returned v_ ∧ QrmQO Z a b h0 n0 v_ U'_.heap L_ ∧ FrameEnd U_ o_ U'_ L_ ({ frames := 0, cells := 0, slots := 0, locals := 0 } : Room).cells ({ frames := 0, cells := 0, slots := 0, locals := 0 } : Room).slots) := by
  refine MetFree.of_bodySF (plainFor_of_name pn_12) hisR ?_
  intro pg ee s mm args below meth cc s₁ Bd hml0 hP hK
  obtain ⟨rfl, hZ, hh⟩ := hP
  have hx := Bd.exec
  have hby := Bd.bytes
  have hml : cc.maxLocals = 3 := hml0
  have hown : s.vm.findClass "com/example/stops_to_routes/stopstoroutes/planner/Break" = some mm.cls := findClass_of_methodNamed Bd.named
  have hnm := (name_of_methodNamed Bd.named Bd.method).1
  have X0 : Stand pg l ee ({ frames := 0, cells := 0, slots := 0, locals := 0 } : Room) s mm #[(.ref a), (.ref b)] below meth cc s₁ [] 0 0 := Stand.of_body Bd
  have e0 : s₁.heap = h0 := by rw [← hh, Bd.state]; rfl
  have N0 := Fr.nil n0
  have K0 : Keep h0 h0 ([] : List Addr) := Keep.refl _ _
  have pre0 : ∀ t, Steps pg.tables ee below (s₁.setTop (mkF mm 0 #[.val (.ref a), .val (.ref b), .unset] [])) t → Steps pg.tables ee below (s₁.setTop (entryFrame mm #[(.ref a), (.ref b)] 3)) t := fun t k => castTop (ef_4_66 mm a b) k
  obtain ⟨T1, X1, e1, st1⟩ := instNo X0 hx hZ hown (hw _ (List.mem_of_getElem? (i := 28) rfl)) e0 Eb (own_no (hw _ (List.mem_of_getElem? (i := 29) rfl)) (hw _ (List.mem_of_getElem? (i := 1) rfl)) (NS.step (hw _ (List.mem_of_getElem? (i := 29) rfl)) (NS.step (hw _ (List.mem_of_getElem? (i := 30) rfl)) (own_root (hw _ (List.mem_of_getElem? (i := 31) rfl)) (hw _ (List.mem_of_getElem? (i := 1) rfl)) (by decide)) (by decide)) (by decide)) (by decide)) (g := (mkF mm 1 #[.val (.ref a), .val (.ref b), .unset] [(.ref b)])) rfl rfl (hb hby d4_1)
  obtain ⟨fs, hr, hrun, hended, hW, hsame⟩ := X1.leave (v := some (.int (0 : Int32))) (fun h => by rw [Bd.returns] at h; cases h)
  refine ⟨_, _, pre0 _ ?_, hrun, hended, _, _, rfl, ?_, ⟨_, rfl⟩, hW, hsame.mono (by decide) (by decide)⟩
  · show Steps pg.tables ee below (s₁.setTop (mkF mm 0 #[.val (.ref a), .val (.ref b), .unset] [])) _
    refine XS.aloadN X0.here hx rfl (hb hby d4_0) rfl rfl ?_
    show Steps pg.tables ee below (s₁.setTop (mkF mm 1 #[.val (.ref a), .val (.ref b), .unset] [(.ref b)])) _
    refine st1 _ ?_
    show Steps pg.tables ee below (T1.setTop (mkF mm 4 #[.val (.ref a), .val (.ref b), .unset] [(.int (0 : Int32))])) _
    refine XS.ifNo X1.here hx rfl (hb hby d4_4) rfl ((if0 _ _).trans (teq (by decide : (0 : Int32) = (0 : Int32))).2) ?_
    show Steps pg.tables ee below (T1.setTop (mkF mm 7 #[.val (.ref a), .val (.ref b), .unset] [])) _
    refine XS.iconst X1.here hx rfl (hb hby d4_7) ?_
    show Steps pg.tables ee below (T1.setTop (mkF mm 8 #[.val (.ref a), .val (.ref b), .unset] [(.int (0 : Int32))])) _
    exact retN X1 hx (t := .boolean) Bd.returns (by simp) (hb hby d4_8) hr
  · show QrmQO Z a b h0 n0 _ T1.heap _
    rw [e1]
    exact ⟨rfl, N0, rfl⟩
theorem pd_84 : parseMethodDescriptor "(JJJ)V" = some ⟨[.long, .long, .long], none⟩ := by decide +kernel
theorem pd_85 : parseMethodDescriptor "(J)Ljava/lang/Long;" = some ⟨[.long], some (.object "java/lang/Long")⟩ := by decide +kernel
theorem pd_86 : parseMethodDescriptor "(Ljava/lang/Object;)Z" = some ⟨[(.object "java/lang/Object")], some .boolean⟩ := by decide +kernel
theorem pn_87 : plainName "com/example/stops_to_routes/stopstoroutes/planner/BreakEqualsPinLaw" = true := by first | (simp [plainName, overriddenIn]; done) | decide +kernel
theorem ef_0_88 (m : MethodId) (x0 : Int64) (x1 : Int64) (x2 : Int64) (x3 : Int64) (x4 : Int64) (x5 : Int64) : entryFrame m #[(.long x0), (.long x1), (.long x2), (.long x3), (.long x4), (.long x5)] maxLocals = mkF m 0 #[.val (.long x0), .second, .val (.long x1), .second, .val (.long x2), .second, .val (.long x3), .second, .val (.long x4), .second, .val (.long x5), .second, .unset, .unset, .unset, .unset, .unset, .unset, .unset, .unset, .unset, .unset, .unset, .unset] [] := by first | (simp [entryFrame, mkF, argsToLocals, Value.category, maxLocals]; done) | rfl
def Qrm0 (Z : State) (q0 : Int64) (q1 : Int64) (q2 : Int64) (q3 : Int64) (q4 : Int64) (q5 : Int64) (ca : Addr) (cl : Cell) (val : Int32 → Value) (h0 : Heap) (n0 : Nat) (v : Option Value) (h : Heap) (L : List Loc) : Prop := v = some (.int (1 : Int32)) ∧ Fr n0 L
set_option maxRecDepth 65536 in
set_option maxHeartbeats 40000000 in
theorem rm0 (l : Launch) (Z : State) (a0 : Array Value) (hw : ∀ d ∈ tables_1, d.before a0 Z = true) (ws : List Jvm.Cond) (q0 : Int64) (q1 : Int64) (q2 : Int64) (q3 : Int64) (q4 : Int64) (q5 : Int64) (ca : Addr) (cl : Cell) (val : Int32 → Value) (h0 : Heap) (n0 : Nat) (O0 : Old Z n0 h0) (S_cache : Sta Z Z.heap "java/lang/Long$LongCache" "cache" "[Ljava/lang/Long;" (.ref ca)) (BX : Bxs Z ca cl "java/lang/Long" "J" (256 : Int32) val) :
    MetFree l x (head1 (Jvm.Cond.code x code maxLocals ret :: ws) room_1) (fun a_ U_ => a_ = #[(.long q0), (.long q1), (.long q2), (.long q3), (.long q4), (.long q5)] ∧ Z.Warmed39 U_.vm ∧ U_.heap = h0) (fun _ _ _ _ _ => True) (fun _ U_ o_ U'_ => ∃ v_ L_, o_ = .returned v_ ∧ Qrm0 Z q0 q1 q2 q3 q4 q5 ca cl val h0 n0 v_ U'_.heap L_ ∧ FrameEnd U_ o_ U'_ L_ 4 10) := by
  refine MetFree.of_bodySF (plainFor_of_name pn_87) hisR ?_
  intro pg ee s mm args below meth cc s₁ Bd hml0 hP hK
  obtain ⟨rfl, hZ, hh⟩ := hP
  have hx := Bd.exec
  have hby := Bd.bytes
  have hml : cc.maxLocals = 24 := hml0
  have hown : s.vm.findClass "com/example/stops_to_routes/stopstoroutes/planner/BreakEqualsPinLaw" = some mm.cls := findClass_of_methodNamed Bd.named
  have hnm := (name_of_methodNamed Bd.named Bd.method).1
  have X0 : Stand pg l ee room_1 s mm #[(.long q0), (.long q1), (.long q2), (.long q3), (.long q4), (.long q5)] below meth cc s₁ [] 0 0 := Stand.of_body Bd
  have e0 : s₁.heap = h0 := by rw [← hh, Bd.state]; rfl
  have N0 := Fr.nil n0
  have K0 : Keep h0 h0 ([] : List Addr) := Keep.refl _ _
  have pre0 : ∀ t, Steps pg.tables ee below (s₁.setTop (mkF mm 0 #[.val (.long q0), .second, .val (.long q1), .second, .val (.long q2), .second, .val (.long q3), .second, .val (.long q4), .second, .val (.long q5), .second, .unset, .unset, .unset, .unset, .unset, .unset, .unset, .unset, .unset, .unset, .unset, .unset] [])) t → Steps pg.tables ee below (s₁.setTop (entryFrame mm #[(.long q0), (.long q1), (.long q2), (.long q3), (.long q4), (.long q5)] maxLocals)) t := fun t k => castTop (ef_0_88 mm q0 q1 q2 q3 q4 q5) k
  obtain ⟨T1, h1, X1, e1, E1, A1, D1, -, st1⟩ := newO X0 hx hZ hown (hw _ (List.mem_of_getElem? (i := 0) rfl)) (hw _ (List.mem_of_getElem? (i := 1) rfl)) (hw _ (List.mem_of_getElem? (i := 2) rfl)) e0 (g := (mkF mm 19 #[.val (.long q0), .second, .val (.long q1), .second, .val (.long q2), .second, .val (.long q3), .second, .val (.long q4), .second, .val (.long q5), .second, .val (.long (q0 ^^^ q3)), .second, .val (.long (q1 ^^^ q4)), .second, .val (.long (q2 ^^^ q5)), .second, .unset, .unset, .unset, .unset, .unset, .unset] [])) rfl (hb hby at_19) (by decide) (by decide)
  obtain ⟨b1, g1⟩ : ∃ z, z = h0.size := ⟨_, rfl⟩
  rw [← g1] at A1 D1 st1
  have g_b1 : n0 ≤ b1 := Nat.le_trans (O0.1 ▸ O0.2.1) (Nat.le_of_eq g1.symm)
  have sz_b1 : h0.size ≤ b1 := Nat.le_trans K0.1 (Nat.le_of_eq g1.symm)
  have O1 := O0.ext E1
  have KK1 := K0.ext E1
  have F_earliest_b1 : Fld Z h1 b1 "com/example/stops_to_routes/stopstoroutes/planner/Break" "earliest" "J" (.long (0 : Int64)) := D1 (Or.inr (hw _ (List.mem_of_getElem? (i := 10) rfl))) (ty := .long) (by decide)
  have F_latest_b1 : Fld Z h1 b1 "com/example/stops_to_routes/stopstoroutes/planner/Break" "latest" "J" (.long (0 : Int64)) := D1 (Or.inr (hw _ (List.mem_of_getElem? (i := 12) rfl))) (ty := .long) (by decide)
  have F_duration_b1 : Fld Z h1 b1 "com/example/stops_to_routes/stopstoroutes/planner/Break" "duration" "J" (.long (0 : Int64)) := D1 (Or.inr (hw _ (List.mem_of_getElem? (i := 14) rfl))) (ty := .long) (by decide)
  obtain ⟨_, _, ⟨T2, L2, k2, n2⟩, -, X2, ⟨Lc2, hQ2, l2, y2, z2⟩, st2⟩ := X1.specialBack hx (y := (⟨"com/example/stops_to_routes/stopstoroutes/planner/Break", "<init>", "(JJJ)V"⟩ : MethodName)) rfl hown (mvT hZ (hw _ (List.mem_of_getElem? (i := 3) rfl))) (mvT hZ (hw _ (List.mem_of_getElem? (i := 4) rfl))) (mvT hZ (hw _ (List.mem_of_getElem? (i := 5) rfl))) (by decide) (backOf (W := 1) (rmI l Z a0 hw [] b1 q0 q1 q2 h1 n0 O1 A1 F_earliest_b1 F_latest_b1 F_duration_b1 g_b1 ) hZ (hw _ (List.mem_of_getElem? (i := 5) rfl)) (hw _ (List.mem_of_getElem? (i := 2) rfl)) (by decide) (by decide)) (g := (mkF mm 27 #[.val (.long q0), .second, .val (.long q1), .second, .val (.long q2), .second, .val (.long q3), .second, .val (.long q4), .second, .val (.long q5), .second, .val (.long (q0 ^^^ q3)), .second, .val (.long (q1 ^^^ q4)), .second, .val (.long (q2 ^^^ q5)), .second, .unset, .unset, .unset, .unset, .unset, .unset] [(.long q2), (.long q1), (.long q0), (.ref b1), (.ref b1)])) rfl (by rw [hml]; rfl) (Steps.refl _) (a := b1) (argsL := [(.long q0), (.long q1), (.long q2)]) (rest := [(.ref b1)]) (lenOf pd_84 rfl) rfl (by show 2 * 0 + _ ≤ _; exact Nat.le_of_eq rfl) (hb hby at_27) (fun _ _ => ⟨rfl, e1, (by decide : 1 + 0 ≤ _), (by decide : 3 + 0 ≤ _)⟩)
  dsimp only [Pt.U, Pt.locs, Pt.cells, Pt.slots] at X2 l2 y2 z2 st2 hQ2
  subst l2 y2 z2
  obtain ⟨rfl, N2q, K2, Ex2, Fv0_2, Fv1_2, Fv2_2⟩ := hQ2
  have O2 := O1.keep K2 (allS g_b1 all0)
  have KK2 := KK1.trans K2 (allS (Or.inr sz_b1) all0)
  have N2 := Fr.app N0 N2q
  obtain ⟨T3, h3, X3, e3, E3, A3, D3, -, st3⟩ := newO X2 hx hZ hown (hw _ (List.mem_of_getElem? (i := 0) rfl)) (hw _ (List.mem_of_getElem? (i := 1) rfl)) (hw _ (List.mem_of_getElem? (i := 2) rfl)) rfl (g := (mkF mm 32 #[.val (.long q0), .second, .val (.long q1), .second, .val (.long q2), .second, .val (.long q3), .second, .val (.long q4), .second, .val (.long q5), .second, .val (.long (q0 ^^^ q3)), .second, .val (.long (q1 ^^^ q4)), .second, .val (.long (q2 ^^^ q5)), .second, .val (.ref b1), .unset, .unset, .unset, .unset, .unset] [])) rfl (hb hby at_32) (by decide) (by decide)
  obtain ⟨b3, g3⟩ : ∃ z, z = T2.heap.size := ⟨_, rfl⟩
  rw [← g3] at A3 D3 st3
  have g_b3 : n0 ≤ b3 := Nat.le_trans (O2.1 ▸ O2.2.1) (Nat.le_of_eq g3.symm)
  have sz_b3 : h0.size ≤ b3 := Nat.le_trans KK2.1 (Nat.le_of_eq g3.symm)
  have O3 := O2.ext E3
  have KK3 := KK2.ext E3
  have F_earliest_b3 : Fld Z h3 b3 "com/example/stops_to_routes/stopstoroutes/planner/Break" "earliest" "J" (.long (0 : Int64)) := D3 (Or.inr (hw _ (List.mem_of_getElem? (i := 10) rfl))) (ty := .long) (by decide)
  have F_latest_b3 : Fld Z h3 b3 "com/example/stops_to_routes/stopstoroutes/planner/Break" "latest" "J" (.long (0 : Int64)) := D3 (Or.inr (hw _ (List.mem_of_getElem? (i := 12) rfl))) (ty := .long) (by decide)
  have F_duration_b3 : Fld Z h3 b3 "com/example/stops_to_routes/stopstoroutes/planner/Break" "duration" "J" (.long (0 : Int64)) := D3 (Or.inr (hw _ (List.mem_of_getElem? (i := 14) rfl))) (ty := .long) (by decide)
  obtain ⟨_, _, ⟨T4, L4, k4, n4⟩, -, X4, ⟨Lc4, hQ4, l4, y4, z4⟩, st4⟩ := X3.specialBack hx (y := (⟨"com/example/stops_to_routes/stopstoroutes/planner/Break", "<init>", "(JJJ)V"⟩ : MethodName)) rfl hown (mvT hZ (hw _ (List.mem_of_getElem? (i := 3) rfl))) (mvT hZ (hw _ (List.mem_of_getElem? (i := 4) rfl))) (mvT hZ (hw _ (List.mem_of_getElem? (i := 5) rfl))) (by decide) (backOf (W := 1) (rmI l Z a0 hw [] b3 q0 q1 q2 h3 n0 O3 A3 F_earliest_b3 F_latest_b3 F_duration_b3 g_b3 ) hZ (hw _ (List.mem_of_getElem? (i := 5) rfl)) (hw _ (List.mem_of_getElem? (i := 2) rfl)) (by decide) (by decide)) (g := (mkF mm 40 #[.val (.long q0), .second, .val (.long q1), .second, .val (.long q2), .second, .val (.long q3), .second, .val (.long q4), .second, .val (.long q5), .second, .val (.long (q0 ^^^ q3)), .second, .val (.long (q1 ^^^ q4)), .second, .val (.long (q2 ^^^ q5)), .second, .val (.ref b1), .unset, .unset, .unset, .unset, .unset] [(.long q2), (.long q1), (.long q0), (.ref b3), (.ref b3)])) rfl (by rw [hml]; rfl) (Steps.refl _) (a := b3) (argsL := [(.long q0), (.long q1), (.long q2)]) (rest := [(.ref b3)]) (lenOf pd_84 rfl) rfl (by show 2 * 0 + _ ≤ _; exact Nat.le_of_eq rfl) (hb hby at_40) (fun _ _ => ⟨rfl, e3, (by decide : 2 + 0 ≤ _), (by decide : 6 + 0 ≤ _)⟩)
  dsimp only [Pt.U, Pt.locs, Pt.cells, Pt.slots] at X4 l4 y4 z4 st4 hQ4
  subst l4 y4 z4
  obtain ⟨rfl, N4q, K4, Ex4, Fv0_4, Fv1_4, Fv2_4⟩ := hQ4
  have O4 := O3.keep K4 (allS g_b3 all0)
  have KK4 := KK3.trans K4 (allS (Or.inr sz_b3) all0)
  have N4 := Fr.app N2 N4q
  obtain ⟨T5, h5, X5, e5, E5, A5, D5, -, st5⟩ := newO X4 hx hZ hown (hw _ (List.mem_of_getElem? (i := 0) rfl)) (hw _ (List.mem_of_getElem? (i := 1) rfl)) (hw _ (List.mem_of_getElem? (i := 2) rfl)) rfl (g := (mkF mm 45 #[.val (.long q0), .second, .val (.long q1), .second, .val (.long q2), .second, .val (.long q3), .second, .val (.long q4), .second, .val (.long q5), .second, .val (.long (q0 ^^^ q3)), .second, .val (.long (q1 ^^^ q4)), .second, .val (.long (q2 ^^^ q5)), .second, .val (.ref b1), .val (.ref b3), .unset, .unset, .unset, .unset] [])) rfl (hb hby at_45) (by decide) (by decide)
  obtain ⟨b5, g5⟩ : ∃ z, z = T4.heap.size := ⟨_, rfl⟩
  rw [← g5] at A5 D5 st5
  have g_b5 : n0 ≤ b5 := Nat.le_trans (O4.1 ▸ O4.2.1) (Nat.le_of_eq g5.symm)
  have sz_b5 : h0.size ≤ b5 := Nat.le_trans KK4.1 (Nat.le_of_eq g5.symm)
  have O5 := O4.ext E5
  have KK5 := KK4.ext E5
  have F_earliest_b5 : Fld Z h5 b5 "com/example/stops_to_routes/stopstoroutes/planner/Break" "earliest" "J" (.long (0 : Int64)) := D5 (Or.inr (hw _ (List.mem_of_getElem? (i := 10) rfl))) (ty := .long) (by decide)
  have F_latest_b5 : Fld Z h5 b5 "com/example/stops_to_routes/stopstoroutes/planner/Break" "latest" "J" (.long (0 : Int64)) := D5 (Or.inr (hw _ (List.mem_of_getElem? (i := 12) rfl))) (ty := .long) (by decide)
  have F_duration_b5 : Fld Z h5 b5 "com/example/stops_to_routes/stopstoroutes/planner/Break" "duration" "J" (.long (0 : Int64)) := D5 (Or.inr (hw _ (List.mem_of_getElem? (i := 14) rfl))) (ty := .long) (by decide)
  obtain ⟨_, _, ⟨T6, L6, k6, n6⟩, -, X6, ⟨Lc6, hQ6, l6, y6, z6⟩, st6⟩ := X5.specialBack hx (y := (⟨"com/example/stops_to_routes/stopstoroutes/planner/Break", "<init>", "(JJJ)V"⟩ : MethodName)) rfl hown (mvT hZ (hw _ (List.mem_of_getElem? (i := 3) rfl))) (mvT hZ (hw _ (List.mem_of_getElem? (i := 4) rfl))) (mvT hZ (hw _ (List.mem_of_getElem? (i := 5) rfl))) (by decide) (backOf (W := 1) (rmI l Z a0 hw [] b5 (q0 ^^^ q3) (q1 ^^^ q4) (q2 ^^^ q5) h5 n0 O5 A5 F_earliest_b5 F_latest_b5 F_duration_b5 g_b5 ) hZ (hw _ (List.mem_of_getElem? (i := 5) rfl)) (hw _ (List.mem_of_getElem? (i := 2) rfl)) (by decide) (by decide)) (g := (mkF mm 55 #[.val (.long q0), .second, .val (.long q1), .second, .val (.long q2), .second, .val (.long q3), .second, .val (.long q4), .second, .val (.long q5), .second, .val (.long (q0 ^^^ q3)), .second, .val (.long (q1 ^^^ q4)), .second, .val (.long (q2 ^^^ q5)), .second, .val (.ref b1), .val (.ref b3), .unset, .unset, .unset, .unset] [(.long (q2 ^^^ q5)), (.long (q1 ^^^ q4)), (.long (q0 ^^^ q3)), (.ref b5), (.ref b5)])) rfl (by rw [hml]; rfl) (Steps.refl _) (a := b5) (argsL := [(.long (q0 ^^^ q3)), (.long (q1 ^^^ q4)), (.long (q2 ^^^ q5))]) (rest := [(.ref b5)]) (lenOf pd_84 rfl) rfl (by show 2 * 0 + _ ≤ _; exact Nat.le_of_eq rfl) (hb hby at_55) (fun _ _ => ⟨rfl, e5, (by decide : 3 + 0 ≤ _), (by decide : 9 + 0 ≤ _)⟩)
  dsimp only [Pt.U, Pt.locs, Pt.cells, Pt.slots] at X6 l6 y6 z6 st6 hQ6
  subst l6 y6 z6
  obtain ⟨rfl, N6q, K6, Ex6, Fv0_6, Fv1_6, Fv2_6⟩ := hQ6
  have O6 := O5.keep K6 (allS g_b5 all0)
  have KK6 := KK5.trans K6 (allS (Or.inr sz_b5) all0)
  have N6 := Fr.app N4 N6q
  obtain ⟨_, _, ⟨T7, L7, k7, n7⟩, -, X7, ⟨Lc7, hQ7, l7, y7, z7⟩, st7⟩ := Jvm.LawKit.callS X6 hx (y := (⟨"java/lang/Long", "valueOf", "(J)Ljava/lang/Long;"⟩ : MethodName)) hown (mvT hZ (hw _ (List.mem_of_getElem? (i := 15) rfl))) (mvT hZ (hw _ (List.mem_of_getElem? (i := 16) rfl))) (mvT hZ (hw _ (List.mem_of_getElem? (i := 17) rfl))) (mvT hZ (hw _ (List.mem_of_getElem? (i := 18) rfl))) (by decide) (backOf (W := 0) (rmVo l Z a0 hw [] q0 ca cl val T6.heap n0 O6 S_cache BX) hZ (hw _ (List.mem_of_getElem? (i := 18) rfl)) (hw _ (List.mem_of_getElem? (i := 17) rfl)) (by decide) (by decide)) (g := (mkF mm 61 #[.val (.long q0), .second, .val (.long q1), .second, .val (.long q2), .second, .val (.long q3), .second, .val (.long q4), .second, .val (.long q5), .second, .val (.long (q0 ^^^ q3)), .second, .val (.long (q1 ^^^ q4)), .second, .val (.long (q2 ^^^ q5)), .second, .val (.ref b1), .val (.ref b3), .val (.ref b5), .unset, .unset, .unset] [(.long q0)])) rfl (by rw [hml]; rfl) (argsL := [(.long q0)]) (rest := []) (lenOf pd_85 rfl) rfl (by show 2 * 0 + _ ≤ _; exact Nat.le_of_eq rfl) (hb hby at_61) (fun _ _ => ⟨rfl, rfl, (by decide : 3 + 1 ≤ _), (by decide : 9 + 1 ≤ _)⟩)
  dsimp only [Pt.U, Pt.locs, Pt.cells, Pt.slots] at X7 l7 y7 z7 st7 hQ7
  subst l7 y7 z7
  obtain ⟨bx7, rfl, N7q, K7, Ex7⟩ := hQ7
  have O7 := O6.keep K7 all0
  have KK7 := KK6.trans K7 all0
  have N7 := Fr.app N6 N7q
  have pre8 : ∀ t, Steps pg.tables ee below (T7.setTop (mkF mm 70 #[.val (.long q0), .second, .val (.long q1), .second, .val (.long q2), .second, .val (.long q3), .second, .val (.long q4), .second, .val (.long q5), .second, .val (.long (q0 ^^^ q3)), .second, .val (.long (q1 ^^^ q4)), .second, .val (.long (q2 ^^^ q5)), .second, .val (.ref b1), .val (.ref b3), .val (.ref b5), .val (.ref bx7), .unset, .unset] [(.int (lcmpW q0 (q0 ^^^ q3)))])) t → Steps pg.tables ee below (s₁.setTop (entryFrame mm #[(.long q0), (.long q1), (.long q2), (.long q3), (.long q4), (.long q5)] maxLocals)) t := fun t k => pre0 t (by
      show Steps pg.tables ee below (s₁.setTop (mkF mm 0 #[.val (.long q0), .second, .val (.long q1), .second, .val (.long q2), .second, .val (.long q3), .second, .val (.long q4), .second, .val (.long q5), .second, .unset, .unset, .unset, .unset, .unset, .unset, .unset, .unset, .unset, .unset, .unset, .unset] [])) _
      refine XS.lloadN X0.here hx rfl (hb hby at_0) rfl ?_
      show Steps pg.tables ee below (s₁.setTop (mkF mm 1 #[.val (.long q0), .second, .val (.long q1), .second, .val (.long q2), .second, .val (.long q3), .second, .val (.long q4), .second, .val (.long q5), .second, .unset, .unset, .unset, .unset, .unset, .unset, .unset, .unset, .unset, .unset, .unset, .unset] [(.long q0)])) _
      refine XS.lload X0.here hx rfl (hb hby at_1) rfl ?_
      show Steps pg.tables ee below (s₁.setTop (mkF mm 3 #[.val (.long q0), .second, .val (.long q1), .second, .val (.long q2), .second, .val (.long q3), .second, .val (.long q4), .second, .val (.long q5), .second, .unset, .unset, .unset, .unset, .unset, .unset, .unset, .unset, .unset, .unset, .unset, .unset] [(.long q3), (.long q0)])) _
      refine XS.lxor X0.here hx rfl (hb hby at_3) rfl ?_
      show Steps pg.tables ee below (s₁.setTop (mkF mm 4 #[.val (.long q0), .second, .val (.long q1), .second, .val (.long q2), .second, .val (.long q3), .second, .val (.long q4), .second, .val (.long q5), .second, .unset, .unset, .unset, .unset, .unset, .unset, .unset, .unset, .unset, .unset, .unset, .unset] [(.long (q0 ^^^ q3))])) _
      refine XS.lstore X0.here hx rfl (hb hby at_4) rfl (l' := #[.val (.long q0), .second, .val (.long q1), .second, .val (.long q2), .second, .val (.long q3), .second, .val (.long q4), .second, .val (.long q5), .second, .val (.long (q0 ^^^ q3)), .second, .unset, .unset, .unset, .unset, .unset, .unset, .unset, .unset, .unset, .unset]) rfl ?_
      show Steps pg.tables ee below (s₁.setTop (mkF mm 6 #[.val (.long q0), .second, .val (.long q1), .second, .val (.long q2), .second, .val (.long q3), .second, .val (.long q4), .second, .val (.long q5), .second, .val (.long (q0 ^^^ q3)), .second, .unset, .unset, .unset, .unset, .unset, .unset, .unset, .unset, .unset, .unset] [])) _
      refine XS.lloadN X0.here hx rfl (hb hby at_6) rfl ?_
      show Steps pg.tables ee below (s₁.setTop (mkF mm 7 #[.val (.long q0), .second, .val (.long q1), .second, .val (.long q2), .second, .val (.long q3), .second, .val (.long q4), .second, .val (.long q5), .second, .val (.long (q0 ^^^ q3)), .second, .unset, .unset, .unset, .unset, .unset, .unset, .unset, .unset, .unset, .unset] [(.long q1)])) _
      refine XS.lload X0.here hx rfl (hb hby at_7) rfl ?_
      show Steps pg.tables ee below (s₁.setTop (mkF mm 9 #[.val (.long q0), .second, .val (.long q1), .second, .val (.long q2), .second, .val (.long q3), .second, .val (.long q4), .second, .val (.long q5), .second, .val (.long (q0 ^^^ q3)), .second, .unset, .unset, .unset, .unset, .unset, .unset, .unset, .unset, .unset, .unset] [(.long q4), (.long q1)])) _
      refine XS.lxor X0.here hx rfl (hb hby at_9) rfl ?_
      show Steps pg.tables ee below (s₁.setTop (mkF mm 10 #[.val (.long q0), .second, .val (.long q1), .second, .val (.long q2), .second, .val (.long q3), .second, .val (.long q4), .second, .val (.long q5), .second, .val (.long (q0 ^^^ q3)), .second, .unset, .unset, .unset, .unset, .unset, .unset, .unset, .unset, .unset, .unset] [(.long (q1 ^^^ q4))])) _
      refine XS.lstore X0.here hx rfl (hb hby at_10) rfl (l' := #[.val (.long q0), .second, .val (.long q1), .second, .val (.long q2), .second, .val (.long q3), .second, .val (.long q4), .second, .val (.long q5), .second, .val (.long (q0 ^^^ q3)), .second, .val (.long (q1 ^^^ q4)), .second, .unset, .unset, .unset, .unset, .unset, .unset, .unset, .unset]) rfl ?_
      show Steps pg.tables ee below (s₁.setTop (mkF mm 12 #[.val (.long q0), .second, .val (.long q1), .second, .val (.long q2), .second, .val (.long q3), .second, .val (.long q4), .second, .val (.long q5), .second, .val (.long (q0 ^^^ q3)), .second, .val (.long (q1 ^^^ q4)), .second, .unset, .unset, .unset, .unset, .unset, .unset, .unset, .unset] [])) _
      refine XS.lload X0.here hx rfl (hb hby at_12) rfl ?_
      show Steps pg.tables ee below (s₁.setTop (mkF mm 14 #[.val (.long q0), .second, .val (.long q1), .second, .val (.long q2), .second, .val (.long q3), .second, .val (.long q4), .second, .val (.long q5), .second, .val (.long (q0 ^^^ q3)), .second, .val (.long (q1 ^^^ q4)), .second, .unset, .unset, .unset, .unset, .unset, .unset, .unset, .unset] [(.long q2)])) _
      refine XS.lload X0.here hx rfl (hb hby at_14) rfl ?_
      show Steps pg.tables ee below (s₁.setTop (mkF mm 16 #[.val (.long q0), .second, .val (.long q1), .second, .val (.long q2), .second, .val (.long q3), .second, .val (.long q4), .second, .val (.long q5), .second, .val (.long (q0 ^^^ q3)), .second, .val (.long (q1 ^^^ q4)), .second, .unset, .unset, .unset, .unset, .unset, .unset, .unset, .unset] [(.long q5), (.long q2)])) _
      refine XS.lxor X0.here hx rfl (hb hby at_16) rfl ?_
      show Steps pg.tables ee below (s₁.setTop (mkF mm 17 #[.val (.long q0), .second, .val (.long q1), .second, .val (.long q2), .second, .val (.long q3), .second, .val (.long q4), .second, .val (.long q5), .second, .val (.long (q0 ^^^ q3)), .second, .val (.long (q1 ^^^ q4)), .second, .unset, .unset, .unset, .unset, .unset, .unset, .unset, .unset] [(.long (q2 ^^^ q5))])) _
      refine XS.lstore X0.here hx rfl (hb hby at_17) rfl (l' := #[.val (.long q0), .second, .val (.long q1), .second, .val (.long q2), .second, .val (.long q3), .second, .val (.long q4), .second, .val (.long q5), .second, .val (.long (q0 ^^^ q3)), .second, .val (.long (q1 ^^^ q4)), .second, .val (.long (q2 ^^^ q5)), .second, .unset, .unset, .unset, .unset, .unset, .unset]) rfl ?_
      show Steps pg.tables ee below (s₁.setTop (mkF mm 19 #[.val (.long q0), .second, .val (.long q1), .second, .val (.long q2), .second, .val (.long q3), .second, .val (.long q4), .second, .val (.long q5), .second, .val (.long (q0 ^^^ q3)), .second, .val (.long (q1 ^^^ q4)), .second, .val (.long (q2 ^^^ q5)), .second, .unset, .unset, .unset, .unset, .unset, .unset] [])) _
      refine st1 _ ?_
      show Steps pg.tables ee below (T1.setTop (mkF mm 22 #[.val (.long q0), .second, .val (.long q1), .second, .val (.long q2), .second, .val (.long q3), .second, .val (.long q4), .second, .val (.long q5), .second, .val (.long (q0 ^^^ q3)), .second, .val (.long (q1 ^^^ q4)), .second, .val (.long (q2 ^^^ q5)), .second, .unset, .unset, .unset, .unset, .unset, .unset] [(.ref b1)])) _
      refine XS.dup X1.here hx rfl (hb hby at_22) rfl rfl ?_
      show Steps pg.tables ee below (T1.setTop (mkF mm 23 #[.val (.long q0), .second, .val (.long q1), .second, .val (.long q2), .second, .val (.long q3), .second, .val (.long q4), .second, .val (.long q5), .second, .val (.long (q0 ^^^ q3)), .second, .val (.long (q1 ^^^ q4)), .second, .val (.long (q2 ^^^ q5)), .second, .unset, .unset, .unset, .unset, .unset, .unset] [(.ref b1), (.ref b1)])) _
      refine XS.lloadN X1.here hx rfl (hb hby at_23) rfl ?_
      show Steps pg.tables ee below (T1.setTop (mkF mm 24 #[.val (.long q0), .second, .val (.long q1), .second, .val (.long q2), .second, .val (.long q3), .second, .val (.long q4), .second, .val (.long q5), .second, .val (.long (q0 ^^^ q3)), .second, .val (.long (q1 ^^^ q4)), .second, .val (.long (q2 ^^^ q5)), .second, .unset, .unset, .unset, .unset, .unset, .unset] [(.long q0), (.ref b1), (.ref b1)])) _
      refine XS.lloadN X1.here hx rfl (hb hby at_24) rfl ?_
      show Steps pg.tables ee below (T1.setTop (mkF mm 25 #[.val (.long q0), .second, .val (.long q1), .second, .val (.long q2), .second, .val (.long q3), .second, .val (.long q4), .second, .val (.long q5), .second, .val (.long (q0 ^^^ q3)), .second, .val (.long (q1 ^^^ q4)), .second, .val (.long (q2 ^^^ q5)), .second, .unset, .unset, .unset, .unset, .unset, .unset] [(.long q1), (.long q0), (.ref b1), (.ref b1)])) _
      refine XS.lload X1.here hx rfl (hb hby at_25) rfl ?_
      show Steps pg.tables ee below (T1.setTop (mkF mm 27 #[.val (.long q0), .second, .val (.long q1), .second, .val (.long q2), .second, .val (.long q3), .second, .val (.long q4), .second, .val (.long q5), .second, .val (.long (q0 ^^^ q3)), .second, .val (.long (q1 ^^^ q4)), .second, .val (.long (q2 ^^^ q5)), .second, .unset, .unset, .unset, .unset, .unset, .unset] [(.long q2), (.long q1), (.long q0), (.ref b1), (.ref b1)])) _
      refine st2.trans ?_
      show Steps pg.tables ee below (T2.setTop (mkF mm 30 #[.val (.long q0), .second, .val (.long q1), .second, .val (.long q2), .second, .val (.long q3), .second, .val (.long q4), .second, .val (.long q5), .second, .val (.long (q0 ^^^ q3)), .second, .val (.long (q1 ^^^ q4)), .second, .val (.long (q2 ^^^ q5)), .second, .unset, .unset, .unset, .unset, .unset, .unset] [(.ref b1)])) _
      refine XS.astore X2.here hx rfl (hb hby at_30) rfl rfl (l' := #[.val (.long q0), .second, .val (.long q1), .second, .val (.long q2), .second, .val (.long q3), .second, .val (.long q4), .second, .val (.long q5), .second, .val (.long (q0 ^^^ q3)), .second, .val (.long (q1 ^^^ q4)), .second, .val (.long (q2 ^^^ q5)), .second, .val (.ref b1), .unset, .unset, .unset, .unset, .unset]) rfl ?_
      show Steps pg.tables ee below (T2.setTop (mkF mm 32 #[.val (.long q0), .second, .val (.long q1), .second, .val (.long q2), .second, .val (.long q3), .second, .val (.long q4), .second, .val (.long q5), .second, .val (.long (q0 ^^^ q3)), .second, .val (.long (q1 ^^^ q4)), .second, .val (.long (q2 ^^^ q5)), .second, .val (.ref b1), .unset, .unset, .unset, .unset, .unset] [])) _
      refine st3 _ ?_
      show Steps pg.tables ee below (T3.setTop (mkF mm 35 #[.val (.long q0), .second, .val (.long q1), .second, .val (.long q2), .second, .val (.long q3), .second, .val (.long q4), .second, .val (.long q5), .second, .val (.long (q0 ^^^ q3)), .second, .val (.long (q1 ^^^ q4)), .second, .val (.long (q2 ^^^ q5)), .second, .val (.ref b1), .unset, .unset, .unset, .unset, .unset] [(.ref b3)])) _
      refine XS.dup X3.here hx rfl (hb hby at_35) rfl rfl ?_
      show Steps pg.tables ee below (T3.setTop (mkF mm 36 #[.val (.long q0), .second, .val (.long q1), .second, .val (.long q2), .second, .val (.long q3), .second, .val (.long q4), .second, .val (.long q5), .second, .val (.long (q0 ^^^ q3)), .second, .val (.long (q1 ^^^ q4)), .second, .val (.long (q2 ^^^ q5)), .second, .val (.ref b1), .unset, .unset, .unset, .unset, .unset] [(.ref b3), (.ref b3)])) _
      refine XS.lloadN X3.here hx rfl (hb hby at_36) rfl ?_
      show Steps pg.tables ee below (T3.setTop (mkF mm 37 #[.val (.long q0), .second, .val (.long q1), .second, .val (.long q2), .second, .val (.long q3), .second, .val (.long q4), .second, .val (.long q5), .second, .val (.long (q0 ^^^ q3)), .second, .val (.long (q1 ^^^ q4)), .second, .val (.long (q2 ^^^ q5)), .second, .val (.ref b1), .unset, .unset, .unset, .unset, .unset] [(.long q0), (.ref b3), (.ref b3)])) _
      refine XS.lloadN X3.here hx rfl (hb hby at_37) rfl ?_
      show Steps pg.tables ee below (T3.setTop (mkF mm 38 #[.val (.long q0), .second, .val (.long q1), .second, .val (.long q2), .second, .val (.long q3), .second, .val (.long q4), .second, .val (.long q5), .second, .val (.long (q0 ^^^ q3)), .second, .val (.long (q1 ^^^ q4)), .second, .val (.long (q2 ^^^ q5)), .second, .val (.ref b1), .unset, .unset, .unset, .unset, .unset] [(.long q1), (.long q0), (.ref b3), (.ref b3)])) _
      refine XS.lload X3.here hx rfl (hb hby at_38) rfl ?_
      show Steps pg.tables ee below (T3.setTop (mkF mm 40 #[.val (.long q0), .second, .val (.long q1), .second, .val (.long q2), .second, .val (.long q3), .second, .val (.long q4), .second, .val (.long q5), .second, .val (.long (q0 ^^^ q3)), .second, .val (.long (q1 ^^^ q4)), .second, .val (.long (q2 ^^^ q5)), .second, .val (.ref b1), .unset, .unset, .unset, .unset, .unset] [(.long q2), (.long q1), (.long q0), (.ref b3), (.ref b3)])) _
      refine st4.trans ?_
      show Steps pg.tables ee below (T4.setTop (mkF mm 43 #[.val (.long q0), .second, .val (.long q1), .second, .val (.long q2), .second, .val (.long q3), .second, .val (.long q4), .second, .val (.long q5), .second, .val (.long (q0 ^^^ q3)), .second, .val (.long (q1 ^^^ q4)), .second, .val (.long (q2 ^^^ q5)), .second, .val (.ref b1), .unset, .unset, .unset, .unset, .unset] [(.ref b3)])) _
      refine XS.astore X4.here hx rfl (hb hby at_43) rfl rfl (l' := #[.val (.long q0), .second, .val (.long q1), .second, .val (.long q2), .second, .val (.long q3), .second, .val (.long q4), .second, .val (.long q5), .second, .val (.long (q0 ^^^ q3)), .second, .val (.long (q1 ^^^ q4)), .second, .val (.long (q2 ^^^ q5)), .second, .val (.ref b1), .val (.ref b3), .unset, .unset, .unset, .unset]) rfl ?_
      show Steps pg.tables ee below (T4.setTop (mkF mm 45 #[.val (.long q0), .second, .val (.long q1), .second, .val (.long q2), .second, .val (.long q3), .second, .val (.long q4), .second, .val (.long q5), .second, .val (.long (q0 ^^^ q3)), .second, .val (.long (q1 ^^^ q4)), .second, .val (.long (q2 ^^^ q5)), .second, .val (.ref b1), .val (.ref b3), .unset, .unset, .unset, .unset] [])) _
      refine st5 _ ?_
      show Steps pg.tables ee below (T5.setTop (mkF mm 48 #[.val (.long q0), .second, .val (.long q1), .second, .val (.long q2), .second, .val (.long q3), .second, .val (.long q4), .second, .val (.long q5), .second, .val (.long (q0 ^^^ q3)), .second, .val (.long (q1 ^^^ q4)), .second, .val (.long (q2 ^^^ q5)), .second, .val (.ref b1), .val (.ref b3), .unset, .unset, .unset, .unset] [(.ref b5)])) _
      refine XS.dup X5.here hx rfl (hb hby at_48) rfl rfl ?_
      show Steps pg.tables ee below (T5.setTop (mkF mm 49 #[.val (.long q0), .second, .val (.long q1), .second, .val (.long q2), .second, .val (.long q3), .second, .val (.long q4), .second, .val (.long q5), .second, .val (.long (q0 ^^^ q3)), .second, .val (.long (q1 ^^^ q4)), .second, .val (.long (q2 ^^^ q5)), .second, .val (.ref b1), .val (.ref b3), .unset, .unset, .unset, .unset] [(.ref b5), (.ref b5)])) _
      refine XS.lload X5.here hx rfl (hb hby at_49) rfl ?_
      show Steps pg.tables ee below (T5.setTop (mkF mm 51 #[.val (.long q0), .second, .val (.long q1), .second, .val (.long q2), .second, .val (.long q3), .second, .val (.long q4), .second, .val (.long q5), .second, .val (.long (q0 ^^^ q3)), .second, .val (.long (q1 ^^^ q4)), .second, .val (.long (q2 ^^^ q5)), .second, .val (.ref b1), .val (.ref b3), .unset, .unset, .unset, .unset] [(.long (q0 ^^^ q3)), (.ref b5), (.ref b5)])) _
      refine XS.lload X5.here hx rfl (hb hby at_51) rfl ?_
      show Steps pg.tables ee below (T5.setTop (mkF mm 53 #[.val (.long q0), .second, .val (.long q1), .second, .val (.long q2), .second, .val (.long q3), .second, .val (.long q4), .second, .val (.long q5), .second, .val (.long (q0 ^^^ q3)), .second, .val (.long (q1 ^^^ q4)), .second, .val (.long (q2 ^^^ q5)), .second, .val (.ref b1), .val (.ref b3), .unset, .unset, .unset, .unset] [(.long (q1 ^^^ q4)), (.long (q0 ^^^ q3)), (.ref b5), (.ref b5)])) _
      refine XS.lload X5.here hx rfl (hb hby at_53) rfl ?_
      show Steps pg.tables ee below (T5.setTop (mkF mm 55 #[.val (.long q0), .second, .val (.long q1), .second, .val (.long q2), .second, .val (.long q3), .second, .val (.long q4), .second, .val (.long q5), .second, .val (.long (q0 ^^^ q3)), .second, .val (.long (q1 ^^^ q4)), .second, .val (.long (q2 ^^^ q5)), .second, .val (.ref b1), .val (.ref b3), .unset, .unset, .unset, .unset] [(.long (q2 ^^^ q5)), (.long (q1 ^^^ q4)), (.long (q0 ^^^ q3)), (.ref b5), (.ref b5)])) _
      refine st6.trans ?_
      show Steps pg.tables ee below (T6.setTop (mkF mm 58 #[.val (.long q0), .second, .val (.long q1), .second, .val (.long q2), .second, .val (.long q3), .second, .val (.long q4), .second, .val (.long q5), .second, .val (.long (q0 ^^^ q3)), .second, .val (.long (q1 ^^^ q4)), .second, .val (.long (q2 ^^^ q5)), .second, .val (.ref b1), .val (.ref b3), .unset, .unset, .unset, .unset] [(.ref b5)])) _
      refine XS.astore X6.here hx rfl (hb hby at_58) rfl rfl (l' := #[.val (.long q0), .second, .val (.long q1), .second, .val (.long q2), .second, .val (.long q3), .second, .val (.long q4), .second, .val (.long q5), .second, .val (.long (q0 ^^^ q3)), .second, .val (.long (q1 ^^^ q4)), .second, .val (.long (q2 ^^^ q5)), .second, .val (.ref b1), .val (.ref b3), .val (.ref b5), .unset, .unset, .unset]) rfl ?_
      show Steps pg.tables ee below (T6.setTop (mkF mm 60 #[.val (.long q0), .second, .val (.long q1), .second, .val (.long q2), .second, .val (.long q3), .second, .val (.long q4), .second, .val (.long q5), .second, .val (.long (q0 ^^^ q3)), .second, .val (.long (q1 ^^^ q4)), .second, .val (.long (q2 ^^^ q5)), .second, .val (.ref b1), .val (.ref b3), .val (.ref b5), .unset, .unset, .unset] [])) _
      refine XS.lloadN X6.here hx rfl (hb hby at_60) rfl ?_
      show Steps pg.tables ee below (T6.setTop (mkF mm 61 #[.val (.long q0), .second, .val (.long q1), .second, .val (.long q2), .second, .val (.long q3), .second, .val (.long q4), .second, .val (.long q5), .second, .val (.long (q0 ^^^ q3)), .second, .val (.long (q1 ^^^ q4)), .second, .val (.long (q2 ^^^ q5)), .second, .val (.ref b1), .val (.ref b3), .val (.ref b5), .unset, .unset, .unset] [(.long q0)])) _
      refine st7 _ ?_
      show Steps pg.tables ee below (T7.setTop (mkF mm 64 #[.val (.long q0), .second, .val (.long q1), .second, .val (.long q2), .second, .val (.long q3), .second, .val (.long q4), .second, .val (.long q5), .second, .val (.long (q0 ^^^ q3)), .second, .val (.long (q1 ^^^ q4)), .second, .val (.long (q2 ^^^ q5)), .second, .val (.ref b1), .val (.ref b3), .val (.ref b5), .unset, .unset, .unset] [(.ref bx7)])) _
      refine XS.astore X7.here hx rfl (hb hby at_64) rfl rfl (l' := #[.val (.long q0), .second, .val (.long q1), .second, .val (.long q2), .second, .val (.long q3), .second, .val (.long q4), .second, .val (.long q5), .second, .val (.long (q0 ^^^ q3)), .second, .val (.long (q1 ^^^ q4)), .second, .val (.long (q2 ^^^ q5)), .second, .val (.ref b1), .val (.ref b3), .val (.ref b5), .val (.ref bx7), .unset, .unset]) rfl ?_
      show Steps pg.tables ee below (T7.setTop (mkF mm 66 #[.val (.long q0), .second, .val (.long q1), .second, .val (.long q2), .second, .val (.long q3), .second, .val (.long q4), .second, .val (.long q5), .second, .val (.long (q0 ^^^ q3)), .second, .val (.long (q1 ^^^ q4)), .second, .val (.long (q2 ^^^ q5)), .second, .val (.ref b1), .val (.ref b3), .val (.ref b5), .val (.ref bx7), .unset, .unset] [])) _
      refine XS.lloadN X7.here hx rfl (hb hby at_66) rfl ?_
      show Steps pg.tables ee below (T7.setTop (mkF mm 67 #[.val (.long q0), .second, .val (.long q1), .second, .val (.long q2), .second, .val (.long q3), .second, .val (.long q4), .second, .val (.long q5), .second, .val (.long (q0 ^^^ q3)), .second, .val (.long (q1 ^^^ q4)), .second, .val (.long (q2 ^^^ q5)), .second, .val (.ref b1), .val (.ref b3), .val (.ref b5), .val (.ref bx7), .unset, .unset] [(.long q0)])) _
      refine XS.lload X7.here hx rfl (hb hby at_67) rfl ?_
      show Steps pg.tables ee below (T7.setTop (mkF mm 69 #[.val (.long q0), .second, .val (.long q1), .second, .val (.long q2), .second, .val (.long q3), .second, .val (.long q4), .second, .val (.long q5), .second, .val (.long (q0 ^^^ q3)), .second, .val (.long (q1 ^^^ q4)), .second, .val (.long (q2 ^^^ q5)), .second, .val (.ref b1), .val (.ref b3), .val (.ref b5), .val (.ref bx7), .unset, .unset] [(.long (q0 ^^^ q3)), (.long q0)])) _
      refine XS.lcmp X7.here hx rfl (hb hby at_69) rfl ?_
      exact k)
  by_cases hc9 : (lcmpW q0 (q0 ^^^ q3)) = (0 : Int32)
  · have pre10 : ∀ t, Steps pg.tables ee below (T7.setTop (mkF mm 77 #[.val (.long q0), .second, .val (.long q1), .second, .val (.long q2), .second, .val (.long q3), .second, .val (.long q4), .second, .val (.long q5), .second, .val (.long (q0 ^^^ q3)), .second, .val (.long (q1 ^^^ q4)), .second, .val (.long (q2 ^^^ q5)), .second, .val (.ref b1), .val (.ref b3), .val (.ref b5), .val (.ref bx7), .unset, .unset] [(.int (lcmpW q1 (q1 ^^^ q4)))])) t → Steps pg.tables ee below (s₁.setTop (entryFrame mm #[(.long q0), (.long q1), (.long q2), (.long q3), (.long q4), (.long q5)] maxLocals)) t := fun t k => pre8 t (by
        show Steps pg.tables ee below (T7.setTop (mkF mm 70 #[.val (.long q0), .second, .val (.long q1), .second, .val (.long q2), .second, .val (.long q3), .second, .val (.long q4), .second, .val (.long q5), .second, .val (.long (q0 ^^^ q3)), .second, .val (.long (q1 ^^^ q4)), .second, .val (.long (q2 ^^^ q5)), .second, .val (.ref b1), .val (.ref b3), .val (.ref b5), .val (.ref bx7), .unset, .unset] [(.int (lcmpW q0 (q0 ^^^ q3)))])) _
        refine XS.ifNo X7.here hx rfl (hb hby at_70) rfl ((if0 _ _).trans (teq hc9).2) ?_
        show Steps pg.tables ee below (T7.setTop (mkF mm 73 #[.val (.long q0), .second, .val (.long q1), .second, .val (.long q2), .second, .val (.long q3), .second, .val (.long q4), .second, .val (.long q5), .second, .val (.long (q0 ^^^ q3)), .second, .val (.long (q1 ^^^ q4)), .second, .val (.long (q2 ^^^ q5)), .second, .val (.ref b1), .val (.ref b3), .val (.ref b5), .val (.ref bx7), .unset, .unset] [])) _
        refine XS.lloadN X7.here hx rfl (hb hby at_73) rfl ?_
        show Steps pg.tables ee below (T7.setTop (mkF mm 74 #[.val (.long q0), .second, .val (.long q1), .second, .val (.long q2), .second, .val (.long q3), .second, .val (.long q4), .second, .val (.long q5), .second, .val (.long (q0 ^^^ q3)), .second, .val (.long (q1 ^^^ q4)), .second, .val (.long (q2 ^^^ q5)), .second, .val (.ref b1), .val (.ref b3), .val (.ref b5), .val (.ref bx7), .unset, .unset] [(.long q1)])) _
        refine XS.lload X7.here hx rfl (hb hby at_74) rfl ?_
        show Steps pg.tables ee below (T7.setTop (mkF mm 76 #[.val (.long q0), .second, .val (.long q1), .second, .val (.long q2), .second, .val (.long q3), .second, .val (.long q4), .second, .val (.long q5), .second, .val (.long (q0 ^^^ q3)), .second, .val (.long (q1 ^^^ q4)), .second, .val (.long (q2 ^^^ q5)), .second, .val (.ref b1), .val (.ref b3), .val (.ref b5), .val (.ref bx7), .unset, .unset] [(.long (q1 ^^^ q4)), (.long q1)])) _
        refine XS.lcmp X7.here hx rfl (hb hby at_76) rfl ?_
        exact k)
    by_cases hc11 : (lcmpW q1 (q1 ^^^ q4)) = (0 : Int32)
    · have pre12 : ∀ t, Steps pg.tables ee below (T7.setTop (mkF mm 85 #[.val (.long q0), .second, .val (.long q1), .second, .val (.long q2), .second, .val (.long q3), .second, .val (.long q4), .second, .val (.long q5), .second, .val (.long (q0 ^^^ q3)), .second, .val (.long (q1 ^^^ q4)), .second, .val (.long (q2 ^^^ q5)), .second, .val (.ref b1), .val (.ref b3), .val (.ref b5), .val (.ref bx7), .unset, .unset] [(.int (lcmpW q2 (q2 ^^^ q5)))])) t → Steps pg.tables ee below (s₁.setTop (entryFrame mm #[(.long q0), (.long q1), (.long q2), (.long q3), (.long q4), (.long q5)] maxLocals)) t := fun t k => pre10 t (by
          show Steps pg.tables ee below (T7.setTop (mkF mm 77 #[.val (.long q0), .second, .val (.long q1), .second, .val (.long q2), .second, .val (.long q3), .second, .val (.long q4), .second, .val (.long q5), .second, .val (.long (q0 ^^^ q3)), .second, .val (.long (q1 ^^^ q4)), .second, .val (.long (q2 ^^^ q5)), .second, .val (.ref b1), .val (.ref b3), .val (.ref b5), .val (.ref bx7), .unset, .unset] [(.int (lcmpW q1 (q1 ^^^ q4)))])) _
          refine XS.ifNo X7.here hx rfl (hb hby at_77) rfl ((if0 _ _).trans (teq hc11).2) ?_
          show Steps pg.tables ee below (T7.setTop (mkF mm 80 #[.val (.long q0), .second, .val (.long q1), .second, .val (.long q2), .second, .val (.long q3), .second, .val (.long q4), .second, .val (.long q5), .second, .val (.long (q0 ^^^ q3)), .second, .val (.long (q1 ^^^ q4)), .second, .val (.long (q2 ^^^ q5)), .second, .val (.ref b1), .val (.ref b3), .val (.ref b5), .val (.ref bx7), .unset, .unset] [])) _
          refine XS.lload X7.here hx rfl (hb hby at_80) rfl ?_
          show Steps pg.tables ee below (T7.setTop (mkF mm 82 #[.val (.long q0), .second, .val (.long q1), .second, .val (.long q2), .second, .val (.long q3), .second, .val (.long q4), .second, .val (.long q5), .second, .val (.long (q0 ^^^ q3)), .second, .val (.long (q1 ^^^ q4)), .second, .val (.long (q2 ^^^ q5)), .second, .val (.ref b1), .val (.ref b3), .val (.ref b5), .val (.ref bx7), .unset, .unset] [(.long q2)])) _
          refine XS.lload X7.here hx rfl (hb hby at_82) rfl ?_
          show Steps pg.tables ee below (T7.setTop (mkF mm 84 #[.val (.long q0), .second, .val (.long q1), .second, .val (.long q2), .second, .val (.long q3), .second, .val (.long q4), .second, .val (.long q5), .second, .val (.long (q0 ^^^ q3)), .second, .val (.long (q1 ^^^ q4)), .second, .val (.long (q2 ^^^ q5)), .second, .val (.ref b1), .val (.ref b3), .val (.ref b5), .val (.ref bx7), .unset, .unset] [(.long (q2 ^^^ q5)), (.long q2)])) _
          refine XS.lcmp X7.here hx rfl (hb hby at_84) rfl ?_
          exact k)
      by_cases hc13 : (lcmpW q2 (q2 ^^^ q5)) = (0 : Int32)
      · obtain ⟨cq14, kq14, q14a, q14b, q14c⟩ := isOf hZ rfl (((((Ex2.ext E3).keep K4).ext E5).keep K6).keep K7)
        obtain ⟨_, _, ⟨T14, L14, k14, n14⟩, -, X14, ⟨Lc14, hQ14, l14, y14, z14⟩, st14⟩ := X7.virtualBack hx (y := (⟨"com/example/stops_to_routes/stopstoroutes/planner/Break", "equals", "(Ljava/lang/Object;)Z"⟩ : MethodName)) (z := (⟨"com/example/stops_to_routes/stopstoroutes/planner/Break", "equals", "(Ljava/lang/Object;)Z"⟩ : MethodName)) hown (mvT hZ (hw _ (List.mem_of_getElem? (i := 23) rfl))) (mvT hZ (hw _ (List.mem_of_getElem? (i := 24) rfl))) (notFace_of_selects (args := #[]) (mvT hZ (hw _ (List.mem_of_getElem? (i := 26) rfl)))) (mvT hZ (hw _ (List.mem_of_getElem? (i := 26) rfl))) (mvT hZ (hw _ (List.mem_of_getElem? (i := 25) rfl))) (by decide) (backOf (W := 0) (rmQN l Z a0 hw [] b1 T7.heap n0 O7) hZ (hw _ (List.mem_of_getElem? (i := 27) rfl)) (hw _ (List.mem_of_getElem? (i := 2) rfl)) (by decide) (by decide)) q14a q14c (g := (mkF mm 106 #[.val (.long q0), .second, .val (.long q1), .second, .val (.long q2), .second, .val (.long q3), .second, .val (.long q4), .second, .val (.long q5), .second, .val (.long (q0 ^^^ q3)), .second, .val (.long (q1 ^^^ q4)), .second, .val (.long (q2 ^^^ q5)), .second, .val (.ref b1), .val (.ref b3), .val (.ref b5), .val (.ref bx7), .val (.int (1 : Int32)), .val (.int (1 : Int32))] [.null, (.ref b1)])) rfl (by rw [hml]; rfl) (Steps.refl _) (argsL := [.null]) (rest := []) (lenOf pd_86 rfl) rfl (by show 2 * 0 + _ ≤ _; exact Nat.le_of_eq rfl) (hb hby at_106) (fun _ _ => ⟨rfl, rfl, (by decide : 4 + 0 ≤ _), (by decide : 10 + 0 ≤ _)⟩)
        dsimp only [Pt.U, Pt.locs, Pt.cells, Pt.slots] at X14 l14 y14 z14 st14 hQ14
        subst l14 y14 z14
        obtain ⟨rfl, N14q, e14⟩ := hQ14
        have N14 := Fr.app N7 N14q
        obtain ⟨cq15, kq15, q15a, q15b, q15c⟩ := isOf hZ e14 (((((Ex2.ext E3).keep K4).ext E5).keep K6).keep K7)
        obtain ⟨_, _, ⟨T15, L15, k15, n15⟩, -, X15, ⟨Lc15, hQ15, l15, y15, z15⟩, st15⟩ := X14.virtualBack hx (y := (⟨"com/example/stops_to_routes/stopstoroutes/planner/Break", "equals", "(Ljava/lang/Object;)Z"⟩ : MethodName)) (z := (⟨"com/example/stops_to_routes/stopstoroutes/planner/Break", "equals", "(Ljava/lang/Object;)Z"⟩ : MethodName)) hown (mvT hZ (hw _ (List.mem_of_getElem? (i := 23) rfl))) (mvT hZ (hw _ (List.mem_of_getElem? (i := 24) rfl))) (notFace_of_selects (args := #[]) (mvT hZ (hw _ (List.mem_of_getElem? (i := 26) rfl)))) (mvT hZ (hw _ (List.mem_of_getElem? (i := 26) rfl))) (mvT hZ (hw _ (List.mem_of_getElem? (i := 25) rfl))) (by decide) (backOf (W := 0) (rmQO l Z a0 hw [] b1 bx7 T7.heap n0 O7 Ex7) hZ (hw _ (List.mem_of_getElem? (i := 27) rfl)) (hw _ (List.mem_of_getElem? (i := 2) rfl)) (by decide) (by decide)) q15a q15c (g := (mkF mm 128 #[.val (.long q0), .second, .val (.long q1), .second, .val (.long q2), .second, .val (.long q3), .second, .val (.long q4), .second, .val (.long q5), .second, .val (.long (q0 ^^^ q3)), .second, .val (.long (q1 ^^^ q4)), .second, .val (.long (q2 ^^^ q5)), .second, .val (.ref b1), .val (.ref b3), .val (.ref b5), .val (.ref bx7), .val (.int (1 : Int32)), .val (.int (1 : Int32))] [(.ref bx7), (.ref b1)])) rfl (by rw [hml]; rfl) (Steps.refl _) (argsL := [(.ref bx7)]) (rest := []) (lenOf pd_86 rfl) rfl (by show 2 * 0 + _ ≤ _; exact Nat.le_of_eq rfl) (hb hby at_128) (fun _ _ => ⟨rfl, e14, (by decide : 4 + 0 ≤ _), (by decide : 10 + 0 ≤ _)⟩)
        dsimp only [Pt.U, Pt.locs, Pt.cells, Pt.slots] at X15 l15 y15 z15 st15 hQ15
        subst l15 y15 z15
        obtain ⟨rfl, N15q, e15⟩ := hQ15
        have N15 := Fr.app N14 N15q
        obtain ⟨cq16, kq16, q16a, q16b, q16c⟩ := isOf hZ e15 (((((Ex2.ext E3).keep K4).ext E5).keep K6).keep K7)
        obtain ⟨_, _, ⟨T16, L16, k16, n16⟩, -, X16, ⟨Lc16, hQ16, l16, y16, z16⟩, st16⟩ := X15.virtualBack hx (y := (⟨"com/example/stops_to_routes/stopstoroutes/planner/Break", "equals", "(Ljava/lang/Object;)Z"⟩ : MethodName)) (z := (⟨"com/example/stops_to_routes/stopstoroutes/planner/Break", "equals", "(Ljava/lang/Object;)Z"⟩ : MethodName)) hown (mvT hZ (hw _ (List.mem_of_getElem? (i := 23) rfl))) (mvT hZ (hw _ (List.mem_of_getElem? (i := 24) rfl))) (notFace_of_selects (args := #[]) (mvT hZ (hw _ (List.mem_of_getElem? (i := 26) rfl)))) (mvT hZ (hw _ (List.mem_of_getElem? (i := 26) rfl))) (mvT hZ (hw _ (List.mem_of_getElem? (i := 25) rfl))) (by decide) (backOf (W := 0) (rmQS l Z a0 hw [] b1 q0 q1 q2 T7.heap n0 O7 (((((Fv0_2.ext E3).keep K4 (ninS (Nat.ne_of_lt (Nat.lt_of_lt_of_le Ex2.lt (Nat.le_of_eq g3.symm))) nin0)).ext E5).keep K6 (ninS (Nat.ne_of_lt (Nat.lt_of_lt_of_le ((Ex2.ext E3).keep K4).lt (Nat.le_of_eq g5.symm))) nin0)).keep K7 nin0) (((((Fv1_2.ext E3).keep K4 (ninS (Nat.ne_of_lt (Nat.lt_of_lt_of_le Ex2.lt (Nat.le_of_eq g3.symm))) nin0)).ext E5).keep K6 (ninS (Nat.ne_of_lt (Nat.lt_of_lt_of_le ((Ex2.ext E3).keep K4).lt (Nat.le_of_eq g5.symm))) nin0)).keep K7 nin0) (((((Fv2_2.ext E3).keep K4 (ninS (Nat.ne_of_lt (Nat.lt_of_lt_of_le Ex2.lt (Nat.le_of_eq g3.symm))) nin0)).ext E5).keep K6 (ninS (Nat.ne_of_lt (Nat.lt_of_lt_of_le ((Ex2.ext E3).keep K4).lt (Nat.le_of_eq g5.symm))) nin0)).keep K7 nin0) (((((Ex2.ext E3).keep K4).ext E5).keep K6).keep K7)) hZ (hw _ (List.mem_of_getElem? (i := 27) rfl)) (hw _ (List.mem_of_getElem? (i := 2) rfl)) (by decide) (by decide)) q16a q16c (g := (mkF mm 150 #[.val (.long q0), .second, .val (.long q1), .second, .val (.long q2), .second, .val (.long q3), .second, .val (.long q4), .second, .val (.long q5), .second, .val (.long (q0 ^^^ q3)), .second, .val (.long (q1 ^^^ q4)), .second, .val (.long (q2 ^^^ q5)), .second, .val (.ref b1), .val (.ref b3), .val (.ref b5), .val (.ref bx7), .val (.int (1 : Int32)), .val (.int (1 : Int32))] [(.ref b1), (.ref b1)])) rfl (by rw [hml]; rfl) (Steps.refl _) (argsL := [(.ref b1)]) (rest := []) (lenOf pd_86 rfl) rfl (by show 2 * 0 + _ ≤ _; exact Nat.le_of_eq rfl) (hb hby at_150) (fun _ _ => ⟨rfl, e15, (by decide : 4 + 0 ≤ _), (by decide : 10 + 0 ≤ _)⟩)
        dsimp only [Pt.U, Pt.locs, Pt.cells, Pt.slots] at X16 l16 y16 z16 st16 hQ16
        subst l16 y16 z16
        obtain ⟨rfl, N16q, e16⟩ := hQ16
        have N16 := Fr.app N15 N16q
        obtain ⟨cq17, kq17, q17a, q17b, q17c⟩ := isOf hZ e16 (((((Ex2.ext E3).keep K4).ext E5).keep K6).keep K7)
        obtain ⟨_, _, ⟨T17, L17, k17, n17⟩, -, X17, ⟨Lc17, hQ17, l17, y17, z17⟩, st17⟩ := X16.virtualBack hx (y := (⟨"com/example/stops_to_routes/stopstoroutes/planner/Break", "equals", "(Ljava/lang/Object;)Z"⟩ : MethodName)) (z := (⟨"com/example/stops_to_routes/stopstoroutes/planner/Break", "equals", "(Ljava/lang/Object;)Z"⟩ : MethodName)) hown (mvT hZ (hw _ (List.mem_of_getElem? (i := 23) rfl))) (mvT hZ (hw _ (List.mem_of_getElem? (i := 24) rfl))) (notFace_of_selects (args := #[]) (mvT hZ (hw _ (List.mem_of_getElem? (i := 26) rfl)))) (mvT hZ (hw _ (List.mem_of_getElem? (i := 26) rfl))) (mvT hZ (hw _ (List.mem_of_getElem? (i := 25) rfl))) (by decide) (backOf (W := 0) (rmQ3 l Z a0 hw [] b1 b3 q0 q1 q2 q0 q1 q2 T7.heap n0 O7 (((((Fv0_2.ext E3).keep K4 (ninS (Nat.ne_of_lt (Nat.lt_of_lt_of_le Ex2.lt (Nat.le_of_eq g3.symm))) nin0)).ext E5).keep K6 (ninS (Nat.ne_of_lt (Nat.lt_of_lt_of_le ((Ex2.ext E3).keep K4).lt (Nat.le_of_eq g5.symm))) nin0)).keep K7 nin0) (((((Fv1_2.ext E3).keep K4 (ninS (Nat.ne_of_lt (Nat.lt_of_lt_of_le Ex2.lt (Nat.le_of_eq g3.symm))) nin0)).ext E5).keep K6 (ninS (Nat.ne_of_lt (Nat.lt_of_lt_of_le ((Ex2.ext E3).keep K4).lt (Nat.le_of_eq g5.symm))) nin0)).keep K7 nin0) (((((Fv2_2.ext E3).keep K4 (ninS (Nat.ne_of_lt (Nat.lt_of_lt_of_le Ex2.lt (Nat.le_of_eq g3.symm))) nin0)).ext E5).keep K6 (ninS (Nat.ne_of_lt (Nat.lt_of_lt_of_le ((Ex2.ext E3).keep K4).lt (Nat.le_of_eq g5.symm))) nin0)).keep K7 nin0) (((Fv0_4.ext E5).keep K6 (ninS (Nat.ne_of_lt (Nat.lt_of_lt_of_le Ex4.lt (Nat.le_of_eq g5.symm))) nin0)).keep K7 nin0) (((Fv1_4.ext E5).keep K6 (ninS (Nat.ne_of_lt (Nat.lt_of_lt_of_le Ex4.lt (Nat.le_of_eq g5.symm))) nin0)).keep K7 nin0) (((Fv2_4.ext E5).keep K6 (ninS (Nat.ne_of_lt (Nat.lt_of_lt_of_le Ex4.lt (Nat.le_of_eq g5.symm))) nin0)).keep K7 nin0) (((Ex4.ext E5).keep K6).keep K7) ((lw_eq _ _).mpr rfl) ((lw_eq _ _).mpr rfl) ((lw_eq _ _).mpr rfl)) hZ (hw _ (List.mem_of_getElem? (i := 27) rfl)) (hw _ (List.mem_of_getElem? (i := 2) rfl)) (by decide) (by decide)) q17a q17c (g := (mkF mm 172 #[.val (.long q0), .second, .val (.long q1), .second, .val (.long q2), .second, .val (.long q3), .second, .val (.long q4), .second, .val (.long q5), .second, .val (.long (q0 ^^^ q3)), .second, .val (.long (q1 ^^^ q4)), .second, .val (.long (q2 ^^^ q5)), .second, .val (.ref b1), .val (.ref b3), .val (.ref b5), .val (.ref bx7), .val (.int (1 : Int32)), .val (.int (1 : Int32))] [(.ref b3), (.ref b1)])) rfl (by rw [hml]; rfl) (Steps.refl _) (argsL := [(.ref b3)]) (rest := []) (lenOf pd_86 rfl) rfl (by show 2 * 0 + _ ≤ _; exact Nat.le_of_eq rfl) (hb hby at_172) (fun _ _ => ⟨rfl, e16, (by decide : 4 + 0 ≤ _), (by decide : 10 + 0 ≤ _)⟩)
        dsimp only [Pt.U, Pt.locs, Pt.cells, Pt.slots] at X17 l17 y17 z17 st17 hQ17
        subst l17 y17 z17
        obtain ⟨rfl, N17q, e17⟩ := hQ17
        have N17 := Fr.app N16 N17q
        obtain ⟨cq18, kq18, q18a, q18b, q18c⟩ := isOf hZ e17 (((((Ex2.ext E3).keep K4).ext E5).keep K6).keep K7)
        obtain ⟨_, _, ⟨T18, L18, k18, n18⟩, -, X18, ⟨Lc18, hQ18, l18, y18, z18⟩, st18⟩ := X17.virtualBack hx (y := (⟨"com/example/stops_to_routes/stopstoroutes/planner/Break", "equals", "(Ljava/lang/Object;)Z"⟩ : MethodName)) (z := (⟨"com/example/stops_to_routes/stopstoroutes/planner/Break", "equals", "(Ljava/lang/Object;)Z"⟩ : MethodName)) hown (mvT hZ (hw _ (List.mem_of_getElem? (i := 23) rfl))) (mvT hZ (hw _ (List.mem_of_getElem? (i := 24) rfl))) (notFace_of_selects (args := #[]) (mvT hZ (hw _ (List.mem_of_getElem? (i := 26) rfl)))) (mvT hZ (hw _ (List.mem_of_getElem? (i := 26) rfl))) (mvT hZ (hw _ (List.mem_of_getElem? (i := 25) rfl))) (by decide) (backOf (W := 0) (rmQ3 l Z a0 hw [] b1 b5 q0 q1 q2 (q0 ^^^ q3) (q1 ^^^ q4) (q2 ^^^ q5) T7.heap n0 O7 (((((Fv0_2.ext E3).keep K4 (ninS (Nat.ne_of_lt (Nat.lt_of_lt_of_le Ex2.lt (Nat.le_of_eq g3.symm))) nin0)).ext E5).keep K6 (ninS (Nat.ne_of_lt (Nat.lt_of_lt_of_le ((Ex2.ext E3).keep K4).lt (Nat.le_of_eq g5.symm))) nin0)).keep K7 nin0) (((((Fv1_2.ext E3).keep K4 (ninS (Nat.ne_of_lt (Nat.lt_of_lt_of_le Ex2.lt (Nat.le_of_eq g3.symm))) nin0)).ext E5).keep K6 (ninS (Nat.ne_of_lt (Nat.lt_of_lt_of_le ((Ex2.ext E3).keep K4).lt (Nat.le_of_eq g5.symm))) nin0)).keep K7 nin0) (((((Fv2_2.ext E3).keep K4 (ninS (Nat.ne_of_lt (Nat.lt_of_lt_of_le Ex2.lt (Nat.le_of_eq g3.symm))) nin0)).ext E5).keep K6 (ninS (Nat.ne_of_lt (Nat.lt_of_lt_of_le ((Ex2.ext E3).keep K4).lt (Nat.le_of_eq g5.symm))) nin0)).keep K7 nin0) (Fv0_6.keep K7 nin0) (Fv1_6.keep K7 nin0) (Fv2_6.keep K7 nin0) (Ex6.keep K7) hc9 hc11 hc13) hZ (hw _ (List.mem_of_getElem? (i := 27) rfl)) (hw _ (List.mem_of_getElem? (i := 2) rfl)) (by decide) (by decide)) q18a q18c (g := (mkF mm 194 #[.val (.long q0), .second, .val (.long q1), .second, .val (.long q2), .second, .val (.long q3), .second, .val (.long q4), .second, .val (.long q5), .second, .val (.long (q0 ^^^ q3)), .second, .val (.long (q1 ^^^ q4)), .second, .val (.long (q2 ^^^ q5)), .second, .val (.ref b1), .val (.ref b3), .val (.ref b5), .val (.ref bx7), .val (.int (1 : Int32)), .val (.int (1 : Int32))] [(.ref b5), (.ref b1)])) rfl (by rw [hml]; rfl) (Steps.refl _) (argsL := [(.ref b5)]) (rest := []) (lenOf pd_86 rfl) rfl (by show 2 * 0 + _ ≤ _; exact Nat.le_of_eq rfl) (hb hby at_194) (fun _ _ => ⟨rfl, e17, (by decide : 4 + 0 ≤ _), (by decide : 10 + 0 ≤ _)⟩)
        dsimp only [Pt.U, Pt.locs, Pt.cells, Pt.slots] at X18 l18 y18 z18 st18 hQ18
        subst l18 y18 z18
        obtain ⟨rfl, N18q, e18⟩ := hQ18
        have N18 := Fr.app N17 N18q
        obtain ⟨cq19, kq19, q19a, q19b, q19c⟩ := isOf hZ e18 (Ex6.keep K7)
        obtain ⟨_, _, ⟨T19, L19, k19, n19⟩, -, X19, ⟨Lc19, hQ19, l19, y19, z19⟩, st19⟩ := X18.virtualBack hx (y := (⟨"com/example/stops_to_routes/stopstoroutes/planner/Break", "equals", "(Ljava/lang/Object;)Z"⟩ : MethodName)) (z := (⟨"com/example/stops_to_routes/stopstoroutes/planner/Break", "equals", "(Ljava/lang/Object;)Z"⟩ : MethodName)) hown (mvT hZ (hw _ (List.mem_of_getElem? (i := 23) rfl))) (mvT hZ (hw _ (List.mem_of_getElem? (i := 24) rfl))) (notFace_of_selects (args := #[]) (mvT hZ (hw _ (List.mem_of_getElem? (i := 26) rfl)))) (mvT hZ (hw _ (List.mem_of_getElem? (i := 26) rfl))) (mvT hZ (hw _ (List.mem_of_getElem? (i := 25) rfl))) (by decide) (backOf (W := 0) (rmQ3 l Z a0 hw [] b5 b1 (q0 ^^^ q3) (q1 ^^^ q4) (q2 ^^^ q5) q0 q1 q2 T7.heap n0 O7 (Fv0_6.keep K7 nin0) (Fv1_6.keep K7 nin0) (Fv2_6.keep K7 nin0) (((((Fv0_2.ext E3).keep K4 (ninS (Nat.ne_of_lt (Nat.lt_of_lt_of_le Ex2.lt (Nat.le_of_eq g3.symm))) nin0)).ext E5).keep K6 (ninS (Nat.ne_of_lt (Nat.lt_of_lt_of_le ((Ex2.ext E3).keep K4).lt (Nat.le_of_eq g5.symm))) nin0)).keep K7 nin0) (((((Fv1_2.ext E3).keep K4 (ninS (Nat.ne_of_lt (Nat.lt_of_lt_of_le Ex2.lt (Nat.le_of_eq g3.symm))) nin0)).ext E5).keep K6 (ninS (Nat.ne_of_lt (Nat.lt_of_lt_of_le ((Ex2.ext E3).keep K4).lt (Nat.le_of_eq g5.symm))) nin0)).keep K7 nin0) (((((Fv2_2.ext E3).keep K4 (ninS (Nat.ne_of_lt (Nat.lt_of_lt_of_le Ex2.lt (Nat.le_of_eq g3.symm))) nin0)).ext E5).keep K6 (ninS (Nat.ne_of_lt (Nat.lt_of_lt_of_le ((Ex2.ext E3).keep K4).lt (Nat.le_of_eq g5.symm))) nin0)).keep K7 nin0) (((((Ex2.ext E3).keep K4).ext E5).keep K6).keep K7) ((lw_eq _ _).mpr ((lw_eq _ _).mp hc9).symm) ((lw_eq _ _).mpr ((lw_eq _ _).mp hc11).symm) ((lw_eq _ _).mpr ((lw_eq _ _).mp hc13).symm)) hZ (hw _ (List.mem_of_getElem? (i := 27) rfl)) (hw _ (List.mem_of_getElem? (i := 2) rfl)) (by decide) (by decide)) q19a q19c (g := (mkF mm 218 #[.val (.long q0), .second, .val (.long q1), .second, .val (.long q2), .second, .val (.long q3), .second, .val (.long q4), .second, .val (.long q5), .second, .val (.long (q0 ^^^ q3)), .second, .val (.long (q1 ^^^ q4)), .second, .val (.long (q2 ^^^ q5)), .second, .val (.ref b1), .val (.ref b3), .val (.ref b5), .val (.ref bx7), .val (.int (1 : Int32)), .val (.int (1 : Int32))] [(.ref b1), (.ref b5)])) rfl (by rw [hml]; rfl) (Steps.refl _) (argsL := [(.ref b1)]) (rest := []) (lenOf pd_86 rfl) rfl (by show 2 * 0 + _ ≤ _; exact Nat.le_of_eq rfl) (hb hby at_218) (fun _ _ => ⟨rfl, e18, (by decide : 4 + 0 ≤ _), (by decide : 10 + 0 ≤ _)⟩)
        dsimp only [Pt.U, Pt.locs, Pt.cells, Pt.slots] at X19 l19 y19 z19 st19 hQ19
        subst l19 y19 z19
        obtain ⟨rfl, N19q, e19⟩ := hQ19
        have N19 := Fr.app N18 N19q
        obtain ⟨fs, hr, hrun, hended, hW, hsame⟩ := X19.leave (v := some (.int (1 : Int32))) (fun h => by rw [Bd.returns] at h; cases h)
        refine ⟨_, _, pre12 _ ?_, hrun, hended, _, _, rfl, ?_, ⟨_, rfl⟩, hW, hsame.mono (by decide) (by decide)⟩
        · show Steps pg.tables ee below (T7.setTop (mkF mm 85 #[.val (.long q0), .second, .val (.long q1), .second, .val (.long q2), .second, .val (.long q3), .second, .val (.long q4), .second, .val (.long q5), .second, .val (.long (q0 ^^^ q3)), .second, .val (.long (q1 ^^^ q4)), .second, .val (.long (q2 ^^^ q5)), .second, .val (.ref b1), .val (.ref b3), .val (.ref b5), .val (.ref bx7), .unset, .unset] [(.int (lcmpW q2 (q2 ^^^ q5)))])) _
          refine XS.ifNo X7.here hx rfl (hb hby at_85) rfl ((if0 _ _).trans (teq hc13).2) ?_
          show Steps pg.tables ee below (T7.setTop (mkF mm 88 #[.val (.long q0), .second, .val (.long q1), .second, .val (.long q2), .second, .val (.long q3), .second, .val (.long q4), .second, .val (.long q5), .second, .val (.long (q0 ^^^ q3)), .second, .val (.long (q1 ^^^ q4)), .second, .val (.long (q2 ^^^ q5)), .second, .val (.ref b1), .val (.ref b3), .val (.ref b5), .val (.ref bx7), .unset, .unset] [])) _
          refine XS.iconst X7.here hx rfl (hb hby at_88) ?_
          show Steps pg.tables ee below (T7.setTop (mkF mm 89 #[.val (.long q0), .second, .val (.long q1), .second, .val (.long q2), .second, .val (.long q3), .second, .val (.long q4), .second, .val (.long q5), .second, .val (.long (q0 ^^^ q3)), .second, .val (.long (q1 ^^^ q4)), .second, .val (.long (q2 ^^^ q5)), .second, .val (.ref b1), .val (.ref b3), .val (.ref b5), .val (.ref bx7), .unset, .unset] [(.int (1 : Int32))])) _
          refine XS.goto X7.here hx rfl (pc0 := 89) (pc' := 93) rfl (hb hby at_89) (by decide) (by decide) ?_
          show Steps pg.tables ee below (T7.setTop (mkF mm 93 #[.val (.long q0), .second, .val (.long q1), .second, .val (.long q2), .second, .val (.long q3), .second, .val (.long q4), .second, .val (.long q5), .second, .val (.long (q0 ^^^ q3)), .second, .val (.long (q1 ^^^ q4)), .second, .val (.long (q2 ^^^ q5)), .second, .val (.ref b1), .val (.ref b3), .val (.ref b5), .val (.ref bx7), .unset, .unset] [(.int (1 : Int32))])) _
          refine XS.istore X7.here hx rfl (hb hby at_93) rfl (l' := #[.val (.long q0), .second, .val (.long q1), .second, .val (.long q2), .second, .val (.long q3), .second, .val (.long q4), .second, .val (.long q5), .second, .val (.long (q0 ^^^ q3)), .second, .val (.long (q1 ^^^ q4)), .second, .val (.long (q2 ^^^ q5)), .second, .val (.ref b1), .val (.ref b3), .val (.ref b5), .val (.ref bx7), .val (.int (1 : Int32)), .unset]) rfl ?_
          show Steps pg.tables ee below (T7.setTop (mkF mm 95 #[.val (.long q0), .second, .val (.long q1), .second, .val (.long q2), .second, .val (.long q3), .second, .val (.long q4), .second, .val (.long q5), .second, .val (.long (q0 ^^^ q3)), .second, .val (.long (q1 ^^^ q4)), .second, .val (.long (q2 ^^^ q5)), .second, .val (.ref b1), .val (.ref b3), .val (.ref b5), .val (.ref bx7), .val (.int (1 : Int32)), .unset] [])) _
          refine XS.iconst X7.here hx rfl (hb hby at_95) ?_
          show Steps pg.tables ee below (T7.setTop (mkF mm 96 #[.val (.long q0), .second, .val (.long q1), .second, .val (.long q2), .second, .val (.long q3), .second, .val (.long q4), .second, .val (.long q5), .second, .val (.long (q0 ^^^ q3)), .second, .val (.long (q1 ^^^ q4)), .second, .val (.long (q2 ^^^ q5)), .second, .val (.ref b1), .val (.ref b3), .val (.ref b5), .val (.ref bx7), .val (.int (1 : Int32)), .unset] [(.int (1 : Int32))])) _
          refine XS.istore X7.here hx rfl (hb hby at_96) rfl (l' := #[.val (.long q0), .second, .val (.long q1), .second, .val (.long q2), .second, .val (.long q3), .second, .val (.long q4), .second, .val (.long q5), .second, .val (.long (q0 ^^^ q3)), .second, .val (.long (q1 ^^^ q4)), .second, .val (.long (q2 ^^^ q5)), .second, .val (.ref b1), .val (.ref b3), .val (.ref b5), .val (.ref bx7), .val (.int (1 : Int32)), .val (.int (1 : Int32))]) rfl ?_
          show Steps pg.tables ee below (T7.setTop (mkF mm 98 #[.val (.long q0), .second, .val (.long q1), .second, .val (.long q2), .second, .val (.long q3), .second, .val (.long q4), .second, .val (.long q5), .second, .val (.long (q0 ^^^ q3)), .second, .val (.long (q1 ^^^ q4)), .second, .val (.long (q2 ^^^ q5)), .second, .val (.ref b1), .val (.ref b3), .val (.ref b5), .val (.ref bx7), .val (.int (1 : Int32)), .val (.int (1 : Int32))] [])) _
          refine XS.iload X7.here hx rfl (hb hby at_98) rfl ?_
          show Steps pg.tables ee below (T7.setTop (mkF mm 100 #[.val (.long q0), .second, .val (.long q1), .second, .val (.long q2), .second, .val (.long q3), .second, .val (.long q4), .second, .val (.long q5), .second, .val (.long (q0 ^^^ q3)), .second, .val (.long (q1 ^^^ q4)), .second, .val (.long (q2 ^^^ q5)), .second, .val (.ref b1), .val (.ref b3), .val (.ref b5), .val (.ref bx7), .val (.int (1 : Int32)), .val (.int (1 : Int32))] [(.int (1 : Int32))])) _
          refine XS.ifNo X7.here hx rfl (hb hby at_100) rfl ((if0 _ _).trans (feq (by decide : ¬ ((1 : Int32) = (0 : Int32)))).1) ?_
          show Steps pg.tables ee below (T7.setTop (mkF mm 103 #[.val (.long q0), .second, .val (.long q1), .second, .val (.long q2), .second, .val (.long q3), .second, .val (.long q4), .second, .val (.long q5), .second, .val (.long (q0 ^^^ q3)), .second, .val (.long (q1 ^^^ q4)), .second, .val (.long (q2 ^^^ q5)), .second, .val (.ref b1), .val (.ref b3), .val (.ref b5), .val (.ref bx7), .val (.int (1 : Int32)), .val (.int (1 : Int32))] [])) _
          refine XS.aload X7.here hx rfl (hb hby at_103) rfl rfl ?_
          show Steps pg.tables ee below (T7.setTop (mkF mm 105 #[.val (.long q0), .second, .val (.long q1), .second, .val (.long q2), .second, .val (.long q3), .second, .val (.long q4), .second, .val (.long q5), .second, .val (.long (q0 ^^^ q3)), .second, .val (.long (q1 ^^^ q4)), .second, .val (.long (q2 ^^^ q5)), .second, .val (.ref b1), .val (.ref b3), .val (.ref b5), .val (.ref bx7), .val (.int (1 : Int32)), .val (.int (1 : Int32))] [(.ref b1)])) _
          refine XS.aconstNull X7.here hx rfl (hb hby at_105) ?_
          show Steps pg.tables ee below (T7.setTop (mkF mm 106 #[.val (.long q0), .second, .val (.long q1), .second, .val (.long q2), .second, .val (.long q3), .second, .val (.long q4), .second, .val (.long q5), .second, .val (.long (q0 ^^^ q3)), .second, .val (.long (q1 ^^^ q4)), .second, .val (.long (q2 ^^^ q5)), .second, .val (.ref b1), .val (.ref b3), .val (.ref b5), .val (.ref bx7), .val (.int (1 : Int32)), .val (.int (1 : Int32))] [.null, (.ref b1)])) _
          refine st14.trans ?_
          show Steps pg.tables ee below (T14.setTop (mkF mm 109 #[.val (.long q0), .second, .val (.long q1), .second, .val (.long q2), .second, .val (.long q3), .second, .val (.long q4), .second, .val (.long q5), .second, .val (.long (q0 ^^^ q3)), .second, .val (.long (q1 ^^^ q4)), .second, .val (.long (q2 ^^^ q5)), .second, .val (.ref b1), .val (.ref b3), .val (.ref b5), .val (.ref bx7), .val (.int (1 : Int32)), .val (.int (1 : Int32))] [(.int (0 : Int32))])) _
          refine XS.ifNo X14.here hx rfl (hb hby at_109) rfl ((if0 _ _).trans (teq (by decide : (0 : Int32) = (0 : Int32))).2) ?_
          show Steps pg.tables ee below (T14.setTop (mkF mm 112 #[.val (.long q0), .second, .val (.long q1), .second, .val (.long q2), .second, .val (.long q3), .second, .val (.long q4), .second, .val (.long q5), .second, .val (.long (q0 ^^^ q3)), .second, .val (.long (q1 ^^^ q4)), .second, .val (.long (q2 ^^^ q5)), .second, .val (.ref b1), .val (.ref b3), .val (.ref b5), .val (.ref bx7), .val (.int (1 : Int32)), .val (.int (1 : Int32))] [])) _
          refine XS.iconst X14.here hx rfl (hb hby at_112) ?_
          show Steps pg.tables ee below (T14.setTop (mkF mm 113 #[.val (.long q0), .second, .val (.long q1), .second, .val (.long q2), .second, .val (.long q3), .second, .val (.long q4), .second, .val (.long q5), .second, .val (.long (q0 ^^^ q3)), .second, .val (.long (q1 ^^^ q4)), .second, .val (.long (q2 ^^^ q5)), .second, .val (.ref b1), .val (.ref b3), .val (.ref b5), .val (.ref bx7), .val (.int (1 : Int32)), .val (.int (1 : Int32))] [(.int (1 : Int32))])) _
          refine XS.goto X14.here hx rfl (pc0 := 113) (pc' := 117) rfl (hb hby at_113) (by decide) (by decide) ?_
          show Steps pg.tables ee below (T14.setTop (mkF mm 117 #[.val (.long q0), .second, .val (.long q1), .second, .val (.long q2), .second, .val (.long q3), .second, .val (.long q4), .second, .val (.long q5), .second, .val (.long (q0 ^^^ q3)), .second, .val (.long (q1 ^^^ q4)), .second, .val (.long (q2 ^^^ q5)), .second, .val (.ref b1), .val (.ref b3), .val (.ref b5), .val (.ref bx7), .val (.int (1 : Int32)), .val (.int (1 : Int32))] [(.int (1 : Int32))])) _
          refine XS.istore X14.here hx rfl (hb hby at_117) rfl (l' := #[.val (.long q0), .second, .val (.long q1), .second, .val (.long q2), .second, .val (.long q3), .second, .val (.long q4), .second, .val (.long q5), .second, .val (.long (q0 ^^^ q3)), .second, .val (.long (q1 ^^^ q4)), .second, .val (.long (q2 ^^^ q5)), .second, .val (.ref b1), .val (.ref b3), .val (.ref b5), .val (.ref bx7), .val (.int (1 : Int32)), .val (.int (1 : Int32))]) rfl ?_
          show Steps pg.tables ee below (T14.setTop (mkF mm 119 #[.val (.long q0), .second, .val (.long q1), .second, .val (.long q2), .second, .val (.long q3), .second, .val (.long q4), .second, .val (.long q5), .second, .val (.long (q0 ^^^ q3)), .second, .val (.long (q1 ^^^ q4)), .second, .val (.long (q2 ^^^ q5)), .second, .val (.ref b1), .val (.ref b3), .val (.ref b5), .val (.ref bx7), .val (.int (1 : Int32)), .val (.int (1 : Int32))] [])) _
          refine XS.iload X14.here hx rfl (hb hby at_119) rfl ?_
          show Steps pg.tables ee below (T14.setTop (mkF mm 121 #[.val (.long q0), .second, .val (.long q1), .second, .val (.long q2), .second, .val (.long q3), .second, .val (.long q4), .second, .val (.long q5), .second, .val (.long (q0 ^^^ q3)), .second, .val (.long (q1 ^^^ q4)), .second, .val (.long (q2 ^^^ q5)), .second, .val (.ref b1), .val (.ref b3), .val (.ref b5), .val (.ref bx7), .val (.int (1 : Int32)), .val (.int (1 : Int32))] [(.int (1 : Int32))])) _
          refine XS.ifNo X14.here hx rfl (hb hby at_121) rfl ((if0 _ _).trans (feq (by decide : ¬ ((1 : Int32) = (0 : Int32)))).1) ?_
          show Steps pg.tables ee below (T14.setTop (mkF mm 124 #[.val (.long q0), .second, .val (.long q1), .second, .val (.long q2), .second, .val (.long q3), .second, .val (.long q4), .second, .val (.long q5), .second, .val (.long (q0 ^^^ q3)), .second, .val (.long (q1 ^^^ q4)), .second, .val (.long (q2 ^^^ q5)), .second, .val (.ref b1), .val (.ref b3), .val (.ref b5), .val (.ref bx7), .val (.int (1 : Int32)), .val (.int (1 : Int32))] [])) _
          refine XS.aload X14.here hx rfl (hb hby at_124) rfl rfl ?_
          show Steps pg.tables ee below (T14.setTop (mkF mm 126 #[.val (.long q0), .second, .val (.long q1), .second, .val (.long q2), .second, .val (.long q3), .second, .val (.long q4), .second, .val (.long q5), .second, .val (.long (q0 ^^^ q3)), .second, .val (.long (q1 ^^^ q4)), .second, .val (.long (q2 ^^^ q5)), .second, .val (.ref b1), .val (.ref b3), .val (.ref b5), .val (.ref bx7), .val (.int (1 : Int32)), .val (.int (1 : Int32))] [(.ref b1)])) _
          refine XS.aload X14.here hx rfl (hb hby at_126) rfl rfl ?_
          show Steps pg.tables ee below (T14.setTop (mkF mm 128 #[.val (.long q0), .second, .val (.long q1), .second, .val (.long q2), .second, .val (.long q3), .second, .val (.long q4), .second, .val (.long q5), .second, .val (.long (q0 ^^^ q3)), .second, .val (.long (q1 ^^^ q4)), .second, .val (.long (q2 ^^^ q5)), .second, .val (.ref b1), .val (.ref b3), .val (.ref b5), .val (.ref bx7), .val (.int (1 : Int32)), .val (.int (1 : Int32))] [(.ref bx7), (.ref b1)])) _
          refine st15.trans ?_
          show Steps pg.tables ee below (T15.setTop (mkF mm 131 #[.val (.long q0), .second, .val (.long q1), .second, .val (.long q2), .second, .val (.long q3), .second, .val (.long q4), .second, .val (.long q5), .second, .val (.long (q0 ^^^ q3)), .second, .val (.long (q1 ^^^ q4)), .second, .val (.long (q2 ^^^ q5)), .second, .val (.ref b1), .val (.ref b3), .val (.ref b5), .val (.ref bx7), .val (.int (1 : Int32)), .val (.int (1 : Int32))] [(.int (0 : Int32))])) _
          refine XS.ifNo X15.here hx rfl (hb hby at_131) rfl ((if0 _ _).trans (teq (by decide : (0 : Int32) = (0 : Int32))).2) ?_
          show Steps pg.tables ee below (T15.setTop (mkF mm 134 #[.val (.long q0), .second, .val (.long q1), .second, .val (.long q2), .second, .val (.long q3), .second, .val (.long q4), .second, .val (.long q5), .second, .val (.long (q0 ^^^ q3)), .second, .val (.long (q1 ^^^ q4)), .second, .val (.long (q2 ^^^ q5)), .second, .val (.ref b1), .val (.ref b3), .val (.ref b5), .val (.ref bx7), .val (.int (1 : Int32)), .val (.int (1 : Int32))] [])) _
          refine XS.iconst X15.here hx rfl (hb hby at_134) ?_
          show Steps pg.tables ee below (T15.setTop (mkF mm 135 #[.val (.long q0), .second, .val (.long q1), .second, .val (.long q2), .second, .val (.long q3), .second, .val (.long q4), .second, .val (.long q5), .second, .val (.long (q0 ^^^ q3)), .second, .val (.long (q1 ^^^ q4)), .second, .val (.long (q2 ^^^ q5)), .second, .val (.ref b1), .val (.ref b3), .val (.ref b5), .val (.ref bx7), .val (.int (1 : Int32)), .val (.int (1 : Int32))] [(.int (1 : Int32))])) _
          refine XS.goto X15.here hx rfl (pc0 := 135) (pc' := 139) rfl (hb hby at_135) (by decide) (by decide) ?_
          show Steps pg.tables ee below (T15.setTop (mkF mm 139 #[.val (.long q0), .second, .val (.long q1), .second, .val (.long q2), .second, .val (.long q3), .second, .val (.long q4), .second, .val (.long q5), .second, .val (.long (q0 ^^^ q3)), .second, .val (.long (q1 ^^^ q4)), .second, .val (.long (q2 ^^^ q5)), .second, .val (.ref b1), .val (.ref b3), .val (.ref b5), .val (.ref bx7), .val (.int (1 : Int32)), .val (.int (1 : Int32))] [(.int (1 : Int32))])) _
          refine XS.istore X15.here hx rfl (hb hby at_139) rfl (l' := #[.val (.long q0), .second, .val (.long q1), .second, .val (.long q2), .second, .val (.long q3), .second, .val (.long q4), .second, .val (.long q5), .second, .val (.long (q0 ^^^ q3)), .second, .val (.long (q1 ^^^ q4)), .second, .val (.long (q2 ^^^ q5)), .second, .val (.ref b1), .val (.ref b3), .val (.ref b5), .val (.ref bx7), .val (.int (1 : Int32)), .val (.int (1 : Int32))]) rfl ?_
          show Steps pg.tables ee below (T15.setTop (mkF mm 141 #[.val (.long q0), .second, .val (.long q1), .second, .val (.long q2), .second, .val (.long q3), .second, .val (.long q4), .second, .val (.long q5), .second, .val (.long (q0 ^^^ q3)), .second, .val (.long (q1 ^^^ q4)), .second, .val (.long (q2 ^^^ q5)), .second, .val (.ref b1), .val (.ref b3), .val (.ref b5), .val (.ref bx7), .val (.int (1 : Int32)), .val (.int (1 : Int32))] [])) _
          refine XS.iload X15.here hx rfl (hb hby at_141) rfl ?_
          show Steps pg.tables ee below (T15.setTop (mkF mm 143 #[.val (.long q0), .second, .val (.long q1), .second, .val (.long q2), .second, .val (.long q3), .second, .val (.long q4), .second, .val (.long q5), .second, .val (.long (q0 ^^^ q3)), .second, .val (.long (q1 ^^^ q4)), .second, .val (.long (q2 ^^^ q5)), .second, .val (.ref b1), .val (.ref b3), .val (.ref b5), .val (.ref bx7), .val (.int (1 : Int32)), .val (.int (1 : Int32))] [(.int (1 : Int32))])) _
          refine XS.ifNo X15.here hx rfl (hb hby at_143) rfl ((if0 _ _).trans (feq (by decide : ¬ ((1 : Int32) = (0 : Int32)))).1) ?_
          show Steps pg.tables ee below (T15.setTop (mkF mm 146 #[.val (.long q0), .second, .val (.long q1), .second, .val (.long q2), .second, .val (.long q3), .second, .val (.long q4), .second, .val (.long q5), .second, .val (.long (q0 ^^^ q3)), .second, .val (.long (q1 ^^^ q4)), .second, .val (.long (q2 ^^^ q5)), .second, .val (.ref b1), .val (.ref b3), .val (.ref b5), .val (.ref bx7), .val (.int (1 : Int32)), .val (.int (1 : Int32))] [])) _
          refine XS.aload X15.here hx rfl (hb hby at_146) rfl rfl ?_
          show Steps pg.tables ee below (T15.setTop (mkF mm 148 #[.val (.long q0), .second, .val (.long q1), .second, .val (.long q2), .second, .val (.long q3), .second, .val (.long q4), .second, .val (.long q5), .second, .val (.long (q0 ^^^ q3)), .second, .val (.long (q1 ^^^ q4)), .second, .val (.long (q2 ^^^ q5)), .second, .val (.ref b1), .val (.ref b3), .val (.ref b5), .val (.ref bx7), .val (.int (1 : Int32)), .val (.int (1 : Int32))] [(.ref b1)])) _
          refine XS.aload X15.here hx rfl (hb hby at_148) rfl rfl ?_
          show Steps pg.tables ee below (T15.setTop (mkF mm 150 #[.val (.long q0), .second, .val (.long q1), .second, .val (.long q2), .second, .val (.long q3), .second, .val (.long q4), .second, .val (.long q5), .second, .val (.long (q0 ^^^ q3)), .second, .val (.long (q1 ^^^ q4)), .second, .val (.long (q2 ^^^ q5)), .second, .val (.ref b1), .val (.ref b3), .val (.ref b5), .val (.ref bx7), .val (.int (1 : Int32)), .val (.int (1 : Int32))] [(.ref b1), (.ref b1)])) _
          refine st16.trans ?_
          show Steps pg.tables ee below (T16.setTop (mkF mm 153 #[.val (.long q0), .second, .val (.long q1), .second, .val (.long q2), .second, .val (.long q3), .second, .val (.long q4), .second, .val (.long q5), .second, .val (.long (q0 ^^^ q3)), .second, .val (.long (q1 ^^^ q4)), .second, .val (.long (q2 ^^^ q5)), .second, .val (.ref b1), .val (.ref b3), .val (.ref b5), .val (.ref bx7), .val (.int (1 : Int32)), .val (.int (1 : Int32))] [(.int (1 : Int32))])) _
          refine XS.ifNo X16.here hx rfl (hb hby at_153) rfl ((if0 _ _).trans (feq (by decide : ¬ ((1 : Int32) = (0 : Int32)))).1) ?_
          show Steps pg.tables ee below (T16.setTop (mkF mm 156 #[.val (.long q0), .second, .val (.long q1), .second, .val (.long q2), .second, .val (.long q3), .second, .val (.long q4), .second, .val (.long q5), .second, .val (.long (q0 ^^^ q3)), .second, .val (.long (q1 ^^^ q4)), .second, .val (.long (q2 ^^^ q5)), .second, .val (.ref b1), .val (.ref b3), .val (.ref b5), .val (.ref bx7), .val (.int (1 : Int32)), .val (.int (1 : Int32))] [])) _
          refine XS.iconst X16.here hx rfl (hb hby at_156) ?_
          show Steps pg.tables ee below (T16.setTop (mkF mm 157 #[.val (.long q0), .second, .val (.long q1), .second, .val (.long q2), .second, .val (.long q3), .second, .val (.long q4), .second, .val (.long q5), .second, .val (.long (q0 ^^^ q3)), .second, .val (.long (q1 ^^^ q4)), .second, .val (.long (q2 ^^^ q5)), .second, .val (.ref b1), .val (.ref b3), .val (.ref b5), .val (.ref bx7), .val (.int (1 : Int32)), .val (.int (1 : Int32))] [(.int (1 : Int32))])) _
          refine XS.goto X16.here hx rfl (pc0 := 157) (pc' := 161) rfl (hb hby at_157) (by decide) (by decide) ?_
          show Steps pg.tables ee below (T16.setTop (mkF mm 161 #[.val (.long q0), .second, .val (.long q1), .second, .val (.long q2), .second, .val (.long q3), .second, .val (.long q4), .second, .val (.long q5), .second, .val (.long (q0 ^^^ q3)), .second, .val (.long (q1 ^^^ q4)), .second, .val (.long (q2 ^^^ q5)), .second, .val (.ref b1), .val (.ref b3), .val (.ref b5), .val (.ref bx7), .val (.int (1 : Int32)), .val (.int (1 : Int32))] [(.int (1 : Int32))])) _
          refine XS.istore X16.here hx rfl (hb hby at_161) rfl (l' := #[.val (.long q0), .second, .val (.long q1), .second, .val (.long q2), .second, .val (.long q3), .second, .val (.long q4), .second, .val (.long q5), .second, .val (.long (q0 ^^^ q3)), .second, .val (.long (q1 ^^^ q4)), .second, .val (.long (q2 ^^^ q5)), .second, .val (.ref b1), .val (.ref b3), .val (.ref b5), .val (.ref bx7), .val (.int (1 : Int32)), .val (.int (1 : Int32))]) rfl ?_
          show Steps pg.tables ee below (T16.setTop (mkF mm 163 #[.val (.long q0), .second, .val (.long q1), .second, .val (.long q2), .second, .val (.long q3), .second, .val (.long q4), .second, .val (.long q5), .second, .val (.long (q0 ^^^ q3)), .second, .val (.long (q1 ^^^ q4)), .second, .val (.long (q2 ^^^ q5)), .second, .val (.ref b1), .val (.ref b3), .val (.ref b5), .val (.ref bx7), .val (.int (1 : Int32)), .val (.int (1 : Int32))] [])) _
          refine XS.iload X16.here hx rfl (hb hby at_163) rfl ?_
          show Steps pg.tables ee below (T16.setTop (mkF mm 165 #[.val (.long q0), .second, .val (.long q1), .second, .val (.long q2), .second, .val (.long q3), .second, .val (.long q4), .second, .val (.long q5), .second, .val (.long (q0 ^^^ q3)), .second, .val (.long (q1 ^^^ q4)), .second, .val (.long (q2 ^^^ q5)), .second, .val (.ref b1), .val (.ref b3), .val (.ref b5), .val (.ref bx7), .val (.int (1 : Int32)), .val (.int (1 : Int32))] [(.int (1 : Int32))])) _
          refine XS.ifNo X16.here hx rfl (hb hby at_165) rfl ((if0 _ _).trans (feq (by decide : ¬ ((1 : Int32) = (0 : Int32)))).1) ?_
          show Steps pg.tables ee below (T16.setTop (mkF mm 168 #[.val (.long q0), .second, .val (.long q1), .second, .val (.long q2), .second, .val (.long q3), .second, .val (.long q4), .second, .val (.long q5), .second, .val (.long (q0 ^^^ q3)), .second, .val (.long (q1 ^^^ q4)), .second, .val (.long (q2 ^^^ q5)), .second, .val (.ref b1), .val (.ref b3), .val (.ref b5), .val (.ref bx7), .val (.int (1 : Int32)), .val (.int (1 : Int32))] [])) _
          refine XS.aload X16.here hx rfl (hb hby at_168) rfl rfl ?_
          show Steps pg.tables ee below (T16.setTop (mkF mm 170 #[.val (.long q0), .second, .val (.long q1), .second, .val (.long q2), .second, .val (.long q3), .second, .val (.long q4), .second, .val (.long q5), .second, .val (.long (q0 ^^^ q3)), .second, .val (.long (q1 ^^^ q4)), .second, .val (.long (q2 ^^^ q5)), .second, .val (.ref b1), .val (.ref b3), .val (.ref b5), .val (.ref bx7), .val (.int (1 : Int32)), .val (.int (1 : Int32))] [(.ref b1)])) _
          refine XS.aload X16.here hx rfl (hb hby at_170) rfl rfl ?_
          show Steps pg.tables ee below (T16.setTop (mkF mm 172 #[.val (.long q0), .second, .val (.long q1), .second, .val (.long q2), .second, .val (.long q3), .second, .val (.long q4), .second, .val (.long q5), .second, .val (.long (q0 ^^^ q3)), .second, .val (.long (q1 ^^^ q4)), .second, .val (.long (q2 ^^^ q5)), .second, .val (.ref b1), .val (.ref b3), .val (.ref b5), .val (.ref bx7), .val (.int (1 : Int32)), .val (.int (1 : Int32))] [(.ref b3), (.ref b1)])) _
          refine st17.trans ?_
          show Steps pg.tables ee below (T17.setTop (mkF mm 175 #[.val (.long q0), .second, .val (.long q1), .second, .val (.long q2), .second, .val (.long q3), .second, .val (.long q4), .second, .val (.long q5), .second, .val (.long (q0 ^^^ q3)), .second, .val (.long (q1 ^^^ q4)), .second, .val (.long (q2 ^^^ q5)), .second, .val (.ref b1), .val (.ref b3), .val (.ref b5), .val (.ref bx7), .val (.int (1 : Int32)), .val (.int (1 : Int32))] [(.int (1 : Int32))])) _
          refine XS.ifNo X17.here hx rfl (hb hby at_175) rfl ((if0 _ _).trans (feq (by decide : ¬ ((1 : Int32) = (0 : Int32)))).1) ?_
          show Steps pg.tables ee below (T17.setTop (mkF mm 178 #[.val (.long q0), .second, .val (.long q1), .second, .val (.long q2), .second, .val (.long q3), .second, .val (.long q4), .second, .val (.long q5), .second, .val (.long (q0 ^^^ q3)), .second, .val (.long (q1 ^^^ q4)), .second, .val (.long (q2 ^^^ q5)), .second, .val (.ref b1), .val (.ref b3), .val (.ref b5), .val (.ref bx7), .val (.int (1 : Int32)), .val (.int (1 : Int32))] [])) _
          refine XS.iconst X17.here hx rfl (hb hby at_178) ?_
          show Steps pg.tables ee below (T17.setTop (mkF mm 179 #[.val (.long q0), .second, .val (.long q1), .second, .val (.long q2), .second, .val (.long q3), .second, .val (.long q4), .second, .val (.long q5), .second, .val (.long (q0 ^^^ q3)), .second, .val (.long (q1 ^^^ q4)), .second, .val (.long (q2 ^^^ q5)), .second, .val (.ref b1), .val (.ref b3), .val (.ref b5), .val (.ref bx7), .val (.int (1 : Int32)), .val (.int (1 : Int32))] [(.int (1 : Int32))])) _
          refine XS.goto X17.here hx rfl (pc0 := 179) (pc' := 183) rfl (hb hby at_179) (by decide) (by decide) ?_
          show Steps pg.tables ee below (T17.setTop (mkF mm 183 #[.val (.long q0), .second, .val (.long q1), .second, .val (.long q2), .second, .val (.long q3), .second, .val (.long q4), .second, .val (.long q5), .second, .val (.long (q0 ^^^ q3)), .second, .val (.long (q1 ^^^ q4)), .second, .val (.long (q2 ^^^ q5)), .second, .val (.ref b1), .val (.ref b3), .val (.ref b5), .val (.ref bx7), .val (.int (1 : Int32)), .val (.int (1 : Int32))] [(.int (1 : Int32))])) _
          refine XS.istore X17.here hx rfl (hb hby at_183) rfl (l' := #[.val (.long q0), .second, .val (.long q1), .second, .val (.long q2), .second, .val (.long q3), .second, .val (.long q4), .second, .val (.long q5), .second, .val (.long (q0 ^^^ q3)), .second, .val (.long (q1 ^^^ q4)), .second, .val (.long (q2 ^^^ q5)), .second, .val (.ref b1), .val (.ref b3), .val (.ref b5), .val (.ref bx7), .val (.int (1 : Int32)), .val (.int (1 : Int32))]) rfl ?_
          show Steps pg.tables ee below (T17.setTop (mkF mm 185 #[.val (.long q0), .second, .val (.long q1), .second, .val (.long q2), .second, .val (.long q3), .second, .val (.long q4), .second, .val (.long q5), .second, .val (.long (q0 ^^^ q3)), .second, .val (.long (q1 ^^^ q4)), .second, .val (.long (q2 ^^^ q5)), .second, .val (.ref b1), .val (.ref b3), .val (.ref b5), .val (.ref bx7), .val (.int (1 : Int32)), .val (.int (1 : Int32))] [])) _
          refine XS.iload X17.here hx rfl (hb hby at_185) rfl ?_
          show Steps pg.tables ee below (T17.setTop (mkF mm 187 #[.val (.long q0), .second, .val (.long q1), .second, .val (.long q2), .second, .val (.long q3), .second, .val (.long q4), .second, .val (.long q5), .second, .val (.long (q0 ^^^ q3)), .second, .val (.long (q1 ^^^ q4)), .second, .val (.long (q2 ^^^ q5)), .second, .val (.ref b1), .val (.ref b3), .val (.ref b5), .val (.ref bx7), .val (.int (1 : Int32)), .val (.int (1 : Int32))] [(.int (1 : Int32))])) _
          refine XS.ifNo X17.here hx rfl (hb hby at_187) rfl ((if0 _ _).trans (feq (by decide : ¬ ((1 : Int32) = (0 : Int32)))).1) ?_
          show Steps pg.tables ee below (T17.setTop (mkF mm 190 #[.val (.long q0), .second, .val (.long q1), .second, .val (.long q2), .second, .val (.long q3), .second, .val (.long q4), .second, .val (.long q5), .second, .val (.long (q0 ^^^ q3)), .second, .val (.long (q1 ^^^ q4)), .second, .val (.long (q2 ^^^ q5)), .second, .val (.ref b1), .val (.ref b3), .val (.ref b5), .val (.ref bx7), .val (.int (1 : Int32)), .val (.int (1 : Int32))] [])) _
          refine XS.aload X17.here hx rfl (hb hby at_190) rfl rfl ?_
          show Steps pg.tables ee below (T17.setTop (mkF mm 192 #[.val (.long q0), .second, .val (.long q1), .second, .val (.long q2), .second, .val (.long q3), .second, .val (.long q4), .second, .val (.long q5), .second, .val (.long (q0 ^^^ q3)), .second, .val (.long (q1 ^^^ q4)), .second, .val (.long (q2 ^^^ q5)), .second, .val (.ref b1), .val (.ref b3), .val (.ref b5), .val (.ref bx7), .val (.int (1 : Int32)), .val (.int (1 : Int32))] [(.ref b1)])) _
          refine XS.aload X17.here hx rfl (hb hby at_192) rfl rfl ?_
          show Steps pg.tables ee below (T17.setTop (mkF mm 194 #[.val (.long q0), .second, .val (.long q1), .second, .val (.long q2), .second, .val (.long q3), .second, .val (.long q4), .second, .val (.long q5), .second, .val (.long (q0 ^^^ q3)), .second, .val (.long (q1 ^^^ q4)), .second, .val (.long (q2 ^^^ q5)), .second, .val (.ref b1), .val (.ref b3), .val (.ref b5), .val (.ref bx7), .val (.int (1 : Int32)), .val (.int (1 : Int32))] [(.ref b5), (.ref b1)])) _
          refine st18.trans ?_
          show Steps pg.tables ee below (T18.setTop (mkF mm 197 #[.val (.long q0), .second, .val (.long q1), .second, .val (.long q2), .second, .val (.long q3), .second, .val (.long q4), .second, .val (.long q5), .second, .val (.long (q0 ^^^ q3)), .second, .val (.long (q1 ^^^ q4)), .second, .val (.long (q2 ^^^ q5)), .second, .val (.ref b1), .val (.ref b3), .val (.ref b5), .val (.ref bx7), .val (.int (1 : Int32)), .val (.int (1 : Int32))] [(.int (1 : Int32))])) _
          refine XS.iload X18.here hx rfl (hb hby at_197) rfl ?_
          show Steps pg.tables ee below (T18.setTop (mkF mm 199 #[.val (.long q0), .second, .val (.long q1), .second, .val (.long q2), .second, .val (.long q3), .second, .val (.long q4), .second, .val (.long q5), .second, .val (.long (q0 ^^^ q3)), .second, .val (.long (q1 ^^^ q4)), .second, .val (.long (q2 ^^^ q5)), .second, .val (.ref b1), .val (.ref b3), .val (.ref b5), .val (.ref bx7), .val (.int (1 : Int32)), .val (.int (1 : Int32))] [(.int (1 : Int32)), (.int (1 : Int32))])) _
          refine XS.icmpNo X18.here hx rfl (hb hby at_199) rfl (teq (by decide : (1 : Int32) = (1 : Int32))).2 ?_
          show Steps pg.tables ee below (T18.setTop (mkF mm 202 #[.val (.long q0), .second, .val (.long q1), .second, .val (.long q2), .second, .val (.long q3), .second, .val (.long q4), .second, .val (.long q5), .second, .val (.long (q0 ^^^ q3)), .second, .val (.long (q1 ^^^ q4)), .second, .val (.long (q2 ^^^ q5)), .second, .val (.ref b1), .val (.ref b3), .val (.ref b5), .val (.ref bx7), .val (.int (1 : Int32)), .val (.int (1 : Int32))] [])) _
          refine XS.iconst X18.here hx rfl (hb hby at_202) ?_
          show Steps pg.tables ee below (T18.setTop (mkF mm 203 #[.val (.long q0), .second, .val (.long q1), .second, .val (.long q2), .second, .val (.long q3), .second, .val (.long q4), .second, .val (.long q5), .second, .val (.long (q0 ^^^ q3)), .second, .val (.long (q1 ^^^ q4)), .second, .val (.long (q2 ^^^ q5)), .second, .val (.ref b1), .val (.ref b3), .val (.ref b5), .val (.ref bx7), .val (.int (1 : Int32)), .val (.int (1 : Int32))] [(.int (1 : Int32))])) _
          refine XS.goto X18.here hx rfl (pc0 := 203) (pc' := 207) rfl (hb hby at_203) (by decide) (by decide) ?_
          show Steps pg.tables ee below (T18.setTop (mkF mm 207 #[.val (.long q0), .second, .val (.long q1), .second, .val (.long q2), .second, .val (.long q3), .second, .val (.long q4), .second, .val (.long q5), .second, .val (.long (q0 ^^^ q3)), .second, .val (.long (q1 ^^^ q4)), .second, .val (.long (q2 ^^^ q5)), .second, .val (.ref b1), .val (.ref b3), .val (.ref b5), .val (.ref bx7), .val (.int (1 : Int32)), .val (.int (1 : Int32))] [(.int (1 : Int32))])) _
          refine XS.istore X18.here hx rfl (hb hby at_207) rfl (l' := #[.val (.long q0), .second, .val (.long q1), .second, .val (.long q2), .second, .val (.long q3), .second, .val (.long q4), .second, .val (.long q5), .second, .val (.long (q0 ^^^ q3)), .second, .val (.long (q1 ^^^ q4)), .second, .val (.long (q2 ^^^ q5)), .second, .val (.ref b1), .val (.ref b3), .val (.ref b5), .val (.ref bx7), .val (.int (1 : Int32)), .val (.int (1 : Int32))]) rfl ?_
          show Steps pg.tables ee below (T18.setTop (mkF mm 209 #[.val (.long q0), .second, .val (.long q1), .second, .val (.long q2), .second, .val (.long q3), .second, .val (.long q4), .second, .val (.long q5), .second, .val (.long (q0 ^^^ q3)), .second, .val (.long (q1 ^^^ q4)), .second, .val (.long (q2 ^^^ q5)), .second, .val (.ref b1), .val (.ref b3), .val (.ref b5), .val (.ref bx7), .val (.int (1 : Int32)), .val (.int (1 : Int32))] [])) _
          refine XS.iload X18.here hx rfl (hb hby at_209) rfl ?_
          show Steps pg.tables ee below (T18.setTop (mkF mm 211 #[.val (.long q0), .second, .val (.long q1), .second, .val (.long q2), .second, .val (.long q3), .second, .val (.long q4), .second, .val (.long q5), .second, .val (.long (q0 ^^^ q3)), .second, .val (.long (q1 ^^^ q4)), .second, .val (.long (q2 ^^^ q5)), .second, .val (.ref b1), .val (.ref b3), .val (.ref b5), .val (.ref bx7), .val (.int (1 : Int32)), .val (.int (1 : Int32))] [(.int (1 : Int32))])) _
          refine XS.ifNo X18.here hx rfl (hb hby at_211) rfl ((if0 _ _).trans (feq (by decide : ¬ ((1 : Int32) = (0 : Int32)))).1) ?_
          show Steps pg.tables ee below (T18.setTop (mkF mm 214 #[.val (.long q0), .second, .val (.long q1), .second, .val (.long q2), .second, .val (.long q3), .second, .val (.long q4), .second, .val (.long q5), .second, .val (.long (q0 ^^^ q3)), .second, .val (.long (q1 ^^^ q4)), .second, .val (.long (q2 ^^^ q5)), .second, .val (.ref b1), .val (.ref b3), .val (.ref b5), .val (.ref bx7), .val (.int (1 : Int32)), .val (.int (1 : Int32))] [])) _
          refine XS.aload X18.here hx rfl (hb hby at_214) rfl rfl ?_
          show Steps pg.tables ee below (T18.setTop (mkF mm 216 #[.val (.long q0), .second, .val (.long q1), .second, .val (.long q2), .second, .val (.long q3), .second, .val (.long q4), .second, .val (.long q5), .second, .val (.long (q0 ^^^ q3)), .second, .val (.long (q1 ^^^ q4)), .second, .val (.long (q2 ^^^ q5)), .second, .val (.ref b1), .val (.ref b3), .val (.ref b5), .val (.ref bx7), .val (.int (1 : Int32)), .val (.int (1 : Int32))] [(.ref b5)])) _
          refine XS.aload X18.here hx rfl (hb hby at_216) rfl rfl ?_
          show Steps pg.tables ee below (T18.setTop (mkF mm 218 #[.val (.long q0), .second, .val (.long q1), .second, .val (.long q2), .second, .val (.long q3), .second, .val (.long q4), .second, .val (.long q5), .second, .val (.long (q0 ^^^ q3)), .second, .val (.long (q1 ^^^ q4)), .second, .val (.long (q2 ^^^ q5)), .second, .val (.ref b1), .val (.ref b3), .val (.ref b5), .val (.ref bx7), .val (.int (1 : Int32)), .val (.int (1 : Int32))] [(.ref b1), (.ref b5)])) _
          refine st19.trans ?_
          show Steps pg.tables ee below (T19.setTop (mkF mm 221 #[.val (.long q0), .second, .val (.long q1), .second, .val (.long q2), .second, .val (.long q3), .second, .val (.long q4), .second, .val (.long q5), .second, .val (.long (q0 ^^^ q3)), .second, .val (.long (q1 ^^^ q4)), .second, .val (.long (q2 ^^^ q5)), .second, .val (.ref b1), .val (.ref b3), .val (.ref b5), .val (.ref bx7), .val (.int (1 : Int32)), .val (.int (1 : Int32))] [(.int (1 : Int32))])) _
          refine XS.iload X19.here hx rfl (hb hby at_221) rfl ?_
          show Steps pg.tables ee below (T19.setTop (mkF mm 223 #[.val (.long q0), .second, .val (.long q1), .second, .val (.long q2), .second, .val (.long q3), .second, .val (.long q4), .second, .val (.long q5), .second, .val (.long (q0 ^^^ q3)), .second, .val (.long (q1 ^^^ q4)), .second, .val (.long (q2 ^^^ q5)), .second, .val (.ref b1), .val (.ref b3), .val (.ref b5), .val (.ref bx7), .val (.int (1 : Int32)), .val (.int (1 : Int32))] [(.int (1 : Int32)), (.int (1 : Int32))])) _
          refine XS.icmpNo X19.here hx rfl (hb hby at_223) rfl (teq (by decide : (1 : Int32) = (1 : Int32))).2 ?_
          show Steps pg.tables ee below (T19.setTop (mkF mm 226 #[.val (.long q0), .second, .val (.long q1), .second, .val (.long q2), .second, .val (.long q3), .second, .val (.long q4), .second, .val (.long q5), .second, .val (.long (q0 ^^^ q3)), .second, .val (.long (q1 ^^^ q4)), .second, .val (.long (q2 ^^^ q5)), .second, .val (.ref b1), .val (.ref b3), .val (.ref b5), .val (.ref bx7), .val (.int (1 : Int32)), .val (.int (1 : Int32))] [])) _
          refine XS.iconst X19.here hx rfl (hb hby at_226) ?_
          show Steps pg.tables ee below (T19.setTop (mkF mm 227 #[.val (.long q0), .second, .val (.long q1), .second, .val (.long q2), .second, .val (.long q3), .second, .val (.long q4), .second, .val (.long q5), .second, .val (.long (q0 ^^^ q3)), .second, .val (.long (q1 ^^^ q4)), .second, .val (.long (q2 ^^^ q5)), .second, .val (.ref b1), .val (.ref b3), .val (.ref b5), .val (.ref bx7), .val (.int (1 : Int32)), .val (.int (1 : Int32))] [(.int (1 : Int32))])) _
          refine XS.goto X19.here hx rfl (pc0 := 227) (pc' := 231) rfl (hb hby at_227) (by decide) (by decide) ?_
          show Steps pg.tables ee below (T19.setTop (mkF mm 231 #[.val (.long q0), .second, .val (.long q1), .second, .val (.long q2), .second, .val (.long q3), .second, .val (.long q4), .second, .val (.long q5), .second, .val (.long (q0 ^^^ q3)), .second, .val (.long (q1 ^^^ q4)), .second, .val (.long (q2 ^^^ q5)), .second, .val (.ref b1), .val (.ref b3), .val (.ref b5), .val (.ref bx7), .val (.int (1 : Int32)), .val (.int (1 : Int32))] [(.int (1 : Int32))])) _
          refine XS.istore X19.here hx rfl (hb hby at_231) rfl (l' := #[.val (.long q0), .second, .val (.long q1), .second, .val (.long q2), .second, .val (.long q3), .second, .val (.long q4), .second, .val (.long q5), .second, .val (.long (q0 ^^^ q3)), .second, .val (.long (q1 ^^^ q4)), .second, .val (.long (q2 ^^^ q5)), .second, .val (.ref b1), .val (.ref b3), .val (.ref b5), .val (.ref bx7), .val (.int (1 : Int32)), .val (.int (1 : Int32))]) rfl ?_
          show Steps pg.tables ee below (T19.setTop (mkF mm 233 #[.val (.long q0), .second, .val (.long q1), .second, .val (.long q2), .second, .val (.long q3), .second, .val (.long q4), .second, .val (.long q5), .second, .val (.long (q0 ^^^ q3)), .second, .val (.long (q1 ^^^ q4)), .second, .val (.long (q2 ^^^ q5)), .second, .val (.ref b1), .val (.ref b3), .val (.ref b5), .val (.ref bx7), .val (.int (1 : Int32)), .val (.int (1 : Int32))] [])) _
          refine XS.iload X19.here hx rfl (hb hby at_233) rfl ?_
          show Steps pg.tables ee below (T19.setTop (mkF mm 235 #[.val (.long q0), .second, .val (.long q1), .second, .val (.long q2), .second, .val (.long q3), .second, .val (.long q4), .second, .val (.long q5), .second, .val (.long (q0 ^^^ q3)), .second, .val (.long (q1 ^^^ q4)), .second, .val (.long (q2 ^^^ q5)), .second, .val (.ref b1), .val (.ref b3), .val (.ref b5), .val (.ref bx7), .val (.int (1 : Int32)), .val (.int (1 : Int32))] [(.int (1 : Int32))])) _
          exact retN X19 hx (t := .boolean) Bd.returns (by simp) (hb hby at_235) hr
        · show Qrm0 Z q0 q1 q2 q3 q4 q5 ca cl val h0 n0 _ T19.heap _
          rw [e19]
          exact ⟨rfl, N19⟩
      · obtain ⟨cq20, kq20, q20a, q20b, q20c⟩ := isOf hZ rfl (((((Ex2.ext E3).keep K4).ext E5).keep K6).keep K7)
        obtain ⟨_, _, ⟨T20, L20, k20, n20⟩, -, X20, ⟨Lc20, hQ20, l20, y20, z20⟩, st20⟩ := X7.virtualBack hx (y := (⟨"com/example/stops_to_routes/stopstoroutes/planner/Break", "equals", "(Ljava/lang/Object;)Z"⟩ : MethodName)) (z := (⟨"com/example/stops_to_routes/stopstoroutes/planner/Break", "equals", "(Ljava/lang/Object;)Z"⟩ : MethodName)) hown (mvT hZ (hw _ (List.mem_of_getElem? (i := 23) rfl))) (mvT hZ (hw _ (List.mem_of_getElem? (i := 24) rfl))) (notFace_of_selects (args := #[]) (mvT hZ (hw _ (List.mem_of_getElem? (i := 26) rfl)))) (mvT hZ (hw _ (List.mem_of_getElem? (i := 26) rfl))) (mvT hZ (hw _ (List.mem_of_getElem? (i := 25) rfl))) (by decide) (backOf (W := 0) (rmQN l Z a0 hw [] b1 T7.heap n0 O7) hZ (hw _ (List.mem_of_getElem? (i := 27) rfl)) (hw _ (List.mem_of_getElem? (i := 2) rfl)) (by decide) (by decide)) q20a q20c (g := (mkF mm 106 #[.val (.long q0), .second, .val (.long q1), .second, .val (.long q2), .second, .val (.long q3), .second, .val (.long q4), .second, .val (.long q5), .second, .val (.long (q0 ^^^ q3)), .second, .val (.long (q1 ^^^ q4)), .second, .val (.long (q2 ^^^ q5)), .second, .val (.ref b1), .val (.ref b3), .val (.ref b5), .val (.ref bx7), .val (.int (0 : Int32)), .val (.int (1 : Int32))] [.null, (.ref b1)])) rfl (by rw [hml]; rfl) (Steps.refl _) (argsL := [.null]) (rest := []) (lenOf pd_86 rfl) rfl (by show 2 * 0 + _ ≤ _; exact Nat.le_of_eq rfl) (hb hby at_106) (fun _ _ => ⟨rfl, rfl, (by decide : 4 + 0 ≤ _), (by decide : 10 + 0 ≤ _)⟩)
        dsimp only [Pt.U, Pt.locs, Pt.cells, Pt.slots] at X20 l20 y20 z20 st20 hQ20
        subst l20 y20 z20
        obtain ⟨rfl, N20q, e20⟩ := hQ20
        have N20 := Fr.app N7 N20q
        obtain ⟨cq21, kq21, q21a, q21b, q21c⟩ := isOf hZ e20 (((((Ex2.ext E3).keep K4).ext E5).keep K6).keep K7)
        obtain ⟨_, _, ⟨T21, L21, k21, n21⟩, -, X21, ⟨Lc21, hQ21, l21, y21, z21⟩, st21⟩ := X20.virtualBack hx (y := (⟨"com/example/stops_to_routes/stopstoroutes/planner/Break", "equals", "(Ljava/lang/Object;)Z"⟩ : MethodName)) (z := (⟨"com/example/stops_to_routes/stopstoroutes/planner/Break", "equals", "(Ljava/lang/Object;)Z"⟩ : MethodName)) hown (mvT hZ (hw _ (List.mem_of_getElem? (i := 23) rfl))) (mvT hZ (hw _ (List.mem_of_getElem? (i := 24) rfl))) (notFace_of_selects (args := #[]) (mvT hZ (hw _ (List.mem_of_getElem? (i := 26) rfl)))) (mvT hZ (hw _ (List.mem_of_getElem? (i := 26) rfl))) (mvT hZ (hw _ (List.mem_of_getElem? (i := 25) rfl))) (by decide) (backOf (W := 0) (rmQO l Z a0 hw [] b1 bx7 T7.heap n0 O7 Ex7) hZ (hw _ (List.mem_of_getElem? (i := 27) rfl)) (hw _ (List.mem_of_getElem? (i := 2) rfl)) (by decide) (by decide)) q21a q21c (g := (mkF mm 128 #[.val (.long q0), .second, .val (.long q1), .second, .val (.long q2), .second, .val (.long q3), .second, .val (.long q4), .second, .val (.long q5), .second, .val (.long (q0 ^^^ q3)), .second, .val (.long (q1 ^^^ q4)), .second, .val (.long (q2 ^^^ q5)), .second, .val (.ref b1), .val (.ref b3), .val (.ref b5), .val (.ref bx7), .val (.int (0 : Int32)), .val (.int (1 : Int32))] [(.ref bx7), (.ref b1)])) rfl (by rw [hml]; rfl) (Steps.refl _) (argsL := [(.ref bx7)]) (rest := []) (lenOf pd_86 rfl) rfl (by show 2 * 0 + _ ≤ _; exact Nat.le_of_eq rfl) (hb hby at_128) (fun _ _ => ⟨rfl, e20, (by decide : 4 + 0 ≤ _), (by decide : 10 + 0 ≤ _)⟩)
        dsimp only [Pt.U, Pt.locs, Pt.cells, Pt.slots] at X21 l21 y21 z21 st21 hQ21
        subst l21 y21 z21
        obtain ⟨rfl, N21q, e21⟩ := hQ21
        have N21 := Fr.app N20 N21q
        obtain ⟨cq22, kq22, q22a, q22b, q22c⟩ := isOf hZ e21 (((((Ex2.ext E3).keep K4).ext E5).keep K6).keep K7)
        obtain ⟨_, _, ⟨T22, L22, k22, n22⟩, -, X22, ⟨Lc22, hQ22, l22, y22, z22⟩, st22⟩ := X21.virtualBack hx (y := (⟨"com/example/stops_to_routes/stopstoroutes/planner/Break", "equals", "(Ljava/lang/Object;)Z"⟩ : MethodName)) (z := (⟨"com/example/stops_to_routes/stopstoroutes/planner/Break", "equals", "(Ljava/lang/Object;)Z"⟩ : MethodName)) hown (mvT hZ (hw _ (List.mem_of_getElem? (i := 23) rfl))) (mvT hZ (hw _ (List.mem_of_getElem? (i := 24) rfl))) (notFace_of_selects (args := #[]) (mvT hZ (hw _ (List.mem_of_getElem? (i := 26) rfl)))) (mvT hZ (hw _ (List.mem_of_getElem? (i := 26) rfl))) (mvT hZ (hw _ (List.mem_of_getElem? (i := 25) rfl))) (by decide) (backOf (W := 0) (rmQS l Z a0 hw [] b1 q0 q1 q2 T7.heap n0 O7 (((((Fv0_2.ext E3).keep K4 (ninS (Nat.ne_of_lt (Nat.lt_of_lt_of_le Ex2.lt (Nat.le_of_eq g3.symm))) nin0)).ext E5).keep K6 (ninS (Nat.ne_of_lt (Nat.lt_of_lt_of_le ((Ex2.ext E3).keep K4).lt (Nat.le_of_eq g5.symm))) nin0)).keep K7 nin0) (((((Fv1_2.ext E3).keep K4 (ninS (Nat.ne_of_lt (Nat.lt_of_lt_of_le Ex2.lt (Nat.le_of_eq g3.symm))) nin0)).ext E5).keep K6 (ninS (Nat.ne_of_lt (Nat.lt_of_lt_of_le ((Ex2.ext E3).keep K4).lt (Nat.le_of_eq g5.symm))) nin0)).keep K7 nin0) (((((Fv2_2.ext E3).keep K4 (ninS (Nat.ne_of_lt (Nat.lt_of_lt_of_le Ex2.lt (Nat.le_of_eq g3.symm))) nin0)).ext E5).keep K6 (ninS (Nat.ne_of_lt (Nat.lt_of_lt_of_le ((Ex2.ext E3).keep K4).lt (Nat.le_of_eq g5.symm))) nin0)).keep K7 nin0) (((((Ex2.ext E3).keep K4).ext E5).keep K6).keep K7)) hZ (hw _ (List.mem_of_getElem? (i := 27) rfl)) (hw _ (List.mem_of_getElem? (i := 2) rfl)) (by decide) (by decide)) q22a q22c (g := (mkF mm 150 #[.val (.long q0), .second, .val (.long q1), .second, .val (.long q2), .second, .val (.long q3), .second, .val (.long q4), .second, .val (.long q5), .second, .val (.long (q0 ^^^ q3)), .second, .val (.long (q1 ^^^ q4)), .second, .val (.long (q2 ^^^ q5)), .second, .val (.ref b1), .val (.ref b3), .val (.ref b5), .val (.ref bx7), .val (.int (0 : Int32)), .val (.int (1 : Int32))] [(.ref b1), (.ref b1)])) rfl (by rw [hml]; rfl) (Steps.refl _) (argsL := [(.ref b1)]) (rest := []) (lenOf pd_86 rfl) rfl (by show 2 * 0 + _ ≤ _; exact Nat.le_of_eq rfl) (hb hby at_150) (fun _ _ => ⟨rfl, e21, (by decide : 4 + 0 ≤ _), (by decide : 10 + 0 ≤ _)⟩)
        dsimp only [Pt.U, Pt.locs, Pt.cells, Pt.slots] at X22 l22 y22 z22 st22 hQ22
        subst l22 y22 z22
        obtain ⟨rfl, N22q, e22⟩ := hQ22
        have N22 := Fr.app N21 N22q
        obtain ⟨cq23, kq23, q23a, q23b, q23c⟩ := isOf hZ e22 (((((Ex2.ext E3).keep K4).ext E5).keep K6).keep K7)
        obtain ⟨_, _, ⟨T23, L23, k23, n23⟩, -, X23, ⟨Lc23, hQ23, l23, y23, z23⟩, st23⟩ := X22.virtualBack hx (y := (⟨"com/example/stops_to_routes/stopstoroutes/planner/Break", "equals", "(Ljava/lang/Object;)Z"⟩ : MethodName)) (z := (⟨"com/example/stops_to_routes/stopstoroutes/planner/Break", "equals", "(Ljava/lang/Object;)Z"⟩ : MethodName)) hown (mvT hZ (hw _ (List.mem_of_getElem? (i := 23) rfl))) (mvT hZ (hw _ (List.mem_of_getElem? (i := 24) rfl))) (notFace_of_selects (args := #[]) (mvT hZ (hw _ (List.mem_of_getElem? (i := 26) rfl)))) (mvT hZ (hw _ (List.mem_of_getElem? (i := 26) rfl))) (mvT hZ (hw _ (List.mem_of_getElem? (i := 25) rfl))) (by decide) (backOf (W := 0) (rmQ3 l Z a0 hw [] b1 b3 q0 q1 q2 q0 q1 q2 T7.heap n0 O7 (((((Fv0_2.ext E3).keep K4 (ninS (Nat.ne_of_lt (Nat.lt_of_lt_of_le Ex2.lt (Nat.le_of_eq g3.symm))) nin0)).ext E5).keep K6 (ninS (Nat.ne_of_lt (Nat.lt_of_lt_of_le ((Ex2.ext E3).keep K4).lt (Nat.le_of_eq g5.symm))) nin0)).keep K7 nin0) (((((Fv1_2.ext E3).keep K4 (ninS (Nat.ne_of_lt (Nat.lt_of_lt_of_le Ex2.lt (Nat.le_of_eq g3.symm))) nin0)).ext E5).keep K6 (ninS (Nat.ne_of_lt (Nat.lt_of_lt_of_le ((Ex2.ext E3).keep K4).lt (Nat.le_of_eq g5.symm))) nin0)).keep K7 nin0) (((((Fv2_2.ext E3).keep K4 (ninS (Nat.ne_of_lt (Nat.lt_of_lt_of_le Ex2.lt (Nat.le_of_eq g3.symm))) nin0)).ext E5).keep K6 (ninS (Nat.ne_of_lt (Nat.lt_of_lt_of_le ((Ex2.ext E3).keep K4).lt (Nat.le_of_eq g5.symm))) nin0)).keep K7 nin0) (((Fv0_4.ext E5).keep K6 (ninS (Nat.ne_of_lt (Nat.lt_of_lt_of_le Ex4.lt (Nat.le_of_eq g5.symm))) nin0)).keep K7 nin0) (((Fv1_4.ext E5).keep K6 (ninS (Nat.ne_of_lt (Nat.lt_of_lt_of_le Ex4.lt (Nat.le_of_eq g5.symm))) nin0)).keep K7 nin0) (((Fv2_4.ext E5).keep K6 (ninS (Nat.ne_of_lt (Nat.lt_of_lt_of_le Ex4.lt (Nat.le_of_eq g5.symm))) nin0)).keep K7 nin0) (((Ex4.ext E5).keep K6).keep K7) ((lw_eq _ _).mpr rfl) ((lw_eq _ _).mpr rfl) ((lw_eq _ _).mpr rfl)) hZ (hw _ (List.mem_of_getElem? (i := 27) rfl)) (hw _ (List.mem_of_getElem? (i := 2) rfl)) (by decide) (by decide)) q23a q23c (g := (mkF mm 172 #[.val (.long q0), .second, .val (.long q1), .second, .val (.long q2), .second, .val (.long q3), .second, .val (.long q4), .second, .val (.long q5), .second, .val (.long (q0 ^^^ q3)), .second, .val (.long (q1 ^^^ q4)), .second, .val (.long (q2 ^^^ q5)), .second, .val (.ref b1), .val (.ref b3), .val (.ref b5), .val (.ref bx7), .val (.int (0 : Int32)), .val (.int (1 : Int32))] [(.ref b3), (.ref b1)])) rfl (by rw [hml]; rfl) (Steps.refl _) (argsL := [(.ref b3)]) (rest := []) (lenOf pd_86 rfl) rfl (by show 2 * 0 + _ ≤ _; exact Nat.le_of_eq rfl) (hb hby at_172) (fun _ _ => ⟨rfl, e22, (by decide : 4 + 0 ≤ _), (by decide : 10 + 0 ≤ _)⟩)
        dsimp only [Pt.U, Pt.locs, Pt.cells, Pt.slots] at X23 l23 y23 z23 st23 hQ23
        subst l23 y23 z23
        obtain ⟨rfl, N23q, e23⟩ := hQ23
        have N23 := Fr.app N22 N23q
        obtain ⟨cq24, kq24, q24a, q24b, q24c⟩ := isOf hZ e23 (((((Ex2.ext E3).keep K4).ext E5).keep K6).keep K7)
        obtain ⟨_, _, ⟨T24, L24, k24, n24⟩, -, X24, ⟨Lc24, hQ24, l24, y24, z24⟩, st24⟩ := X23.virtualBack hx (y := (⟨"com/example/stops_to_routes/stopstoroutes/planner/Break", "equals", "(Ljava/lang/Object;)Z"⟩ : MethodName)) (z := (⟨"com/example/stops_to_routes/stopstoroutes/planner/Break", "equals", "(Ljava/lang/Object;)Z"⟩ : MethodName)) hown (mvT hZ (hw _ (List.mem_of_getElem? (i := 23) rfl))) (mvT hZ (hw _ (List.mem_of_getElem? (i := 24) rfl))) (notFace_of_selects (args := #[]) (mvT hZ (hw _ (List.mem_of_getElem? (i := 26) rfl)))) (mvT hZ (hw _ (List.mem_of_getElem? (i := 26) rfl))) (mvT hZ (hw _ (List.mem_of_getElem? (i := 25) rfl))) (by decide) (backOf (W := 0) (rmQ2 l Z a0 hw [] b1 b5 q0 q1 q2 (q0 ^^^ q3) (q1 ^^^ q4) (q2 ^^^ q5) T7.heap n0 O7 (((((Fv0_2.ext E3).keep K4 (ninS (Nat.ne_of_lt (Nat.lt_of_lt_of_le Ex2.lt (Nat.le_of_eq g3.symm))) nin0)).ext E5).keep K6 (ninS (Nat.ne_of_lt (Nat.lt_of_lt_of_le ((Ex2.ext E3).keep K4).lt (Nat.le_of_eq g5.symm))) nin0)).keep K7 nin0) (((((Fv1_2.ext E3).keep K4 (ninS (Nat.ne_of_lt (Nat.lt_of_lt_of_le Ex2.lt (Nat.le_of_eq g3.symm))) nin0)).ext E5).keep K6 (ninS (Nat.ne_of_lt (Nat.lt_of_lt_of_le ((Ex2.ext E3).keep K4).lt (Nat.le_of_eq g5.symm))) nin0)).keep K7 nin0) (((((Fv2_2.ext E3).keep K4 (ninS (Nat.ne_of_lt (Nat.lt_of_lt_of_le Ex2.lt (Nat.le_of_eq g3.symm))) nin0)).ext E5).keep K6 (ninS (Nat.ne_of_lt (Nat.lt_of_lt_of_le ((Ex2.ext E3).keep K4).lt (Nat.le_of_eq g5.symm))) nin0)).keep K7 nin0) (Fv0_6.keep K7 nin0) (Fv1_6.keep K7 nin0) (Fv2_6.keep K7 nin0) (Ex6.keep K7) hc9 hc11 hc13) hZ (hw _ (List.mem_of_getElem? (i := 27) rfl)) (hw _ (List.mem_of_getElem? (i := 2) rfl)) (by decide) (by decide)) q24a q24c (g := (mkF mm 194 #[.val (.long q0), .second, .val (.long q1), .second, .val (.long q2), .second, .val (.long q3), .second, .val (.long q4), .second, .val (.long q5), .second, .val (.long (q0 ^^^ q3)), .second, .val (.long (q1 ^^^ q4)), .second, .val (.long (q2 ^^^ q5)), .second, .val (.ref b1), .val (.ref b3), .val (.ref b5), .val (.ref bx7), .val (.int (0 : Int32)), .val (.int (1 : Int32))] [(.ref b5), (.ref b1)])) rfl (by rw [hml]; rfl) (Steps.refl _) (argsL := [(.ref b5)]) (rest := []) (lenOf pd_86 rfl) rfl (by show 2 * 0 + _ ≤ _; exact Nat.le_of_eq rfl) (hb hby at_194) (fun _ _ => ⟨rfl, e23, (by decide : 4 + 0 ≤ _), (by decide : 10 + 0 ≤ _)⟩)
        dsimp only [Pt.U, Pt.locs, Pt.cells, Pt.slots] at X24 l24 y24 z24 st24 hQ24
        subst l24 y24 z24
        obtain ⟨rfl, N24q, e24⟩ := hQ24
        have N24 := Fr.app N23 N24q
        obtain ⟨cq25, kq25, q25a, q25b, q25c⟩ := isOf hZ e24 (Ex6.keep K7)
        obtain ⟨_, _, ⟨T25, L25, k25, n25⟩, -, X25, ⟨Lc25, hQ25, l25, y25, z25⟩, st25⟩ := X24.virtualBack hx (y := (⟨"com/example/stops_to_routes/stopstoroutes/planner/Break", "equals", "(Ljava/lang/Object;)Z"⟩ : MethodName)) (z := (⟨"com/example/stops_to_routes/stopstoroutes/planner/Break", "equals", "(Ljava/lang/Object;)Z"⟩ : MethodName)) hown (mvT hZ (hw _ (List.mem_of_getElem? (i := 23) rfl))) (mvT hZ (hw _ (List.mem_of_getElem? (i := 24) rfl))) (notFace_of_selects (args := #[]) (mvT hZ (hw _ (List.mem_of_getElem? (i := 26) rfl)))) (mvT hZ (hw _ (List.mem_of_getElem? (i := 26) rfl))) (mvT hZ (hw _ (List.mem_of_getElem? (i := 25) rfl))) (by decide) (backOf (W := 0) (rmQ2 l Z a0 hw [] b5 b1 (q0 ^^^ q3) (q1 ^^^ q4) (q2 ^^^ q5) q0 q1 q2 T7.heap n0 O7 (Fv0_6.keep K7 nin0) (Fv1_6.keep K7 nin0) (Fv2_6.keep K7 nin0) (((((Fv0_2.ext E3).keep K4 (ninS (Nat.ne_of_lt (Nat.lt_of_lt_of_le Ex2.lt (Nat.le_of_eq g3.symm))) nin0)).ext E5).keep K6 (ninS (Nat.ne_of_lt (Nat.lt_of_lt_of_le ((Ex2.ext E3).keep K4).lt (Nat.le_of_eq g5.symm))) nin0)).keep K7 nin0) (((((Fv1_2.ext E3).keep K4 (ninS (Nat.ne_of_lt (Nat.lt_of_lt_of_le Ex2.lt (Nat.le_of_eq g3.symm))) nin0)).ext E5).keep K6 (ninS (Nat.ne_of_lt (Nat.lt_of_lt_of_le ((Ex2.ext E3).keep K4).lt (Nat.le_of_eq g5.symm))) nin0)).keep K7 nin0) (((((Fv2_2.ext E3).keep K4 (ninS (Nat.ne_of_lt (Nat.lt_of_lt_of_le Ex2.lt (Nat.le_of_eq g3.symm))) nin0)).ext E5).keep K6 (ninS (Nat.ne_of_lt (Nat.lt_of_lt_of_le ((Ex2.ext E3).keep K4).lt (Nat.le_of_eq g5.symm))) nin0)).keep K7 nin0) (((((Ex2.ext E3).keep K4).ext E5).keep K6).keep K7) ((lw_eq _ _).mpr ((lw_eq _ _).mp hc9).symm) ((lw_eq _ _).mpr ((lw_eq _ _).mp hc11).symm) (fun q => hc13 ((lw_eq _ _).mpr ((lw_eq _ _).mp q).symm))) hZ (hw _ (List.mem_of_getElem? (i := 27) rfl)) (hw _ (List.mem_of_getElem? (i := 2) rfl)) (by decide) (by decide)) q25a q25c (g := (mkF mm 218 #[.val (.long q0), .second, .val (.long q1), .second, .val (.long q2), .second, .val (.long q3), .second, .val (.long q4), .second, .val (.long q5), .second, .val (.long (q0 ^^^ q3)), .second, .val (.long (q1 ^^^ q4)), .second, .val (.long (q2 ^^^ q5)), .second, .val (.ref b1), .val (.ref b3), .val (.ref b5), .val (.ref bx7), .val (.int (0 : Int32)), .val (.int (1 : Int32))] [(.ref b1), (.ref b5)])) rfl (by rw [hml]; rfl) (Steps.refl _) (argsL := [(.ref b1)]) (rest := []) (lenOf pd_86 rfl) rfl (by show 2 * 0 + _ ≤ _; exact Nat.le_of_eq rfl) (hb hby at_218) (fun _ _ => ⟨rfl, e24, (by decide : 4 + 0 ≤ _), (by decide : 10 + 0 ≤ _)⟩)
        dsimp only [Pt.U, Pt.locs, Pt.cells, Pt.slots] at X25 l25 y25 z25 st25 hQ25
        subst l25 y25 z25
        obtain ⟨rfl, N25q, e25⟩ := hQ25
        have N25 := Fr.app N24 N25q
        obtain ⟨fs, hr, hrun, hended, hW, hsame⟩ := X25.leave (v := some (.int (1 : Int32))) (fun h => by rw [Bd.returns] at h; cases h)
        refine ⟨_, _, pre12 _ ?_, hrun, hended, _, _, rfl, ?_, ⟨_, rfl⟩, hW, hsame.mono (by decide) (by decide)⟩
        · show Steps pg.tables ee below (T7.setTop (mkF mm 85 #[.val (.long q0), .second, .val (.long q1), .second, .val (.long q2), .second, .val (.long q3), .second, .val (.long q4), .second, .val (.long q5), .second, .val (.long (q0 ^^^ q3)), .second, .val (.long (q1 ^^^ q4)), .second, .val (.long (q2 ^^^ q5)), .second, .val (.ref b1), .val (.ref b3), .val (.ref b5), .val (.ref bx7), .unset, .unset] [(.int (lcmpW q2 (q2 ^^^ q5)))])) _
          refine XS.ifYes X7.here hx rfl (pc0 := 85) (pc' := 92) rfl (hb hby at_85) rfl ((if0 _ _).trans (feq hc13).2) (by decide) (by decide) ?_
          show Steps pg.tables ee below (T7.setTop (mkF mm 92 #[.val (.long q0), .second, .val (.long q1), .second, .val (.long q2), .second, .val (.long q3), .second, .val (.long q4), .second, .val (.long q5), .second, .val (.long (q0 ^^^ q3)), .second, .val (.long (q1 ^^^ q4)), .second, .val (.long (q2 ^^^ q5)), .second, .val (.ref b1), .val (.ref b3), .val (.ref b5), .val (.ref bx7), .unset, .unset] [])) _
          refine XS.iconst X7.here hx rfl (hb hby at_92) ?_
          show Steps pg.tables ee below (T7.setTop (mkF mm 93 #[.val (.long q0), .second, .val (.long q1), .second, .val (.long q2), .second, .val (.long q3), .second, .val (.long q4), .second, .val (.long q5), .second, .val (.long (q0 ^^^ q3)), .second, .val (.long (q1 ^^^ q4)), .second, .val (.long (q2 ^^^ q5)), .second, .val (.ref b1), .val (.ref b3), .val (.ref b5), .val (.ref bx7), .unset, .unset] [(.int (0 : Int32))])) _
          refine XS.istore X7.here hx rfl (hb hby at_93) rfl (l' := #[.val (.long q0), .second, .val (.long q1), .second, .val (.long q2), .second, .val (.long q3), .second, .val (.long q4), .second, .val (.long q5), .second, .val (.long (q0 ^^^ q3)), .second, .val (.long (q1 ^^^ q4)), .second, .val (.long (q2 ^^^ q5)), .second, .val (.ref b1), .val (.ref b3), .val (.ref b5), .val (.ref bx7), .val (.int (0 : Int32)), .unset]) rfl ?_
          show Steps pg.tables ee below (T7.setTop (mkF mm 95 #[.val (.long q0), .second, .val (.long q1), .second, .val (.long q2), .second, .val (.long q3), .second, .val (.long q4), .second, .val (.long q5), .second, .val (.long (q0 ^^^ q3)), .second, .val (.long (q1 ^^^ q4)), .second, .val (.long (q2 ^^^ q5)), .second, .val (.ref b1), .val (.ref b3), .val (.ref b5), .val (.ref bx7), .val (.int (0 : Int32)), .unset] [])) _
          refine XS.iconst X7.here hx rfl (hb hby at_95) ?_
          show Steps pg.tables ee below (T7.setTop (mkF mm 96 #[.val (.long q0), .second, .val (.long q1), .second, .val (.long q2), .second, .val (.long q3), .second, .val (.long q4), .second, .val (.long q5), .second, .val (.long (q0 ^^^ q3)), .second, .val (.long (q1 ^^^ q4)), .second, .val (.long (q2 ^^^ q5)), .second, .val (.ref b1), .val (.ref b3), .val (.ref b5), .val (.ref bx7), .val (.int (0 : Int32)), .unset] [(.int (1 : Int32))])) _
          refine XS.istore X7.here hx rfl (hb hby at_96) rfl (l' := #[.val (.long q0), .second, .val (.long q1), .second, .val (.long q2), .second, .val (.long q3), .second, .val (.long q4), .second, .val (.long q5), .second, .val (.long (q0 ^^^ q3)), .second, .val (.long (q1 ^^^ q4)), .second, .val (.long (q2 ^^^ q5)), .second, .val (.ref b1), .val (.ref b3), .val (.ref b5), .val (.ref bx7), .val (.int (0 : Int32)), .val (.int (1 : Int32))]) rfl ?_
          show Steps pg.tables ee below (T7.setTop (mkF mm 98 #[.val (.long q0), .second, .val (.long q1), .second, .val (.long q2), .second, .val (.long q3), .second, .val (.long q4), .second, .val (.long q5), .second, .val (.long (q0 ^^^ q3)), .second, .val (.long (q1 ^^^ q4)), .second, .val (.long (q2 ^^^ q5)), .second, .val (.ref b1), .val (.ref b3), .val (.ref b5), .val (.ref bx7), .val (.int (0 : Int32)), .val (.int (1 : Int32))] [])) _
          refine XS.iload X7.here hx rfl (hb hby at_98) rfl ?_
          show Steps pg.tables ee below (T7.setTop (mkF mm 100 #[.val (.long q0), .second, .val (.long q1), .second, .val (.long q2), .second, .val (.long q3), .second, .val (.long q4), .second, .val (.long q5), .second, .val (.long (q0 ^^^ q3)), .second, .val (.long (q1 ^^^ q4)), .second, .val (.long (q2 ^^^ q5)), .second, .val (.ref b1), .val (.ref b3), .val (.ref b5), .val (.ref bx7), .val (.int (0 : Int32)), .val (.int (1 : Int32))] [(.int (1 : Int32))])) _
          refine XS.ifNo X7.here hx rfl (hb hby at_100) rfl ((if0 _ _).trans (feq (by decide : ¬ ((1 : Int32) = (0 : Int32)))).1) ?_
          show Steps pg.tables ee below (T7.setTop (mkF mm 103 #[.val (.long q0), .second, .val (.long q1), .second, .val (.long q2), .second, .val (.long q3), .second, .val (.long q4), .second, .val (.long q5), .second, .val (.long (q0 ^^^ q3)), .second, .val (.long (q1 ^^^ q4)), .second, .val (.long (q2 ^^^ q5)), .second, .val (.ref b1), .val (.ref b3), .val (.ref b5), .val (.ref bx7), .val (.int (0 : Int32)), .val (.int (1 : Int32))] [])) _
          refine XS.aload X7.here hx rfl (hb hby at_103) rfl rfl ?_
          show Steps pg.tables ee below (T7.setTop (mkF mm 105 #[.val (.long q0), .second, .val (.long q1), .second, .val (.long q2), .second, .val (.long q3), .second, .val (.long q4), .second, .val (.long q5), .second, .val (.long (q0 ^^^ q3)), .second, .val (.long (q1 ^^^ q4)), .second, .val (.long (q2 ^^^ q5)), .second, .val (.ref b1), .val (.ref b3), .val (.ref b5), .val (.ref bx7), .val (.int (0 : Int32)), .val (.int (1 : Int32))] [(.ref b1)])) _
          refine XS.aconstNull X7.here hx rfl (hb hby at_105) ?_
          show Steps pg.tables ee below (T7.setTop (mkF mm 106 #[.val (.long q0), .second, .val (.long q1), .second, .val (.long q2), .second, .val (.long q3), .second, .val (.long q4), .second, .val (.long q5), .second, .val (.long (q0 ^^^ q3)), .second, .val (.long (q1 ^^^ q4)), .second, .val (.long (q2 ^^^ q5)), .second, .val (.ref b1), .val (.ref b3), .val (.ref b5), .val (.ref bx7), .val (.int (0 : Int32)), .val (.int (1 : Int32))] [.null, (.ref b1)])) _
          refine st20.trans ?_
          show Steps pg.tables ee below (T20.setTop (mkF mm 109 #[.val (.long q0), .second, .val (.long q1), .second, .val (.long q2), .second, .val (.long q3), .second, .val (.long q4), .second, .val (.long q5), .second, .val (.long (q0 ^^^ q3)), .second, .val (.long (q1 ^^^ q4)), .second, .val (.long (q2 ^^^ q5)), .second, .val (.ref b1), .val (.ref b3), .val (.ref b5), .val (.ref bx7), .val (.int (0 : Int32)), .val (.int (1 : Int32))] [(.int (0 : Int32))])) _
          refine XS.ifNo X20.here hx rfl (hb hby at_109) rfl ((if0 _ _).trans (teq (by decide : (0 : Int32) = (0 : Int32))).2) ?_
          show Steps pg.tables ee below (T20.setTop (mkF mm 112 #[.val (.long q0), .second, .val (.long q1), .second, .val (.long q2), .second, .val (.long q3), .second, .val (.long q4), .second, .val (.long q5), .second, .val (.long (q0 ^^^ q3)), .second, .val (.long (q1 ^^^ q4)), .second, .val (.long (q2 ^^^ q5)), .second, .val (.ref b1), .val (.ref b3), .val (.ref b5), .val (.ref bx7), .val (.int (0 : Int32)), .val (.int (1 : Int32))] [])) _
          refine XS.iconst X20.here hx rfl (hb hby at_112) ?_
          show Steps pg.tables ee below (T20.setTop (mkF mm 113 #[.val (.long q0), .second, .val (.long q1), .second, .val (.long q2), .second, .val (.long q3), .second, .val (.long q4), .second, .val (.long q5), .second, .val (.long (q0 ^^^ q3)), .second, .val (.long (q1 ^^^ q4)), .second, .val (.long (q2 ^^^ q5)), .second, .val (.ref b1), .val (.ref b3), .val (.ref b5), .val (.ref bx7), .val (.int (0 : Int32)), .val (.int (1 : Int32))] [(.int (1 : Int32))])) _
          refine XS.goto X20.here hx rfl (pc0 := 113) (pc' := 117) rfl (hb hby at_113) (by decide) (by decide) ?_
          show Steps pg.tables ee below (T20.setTop (mkF mm 117 #[.val (.long q0), .second, .val (.long q1), .second, .val (.long q2), .second, .val (.long q3), .second, .val (.long q4), .second, .val (.long q5), .second, .val (.long (q0 ^^^ q3)), .second, .val (.long (q1 ^^^ q4)), .second, .val (.long (q2 ^^^ q5)), .second, .val (.ref b1), .val (.ref b3), .val (.ref b5), .val (.ref bx7), .val (.int (0 : Int32)), .val (.int (1 : Int32))] [(.int (1 : Int32))])) _
          refine XS.istore X20.here hx rfl (hb hby at_117) rfl (l' := #[.val (.long q0), .second, .val (.long q1), .second, .val (.long q2), .second, .val (.long q3), .second, .val (.long q4), .second, .val (.long q5), .second, .val (.long (q0 ^^^ q3)), .second, .val (.long (q1 ^^^ q4)), .second, .val (.long (q2 ^^^ q5)), .second, .val (.ref b1), .val (.ref b3), .val (.ref b5), .val (.ref bx7), .val (.int (0 : Int32)), .val (.int (1 : Int32))]) rfl ?_
          show Steps pg.tables ee below (T20.setTop (mkF mm 119 #[.val (.long q0), .second, .val (.long q1), .second, .val (.long q2), .second, .val (.long q3), .second, .val (.long q4), .second, .val (.long q5), .second, .val (.long (q0 ^^^ q3)), .second, .val (.long (q1 ^^^ q4)), .second, .val (.long (q2 ^^^ q5)), .second, .val (.ref b1), .val (.ref b3), .val (.ref b5), .val (.ref bx7), .val (.int (0 : Int32)), .val (.int (1 : Int32))] [])) _
          refine XS.iload X20.here hx rfl (hb hby at_119) rfl ?_
          show Steps pg.tables ee below (T20.setTop (mkF mm 121 #[.val (.long q0), .second, .val (.long q1), .second, .val (.long q2), .second, .val (.long q3), .second, .val (.long q4), .second, .val (.long q5), .second, .val (.long (q0 ^^^ q3)), .second, .val (.long (q1 ^^^ q4)), .second, .val (.long (q2 ^^^ q5)), .second, .val (.ref b1), .val (.ref b3), .val (.ref b5), .val (.ref bx7), .val (.int (0 : Int32)), .val (.int (1 : Int32))] [(.int (1 : Int32))])) _
          refine XS.ifNo X20.here hx rfl (hb hby at_121) rfl ((if0 _ _).trans (feq (by decide : ¬ ((1 : Int32) = (0 : Int32)))).1) ?_
          show Steps pg.tables ee below (T20.setTop (mkF mm 124 #[.val (.long q0), .second, .val (.long q1), .second, .val (.long q2), .second, .val (.long q3), .second, .val (.long q4), .second, .val (.long q5), .second, .val (.long (q0 ^^^ q3)), .second, .val (.long (q1 ^^^ q4)), .second, .val (.long (q2 ^^^ q5)), .second, .val (.ref b1), .val (.ref b3), .val (.ref b5), .val (.ref bx7), .val (.int (0 : Int32)), .val (.int (1 : Int32))] [])) _
          refine XS.aload X20.here hx rfl (hb hby at_124) rfl rfl ?_
          show Steps pg.tables ee below (T20.setTop (mkF mm 126 #[.val (.long q0), .second, .val (.long q1), .second, .val (.long q2), .second, .val (.long q3), .second, .val (.long q4), .second, .val (.long q5), .second, .val (.long (q0 ^^^ q3)), .second, .val (.long (q1 ^^^ q4)), .second, .val (.long (q2 ^^^ q5)), .second, .val (.ref b1), .val (.ref b3), .val (.ref b5), .val (.ref bx7), .val (.int (0 : Int32)), .val (.int (1 : Int32))] [(.ref b1)])) _
          refine XS.aload X20.here hx rfl (hb hby at_126) rfl rfl ?_
          show Steps pg.tables ee below (T20.setTop (mkF mm 128 #[.val (.long q0), .second, .val (.long q1), .second, .val (.long q2), .second, .val (.long q3), .second, .val (.long q4), .second, .val (.long q5), .second, .val (.long (q0 ^^^ q3)), .second, .val (.long (q1 ^^^ q4)), .second, .val (.long (q2 ^^^ q5)), .second, .val (.ref b1), .val (.ref b3), .val (.ref b5), .val (.ref bx7), .val (.int (0 : Int32)), .val (.int (1 : Int32))] [(.ref bx7), (.ref b1)])) _
          refine st21.trans ?_
          show Steps pg.tables ee below (T21.setTop (mkF mm 131 #[.val (.long q0), .second, .val (.long q1), .second, .val (.long q2), .second, .val (.long q3), .second, .val (.long q4), .second, .val (.long q5), .second, .val (.long (q0 ^^^ q3)), .second, .val (.long (q1 ^^^ q4)), .second, .val (.long (q2 ^^^ q5)), .second, .val (.ref b1), .val (.ref b3), .val (.ref b5), .val (.ref bx7), .val (.int (0 : Int32)), .val (.int (1 : Int32))] [(.int (0 : Int32))])) _
          refine XS.ifNo X21.here hx rfl (hb hby at_131) rfl ((if0 _ _).trans (teq (by decide : (0 : Int32) = (0 : Int32))).2) ?_
          show Steps pg.tables ee below (T21.setTop (mkF mm 134 #[.val (.long q0), .second, .val (.long q1), .second, .val (.long q2), .second, .val (.long q3), .second, .val (.long q4), .second, .val (.long q5), .second, .val (.long (q0 ^^^ q3)), .second, .val (.long (q1 ^^^ q4)), .second, .val (.long (q2 ^^^ q5)), .second, .val (.ref b1), .val (.ref b3), .val (.ref b5), .val (.ref bx7), .val (.int (0 : Int32)), .val (.int (1 : Int32))] [])) _
          refine XS.iconst X21.here hx rfl (hb hby at_134) ?_
          show Steps pg.tables ee below (T21.setTop (mkF mm 135 #[.val (.long q0), .second, .val (.long q1), .second, .val (.long q2), .second, .val (.long q3), .second, .val (.long q4), .second, .val (.long q5), .second, .val (.long (q0 ^^^ q3)), .second, .val (.long (q1 ^^^ q4)), .second, .val (.long (q2 ^^^ q5)), .second, .val (.ref b1), .val (.ref b3), .val (.ref b5), .val (.ref bx7), .val (.int (0 : Int32)), .val (.int (1 : Int32))] [(.int (1 : Int32))])) _
          refine XS.goto X21.here hx rfl (pc0 := 135) (pc' := 139) rfl (hb hby at_135) (by decide) (by decide) ?_
          show Steps pg.tables ee below (T21.setTop (mkF mm 139 #[.val (.long q0), .second, .val (.long q1), .second, .val (.long q2), .second, .val (.long q3), .second, .val (.long q4), .second, .val (.long q5), .second, .val (.long (q0 ^^^ q3)), .second, .val (.long (q1 ^^^ q4)), .second, .val (.long (q2 ^^^ q5)), .second, .val (.ref b1), .val (.ref b3), .val (.ref b5), .val (.ref bx7), .val (.int (0 : Int32)), .val (.int (1 : Int32))] [(.int (1 : Int32))])) _
          refine XS.istore X21.here hx rfl (hb hby at_139) rfl (l' := #[.val (.long q0), .second, .val (.long q1), .second, .val (.long q2), .second, .val (.long q3), .second, .val (.long q4), .second, .val (.long q5), .second, .val (.long (q0 ^^^ q3)), .second, .val (.long (q1 ^^^ q4)), .second, .val (.long (q2 ^^^ q5)), .second, .val (.ref b1), .val (.ref b3), .val (.ref b5), .val (.ref bx7), .val (.int (0 : Int32)), .val (.int (1 : Int32))]) rfl ?_
          show Steps pg.tables ee below (T21.setTop (mkF mm 141 #[.val (.long q0), .second, .val (.long q1), .second, .val (.long q2), .second, .val (.long q3), .second, .val (.long q4), .second, .val (.long q5), .second, .val (.long (q0 ^^^ q3)), .second, .val (.long (q1 ^^^ q4)), .second, .val (.long (q2 ^^^ q5)), .second, .val (.ref b1), .val (.ref b3), .val (.ref b5), .val (.ref bx7), .val (.int (0 : Int32)), .val (.int (1 : Int32))] [])) _
          refine XS.iload X21.here hx rfl (hb hby at_141) rfl ?_
          show Steps pg.tables ee below (T21.setTop (mkF mm 143 #[.val (.long q0), .second, .val (.long q1), .second, .val (.long q2), .second, .val (.long q3), .second, .val (.long q4), .second, .val (.long q5), .second, .val (.long (q0 ^^^ q3)), .second, .val (.long (q1 ^^^ q4)), .second, .val (.long (q2 ^^^ q5)), .second, .val (.ref b1), .val (.ref b3), .val (.ref b5), .val (.ref bx7), .val (.int (0 : Int32)), .val (.int (1 : Int32))] [(.int (1 : Int32))])) _
          refine XS.ifNo X21.here hx rfl (hb hby at_143) rfl ((if0 _ _).trans (feq (by decide : ¬ ((1 : Int32) = (0 : Int32)))).1) ?_
          show Steps pg.tables ee below (T21.setTop (mkF mm 146 #[.val (.long q0), .second, .val (.long q1), .second, .val (.long q2), .second, .val (.long q3), .second, .val (.long q4), .second, .val (.long q5), .second, .val (.long (q0 ^^^ q3)), .second, .val (.long (q1 ^^^ q4)), .second, .val (.long (q2 ^^^ q5)), .second, .val (.ref b1), .val (.ref b3), .val (.ref b5), .val (.ref bx7), .val (.int (0 : Int32)), .val (.int (1 : Int32))] [])) _
          refine XS.aload X21.here hx rfl (hb hby at_146) rfl rfl ?_
          show Steps pg.tables ee below (T21.setTop (mkF mm 148 #[.val (.long q0), .second, .val (.long q1), .second, .val (.long q2), .second, .val (.long q3), .second, .val (.long q4), .second, .val (.long q5), .second, .val (.long (q0 ^^^ q3)), .second, .val (.long (q1 ^^^ q4)), .second, .val (.long (q2 ^^^ q5)), .second, .val (.ref b1), .val (.ref b3), .val (.ref b5), .val (.ref bx7), .val (.int (0 : Int32)), .val (.int (1 : Int32))] [(.ref b1)])) _
          refine XS.aload X21.here hx rfl (hb hby at_148) rfl rfl ?_
          show Steps pg.tables ee below (T21.setTop (mkF mm 150 #[.val (.long q0), .second, .val (.long q1), .second, .val (.long q2), .second, .val (.long q3), .second, .val (.long q4), .second, .val (.long q5), .second, .val (.long (q0 ^^^ q3)), .second, .val (.long (q1 ^^^ q4)), .second, .val (.long (q2 ^^^ q5)), .second, .val (.ref b1), .val (.ref b3), .val (.ref b5), .val (.ref bx7), .val (.int (0 : Int32)), .val (.int (1 : Int32))] [(.ref b1), (.ref b1)])) _
          refine st22.trans ?_
          show Steps pg.tables ee below (T22.setTop (mkF mm 153 #[.val (.long q0), .second, .val (.long q1), .second, .val (.long q2), .second, .val (.long q3), .second, .val (.long q4), .second, .val (.long q5), .second, .val (.long (q0 ^^^ q3)), .second, .val (.long (q1 ^^^ q4)), .second, .val (.long (q2 ^^^ q5)), .second, .val (.ref b1), .val (.ref b3), .val (.ref b5), .val (.ref bx7), .val (.int (0 : Int32)), .val (.int (1 : Int32))] [(.int (1 : Int32))])) _
          refine XS.ifNo X22.here hx rfl (hb hby at_153) rfl ((if0 _ _).trans (feq (by decide : ¬ ((1 : Int32) = (0 : Int32)))).1) ?_
          show Steps pg.tables ee below (T22.setTop (mkF mm 156 #[.val (.long q0), .second, .val (.long q1), .second, .val (.long q2), .second, .val (.long q3), .second, .val (.long q4), .second, .val (.long q5), .second, .val (.long (q0 ^^^ q3)), .second, .val (.long (q1 ^^^ q4)), .second, .val (.long (q2 ^^^ q5)), .second, .val (.ref b1), .val (.ref b3), .val (.ref b5), .val (.ref bx7), .val (.int (0 : Int32)), .val (.int (1 : Int32))] [])) _
          refine XS.iconst X22.here hx rfl (hb hby at_156) ?_
          show Steps pg.tables ee below (T22.setTop (mkF mm 157 #[.val (.long q0), .second, .val (.long q1), .second, .val (.long q2), .second, .val (.long q3), .second, .val (.long q4), .second, .val (.long q5), .second, .val (.long (q0 ^^^ q3)), .second, .val (.long (q1 ^^^ q4)), .second, .val (.long (q2 ^^^ q5)), .second, .val (.ref b1), .val (.ref b3), .val (.ref b5), .val (.ref bx7), .val (.int (0 : Int32)), .val (.int (1 : Int32))] [(.int (1 : Int32))])) _
          refine XS.goto X22.here hx rfl (pc0 := 157) (pc' := 161) rfl (hb hby at_157) (by decide) (by decide) ?_
          show Steps pg.tables ee below (T22.setTop (mkF mm 161 #[.val (.long q0), .second, .val (.long q1), .second, .val (.long q2), .second, .val (.long q3), .second, .val (.long q4), .second, .val (.long q5), .second, .val (.long (q0 ^^^ q3)), .second, .val (.long (q1 ^^^ q4)), .second, .val (.long (q2 ^^^ q5)), .second, .val (.ref b1), .val (.ref b3), .val (.ref b5), .val (.ref bx7), .val (.int (0 : Int32)), .val (.int (1 : Int32))] [(.int (1 : Int32))])) _
          refine XS.istore X22.here hx rfl (hb hby at_161) rfl (l' := #[.val (.long q0), .second, .val (.long q1), .second, .val (.long q2), .second, .val (.long q3), .second, .val (.long q4), .second, .val (.long q5), .second, .val (.long (q0 ^^^ q3)), .second, .val (.long (q1 ^^^ q4)), .second, .val (.long (q2 ^^^ q5)), .second, .val (.ref b1), .val (.ref b3), .val (.ref b5), .val (.ref bx7), .val (.int (0 : Int32)), .val (.int (1 : Int32))]) rfl ?_
          show Steps pg.tables ee below (T22.setTop (mkF mm 163 #[.val (.long q0), .second, .val (.long q1), .second, .val (.long q2), .second, .val (.long q3), .second, .val (.long q4), .second, .val (.long q5), .second, .val (.long (q0 ^^^ q3)), .second, .val (.long (q1 ^^^ q4)), .second, .val (.long (q2 ^^^ q5)), .second, .val (.ref b1), .val (.ref b3), .val (.ref b5), .val (.ref bx7), .val (.int (0 : Int32)), .val (.int (1 : Int32))] [])) _
          refine XS.iload X22.here hx rfl (hb hby at_163) rfl ?_
          show Steps pg.tables ee below (T22.setTop (mkF mm 165 #[.val (.long q0), .second, .val (.long q1), .second, .val (.long q2), .second, .val (.long q3), .second, .val (.long q4), .second, .val (.long q5), .second, .val (.long (q0 ^^^ q3)), .second, .val (.long (q1 ^^^ q4)), .second, .val (.long (q2 ^^^ q5)), .second, .val (.ref b1), .val (.ref b3), .val (.ref b5), .val (.ref bx7), .val (.int (0 : Int32)), .val (.int (1 : Int32))] [(.int (1 : Int32))])) _
          refine XS.ifNo X22.here hx rfl (hb hby at_165) rfl ((if0 _ _).trans (feq (by decide : ¬ ((1 : Int32) = (0 : Int32)))).1) ?_
          show Steps pg.tables ee below (T22.setTop (mkF mm 168 #[.val (.long q0), .second, .val (.long q1), .second, .val (.long q2), .second, .val (.long q3), .second, .val (.long q4), .second, .val (.long q5), .second, .val (.long (q0 ^^^ q3)), .second, .val (.long (q1 ^^^ q4)), .second, .val (.long (q2 ^^^ q5)), .second, .val (.ref b1), .val (.ref b3), .val (.ref b5), .val (.ref bx7), .val (.int (0 : Int32)), .val (.int (1 : Int32))] [])) _
          refine XS.aload X22.here hx rfl (hb hby at_168) rfl rfl ?_
          show Steps pg.tables ee below (T22.setTop (mkF mm 170 #[.val (.long q0), .second, .val (.long q1), .second, .val (.long q2), .second, .val (.long q3), .second, .val (.long q4), .second, .val (.long q5), .second, .val (.long (q0 ^^^ q3)), .second, .val (.long (q1 ^^^ q4)), .second, .val (.long (q2 ^^^ q5)), .second, .val (.ref b1), .val (.ref b3), .val (.ref b5), .val (.ref bx7), .val (.int (0 : Int32)), .val (.int (1 : Int32))] [(.ref b1)])) _
          refine XS.aload X22.here hx rfl (hb hby at_170) rfl rfl ?_
          show Steps pg.tables ee below (T22.setTop (mkF mm 172 #[.val (.long q0), .second, .val (.long q1), .second, .val (.long q2), .second, .val (.long q3), .second, .val (.long q4), .second, .val (.long q5), .second, .val (.long (q0 ^^^ q3)), .second, .val (.long (q1 ^^^ q4)), .second, .val (.long (q2 ^^^ q5)), .second, .val (.ref b1), .val (.ref b3), .val (.ref b5), .val (.ref bx7), .val (.int (0 : Int32)), .val (.int (1 : Int32))] [(.ref b3), (.ref b1)])) _
          refine st23.trans ?_
          show Steps pg.tables ee below (T23.setTop (mkF mm 175 #[.val (.long q0), .second, .val (.long q1), .second, .val (.long q2), .second, .val (.long q3), .second, .val (.long q4), .second, .val (.long q5), .second, .val (.long (q0 ^^^ q3)), .second, .val (.long (q1 ^^^ q4)), .second, .val (.long (q2 ^^^ q5)), .second, .val (.ref b1), .val (.ref b3), .val (.ref b5), .val (.ref bx7), .val (.int (0 : Int32)), .val (.int (1 : Int32))] [(.int (1 : Int32))])) _
          refine XS.ifNo X23.here hx rfl (hb hby at_175) rfl ((if0 _ _).trans (feq (by decide : ¬ ((1 : Int32) = (0 : Int32)))).1) ?_
          show Steps pg.tables ee below (T23.setTop (mkF mm 178 #[.val (.long q0), .second, .val (.long q1), .second, .val (.long q2), .second, .val (.long q3), .second, .val (.long q4), .second, .val (.long q5), .second, .val (.long (q0 ^^^ q3)), .second, .val (.long (q1 ^^^ q4)), .second, .val (.long (q2 ^^^ q5)), .second, .val (.ref b1), .val (.ref b3), .val (.ref b5), .val (.ref bx7), .val (.int (0 : Int32)), .val (.int (1 : Int32))] [])) _
          refine XS.iconst X23.here hx rfl (hb hby at_178) ?_
          show Steps pg.tables ee below (T23.setTop (mkF mm 179 #[.val (.long q0), .second, .val (.long q1), .second, .val (.long q2), .second, .val (.long q3), .second, .val (.long q4), .second, .val (.long q5), .second, .val (.long (q0 ^^^ q3)), .second, .val (.long (q1 ^^^ q4)), .second, .val (.long (q2 ^^^ q5)), .second, .val (.ref b1), .val (.ref b3), .val (.ref b5), .val (.ref bx7), .val (.int (0 : Int32)), .val (.int (1 : Int32))] [(.int (1 : Int32))])) _
          refine XS.goto X23.here hx rfl (pc0 := 179) (pc' := 183) rfl (hb hby at_179) (by decide) (by decide) ?_
          show Steps pg.tables ee below (T23.setTop (mkF mm 183 #[.val (.long q0), .second, .val (.long q1), .second, .val (.long q2), .second, .val (.long q3), .second, .val (.long q4), .second, .val (.long q5), .second, .val (.long (q0 ^^^ q3)), .second, .val (.long (q1 ^^^ q4)), .second, .val (.long (q2 ^^^ q5)), .second, .val (.ref b1), .val (.ref b3), .val (.ref b5), .val (.ref bx7), .val (.int (0 : Int32)), .val (.int (1 : Int32))] [(.int (1 : Int32))])) _
          refine XS.istore X23.here hx rfl (hb hby at_183) rfl (l' := #[.val (.long q0), .second, .val (.long q1), .second, .val (.long q2), .second, .val (.long q3), .second, .val (.long q4), .second, .val (.long q5), .second, .val (.long (q0 ^^^ q3)), .second, .val (.long (q1 ^^^ q4)), .second, .val (.long (q2 ^^^ q5)), .second, .val (.ref b1), .val (.ref b3), .val (.ref b5), .val (.ref bx7), .val (.int (0 : Int32)), .val (.int (1 : Int32))]) rfl ?_
          show Steps pg.tables ee below (T23.setTop (mkF mm 185 #[.val (.long q0), .second, .val (.long q1), .second, .val (.long q2), .second, .val (.long q3), .second, .val (.long q4), .second, .val (.long q5), .second, .val (.long (q0 ^^^ q3)), .second, .val (.long (q1 ^^^ q4)), .second, .val (.long (q2 ^^^ q5)), .second, .val (.ref b1), .val (.ref b3), .val (.ref b5), .val (.ref bx7), .val (.int (0 : Int32)), .val (.int (1 : Int32))] [])) _
          refine XS.iload X23.here hx rfl (hb hby at_185) rfl ?_
          show Steps pg.tables ee below (T23.setTop (mkF mm 187 #[.val (.long q0), .second, .val (.long q1), .second, .val (.long q2), .second, .val (.long q3), .second, .val (.long q4), .second, .val (.long q5), .second, .val (.long (q0 ^^^ q3)), .second, .val (.long (q1 ^^^ q4)), .second, .val (.long (q2 ^^^ q5)), .second, .val (.ref b1), .val (.ref b3), .val (.ref b5), .val (.ref bx7), .val (.int (0 : Int32)), .val (.int (1 : Int32))] [(.int (1 : Int32))])) _
          refine XS.ifNo X23.here hx rfl (hb hby at_187) rfl ((if0 _ _).trans (feq (by decide : ¬ ((1 : Int32) = (0 : Int32)))).1) ?_
          show Steps pg.tables ee below (T23.setTop (mkF mm 190 #[.val (.long q0), .second, .val (.long q1), .second, .val (.long q2), .second, .val (.long q3), .second, .val (.long q4), .second, .val (.long q5), .second, .val (.long (q0 ^^^ q3)), .second, .val (.long (q1 ^^^ q4)), .second, .val (.long (q2 ^^^ q5)), .second, .val (.ref b1), .val (.ref b3), .val (.ref b5), .val (.ref bx7), .val (.int (0 : Int32)), .val (.int (1 : Int32))] [])) _
          refine XS.aload X23.here hx rfl (hb hby at_190) rfl rfl ?_
          show Steps pg.tables ee below (T23.setTop (mkF mm 192 #[.val (.long q0), .second, .val (.long q1), .second, .val (.long q2), .second, .val (.long q3), .second, .val (.long q4), .second, .val (.long q5), .second, .val (.long (q0 ^^^ q3)), .second, .val (.long (q1 ^^^ q4)), .second, .val (.long (q2 ^^^ q5)), .second, .val (.ref b1), .val (.ref b3), .val (.ref b5), .val (.ref bx7), .val (.int (0 : Int32)), .val (.int (1 : Int32))] [(.ref b1)])) _
          refine XS.aload X23.here hx rfl (hb hby at_192) rfl rfl ?_
          show Steps pg.tables ee below (T23.setTop (mkF mm 194 #[.val (.long q0), .second, .val (.long q1), .second, .val (.long q2), .second, .val (.long q3), .second, .val (.long q4), .second, .val (.long q5), .second, .val (.long (q0 ^^^ q3)), .second, .val (.long (q1 ^^^ q4)), .second, .val (.long (q2 ^^^ q5)), .second, .val (.ref b1), .val (.ref b3), .val (.ref b5), .val (.ref bx7), .val (.int (0 : Int32)), .val (.int (1 : Int32))] [(.ref b5), (.ref b1)])) _
          refine st24.trans ?_
          show Steps pg.tables ee below (T24.setTop (mkF mm 197 #[.val (.long q0), .second, .val (.long q1), .second, .val (.long q2), .second, .val (.long q3), .second, .val (.long q4), .second, .val (.long q5), .second, .val (.long (q0 ^^^ q3)), .second, .val (.long (q1 ^^^ q4)), .second, .val (.long (q2 ^^^ q5)), .second, .val (.ref b1), .val (.ref b3), .val (.ref b5), .val (.ref bx7), .val (.int (0 : Int32)), .val (.int (1 : Int32))] [(.int (0 : Int32))])) _
          refine XS.iload X24.here hx rfl (hb hby at_197) rfl ?_
          show Steps pg.tables ee below (T24.setTop (mkF mm 199 #[.val (.long q0), .second, .val (.long q1), .second, .val (.long q2), .second, .val (.long q3), .second, .val (.long q4), .second, .val (.long q5), .second, .val (.long (q0 ^^^ q3)), .second, .val (.long (q1 ^^^ q4)), .second, .val (.long (q2 ^^^ q5)), .second, .val (.ref b1), .val (.ref b3), .val (.ref b5), .val (.ref bx7), .val (.int (0 : Int32)), .val (.int (1 : Int32))] [(.int (0 : Int32)), (.int (0 : Int32))])) _
          refine XS.icmpNo X24.here hx rfl (hb hby at_199) rfl (teq (by decide : (0 : Int32) = (0 : Int32))).2 ?_
          show Steps pg.tables ee below (T24.setTop (mkF mm 202 #[.val (.long q0), .second, .val (.long q1), .second, .val (.long q2), .second, .val (.long q3), .second, .val (.long q4), .second, .val (.long q5), .second, .val (.long (q0 ^^^ q3)), .second, .val (.long (q1 ^^^ q4)), .second, .val (.long (q2 ^^^ q5)), .second, .val (.ref b1), .val (.ref b3), .val (.ref b5), .val (.ref bx7), .val (.int (0 : Int32)), .val (.int (1 : Int32))] [])) _
          refine XS.iconst X24.here hx rfl (hb hby at_202) ?_
          show Steps pg.tables ee below (T24.setTop (mkF mm 203 #[.val (.long q0), .second, .val (.long q1), .second, .val (.long q2), .second, .val (.long q3), .second, .val (.long q4), .second, .val (.long q5), .second, .val (.long (q0 ^^^ q3)), .second, .val (.long (q1 ^^^ q4)), .second, .val (.long (q2 ^^^ q5)), .second, .val (.ref b1), .val (.ref b3), .val (.ref b5), .val (.ref bx7), .val (.int (0 : Int32)), .val (.int (1 : Int32))] [(.int (1 : Int32))])) _
          refine XS.goto X24.here hx rfl (pc0 := 203) (pc' := 207) rfl (hb hby at_203) (by decide) (by decide) ?_
          show Steps pg.tables ee below (T24.setTop (mkF mm 207 #[.val (.long q0), .second, .val (.long q1), .second, .val (.long q2), .second, .val (.long q3), .second, .val (.long q4), .second, .val (.long q5), .second, .val (.long (q0 ^^^ q3)), .second, .val (.long (q1 ^^^ q4)), .second, .val (.long (q2 ^^^ q5)), .second, .val (.ref b1), .val (.ref b3), .val (.ref b5), .val (.ref bx7), .val (.int (0 : Int32)), .val (.int (1 : Int32))] [(.int (1 : Int32))])) _
          refine XS.istore X24.here hx rfl (hb hby at_207) rfl (l' := #[.val (.long q0), .second, .val (.long q1), .second, .val (.long q2), .second, .val (.long q3), .second, .val (.long q4), .second, .val (.long q5), .second, .val (.long (q0 ^^^ q3)), .second, .val (.long (q1 ^^^ q4)), .second, .val (.long (q2 ^^^ q5)), .second, .val (.ref b1), .val (.ref b3), .val (.ref b5), .val (.ref bx7), .val (.int (0 : Int32)), .val (.int (1 : Int32))]) rfl ?_
          show Steps pg.tables ee below (T24.setTop (mkF mm 209 #[.val (.long q0), .second, .val (.long q1), .second, .val (.long q2), .second, .val (.long q3), .second, .val (.long q4), .second, .val (.long q5), .second, .val (.long (q0 ^^^ q3)), .second, .val (.long (q1 ^^^ q4)), .second, .val (.long (q2 ^^^ q5)), .second, .val (.ref b1), .val (.ref b3), .val (.ref b5), .val (.ref bx7), .val (.int (0 : Int32)), .val (.int (1 : Int32))] [])) _
          refine XS.iload X24.here hx rfl (hb hby at_209) rfl ?_
          show Steps pg.tables ee below (T24.setTop (mkF mm 211 #[.val (.long q0), .second, .val (.long q1), .second, .val (.long q2), .second, .val (.long q3), .second, .val (.long q4), .second, .val (.long q5), .second, .val (.long (q0 ^^^ q3)), .second, .val (.long (q1 ^^^ q4)), .second, .val (.long (q2 ^^^ q5)), .second, .val (.ref b1), .val (.ref b3), .val (.ref b5), .val (.ref bx7), .val (.int (0 : Int32)), .val (.int (1 : Int32))] [(.int (1 : Int32))])) _
          refine XS.ifNo X24.here hx rfl (hb hby at_211) rfl ((if0 _ _).trans (feq (by decide : ¬ ((1 : Int32) = (0 : Int32)))).1) ?_
          show Steps pg.tables ee below (T24.setTop (mkF mm 214 #[.val (.long q0), .second, .val (.long q1), .second, .val (.long q2), .second, .val (.long q3), .second, .val (.long q4), .second, .val (.long q5), .second, .val (.long (q0 ^^^ q3)), .second, .val (.long (q1 ^^^ q4)), .second, .val (.long (q2 ^^^ q5)), .second, .val (.ref b1), .val (.ref b3), .val (.ref b5), .val (.ref bx7), .val (.int (0 : Int32)), .val (.int (1 : Int32))] [])) _
          refine XS.aload X24.here hx rfl (hb hby at_214) rfl rfl ?_
          show Steps pg.tables ee below (T24.setTop (mkF mm 216 #[.val (.long q0), .second, .val (.long q1), .second, .val (.long q2), .second, .val (.long q3), .second, .val (.long q4), .second, .val (.long q5), .second, .val (.long (q0 ^^^ q3)), .second, .val (.long (q1 ^^^ q4)), .second, .val (.long (q2 ^^^ q5)), .second, .val (.ref b1), .val (.ref b3), .val (.ref b5), .val (.ref bx7), .val (.int (0 : Int32)), .val (.int (1 : Int32))] [(.ref b5)])) _
          refine XS.aload X24.here hx rfl (hb hby at_216) rfl rfl ?_
          show Steps pg.tables ee below (T24.setTop (mkF mm 218 #[.val (.long q0), .second, .val (.long q1), .second, .val (.long q2), .second, .val (.long q3), .second, .val (.long q4), .second, .val (.long q5), .second, .val (.long (q0 ^^^ q3)), .second, .val (.long (q1 ^^^ q4)), .second, .val (.long (q2 ^^^ q5)), .second, .val (.ref b1), .val (.ref b3), .val (.ref b5), .val (.ref bx7), .val (.int (0 : Int32)), .val (.int (1 : Int32))] [(.ref b1), (.ref b5)])) _
          refine st25.trans ?_
          show Steps pg.tables ee below (T25.setTop (mkF mm 221 #[.val (.long q0), .second, .val (.long q1), .second, .val (.long q2), .second, .val (.long q3), .second, .val (.long q4), .second, .val (.long q5), .second, .val (.long (q0 ^^^ q3)), .second, .val (.long (q1 ^^^ q4)), .second, .val (.long (q2 ^^^ q5)), .second, .val (.ref b1), .val (.ref b3), .val (.ref b5), .val (.ref bx7), .val (.int (0 : Int32)), .val (.int (1 : Int32))] [(.int (0 : Int32))])) _
          refine XS.iload X25.here hx rfl (hb hby at_221) rfl ?_
          show Steps pg.tables ee below (T25.setTop (mkF mm 223 #[.val (.long q0), .second, .val (.long q1), .second, .val (.long q2), .second, .val (.long q3), .second, .val (.long q4), .second, .val (.long q5), .second, .val (.long (q0 ^^^ q3)), .second, .val (.long (q1 ^^^ q4)), .second, .val (.long (q2 ^^^ q5)), .second, .val (.ref b1), .val (.ref b3), .val (.ref b5), .val (.ref bx7), .val (.int (0 : Int32)), .val (.int (1 : Int32))] [(.int (0 : Int32)), (.int (0 : Int32))])) _
          refine XS.icmpNo X25.here hx rfl (hb hby at_223) rfl (teq (by decide : (0 : Int32) = (0 : Int32))).2 ?_
          show Steps pg.tables ee below (T25.setTop (mkF mm 226 #[.val (.long q0), .second, .val (.long q1), .second, .val (.long q2), .second, .val (.long q3), .second, .val (.long q4), .second, .val (.long q5), .second, .val (.long (q0 ^^^ q3)), .second, .val (.long (q1 ^^^ q4)), .second, .val (.long (q2 ^^^ q5)), .second, .val (.ref b1), .val (.ref b3), .val (.ref b5), .val (.ref bx7), .val (.int (0 : Int32)), .val (.int (1 : Int32))] [])) _
          refine XS.iconst X25.here hx rfl (hb hby at_226) ?_
          show Steps pg.tables ee below (T25.setTop (mkF mm 227 #[.val (.long q0), .second, .val (.long q1), .second, .val (.long q2), .second, .val (.long q3), .second, .val (.long q4), .second, .val (.long q5), .second, .val (.long (q0 ^^^ q3)), .second, .val (.long (q1 ^^^ q4)), .second, .val (.long (q2 ^^^ q5)), .second, .val (.ref b1), .val (.ref b3), .val (.ref b5), .val (.ref bx7), .val (.int (0 : Int32)), .val (.int (1 : Int32))] [(.int (1 : Int32))])) _
          refine XS.goto X25.here hx rfl (pc0 := 227) (pc' := 231) rfl (hb hby at_227) (by decide) (by decide) ?_
          show Steps pg.tables ee below (T25.setTop (mkF mm 231 #[.val (.long q0), .second, .val (.long q1), .second, .val (.long q2), .second, .val (.long q3), .second, .val (.long q4), .second, .val (.long q5), .second, .val (.long (q0 ^^^ q3)), .second, .val (.long (q1 ^^^ q4)), .second, .val (.long (q2 ^^^ q5)), .second, .val (.ref b1), .val (.ref b3), .val (.ref b5), .val (.ref bx7), .val (.int (0 : Int32)), .val (.int (1 : Int32))] [(.int (1 : Int32))])) _
          refine XS.istore X25.here hx rfl (hb hby at_231) rfl (l' := #[.val (.long q0), .second, .val (.long q1), .second, .val (.long q2), .second, .val (.long q3), .second, .val (.long q4), .second, .val (.long q5), .second, .val (.long (q0 ^^^ q3)), .second, .val (.long (q1 ^^^ q4)), .second, .val (.long (q2 ^^^ q5)), .second, .val (.ref b1), .val (.ref b3), .val (.ref b5), .val (.ref bx7), .val (.int (0 : Int32)), .val (.int (1 : Int32))]) rfl ?_
          show Steps pg.tables ee below (T25.setTop (mkF mm 233 #[.val (.long q0), .second, .val (.long q1), .second, .val (.long q2), .second, .val (.long q3), .second, .val (.long q4), .second, .val (.long q5), .second, .val (.long (q0 ^^^ q3)), .second, .val (.long (q1 ^^^ q4)), .second, .val (.long (q2 ^^^ q5)), .second, .val (.ref b1), .val (.ref b3), .val (.ref b5), .val (.ref bx7), .val (.int (0 : Int32)), .val (.int (1 : Int32))] [])) _
          refine XS.iload X25.here hx rfl (hb hby at_233) rfl ?_
          show Steps pg.tables ee below (T25.setTop (mkF mm 235 #[.val (.long q0), .second, .val (.long q1), .second, .val (.long q2), .second, .val (.long q3), .second, .val (.long q4), .second, .val (.long q5), .second, .val (.long (q0 ^^^ q3)), .second, .val (.long (q1 ^^^ q4)), .second, .val (.long (q2 ^^^ q5)), .second, .val (.ref b1), .val (.ref b3), .val (.ref b5), .val (.ref bx7), .val (.int (0 : Int32)), .val (.int (1 : Int32))] [(.int (1 : Int32))])) _
          exact retN X25 hx (t := .boolean) Bd.returns (by simp) (hb hby at_235) hr
        · show Qrm0 Z q0 q1 q2 q3 q4 q5 ca cl val h0 n0 _ T25.heap _
          rw [e25]
          exact ⟨rfl, N25⟩
    · obtain ⟨cq26, kq26, q26a, q26b, q26c⟩ := isOf hZ rfl (((((Ex2.ext E3).keep K4).ext E5).keep K6).keep K7)
      obtain ⟨_, _, ⟨T26, L26, k26, n26⟩, -, X26, ⟨Lc26, hQ26, l26, y26, z26⟩, st26⟩ := X7.virtualBack hx (y := (⟨"com/example/stops_to_routes/stopstoroutes/planner/Break", "equals", "(Ljava/lang/Object;)Z"⟩ : MethodName)) (z := (⟨"com/example/stops_to_routes/stopstoroutes/planner/Break", "equals", "(Ljava/lang/Object;)Z"⟩ : MethodName)) hown (mvT hZ (hw _ (List.mem_of_getElem? (i := 23) rfl))) (mvT hZ (hw _ (List.mem_of_getElem? (i := 24) rfl))) (notFace_of_selects (args := #[]) (mvT hZ (hw _ (List.mem_of_getElem? (i := 26) rfl)))) (mvT hZ (hw _ (List.mem_of_getElem? (i := 26) rfl))) (mvT hZ (hw _ (List.mem_of_getElem? (i := 25) rfl))) (by decide) (backOf (W := 0) (rmQN l Z a0 hw [] b1 T7.heap n0 O7) hZ (hw _ (List.mem_of_getElem? (i := 27) rfl)) (hw _ (List.mem_of_getElem? (i := 2) rfl)) (by decide) (by decide)) q26a q26c (g := (mkF mm 106 #[.val (.long q0), .second, .val (.long q1), .second, .val (.long q2), .second, .val (.long q3), .second, .val (.long q4), .second, .val (.long q5), .second, .val (.long (q0 ^^^ q3)), .second, .val (.long (q1 ^^^ q4)), .second, .val (.long (q2 ^^^ q5)), .second, .val (.ref b1), .val (.ref b3), .val (.ref b5), .val (.ref bx7), .val (.int (0 : Int32)), .val (.int (1 : Int32))] [.null, (.ref b1)])) rfl (by rw [hml]; rfl) (Steps.refl _) (argsL := [.null]) (rest := []) (lenOf pd_86 rfl) rfl (by show 2 * 0 + _ ≤ _; exact Nat.le_of_eq rfl) (hb hby at_106) (fun _ _ => ⟨rfl, rfl, (by decide : 4 + 0 ≤ _), (by decide : 10 + 0 ≤ _)⟩)
      dsimp only [Pt.U, Pt.locs, Pt.cells, Pt.slots] at X26 l26 y26 z26 st26 hQ26
      subst l26 y26 z26
      obtain ⟨rfl, N26q, e26⟩ := hQ26
      have N26 := Fr.app N7 N26q
      obtain ⟨cq27, kq27, q27a, q27b, q27c⟩ := isOf hZ e26 (((((Ex2.ext E3).keep K4).ext E5).keep K6).keep K7)
      obtain ⟨_, _, ⟨T27, L27, k27, n27⟩, -, X27, ⟨Lc27, hQ27, l27, y27, z27⟩, st27⟩ := X26.virtualBack hx (y := (⟨"com/example/stops_to_routes/stopstoroutes/planner/Break", "equals", "(Ljava/lang/Object;)Z"⟩ : MethodName)) (z := (⟨"com/example/stops_to_routes/stopstoroutes/planner/Break", "equals", "(Ljava/lang/Object;)Z"⟩ : MethodName)) hown (mvT hZ (hw _ (List.mem_of_getElem? (i := 23) rfl))) (mvT hZ (hw _ (List.mem_of_getElem? (i := 24) rfl))) (notFace_of_selects (args := #[]) (mvT hZ (hw _ (List.mem_of_getElem? (i := 26) rfl)))) (mvT hZ (hw _ (List.mem_of_getElem? (i := 26) rfl))) (mvT hZ (hw _ (List.mem_of_getElem? (i := 25) rfl))) (by decide) (backOf (W := 0) (rmQO l Z a0 hw [] b1 bx7 T7.heap n0 O7 Ex7) hZ (hw _ (List.mem_of_getElem? (i := 27) rfl)) (hw _ (List.mem_of_getElem? (i := 2) rfl)) (by decide) (by decide)) q27a q27c (g := (mkF mm 128 #[.val (.long q0), .second, .val (.long q1), .second, .val (.long q2), .second, .val (.long q3), .second, .val (.long q4), .second, .val (.long q5), .second, .val (.long (q0 ^^^ q3)), .second, .val (.long (q1 ^^^ q4)), .second, .val (.long (q2 ^^^ q5)), .second, .val (.ref b1), .val (.ref b3), .val (.ref b5), .val (.ref bx7), .val (.int (0 : Int32)), .val (.int (1 : Int32))] [(.ref bx7), (.ref b1)])) rfl (by rw [hml]; rfl) (Steps.refl _) (argsL := [(.ref bx7)]) (rest := []) (lenOf pd_86 rfl) rfl (by show 2 * 0 + _ ≤ _; exact Nat.le_of_eq rfl) (hb hby at_128) (fun _ _ => ⟨rfl, e26, (by decide : 4 + 0 ≤ _), (by decide : 10 + 0 ≤ _)⟩)
      dsimp only [Pt.U, Pt.locs, Pt.cells, Pt.slots] at X27 l27 y27 z27 st27 hQ27
      subst l27 y27 z27
      obtain ⟨rfl, N27q, e27⟩ := hQ27
      have N27 := Fr.app N26 N27q
      obtain ⟨cq28, kq28, q28a, q28b, q28c⟩ := isOf hZ e27 (((((Ex2.ext E3).keep K4).ext E5).keep K6).keep K7)
      obtain ⟨_, _, ⟨T28, L28, k28, n28⟩, -, X28, ⟨Lc28, hQ28, l28, y28, z28⟩, st28⟩ := X27.virtualBack hx (y := (⟨"com/example/stops_to_routes/stopstoroutes/planner/Break", "equals", "(Ljava/lang/Object;)Z"⟩ : MethodName)) (z := (⟨"com/example/stops_to_routes/stopstoroutes/planner/Break", "equals", "(Ljava/lang/Object;)Z"⟩ : MethodName)) hown (mvT hZ (hw _ (List.mem_of_getElem? (i := 23) rfl))) (mvT hZ (hw _ (List.mem_of_getElem? (i := 24) rfl))) (notFace_of_selects (args := #[]) (mvT hZ (hw _ (List.mem_of_getElem? (i := 26) rfl)))) (mvT hZ (hw _ (List.mem_of_getElem? (i := 26) rfl))) (mvT hZ (hw _ (List.mem_of_getElem? (i := 25) rfl))) (by decide) (backOf (W := 0) (rmQS l Z a0 hw [] b1 q0 q1 q2 T7.heap n0 O7 (((((Fv0_2.ext E3).keep K4 (ninS (Nat.ne_of_lt (Nat.lt_of_lt_of_le Ex2.lt (Nat.le_of_eq g3.symm))) nin0)).ext E5).keep K6 (ninS (Nat.ne_of_lt (Nat.lt_of_lt_of_le ((Ex2.ext E3).keep K4).lt (Nat.le_of_eq g5.symm))) nin0)).keep K7 nin0) (((((Fv1_2.ext E3).keep K4 (ninS (Nat.ne_of_lt (Nat.lt_of_lt_of_le Ex2.lt (Nat.le_of_eq g3.symm))) nin0)).ext E5).keep K6 (ninS (Nat.ne_of_lt (Nat.lt_of_lt_of_le ((Ex2.ext E3).keep K4).lt (Nat.le_of_eq g5.symm))) nin0)).keep K7 nin0) (((((Fv2_2.ext E3).keep K4 (ninS (Nat.ne_of_lt (Nat.lt_of_lt_of_le Ex2.lt (Nat.le_of_eq g3.symm))) nin0)).ext E5).keep K6 (ninS (Nat.ne_of_lt (Nat.lt_of_lt_of_le ((Ex2.ext E3).keep K4).lt (Nat.le_of_eq g5.symm))) nin0)).keep K7 nin0) (((((Ex2.ext E3).keep K4).ext E5).keep K6).keep K7)) hZ (hw _ (List.mem_of_getElem? (i := 27) rfl)) (hw _ (List.mem_of_getElem? (i := 2) rfl)) (by decide) (by decide)) q28a q28c (g := (mkF mm 150 #[.val (.long q0), .second, .val (.long q1), .second, .val (.long q2), .second, .val (.long q3), .second, .val (.long q4), .second, .val (.long q5), .second, .val (.long (q0 ^^^ q3)), .second, .val (.long (q1 ^^^ q4)), .second, .val (.long (q2 ^^^ q5)), .second, .val (.ref b1), .val (.ref b3), .val (.ref b5), .val (.ref bx7), .val (.int (0 : Int32)), .val (.int (1 : Int32))] [(.ref b1), (.ref b1)])) rfl (by rw [hml]; rfl) (Steps.refl _) (argsL := [(.ref b1)]) (rest := []) (lenOf pd_86 rfl) rfl (by show 2 * 0 + _ ≤ _; exact Nat.le_of_eq rfl) (hb hby at_150) (fun _ _ => ⟨rfl, e27, (by decide : 4 + 0 ≤ _), (by decide : 10 + 0 ≤ _)⟩)
      dsimp only [Pt.U, Pt.locs, Pt.cells, Pt.slots] at X28 l28 y28 z28 st28 hQ28
      subst l28 y28 z28
      obtain ⟨rfl, N28q, e28⟩ := hQ28
      have N28 := Fr.app N27 N28q
      obtain ⟨cq29, kq29, q29a, q29b, q29c⟩ := isOf hZ e28 (((((Ex2.ext E3).keep K4).ext E5).keep K6).keep K7)
      obtain ⟨_, _, ⟨T29, L29, k29, n29⟩, -, X29, ⟨Lc29, hQ29, l29, y29, z29⟩, st29⟩ := X28.virtualBack hx (y := (⟨"com/example/stops_to_routes/stopstoroutes/planner/Break", "equals", "(Ljava/lang/Object;)Z"⟩ : MethodName)) (z := (⟨"com/example/stops_to_routes/stopstoroutes/planner/Break", "equals", "(Ljava/lang/Object;)Z"⟩ : MethodName)) hown (mvT hZ (hw _ (List.mem_of_getElem? (i := 23) rfl))) (mvT hZ (hw _ (List.mem_of_getElem? (i := 24) rfl))) (notFace_of_selects (args := #[]) (mvT hZ (hw _ (List.mem_of_getElem? (i := 26) rfl)))) (mvT hZ (hw _ (List.mem_of_getElem? (i := 26) rfl))) (mvT hZ (hw _ (List.mem_of_getElem? (i := 25) rfl))) (by decide) (backOf (W := 0) (rmQ3 l Z a0 hw [] b1 b3 q0 q1 q2 q0 q1 q2 T7.heap n0 O7 (((((Fv0_2.ext E3).keep K4 (ninS (Nat.ne_of_lt (Nat.lt_of_lt_of_le Ex2.lt (Nat.le_of_eq g3.symm))) nin0)).ext E5).keep K6 (ninS (Nat.ne_of_lt (Nat.lt_of_lt_of_le ((Ex2.ext E3).keep K4).lt (Nat.le_of_eq g5.symm))) nin0)).keep K7 nin0) (((((Fv1_2.ext E3).keep K4 (ninS (Nat.ne_of_lt (Nat.lt_of_lt_of_le Ex2.lt (Nat.le_of_eq g3.symm))) nin0)).ext E5).keep K6 (ninS (Nat.ne_of_lt (Nat.lt_of_lt_of_le ((Ex2.ext E3).keep K4).lt (Nat.le_of_eq g5.symm))) nin0)).keep K7 nin0) (((((Fv2_2.ext E3).keep K4 (ninS (Nat.ne_of_lt (Nat.lt_of_lt_of_le Ex2.lt (Nat.le_of_eq g3.symm))) nin0)).ext E5).keep K6 (ninS (Nat.ne_of_lt (Nat.lt_of_lt_of_le ((Ex2.ext E3).keep K4).lt (Nat.le_of_eq g5.symm))) nin0)).keep K7 nin0) (((Fv0_4.ext E5).keep K6 (ninS (Nat.ne_of_lt (Nat.lt_of_lt_of_le Ex4.lt (Nat.le_of_eq g5.symm))) nin0)).keep K7 nin0) (((Fv1_4.ext E5).keep K6 (ninS (Nat.ne_of_lt (Nat.lt_of_lt_of_le Ex4.lt (Nat.le_of_eq g5.symm))) nin0)).keep K7 nin0) (((Fv2_4.ext E5).keep K6 (ninS (Nat.ne_of_lt (Nat.lt_of_lt_of_le Ex4.lt (Nat.le_of_eq g5.symm))) nin0)).keep K7 nin0) (((Ex4.ext E5).keep K6).keep K7) ((lw_eq _ _).mpr rfl) ((lw_eq _ _).mpr rfl) ((lw_eq _ _).mpr rfl)) hZ (hw _ (List.mem_of_getElem? (i := 27) rfl)) (hw _ (List.mem_of_getElem? (i := 2) rfl)) (by decide) (by decide)) q29a q29c (g := (mkF mm 172 #[.val (.long q0), .second, .val (.long q1), .second, .val (.long q2), .second, .val (.long q3), .second, .val (.long q4), .second, .val (.long q5), .second, .val (.long (q0 ^^^ q3)), .second, .val (.long (q1 ^^^ q4)), .second, .val (.long (q2 ^^^ q5)), .second, .val (.ref b1), .val (.ref b3), .val (.ref b5), .val (.ref bx7), .val (.int (0 : Int32)), .val (.int (1 : Int32))] [(.ref b3), (.ref b1)])) rfl (by rw [hml]; rfl) (Steps.refl _) (argsL := [(.ref b3)]) (rest := []) (lenOf pd_86 rfl) rfl (by show 2 * 0 + _ ≤ _; exact Nat.le_of_eq rfl) (hb hby at_172) (fun _ _ => ⟨rfl, e28, (by decide : 4 + 0 ≤ _), (by decide : 10 + 0 ≤ _)⟩)
      dsimp only [Pt.U, Pt.locs, Pt.cells, Pt.slots] at X29 l29 y29 z29 st29 hQ29
      subst l29 y29 z29
      obtain ⟨rfl, N29q, e29⟩ := hQ29
      have N29 := Fr.app N28 N29q
      obtain ⟨cq30, kq30, q30a, q30b, q30c⟩ := isOf hZ e29 (((((Ex2.ext E3).keep K4).ext E5).keep K6).keep K7)
      obtain ⟨_, _, ⟨T30, L30, k30, n30⟩, -, X30, ⟨Lc30, hQ30, l30, y30, z30⟩, st30⟩ := X29.virtualBack hx (y := (⟨"com/example/stops_to_routes/stopstoroutes/planner/Break", "equals", "(Ljava/lang/Object;)Z"⟩ : MethodName)) (z := (⟨"com/example/stops_to_routes/stopstoroutes/planner/Break", "equals", "(Ljava/lang/Object;)Z"⟩ : MethodName)) hown (mvT hZ (hw _ (List.mem_of_getElem? (i := 23) rfl))) (mvT hZ (hw _ (List.mem_of_getElem? (i := 24) rfl))) (notFace_of_selects (args := #[]) (mvT hZ (hw _ (List.mem_of_getElem? (i := 26) rfl)))) (mvT hZ (hw _ (List.mem_of_getElem? (i := 26) rfl))) (mvT hZ (hw _ (List.mem_of_getElem? (i := 25) rfl))) (by decide) (backOf (W := 0) (rmQ1 l Z a0 hw [] b1 b5 q0 q1 q2 (q0 ^^^ q3) (q1 ^^^ q4) (q2 ^^^ q5) T7.heap n0 O7 (((((Fv0_2.ext E3).keep K4 (ninS (Nat.ne_of_lt (Nat.lt_of_lt_of_le Ex2.lt (Nat.le_of_eq g3.symm))) nin0)).ext E5).keep K6 (ninS (Nat.ne_of_lt (Nat.lt_of_lt_of_le ((Ex2.ext E3).keep K4).lt (Nat.le_of_eq g5.symm))) nin0)).keep K7 nin0) (((((Fv1_2.ext E3).keep K4 (ninS (Nat.ne_of_lt (Nat.lt_of_lt_of_le Ex2.lt (Nat.le_of_eq g3.symm))) nin0)).ext E5).keep K6 (ninS (Nat.ne_of_lt (Nat.lt_of_lt_of_le ((Ex2.ext E3).keep K4).lt (Nat.le_of_eq g5.symm))) nin0)).keep K7 nin0) (((((Fv2_2.ext E3).keep K4 (ninS (Nat.ne_of_lt (Nat.lt_of_lt_of_le Ex2.lt (Nat.le_of_eq g3.symm))) nin0)).ext E5).keep K6 (ninS (Nat.ne_of_lt (Nat.lt_of_lt_of_le ((Ex2.ext E3).keep K4).lt (Nat.le_of_eq g5.symm))) nin0)).keep K7 nin0) (Fv0_6.keep K7 nin0) (Fv1_6.keep K7 nin0) (Fv2_6.keep K7 nin0) (Ex6.keep K7) hc9 hc11) hZ (hw _ (List.mem_of_getElem? (i := 27) rfl)) (hw _ (List.mem_of_getElem? (i := 2) rfl)) (by decide) (by decide)) q30a q30c (g := (mkF mm 194 #[.val (.long q0), .second, .val (.long q1), .second, .val (.long q2), .second, .val (.long q3), .second, .val (.long q4), .second, .val (.long q5), .second, .val (.long (q0 ^^^ q3)), .second, .val (.long (q1 ^^^ q4)), .second, .val (.long (q2 ^^^ q5)), .second, .val (.ref b1), .val (.ref b3), .val (.ref b5), .val (.ref bx7), .val (.int (0 : Int32)), .val (.int (1 : Int32))] [(.ref b5), (.ref b1)])) rfl (by rw [hml]; rfl) (Steps.refl _) (argsL := [(.ref b5)]) (rest := []) (lenOf pd_86 rfl) rfl (by show 2 * 0 + _ ≤ _; exact Nat.le_of_eq rfl) (hb hby at_194) (fun _ _ => ⟨rfl, e29, (by decide : 4 + 0 ≤ _), (by decide : 10 + 0 ≤ _)⟩)
      dsimp only [Pt.U, Pt.locs, Pt.cells, Pt.slots] at X30 l30 y30 z30 st30 hQ30
      subst l30 y30 z30
      obtain ⟨rfl, N30q, e30⟩ := hQ30
      have N30 := Fr.app N29 N30q
      obtain ⟨cq31, kq31, q31a, q31b, q31c⟩ := isOf hZ e30 (Ex6.keep K7)
      obtain ⟨_, _, ⟨T31, L31, k31, n31⟩, -, X31, ⟨Lc31, hQ31, l31, y31, z31⟩, st31⟩ := X30.virtualBack hx (y := (⟨"com/example/stops_to_routes/stopstoroutes/planner/Break", "equals", "(Ljava/lang/Object;)Z"⟩ : MethodName)) (z := (⟨"com/example/stops_to_routes/stopstoroutes/planner/Break", "equals", "(Ljava/lang/Object;)Z"⟩ : MethodName)) hown (mvT hZ (hw _ (List.mem_of_getElem? (i := 23) rfl))) (mvT hZ (hw _ (List.mem_of_getElem? (i := 24) rfl))) (notFace_of_selects (args := #[]) (mvT hZ (hw _ (List.mem_of_getElem? (i := 26) rfl)))) (mvT hZ (hw _ (List.mem_of_getElem? (i := 26) rfl))) (mvT hZ (hw _ (List.mem_of_getElem? (i := 25) rfl))) (by decide) (backOf (W := 0) (rmQ1 l Z a0 hw [] b5 b1 (q0 ^^^ q3) (q1 ^^^ q4) (q2 ^^^ q5) q0 q1 q2 T7.heap n0 O7 (Fv0_6.keep K7 nin0) (Fv1_6.keep K7 nin0) (Fv2_6.keep K7 nin0) (((((Fv0_2.ext E3).keep K4 (ninS (Nat.ne_of_lt (Nat.lt_of_lt_of_le Ex2.lt (Nat.le_of_eq g3.symm))) nin0)).ext E5).keep K6 (ninS (Nat.ne_of_lt (Nat.lt_of_lt_of_le ((Ex2.ext E3).keep K4).lt (Nat.le_of_eq g5.symm))) nin0)).keep K7 nin0) (((((Fv1_2.ext E3).keep K4 (ninS (Nat.ne_of_lt (Nat.lt_of_lt_of_le Ex2.lt (Nat.le_of_eq g3.symm))) nin0)).ext E5).keep K6 (ninS (Nat.ne_of_lt (Nat.lt_of_lt_of_le ((Ex2.ext E3).keep K4).lt (Nat.le_of_eq g5.symm))) nin0)).keep K7 nin0) (((((Fv2_2.ext E3).keep K4 (ninS (Nat.ne_of_lt (Nat.lt_of_lt_of_le Ex2.lt (Nat.le_of_eq g3.symm))) nin0)).ext E5).keep K6 (ninS (Nat.ne_of_lt (Nat.lt_of_lt_of_le ((Ex2.ext E3).keep K4).lt (Nat.le_of_eq g5.symm))) nin0)).keep K7 nin0) (((((Ex2.ext E3).keep K4).ext E5).keep K6).keep K7) ((lw_eq _ _).mpr ((lw_eq _ _).mp hc9).symm) (fun q => hc11 ((lw_eq _ _).mpr ((lw_eq _ _).mp q).symm))) hZ (hw _ (List.mem_of_getElem? (i := 27) rfl)) (hw _ (List.mem_of_getElem? (i := 2) rfl)) (by decide) (by decide)) q31a q31c (g := (mkF mm 218 #[.val (.long q0), .second, .val (.long q1), .second, .val (.long q2), .second, .val (.long q3), .second, .val (.long q4), .second, .val (.long q5), .second, .val (.long (q0 ^^^ q3)), .second, .val (.long (q1 ^^^ q4)), .second, .val (.long (q2 ^^^ q5)), .second, .val (.ref b1), .val (.ref b3), .val (.ref b5), .val (.ref bx7), .val (.int (0 : Int32)), .val (.int (1 : Int32))] [(.ref b1), (.ref b5)])) rfl (by rw [hml]; rfl) (Steps.refl _) (argsL := [(.ref b1)]) (rest := []) (lenOf pd_86 rfl) rfl (by show 2 * 0 + _ ≤ _; exact Nat.le_of_eq rfl) (hb hby at_218) (fun _ _ => ⟨rfl, e30, (by decide : 4 + 0 ≤ _), (by decide : 10 + 0 ≤ _)⟩)
      dsimp only [Pt.U, Pt.locs, Pt.cells, Pt.slots] at X31 l31 y31 z31 st31 hQ31
      subst l31 y31 z31
      obtain ⟨rfl, N31q, e31⟩ := hQ31
      have N31 := Fr.app N30 N31q
      obtain ⟨fs, hr, hrun, hended, hW, hsame⟩ := X31.leave (v := some (.int (1 : Int32))) (fun h => by rw [Bd.returns] at h; cases h)
      refine ⟨_, _, pre10 _ ?_, hrun, hended, _, _, rfl, ?_, ⟨_, rfl⟩, hW, hsame.mono (by decide) (by decide)⟩
      · show Steps pg.tables ee below (T7.setTop (mkF mm 77 #[.val (.long q0), .second, .val (.long q1), .second, .val (.long q2), .second, .val (.long q3), .second, .val (.long q4), .second, .val (.long q5), .second, .val (.long (q0 ^^^ q3)), .second, .val (.long (q1 ^^^ q4)), .second, .val (.long (q2 ^^^ q5)), .second, .val (.ref b1), .val (.ref b3), .val (.ref b5), .val (.ref bx7), .unset, .unset] [(.int (lcmpW q1 (q1 ^^^ q4)))])) _
        refine XS.ifYes X7.here hx rfl (pc0 := 77) (pc' := 92) rfl (hb hby at_77) rfl ((if0 _ _).trans (feq hc11).2) (by decide) (by decide) ?_
        show Steps pg.tables ee below (T7.setTop (mkF mm 92 #[.val (.long q0), .second, .val (.long q1), .second, .val (.long q2), .second, .val (.long q3), .second, .val (.long q4), .second, .val (.long q5), .second, .val (.long (q0 ^^^ q3)), .second, .val (.long (q1 ^^^ q4)), .second, .val (.long (q2 ^^^ q5)), .second, .val (.ref b1), .val (.ref b3), .val (.ref b5), .val (.ref bx7), .unset, .unset] [])) _
        refine XS.iconst X7.here hx rfl (hb hby at_92) ?_
        show Steps pg.tables ee below (T7.setTop (mkF mm 93 #[.val (.long q0), .second, .val (.long q1), .second, .val (.long q2), .second, .val (.long q3), .second, .val (.long q4), .second, .val (.long q5), .second, .val (.long (q0 ^^^ q3)), .second, .val (.long (q1 ^^^ q4)), .second, .val (.long (q2 ^^^ q5)), .second, .val (.ref b1), .val (.ref b3), .val (.ref b5), .val (.ref bx7), .unset, .unset] [(.int (0 : Int32))])) _
        refine XS.istore X7.here hx rfl (hb hby at_93) rfl (l' := #[.val (.long q0), .second, .val (.long q1), .second, .val (.long q2), .second, .val (.long q3), .second, .val (.long q4), .second, .val (.long q5), .second, .val (.long (q0 ^^^ q3)), .second, .val (.long (q1 ^^^ q4)), .second, .val (.long (q2 ^^^ q5)), .second, .val (.ref b1), .val (.ref b3), .val (.ref b5), .val (.ref bx7), .val (.int (0 : Int32)), .unset]) rfl ?_
        show Steps pg.tables ee below (T7.setTop (mkF mm 95 #[.val (.long q0), .second, .val (.long q1), .second, .val (.long q2), .second, .val (.long q3), .second, .val (.long q4), .second, .val (.long q5), .second, .val (.long (q0 ^^^ q3)), .second, .val (.long (q1 ^^^ q4)), .second, .val (.long (q2 ^^^ q5)), .second, .val (.ref b1), .val (.ref b3), .val (.ref b5), .val (.ref bx7), .val (.int (0 : Int32)), .unset] [])) _
        refine XS.iconst X7.here hx rfl (hb hby at_95) ?_
        show Steps pg.tables ee below (T7.setTop (mkF mm 96 #[.val (.long q0), .second, .val (.long q1), .second, .val (.long q2), .second, .val (.long q3), .second, .val (.long q4), .second, .val (.long q5), .second, .val (.long (q0 ^^^ q3)), .second, .val (.long (q1 ^^^ q4)), .second, .val (.long (q2 ^^^ q5)), .second, .val (.ref b1), .val (.ref b3), .val (.ref b5), .val (.ref bx7), .val (.int (0 : Int32)), .unset] [(.int (1 : Int32))])) _
        refine XS.istore X7.here hx rfl (hb hby at_96) rfl (l' := #[.val (.long q0), .second, .val (.long q1), .second, .val (.long q2), .second, .val (.long q3), .second, .val (.long q4), .second, .val (.long q5), .second, .val (.long (q0 ^^^ q3)), .second, .val (.long (q1 ^^^ q4)), .second, .val (.long (q2 ^^^ q5)), .second, .val (.ref b1), .val (.ref b3), .val (.ref b5), .val (.ref bx7), .val (.int (0 : Int32)), .val (.int (1 : Int32))]) rfl ?_
        show Steps pg.tables ee below (T7.setTop (mkF mm 98 #[.val (.long q0), .second, .val (.long q1), .second, .val (.long q2), .second, .val (.long q3), .second, .val (.long q4), .second, .val (.long q5), .second, .val (.long (q0 ^^^ q3)), .second, .val (.long (q1 ^^^ q4)), .second, .val (.long (q2 ^^^ q5)), .second, .val (.ref b1), .val (.ref b3), .val (.ref b5), .val (.ref bx7), .val (.int (0 : Int32)), .val (.int (1 : Int32))] [])) _
        refine XS.iload X7.here hx rfl (hb hby at_98) rfl ?_
        show Steps pg.tables ee below (T7.setTop (mkF mm 100 #[.val (.long q0), .second, .val (.long q1), .second, .val (.long q2), .second, .val (.long q3), .second, .val (.long q4), .second, .val (.long q5), .second, .val (.long (q0 ^^^ q3)), .second, .val (.long (q1 ^^^ q4)), .second, .val (.long (q2 ^^^ q5)), .second, .val (.ref b1), .val (.ref b3), .val (.ref b5), .val (.ref bx7), .val (.int (0 : Int32)), .val (.int (1 : Int32))] [(.int (1 : Int32))])) _
        refine XS.ifNo X7.here hx rfl (hb hby at_100) rfl ((if0 _ _).trans (feq (by decide : ¬ ((1 : Int32) = (0 : Int32)))).1) ?_
        show Steps pg.tables ee below (T7.setTop (mkF mm 103 #[.val (.long q0), .second, .val (.long q1), .second, .val (.long q2), .second, .val (.long q3), .second, .val (.long q4), .second, .val (.long q5), .second, .val (.long (q0 ^^^ q3)), .second, .val (.long (q1 ^^^ q4)), .second, .val (.long (q2 ^^^ q5)), .second, .val (.ref b1), .val (.ref b3), .val (.ref b5), .val (.ref bx7), .val (.int (0 : Int32)), .val (.int (1 : Int32))] [])) _
        refine XS.aload X7.here hx rfl (hb hby at_103) rfl rfl ?_
        show Steps pg.tables ee below (T7.setTop (mkF mm 105 #[.val (.long q0), .second, .val (.long q1), .second, .val (.long q2), .second, .val (.long q3), .second, .val (.long q4), .second, .val (.long q5), .second, .val (.long (q0 ^^^ q3)), .second, .val (.long (q1 ^^^ q4)), .second, .val (.long (q2 ^^^ q5)), .second, .val (.ref b1), .val (.ref b3), .val (.ref b5), .val (.ref bx7), .val (.int (0 : Int32)), .val (.int (1 : Int32))] [(.ref b1)])) _
        refine XS.aconstNull X7.here hx rfl (hb hby at_105) ?_
        show Steps pg.tables ee below (T7.setTop (mkF mm 106 #[.val (.long q0), .second, .val (.long q1), .second, .val (.long q2), .second, .val (.long q3), .second, .val (.long q4), .second, .val (.long q5), .second, .val (.long (q0 ^^^ q3)), .second, .val (.long (q1 ^^^ q4)), .second, .val (.long (q2 ^^^ q5)), .second, .val (.ref b1), .val (.ref b3), .val (.ref b5), .val (.ref bx7), .val (.int (0 : Int32)), .val (.int (1 : Int32))] [.null, (.ref b1)])) _
        refine st26.trans ?_
        show Steps pg.tables ee below (T26.setTop (mkF mm 109 #[.val (.long q0), .second, .val (.long q1), .second, .val (.long q2), .second, .val (.long q3), .second, .val (.long q4), .second, .val (.long q5), .second, .val (.long (q0 ^^^ q3)), .second, .val (.long (q1 ^^^ q4)), .second, .val (.long (q2 ^^^ q5)), .second, .val (.ref b1), .val (.ref b3), .val (.ref b5), .val (.ref bx7), .val (.int (0 : Int32)), .val (.int (1 : Int32))] [(.int (0 : Int32))])) _
        refine XS.ifNo X26.here hx rfl (hb hby at_109) rfl ((if0 _ _).trans (teq (by decide : (0 : Int32) = (0 : Int32))).2) ?_
        show Steps pg.tables ee below (T26.setTop (mkF mm 112 #[.val (.long q0), .second, .val (.long q1), .second, .val (.long q2), .second, .val (.long q3), .second, .val (.long q4), .second, .val (.long q5), .second, .val (.long (q0 ^^^ q3)), .second, .val (.long (q1 ^^^ q4)), .second, .val (.long (q2 ^^^ q5)), .second, .val (.ref b1), .val (.ref b3), .val (.ref b5), .val (.ref bx7), .val (.int (0 : Int32)), .val (.int (1 : Int32))] [])) _
        refine XS.iconst X26.here hx rfl (hb hby at_112) ?_
        show Steps pg.tables ee below (T26.setTop (mkF mm 113 #[.val (.long q0), .second, .val (.long q1), .second, .val (.long q2), .second, .val (.long q3), .second, .val (.long q4), .second, .val (.long q5), .second, .val (.long (q0 ^^^ q3)), .second, .val (.long (q1 ^^^ q4)), .second, .val (.long (q2 ^^^ q5)), .second, .val (.ref b1), .val (.ref b3), .val (.ref b5), .val (.ref bx7), .val (.int (0 : Int32)), .val (.int (1 : Int32))] [(.int (1 : Int32))])) _
        refine XS.goto X26.here hx rfl (pc0 := 113) (pc' := 117) rfl (hb hby at_113) (by decide) (by decide) ?_
        show Steps pg.tables ee below (T26.setTop (mkF mm 117 #[.val (.long q0), .second, .val (.long q1), .second, .val (.long q2), .second, .val (.long q3), .second, .val (.long q4), .second, .val (.long q5), .second, .val (.long (q0 ^^^ q3)), .second, .val (.long (q1 ^^^ q4)), .second, .val (.long (q2 ^^^ q5)), .second, .val (.ref b1), .val (.ref b3), .val (.ref b5), .val (.ref bx7), .val (.int (0 : Int32)), .val (.int (1 : Int32))] [(.int (1 : Int32))])) _
        refine XS.istore X26.here hx rfl (hb hby at_117) rfl (l' := #[.val (.long q0), .second, .val (.long q1), .second, .val (.long q2), .second, .val (.long q3), .second, .val (.long q4), .second, .val (.long q5), .second, .val (.long (q0 ^^^ q3)), .second, .val (.long (q1 ^^^ q4)), .second, .val (.long (q2 ^^^ q5)), .second, .val (.ref b1), .val (.ref b3), .val (.ref b5), .val (.ref bx7), .val (.int (0 : Int32)), .val (.int (1 : Int32))]) rfl ?_
        show Steps pg.tables ee below (T26.setTop (mkF mm 119 #[.val (.long q0), .second, .val (.long q1), .second, .val (.long q2), .second, .val (.long q3), .second, .val (.long q4), .second, .val (.long q5), .second, .val (.long (q0 ^^^ q3)), .second, .val (.long (q1 ^^^ q4)), .second, .val (.long (q2 ^^^ q5)), .second, .val (.ref b1), .val (.ref b3), .val (.ref b5), .val (.ref bx7), .val (.int (0 : Int32)), .val (.int (1 : Int32))] [])) _
        refine XS.iload X26.here hx rfl (hb hby at_119) rfl ?_
        show Steps pg.tables ee below (T26.setTop (mkF mm 121 #[.val (.long q0), .second, .val (.long q1), .second, .val (.long q2), .second, .val (.long q3), .second, .val (.long q4), .second, .val (.long q5), .second, .val (.long (q0 ^^^ q3)), .second, .val (.long (q1 ^^^ q4)), .second, .val (.long (q2 ^^^ q5)), .second, .val (.ref b1), .val (.ref b3), .val (.ref b5), .val (.ref bx7), .val (.int (0 : Int32)), .val (.int (1 : Int32))] [(.int (1 : Int32))])) _
        refine XS.ifNo X26.here hx rfl (hb hby at_121) rfl ((if0 _ _).trans (feq (by decide : ¬ ((1 : Int32) = (0 : Int32)))).1) ?_
        show Steps pg.tables ee below (T26.setTop (mkF mm 124 #[.val (.long q0), .second, .val (.long q1), .second, .val (.long q2), .second, .val (.long q3), .second, .val (.long q4), .second, .val (.long q5), .second, .val (.long (q0 ^^^ q3)), .second, .val (.long (q1 ^^^ q4)), .second, .val (.long (q2 ^^^ q5)), .second, .val (.ref b1), .val (.ref b3), .val (.ref b5), .val (.ref bx7), .val (.int (0 : Int32)), .val (.int (1 : Int32))] [])) _
        refine XS.aload X26.here hx rfl (hb hby at_124) rfl rfl ?_
        show Steps pg.tables ee below (T26.setTop (mkF mm 126 #[.val (.long q0), .second, .val (.long q1), .second, .val (.long q2), .second, .val (.long q3), .second, .val (.long q4), .second, .val (.long q5), .second, .val (.long (q0 ^^^ q3)), .second, .val (.long (q1 ^^^ q4)), .second, .val (.long (q2 ^^^ q5)), .second, .val (.ref b1), .val (.ref b3), .val (.ref b5), .val (.ref bx7), .val (.int (0 : Int32)), .val (.int (1 : Int32))] [(.ref b1)])) _
        refine XS.aload X26.here hx rfl (hb hby at_126) rfl rfl ?_
        show Steps pg.tables ee below (T26.setTop (mkF mm 128 #[.val (.long q0), .second, .val (.long q1), .second, .val (.long q2), .second, .val (.long q3), .second, .val (.long q4), .second, .val (.long q5), .second, .val (.long (q0 ^^^ q3)), .second, .val (.long (q1 ^^^ q4)), .second, .val (.long (q2 ^^^ q5)), .second, .val (.ref b1), .val (.ref b3), .val (.ref b5), .val (.ref bx7), .val (.int (0 : Int32)), .val (.int (1 : Int32))] [(.ref bx7), (.ref b1)])) _
        refine st27.trans ?_
        show Steps pg.tables ee below (T27.setTop (mkF mm 131 #[.val (.long q0), .second, .val (.long q1), .second, .val (.long q2), .second, .val (.long q3), .second, .val (.long q4), .second, .val (.long q5), .second, .val (.long (q0 ^^^ q3)), .second, .val (.long (q1 ^^^ q4)), .second, .val (.long (q2 ^^^ q5)), .second, .val (.ref b1), .val (.ref b3), .val (.ref b5), .val (.ref bx7), .val (.int (0 : Int32)), .val (.int (1 : Int32))] [(.int (0 : Int32))])) _
        refine XS.ifNo X27.here hx rfl (hb hby at_131) rfl ((if0 _ _).trans (teq (by decide : (0 : Int32) = (0 : Int32))).2) ?_
        show Steps pg.tables ee below (T27.setTop (mkF mm 134 #[.val (.long q0), .second, .val (.long q1), .second, .val (.long q2), .second, .val (.long q3), .second, .val (.long q4), .second, .val (.long q5), .second, .val (.long (q0 ^^^ q3)), .second, .val (.long (q1 ^^^ q4)), .second, .val (.long (q2 ^^^ q5)), .second, .val (.ref b1), .val (.ref b3), .val (.ref b5), .val (.ref bx7), .val (.int (0 : Int32)), .val (.int (1 : Int32))] [])) _
        refine XS.iconst X27.here hx rfl (hb hby at_134) ?_
        show Steps pg.tables ee below (T27.setTop (mkF mm 135 #[.val (.long q0), .second, .val (.long q1), .second, .val (.long q2), .second, .val (.long q3), .second, .val (.long q4), .second, .val (.long q5), .second, .val (.long (q0 ^^^ q3)), .second, .val (.long (q1 ^^^ q4)), .second, .val (.long (q2 ^^^ q5)), .second, .val (.ref b1), .val (.ref b3), .val (.ref b5), .val (.ref bx7), .val (.int (0 : Int32)), .val (.int (1 : Int32))] [(.int (1 : Int32))])) _
        refine XS.goto X27.here hx rfl (pc0 := 135) (pc' := 139) rfl (hb hby at_135) (by decide) (by decide) ?_
        show Steps pg.tables ee below (T27.setTop (mkF mm 139 #[.val (.long q0), .second, .val (.long q1), .second, .val (.long q2), .second, .val (.long q3), .second, .val (.long q4), .second, .val (.long q5), .second, .val (.long (q0 ^^^ q3)), .second, .val (.long (q1 ^^^ q4)), .second, .val (.long (q2 ^^^ q5)), .second, .val (.ref b1), .val (.ref b3), .val (.ref b5), .val (.ref bx7), .val (.int (0 : Int32)), .val (.int (1 : Int32))] [(.int (1 : Int32))])) _
        refine XS.istore X27.here hx rfl (hb hby at_139) rfl (l' := #[.val (.long q0), .second, .val (.long q1), .second, .val (.long q2), .second, .val (.long q3), .second, .val (.long q4), .second, .val (.long q5), .second, .val (.long (q0 ^^^ q3)), .second, .val (.long (q1 ^^^ q4)), .second, .val (.long (q2 ^^^ q5)), .second, .val (.ref b1), .val (.ref b3), .val (.ref b5), .val (.ref bx7), .val (.int (0 : Int32)), .val (.int (1 : Int32))]) rfl ?_
        show Steps pg.tables ee below (T27.setTop (mkF mm 141 #[.val (.long q0), .second, .val (.long q1), .second, .val (.long q2), .second, .val (.long q3), .second, .val (.long q4), .second, .val (.long q5), .second, .val (.long (q0 ^^^ q3)), .second, .val (.long (q1 ^^^ q4)), .second, .val (.long (q2 ^^^ q5)), .second, .val (.ref b1), .val (.ref b3), .val (.ref b5), .val (.ref bx7), .val (.int (0 : Int32)), .val (.int (1 : Int32))] [])) _
        refine XS.iload X27.here hx rfl (hb hby at_141) rfl ?_
        show Steps pg.tables ee below (T27.setTop (mkF mm 143 #[.val (.long q0), .second, .val (.long q1), .second, .val (.long q2), .second, .val (.long q3), .second, .val (.long q4), .second, .val (.long q5), .second, .val (.long (q0 ^^^ q3)), .second, .val (.long (q1 ^^^ q4)), .second, .val (.long (q2 ^^^ q5)), .second, .val (.ref b1), .val (.ref b3), .val (.ref b5), .val (.ref bx7), .val (.int (0 : Int32)), .val (.int (1 : Int32))] [(.int (1 : Int32))])) _
        refine XS.ifNo X27.here hx rfl (hb hby at_143) rfl ((if0 _ _).trans (feq (by decide : ¬ ((1 : Int32) = (0 : Int32)))).1) ?_
        show Steps pg.tables ee below (T27.setTop (mkF mm 146 #[.val (.long q0), .second, .val (.long q1), .second, .val (.long q2), .second, .val (.long q3), .second, .val (.long q4), .second, .val (.long q5), .second, .val (.long (q0 ^^^ q3)), .second, .val (.long (q1 ^^^ q4)), .second, .val (.long (q2 ^^^ q5)), .second, .val (.ref b1), .val (.ref b3), .val (.ref b5), .val (.ref bx7), .val (.int (0 : Int32)), .val (.int (1 : Int32))] [])) _
        refine XS.aload X27.here hx rfl (hb hby at_146) rfl rfl ?_
        show Steps pg.tables ee below (T27.setTop (mkF mm 148 #[.val (.long q0), .second, .val (.long q1), .second, .val (.long q2), .second, .val (.long q3), .second, .val (.long q4), .second, .val (.long q5), .second, .val (.long (q0 ^^^ q3)), .second, .val (.long (q1 ^^^ q4)), .second, .val (.long (q2 ^^^ q5)), .second, .val (.ref b1), .val (.ref b3), .val (.ref b5), .val (.ref bx7), .val (.int (0 : Int32)), .val (.int (1 : Int32))] [(.ref b1)])) _
        refine XS.aload X27.here hx rfl (hb hby at_148) rfl rfl ?_
        show Steps pg.tables ee below (T27.setTop (mkF mm 150 #[.val (.long q0), .second, .val (.long q1), .second, .val (.long q2), .second, .val (.long q3), .second, .val (.long q4), .second, .val (.long q5), .second, .val (.long (q0 ^^^ q3)), .second, .val (.long (q1 ^^^ q4)), .second, .val (.long (q2 ^^^ q5)), .second, .val (.ref b1), .val (.ref b3), .val (.ref b5), .val (.ref bx7), .val (.int (0 : Int32)), .val (.int (1 : Int32))] [(.ref b1), (.ref b1)])) _
        refine st28.trans ?_
        show Steps pg.tables ee below (T28.setTop (mkF mm 153 #[.val (.long q0), .second, .val (.long q1), .second, .val (.long q2), .second, .val (.long q3), .second, .val (.long q4), .second, .val (.long q5), .second, .val (.long (q0 ^^^ q3)), .second, .val (.long (q1 ^^^ q4)), .second, .val (.long (q2 ^^^ q5)), .second, .val (.ref b1), .val (.ref b3), .val (.ref b5), .val (.ref bx7), .val (.int (0 : Int32)), .val (.int (1 : Int32))] [(.int (1 : Int32))])) _
        refine XS.ifNo X28.here hx rfl (hb hby at_153) rfl ((if0 _ _).trans (feq (by decide : ¬ ((1 : Int32) = (0 : Int32)))).1) ?_
        show Steps pg.tables ee below (T28.setTop (mkF mm 156 #[.val (.long q0), .second, .val (.long q1), .second, .val (.long q2), .second, .val (.long q3), .second, .val (.long q4), .second, .val (.long q5), .second, .val (.long (q0 ^^^ q3)), .second, .val (.long (q1 ^^^ q4)), .second, .val (.long (q2 ^^^ q5)), .second, .val (.ref b1), .val (.ref b3), .val (.ref b5), .val (.ref bx7), .val (.int (0 : Int32)), .val (.int (1 : Int32))] [])) _
        refine XS.iconst X28.here hx rfl (hb hby at_156) ?_
        show Steps pg.tables ee below (T28.setTop (mkF mm 157 #[.val (.long q0), .second, .val (.long q1), .second, .val (.long q2), .second, .val (.long q3), .second, .val (.long q4), .second, .val (.long q5), .second, .val (.long (q0 ^^^ q3)), .second, .val (.long (q1 ^^^ q4)), .second, .val (.long (q2 ^^^ q5)), .second, .val (.ref b1), .val (.ref b3), .val (.ref b5), .val (.ref bx7), .val (.int (0 : Int32)), .val (.int (1 : Int32))] [(.int (1 : Int32))])) _
        refine XS.goto X28.here hx rfl (pc0 := 157) (pc' := 161) rfl (hb hby at_157) (by decide) (by decide) ?_
        show Steps pg.tables ee below (T28.setTop (mkF mm 161 #[.val (.long q0), .second, .val (.long q1), .second, .val (.long q2), .second, .val (.long q3), .second, .val (.long q4), .second, .val (.long q5), .second, .val (.long (q0 ^^^ q3)), .second, .val (.long (q1 ^^^ q4)), .second, .val (.long (q2 ^^^ q5)), .second, .val (.ref b1), .val (.ref b3), .val (.ref b5), .val (.ref bx7), .val (.int (0 : Int32)), .val (.int (1 : Int32))] [(.int (1 : Int32))])) _
        refine XS.istore X28.here hx rfl (hb hby at_161) rfl (l' := #[.val (.long q0), .second, .val (.long q1), .second, .val (.long q2), .second, .val (.long q3), .second, .val (.long q4), .second, .val (.long q5), .second, .val (.long (q0 ^^^ q3)), .second, .val (.long (q1 ^^^ q4)), .second, .val (.long (q2 ^^^ q5)), .second, .val (.ref b1), .val (.ref b3), .val (.ref b5), .val (.ref bx7), .val (.int (0 : Int32)), .val (.int (1 : Int32))]) rfl ?_
        show Steps pg.tables ee below (T28.setTop (mkF mm 163 #[.val (.long q0), .second, .val (.long q1), .second, .val (.long q2), .second, .val (.long q3), .second, .val (.long q4), .second, .val (.long q5), .second, .val (.long (q0 ^^^ q3)), .second, .val (.long (q1 ^^^ q4)), .second, .val (.long (q2 ^^^ q5)), .second, .val (.ref b1), .val (.ref b3), .val (.ref b5), .val (.ref bx7), .val (.int (0 : Int32)), .val (.int (1 : Int32))] [])) _
        refine XS.iload X28.here hx rfl (hb hby at_163) rfl ?_
        show Steps pg.tables ee below (T28.setTop (mkF mm 165 #[.val (.long q0), .second, .val (.long q1), .second, .val (.long q2), .second, .val (.long q3), .second, .val (.long q4), .second, .val (.long q5), .second, .val (.long (q0 ^^^ q3)), .second, .val (.long (q1 ^^^ q4)), .second, .val (.long (q2 ^^^ q5)), .second, .val (.ref b1), .val (.ref b3), .val (.ref b5), .val (.ref bx7), .val (.int (0 : Int32)), .val (.int (1 : Int32))] [(.int (1 : Int32))])) _
        refine XS.ifNo X28.here hx rfl (hb hby at_165) rfl ((if0 _ _).trans (feq (by decide : ¬ ((1 : Int32) = (0 : Int32)))).1) ?_
        show Steps pg.tables ee below (T28.setTop (mkF mm 168 #[.val (.long q0), .second, .val (.long q1), .second, .val (.long q2), .second, .val (.long q3), .second, .val (.long q4), .second, .val (.long q5), .second, .val (.long (q0 ^^^ q3)), .second, .val (.long (q1 ^^^ q4)), .second, .val (.long (q2 ^^^ q5)), .second, .val (.ref b1), .val (.ref b3), .val (.ref b5), .val (.ref bx7), .val (.int (0 : Int32)), .val (.int (1 : Int32))] [])) _
        refine XS.aload X28.here hx rfl (hb hby at_168) rfl rfl ?_
        show Steps pg.tables ee below (T28.setTop (mkF mm 170 #[.val (.long q0), .second, .val (.long q1), .second, .val (.long q2), .second, .val (.long q3), .second, .val (.long q4), .second, .val (.long q5), .second, .val (.long (q0 ^^^ q3)), .second, .val (.long (q1 ^^^ q4)), .second, .val (.long (q2 ^^^ q5)), .second, .val (.ref b1), .val (.ref b3), .val (.ref b5), .val (.ref bx7), .val (.int (0 : Int32)), .val (.int (1 : Int32))] [(.ref b1)])) _
        refine XS.aload X28.here hx rfl (hb hby at_170) rfl rfl ?_
        show Steps pg.tables ee below (T28.setTop (mkF mm 172 #[.val (.long q0), .second, .val (.long q1), .second, .val (.long q2), .second, .val (.long q3), .second, .val (.long q4), .second, .val (.long q5), .second, .val (.long (q0 ^^^ q3)), .second, .val (.long (q1 ^^^ q4)), .second, .val (.long (q2 ^^^ q5)), .second, .val (.ref b1), .val (.ref b3), .val (.ref b5), .val (.ref bx7), .val (.int (0 : Int32)), .val (.int (1 : Int32))] [(.ref b3), (.ref b1)])) _
        refine st29.trans ?_
        show Steps pg.tables ee below (T29.setTop (mkF mm 175 #[.val (.long q0), .second, .val (.long q1), .second, .val (.long q2), .second, .val (.long q3), .second, .val (.long q4), .second, .val (.long q5), .second, .val (.long (q0 ^^^ q3)), .second, .val (.long (q1 ^^^ q4)), .second, .val (.long (q2 ^^^ q5)), .second, .val (.ref b1), .val (.ref b3), .val (.ref b5), .val (.ref bx7), .val (.int (0 : Int32)), .val (.int (1 : Int32))] [(.int (1 : Int32))])) _
        refine XS.ifNo X29.here hx rfl (hb hby at_175) rfl ((if0 _ _).trans (feq (by decide : ¬ ((1 : Int32) = (0 : Int32)))).1) ?_
        show Steps pg.tables ee below (T29.setTop (mkF mm 178 #[.val (.long q0), .second, .val (.long q1), .second, .val (.long q2), .second, .val (.long q3), .second, .val (.long q4), .second, .val (.long q5), .second, .val (.long (q0 ^^^ q3)), .second, .val (.long (q1 ^^^ q4)), .second, .val (.long (q2 ^^^ q5)), .second, .val (.ref b1), .val (.ref b3), .val (.ref b5), .val (.ref bx7), .val (.int (0 : Int32)), .val (.int (1 : Int32))] [])) _
        refine XS.iconst X29.here hx rfl (hb hby at_178) ?_
        show Steps pg.tables ee below (T29.setTop (mkF mm 179 #[.val (.long q0), .second, .val (.long q1), .second, .val (.long q2), .second, .val (.long q3), .second, .val (.long q4), .second, .val (.long q5), .second, .val (.long (q0 ^^^ q3)), .second, .val (.long (q1 ^^^ q4)), .second, .val (.long (q2 ^^^ q5)), .second, .val (.ref b1), .val (.ref b3), .val (.ref b5), .val (.ref bx7), .val (.int (0 : Int32)), .val (.int (1 : Int32))] [(.int (1 : Int32))])) _
        refine XS.goto X29.here hx rfl (pc0 := 179) (pc' := 183) rfl (hb hby at_179) (by decide) (by decide) ?_
        show Steps pg.tables ee below (T29.setTop (mkF mm 183 #[.val (.long q0), .second, .val (.long q1), .second, .val (.long q2), .second, .val (.long q3), .second, .val (.long q4), .second, .val (.long q5), .second, .val (.long (q0 ^^^ q3)), .second, .val (.long (q1 ^^^ q4)), .second, .val (.long (q2 ^^^ q5)), .second, .val (.ref b1), .val (.ref b3), .val (.ref b5), .val (.ref bx7), .val (.int (0 : Int32)), .val (.int (1 : Int32))] [(.int (1 : Int32))])) _
        refine XS.istore X29.here hx rfl (hb hby at_183) rfl (l' := #[.val (.long q0), .second, .val (.long q1), .second, .val (.long q2), .second, .val (.long q3), .second, .val (.long q4), .second, .val (.long q5), .second, .val (.long (q0 ^^^ q3)), .second, .val (.long (q1 ^^^ q4)), .second, .val (.long (q2 ^^^ q5)), .second, .val (.ref b1), .val (.ref b3), .val (.ref b5), .val (.ref bx7), .val (.int (0 : Int32)), .val (.int (1 : Int32))]) rfl ?_
        show Steps pg.tables ee below (T29.setTop (mkF mm 185 #[.val (.long q0), .second, .val (.long q1), .second, .val (.long q2), .second, .val (.long q3), .second, .val (.long q4), .second, .val (.long q5), .second, .val (.long (q0 ^^^ q3)), .second, .val (.long (q1 ^^^ q4)), .second, .val (.long (q2 ^^^ q5)), .second, .val (.ref b1), .val (.ref b3), .val (.ref b5), .val (.ref bx7), .val (.int (0 : Int32)), .val (.int (1 : Int32))] [])) _
        refine XS.iload X29.here hx rfl (hb hby at_185) rfl ?_
        show Steps pg.tables ee below (T29.setTop (mkF mm 187 #[.val (.long q0), .second, .val (.long q1), .second, .val (.long q2), .second, .val (.long q3), .second, .val (.long q4), .second, .val (.long q5), .second, .val (.long (q0 ^^^ q3)), .second, .val (.long (q1 ^^^ q4)), .second, .val (.long (q2 ^^^ q5)), .second, .val (.ref b1), .val (.ref b3), .val (.ref b5), .val (.ref bx7), .val (.int (0 : Int32)), .val (.int (1 : Int32))] [(.int (1 : Int32))])) _
        refine XS.ifNo X29.here hx rfl (hb hby at_187) rfl ((if0 _ _).trans (feq (by decide : ¬ ((1 : Int32) = (0 : Int32)))).1) ?_
        show Steps pg.tables ee below (T29.setTop (mkF mm 190 #[.val (.long q0), .second, .val (.long q1), .second, .val (.long q2), .second, .val (.long q3), .second, .val (.long q4), .second, .val (.long q5), .second, .val (.long (q0 ^^^ q3)), .second, .val (.long (q1 ^^^ q4)), .second, .val (.long (q2 ^^^ q5)), .second, .val (.ref b1), .val (.ref b3), .val (.ref b5), .val (.ref bx7), .val (.int (0 : Int32)), .val (.int (1 : Int32))] [])) _
        refine XS.aload X29.here hx rfl (hb hby at_190) rfl rfl ?_
        show Steps pg.tables ee below (T29.setTop (mkF mm 192 #[.val (.long q0), .second, .val (.long q1), .second, .val (.long q2), .second, .val (.long q3), .second, .val (.long q4), .second, .val (.long q5), .second, .val (.long (q0 ^^^ q3)), .second, .val (.long (q1 ^^^ q4)), .second, .val (.long (q2 ^^^ q5)), .second, .val (.ref b1), .val (.ref b3), .val (.ref b5), .val (.ref bx7), .val (.int (0 : Int32)), .val (.int (1 : Int32))] [(.ref b1)])) _
        refine XS.aload X29.here hx rfl (hb hby at_192) rfl rfl ?_
        show Steps pg.tables ee below (T29.setTop (mkF mm 194 #[.val (.long q0), .second, .val (.long q1), .second, .val (.long q2), .second, .val (.long q3), .second, .val (.long q4), .second, .val (.long q5), .second, .val (.long (q0 ^^^ q3)), .second, .val (.long (q1 ^^^ q4)), .second, .val (.long (q2 ^^^ q5)), .second, .val (.ref b1), .val (.ref b3), .val (.ref b5), .val (.ref bx7), .val (.int (0 : Int32)), .val (.int (1 : Int32))] [(.ref b5), (.ref b1)])) _
        refine st30.trans ?_
        show Steps pg.tables ee below (T30.setTop (mkF mm 197 #[.val (.long q0), .second, .val (.long q1), .second, .val (.long q2), .second, .val (.long q3), .second, .val (.long q4), .second, .val (.long q5), .second, .val (.long (q0 ^^^ q3)), .second, .val (.long (q1 ^^^ q4)), .second, .val (.long (q2 ^^^ q5)), .second, .val (.ref b1), .val (.ref b3), .val (.ref b5), .val (.ref bx7), .val (.int (0 : Int32)), .val (.int (1 : Int32))] [(.int (0 : Int32))])) _
        refine XS.iload X30.here hx rfl (hb hby at_197) rfl ?_
        show Steps pg.tables ee below (T30.setTop (mkF mm 199 #[.val (.long q0), .second, .val (.long q1), .second, .val (.long q2), .second, .val (.long q3), .second, .val (.long q4), .second, .val (.long q5), .second, .val (.long (q0 ^^^ q3)), .second, .val (.long (q1 ^^^ q4)), .second, .val (.long (q2 ^^^ q5)), .second, .val (.ref b1), .val (.ref b3), .val (.ref b5), .val (.ref bx7), .val (.int (0 : Int32)), .val (.int (1 : Int32))] [(.int (0 : Int32)), (.int (0 : Int32))])) _
        refine XS.icmpNo X30.here hx rfl (hb hby at_199) rfl (teq (by decide : (0 : Int32) = (0 : Int32))).2 ?_
        show Steps pg.tables ee below (T30.setTop (mkF mm 202 #[.val (.long q0), .second, .val (.long q1), .second, .val (.long q2), .second, .val (.long q3), .second, .val (.long q4), .second, .val (.long q5), .second, .val (.long (q0 ^^^ q3)), .second, .val (.long (q1 ^^^ q4)), .second, .val (.long (q2 ^^^ q5)), .second, .val (.ref b1), .val (.ref b3), .val (.ref b5), .val (.ref bx7), .val (.int (0 : Int32)), .val (.int (1 : Int32))] [])) _
        refine XS.iconst X30.here hx rfl (hb hby at_202) ?_
        show Steps pg.tables ee below (T30.setTop (mkF mm 203 #[.val (.long q0), .second, .val (.long q1), .second, .val (.long q2), .second, .val (.long q3), .second, .val (.long q4), .second, .val (.long q5), .second, .val (.long (q0 ^^^ q3)), .second, .val (.long (q1 ^^^ q4)), .second, .val (.long (q2 ^^^ q5)), .second, .val (.ref b1), .val (.ref b3), .val (.ref b5), .val (.ref bx7), .val (.int (0 : Int32)), .val (.int (1 : Int32))] [(.int (1 : Int32))])) _
        refine XS.goto X30.here hx rfl (pc0 := 203) (pc' := 207) rfl (hb hby at_203) (by decide) (by decide) ?_
        show Steps pg.tables ee below (T30.setTop (mkF mm 207 #[.val (.long q0), .second, .val (.long q1), .second, .val (.long q2), .second, .val (.long q3), .second, .val (.long q4), .second, .val (.long q5), .second, .val (.long (q0 ^^^ q3)), .second, .val (.long (q1 ^^^ q4)), .second, .val (.long (q2 ^^^ q5)), .second, .val (.ref b1), .val (.ref b3), .val (.ref b5), .val (.ref bx7), .val (.int (0 : Int32)), .val (.int (1 : Int32))] [(.int (1 : Int32))])) _
        refine XS.istore X30.here hx rfl (hb hby at_207) rfl (l' := #[.val (.long q0), .second, .val (.long q1), .second, .val (.long q2), .second, .val (.long q3), .second, .val (.long q4), .second, .val (.long q5), .second, .val (.long (q0 ^^^ q3)), .second, .val (.long (q1 ^^^ q4)), .second, .val (.long (q2 ^^^ q5)), .second, .val (.ref b1), .val (.ref b3), .val (.ref b5), .val (.ref bx7), .val (.int (0 : Int32)), .val (.int (1 : Int32))]) rfl ?_
        show Steps pg.tables ee below (T30.setTop (mkF mm 209 #[.val (.long q0), .second, .val (.long q1), .second, .val (.long q2), .second, .val (.long q3), .second, .val (.long q4), .second, .val (.long q5), .second, .val (.long (q0 ^^^ q3)), .second, .val (.long (q1 ^^^ q4)), .second, .val (.long (q2 ^^^ q5)), .second, .val (.ref b1), .val (.ref b3), .val (.ref b5), .val (.ref bx7), .val (.int (0 : Int32)), .val (.int (1 : Int32))] [])) _
        refine XS.iload X30.here hx rfl (hb hby at_209) rfl ?_
        show Steps pg.tables ee below (T30.setTop (mkF mm 211 #[.val (.long q0), .second, .val (.long q1), .second, .val (.long q2), .second, .val (.long q3), .second, .val (.long q4), .second, .val (.long q5), .second, .val (.long (q0 ^^^ q3)), .second, .val (.long (q1 ^^^ q4)), .second, .val (.long (q2 ^^^ q5)), .second, .val (.ref b1), .val (.ref b3), .val (.ref b5), .val (.ref bx7), .val (.int (0 : Int32)), .val (.int (1 : Int32))] [(.int (1 : Int32))])) _
        refine XS.ifNo X30.here hx rfl (hb hby at_211) rfl ((if0 _ _).trans (feq (by decide : ¬ ((1 : Int32) = (0 : Int32)))).1) ?_
        show Steps pg.tables ee below (T30.setTop (mkF mm 214 #[.val (.long q0), .second, .val (.long q1), .second, .val (.long q2), .second, .val (.long q3), .second, .val (.long q4), .second, .val (.long q5), .second, .val (.long (q0 ^^^ q3)), .second, .val (.long (q1 ^^^ q4)), .second, .val (.long (q2 ^^^ q5)), .second, .val (.ref b1), .val (.ref b3), .val (.ref b5), .val (.ref bx7), .val (.int (0 : Int32)), .val (.int (1 : Int32))] [])) _
        refine XS.aload X30.here hx rfl (hb hby at_214) rfl rfl ?_
        show Steps pg.tables ee below (T30.setTop (mkF mm 216 #[.val (.long q0), .second, .val (.long q1), .second, .val (.long q2), .second, .val (.long q3), .second, .val (.long q4), .second, .val (.long q5), .second, .val (.long (q0 ^^^ q3)), .second, .val (.long (q1 ^^^ q4)), .second, .val (.long (q2 ^^^ q5)), .second, .val (.ref b1), .val (.ref b3), .val (.ref b5), .val (.ref bx7), .val (.int (0 : Int32)), .val (.int (1 : Int32))] [(.ref b5)])) _
        refine XS.aload X30.here hx rfl (hb hby at_216) rfl rfl ?_
        show Steps pg.tables ee below (T30.setTop (mkF mm 218 #[.val (.long q0), .second, .val (.long q1), .second, .val (.long q2), .second, .val (.long q3), .second, .val (.long q4), .second, .val (.long q5), .second, .val (.long (q0 ^^^ q3)), .second, .val (.long (q1 ^^^ q4)), .second, .val (.long (q2 ^^^ q5)), .second, .val (.ref b1), .val (.ref b3), .val (.ref b5), .val (.ref bx7), .val (.int (0 : Int32)), .val (.int (1 : Int32))] [(.ref b1), (.ref b5)])) _
        refine st31.trans ?_
        show Steps pg.tables ee below (T31.setTop (mkF mm 221 #[.val (.long q0), .second, .val (.long q1), .second, .val (.long q2), .second, .val (.long q3), .second, .val (.long q4), .second, .val (.long q5), .second, .val (.long (q0 ^^^ q3)), .second, .val (.long (q1 ^^^ q4)), .second, .val (.long (q2 ^^^ q5)), .second, .val (.ref b1), .val (.ref b3), .val (.ref b5), .val (.ref bx7), .val (.int (0 : Int32)), .val (.int (1 : Int32))] [(.int (0 : Int32))])) _
        refine XS.iload X31.here hx rfl (hb hby at_221) rfl ?_
        show Steps pg.tables ee below (T31.setTop (mkF mm 223 #[.val (.long q0), .second, .val (.long q1), .second, .val (.long q2), .second, .val (.long q3), .second, .val (.long q4), .second, .val (.long q5), .second, .val (.long (q0 ^^^ q3)), .second, .val (.long (q1 ^^^ q4)), .second, .val (.long (q2 ^^^ q5)), .second, .val (.ref b1), .val (.ref b3), .val (.ref b5), .val (.ref bx7), .val (.int (0 : Int32)), .val (.int (1 : Int32))] [(.int (0 : Int32)), (.int (0 : Int32))])) _
        refine XS.icmpNo X31.here hx rfl (hb hby at_223) rfl (teq (by decide : (0 : Int32) = (0 : Int32))).2 ?_
        show Steps pg.tables ee below (T31.setTop (mkF mm 226 #[.val (.long q0), .second, .val (.long q1), .second, .val (.long q2), .second, .val (.long q3), .second, .val (.long q4), .second, .val (.long q5), .second, .val (.long (q0 ^^^ q3)), .second, .val (.long (q1 ^^^ q4)), .second, .val (.long (q2 ^^^ q5)), .second, .val (.ref b1), .val (.ref b3), .val (.ref b5), .val (.ref bx7), .val (.int (0 : Int32)), .val (.int (1 : Int32))] [])) _
        refine XS.iconst X31.here hx rfl (hb hby at_226) ?_
        show Steps pg.tables ee below (T31.setTop (mkF mm 227 #[.val (.long q0), .second, .val (.long q1), .second, .val (.long q2), .second, .val (.long q3), .second, .val (.long q4), .second, .val (.long q5), .second, .val (.long (q0 ^^^ q3)), .second, .val (.long (q1 ^^^ q4)), .second, .val (.long (q2 ^^^ q5)), .second, .val (.ref b1), .val (.ref b3), .val (.ref b5), .val (.ref bx7), .val (.int (0 : Int32)), .val (.int (1 : Int32))] [(.int (1 : Int32))])) _
        refine XS.goto X31.here hx rfl (pc0 := 227) (pc' := 231) rfl (hb hby at_227) (by decide) (by decide) ?_
        show Steps pg.tables ee below (T31.setTop (mkF mm 231 #[.val (.long q0), .second, .val (.long q1), .second, .val (.long q2), .second, .val (.long q3), .second, .val (.long q4), .second, .val (.long q5), .second, .val (.long (q0 ^^^ q3)), .second, .val (.long (q1 ^^^ q4)), .second, .val (.long (q2 ^^^ q5)), .second, .val (.ref b1), .val (.ref b3), .val (.ref b5), .val (.ref bx7), .val (.int (0 : Int32)), .val (.int (1 : Int32))] [(.int (1 : Int32))])) _
        refine XS.istore X31.here hx rfl (hb hby at_231) rfl (l' := #[.val (.long q0), .second, .val (.long q1), .second, .val (.long q2), .second, .val (.long q3), .second, .val (.long q4), .second, .val (.long q5), .second, .val (.long (q0 ^^^ q3)), .second, .val (.long (q1 ^^^ q4)), .second, .val (.long (q2 ^^^ q5)), .second, .val (.ref b1), .val (.ref b3), .val (.ref b5), .val (.ref bx7), .val (.int (0 : Int32)), .val (.int (1 : Int32))]) rfl ?_
        show Steps pg.tables ee below (T31.setTop (mkF mm 233 #[.val (.long q0), .second, .val (.long q1), .second, .val (.long q2), .second, .val (.long q3), .second, .val (.long q4), .second, .val (.long q5), .second, .val (.long (q0 ^^^ q3)), .second, .val (.long (q1 ^^^ q4)), .second, .val (.long (q2 ^^^ q5)), .second, .val (.ref b1), .val (.ref b3), .val (.ref b5), .val (.ref bx7), .val (.int (0 : Int32)), .val (.int (1 : Int32))] [])) _
        refine XS.iload X31.here hx rfl (hb hby at_233) rfl ?_
        show Steps pg.tables ee below (T31.setTop (mkF mm 235 #[.val (.long q0), .second, .val (.long q1), .second, .val (.long q2), .second, .val (.long q3), .second, .val (.long q4), .second, .val (.long q5), .second, .val (.long (q0 ^^^ q3)), .second, .val (.long (q1 ^^^ q4)), .second, .val (.long (q2 ^^^ q5)), .second, .val (.ref b1), .val (.ref b3), .val (.ref b5), .val (.ref bx7), .val (.int (0 : Int32)), .val (.int (1 : Int32))] [(.int (1 : Int32))])) _
        exact retN X31 hx (t := .boolean) Bd.returns (by simp) (hb hby at_235) hr
      · show Qrm0 Z q0 q1 q2 q3 q4 q5 ca cl val h0 n0 _ T31.heap _
        rw [e31]
        exact ⟨rfl, N31⟩
  · obtain ⟨cq32, kq32, q32a, q32b, q32c⟩ := isOf hZ rfl (((((Ex2.ext E3).keep K4).ext E5).keep K6).keep K7)
    obtain ⟨_, _, ⟨T32, L32, k32, n32⟩, -, X32, ⟨Lc32, hQ32, l32, y32, z32⟩, st32⟩ := X7.virtualBack hx (y := (⟨"com/example/stops_to_routes/stopstoroutes/planner/Break", "equals", "(Ljava/lang/Object;)Z"⟩ : MethodName)) (z := (⟨"com/example/stops_to_routes/stopstoroutes/planner/Break", "equals", "(Ljava/lang/Object;)Z"⟩ : MethodName)) hown (mvT hZ (hw _ (List.mem_of_getElem? (i := 23) rfl))) (mvT hZ (hw _ (List.mem_of_getElem? (i := 24) rfl))) (notFace_of_selects (args := #[]) (mvT hZ (hw _ (List.mem_of_getElem? (i := 26) rfl)))) (mvT hZ (hw _ (List.mem_of_getElem? (i := 26) rfl))) (mvT hZ (hw _ (List.mem_of_getElem? (i := 25) rfl))) (by decide) (backOf (W := 0) (rmQN l Z a0 hw [] b1 T7.heap n0 O7) hZ (hw _ (List.mem_of_getElem? (i := 27) rfl)) (hw _ (List.mem_of_getElem? (i := 2) rfl)) (by decide) (by decide)) q32a q32c (g := (mkF mm 106 #[.val (.long q0), .second, .val (.long q1), .second, .val (.long q2), .second, .val (.long q3), .second, .val (.long q4), .second, .val (.long q5), .second, .val (.long (q0 ^^^ q3)), .second, .val (.long (q1 ^^^ q4)), .second, .val (.long (q2 ^^^ q5)), .second, .val (.ref b1), .val (.ref b3), .val (.ref b5), .val (.ref bx7), .val (.int (0 : Int32)), .val (.int (1 : Int32))] [.null, (.ref b1)])) rfl (by rw [hml]; rfl) (Steps.refl _) (argsL := [.null]) (rest := []) (lenOf pd_86 rfl) rfl (by show 2 * 0 + _ ≤ _; exact Nat.le_of_eq rfl) (hb hby at_106) (fun _ _ => ⟨rfl, rfl, (by decide : 4 + 0 ≤ _), (by decide : 10 + 0 ≤ _)⟩)
    dsimp only [Pt.U, Pt.locs, Pt.cells, Pt.slots] at X32 l32 y32 z32 st32 hQ32
    subst l32 y32 z32
    obtain ⟨rfl, N32q, e32⟩ := hQ32
    have N32 := Fr.app N7 N32q
    obtain ⟨cq33, kq33, q33a, q33b, q33c⟩ := isOf hZ e32 (((((Ex2.ext E3).keep K4).ext E5).keep K6).keep K7)
    obtain ⟨_, _, ⟨T33, L33, k33, n33⟩, -, X33, ⟨Lc33, hQ33, l33, y33, z33⟩, st33⟩ := X32.virtualBack hx (y := (⟨"com/example/stops_to_routes/stopstoroutes/planner/Break", "equals", "(Ljava/lang/Object;)Z"⟩ : MethodName)) (z := (⟨"com/example/stops_to_routes/stopstoroutes/planner/Break", "equals", "(Ljava/lang/Object;)Z"⟩ : MethodName)) hown (mvT hZ (hw _ (List.mem_of_getElem? (i := 23) rfl))) (mvT hZ (hw _ (List.mem_of_getElem? (i := 24) rfl))) (notFace_of_selects (args := #[]) (mvT hZ (hw _ (List.mem_of_getElem? (i := 26) rfl)))) (mvT hZ (hw _ (List.mem_of_getElem? (i := 26) rfl))) (mvT hZ (hw _ (List.mem_of_getElem? (i := 25) rfl))) (by decide) (backOf (W := 0) (rmQO l Z a0 hw [] b1 bx7 T7.heap n0 O7 Ex7) hZ (hw _ (List.mem_of_getElem? (i := 27) rfl)) (hw _ (List.mem_of_getElem? (i := 2) rfl)) (by decide) (by decide)) q33a q33c (g := (mkF mm 128 #[.val (.long q0), .second, .val (.long q1), .second, .val (.long q2), .second, .val (.long q3), .second, .val (.long q4), .second, .val (.long q5), .second, .val (.long (q0 ^^^ q3)), .second, .val (.long (q1 ^^^ q4)), .second, .val (.long (q2 ^^^ q5)), .second, .val (.ref b1), .val (.ref b3), .val (.ref b5), .val (.ref bx7), .val (.int (0 : Int32)), .val (.int (1 : Int32))] [(.ref bx7), (.ref b1)])) rfl (by rw [hml]; rfl) (Steps.refl _) (argsL := [(.ref bx7)]) (rest := []) (lenOf pd_86 rfl) rfl (by show 2 * 0 + _ ≤ _; exact Nat.le_of_eq rfl) (hb hby at_128) (fun _ _ => ⟨rfl, e32, (by decide : 4 + 0 ≤ _), (by decide : 10 + 0 ≤ _)⟩)
    dsimp only [Pt.U, Pt.locs, Pt.cells, Pt.slots] at X33 l33 y33 z33 st33 hQ33
    subst l33 y33 z33
    obtain ⟨rfl, N33q, e33⟩ := hQ33
    have N33 := Fr.app N32 N33q
    obtain ⟨cq34, kq34, q34a, q34b, q34c⟩ := isOf hZ e33 (((((Ex2.ext E3).keep K4).ext E5).keep K6).keep K7)
    obtain ⟨_, _, ⟨T34, L34, k34, n34⟩, -, X34, ⟨Lc34, hQ34, l34, y34, z34⟩, st34⟩ := X33.virtualBack hx (y := (⟨"com/example/stops_to_routes/stopstoroutes/planner/Break", "equals", "(Ljava/lang/Object;)Z"⟩ : MethodName)) (z := (⟨"com/example/stops_to_routes/stopstoroutes/planner/Break", "equals", "(Ljava/lang/Object;)Z"⟩ : MethodName)) hown (mvT hZ (hw _ (List.mem_of_getElem? (i := 23) rfl))) (mvT hZ (hw _ (List.mem_of_getElem? (i := 24) rfl))) (notFace_of_selects (args := #[]) (mvT hZ (hw _ (List.mem_of_getElem? (i := 26) rfl)))) (mvT hZ (hw _ (List.mem_of_getElem? (i := 26) rfl))) (mvT hZ (hw _ (List.mem_of_getElem? (i := 25) rfl))) (by decide) (backOf (W := 0) (rmQS l Z a0 hw [] b1 q0 q1 q2 T7.heap n0 O7 (((((Fv0_2.ext E3).keep K4 (ninS (Nat.ne_of_lt (Nat.lt_of_lt_of_le Ex2.lt (Nat.le_of_eq g3.symm))) nin0)).ext E5).keep K6 (ninS (Nat.ne_of_lt (Nat.lt_of_lt_of_le ((Ex2.ext E3).keep K4).lt (Nat.le_of_eq g5.symm))) nin0)).keep K7 nin0) (((((Fv1_2.ext E3).keep K4 (ninS (Nat.ne_of_lt (Nat.lt_of_lt_of_le Ex2.lt (Nat.le_of_eq g3.symm))) nin0)).ext E5).keep K6 (ninS (Nat.ne_of_lt (Nat.lt_of_lt_of_le ((Ex2.ext E3).keep K4).lt (Nat.le_of_eq g5.symm))) nin0)).keep K7 nin0) (((((Fv2_2.ext E3).keep K4 (ninS (Nat.ne_of_lt (Nat.lt_of_lt_of_le Ex2.lt (Nat.le_of_eq g3.symm))) nin0)).ext E5).keep K6 (ninS (Nat.ne_of_lt (Nat.lt_of_lt_of_le ((Ex2.ext E3).keep K4).lt (Nat.le_of_eq g5.symm))) nin0)).keep K7 nin0) (((((Ex2.ext E3).keep K4).ext E5).keep K6).keep K7)) hZ (hw _ (List.mem_of_getElem? (i := 27) rfl)) (hw _ (List.mem_of_getElem? (i := 2) rfl)) (by decide) (by decide)) q34a q34c (g := (mkF mm 150 #[.val (.long q0), .second, .val (.long q1), .second, .val (.long q2), .second, .val (.long q3), .second, .val (.long q4), .second, .val (.long q5), .second, .val (.long (q0 ^^^ q3)), .second, .val (.long (q1 ^^^ q4)), .second, .val (.long (q2 ^^^ q5)), .second, .val (.ref b1), .val (.ref b3), .val (.ref b5), .val (.ref bx7), .val (.int (0 : Int32)), .val (.int (1 : Int32))] [(.ref b1), (.ref b1)])) rfl (by rw [hml]; rfl) (Steps.refl _) (argsL := [(.ref b1)]) (rest := []) (lenOf pd_86 rfl) rfl (by show 2 * 0 + _ ≤ _; exact Nat.le_of_eq rfl) (hb hby at_150) (fun _ _ => ⟨rfl, e33, (by decide : 4 + 0 ≤ _), (by decide : 10 + 0 ≤ _)⟩)
    dsimp only [Pt.U, Pt.locs, Pt.cells, Pt.slots] at X34 l34 y34 z34 st34 hQ34
    subst l34 y34 z34
    obtain ⟨rfl, N34q, e34⟩ := hQ34
    have N34 := Fr.app N33 N34q
    obtain ⟨cq35, kq35, q35a, q35b, q35c⟩ := isOf hZ e34 (((((Ex2.ext E3).keep K4).ext E5).keep K6).keep K7)
    obtain ⟨_, _, ⟨T35, L35, k35, n35⟩, -, X35, ⟨Lc35, hQ35, l35, y35, z35⟩, st35⟩ := X34.virtualBack hx (y := (⟨"com/example/stops_to_routes/stopstoroutes/planner/Break", "equals", "(Ljava/lang/Object;)Z"⟩ : MethodName)) (z := (⟨"com/example/stops_to_routes/stopstoroutes/planner/Break", "equals", "(Ljava/lang/Object;)Z"⟩ : MethodName)) hown (mvT hZ (hw _ (List.mem_of_getElem? (i := 23) rfl))) (mvT hZ (hw _ (List.mem_of_getElem? (i := 24) rfl))) (notFace_of_selects (args := #[]) (mvT hZ (hw _ (List.mem_of_getElem? (i := 26) rfl)))) (mvT hZ (hw _ (List.mem_of_getElem? (i := 26) rfl))) (mvT hZ (hw _ (List.mem_of_getElem? (i := 25) rfl))) (by decide) (backOf (W := 0) (rmQ3 l Z a0 hw [] b1 b3 q0 q1 q2 q0 q1 q2 T7.heap n0 O7 (((((Fv0_2.ext E3).keep K4 (ninS (Nat.ne_of_lt (Nat.lt_of_lt_of_le Ex2.lt (Nat.le_of_eq g3.symm))) nin0)).ext E5).keep K6 (ninS (Nat.ne_of_lt (Nat.lt_of_lt_of_le ((Ex2.ext E3).keep K4).lt (Nat.le_of_eq g5.symm))) nin0)).keep K7 nin0) (((((Fv1_2.ext E3).keep K4 (ninS (Nat.ne_of_lt (Nat.lt_of_lt_of_le Ex2.lt (Nat.le_of_eq g3.symm))) nin0)).ext E5).keep K6 (ninS (Nat.ne_of_lt (Nat.lt_of_lt_of_le ((Ex2.ext E3).keep K4).lt (Nat.le_of_eq g5.symm))) nin0)).keep K7 nin0) (((((Fv2_2.ext E3).keep K4 (ninS (Nat.ne_of_lt (Nat.lt_of_lt_of_le Ex2.lt (Nat.le_of_eq g3.symm))) nin0)).ext E5).keep K6 (ninS (Nat.ne_of_lt (Nat.lt_of_lt_of_le ((Ex2.ext E3).keep K4).lt (Nat.le_of_eq g5.symm))) nin0)).keep K7 nin0) (((Fv0_4.ext E5).keep K6 (ninS (Nat.ne_of_lt (Nat.lt_of_lt_of_le Ex4.lt (Nat.le_of_eq g5.symm))) nin0)).keep K7 nin0) (((Fv1_4.ext E5).keep K6 (ninS (Nat.ne_of_lt (Nat.lt_of_lt_of_le Ex4.lt (Nat.le_of_eq g5.symm))) nin0)).keep K7 nin0) (((Fv2_4.ext E5).keep K6 (ninS (Nat.ne_of_lt (Nat.lt_of_lt_of_le Ex4.lt (Nat.le_of_eq g5.symm))) nin0)).keep K7 nin0) (((Ex4.ext E5).keep K6).keep K7) ((lw_eq _ _).mpr rfl) ((lw_eq _ _).mpr rfl) ((lw_eq _ _).mpr rfl)) hZ (hw _ (List.mem_of_getElem? (i := 27) rfl)) (hw _ (List.mem_of_getElem? (i := 2) rfl)) (by decide) (by decide)) q35a q35c (g := (mkF mm 172 #[.val (.long q0), .second, .val (.long q1), .second, .val (.long q2), .second, .val (.long q3), .second, .val (.long q4), .second, .val (.long q5), .second, .val (.long (q0 ^^^ q3)), .second, .val (.long (q1 ^^^ q4)), .second, .val (.long (q2 ^^^ q5)), .second, .val (.ref b1), .val (.ref b3), .val (.ref b5), .val (.ref bx7), .val (.int (0 : Int32)), .val (.int (1 : Int32))] [(.ref b3), (.ref b1)])) rfl (by rw [hml]; rfl) (Steps.refl _) (argsL := [(.ref b3)]) (rest := []) (lenOf pd_86 rfl) rfl (by show 2 * 0 + _ ≤ _; exact Nat.le_of_eq rfl) (hb hby at_172) (fun _ _ => ⟨rfl, e34, (by decide : 4 + 0 ≤ _), (by decide : 10 + 0 ≤ _)⟩)
    dsimp only [Pt.U, Pt.locs, Pt.cells, Pt.slots] at X35 l35 y35 z35 st35 hQ35
    subst l35 y35 z35
    obtain ⟨rfl, N35q, e35⟩ := hQ35
    have N35 := Fr.app N34 N35q
    obtain ⟨cq36, kq36, q36a, q36b, q36c⟩ := isOf hZ e35 (((((Ex2.ext E3).keep K4).ext E5).keep K6).keep K7)
    obtain ⟨_, _, ⟨T36, L36, k36, n36⟩, -, X36, ⟨Lc36, hQ36, l36, y36, z36⟩, st36⟩ := X35.virtualBack hx (y := (⟨"com/example/stops_to_routes/stopstoroutes/planner/Break", "equals", "(Ljava/lang/Object;)Z"⟩ : MethodName)) (z := (⟨"com/example/stops_to_routes/stopstoroutes/planner/Break", "equals", "(Ljava/lang/Object;)Z"⟩ : MethodName)) hown (mvT hZ (hw _ (List.mem_of_getElem? (i := 23) rfl))) (mvT hZ (hw _ (List.mem_of_getElem? (i := 24) rfl))) (notFace_of_selects (args := #[]) (mvT hZ (hw _ (List.mem_of_getElem? (i := 26) rfl)))) (mvT hZ (hw _ (List.mem_of_getElem? (i := 26) rfl))) (mvT hZ (hw _ (List.mem_of_getElem? (i := 25) rfl))) (by decide) (backOf (W := 0) (rmQ0 l Z a0 hw [] b1 b5 q0 q1 q2 (q0 ^^^ q3) (q1 ^^^ q4) (q2 ^^^ q5) T7.heap n0 O7 (((((Fv0_2.ext E3).keep K4 (ninS (Nat.ne_of_lt (Nat.lt_of_lt_of_le Ex2.lt (Nat.le_of_eq g3.symm))) nin0)).ext E5).keep K6 (ninS (Nat.ne_of_lt (Nat.lt_of_lt_of_le ((Ex2.ext E3).keep K4).lt (Nat.le_of_eq g5.symm))) nin0)).keep K7 nin0) (((((Fv1_2.ext E3).keep K4 (ninS (Nat.ne_of_lt (Nat.lt_of_lt_of_le Ex2.lt (Nat.le_of_eq g3.symm))) nin0)).ext E5).keep K6 (ninS (Nat.ne_of_lt (Nat.lt_of_lt_of_le ((Ex2.ext E3).keep K4).lt (Nat.le_of_eq g5.symm))) nin0)).keep K7 nin0) (((((Fv2_2.ext E3).keep K4 (ninS (Nat.ne_of_lt (Nat.lt_of_lt_of_le Ex2.lt (Nat.le_of_eq g3.symm))) nin0)).ext E5).keep K6 (ninS (Nat.ne_of_lt (Nat.lt_of_lt_of_le ((Ex2.ext E3).keep K4).lt (Nat.le_of_eq g5.symm))) nin0)).keep K7 nin0) (Fv0_6.keep K7 nin0) (Fv1_6.keep K7 nin0) (Fv2_6.keep K7 nin0) (Ex6.keep K7) hc9) hZ (hw _ (List.mem_of_getElem? (i := 27) rfl)) (hw _ (List.mem_of_getElem? (i := 2) rfl)) (by decide) (by decide)) q36a q36c (g := (mkF mm 194 #[.val (.long q0), .second, .val (.long q1), .second, .val (.long q2), .second, .val (.long q3), .second, .val (.long q4), .second, .val (.long q5), .second, .val (.long (q0 ^^^ q3)), .second, .val (.long (q1 ^^^ q4)), .second, .val (.long (q2 ^^^ q5)), .second, .val (.ref b1), .val (.ref b3), .val (.ref b5), .val (.ref bx7), .val (.int (0 : Int32)), .val (.int (1 : Int32))] [(.ref b5), (.ref b1)])) rfl (by rw [hml]; rfl) (Steps.refl _) (argsL := [(.ref b5)]) (rest := []) (lenOf pd_86 rfl) rfl (by show 2 * 0 + _ ≤ _; exact Nat.le_of_eq rfl) (hb hby at_194) (fun _ _ => ⟨rfl, e35, (by decide : 4 + 0 ≤ _), (by decide : 10 + 0 ≤ _)⟩)
    dsimp only [Pt.U, Pt.locs, Pt.cells, Pt.slots] at X36 l36 y36 z36 st36 hQ36
    subst l36 y36 z36
    obtain ⟨rfl, N36q, e36⟩ := hQ36
    have N36 := Fr.app N35 N36q
    obtain ⟨cq37, kq37, q37a, q37b, q37c⟩ := isOf hZ e36 (Ex6.keep K7)
    obtain ⟨_, _, ⟨T37, L37, k37, n37⟩, -, X37, ⟨Lc37, hQ37, l37, y37, z37⟩, st37⟩ := X36.virtualBack hx (y := (⟨"com/example/stops_to_routes/stopstoroutes/planner/Break", "equals", "(Ljava/lang/Object;)Z"⟩ : MethodName)) (z := (⟨"com/example/stops_to_routes/stopstoroutes/planner/Break", "equals", "(Ljava/lang/Object;)Z"⟩ : MethodName)) hown (mvT hZ (hw _ (List.mem_of_getElem? (i := 23) rfl))) (mvT hZ (hw _ (List.mem_of_getElem? (i := 24) rfl))) (notFace_of_selects (args := #[]) (mvT hZ (hw _ (List.mem_of_getElem? (i := 26) rfl)))) (mvT hZ (hw _ (List.mem_of_getElem? (i := 26) rfl))) (mvT hZ (hw _ (List.mem_of_getElem? (i := 25) rfl))) (by decide) (backOf (W := 0) (rmQ0 l Z a0 hw [] b5 b1 (q0 ^^^ q3) (q1 ^^^ q4) (q2 ^^^ q5) q0 q1 q2 T7.heap n0 O7 (Fv0_6.keep K7 nin0) (Fv1_6.keep K7 nin0) (Fv2_6.keep K7 nin0) (((((Fv0_2.ext E3).keep K4 (ninS (Nat.ne_of_lt (Nat.lt_of_lt_of_le Ex2.lt (Nat.le_of_eq g3.symm))) nin0)).ext E5).keep K6 (ninS (Nat.ne_of_lt (Nat.lt_of_lt_of_le ((Ex2.ext E3).keep K4).lt (Nat.le_of_eq g5.symm))) nin0)).keep K7 nin0) (((((Fv1_2.ext E3).keep K4 (ninS (Nat.ne_of_lt (Nat.lt_of_lt_of_le Ex2.lt (Nat.le_of_eq g3.symm))) nin0)).ext E5).keep K6 (ninS (Nat.ne_of_lt (Nat.lt_of_lt_of_le ((Ex2.ext E3).keep K4).lt (Nat.le_of_eq g5.symm))) nin0)).keep K7 nin0) (((((Fv2_2.ext E3).keep K4 (ninS (Nat.ne_of_lt (Nat.lt_of_lt_of_le Ex2.lt (Nat.le_of_eq g3.symm))) nin0)).ext E5).keep K6 (ninS (Nat.ne_of_lt (Nat.lt_of_lt_of_le ((Ex2.ext E3).keep K4).lt (Nat.le_of_eq g5.symm))) nin0)).keep K7 nin0) (((((Ex2.ext E3).keep K4).ext E5).keep K6).keep K7) (fun q => hc9 ((lw_eq _ _).mpr ((lw_eq _ _).mp q).symm))) hZ (hw _ (List.mem_of_getElem? (i := 27) rfl)) (hw _ (List.mem_of_getElem? (i := 2) rfl)) (by decide) (by decide)) q37a q37c (g := (mkF mm 218 #[.val (.long q0), .second, .val (.long q1), .second, .val (.long q2), .second, .val (.long q3), .second, .val (.long q4), .second, .val (.long q5), .second, .val (.long (q0 ^^^ q3)), .second, .val (.long (q1 ^^^ q4)), .second, .val (.long (q2 ^^^ q5)), .second, .val (.ref b1), .val (.ref b3), .val (.ref b5), .val (.ref bx7), .val (.int (0 : Int32)), .val (.int (1 : Int32))] [(.ref b1), (.ref b5)])) rfl (by rw [hml]; rfl) (Steps.refl _) (argsL := [(.ref b1)]) (rest := []) (lenOf pd_86 rfl) rfl (by show 2 * 0 + _ ≤ _; exact Nat.le_of_eq rfl) (hb hby at_218) (fun _ _ => ⟨rfl, e36, (by decide : 4 + 0 ≤ _), (by decide : 10 + 0 ≤ _)⟩)
    dsimp only [Pt.U, Pt.locs, Pt.cells, Pt.slots] at X37 l37 y37 z37 st37 hQ37
    subst l37 y37 z37
    obtain ⟨rfl, N37q, e37⟩ := hQ37
    have N37 := Fr.app N36 N37q
    obtain ⟨fs, hr, hrun, hended, hW, hsame⟩ := X37.leave (v := some (.int (1 : Int32))) (fun h => by rw [Bd.returns] at h; cases h)
    refine ⟨_, _, pre8 _ ?_, hrun, hended, _, _, rfl, ?_, ⟨_, rfl⟩, hW, hsame.mono (by decide) (by decide)⟩
    · show Steps pg.tables ee below (T7.setTop (mkF mm 70 #[.val (.long q0), .second, .val (.long q1), .second, .val (.long q2), .second, .val (.long q3), .second, .val (.long q4), .second, .val (.long q5), .second, .val (.long (q0 ^^^ q3)), .second, .val (.long (q1 ^^^ q4)), .second, .val (.long (q2 ^^^ q5)), .second, .val (.ref b1), .val (.ref b3), .val (.ref b5), .val (.ref bx7), .unset, .unset] [(.int (lcmpW q0 (q0 ^^^ q3)))])) _
      refine XS.ifYes X7.here hx rfl (pc0 := 70) (pc' := 92) rfl (hb hby at_70) rfl ((if0 _ _).trans (feq hc9).2) (by decide) (by decide) ?_
      show Steps pg.tables ee below (T7.setTop (mkF mm 92 #[.val (.long q0), .second, .val (.long q1), .second, .val (.long q2), .second, .val (.long q3), .second, .val (.long q4), .second, .val (.long q5), .second, .val (.long (q0 ^^^ q3)), .second, .val (.long (q1 ^^^ q4)), .second, .val (.long (q2 ^^^ q5)), .second, .val (.ref b1), .val (.ref b3), .val (.ref b5), .val (.ref bx7), .unset, .unset] [])) _
      refine XS.iconst X7.here hx rfl (hb hby at_92) ?_
      show Steps pg.tables ee below (T7.setTop (mkF mm 93 #[.val (.long q0), .second, .val (.long q1), .second, .val (.long q2), .second, .val (.long q3), .second, .val (.long q4), .second, .val (.long q5), .second, .val (.long (q0 ^^^ q3)), .second, .val (.long (q1 ^^^ q4)), .second, .val (.long (q2 ^^^ q5)), .second, .val (.ref b1), .val (.ref b3), .val (.ref b5), .val (.ref bx7), .unset, .unset] [(.int (0 : Int32))])) _
      refine XS.istore X7.here hx rfl (hb hby at_93) rfl (l' := #[.val (.long q0), .second, .val (.long q1), .second, .val (.long q2), .second, .val (.long q3), .second, .val (.long q4), .second, .val (.long q5), .second, .val (.long (q0 ^^^ q3)), .second, .val (.long (q1 ^^^ q4)), .second, .val (.long (q2 ^^^ q5)), .second, .val (.ref b1), .val (.ref b3), .val (.ref b5), .val (.ref bx7), .val (.int (0 : Int32)), .unset]) rfl ?_
      show Steps pg.tables ee below (T7.setTop (mkF mm 95 #[.val (.long q0), .second, .val (.long q1), .second, .val (.long q2), .second, .val (.long q3), .second, .val (.long q4), .second, .val (.long q5), .second, .val (.long (q0 ^^^ q3)), .second, .val (.long (q1 ^^^ q4)), .second, .val (.long (q2 ^^^ q5)), .second, .val (.ref b1), .val (.ref b3), .val (.ref b5), .val (.ref bx7), .val (.int (0 : Int32)), .unset] [])) _
      refine XS.iconst X7.here hx rfl (hb hby at_95) ?_
      show Steps pg.tables ee below (T7.setTop (mkF mm 96 #[.val (.long q0), .second, .val (.long q1), .second, .val (.long q2), .second, .val (.long q3), .second, .val (.long q4), .second, .val (.long q5), .second, .val (.long (q0 ^^^ q3)), .second, .val (.long (q1 ^^^ q4)), .second, .val (.long (q2 ^^^ q5)), .second, .val (.ref b1), .val (.ref b3), .val (.ref b5), .val (.ref bx7), .val (.int (0 : Int32)), .unset] [(.int (1 : Int32))])) _
      refine XS.istore X7.here hx rfl (hb hby at_96) rfl (l' := #[.val (.long q0), .second, .val (.long q1), .second, .val (.long q2), .second, .val (.long q3), .second, .val (.long q4), .second, .val (.long q5), .second, .val (.long (q0 ^^^ q3)), .second, .val (.long (q1 ^^^ q4)), .second, .val (.long (q2 ^^^ q5)), .second, .val (.ref b1), .val (.ref b3), .val (.ref b5), .val (.ref bx7), .val (.int (0 : Int32)), .val (.int (1 : Int32))]) rfl ?_
      show Steps pg.tables ee below (T7.setTop (mkF mm 98 #[.val (.long q0), .second, .val (.long q1), .second, .val (.long q2), .second, .val (.long q3), .second, .val (.long q4), .second, .val (.long q5), .second, .val (.long (q0 ^^^ q3)), .second, .val (.long (q1 ^^^ q4)), .second, .val (.long (q2 ^^^ q5)), .second, .val (.ref b1), .val (.ref b3), .val (.ref b5), .val (.ref bx7), .val (.int (0 : Int32)), .val (.int (1 : Int32))] [])) _
      refine XS.iload X7.here hx rfl (hb hby at_98) rfl ?_
      show Steps pg.tables ee below (T7.setTop (mkF mm 100 #[.val (.long q0), .second, .val (.long q1), .second, .val (.long q2), .second, .val (.long q3), .second, .val (.long q4), .second, .val (.long q5), .second, .val (.long (q0 ^^^ q3)), .second, .val (.long (q1 ^^^ q4)), .second, .val (.long (q2 ^^^ q5)), .second, .val (.ref b1), .val (.ref b3), .val (.ref b5), .val (.ref bx7), .val (.int (0 : Int32)), .val (.int (1 : Int32))] [(.int (1 : Int32))])) _
      refine XS.ifNo X7.here hx rfl (hb hby at_100) rfl ((if0 _ _).trans (feq (by decide : ¬ ((1 : Int32) = (0 : Int32)))).1) ?_
      show Steps pg.tables ee below (T7.setTop (mkF mm 103 #[.val (.long q0), .second, .val (.long q1), .second, .val (.long q2), .second, .val (.long q3), .second, .val (.long q4), .second, .val (.long q5), .second, .val (.long (q0 ^^^ q3)), .second, .val (.long (q1 ^^^ q4)), .second, .val (.long (q2 ^^^ q5)), .second, .val (.ref b1), .val (.ref b3), .val (.ref b5), .val (.ref bx7), .val (.int (0 : Int32)), .val (.int (1 : Int32))] [])) _
      refine XS.aload X7.here hx rfl (hb hby at_103) rfl rfl ?_
      show Steps pg.tables ee below (T7.setTop (mkF mm 105 #[.val (.long q0), .second, .val (.long q1), .second, .val (.long q2), .second, .val (.long q3), .second, .val (.long q4), .second, .val (.long q5), .second, .val (.long (q0 ^^^ q3)), .second, .val (.long (q1 ^^^ q4)), .second, .val (.long (q2 ^^^ q5)), .second, .val (.ref b1), .val (.ref b3), .val (.ref b5), .val (.ref bx7), .val (.int (0 : Int32)), .val (.int (1 : Int32))] [(.ref b1)])) _
      refine XS.aconstNull X7.here hx rfl (hb hby at_105) ?_
      show Steps pg.tables ee below (T7.setTop (mkF mm 106 #[.val (.long q0), .second, .val (.long q1), .second, .val (.long q2), .second, .val (.long q3), .second, .val (.long q4), .second, .val (.long q5), .second, .val (.long (q0 ^^^ q3)), .second, .val (.long (q1 ^^^ q4)), .second, .val (.long (q2 ^^^ q5)), .second, .val (.ref b1), .val (.ref b3), .val (.ref b5), .val (.ref bx7), .val (.int (0 : Int32)), .val (.int (1 : Int32))] [.null, (.ref b1)])) _
      refine st32.trans ?_
      show Steps pg.tables ee below (T32.setTop (mkF mm 109 #[.val (.long q0), .second, .val (.long q1), .second, .val (.long q2), .second, .val (.long q3), .second, .val (.long q4), .second, .val (.long q5), .second, .val (.long (q0 ^^^ q3)), .second, .val (.long (q1 ^^^ q4)), .second, .val (.long (q2 ^^^ q5)), .second, .val (.ref b1), .val (.ref b3), .val (.ref b5), .val (.ref bx7), .val (.int (0 : Int32)), .val (.int (1 : Int32))] [(.int (0 : Int32))])) _
      refine XS.ifNo X32.here hx rfl (hb hby at_109) rfl ((if0 _ _).trans (teq (by decide : (0 : Int32) = (0 : Int32))).2) ?_
      show Steps pg.tables ee below (T32.setTop (mkF mm 112 #[.val (.long q0), .second, .val (.long q1), .second, .val (.long q2), .second, .val (.long q3), .second, .val (.long q4), .second, .val (.long q5), .second, .val (.long (q0 ^^^ q3)), .second, .val (.long (q1 ^^^ q4)), .second, .val (.long (q2 ^^^ q5)), .second, .val (.ref b1), .val (.ref b3), .val (.ref b5), .val (.ref bx7), .val (.int (0 : Int32)), .val (.int (1 : Int32))] [])) _
      refine XS.iconst X32.here hx rfl (hb hby at_112) ?_
      show Steps pg.tables ee below (T32.setTop (mkF mm 113 #[.val (.long q0), .second, .val (.long q1), .second, .val (.long q2), .second, .val (.long q3), .second, .val (.long q4), .second, .val (.long q5), .second, .val (.long (q0 ^^^ q3)), .second, .val (.long (q1 ^^^ q4)), .second, .val (.long (q2 ^^^ q5)), .second, .val (.ref b1), .val (.ref b3), .val (.ref b5), .val (.ref bx7), .val (.int (0 : Int32)), .val (.int (1 : Int32))] [(.int (1 : Int32))])) _
      refine XS.goto X32.here hx rfl (pc0 := 113) (pc' := 117) rfl (hb hby at_113) (by decide) (by decide) ?_
      show Steps pg.tables ee below (T32.setTop (mkF mm 117 #[.val (.long q0), .second, .val (.long q1), .second, .val (.long q2), .second, .val (.long q3), .second, .val (.long q4), .second, .val (.long q5), .second, .val (.long (q0 ^^^ q3)), .second, .val (.long (q1 ^^^ q4)), .second, .val (.long (q2 ^^^ q5)), .second, .val (.ref b1), .val (.ref b3), .val (.ref b5), .val (.ref bx7), .val (.int (0 : Int32)), .val (.int (1 : Int32))] [(.int (1 : Int32))])) _
      refine XS.istore X32.here hx rfl (hb hby at_117) rfl (l' := #[.val (.long q0), .second, .val (.long q1), .second, .val (.long q2), .second, .val (.long q3), .second, .val (.long q4), .second, .val (.long q5), .second, .val (.long (q0 ^^^ q3)), .second, .val (.long (q1 ^^^ q4)), .second, .val (.long (q2 ^^^ q5)), .second, .val (.ref b1), .val (.ref b3), .val (.ref b5), .val (.ref bx7), .val (.int (0 : Int32)), .val (.int (1 : Int32))]) rfl ?_
      show Steps pg.tables ee below (T32.setTop (mkF mm 119 #[.val (.long q0), .second, .val (.long q1), .second, .val (.long q2), .second, .val (.long q3), .second, .val (.long q4), .second, .val (.long q5), .second, .val (.long (q0 ^^^ q3)), .second, .val (.long (q1 ^^^ q4)), .second, .val (.long (q2 ^^^ q5)), .second, .val (.ref b1), .val (.ref b3), .val (.ref b5), .val (.ref bx7), .val (.int (0 : Int32)), .val (.int (1 : Int32))] [])) _
      refine XS.iload X32.here hx rfl (hb hby at_119) rfl ?_
      show Steps pg.tables ee below (T32.setTop (mkF mm 121 #[.val (.long q0), .second, .val (.long q1), .second, .val (.long q2), .second, .val (.long q3), .second, .val (.long q4), .second, .val (.long q5), .second, .val (.long (q0 ^^^ q3)), .second, .val (.long (q1 ^^^ q4)), .second, .val (.long (q2 ^^^ q5)), .second, .val (.ref b1), .val (.ref b3), .val (.ref b5), .val (.ref bx7), .val (.int (0 : Int32)), .val (.int (1 : Int32))] [(.int (1 : Int32))])) _
      refine XS.ifNo X32.here hx rfl (hb hby at_121) rfl ((if0 _ _).trans (feq (by decide : ¬ ((1 : Int32) = (0 : Int32)))).1) ?_
      show Steps pg.tables ee below (T32.setTop (mkF mm 124 #[.val (.long q0), .second, .val (.long q1), .second, .val (.long q2), .second, .val (.long q3), .second, .val (.long q4), .second, .val (.long q5), .second, .val (.long (q0 ^^^ q3)), .second, .val (.long (q1 ^^^ q4)), .second, .val (.long (q2 ^^^ q5)), .second, .val (.ref b1), .val (.ref b3), .val (.ref b5), .val (.ref bx7), .val (.int (0 : Int32)), .val (.int (1 : Int32))] [])) _
      refine XS.aload X32.here hx rfl (hb hby at_124) rfl rfl ?_
      show Steps pg.tables ee below (T32.setTop (mkF mm 126 #[.val (.long q0), .second, .val (.long q1), .second, .val (.long q2), .second, .val (.long q3), .second, .val (.long q4), .second, .val (.long q5), .second, .val (.long (q0 ^^^ q3)), .second, .val (.long (q1 ^^^ q4)), .second, .val (.long (q2 ^^^ q5)), .second, .val (.ref b1), .val (.ref b3), .val (.ref b5), .val (.ref bx7), .val (.int (0 : Int32)), .val (.int (1 : Int32))] [(.ref b1)])) _
      refine XS.aload X32.here hx rfl (hb hby at_126) rfl rfl ?_
      show Steps pg.tables ee below (T32.setTop (mkF mm 128 #[.val (.long q0), .second, .val (.long q1), .second, .val (.long q2), .second, .val (.long q3), .second, .val (.long q4), .second, .val (.long q5), .second, .val (.long (q0 ^^^ q3)), .second, .val (.long (q1 ^^^ q4)), .second, .val (.long (q2 ^^^ q5)), .second, .val (.ref b1), .val (.ref b3), .val (.ref b5), .val (.ref bx7), .val (.int (0 : Int32)), .val (.int (1 : Int32))] [(.ref bx7), (.ref b1)])) _
      refine st33.trans ?_
      show Steps pg.tables ee below (T33.setTop (mkF mm 131 #[.val (.long q0), .second, .val (.long q1), .second, .val (.long q2), .second, .val (.long q3), .second, .val (.long q4), .second, .val (.long q5), .second, .val (.long (q0 ^^^ q3)), .second, .val (.long (q1 ^^^ q4)), .second, .val (.long (q2 ^^^ q5)), .second, .val (.ref b1), .val (.ref b3), .val (.ref b5), .val (.ref bx7), .val (.int (0 : Int32)), .val (.int (1 : Int32))] [(.int (0 : Int32))])) _
      refine XS.ifNo X33.here hx rfl (hb hby at_131) rfl ((if0 _ _).trans (teq (by decide : (0 : Int32) = (0 : Int32))).2) ?_
      show Steps pg.tables ee below (T33.setTop (mkF mm 134 #[.val (.long q0), .second, .val (.long q1), .second, .val (.long q2), .second, .val (.long q3), .second, .val (.long q4), .second, .val (.long q5), .second, .val (.long (q0 ^^^ q3)), .second, .val (.long (q1 ^^^ q4)), .second, .val (.long (q2 ^^^ q5)), .second, .val (.ref b1), .val (.ref b3), .val (.ref b5), .val (.ref bx7), .val (.int (0 : Int32)), .val (.int (1 : Int32))] [])) _
      refine XS.iconst X33.here hx rfl (hb hby at_134) ?_
      show Steps pg.tables ee below (T33.setTop (mkF mm 135 #[.val (.long q0), .second, .val (.long q1), .second, .val (.long q2), .second, .val (.long q3), .second, .val (.long q4), .second, .val (.long q5), .second, .val (.long (q0 ^^^ q3)), .second, .val (.long (q1 ^^^ q4)), .second, .val (.long (q2 ^^^ q5)), .second, .val (.ref b1), .val (.ref b3), .val (.ref b5), .val (.ref bx7), .val (.int (0 : Int32)), .val (.int (1 : Int32))] [(.int (1 : Int32))])) _
      refine XS.goto X33.here hx rfl (pc0 := 135) (pc' := 139) rfl (hb hby at_135) (by decide) (by decide) ?_
      show Steps pg.tables ee below (T33.setTop (mkF mm 139 #[.val (.long q0), .second, .val (.long q1), .second, .val (.long q2), .second, .val (.long q3), .second, .val (.long q4), .second, .val (.long q5), .second, .val (.long (q0 ^^^ q3)), .second, .val (.long (q1 ^^^ q4)), .second, .val (.long (q2 ^^^ q5)), .second, .val (.ref b1), .val (.ref b3), .val (.ref b5), .val (.ref bx7), .val (.int (0 : Int32)), .val (.int (1 : Int32))] [(.int (1 : Int32))])) _
      refine XS.istore X33.here hx rfl (hb hby at_139) rfl (l' := #[.val (.long q0), .second, .val (.long q1), .second, .val (.long q2), .second, .val (.long q3), .second, .val (.long q4), .second, .val (.long q5), .second, .val (.long (q0 ^^^ q3)), .second, .val (.long (q1 ^^^ q4)), .second, .val (.long (q2 ^^^ q5)), .second, .val (.ref b1), .val (.ref b3), .val (.ref b5), .val (.ref bx7), .val (.int (0 : Int32)), .val (.int (1 : Int32))]) rfl ?_
      show Steps pg.tables ee below (T33.setTop (mkF mm 141 #[.val (.long q0), .second, .val (.long q1), .second, .val (.long q2), .second, .val (.long q3), .second, .val (.long q4), .second, .val (.long q5), .second, .val (.long (q0 ^^^ q3)), .second, .val (.long (q1 ^^^ q4)), .second, .val (.long (q2 ^^^ q5)), .second, .val (.ref b1), .val (.ref b3), .val (.ref b5), .val (.ref bx7), .val (.int (0 : Int32)), .val (.int (1 : Int32))] [])) _
      refine XS.iload X33.here hx rfl (hb hby at_141) rfl ?_
      show Steps pg.tables ee below (T33.setTop (mkF mm 143 #[.val (.long q0), .second, .val (.long q1), .second, .val (.long q2), .second, .val (.long q3), .second, .val (.long q4), .second, .val (.long q5), .second, .val (.long (q0 ^^^ q3)), .second, .val (.long (q1 ^^^ q4)), .second, .val (.long (q2 ^^^ q5)), .second, .val (.ref b1), .val (.ref b3), .val (.ref b5), .val (.ref bx7), .val (.int (0 : Int32)), .val (.int (1 : Int32))] [(.int (1 : Int32))])) _
      refine XS.ifNo X33.here hx rfl (hb hby at_143) rfl ((if0 _ _).trans (feq (by decide : ¬ ((1 : Int32) = (0 : Int32)))).1) ?_
      show Steps pg.tables ee below (T33.setTop (mkF mm 146 #[.val (.long q0), .second, .val (.long q1), .second, .val (.long q2), .second, .val (.long q3), .second, .val (.long q4), .second, .val (.long q5), .second, .val (.long (q0 ^^^ q3)), .second, .val (.long (q1 ^^^ q4)), .second, .val (.long (q2 ^^^ q5)), .second, .val (.ref b1), .val (.ref b3), .val (.ref b5), .val (.ref bx7), .val (.int (0 : Int32)), .val (.int (1 : Int32))] [])) _
      refine XS.aload X33.here hx rfl (hb hby at_146) rfl rfl ?_
      show Steps pg.tables ee below (T33.setTop (mkF mm 148 #[.val (.long q0), .second, .val (.long q1), .second, .val (.long q2), .second, .val (.long q3), .second, .val (.long q4), .second, .val (.long q5), .second, .val (.long (q0 ^^^ q3)), .second, .val (.long (q1 ^^^ q4)), .second, .val (.long (q2 ^^^ q5)), .second, .val (.ref b1), .val (.ref b3), .val (.ref b5), .val (.ref bx7), .val (.int (0 : Int32)), .val (.int (1 : Int32))] [(.ref b1)])) _
      refine XS.aload X33.here hx rfl (hb hby at_148) rfl rfl ?_
      show Steps pg.tables ee below (T33.setTop (mkF mm 150 #[.val (.long q0), .second, .val (.long q1), .second, .val (.long q2), .second, .val (.long q3), .second, .val (.long q4), .second, .val (.long q5), .second, .val (.long (q0 ^^^ q3)), .second, .val (.long (q1 ^^^ q4)), .second, .val (.long (q2 ^^^ q5)), .second, .val (.ref b1), .val (.ref b3), .val (.ref b5), .val (.ref bx7), .val (.int (0 : Int32)), .val (.int (1 : Int32))] [(.ref b1), (.ref b1)])) _
      refine st34.trans ?_
      show Steps pg.tables ee below (T34.setTop (mkF mm 153 #[.val (.long q0), .second, .val (.long q1), .second, .val (.long q2), .second, .val (.long q3), .second, .val (.long q4), .second, .val (.long q5), .second, .val (.long (q0 ^^^ q3)), .second, .val (.long (q1 ^^^ q4)), .second, .val (.long (q2 ^^^ q5)), .second, .val (.ref b1), .val (.ref b3), .val (.ref b5), .val (.ref bx7), .val (.int (0 : Int32)), .val (.int (1 : Int32))] [(.int (1 : Int32))])) _
      refine XS.ifNo X34.here hx rfl (hb hby at_153) rfl ((if0 _ _).trans (feq (by decide : ¬ ((1 : Int32) = (0 : Int32)))).1) ?_
      show Steps pg.tables ee below (T34.setTop (mkF mm 156 #[.val (.long q0), .second, .val (.long q1), .second, .val (.long q2), .second, .val (.long q3), .second, .val (.long q4), .second, .val (.long q5), .second, .val (.long (q0 ^^^ q3)), .second, .val (.long (q1 ^^^ q4)), .second, .val (.long (q2 ^^^ q5)), .second, .val (.ref b1), .val (.ref b3), .val (.ref b5), .val (.ref bx7), .val (.int (0 : Int32)), .val (.int (1 : Int32))] [])) _
      refine XS.iconst X34.here hx rfl (hb hby at_156) ?_
      show Steps pg.tables ee below (T34.setTop (mkF mm 157 #[.val (.long q0), .second, .val (.long q1), .second, .val (.long q2), .second, .val (.long q3), .second, .val (.long q4), .second, .val (.long q5), .second, .val (.long (q0 ^^^ q3)), .second, .val (.long (q1 ^^^ q4)), .second, .val (.long (q2 ^^^ q5)), .second, .val (.ref b1), .val (.ref b3), .val (.ref b5), .val (.ref bx7), .val (.int (0 : Int32)), .val (.int (1 : Int32))] [(.int (1 : Int32))])) _
      refine XS.goto X34.here hx rfl (pc0 := 157) (pc' := 161) rfl (hb hby at_157) (by decide) (by decide) ?_
      show Steps pg.tables ee below (T34.setTop (mkF mm 161 #[.val (.long q0), .second, .val (.long q1), .second, .val (.long q2), .second, .val (.long q3), .second, .val (.long q4), .second, .val (.long q5), .second, .val (.long (q0 ^^^ q3)), .second, .val (.long (q1 ^^^ q4)), .second, .val (.long (q2 ^^^ q5)), .second, .val (.ref b1), .val (.ref b3), .val (.ref b5), .val (.ref bx7), .val (.int (0 : Int32)), .val (.int (1 : Int32))] [(.int (1 : Int32))])) _
      refine XS.istore X34.here hx rfl (hb hby at_161) rfl (l' := #[.val (.long q0), .second, .val (.long q1), .second, .val (.long q2), .second, .val (.long q3), .second, .val (.long q4), .second, .val (.long q5), .second, .val (.long (q0 ^^^ q3)), .second, .val (.long (q1 ^^^ q4)), .second, .val (.long (q2 ^^^ q5)), .second, .val (.ref b1), .val (.ref b3), .val (.ref b5), .val (.ref bx7), .val (.int (0 : Int32)), .val (.int (1 : Int32))]) rfl ?_
      show Steps pg.tables ee below (T34.setTop (mkF mm 163 #[.val (.long q0), .second, .val (.long q1), .second, .val (.long q2), .second, .val (.long q3), .second, .val (.long q4), .second, .val (.long q5), .second, .val (.long (q0 ^^^ q3)), .second, .val (.long (q1 ^^^ q4)), .second, .val (.long (q2 ^^^ q5)), .second, .val (.ref b1), .val (.ref b3), .val (.ref b5), .val (.ref bx7), .val (.int (0 : Int32)), .val (.int (1 : Int32))] [])) _
      refine XS.iload X34.here hx rfl (hb hby at_163) rfl ?_
      show Steps pg.tables ee below (T34.setTop (mkF mm 165 #[.val (.long q0), .second, .val (.long q1), .second, .val (.long q2), .second, .val (.long q3), .second, .val (.long q4), .second, .val (.long q5), .second, .val (.long (q0 ^^^ q3)), .second, .val (.long (q1 ^^^ q4)), .second, .val (.long (q2 ^^^ q5)), .second, .val (.ref b1), .val (.ref b3), .val (.ref b5), .val (.ref bx7), .val (.int (0 : Int32)), .val (.int (1 : Int32))] [(.int (1 : Int32))])) _
      refine XS.ifNo X34.here hx rfl (hb hby at_165) rfl ((if0 _ _).trans (feq (by decide : ¬ ((1 : Int32) = (0 : Int32)))).1) ?_
      show Steps pg.tables ee below (T34.setTop (mkF mm 168 #[.val (.long q0), .second, .val (.long q1), .second, .val (.long q2), .second, .val (.long q3), .second, .val (.long q4), .second, .val (.long q5), .second, .val (.long (q0 ^^^ q3)), .second, .val (.long (q1 ^^^ q4)), .second, .val (.long (q2 ^^^ q5)), .second, .val (.ref b1), .val (.ref b3), .val (.ref b5), .val (.ref bx7), .val (.int (0 : Int32)), .val (.int (1 : Int32))] [])) _
      refine XS.aload X34.here hx rfl (hb hby at_168) rfl rfl ?_
      show Steps pg.tables ee below (T34.setTop (mkF mm 170 #[.val (.long q0), .second, .val (.long q1), .second, .val (.long q2), .second, .val (.long q3), .second, .val (.long q4), .second, .val (.long q5), .second, .val (.long (q0 ^^^ q3)), .second, .val (.long (q1 ^^^ q4)), .second, .val (.long (q2 ^^^ q5)), .second, .val (.ref b1), .val (.ref b3), .val (.ref b5), .val (.ref bx7), .val (.int (0 : Int32)), .val (.int (1 : Int32))] [(.ref b1)])) _
      refine XS.aload X34.here hx rfl (hb hby at_170) rfl rfl ?_
      show Steps pg.tables ee below (T34.setTop (mkF mm 172 #[.val (.long q0), .second, .val (.long q1), .second, .val (.long q2), .second, .val (.long q3), .second, .val (.long q4), .second, .val (.long q5), .second, .val (.long (q0 ^^^ q3)), .second, .val (.long (q1 ^^^ q4)), .second, .val (.long (q2 ^^^ q5)), .second, .val (.ref b1), .val (.ref b3), .val (.ref b5), .val (.ref bx7), .val (.int (0 : Int32)), .val (.int (1 : Int32))] [(.ref b3), (.ref b1)])) _
      refine st35.trans ?_
      show Steps pg.tables ee below (T35.setTop (mkF mm 175 #[.val (.long q0), .second, .val (.long q1), .second, .val (.long q2), .second, .val (.long q3), .second, .val (.long q4), .second, .val (.long q5), .second, .val (.long (q0 ^^^ q3)), .second, .val (.long (q1 ^^^ q4)), .second, .val (.long (q2 ^^^ q5)), .second, .val (.ref b1), .val (.ref b3), .val (.ref b5), .val (.ref bx7), .val (.int (0 : Int32)), .val (.int (1 : Int32))] [(.int (1 : Int32))])) _
      refine XS.ifNo X35.here hx rfl (hb hby at_175) rfl ((if0 _ _).trans (feq (by decide : ¬ ((1 : Int32) = (0 : Int32)))).1) ?_
      show Steps pg.tables ee below (T35.setTop (mkF mm 178 #[.val (.long q0), .second, .val (.long q1), .second, .val (.long q2), .second, .val (.long q3), .second, .val (.long q4), .second, .val (.long q5), .second, .val (.long (q0 ^^^ q3)), .second, .val (.long (q1 ^^^ q4)), .second, .val (.long (q2 ^^^ q5)), .second, .val (.ref b1), .val (.ref b3), .val (.ref b5), .val (.ref bx7), .val (.int (0 : Int32)), .val (.int (1 : Int32))] [])) _
      refine XS.iconst X35.here hx rfl (hb hby at_178) ?_
      show Steps pg.tables ee below (T35.setTop (mkF mm 179 #[.val (.long q0), .second, .val (.long q1), .second, .val (.long q2), .second, .val (.long q3), .second, .val (.long q4), .second, .val (.long q5), .second, .val (.long (q0 ^^^ q3)), .second, .val (.long (q1 ^^^ q4)), .second, .val (.long (q2 ^^^ q5)), .second, .val (.ref b1), .val (.ref b3), .val (.ref b5), .val (.ref bx7), .val (.int (0 : Int32)), .val (.int (1 : Int32))] [(.int (1 : Int32))])) _
      refine XS.goto X35.here hx rfl (pc0 := 179) (pc' := 183) rfl (hb hby at_179) (by decide) (by decide) ?_
      show Steps pg.tables ee below (T35.setTop (mkF mm 183 #[.val (.long q0), .second, .val (.long q1), .second, .val (.long q2), .second, .val (.long q3), .second, .val (.long q4), .second, .val (.long q5), .second, .val (.long (q0 ^^^ q3)), .second, .val (.long (q1 ^^^ q4)), .second, .val (.long (q2 ^^^ q5)), .second, .val (.ref b1), .val (.ref b3), .val (.ref b5), .val (.ref bx7), .val (.int (0 : Int32)), .val (.int (1 : Int32))] [(.int (1 : Int32))])) _
      refine XS.istore X35.here hx rfl (hb hby at_183) rfl (l' := #[.val (.long q0), .second, .val (.long q1), .second, .val (.long q2), .second, .val (.long q3), .second, .val (.long q4), .second, .val (.long q5), .second, .val (.long (q0 ^^^ q3)), .second, .val (.long (q1 ^^^ q4)), .second, .val (.long (q2 ^^^ q5)), .second, .val (.ref b1), .val (.ref b3), .val (.ref b5), .val (.ref bx7), .val (.int (0 : Int32)), .val (.int (1 : Int32))]) rfl ?_
      show Steps pg.tables ee below (T35.setTop (mkF mm 185 #[.val (.long q0), .second, .val (.long q1), .second, .val (.long q2), .second, .val (.long q3), .second, .val (.long q4), .second, .val (.long q5), .second, .val (.long (q0 ^^^ q3)), .second, .val (.long (q1 ^^^ q4)), .second, .val (.long (q2 ^^^ q5)), .second, .val (.ref b1), .val (.ref b3), .val (.ref b5), .val (.ref bx7), .val (.int (0 : Int32)), .val (.int (1 : Int32))] [])) _
      refine XS.iload X35.here hx rfl (hb hby at_185) rfl ?_
      show Steps pg.tables ee below (T35.setTop (mkF mm 187 #[.val (.long q0), .second, .val (.long q1), .second, .val (.long q2), .second, .val (.long q3), .second, .val (.long q4), .second, .val (.long q5), .second, .val (.long (q0 ^^^ q3)), .second, .val (.long (q1 ^^^ q4)), .second, .val (.long (q2 ^^^ q5)), .second, .val (.ref b1), .val (.ref b3), .val (.ref b5), .val (.ref bx7), .val (.int (0 : Int32)), .val (.int (1 : Int32))] [(.int (1 : Int32))])) _
      refine XS.ifNo X35.here hx rfl (hb hby at_187) rfl ((if0 _ _).trans (feq (by decide : ¬ ((1 : Int32) = (0 : Int32)))).1) ?_
      show Steps pg.tables ee below (T35.setTop (mkF mm 190 #[.val (.long q0), .second, .val (.long q1), .second, .val (.long q2), .second, .val (.long q3), .second, .val (.long q4), .second, .val (.long q5), .second, .val (.long (q0 ^^^ q3)), .second, .val (.long (q1 ^^^ q4)), .second, .val (.long (q2 ^^^ q5)), .second, .val (.ref b1), .val (.ref b3), .val (.ref b5), .val (.ref bx7), .val (.int (0 : Int32)), .val (.int (1 : Int32))] [])) _
      refine XS.aload X35.here hx rfl (hb hby at_190) rfl rfl ?_
      show Steps pg.tables ee below (T35.setTop (mkF mm 192 #[.val (.long q0), .second, .val (.long q1), .second, .val (.long q2), .second, .val (.long q3), .second, .val (.long q4), .second, .val (.long q5), .second, .val (.long (q0 ^^^ q3)), .second, .val (.long (q1 ^^^ q4)), .second, .val (.long (q2 ^^^ q5)), .second, .val (.ref b1), .val (.ref b3), .val (.ref b5), .val (.ref bx7), .val (.int (0 : Int32)), .val (.int (1 : Int32))] [(.ref b1)])) _
      refine XS.aload X35.here hx rfl (hb hby at_192) rfl rfl ?_
      show Steps pg.tables ee below (T35.setTop (mkF mm 194 #[.val (.long q0), .second, .val (.long q1), .second, .val (.long q2), .second, .val (.long q3), .second, .val (.long q4), .second, .val (.long q5), .second, .val (.long (q0 ^^^ q3)), .second, .val (.long (q1 ^^^ q4)), .second, .val (.long (q2 ^^^ q5)), .second, .val (.ref b1), .val (.ref b3), .val (.ref b5), .val (.ref bx7), .val (.int (0 : Int32)), .val (.int (1 : Int32))] [(.ref b5), (.ref b1)])) _
      refine st36.trans ?_
      show Steps pg.tables ee below (T36.setTop (mkF mm 197 #[.val (.long q0), .second, .val (.long q1), .second, .val (.long q2), .second, .val (.long q3), .second, .val (.long q4), .second, .val (.long q5), .second, .val (.long (q0 ^^^ q3)), .second, .val (.long (q1 ^^^ q4)), .second, .val (.long (q2 ^^^ q5)), .second, .val (.ref b1), .val (.ref b3), .val (.ref b5), .val (.ref bx7), .val (.int (0 : Int32)), .val (.int (1 : Int32))] [(.int (0 : Int32))])) _
      refine XS.iload X36.here hx rfl (hb hby at_197) rfl ?_
      show Steps pg.tables ee below (T36.setTop (mkF mm 199 #[.val (.long q0), .second, .val (.long q1), .second, .val (.long q2), .second, .val (.long q3), .second, .val (.long q4), .second, .val (.long q5), .second, .val (.long (q0 ^^^ q3)), .second, .val (.long (q1 ^^^ q4)), .second, .val (.long (q2 ^^^ q5)), .second, .val (.ref b1), .val (.ref b3), .val (.ref b5), .val (.ref bx7), .val (.int (0 : Int32)), .val (.int (1 : Int32))] [(.int (0 : Int32)), (.int (0 : Int32))])) _
      refine XS.icmpNo X36.here hx rfl (hb hby at_199) rfl (teq (by decide : (0 : Int32) = (0 : Int32))).2 ?_
      show Steps pg.tables ee below (T36.setTop (mkF mm 202 #[.val (.long q0), .second, .val (.long q1), .second, .val (.long q2), .second, .val (.long q3), .second, .val (.long q4), .second, .val (.long q5), .second, .val (.long (q0 ^^^ q3)), .second, .val (.long (q1 ^^^ q4)), .second, .val (.long (q2 ^^^ q5)), .second, .val (.ref b1), .val (.ref b3), .val (.ref b5), .val (.ref bx7), .val (.int (0 : Int32)), .val (.int (1 : Int32))] [])) _
      refine XS.iconst X36.here hx rfl (hb hby at_202) ?_
      show Steps pg.tables ee below (T36.setTop (mkF mm 203 #[.val (.long q0), .second, .val (.long q1), .second, .val (.long q2), .second, .val (.long q3), .second, .val (.long q4), .second, .val (.long q5), .second, .val (.long (q0 ^^^ q3)), .second, .val (.long (q1 ^^^ q4)), .second, .val (.long (q2 ^^^ q5)), .second, .val (.ref b1), .val (.ref b3), .val (.ref b5), .val (.ref bx7), .val (.int (0 : Int32)), .val (.int (1 : Int32))] [(.int (1 : Int32))])) _
      refine XS.goto X36.here hx rfl (pc0 := 203) (pc' := 207) rfl (hb hby at_203) (by decide) (by decide) ?_
      show Steps pg.tables ee below (T36.setTop (mkF mm 207 #[.val (.long q0), .second, .val (.long q1), .second, .val (.long q2), .second, .val (.long q3), .second, .val (.long q4), .second, .val (.long q5), .second, .val (.long (q0 ^^^ q3)), .second, .val (.long (q1 ^^^ q4)), .second, .val (.long (q2 ^^^ q5)), .second, .val (.ref b1), .val (.ref b3), .val (.ref b5), .val (.ref bx7), .val (.int (0 : Int32)), .val (.int (1 : Int32))] [(.int (1 : Int32))])) _
      refine XS.istore X36.here hx rfl (hb hby at_207) rfl (l' := #[.val (.long q0), .second, .val (.long q1), .second, .val (.long q2), .second, .val (.long q3), .second, .val (.long q4), .second, .val (.long q5), .second, .val (.long (q0 ^^^ q3)), .second, .val (.long (q1 ^^^ q4)), .second, .val (.long (q2 ^^^ q5)), .second, .val (.ref b1), .val (.ref b3), .val (.ref b5), .val (.ref bx7), .val (.int (0 : Int32)), .val (.int (1 : Int32))]) rfl ?_
      show Steps pg.tables ee below (T36.setTop (mkF mm 209 #[.val (.long q0), .second, .val (.long q1), .second, .val (.long q2), .second, .val (.long q3), .second, .val (.long q4), .second, .val (.long q5), .second, .val (.long (q0 ^^^ q3)), .second, .val (.long (q1 ^^^ q4)), .second, .val (.long (q2 ^^^ q5)), .second, .val (.ref b1), .val (.ref b3), .val (.ref b5), .val (.ref bx7), .val (.int (0 : Int32)), .val (.int (1 : Int32))] [])) _
      refine XS.iload X36.here hx rfl (hb hby at_209) rfl ?_
      show Steps pg.tables ee below (T36.setTop (mkF mm 211 #[.val (.long q0), .second, .val (.long q1), .second, .val (.long q2), .second, .val (.long q3), .second, .val (.long q4), .second, .val (.long q5), .second, .val (.long (q0 ^^^ q3)), .second, .val (.long (q1 ^^^ q4)), .second, .val (.long (q2 ^^^ q5)), .second, .val (.ref b1), .val (.ref b3), .val (.ref b5), .val (.ref bx7), .val (.int (0 : Int32)), .val (.int (1 : Int32))] [(.int (1 : Int32))])) _
      refine XS.ifNo X36.here hx rfl (hb hby at_211) rfl ((if0 _ _).trans (feq (by decide : ¬ ((1 : Int32) = (0 : Int32)))).1) ?_
      show Steps pg.tables ee below (T36.setTop (mkF mm 214 #[.val (.long q0), .second, .val (.long q1), .second, .val (.long q2), .second, .val (.long q3), .second, .val (.long q4), .second, .val (.long q5), .second, .val (.long (q0 ^^^ q3)), .second, .val (.long (q1 ^^^ q4)), .second, .val (.long (q2 ^^^ q5)), .second, .val (.ref b1), .val (.ref b3), .val (.ref b5), .val (.ref bx7), .val (.int (0 : Int32)), .val (.int (1 : Int32))] [])) _
      refine XS.aload X36.here hx rfl (hb hby at_214) rfl rfl ?_
      show Steps pg.tables ee below (T36.setTop (mkF mm 216 #[.val (.long q0), .second, .val (.long q1), .second, .val (.long q2), .second, .val (.long q3), .second, .val (.long q4), .second, .val (.long q5), .second, .val (.long (q0 ^^^ q3)), .second, .val (.long (q1 ^^^ q4)), .second, .val (.long (q2 ^^^ q5)), .second, .val (.ref b1), .val (.ref b3), .val (.ref b5), .val (.ref bx7), .val (.int (0 : Int32)), .val (.int (1 : Int32))] [(.ref b5)])) _
      refine XS.aload X36.here hx rfl (hb hby at_216) rfl rfl ?_
      show Steps pg.tables ee below (T36.setTop (mkF mm 218 #[.val (.long q0), .second, .val (.long q1), .second, .val (.long q2), .second, .val (.long q3), .second, .val (.long q4), .second, .val (.long q5), .second, .val (.long (q0 ^^^ q3)), .second, .val (.long (q1 ^^^ q4)), .second, .val (.long (q2 ^^^ q5)), .second, .val (.ref b1), .val (.ref b3), .val (.ref b5), .val (.ref bx7), .val (.int (0 : Int32)), .val (.int (1 : Int32))] [(.ref b1), (.ref b5)])) _
      refine st37.trans ?_
      show Steps pg.tables ee below (T37.setTop (mkF mm 221 #[.val (.long q0), .second, .val (.long q1), .second, .val (.long q2), .second, .val (.long q3), .second, .val (.long q4), .second, .val (.long q5), .second, .val (.long (q0 ^^^ q3)), .second, .val (.long (q1 ^^^ q4)), .second, .val (.long (q2 ^^^ q5)), .second, .val (.ref b1), .val (.ref b3), .val (.ref b5), .val (.ref bx7), .val (.int (0 : Int32)), .val (.int (1 : Int32))] [(.int (0 : Int32))])) _
      refine XS.iload X37.here hx rfl (hb hby at_221) rfl ?_
      show Steps pg.tables ee below (T37.setTop (mkF mm 223 #[.val (.long q0), .second, .val (.long q1), .second, .val (.long q2), .second, .val (.long q3), .second, .val (.long q4), .second, .val (.long q5), .second, .val (.long (q0 ^^^ q3)), .second, .val (.long (q1 ^^^ q4)), .second, .val (.long (q2 ^^^ q5)), .second, .val (.ref b1), .val (.ref b3), .val (.ref b5), .val (.ref bx7), .val (.int (0 : Int32)), .val (.int (1 : Int32))] [(.int (0 : Int32)), (.int (0 : Int32))])) _
      refine XS.icmpNo X37.here hx rfl (hb hby at_223) rfl (teq (by decide : (0 : Int32) = (0 : Int32))).2 ?_
      show Steps pg.tables ee below (T37.setTop (mkF mm 226 #[.val (.long q0), .second, .val (.long q1), .second, .val (.long q2), .second, .val (.long q3), .second, .val (.long q4), .second, .val (.long q5), .second, .val (.long (q0 ^^^ q3)), .second, .val (.long (q1 ^^^ q4)), .second, .val (.long (q2 ^^^ q5)), .second, .val (.ref b1), .val (.ref b3), .val (.ref b5), .val (.ref bx7), .val (.int (0 : Int32)), .val (.int (1 : Int32))] [])) _
      refine XS.iconst X37.here hx rfl (hb hby at_226) ?_
      show Steps pg.tables ee below (T37.setTop (mkF mm 227 #[.val (.long q0), .second, .val (.long q1), .second, .val (.long q2), .second, .val (.long q3), .second, .val (.long q4), .second, .val (.long q5), .second, .val (.long (q0 ^^^ q3)), .second, .val (.long (q1 ^^^ q4)), .second, .val (.long (q2 ^^^ q5)), .second, .val (.ref b1), .val (.ref b3), .val (.ref b5), .val (.ref bx7), .val (.int (0 : Int32)), .val (.int (1 : Int32))] [(.int (1 : Int32))])) _
      refine XS.goto X37.here hx rfl (pc0 := 227) (pc' := 231) rfl (hb hby at_227) (by decide) (by decide) ?_
      show Steps pg.tables ee below (T37.setTop (mkF mm 231 #[.val (.long q0), .second, .val (.long q1), .second, .val (.long q2), .second, .val (.long q3), .second, .val (.long q4), .second, .val (.long q5), .second, .val (.long (q0 ^^^ q3)), .second, .val (.long (q1 ^^^ q4)), .second, .val (.long (q2 ^^^ q5)), .second, .val (.ref b1), .val (.ref b3), .val (.ref b5), .val (.ref bx7), .val (.int (0 : Int32)), .val (.int (1 : Int32))] [(.int (1 : Int32))])) _
      refine XS.istore X37.here hx rfl (hb hby at_231) rfl (l' := #[.val (.long q0), .second, .val (.long q1), .second, .val (.long q2), .second, .val (.long q3), .second, .val (.long q4), .second, .val (.long q5), .second, .val (.long (q0 ^^^ q3)), .second, .val (.long (q1 ^^^ q4)), .second, .val (.long (q2 ^^^ q5)), .second, .val (.ref b1), .val (.ref b3), .val (.ref b5), .val (.ref bx7), .val (.int (0 : Int32)), .val (.int (1 : Int32))]) rfl ?_
      show Steps pg.tables ee below (T37.setTop (mkF mm 233 #[.val (.long q0), .second, .val (.long q1), .second, .val (.long q2), .second, .val (.long q3), .second, .val (.long q4), .second, .val (.long q5), .second, .val (.long (q0 ^^^ q3)), .second, .val (.long (q1 ^^^ q4)), .second, .val (.long (q2 ^^^ q5)), .second, .val (.ref b1), .val (.ref b3), .val (.ref b5), .val (.ref bx7), .val (.int (0 : Int32)), .val (.int (1 : Int32))] [])) _
      refine XS.iload X37.here hx rfl (hb hby at_233) rfl ?_
      show Steps pg.tables ee below (T37.setTop (mkF mm 235 #[.val (.long q0), .second, .val (.long q1), .second, .val (.long q2), .second, .val (.long q3), .second, .val (.long q4), .second, .val (.long q5), .second, .val (.long (q0 ^^^ q3)), .second, .val (.long (q1 ^^^ q4)), .second, .val (.long (q2 ^^^ q5)), .second, .val (.ref b1), .val (.ref b3), .val (.ref b5), .val (.ref bx7), .val (.int (0 : Int32)), .val (.int (1 : Int32))] [(.int (1 : Int32))])) _
      exact retN X37 hx (t := .boolean) Bd.returns (by simp) (hb hby at_235) hr
    · show Qrm0 Z q0 q1 q2 q3 q4 q5 ca cl val h0 n0 _ T37.heap _
      rw [e37]
      exact ⟨rfl, N37⟩
set_option maxRecDepth 65536 in
set_option maxHeartbeats 40000000 in
theorem comes_1 {Post : Tables → Env → Array Value → State → Outcome → State → Prop} (hpost : ∀ tb e args s v u, (limb_1_1.after args s (.returned v) u = true ∧ limb_1_2.after args s (.returned v) u = true ∧ True) → FrameEnd s (.returned v) u (Jvm.fieldLocs frame_1_writes args s ++ Jvm.arrayLocs frame_1_arrays args s ++ Jvm.staticLocs frame_1_statics s) 16 128 → Post tb e args s (.returned v) u) :
    ArmFor flags0 classFile x code maxLocals ret World_1 tables_1 room_1 Calls_1 rest_1 Pre_1 Post := by
  intro l hfl _ _ p e ha hc hk s m args below hf hA hF happ hP
  obtain ⟨hcalls, hrest, hpre⟩ := hP
  obtain ⟨-, -, -, hnamed, -, -, -, hat⟩ := (Spec.applies_iff hf).mp happ
  obtain ⟨hg, hn⟩ := and_e (Cond.before_iff.mp (show (Jvm.Cond.and given_1 narrow_1).before args s = true from hpre))
  obtain ⟨gg1, gg2⟩ := and_e hg
  obtain ⟨gg3, gg4⟩ := and_e gg2
  obtain ⟨gg5, gg6⟩ := and_e gg4
  obtain ⟨gg7, gg8⟩ := and_e gg6
  obtain ⟨gg9, gg10⟩ := and_e gg8
  obtain ⟨gg11, gg12⟩ := and_e gg10
  obtain ⟨w0, w1, w2, w3, w4, w5, rfl⟩ : ∃ w0 w1 w2 w3 w4 w5 : Value, args = #[w0, w1, w2, w3, w4, w5] := by
    have hs : args.size = 6 := by simpa [Cond.value, given_1] using gg1
    obtain ⟨L⟩ := args
    match L, hs with
    | [w0, w1, w2, w3, w4, w5], _ => exact ⟨w0, w1, w2, w3, w4, w5, rfl⟩
  have hw := fun d (hd : d ∈ tables_1) => atoms_spec (ws := Jvm.Cond.code x code maxLocals ret :: tables_1) hat d (List.mem_cons_of_mem _ hd)
  have hfit : Fit s := fun {y c} hc i hi => by
    obtain ⟨ha, rfl⟩ := Array.getElem?_eq_some_iff.mp hc
    have q := List.all_eq_true.mp ((Array.all_eq_true_iff_forall_mem.mp hF) _ (Array.getElem_mem ha)) i (List.mem_range.mpr hi)
    simpa [Array.getElem?_eq_getElem hi] using q
  obtain ⟨hsets, hown0⟩ := atoms_of _ (rest_1_c_eq ▸ (show rest_1_c.before _ s = true from hrest))
  have hr0 := Cond.before_iff.mp hown0
  obtain ⟨i0, ei0⟩ := isL_v gg3
  obtain rfl : w0 = (.long i0) := Option.some.inj ei0
  obtain ⟨i1, ei1⟩ := isL_v gg5
  obtain rfl : w1 = (.long i1) := Option.some.inj ei1
  obtain ⟨i2, ei2⟩ := isL_v gg7
  obtain rfl : w2 = (.long i2) := Option.some.inj ei2
  obtain ⟨i3, ei3⟩ := isL_v gg9
  obtain rfl : w3 = (.long i3) := Option.some.inj ei3
  obtain ⟨i4, ei4⟩ := isL_v gg11
  obtain rfl : w4 = (.long i4) := Option.some.inj ei4
  obtain ⟨i5, ei5⟩ := isL_v gg12
  obtain rfl : w5 = (.long i5) := Option.some.inj ei5
  obtain ⟨ca, evc⟩ := exa_v (Cond.before_iff.mp (hsets _ (List.mem_of_getElem? (i := 3) rfl)))
  have S_cache := Sta.start evc (Or.inl (hsets _ (List.mem_of_getElem? (i := 1) rfl)))
  obtain ⟨cl, Ac⟩ := Arr.start evc (Cond.before_iff.mp (hsets _ (List.mem_of_getElem? (i := 2) rfl)))
  obtain ⟨q1, q2⟩ := own_len evc Ac (own_eqi (Cond.before_iff.mp (hsets _ (List.mem_of_getElem? (i := 4) rfl))))
  have BX := Bxs.start (val := fun j => .long (j - 128).toInt64) (fun _ => evc) Ac q1 q2 (by decide) (Cond.before_iff.mp (hsets _ (List.mem_of_getElem? (i := 5) rfl))) (fun X j nn hX => eqv_l (i2l_at (own_sub (idx_at nn) (Term.int_eval 128))) hX)
  obtain ⟨n, o, h1, h2, h3, _, L, rfl, ⟨rfl, N⟩, hq⟩ := rm0 l s _ hw tables_1 i0 i1 i2 i3 i4 i5 ca cl _ s.heap s.heap.size (Old.start s) S_cache BX p e ha hc hk s m _ below hf ((Spec.applies_iff_loose hf).mp happ).1 ⟨rfl, State.Warmed39.refl s, rfl⟩ trivial
  refine ⟨n, _, h1, h2, h3, hpost _ _ _ _ _ _ ⟨Cond.after_iff.mpr rfl, Cond.after_iff.mpr (eq_i res_at (Term.int_eval (1)) rfl), trivial⟩ ⟨hq.1, hq.2.1, (hq.2.2.sift fun y hy => Or.inr (N y hy)).mono (by decide) (by decide)⟩⟩
theorem main_1_1 : Claimed_1_1 := comes_1 fun _ _ _ _ _ _ h hF => ⟨h.1, hF⟩
theorem main_1_2 : Claimed_1_2 := comes_1 fun _ _ _ _ _ _ h hF => ⟨h.2.1, hF⟩
end Jvm.Pilot.@@N@@
namespace Jvm.Pilot.@@N@@
open Jvm Jvm.ClassFile Sem Op Lib Jvm.Free Jvm.Stand Jvm.Pilot.@@N@@.Jvm.D
/-! MADE BY PROGRAM (witnessworld.py) out of the Statement's table words and the real class files: 16 classes; the members and pool entries that the words name. The judged class is class 1, her method 1. -/
namespace start1
open Jvm.ClassFile
def u (s : String) : CpInfo := .utf8 (stringToUtf16 s)
/-- a pool by its gaps: so many unusable entries, then the entry; so many at the end -/
def gap : Nat → List CpInfo → List CpInfo
  | 0, r => r
  | n + 1, r => .unusable :: gap n r
def poolList (es : List (Nat × CpInfo)) (last : Nat) : List CpInfo := es.foldr (fun e r => gap e.1 (e.2 :: r)) (gap last [])
def pool (es : List (Nat × CpInfo)) (last : Nat) : Array CpInfo := ⟨poolList es last⟩
def fileOf (pool : Array CpInfo) (this : Nat) (attrs : Array Attribute := #[]) (ms : Array MethodInfo := #[]) (fl : Nat := 33) (sup : Nat := 0) (ifs : Array Nat := #[]) (fds : Array FieldInfo := #[]) : ClassFile where
  minorVersion := 0
  majorVersion := 65
  constantPool := pool
  accessFlags := fl
  thisClass := this
  superClass := sup
  interfaces := ifs
  fields := fds
  methods := ms
  attributes := attrs
def plain (name : String) (sup : Option ClassId) : Class where
  name := name
  kind := .ordinary
  loader := none
  accessFlags := 33
  super := sup
  interfaces := #[]
  cf := none
  fields := #[]
  methods := #[]
  instanceTypes := #[]
  staticTypes := #[]
  resolved := #[]
  callSites := []
  init := .initialized
  statics := none
  mirror := none

def pool0 : Array CpInfo := pool [(5, u "<init>"), (0, u "()V"), (1, .class_ 10), (1, u "java/lang/Object")] 113

def k0c0 : Code := { maxStack := 0, maxLocals := 1, code := object_method_1_code, exceptionTable := #[], attributes := #[] }
def k0m0 : Method := { name := "<init>", desc := "()V", sig := { parameters := [], returnType := none }, accessFlags := 1, code := some k0c0 }
/-- java/lang/Object -/
def k0 : Class := { plain "java/lang/Object" none with
  accessFlags := 33
  interfaces := #[]
  cf := some (fileOf pool0 8 #[] #[{ accessFlags := 1, nameIndex := 5, descriptorIndex := 6, attributes := #[] }] 33 0 #[] #[])
  fields := #[]
  methods := #[k0m0]
  instanceTypes := #[]
  staticTypes := #[]
  resolved := Array.replicate 124 none
  statics := none }

def pool1 : Array CpInfo := pool [(2, .class_ 4), (1, u "java/lang/Object"), (0, u "<init>"), (0, u "()V"), (0, .class_ 8), (0, u "com/example/stops_to_routes/stopstoroutes/planner/Break"), (0, .methodref 7 10), (0, .nameAndType 5 11), (0, u "(JJJ)V"), (0, .methodref 13 14), (0, .class_ 15), (0, .nameAndType 16 17), (0, u "java/lang/Long"), (0, u "valueOf"), (0, u "(J)Ljava/lang/Long;"), (0, .methodref 7 19), (0, .nameAndType 20 21), (0, u "equals"), (0, u "(Ljava/lang/Object;)Z"), (0, .class_ 23), (0, u "com/example/stops_to_routes/stopstoroutes/planner/BreakEqualsPinLaw"), (2, u "law"), (0, u "(JJJJJJ)Z")] 3

def k1m0 : Method := { name := "<init>", desc := "()V", sig := { parameters := [], returnType := none }, accessFlags := 1, code := none }
def k1c1 : Code := { maxStack := 8, maxLocals := 24, code := code, exceptionTable := #[], attributes := #[] }
def k1m1 : Method := { name := "law", desc := "(JJJJJJ)Z", sig := { parameters := [.long, .long, .long, .long, .long, .long], returnType := some .boolean }, accessFlags := 9, code := some k1c1 }
/-- com/example/stops_to_routes/stopstoroutes/planner/BreakEqualsPinLaw -/
def k1 : Class := { plain "com/example/stops_to_routes/stopstoroutes/planner/BreakEqualsPinLaw" (some 0) with
  accessFlags := 49
  interfaces := #[]
  cf := some (fileOf pool1 22 #[] #[{ accessFlags := 1, nameIndex := 5, descriptorIndex := 6, attributes := #[] }, { accessFlags := 9, nameIndex := 26, descriptorIndex := 27, attributes := #[] }] 49 2 #[] #[])
  fields := #[]
  methods := #[k1m0, k1m1]
  instanceTypes := #[]
  staticTypes := #[]
  resolved := Array.replicate 31 none
  statics := none }

def pool2 : Array CpInfo := pool [(1, .methodref 2 3), (0, .class_ 4), (0, .nameAndType 5 6), (0, u "java/lang/Object"), (0, u "<init>"), (0, u "()V"), (0, .fieldref 8 9), (0, .class_ 10), (0, .nameAndType 11 12), (0, u "com/example/stops_to_routes/stopstoroutes/planner/Break"), (0, u "earliest"), (0, u "J"), (0, .fieldref 8 14), (0, .nameAndType 15 12), (0, u "latest"), (0, .fieldref 8 17), (0, .nameAndType 18 12), (0, u "duration"), (6, u "(JJJ)V"), (3, u "equals"), (0, u "(Ljava/lang/Object;)Z")] 4

def k2c0 : Code := { maxStack := 3, maxLocals := 7, code := prog_5_method_1_code, exceptionTable := #[], attributes := #[] }
def k2m0 : Method := { name := "<init>", desc := "(JJJ)V", sig := { parameters := [.long, .long, .long], returnType := none }, accessFlags := 1, code := some k2c0 }
def k2c1 : Code := { maxStack := 4, maxLocals := 3, code := prog_5_method_5_code, exceptionTable := #[], attributes := #[] }
def k2m1 : Method := { name := "equals", desc := "(Ljava/lang/Object;)Z", sig := { parameters := [(.object "java/lang/Object")], returnType := some .boolean }, accessFlags := 1, code := some k2c1 }
/-- com/example/stops_to_routes/stopstoroutes/planner/Break -/
def k2 : Class := { plain "com/example/stops_to_routes/stopstoroutes/planner/Break" (some 0) with
  accessFlags := 49
  interfaces := #[]
  cf := some (fileOf pool2 8 #[] #[{ accessFlags := 1, nameIndex := 5, descriptorIndex := 25, attributes := #[] }, { accessFlags := 1, nameIndex := 29, descriptorIndex := 30, attributes := #[] }] 49 2 #[] #[{ accessFlags := 18, nameIndex := 11, descriptorIndex := 12, attributes := #[] }, { accessFlags := 18, nameIndex := 15, descriptorIndex := 12, attributes := #[] }, { accessFlags := 18, nameIndex := 18, descriptorIndex := 12, attributes := #[] }])
  fields := #[{ name := "earliest", type := .long, accessFlags := 18, slot := 0, constantValue := 0 }, { name := "latest", type := .long, accessFlags := 18, slot := 1, constantValue := 0 }, { name := "duration", type := .long, accessFlags := 18, slot := 2, constantValue := 0 }]
  methods := #[k2m0, k2m1]
  instanceTypes := #[.long, .long, .long]
  staticTypes := #[]
  resolved := Array.replicate 35 none
  statics := none }

def pool3 : Array CpInfo := pool [(1, .class_ 2), (0, u "java/io/Serializable"), (0, .class_ 4), (0, u "java/lang/Object")] 2

/-- java/io/Serializable -/
def k3 : Class := { plain "java/io/Serializable" (some 0) with
  accessFlags := 1537
  interfaces := #[]
  cf := some (fileOf pool3 1 #[] #[] 1537 3 #[] #[])
  fields := #[]
  methods := #[]
  instanceTypes := #[]
  staticTypes := #[]
  resolved := Array.replicate 7 none
  statics := none }

def pool4 : Array CpInfo := pool [(1, .methodref 2 3), (0, .class_ 4), (0, .nameAndType 5 6), (0, u "java/lang/Object"), (0, u "<init>"), (0, u "()V"), (1, .class_ 10), (1, u "java/lang/Number"), (2, .class_ 14), (0, u "java/io/Serializable"), (0, u "serialVersionUID"), (0, u "J")] 20

def k4c0 : Code := { maxStack := 1, maxLocals := 1, code := jdk_18_method_1_code, exceptionTable := #[], attributes := #[] }
def k4m0 : Method := { name := "<init>", desc := "()V", sig := { parameters := [], returnType := none }, accessFlags := 1, code := some k4c0 }
/-- java/lang/Number -/
def k4 : Class := { plain "java/lang/Number" (some 0) with
  accessFlags := 1057
  interfaces := #[3]
  cf := some (fileOf pool4 8 #[] #[{ accessFlags := 1, nameIndex := 5, descriptorIndex := 6, attributes := #[] }] 1057 2 #[13] #[{ accessFlags := 26, nameIndex := 15, descriptorIndex := 16, attributes := #[] }])
  fields := #[{ name := "serialVersionUID", type := .long, accessFlags := 26, slot := 0, constantValue := 0 }]
  methods := #[k4m0]
  instanceTypes := #[]
  staticTypes := #[.long]
  resolved := Array.replicate 37 none
  statics := none }

def pool5 : Array CpInfo := pool [(1, .class_ 2), (0, u "java/lang/Comparable"), (0, .class_ 4), (0, u "java/lang/Object")] 7

/-- java/lang/Comparable -/
def k5 : Class := { plain "java/lang/Comparable" (some 0) with
  accessFlags := 1537
  interfaces := #[]
  cf := some (fileOf pool5 1 #[] #[] 1537 3 #[] #[])
  fields := #[]
  methods := #[]
  instanceTypes := #[]
  staticTypes := #[]
  resolved := Array.replicate 12 none
  statics := none }

def pool6 : Array CpInfo := pool [(1, .class_ 2), (0, u "java/lang/constant/Constable"), (0, .class_ 4), (0, u "java/lang/Object")] 6

/-- java/lang/constant/Constable -/
def k6 : Class := { plain "java/lang/constant/Constable" (some 0) with
  accessFlags := 1537
  interfaces := #[]
  cf := some (fileOf pool6 1 #[] #[] 1537 3 #[] #[])
  fields := #[]
  methods := #[]
  instanceTypes := #[]
  staticTypes := #[]
  resolved := Array.replicate 11 none
  statics := none }

def pool7 : Array CpInfo := pool [(1, .class_ 2), (0, u "java/lang/constant/ConstantDesc"), (0, .class_ 4), (0, u "java/lang/Object")] 32

/-- java/lang/constant/ConstantDesc -/
def k7 : Class := { plain "java/lang/constant/ConstantDesc" (some 0) with
  accessFlags := 1537
  interfaces := #[]
  cf := some (fileOf pool7 1 #[] #[] 1537 3 #[] #[])
  fields := #[]
  methods := #[]
  instanceTypes := #[]
  staticTypes := #[]
  resolved := Array.replicate 37 none
  statics := none }

def pool8 : Array CpInfo := pool [(1, .class_ 2), (0, u "java/lang/Long"), (55, .nameAndType 59 60), (0, u "<init>"), (0, u "()V"), (24, u "valueOf"), (143, u "(J)Ljava/lang/Long;"), (0, .long 18446744073709551488), (1, .long 127), (1, .fieldref 235 236), (0, .class_ 237), (0, .nameAndType 238 239), (0, u "java/lang/Long$LongCache"), (0, u "cache"), (0, u "[Ljava/lang/Long;"), (0, .methodref 1 241), (0, .nameAndType 59 242), (0, u "(J)V"), (27, .methodref 271 58), (0, .class_ 272), (0, u "java/lang/Number"), (0, .fieldref 1 274), (0, .nameAndType 275 276), (0, u "value"), (0, u "J"), (84, u "TYPE"), (0, u "Ljava/lang/Class;"), (0, .class_ 364), (0, u "java/lang/Comparable"), (0, .class_ 366), (0, u "java/lang/constant/Constable"), (0, .class_ 368), (0, u "java/lang/constant/ConstantDesc"), (0, u "MIN_VALUE"), (1, u "MAX_VALUE"), (4, u "SIZE"), (0, u "I"), (1, u "BYTES"), (1, u "serialVersionUID")] 142

def k8c0 : Code := { maxStack := 4, maxLocals := 3, code := jdk_35_method_24_code, exceptionTable := #[], attributes := #[] }
def k8m0 : Method := { name := "valueOf", desc := "(J)Ljava/lang/Long;", sig := { parameters := [.long], returnType := some (.object "java/lang/Long") }, accessFlags := 9, code := some k8c0 }
def k8c1 : Code := { maxStack := 3, maxLocals := 3, code := jdk_35_method_26_code, exceptionTable := #[], attributes := #[] }
def k8m1 : Method := { name := "<init>", desc := "(J)V", sig := { parameters := [.long], returnType := none }, accessFlags := 1, code := some k8c1 }
/-- java/lang/Long -/
def k8 : Class := { plain "java/lang/Long" (some 4) with
  accessFlags := 49
  interfaces := #[5, 6, 7]
  cf := some (fileOf pool8 1 #[.nestMembers #[235]] #[{ accessFlags := 9, nameIndex := 85, descriptorIndex := 229, attributes := #[] }, { accessFlags := 1, nameIndex := 59, descriptorIndex := 242, attributes := #[] }] 49 271 #[363, 365, 367] #[{ accessFlags := 25, nameIndex := 369, descriptorIndex := 276, attributes := #[] }, { accessFlags := 25, nameIndex := 371, descriptorIndex := 276, attributes := #[] }, { accessFlags := 25, nameIndex := 361, descriptorIndex := 362, attributes := #[] }, { accessFlags := 18, nameIndex := 275, descriptorIndex := 276, attributes := #[] }, { accessFlags := 25, nameIndex := 376, descriptorIndex := 377, attributes := #[] }, { accessFlags := 25, nameIndex := 379, descriptorIndex := 377, attributes := #[] }, { accessFlags := 26, nameIndex := 381, descriptorIndex := 276, attributes := #[] }])
  fields := #[{ name := "MIN_VALUE", type := .long, accessFlags := 25, slot := 0, constantValue := 0 }, { name := "MAX_VALUE", type := .long, accessFlags := 25, slot := 1, constantValue := 0 }, { name := "TYPE", type := (.object "java/lang/Class"), accessFlags := 25, slot := 2, constantValue := 0 }, { name := "value", type := .long, accessFlags := 18, slot := 0, constantValue := 0 }, { name := "SIZE", type := .int, accessFlags := 25, slot := 3, constantValue := 0 }, { name := "BYTES", type := .int, accessFlags := 25, slot := 4, constantValue := 0 }, { name := "serialVersionUID", type := .long, accessFlags := 26, slot := 5, constantValue := 0 }]
  methods := #[k8m0, k8m1]
  instanceTypes := #[.long]
  staticTypes := #[.long, .long, (.object "java/lang/Class"), .int, .int, .long]
  resolved := Array.replicate 524 none
  statics := none }

def pool9 : Array CpInfo := pool [(2, .class_ 4), (1, u "java/lang/Object"), (0, u "<init>"), (0, u "()V"), (0, .class_ 8), (0, u "java/lang/Long"), (7, .class_ 18), (1, u "java/lang/Long$LongCache"), (0, u "$assertionsDisabled"), (0, u "Z"), (8, u "archivedCache"), (0, u "[Ljava/lang/Long;"), (7, u "cache")] 24

def k9m0 : Method := { name := "<init>", desc := "()V", sig := { parameters := [], returnType := none }, accessFlags := 2, code := none }
/-- java/lang/Long$LongCache -/
def k9 : Class := { plain "java/lang/Long$LongCache" (some 0) with
  accessFlags := 48
  interfaces := #[]
  cf := some (fileOf pool9 16 #[.nestHost 7] #[{ accessFlags := 2, nameIndex := 5, descriptorIndex := 6, attributes := #[] }] 48 2 #[] #[{ accessFlags := 24, nameIndex := 38, descriptorIndex := 30, attributes := #[] }, { accessFlags := 8, nameIndex := 29, descriptorIndex := 30, attributes := #[] }, { accessFlags := 4120, nameIndex := 19, descriptorIndex := 20, attributes := #[] }])
  fields := #[{ name := "cache", type := (.array (.object "java/lang/Long")), accessFlags := 24, slot := 0, constantValue := 0 }, { name := "archivedCache", type := (.array (.object "java/lang/Long")), accessFlags := 8, slot := 1, constantValue := 0 }, { name := "$assertionsDisabled", type := .boolean, accessFlags := 4120, slot := 2, constantValue := 0 }]
  methods := #[k9m0]
  instanceTypes := #[]
  staticTypes := #[(.array (.object "java/lang/Long")), (.array (.object "java/lang/Long")), .boolean]
  resolved := Array.replicate 63 none
  statics := some 0 }

def pool10 : Array CpInfo := pool [(1, u "java/lang/Cloneable"), (0, .class_ 1), (0, u "java/lang/Object"), (0, .class_ 3)] 3

/-- java/lang/Cloneable -/
def k10 : Class := { plain "java/lang/Cloneable" (some 0) with
  accessFlags := 1537
  interfaces := #[]
  cf := some (fileOf pool10 2 #[] #[] 1537 4 #[] #[])
  fields := #[]
  methods := #[]
  instanceTypes := #[]
  staticTypes := #[]
  resolved := Array.replicate 8 none
  statics := none }

/-- the primitive byte -/
def k11 : Class := { plain "byte" none with kind := .primitive 'B', accessFlags := 0x411 }
/-- [B -/
def k12 : Class := { plain "[B" (some 0) with kind := .array 11 .byte, interfaces := #[10, 3], accessFlags := 1041 }

/-- the primitive int -/
def k13 : Class := { plain "int" none with kind := .primitive 'I', accessFlags := 0x411 }
/-- [I -/
def k14 : Class := { plain "[I" (some 0) with kind := .array 13 .int, interfaces := #[10, 3], accessFlags := 1041 }

/-- [Ljava/lang/Long; -/
def k15 : Class := { plain "[Ljava/lang/Long;" (some 0) with kind := .array 8 (.object "java/lang/Long"), interfaces := #[10, 3], accessFlags := 1041 }

def heap : Heap := #[{ cls := 9, slots := #[.ref 1, .null, .int 0], vm := .statics 9 },
  { cls := 15, slots := #[.ref 2, .ref 3, .ref 4, .ref 5, .ref 6, .ref 7, .ref 8, .ref 9, .ref 10, .ref 11, .ref 12, .ref 13, .ref 14, .ref 15, .ref 16, .ref 17, .ref 18, .ref 19, .ref 20, .ref 21, .ref 22, .ref 23, .ref 24, .ref 25, .ref 26, .ref 27, .ref 28, .ref 29, .ref 30, .ref 31, .ref 32, .ref 33, .ref 34, .ref 35, .ref 36, .ref 37, .ref 38, .ref 39, .ref 40, .ref 41, .ref 42, .ref 43, .ref 44, .ref 45, .ref 46, .ref 47, .ref 48, .ref 49, .ref 50, .ref 51, .ref 52, .ref 53, .ref 54, .ref 55, .ref 56, .ref 57, .ref 58, .ref 59, .ref 60, .ref 61, .ref 62, .ref 63, .ref 64, .ref 65, .ref 66, .ref 67, .ref 68, .ref 69, .ref 70, .ref 71, .ref 72, .ref 73, .ref 74, .ref 75, .ref 76, .ref 77, .ref 78, .ref 79, .ref 80, .ref 81, .ref 82, .ref 83, .ref 84, .ref 85, .ref 86, .ref 87, .ref 88, .ref 89, .ref 90, .ref 91, .ref 92, .ref 93, .ref 94, .ref 95, .ref 96, .ref 97, .ref 98, .ref 99, .ref 100, .ref 101, .ref 102, .ref 103, .ref 104, .ref 105, .ref 106, .ref 107, .ref 108, .ref 109, .ref 110, .ref 111, .ref 112, .ref 113, .ref 114, .ref 115, .ref 116, .ref 117, .ref 118, .ref 119, .ref 120, .ref 121, .ref 122, .ref 123, .ref 124, .ref 125, .ref 126, .ref 127, .ref 128, .ref 129, .ref 130, .ref 131, .ref 132, .ref 133, .ref 134, .ref 135, .ref 136, .ref 137, .ref 138, .ref 139, .ref 140, .ref 141, .ref 142, .ref 143, .ref 144, .ref 145, .ref 146, .ref 147, .ref 148, .ref 149, .ref 150, .ref 151, .ref 152, .ref 153, .ref 154, .ref 155, .ref 156, .ref 157, .ref 158, .ref 159, .ref 160, .ref 161, .ref 162, .ref 163, .ref 164, .ref 165, .ref 166, .ref 167, .ref 168, .ref 169, .ref 170, .ref 171, .ref 172, .ref 173, .ref 174, .ref 175, .ref 176, .ref 177, .ref 178, .ref 179, .ref 180, .ref 181, .ref 182, .ref 183, .ref 184, .ref 185, .ref 186, .ref 187, .ref 188, .ref 189, .ref 190, .ref 191, .ref 192, .ref 193, .ref 194, .ref 195, .ref 196, .ref 197, .ref 198, .ref 199, .ref 200, .ref 201, .ref 202, .ref 203, .ref 204, .ref 205, .ref 206, .ref 207, .ref 208, .ref 209, .ref 210, .ref 211, .ref 212, .ref 213, .ref 214, .ref 215, .ref 216, .ref 217, .ref 218, .ref 219, .ref 220, .ref 221, .ref 222, .ref 223, .ref 224, .ref 225, .ref 226, .ref 227, .ref 228, .ref 229, .ref 230, .ref 231, .ref 232, .ref 233, .ref 234, .ref 235, .ref 236, .ref 237, .ref 238, .ref 239, .ref 240, .ref 241, .ref 242, .ref 243, .ref 244, .ref 245, .ref 246, .ref 247, .ref 248, .ref 249, .ref 250, .ref 251, .ref 252, .ref 253, .ref 254, .ref 255, .ref 256, .ref 257], vm := .none },
  { cls := 8, slots := #[.long (-128)], vm := .none },
  { cls := 8, slots := #[.long (-127)], vm := .none },
  { cls := 8, slots := #[.long (-126)], vm := .none },
  { cls := 8, slots := #[.long (-125)], vm := .none },
  { cls := 8, slots := #[.long (-124)], vm := .none },
  { cls := 8, slots := #[.long (-123)], vm := .none },
  { cls := 8, slots := #[.long (-122)], vm := .none },
  { cls := 8, slots := #[.long (-121)], vm := .none },
  { cls := 8, slots := #[.long (-120)], vm := .none },
  { cls := 8, slots := #[.long (-119)], vm := .none },
  { cls := 8, slots := #[.long (-118)], vm := .none },
  { cls := 8, slots := #[.long (-117)], vm := .none },
  { cls := 8, slots := #[.long (-116)], vm := .none },
  { cls := 8, slots := #[.long (-115)], vm := .none },
  { cls := 8, slots := #[.long (-114)], vm := .none },
  { cls := 8, slots := #[.long (-113)], vm := .none },
  { cls := 8, slots := #[.long (-112)], vm := .none },
  { cls := 8, slots := #[.long (-111)], vm := .none },
  { cls := 8, slots := #[.long (-110)], vm := .none },
  { cls := 8, slots := #[.long (-109)], vm := .none },
  { cls := 8, slots := #[.long (-108)], vm := .none },
  { cls := 8, slots := #[.long (-107)], vm := .none },
  { cls := 8, slots := #[.long (-106)], vm := .none },
  { cls := 8, slots := #[.long (-105)], vm := .none },
  { cls := 8, slots := #[.long (-104)], vm := .none },
  { cls := 8, slots := #[.long (-103)], vm := .none },
  { cls := 8, slots := #[.long (-102)], vm := .none },
  { cls := 8, slots := #[.long (-101)], vm := .none },
  { cls := 8, slots := #[.long (-100)], vm := .none },
  { cls := 8, slots := #[.long (-99)], vm := .none },
  { cls := 8, slots := #[.long (-98)], vm := .none },
  { cls := 8, slots := #[.long (-97)], vm := .none },
  { cls := 8, slots := #[.long (-96)], vm := .none },
  { cls := 8, slots := #[.long (-95)], vm := .none },
  { cls := 8, slots := #[.long (-94)], vm := .none },
  { cls := 8, slots := #[.long (-93)], vm := .none },
  { cls := 8, slots := #[.long (-92)], vm := .none },
  { cls := 8, slots := #[.long (-91)], vm := .none },
  { cls := 8, slots := #[.long (-90)], vm := .none },
  { cls := 8, slots := #[.long (-89)], vm := .none },
  { cls := 8, slots := #[.long (-88)], vm := .none },
  { cls := 8, slots := #[.long (-87)], vm := .none },
  { cls := 8, slots := #[.long (-86)], vm := .none },
  { cls := 8, slots := #[.long (-85)], vm := .none },
  { cls := 8, slots := #[.long (-84)], vm := .none },
  { cls := 8, slots := #[.long (-83)], vm := .none },
  { cls := 8, slots := #[.long (-82)], vm := .none },
  { cls := 8, slots := #[.long (-81)], vm := .none },
  { cls := 8, slots := #[.long (-80)], vm := .none },
  { cls := 8, slots := #[.long (-79)], vm := .none },
  { cls := 8, slots := #[.long (-78)], vm := .none },
  { cls := 8, slots := #[.long (-77)], vm := .none },
  { cls := 8, slots := #[.long (-76)], vm := .none },
  { cls := 8, slots := #[.long (-75)], vm := .none },
  { cls := 8, slots := #[.long (-74)], vm := .none },
  { cls := 8, slots := #[.long (-73)], vm := .none },
  { cls := 8, slots := #[.long (-72)], vm := .none },
  { cls := 8, slots := #[.long (-71)], vm := .none },
  { cls := 8, slots := #[.long (-70)], vm := .none },
  { cls := 8, slots := #[.long (-69)], vm := .none },
  { cls := 8, slots := #[.long (-68)], vm := .none },
  { cls := 8, slots := #[.long (-67)], vm := .none },
  { cls := 8, slots := #[.long (-66)], vm := .none },
  { cls := 8, slots := #[.long (-65)], vm := .none },
  { cls := 8, slots := #[.long (-64)], vm := .none },
  { cls := 8, slots := #[.long (-63)], vm := .none },
  { cls := 8, slots := #[.long (-62)], vm := .none },
  { cls := 8, slots := #[.long (-61)], vm := .none },
  { cls := 8, slots := #[.long (-60)], vm := .none },
  { cls := 8, slots := #[.long (-59)], vm := .none },
  { cls := 8, slots := #[.long (-58)], vm := .none },
  { cls := 8, slots := #[.long (-57)], vm := .none },
  { cls := 8, slots := #[.long (-56)], vm := .none },
  { cls := 8, slots := #[.long (-55)], vm := .none },
  { cls := 8, slots := #[.long (-54)], vm := .none },
  { cls := 8, slots := #[.long (-53)], vm := .none },
  { cls := 8, slots := #[.long (-52)], vm := .none },
  { cls := 8, slots := #[.long (-51)], vm := .none },
  { cls := 8, slots := #[.long (-50)], vm := .none },
  { cls := 8, slots := #[.long (-49)], vm := .none },
  { cls := 8, slots := #[.long (-48)], vm := .none },
  { cls := 8, slots := #[.long (-47)], vm := .none },
  { cls := 8, slots := #[.long (-46)], vm := .none },
  { cls := 8, slots := #[.long (-45)], vm := .none },
  { cls := 8, slots := #[.long (-44)], vm := .none },
  { cls := 8, slots := #[.long (-43)], vm := .none },
  { cls := 8, slots := #[.long (-42)], vm := .none },
  { cls := 8, slots := #[.long (-41)], vm := .none },
  { cls := 8, slots := #[.long (-40)], vm := .none },
  { cls := 8, slots := #[.long (-39)], vm := .none },
  { cls := 8, slots := #[.long (-38)], vm := .none },
  { cls := 8, slots := #[.long (-37)], vm := .none },
  { cls := 8, slots := #[.long (-36)], vm := .none },
  { cls := 8, slots := #[.long (-35)], vm := .none },
  { cls := 8, slots := #[.long (-34)], vm := .none },
  { cls := 8, slots := #[.long (-33)], vm := .none },
  { cls := 8, slots := #[.long (-32)], vm := .none },
  { cls := 8, slots := #[.long (-31)], vm := .none },
  { cls := 8, slots := #[.long (-30)], vm := .none },
  { cls := 8, slots := #[.long (-29)], vm := .none },
  { cls := 8, slots := #[.long (-28)], vm := .none },
  { cls := 8, slots := #[.long (-27)], vm := .none },
  { cls := 8, slots := #[.long (-26)], vm := .none },
  { cls := 8, slots := #[.long (-25)], vm := .none },
  { cls := 8, slots := #[.long (-24)], vm := .none },
  { cls := 8, slots := #[.long (-23)], vm := .none },
  { cls := 8, slots := #[.long (-22)], vm := .none },
  { cls := 8, slots := #[.long (-21)], vm := .none },
  { cls := 8, slots := #[.long (-20)], vm := .none },
  { cls := 8, slots := #[.long (-19)], vm := .none },
  { cls := 8, slots := #[.long (-18)], vm := .none },
  { cls := 8, slots := #[.long (-17)], vm := .none },
  { cls := 8, slots := #[.long (-16)], vm := .none },
  { cls := 8, slots := #[.long (-15)], vm := .none },
  { cls := 8, slots := #[.long (-14)], vm := .none },
  { cls := 8, slots := #[.long (-13)], vm := .none },
  { cls := 8, slots := #[.long (-12)], vm := .none },
  { cls := 8, slots := #[.long (-11)], vm := .none },
  { cls := 8, slots := #[.long (-10)], vm := .none },
  { cls := 8, slots := #[.long (-9)], vm := .none },
  { cls := 8, slots := #[.long (-8)], vm := .none },
  { cls := 8, slots := #[.long (-7)], vm := .none },
  { cls := 8, slots := #[.long (-6)], vm := .none },
  { cls := 8, slots := #[.long (-5)], vm := .none },
  { cls := 8, slots := #[.long (-4)], vm := .none },
  { cls := 8, slots := #[.long (-3)], vm := .none },
  { cls := 8, slots := #[.long (-2)], vm := .none },
  { cls := 8, slots := #[.long (-1)], vm := .none },
  { cls := 8, slots := #[.long (0)], vm := .none },
  { cls := 8, slots := #[.long (1)], vm := .none },
  { cls := 8, slots := #[.long (2)], vm := .none },
  { cls := 8, slots := #[.long (3)], vm := .none },
  { cls := 8, slots := #[.long (4)], vm := .none },
  { cls := 8, slots := #[.long (5)], vm := .none },
  { cls := 8, slots := #[.long (6)], vm := .none },
  { cls := 8, slots := #[.long (7)], vm := .none },
  { cls := 8, slots := #[.long (8)], vm := .none },
  { cls := 8, slots := #[.long (9)], vm := .none },
  { cls := 8, slots := #[.long (10)], vm := .none },
  { cls := 8, slots := #[.long (11)], vm := .none },
  { cls := 8, slots := #[.long (12)], vm := .none },
  { cls := 8, slots := #[.long (13)], vm := .none },
  { cls := 8, slots := #[.long (14)], vm := .none },
  { cls := 8, slots := #[.long (15)], vm := .none },
  { cls := 8, slots := #[.long (16)], vm := .none },
  { cls := 8, slots := #[.long (17)], vm := .none },
  { cls := 8, slots := #[.long (18)], vm := .none },
  { cls := 8, slots := #[.long (19)], vm := .none },
  { cls := 8, slots := #[.long (20)], vm := .none },
  { cls := 8, slots := #[.long (21)], vm := .none },
  { cls := 8, slots := #[.long (22)], vm := .none },
  { cls := 8, slots := #[.long (23)], vm := .none },
  { cls := 8, slots := #[.long (24)], vm := .none },
  { cls := 8, slots := #[.long (25)], vm := .none },
  { cls := 8, slots := #[.long (26)], vm := .none },
  { cls := 8, slots := #[.long (27)], vm := .none },
  { cls := 8, slots := #[.long (28)], vm := .none },
  { cls := 8, slots := #[.long (29)], vm := .none },
  { cls := 8, slots := #[.long (30)], vm := .none },
  { cls := 8, slots := #[.long (31)], vm := .none },
  { cls := 8, slots := #[.long (32)], vm := .none },
  { cls := 8, slots := #[.long (33)], vm := .none },
  { cls := 8, slots := #[.long (34)], vm := .none },
  { cls := 8, slots := #[.long (35)], vm := .none },
  { cls := 8, slots := #[.long (36)], vm := .none },
  { cls := 8, slots := #[.long (37)], vm := .none },
  { cls := 8, slots := #[.long (38)], vm := .none },
  { cls := 8, slots := #[.long (39)], vm := .none },
  { cls := 8, slots := #[.long (40)], vm := .none },
  { cls := 8, slots := #[.long (41)], vm := .none },
  { cls := 8, slots := #[.long (42)], vm := .none },
  { cls := 8, slots := #[.long (43)], vm := .none },
  { cls := 8, slots := #[.long (44)], vm := .none },
  { cls := 8, slots := #[.long (45)], vm := .none },
  { cls := 8, slots := #[.long (46)], vm := .none },
  { cls := 8, slots := #[.long (47)], vm := .none },
  { cls := 8, slots := #[.long (48)], vm := .none },
  { cls := 8, slots := #[.long (49)], vm := .none },
  { cls := 8, slots := #[.long (50)], vm := .none },
  { cls := 8, slots := #[.long (51)], vm := .none },
  { cls := 8, slots := #[.long (52)], vm := .none },
  { cls := 8, slots := #[.long (53)], vm := .none },
  { cls := 8, slots := #[.long (54)], vm := .none },
  { cls := 8, slots := #[.long (55)], vm := .none },
  { cls := 8, slots := #[.long (56)], vm := .none },
  { cls := 8, slots := #[.long (57)], vm := .none },
  { cls := 8, slots := #[.long (58)], vm := .none },
  { cls := 8, slots := #[.long (59)], vm := .none },
  { cls := 8, slots := #[.long (60)], vm := .none },
  { cls := 8, slots := #[.long (61)], vm := .none },
  { cls := 8, slots := #[.long (62)], vm := .none },
  { cls := 8, slots := #[.long (63)], vm := .none },
  { cls := 8, slots := #[.long (64)], vm := .none },
  { cls := 8, slots := #[.long (65)], vm := .none },
  { cls := 8, slots := #[.long (66)], vm := .none },
  { cls := 8, slots := #[.long (67)], vm := .none },
  { cls := 8, slots := #[.long (68)], vm := .none },
  { cls := 8, slots := #[.long (69)], vm := .none },
  { cls := 8, slots := #[.long (70)], vm := .none },
  { cls := 8, slots := #[.long (71)], vm := .none },
  { cls := 8, slots := #[.long (72)], vm := .none },
  { cls := 8, slots := #[.long (73)], vm := .none },
  { cls := 8, slots := #[.long (74)], vm := .none },
  { cls := 8, slots := #[.long (75)], vm := .none },
  { cls := 8, slots := #[.long (76)], vm := .none },
  { cls := 8, slots := #[.long (77)], vm := .none },
  { cls := 8, slots := #[.long (78)], vm := .none },
  { cls := 8, slots := #[.long (79)], vm := .none },
  { cls := 8, slots := #[.long (80)], vm := .none },
  { cls := 8, slots := #[.long (81)], vm := .none },
  { cls := 8, slots := #[.long (82)], vm := .none },
  { cls := 8, slots := #[.long (83)], vm := .none },
  { cls := 8, slots := #[.long (84)], vm := .none },
  { cls := 8, slots := #[.long (85)], vm := .none },
  { cls := 8, slots := #[.long (86)], vm := .none },
  { cls := 8, slots := #[.long (87)], vm := .none },
  { cls := 8, slots := #[.long (88)], vm := .none },
  { cls := 8, slots := #[.long (89)], vm := .none },
  { cls := 8, slots := #[.long (90)], vm := .none },
  { cls := 8, slots := #[.long (91)], vm := .none },
  { cls := 8, slots := #[.long (92)], vm := .none },
  { cls := 8, slots := #[.long (93)], vm := .none },
  { cls := 8, slots := #[.long (94)], vm := .none },
  { cls := 8, slots := #[.long (95)], vm := .none },
  { cls := 8, slots := #[.long (96)], vm := .none },
  { cls := 8, slots := #[.long (97)], vm := .none },
  { cls := 8, slots := #[.long (98)], vm := .none },
  { cls := 8, slots := #[.long (99)], vm := .none },
  { cls := 8, slots := #[.long (100)], vm := .none },
  { cls := 8, slots := #[.long (101)], vm := .none },
  { cls := 8, slots := #[.long (102)], vm := .none },
  { cls := 8, slots := #[.long (103)], vm := .none },
  { cls := 8, slots := #[.long (104)], vm := .none },
  { cls := 8, slots := #[.long (105)], vm := .none },
  { cls := 8, slots := #[.long (106)], vm := .none },
  { cls := 8, slots := #[.long (107)], vm := .none },
  { cls := 8, slots := #[.long (108)], vm := .none },
  { cls := 8, slots := #[.long (109)], vm := .none },
  { cls := 8, slots := #[.long (110)], vm := .none },
  { cls := 8, slots := #[.long (111)], vm := .none },
  { cls := 8, slots := #[.long (112)], vm := .none },
  { cls := 8, slots := #[.long (113)], vm := .none },
  { cls := 8, slots := #[.long (114)], vm := .none },
  { cls := 8, slots := #[.long (115)], vm := .none },
  { cls := 8, slots := #[.long (116)], vm := .none },
  { cls := 8, slots := #[.long (117)], vm := .none },
  { cls := 8, slots := #[.long (118)], vm := .none },
  { cls := 8, slots := #[.long (119)], vm := .none },
  { cls := 8, slots := #[.long (120)], vm := .none },
  { cls := 8, slots := #[.long (121)], vm := .none },
  { cls := 8, slots := #[.long (122)], vm := .none },
  { cls := 8, slots := #[.long (123)], vm := .none },
  { cls := 8, slots := #[.long (124)], vm := .none },
  { cls := 8, slots := #[.long (125)], vm := .none },
  { cls := 8, slots := #[.long (126)], vm := .none },
  { cls := 8, slots := #[.long (127)], vm := .none }]
def classes : Array Class := #[k0, k1, k2, k3, k4, k5, k6, k7, k8, k9, k10, k11, k12, k13, k14, k15]
def interned : List (Array UInt16 × Addr) := []
def slotsUsed : Nat := 515
def theMethod : MethodId := ⟨1, 1⟩
def args0 : Array Value := #[.long 0, .long 1, .long 2, .long 3, .long 4, .long 5]
def aboutOver (below : List Frame) : State where
  vm := { classes := classes, interned := interned.toArray }
  heap := heap
  slotsUsed := slotsUsed
  threads := #[{ frames := .invoking theMethod args0 :: below }]
def below0 : List Frame := [.native { method := ⟨0, 0⟩, args := #[] }]
def about1 : State := aboutOver below0
def p0 : Program := .bare "" "" ""
def e0 : Env := launch0.env 0 0 0
theorem w_frames : about1.frames = Frame.invoking theMethod args0 :: below0 := rfl
set_option maxRecDepth 65536 in
theorem w_args : argsFit about1.vm theMethod args0 = true := by decide +kernel
set_option maxRecDepth 65536 in
theorem w_heap : heapFits about1 = true := by decide +kernel
set_option maxRecDepth 65536 in
theorem w_runnable : about1.curStatus? = some .runnable := by decide +kernel
set_option maxRecDepth 65536 in
theorem w_alone : about1.alone = true := by decide +kernel
set_option maxRecDepth 65536 in
theorem w_named : about1.methodNamed? x = some theMethod := by decide +kernel
set_option maxRecDepth 65536 in
theorem w_hears : about1.hears theMethod below0 = true := by decide +kernel
set_option maxRecDepth 65536 in
theorem w_ripe : about1.ripe theMethod args0 below0 = true := by decide +kernel
theorem w_running : about1.status = .running := rfl
set_option maxRecDepth 65536 in
theorem w_room : about1.hasRoom e0.platform room_1 = true :=
  launch0.hasRoom_least _ room_1 (by decide +kernel) (by decide +kernel) (by decide +kernel) (by decide +kernel) (by decide +kernel) (by decide +kernel)
theorem allAtoms_all (ts : List Jvm.Cond) (a : Array Jvm.Value) (st : Jvm.State) : (allAtoms ts).before a st = ts.all (fun c => c.before a st) := by
  induction ts with
  | nil => rfl
  | cons c t ih =>
    show (Jvm.Cond.and c (allAtoms t)).before a st = _
    rw [Jvm.Cond.before_and, ih, List.all_cons]
def words1 : List Jvm.Cond := Jvm.Cond.code x code maxLocals ret :: tables_1
/-- a 'code' word, met by the world's own term for the bytes: nothing is compared byte by byte -/
theorem code_word {y : MethodName} {bytes : ByteArray} {mx : Nat} {rt : Option FieldType} {a : Array Value} {s : State} {m : MethodId} {meth : Method} {c : Code} (h1 : s.methodNamed? y = some m) (h2 : s.vm.method? m = some meth) (h3 : meth.code = some c) (h4 : c.code = bytes)
    (h5 : (c.maxLocals == mx && c.exceptionTable.isEmpty && decide (c.maxStack ≤ mostOperands) && decide (meth.sig.returnType = rt) && !meth.locks && decide (parseMethodDescriptor y.desc = some meth.sig)) = true) : (Jvm.Cond.code y bytes mx rt).before a s = true := by
  simp only [Bool.and_eq_true, beq_iff_eq, Bool.not_eq_true', decide_eq_true_eq] at h5
  obtain ⟨⟨⟨⟨⟨g1, g2⟩, g3⟩, g4⟩, g5⟩, g6⟩ := h5
  simp [Cond.before, Cond.holds, Cond.value, h1, h2, h3, h4, g1, g2, g3, g4, g5, g6]
def isCode : Jvm.Cond → Bool
  | .code _ _ _ _ => true
  | _ => false
theorem all_split {L : List Jvm.Cond} {P : Jvm.Cond → Bool} (h1 : L.all (fun c => isCode c || P c) = true) (h2 : ∀ c ∈ L.filter isCode, P c = true) : L.all P = true := by
  refine List.all_eq_true.mpr fun c hc => ?_
  have h := List.all_eq_true.mp h1 c hc
  rcases Bool.eq_false_or_eq_true (isCode c) with hi | hi
  · exact h2 c (List.mem_filter.mpr ⟨hc, hi⟩)
  · simpa [hi] using h
set_option maxRecDepth 65536 in
theorem w_c0 : (Jvm.Cond.code x code maxLocals ret).before args0 about1 = true := code_word (m := ⟨1, 1⟩) (meth := k1m1) (c := k1c1) (by decide +kernel) rfl rfl rfl (by decide +kernel)
set_option maxRecDepth 65536 in
theorem w_c1 : (Jvm.Cond.code ({ cls := "com/example/stops_to_routes/stopstoroutes/planner/Break", name := "<init>", desc := "(JJJ)V" } : Jvm.MethodName) prog_5_method_1_code (7 : Nat) (Option.none : Option Jvm.ClassFile.FieldType)).before args0 about1 = true := code_word (m := ⟨2, 0⟩) (meth := k2m0) (c := k2c0) (by decide +kernel) rfl rfl rfl (by decide +kernel)
set_option maxRecDepth 65536 in
theorem w_c2 : (Jvm.Cond.code ({ cls := "java/lang/Object", name := "<init>", desc := "()V" } : Jvm.MethodName) object_method_1_code (1 : Nat) (Option.none : Option Jvm.ClassFile.FieldType)).before args0 about1 = true := code_word (m := ⟨0, 0⟩) (meth := k0m0) (c := k0c0) (by decide +kernel) rfl rfl rfl (by decide +kernel)
set_option maxRecDepth 65536 in
theorem w_c3 : (Jvm.Cond.code ({ cls := "java/lang/Long", name := "valueOf", desc := "(J)Ljava/lang/Long;" } : Jvm.MethodName) jdk_35_method_24_code (3 : Nat) (Option.some (Jvm.ClassFile.FieldType.object "java/lang/Long"))).before args0 about1 = true := code_word (m := ⟨8, 0⟩) (meth := k8m0) (c := k8c0) (by decide +kernel) rfl rfl rfl (by decide +kernel)
set_option maxRecDepth 65536 in
theorem w_c4 : (Jvm.Cond.code ({ cls := "com/example/stops_to_routes/stopstoroutes/planner/Break", name := "equals", desc := "(Ljava/lang/Object;)Z" } : Jvm.MethodName) prog_5_method_5_code (3 : Nat) (Option.some Jvm.ClassFile.FieldType.boolean)).before args0 about1 = true := code_word (m := ⟨2, 1⟩) (meth := k2m1) (c := k2c1) (by decide +kernel) rfl rfl rfl (by decide +kernel)
set_option maxRecDepth 65536 in
theorem w_c5 : (Jvm.Cond.code ({ cls := "java/lang/Long", name := "<init>", desc := "(J)V" } : Jvm.MethodName) jdk_35_method_26_code (3 : Nat) (Option.none : Option Jvm.ClassFile.FieldType)).before args0 about1 = true := code_word (m := ⟨8, 1⟩) (meth := k8m1) (c := k8c1) (by decide +kernel) rfl rfl rfl (by decide +kernel)
set_option maxRecDepth 65536 in
theorem w_c6 : (Jvm.Cond.code ({ cls := "java/lang/Number", name := "<init>", desc := "()V" } : Jvm.MethodName) jdk_18_method_1_code (1 : Nat) (Option.none : Option Jvm.ClassFile.FieldType)).before args0 about1 = true := code_word (m := ⟨4, 0⟩) (meth := k4m0) (c := k4c0) (by decide +kernel) rfl rfl rfl (by decide +kernel)
def codes1 : List Jvm.Cond := [Jvm.Cond.code x code maxLocals ret, Jvm.Cond.code ({ cls := "com/example/stops_to_routes/stopstoroutes/planner/Break", name := "<init>", desc := "(JJJ)V" } : Jvm.MethodName) prog_5_method_1_code (7 : Nat) (Option.none : Option Jvm.ClassFile.FieldType), Jvm.Cond.code ({ cls := "java/lang/Object", name := "<init>", desc := "()V" } : Jvm.MethodName) object_method_1_code (1 : Nat) (Option.none : Option Jvm.ClassFile.FieldType), Jvm.Cond.code ({ cls := "java/lang/Long", name := "valueOf", desc := "(J)Ljava/lang/Long;" } : Jvm.MethodName) jdk_35_method_24_code (3 : Nat) (Option.some (Jvm.ClassFile.FieldType.object "java/lang/Long")), Jvm.Cond.code ({ cls := "com/example/stops_to_routes/stopstoroutes/planner/Break", name := "equals", desc := "(Ljava/lang/Object;)Z" } : Jvm.MethodName) prog_5_method_5_code (3 : Nat) (Option.some Jvm.ClassFile.FieldType.boolean), Jvm.Cond.code ({ cls := "java/lang/Long", name := "<init>", desc := "(J)V" } : Jvm.MethodName) jdk_35_method_26_code (3 : Nat) (Option.none : Option Jvm.ClassFile.FieldType), Jvm.Cond.code ({ cls := "java/lang/Number", name := "<init>", desc := "()V" } : Jvm.MethodName) jdk_18_method_1_code (1 : Nat) (Option.none : Option Jvm.ClassFile.FieldType)]
set_option maxRecDepth 65536 in
theorem codes_eq : words1.filter isCode = codes1 := rfl
theorem w_codes : ∀ c ∈ words1.filter isCode, c.before args0 about1 = true := by
  rw [codes_eq]
  intro c hc
  simp only [codes1, List.mem_cons, List.not_mem_nil, or_false] at hc
  rcases hc with rfl | rfl | rfl | rfl | rfl | rfl | rfl
  · exact w_c0
  · exact w_c1
  · exact w_c2
  · exact w_c3
  · exact w_c4
  · exact w_c5
  · exact w_c6
set_option maxRecDepth 65536 in
theorem w_t1 : (words1.take 24).all (fun c => isCode c || c.before args0 about1) = true := by decide +kernel
set_option maxRecDepth 65536 in
theorem w_t2 : ((words1.drop 24).take 24).all (fun c => isCode c || c.before args0 about1) = true := by decide +kernel
set_option maxRecDepth 65536 in
theorem w_t3 : ((words1.drop 24).drop 24).all (fun c => isCode c || c.before args0 about1) = true := by decide +kernel
theorem w_tables : (allAtoms (Jvm.Cond.code x code maxLocals ret :: tables_1)).before args0 about1 = true := by
  rw [allAtoms_all]
  show words1.all (fun c => c.before args0 about1) = true
  refine all_split ?_ w_codes
  rw [← List.take_append_drop 24 words1, List.all_append, w_t1, ← List.take_append_drop 24 (words1.drop 24), List.all_append, w_t2, w_t3]
  rfl
set_option maxRecDepth 65536 in
theorem w_rest : rest_1_c.before args0 about1 = true := by decide +kernel
set_option maxRecDepth 65536 in
theorem w_case : (Jvm.Cond.and given_1 narrow_1).before args0 about1 = true := by decide +kernel
theorem w_applies : (headSpec (Jvm.Cond.code x code maxLocals ret :: tables_1) room_1).applies x e0.platform about1 = true :=
  (Spec.applies_iff w_frames).mpr ⟨w_running, w_runnable, w_alone, w_named, w_hears, w_ripe, w_room, w_tables⟩
theorem atStart : AtStart classFile x code maxLocals ret World_1 tables_1 room_1 Calls_1 rest_1 Pre_1 launch0 p0 e0 about1 theMethod args0 below0 :=
  ⟨lists_1, trivial, launch0.admits_env _ _ _, launch0.least_env, fairChoices_fair.cas, fairChoices_fair.clock, w_frames, w_args, w_heap, w_applies, trivial, w_rest, w_case⟩
end start1
theorem witness_1 : WitnessClaimed_1 := ⟨start1.p0, start1.e0, start1.about1, start1.theMethod, start1.args0, start1.below0, start1.atStart⟩
end Jvm.Pilot.@@N@@
