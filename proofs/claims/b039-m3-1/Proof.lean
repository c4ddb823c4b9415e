import JvmDerived
import JvmDerived.Pilot.@@N@@Statement
import JvmDerived.Pilot.@@N@@Code
set_option linter.unusedVariables false
set_option linter.unusedSimpArgs false
namespace Jvm.Pilot.@@N@@
open Jvm Jvm.ClassFile Sem Op Lib Jvm.Free Jvm.Stand Jvm.LawKit Jvm.RoadKit Bundle Jvm.Pilot.@@N@@.Jvm.D
theorem own_eqi {s : State} {args : Array Value} {t : Term} {k : Int32} (h : (Jvm.Cond.eq t (Term.int k)).value args s none s [] = some true) : t.eval args s none [] s = some (.int k) := by
  obtain ⟨u, v, hu, hv, k1, k2⟩ := cmp_v (Or.inl h)
  obtain rfl : v = .int k := Option.some.inj (hv.symm.trans (Term.int_eval k))
  obtain ⟨z, rfl⟩ := k2
  rw [hu]
  simp [Cond.value, hu, hv] at h
  rw [h]
theorem own_fld {s : State} {args : Array Value} {t : Term} {C n d : String} {k : Int32} {x : Addr} (ev : t.eval args s none [] s = some (.ref x)) (h : (Jvm.Cond.eq (Term.field t C n d) (Term.int k)).value args s none s [] = some true) : Fld s s.heap x C n d (.int k) := by
  have hu := own_eqi h
  rw [fld_at ev] at hu
  exact Fld.start hu
def own_EL : List (String × Nat) := [("java/lang/String", 7)]
theorem own_hEL {Z : State} {a0 : Array Value} (hw : ∀ d ∈ tables_1, d.before a0 Z = true) : EW Z a0 own_EL := (EW.cons (hw _ (List.mem_of_getElem? (i := 18) rfl)) (by decide +kernel) EW.nil)
theorem own_wS {Z : State} {a0 : Array Value} (hw : ∀ d ∈ tables_1, d.before a0 Z = true) : ∀ a ∈ Bundle.stringAtoms, a.before a0 Z = true := fun d hd => by
  simp only [Bundle.stringAtoms, List.mem_cons, List.not_mem_nil, or_false] at hd
  rcases hd with rfl | rfl | rfl | rfl | rfl | rfl | rfl
  · exact (hw _ (List.mem_of_getElem? (i := 6) rfl))
  · exact (hw _ (List.mem_of_getElem? (i := 5) rfl))
  · exact (hw _ (List.mem_of_getElem? (i := 19) rfl))
  · exact (hw _ (List.mem_of_getElem? (i := 20) rfl))
  · exact (hw _ (List.mem_of_getElem? (i := 21) rfl))
  · exact (hw _ (List.mem_of_getElem? (i := 22) rfl))
  · exact (hw _ (List.mem_of_getElem? (i := 23) rfl))
theorem own_safe {Z : State} {EL : List (String × Nat)} {vm : Vm} {h : Heap} {x : Addr} (hal : Z.vm.Alike vm) (F : Fld Z h x "java/lang/String" "value" "[B" .null) (E : Exa Z h x "java/lang/String") : Safe Z EL vm h x := fun B => by
  obtain ⟨cell, cf, k, i, f, e1, e2, -, -, -, -, e7⟩ := F
  obtain ⟨cell', k', g1, g2, -⟩ := E
  cases e1.symm.trans g1
  obtain ⟨p, -, u, a, -, q, -, G, rfl | rfl⟩ := B
  · cases (show h[q.sa]? = some q.sC from G.ha).symm.trans e1
    obtain ⟨cS, ⟨⟨-, -, -, ⟨cv, kv, iv, s4, -⟩, -, -, -, s8, -⟩, -, -⟩, -⟩ := G
    obtain ⟨kk, hi⟩ := ff_back (U := Wst Z vm h) hal s4
    cases e2.symm.trans hi
    cases s8.symm.trans e7
  · cases (show h[q.sd]? = some q.SA from G.hd).symm.trans e1
    obtain ⟨cS, -, -, fB, -⟩ := G
    have fB' : Z.vm.findClass "[B" = some q.SA.cls := by rw [← hal.findClass]; exact fB
    obtain ⟨k1, q1, q2⟩ := Vm.findClass_spec fB'
    obtain ⟨k2, q3, q4⟩ := Vm.findClass_spec g2
    cases q1.symm.trans q3
    exact absurd (q2.symm.trans q4) (by decide)
theorem own_widen {l : Launch} {y : MethodName} {bytes : ByteArray} {maxL : Nat} {ret : Option FieldType} {ws : List Jvm.Cond} {rm : Room} {as' : Array Value} {Z : State} {a0 : Array Value} {EL : List (String × Nat)} {h : Heap} {Q : Option Value → Heap → List Loc → Prop} (hEL : EW Z a0 EL) (hK : ∀ v h' L, Q v h' L → Keep h h' [])
    (hM : MetFree l y (head1 (Jvm.Cond.code y bytes maxL ret :: ws) rm) (fun a U => a = as' ∧ Z.Warmed39 U.vm ∧ U.heap = h) (fun _ _ _ _ _ => True) (fun _ U o U' => ∃ v L, o = .returned v ∧ Q v U'.heap L ∧ FrameEnd U o U' L rm.cells rm.slots)) :
    MetFree l y (head1 (Jvm.Cond.code y bytes maxL ret :: ws) rm) (fun a U => a = as' ∧ Z.Warmed39 U.vm ∧ U.heap = h ∧ CHv Z EL U.vm h) (fun _ _ _ _ _ => True) (fun _ U o U' => ∃ v L, o = .returned v ∧ Q v U'.heap L ∧ CHr Z EL U.vm U.heap U'.vm U'.heap ∧ ReturnedEndW U o U' L rm.cells rm.slots) := by
  intro p e ha hc hk s m args below hf happ hP hKK
  obtain ⟨h1, h2, h3, h4⟩ := hP
  obtain ⟨n, o, g1, g2, g3, v, L, g4, g5, g6⟩ := hM p e ha hc hk s m args below hf happ ⟨h1, h2, h3⟩ trivial
  refine ⟨n, o, g1, g2, g3, v, L, g4, g5, ?_, ReturnedEndW.of_narrow g6.1 g6.2.1 g6.2.2⟩
  have K := hK _ _ _ g5
  have q := CHv.later (h := h) h2 (hW := (show (Wst Z s.vm h).Warmed39 _ from g6.2.1.wide)) hEL ⟨K.1, fun a c q => K.2.1 a c q (fun z => nomatch z)⟩ (Or.inl g6.2.1.interned_eq) h4
  rw [h3]
  exact ⟨q.1, K.1, q.2⟩
theorem own_c8 (z : Int32) : ¬ ((255 : Int32) < nar .char ((z &&& (255 : Int32)).toUInt32.toUInt16.toUInt32.toInt32)) := by
  have h1 := c_mask z (255 : Int32) 8 (by decide) (by decide)
  have h2 := c_i2c (z &&& (255 : Int32))
  have h3 := c_i2c ((z &&& (255 : Int32)).toUInt32.toUInt16.toUInt32.toInt32)
  have e : (255 : Int32).toInt = 255 := by decide
  rw [Int32.lt_iff_toInt_lt, e]
  show ¬ (255 < (((z &&& (255 : Int32)).toUInt32.toUInt16.toUInt32.toInt32).toUInt32.toUInt16.toUInt32.toInt32).toInt)
  omega
theorem own_sh0 (p : Int32) : (p >>> ((0 : Int32) &&& 31)) = p := by
  apply Int32.toInt_inj.mp
  have h := c_ishr p (0 : Int32) 0 (by decide)
  simpa using h
theorem own_r (k : Int32) : (k &&& (3 : Int32)) = (0 : Int32) ∨ (k &&& (3 : Int32)) = (1 : Int32) ∨ (k &&& (3 : Int32)) = (2 : Int32) ∨ (k &&& (3 : Int32)) = (3 : Int32) := by
  have h := c_mask k (3 : Int32) 2 (by decide) (by decide)
  have q : (k &&& (3 : Int32)).toInt = 0 ∨ (k &&& (3 : Int32)).toInt = 1 ∨ (k &&& (3 : Int32)).toInt = 2 ∨ (k &&& (3 : Int32)).toInt = 3 := by omega
  rcases q with q | q | q | q
  · exact Or.inl (Int32.toInt_inj.mp (q.trans rfl))
  · exact Or.inr (Or.inl (Int32.toInt_inj.mp (q.trans rfl)))
  · exact Or.inr (Or.inr (Or.inl (Int32.toInt_inj.mp (q.trans rfl))))
  · exact Or.inr (Or.inr (Or.inr (Int32.toInt_inj.mp (q.trans rfl))))
theorem own_nn3 (k : Int32) : ¬ ((k &&& (3 : Int32)) < (0 : Int32)) := by
  rcases own_r k with h | h | h | h <;> rw [h] <;> decide
theorem d17_0 : decode jdk_42_method_152_code 0 = .ok (.getstatic 38, 3) := by decide +kernel
theorem d17_3 : decode jdk_42_method_152_code 3 = .ok (.ifCond .eq 10, 3) := by decide +kernel
theorem d17_6 : decode jdk_42_method_152_code 6 = .ok (.aload_n 0, 1) := by decide +kernel
theorem d17_7 : decode jdk_42_method_152_code 7 = .ok (.getfield 15, 3) := by decide +kernel
theorem d17_10 : decode jdk_42_method_152_code 10 = .ok (.goto 4, 3) := by decide +kernel
theorem d17_14 : decode jdk_42_method_152_code 14 = .ok (.ireturn, 1) := by decide +kernel
theorem pn_6 : plainName "java/lang/String" = true := by first | (simp [plainName, overriddenIn]; done) | decide +kernel
theorem ef_17_7 (m : MethodId) (x0 : Addr) : entryFrame m #[(.ref x0)] 1 = mkF m 0 #[.val (.ref x0)] [] := by first | (simp [entryFrame, mkF, argsToLocals, Value.category]; done) | rfl
def QrmCod (Z : State) (a : Addr) (d : Addr) (kd : ClassId) (p : Int32) (vs : List Value) (cs : Int32) (h0 : Heap) (n0 : Nat) (v : Option Value) (h : Heap) (L : List Loc) : Prop := v = some (.int (0 : Int32)) ∧ Fr n0 L ∧ h = h0
set_option maxRecDepth 65536 in
set_option maxHeartbeats 40000000 in
theorem rmCod (l : Launch) (Z : State) (a0 : Array Value) (hw : ∀ d ∈ tables_1, d.before a0 Z = true) (ws : List Jvm.Cond) (a : Addr) (d : Addr) (kd : ClassId) (p : Int32) (vs : List Value) (cs : Int32) (h0 : Heap) (n0 : Nat) (O0 : Old Z n0 h0) (Fc : Fld Z h0 a "java/lang/String" "coder" "B" (.int (0 : Int32))) (Fv : Fld Z h0 a "java/lang/String" "value" "[B" (.ref d)) (Va : Arv Z h0 d kd .byte p vs (.int 0)) (Ea : Exa Z h0 a "java/lang/String") (S_CS : Sta Z Z.heap "java/lang/String" "COMPACT_STRINGS" "Z" (.int cs)) (hcs : ¬ (cs = (0 : Int32))) :
    MetFree l (⟨"java/lang/String", "coder", "()B"⟩ : MethodName) (head1 (Jvm.Cond.code (⟨"java/lang/String", "coder", "()B"⟩ : MethodName) jdk_42_method_152_code 1 (some .byte) :: ws) ({ frames := 0, cells := 0, slots := 0, locals := 0 } : Room)) (fun a_ U_ => a_ = #[(.ref a)] ∧ Z.Warmed39 U_.vm ∧ U_.heap = h0) (fun _ _ _ _ _ => True) (fun _ U_ o_ U'_ => ∃ v_ L_, o_ = .returned v_ ∧ QrmCod Z a d kd p vs cs h0 n0 v_ U'_.heap L_ ∧ FrameEnd U_ o_ U'_ L_ ({ frames := 0, cells := 0, slots := 0, locals := 0 } : Room).cells ({ frames := 0, cells := 0, slots := 0, locals := 0 } : Room).slots) := by
  refine MetFree.of_bodySF (plainFor_of_name pn_6) hisR ?_
  intro pg ee s mm args below meth cc s₁ Bd hml0 hP hK
  obtain ⟨rfl, hZ, hh⟩ := hP
  have hx := Bd.exec
  have hby := Bd.bytes
  have hml : cc.maxLocals = 1 := hml0
  have hown : s.vm.findClass "java/lang/String" = some mm.cls := findClass_of_methodNamed Bd.named
  have hnm := (name_of_methodNamed Bd.named Bd.method).1
  have X0 : Stand pg l ee ({ frames := 0, cells := 0, slots := 0, locals := 0 } : Room) s mm #[(.ref a)] below meth cc s₁ [] 0 0 := Stand.of_body Bd
  have e0 : s₁.heap = h0 := by rw [← hh, Bd.state]; rfl
  have N0 := Fr.nil n0
  have K0 : Keep h0 h0 ([] : List Addr) := Keep.refl _ _
  have pre0 : ∀ tg_, Steps pg.tables ee below (s₁.setTop (mkF mm 0 #[.val (.ref a)] [])) tg_ → Steps pg.tables ee below (s₁.setTop (entryFrame mm #[(.ref a)] 1)) tg_ := fun tg_ k_ => castTop (ef_17_7 mm a) k_
  obtain ⟨T1, X1, e1, st1⟩ := getS2 X0 hx hZ hown (host := "") (Or.inl (hw _ (List.mem_of_getElem? (i := 99) rfl))) Via.refl e0 (S_CS.ext O0.2) (g := (mkF mm 0 #[.val (.ref a)] [])) rfl (hb hby d17_0)
  obtain ⟨T2, X2, e2, st2⟩ := getF X1 hx hZ hown (host := "") (Or.inl (hw _ (List.mem_of_getElem? (i := 25) rfl))) Via.refl e1 Fc (g := (mkF mm 7 #[.val (.ref a)] [(.ref a)])) rfl rfl (hb hby d17_7)
  obtain ⟨fs, hr, hrun, hended, hW, hsame⟩ := X2.leave (v := some (.int (0 : Int32))) (fun h => by rw [Bd.returns] at h; cases h)
  refine ⟨_, _, pre0 _ ?_, hrun, hended, _, _, rfl, ?_, ⟨_, rfl⟩, hW, hsame.mono (by decide) (by decide)⟩
  · show Steps pg.tables ee below (s₁.setTop (mkF mm 0 #[.val (.ref a)] [])) _
    refine st1 _ ?_
    show Steps pg.tables ee below (T1.setTop (mkF mm 3 #[.val (.ref a)] [(.int cs)])) _
    refine XS.ifNo X1.here hx rfl (hb hby d17_3) rfl ((if0 _ _).trans (feq hcs).1) ?_
    show Steps pg.tables ee below (T1.setTop (mkF mm 6 #[.val (.ref a)] [])) _
    refine XS.aloadN X1.here hx rfl (hb hby d17_6) rfl rfl ?_
    show Steps pg.tables ee below (T1.setTop (mkF mm 7 #[.val (.ref a)] [(.ref a)])) _
    refine st2 _ ?_
    show Steps pg.tables ee below (T2.setTop (mkF mm 10 #[.val (.ref a)] [(.int (0 : Int32))])) _
    refine XS.goto X2.here hx rfl (pc0 := 10) (pc' := 14) rfl (hb hby d17_10) (by decide) (by decide) ?_
    show Steps pg.tables ee below (T2.setTop (mkF mm 14 #[.val (.ref a)] [(.int (0 : Int32))])) _
    exact retN X2 hx (t := .byte) Bd.returns (by simp) (hb hby d17_14) hr
  · show QrmCod Z a d kd p vs cs h0 n0 _ T2.heap _
    rw [e2]
    exact ⟨rfl, N0, rfl⟩
theorem d21_0 : decode jdk_42_method_154_code 0 = .ok (.getstatic 38, 3) := by decide +kernel
theorem d21_3 : decode jdk_42_method_154_code 3 = .ok (.ifCond .eq 14, 3) := by decide +kernel
theorem d21_6 : decode jdk_42_method_154_code 6 = .ok (.aload_n 0, 1) := by decide +kernel
theorem d21_7 : decode jdk_42_method_154_code 7 = .ok (.getfield 15, 3) := by decide +kernel
theorem d21_10 : decode jdk_42_method_154_code 10 = .ok (.ifCond .ne 7, 3) := by decide +kernel
theorem d21_13 : decode jdk_42_method_154_code 13 = .ok (.iconst 1, 1) := by decide +kernel
theorem d21_14 : decode jdk_42_method_154_code 14 = .ok (.goto 4, 3) := by decide +kernel
theorem d21_18 : decode jdk_42_method_154_code 18 = .ok (.ireturn, 1) := by decide +kernel
theorem ef_21_16 (m : MethodId) (x0 : Addr) : entryFrame m #[(.ref x0)] 1 = mkF m 0 #[.val (.ref x0)] [] := by first | (simp [entryFrame, mkF, argsToLocals, Value.category]; done) | rfl
def QrmLat (Z : State) (a : Addr) (d : Addr) (kd : ClassId) (p : Int32) (vs : List Value) (cs : Int32) (h0 : Heap) (n0 : Nat) (v : Option Value) (h : Heap) (L : List Loc) : Prop := v = some (.int (1 : Int32)) ∧ Fr n0 L ∧ h = h0
set_option maxRecDepth 65536 in
set_option maxHeartbeats 40000000 in
theorem rmLat (l : Launch) (Z : State) (a0 : Array Value) (hw : ∀ d ∈ tables_1, d.before a0 Z = true) (ws : List Jvm.Cond) (a : Addr) (d : Addr) (kd : ClassId) (p : Int32) (vs : List Value) (cs : Int32) (h0 : Heap) (n0 : Nat) (O0 : Old Z n0 h0) (Fc : Fld Z h0 a "java/lang/String" "coder" "B" (.int (0 : Int32))) (Fv : Fld Z h0 a "java/lang/String" "value" "[B" (.ref d)) (Va : Arv Z h0 d kd .byte p vs (.int 0)) (Ea : Exa Z h0 a "java/lang/String") (S_CS : Sta Z Z.heap "java/lang/String" "COMPACT_STRINGS" "Z" (.int cs)) (hcs : ¬ (cs = (0 : Int32))) :
    MetFree l (⟨"java/lang/String", "isLatin1", "()Z"⟩ : MethodName) (head1 (Jvm.Cond.code (⟨"java/lang/String", "isLatin1", "()Z"⟩ : MethodName) jdk_42_method_154_code 1 (some .boolean) :: ws) ({ frames := 0, cells := 0, slots := 0, locals := 0 } : Room)) (fun a_ U_ => a_ = #[(.ref a)] ∧ Z.Warmed39 U_.vm ∧ U_.heap = h0) (fun _ _ _ _ _ => True) (fun _ U_ o_ U'_ => ∃ v_ L_, o_ = .returned v_ ∧ QrmLat Z a d kd p vs cs h0 n0 v_ U'_.heap L_ ∧ FrameEnd U_ o_ U'_ L_ ({ frames := 0, cells := 0, slots := 0, locals := 0 } : Room).cells ({ frames := 0, cells := 0, slots := 0, locals := 0 } : Room).slots) := by
  refine MetFree.of_bodySF (plainFor_of_name pn_6) hisR ?_
  intro pg ee s mm args below meth cc s₁ Bd hml0 hP hK
  obtain ⟨rfl, hZ, hh⟩ := hP
  have hx := Bd.exec
  have hby := Bd.bytes
  have hml : cc.maxLocals = 1 := hml0
  have hown : s.vm.findClass "java/lang/String" = some mm.cls := findClass_of_methodNamed Bd.named
  have hnm := (name_of_methodNamed Bd.named Bd.method).1
  have X0 : Stand pg l ee ({ frames := 0, cells := 0, slots := 0, locals := 0 } : Room) s mm #[(.ref a)] below meth cc s₁ [] 0 0 := Stand.of_body Bd
  have e0 : s₁.heap = h0 := by rw [← hh, Bd.state]; rfl
  have N0 := Fr.nil n0
  have K0 : Keep h0 h0 ([] : List Addr) := Keep.refl _ _
  have pre0 : ∀ tg_, Steps pg.tables ee below (s₁.setTop (mkF mm 0 #[.val (.ref a)] [])) tg_ → Steps pg.tables ee below (s₁.setTop (entryFrame mm #[(.ref a)] 1)) tg_ := fun tg_ k_ => castTop (ef_21_16 mm a) k_
  obtain ⟨T1, X1, e1, st1⟩ := getS2 X0 hx hZ hown (host := "") (Or.inl (hw _ (List.mem_of_getElem? (i := 99) rfl))) Via.refl e0 (S_CS.ext O0.2) (g := (mkF mm 0 #[.val (.ref a)] [])) rfl (hb hby d21_0)
  obtain ⟨T2, X2, e2, st2⟩ := getF X1 hx hZ hown (host := "") (Or.inl (hw _ (List.mem_of_getElem? (i := 25) rfl))) Via.refl e1 Fc (g := (mkF mm 7 #[.val (.ref a)] [(.ref a)])) rfl rfl (hb hby d21_7)
  obtain ⟨fs, hr, hrun, hended, hW, hsame⟩ := X2.leave (v := some (.int (1 : Int32))) (fun h => by rw [Bd.returns] at h; cases h)
  refine ⟨_, _, pre0 _ ?_, hrun, hended, _, _, rfl, ?_, ⟨_, rfl⟩, hW, hsame.mono (by decide) (by decide)⟩
  · show Steps pg.tables ee below (s₁.setTop (mkF mm 0 #[.val (.ref a)] [])) _
    refine st1 _ ?_
    show Steps pg.tables ee below (T1.setTop (mkF mm 3 #[.val (.ref a)] [(.int cs)])) _
    refine XS.ifNo X1.here hx rfl (hb hby d21_3) rfl ((if0 _ _).trans (feq hcs).1) ?_
    show Steps pg.tables ee below (T1.setTop (mkF mm 6 #[.val (.ref a)] [])) _
    refine XS.aloadN X1.here hx rfl (hb hby d21_6) rfl rfl ?_
    show Steps pg.tables ee below (T1.setTop (mkF mm 7 #[.val (.ref a)] [(.ref a)])) _
    refine st2 _ ?_
    show Steps pg.tables ee below (T2.setTop (mkF mm 10 #[.val (.ref a)] [(.int (0 : Int32))])) _
    refine XS.ifNo X2.here hx rfl (hb hby d21_10) rfl ((if0 _ _).trans (teq (by decide : (0 : Int32) = (0 : Int32))).2) ?_
    show Steps pg.tables ee below (T2.setTop (mkF mm 13 #[.val (.ref a)] [])) _
    refine XS.iconst X2.here hx rfl (hb hby d21_13) ?_
    show Steps pg.tables ee below (T2.setTop (mkF mm 14 #[.val (.ref a)] [(.int (1 : Int32))])) _
    refine XS.goto X2.here hx rfl (pc0 := 14) (pc' := 18) rfl (hb hby d21_14) (by decide) (by decide) ?_
    show Steps pg.tables ee below (T2.setTop (mkF mm 18 #[.val (.ref a)] [(.int (1 : Int32))])) _
    exact retN X2 hx (t := .boolean) Bd.returns (by simp) (hb hby d21_18) hr
  · show QrmLat Z a d kd p vs cs h0 n0 _ T2.heap _
    rw [e2]
    exact ⟨rfl, N0, rfl⟩
theorem d16_0 : decode jdk_42_method_54_code 0 = .ok (.aload_n 0, 1) := by decide +kernel
theorem d16_1 : decode jdk_42_method_54_code 1 = .ok (.getfield 9, 3) := by decide +kernel
theorem d16_4 : decode jdk_42_method_54_code 4 = .ok (.arraylength, 1) := by decide +kernel
theorem d16_5 : decode jdk_42_method_54_code 5 = .ok (.aload_n 0, 1) := by decide +kernel
theorem d16_6 : decode jdk_42_method_54_code 6 = .ok (.invokevirtual 335, 3) := by decide +kernel
theorem pd_22 : parseMethodDescriptor "()B" = some ⟨[], some .byte⟩ := by decide +kernel
theorem d16_9 : decode jdk_42_method_54_code 9 = .ok (.ishr, 1) := by decide +kernel
theorem d16_10 : decode jdk_42_method_54_code 10 = .ok (.ireturn, 1) := by decide +kernel
theorem ef_16_25 (m : MethodId) (x0 : Addr) : entryFrame m #[(.ref x0)] 1 = mkF m 0 #[.val (.ref x0)] [] := by first | (simp [entryFrame, mkF, argsToLocals, Value.category]; done) | rfl
def QrmLen (Z : State) (a : Addr) (d : Addr) (kd : ClassId) (p : Int32) (vs : List Value) (cs : Int32) (h0 : Heap) (n0 : Nat) (v : Option Value) (h : Heap) (L : List Loc) : Prop := v = some (.int p) ∧ Fr n0 L ∧ h = h0
set_option maxRecDepth 65536 in
set_option maxHeartbeats 40000000 in
theorem rmLen (l : Launch) (Z : State) (a0 : Array Value) (hw : ∀ d ∈ tables_1, d.before a0 Z = true) (ws : List Jvm.Cond) (a : Addr) (d : Addr) (kd : ClassId) (p : Int32) (vs : List Value) (cs : Int32) (h0 : Heap) (n0 : Nat) (O0 : Old Z n0 h0) (Fc : Fld Z h0 a "java/lang/String" "coder" "B" (.int (0 : Int32))) (Fv : Fld Z h0 a "java/lang/String" "value" "[B" (.ref d)) (Va : Arv Z h0 d kd .byte p vs (.int 0)) (Ea : Exa Z h0 a "java/lang/String") (S_CS : Sta Z Z.heap "java/lang/String" "COMPACT_STRINGS" "Z" (.int cs)) (hcs : ¬ (cs = (0 : Int32))) :
    MetFree l (⟨"java/lang/String", "length", "()I"⟩ : MethodName) (head1 (Jvm.Cond.code (⟨"java/lang/String", "length", "()I"⟩ : MethodName) jdk_42_method_54_code 1 (some .int) :: ws) ({ frames := 1, cells := 0, slots := 0, locals := 13 } : Room)) (fun a_ U_ => a_ = #[(.ref a)] ∧ Z.Warmed39 U_.vm ∧ U_.heap = h0) (fun _ _ _ _ _ => True) (fun _ U_ o_ U'_ => ∃ v_ L_, o_ = .returned v_ ∧ QrmLen Z a d kd p vs cs h0 n0 v_ U'_.heap L_ ∧ FrameEnd U_ o_ U'_ L_ ({ frames := 1, cells := 0, slots := 0, locals := 13 } : Room).cells ({ frames := 1, cells := 0, slots := 0, locals := 13 } : Room).slots) := by
  refine MetFree.of_bodySF (plainFor_of_name pn_6) hisR ?_
  intro pg ee s mm args below meth cc s₁ Bd hml0 hP hK
  obtain ⟨rfl, hZ, hh⟩ := hP
  have hx := Bd.exec
  have hby := Bd.bytes
  have hml : cc.maxLocals = 1 := hml0
  have hown : s.vm.findClass "java/lang/String" = some mm.cls := findClass_of_methodNamed Bd.named
  have hnm := (name_of_methodNamed Bd.named Bd.method).1
  have X0 : Stand pg l ee ({ frames := 1, cells := 0, slots := 0, locals := 13 } : Room) s mm #[(.ref a)] below meth cc s₁ [] 0 0 := Stand.of_body Bd
  have e0 : s₁.heap = h0 := by rw [← hh, Bd.state]; rfl
  have N0 := Fr.nil n0
  have K0 : Keep h0 h0 ([] : List Addr) := Keep.refl _ _
  have pre0 : ∀ tg_, Steps pg.tables ee below (s₁.setTop (mkF mm 0 #[.val (.ref a)] [])) tg_ → Steps pg.tables ee below (s₁.setTop (entryFrame mm #[(.ref a)] 1)) tg_ := fun tg_ k_ => castTop (ef_16_25 mm a) k_
  obtain ⟨T1, X1, e1, st1⟩ := getF X0 hx hZ hown (host := "") (Or.inl (hw _ (List.mem_of_getElem? (i := 24) rfl))) Via.refl e0 Fv (g := (mkF mm 1 #[.val (.ref a)] [(.ref a)])) rfl rfl (hb hby d16_1)
  obtain ⟨cl2, Ar2, qk2, Sz2, Nn2, Hh2, Gg2⟩ := id Va
  obtain ⟨cq3, kq3, q3a, q3b, q3c⟩ := isOf hZ e1 Ea
  obtain ⟨_, _, ⟨T3, L3, k3, n3⟩, -, X3, ⟨Lc3, hQ3, l3, y3, z3⟩, st3⟩ := X1.virtualBack hx (y := (⟨"java/lang/String", "coder", "()B"⟩ : MethodName)) (z := (⟨"java/lang/String", "coder", "()B"⟩ : MethodName)) hown (mvT hZ (hw _ (List.mem_of_getElem? (i := 94) rfl))) (mvT hZ (hw _ (List.mem_of_getElem? (i := 95) rfl))) (notFace_of_selects (args := #[]) (mvT hZ (hw _ (List.mem_of_getElem? (i := 97) rfl)))) (mvT hZ (hw _ (List.mem_of_getElem? (i := 97) rfl))) (mvT hZ (hw _ (List.mem_of_getElem? (i := 96) rfl))) (by decide) (backOf (W := 1) (rmCod l Z a0 hw [] a d kd p vs cs h0 n0 O0 Fc Fv Va Ea S_CS hcs) hZ (hw _ (List.mem_of_getElem? (i := 98) rfl)) (hw _ (List.mem_of_getElem? (i := 6) rfl)) (by decide) (by decide)) q3a q3c (g := (mkF mm 6 #[.val (.ref a)] [(.ref a), (.int p)])) rfl (by rw [hml]; rfl) (Steps.refl _) (argsL := []) (rest := [(.int p)]) (lenOf pd_22 rfl) rfl (by show 2 * 0 + _ ≤ _; exact Nat.le_of_eq rfl) (hb hby d16_6) (fun _ _ => ⟨rfl, e1, (by decide : 0 + 0 ≤ _), (by decide : 0 + 0 ≤ _)⟩)
  dsimp only [Pt.U, Pt.locs, Pt.cells, Pt.slots] at X3 l3 y3 z3 st3 hQ3
  subst l3 y3 z3
  obtain ⟨rfl, N3q, e3⟩ := hQ3
  have N3 := Fr.app N0 N3q
  obtain ⟨fs, hr, hrun, hended, hW, hsame⟩ := X3.leave (v := some (.int (p >>> ((0 : Int32) &&& 31)))) (fun h => by rw [Bd.returns] at h; cases h)
  refine ⟨_, _, pre0 _ ?_, hrun, hended, _, _, rfl, ?_, ⟨_, rfl⟩, hW, hsame.mono (by decide) (by decide)⟩
  · show Steps pg.tables ee below (s₁.setTop (mkF mm 0 #[.val (.ref a)] [])) _
    refine XS.aloadN X0.here hx rfl (hb hby d16_0) rfl rfl ?_
    show Steps pg.tables ee below (s₁.setTop (mkF mm 1 #[.val (.ref a)] [(.ref a)])) _
    refine st1 _ ?_
    show Steps pg.tables ee below (T1.setTop (mkF mm 4 #[.val (.ref a)] [(.ref d)])) _
    refine X1.arraylength hx (by rw [e1]; exact Ar2.1) (State.isArrayOf_alike hZ.alike Ar2.2.1) (g := (mkF mm 4 #[.val (.ref a)] [(.ref d)])) rfl rfl (hb hby d16_4) _ ?_
    rw [len_of Sz2 Nn2]
    show Steps pg.tables ee below (T1.setTop (mkF mm 5 #[.val (.ref a)] [(.int p)])) _
    refine XS.aloadN X1.here hx rfl (hb hby d16_5) rfl rfl ?_
    show Steps pg.tables ee below (T1.setTop (mkF mm 6 #[.val (.ref a)] [(.ref a), (.int p)])) _
    refine st3.trans ?_
    show Steps pg.tables ee below (T3.setTop (mkF mm 9 #[.val (.ref a)] [(.int (0 : Int32)), (.int p)])) _
    refine XS.ishr X3.here hx rfl (hb hby d16_9) rfl ?_
    show Steps pg.tables ee below (T3.setTop (mkF mm 10 #[.val (.ref a)] [(.int (p >>> ((0 : Int32) &&& 31)))])) _
    exact retOut X3 hx Bd.returns rfl (Or.inl ⟨rfl, Or.inl rfl, _, rfl⟩) (hb hby d16_10) hr
  · show QrmLen Z a d kd p vs cs h0 n0 _ T3.heap _
    rw [e3]
    exact ⟨congrArg (fun z => some (Value.int z)) (own_sh0 p), N3, rfl⟩
theorem d20_0 : decode jdk_41_method_12_code 0 = .ok (.iload_n 0, 1) := by decide +kernel
theorem d20_1 : decode jdk_41_method_12_code 1 = .ok (.ifCond .lt 13, 3) := by decide +kernel
theorem d20_4 : decode jdk_41_method_12_code 4 = .ok (.iload_n 0, 1) := by decide +kernel
theorem d20_5 : decode jdk_41_method_12_code 5 = .ok (.iload_n 1, 1) := by decide +kernel
theorem d20_6 : decode jdk_41_method_12_code 6 = .ok (.if_icmp .gt 8, 3) := by decide +kernel
theorem d20_9 : decode jdk_41_method_12_code 9 = .ok (.iload_n 1, 1) := by decide +kernel
theorem d20_10 : decode jdk_41_method_12_code 10 = .ok (.iload_n 2, 1) := by decide +kernel
theorem d20_11 : decode jdk_41_method_12_code 11 = .ok (.if_icmp .le 11, 3) := by decide +kernel
theorem d20_22 : decode jdk_41_method_12_code 22 = .ok (.iload_n 0, 1) := by decide +kernel
theorem d20_23 : decode jdk_41_method_12_code 23 = .ok (.ireturn, 1) := by decide +kernel
theorem pn_36 : plainName "jdk/internal/util/Preconditions" = true := by first | (simp [plainName, overriddenIn]; done) | decide +kernel
theorem ef_20_37 (m : MethodId) (x0 : Int32) (x1 : Int32) (x2 : Int32) : entryFrame m #[(.int x0), (.int x1), (.int x2), .null] 4 = mkF m 0 #[.val (.int x0), .val (.int x1), .val (.int x2), .val .null] [] := by first | (simp [entryFrame, mkF, argsToLocals, Value.category]; done) | rfl
def QrmPre (Z : State) (p : Int32) (h0 : Heap) (n0 : Nat) (v : Option Value) (h : Heap) (L : List Loc) : Prop := v = some (.int (0 : Int32)) ∧ Fr n0 L ∧ h = h0
set_option maxRecDepth 65536 in
set_option maxHeartbeats 40000000 in
theorem rmPre (l : Launch) (Z : State) (a0 : Array Value) (hw : ∀ d ∈ tables_1, d.before a0 Z = true) (ws : List Jvm.Cond) (p : Int32) (h0 : Heap) (n0 : Nat) (O0 : Old Z n0 h0) (hp : ¬ (p < (0 : Int32))) :
    MetFree l (⟨"jdk/internal/util/Preconditions", "checkFromToIndex", "(IIILjava/util/function/BiFunction;)I"⟩ : MethodName) (head1 (Jvm.Cond.code (⟨"jdk/internal/util/Preconditions", "checkFromToIndex", "(IIILjava/util/function/BiFunction;)I"⟩ : MethodName) jdk_41_method_12_code 4 (some .int) :: ws) ({ frames := 0, cells := 0, slots := 0, locals := 0 } : Room)) (fun a_ U_ => a_ = #[(.int (0 : Int32)), (.int p), (.int p), .null] ∧ Z.Warmed39 U_.vm ∧ U_.heap = h0) (fun _ _ _ _ _ => True) (fun _ U_ o_ U'_ => ∃ v_ L_, o_ = .returned v_ ∧ QrmPre Z p h0 n0 v_ U'_.heap L_ ∧ FrameEnd U_ o_ U'_ L_ ({ frames := 0, cells := 0, slots := 0, locals := 0 } : Room).cells ({ frames := 0, cells := 0, slots := 0, locals := 0 } : Room).slots) := by
  refine MetFree.of_bodySF (plainFor_of_name pn_36) hisR ?_
  intro pg ee s mm args below meth cc s₁ Bd hml0 hP hK
  obtain ⟨rfl, hZ, hh⟩ := hP
  have hx := Bd.exec
  have hby := Bd.bytes
  have hml : cc.maxLocals = 4 := hml0
  have hown : s.vm.findClass "jdk/internal/util/Preconditions" = some mm.cls := findClass_of_methodNamed Bd.named
  have hnm := (name_of_methodNamed Bd.named Bd.method).1
  have X0 : Stand pg l ee ({ frames := 0, cells := 0, slots := 0, locals := 0 } : Room) s mm #[(.int (0 : Int32)), (.int p), (.int p), .null] below meth cc s₁ [] 0 0 := Stand.of_body Bd
  have e0 : s₁.heap = h0 := by rw [← hh, Bd.state]; rfl
  have N0 := Fr.nil n0
  have K0 : Keep h0 h0 ([] : List Addr) := Keep.refl _ _
  have pre0 : ∀ tg_, Steps pg.tables ee below (s₁.setTop (mkF mm 0 #[.val (.int (0 : Int32)), .val (.int p), .val (.int p), .val .null] [])) tg_ → Steps pg.tables ee below (s₁.setTop (entryFrame mm #[(.int (0 : Int32)), (.int p), (.int p), .null] 4)) tg_ := fun tg_ k_ => castTop (ef_20_37 mm (0 : Int32) p p) k_
  obtain ⟨fs, hr, hrun, hended, hW, hsame⟩ := X0.leave (v := some (.int (0 : Int32))) (fun h => by rw [Bd.returns] at h; cases h)
  refine ⟨_, _, pre0 _ ?_, hrun, hended, _, _, rfl, ?_, ⟨_, rfl⟩, hW, hsame.mono (by decide) (by decide)⟩
  · show Steps pg.tables ee below (s₁.setTop (mkF mm 0 #[.val (.int (0 : Int32)), .val (.int p), .val (.int p), .val .null] [])) _
    refine XS.iloadN X0.here hx rfl (hb hby d20_0) rfl ?_
    show Steps pg.tables ee below (s₁.setTop (mkF mm 1 #[.val (.int (0 : Int32)), .val (.int p), .val (.int p), .val .null] [(.int (0 : Int32))])) _
    refine XS.ifNo X0.here hx rfl (hb hby d20_1) rfl ((if0 _ _).trans (flt (by decide : ¬ ((0 : Int32) < (0 : Int32)))).1) ?_
    show Steps pg.tables ee below (s₁.setTop (mkF mm 4 #[.val (.int (0 : Int32)), .val (.int p), .val (.int p), .val .null] [])) _
    refine XS.iloadN X0.here hx rfl (hb hby d20_4) rfl ?_
    show Steps pg.tables ee below (s₁.setTop (mkF mm 5 #[.val (.int (0 : Int32)), .val (.int p), .val (.int p), .val .null] [(.int (0 : Int32))])) _
    refine XS.iloadN X0.here hx rfl (hb hby d20_5) rfl ?_
    show Steps pg.tables ee below (s₁.setTop (mkF mm 6 #[.val (.int (0 : Int32)), .val (.int p), .val (.int p), .val .null] [(.int p), (.int (0 : Int32))])) _
    refine XS.icmpNo X0.here hx rfl (hb hby d20_6) rfl (flt hp).2.2.1 ?_
    show Steps pg.tables ee below (s₁.setTop (mkF mm 9 #[.val (.int (0 : Int32)), .val (.int p), .val (.int p), .val .null] [])) _
    refine XS.iloadN X0.here hx rfl (hb hby d20_9) rfl ?_
    show Steps pg.tables ee below (s₁.setTop (mkF mm 10 #[.val (.int (0 : Int32)), .val (.int p), .val (.int p), .val .null] [(.int p)])) _
    refine XS.iloadN X0.here hx rfl (hb hby d20_10) rfl ?_
    show Steps pg.tables ee below (s₁.setTop (mkF mm 11 #[.val (.int (0 : Int32)), .val (.int p), .val (.int p), .val .null] [(.int p), (.int p)])) _
    refine XS.icmpYes X0.here hx rfl (pc0 := 11) (pc' := 22) rfl (hb hby d20_11) rfl (flt (Int32.lt_irrefl : ¬ (p < p))).2.2.2 (by decide) (by decide) ?_
    show Steps pg.tables ee below (s₁.setTop (mkF mm 22 #[.val (.int (0 : Int32)), .val (.int p), .val (.int p), .val .null] [])) _
    refine XS.iloadN X0.here hx rfl (hb hby d20_22) rfl ?_
    show Steps pg.tables ee below (s₁.setTop (mkF mm 23 #[.val (.int (0 : Int32)), .val (.int p), .val (.int p), .val .null] [(.int (0 : Int32))])) _
    exact retOut X0 hx Bd.returns rfl (Or.inl ⟨rfl, Or.inl rfl, _, rfl⟩) (hb hby d20_23) hr
  · show QrmPre Z p h0 n0 _ s₁.heap _
    rw [e0]
    exact ⟨rfl, N0, rfl⟩
theorem d19_0 : decode jdk_31_method_18_code 0 = .ok (.iload_n 0, 1) := by decide +kernel
theorem d19_1 : decode jdk_31_method_18_code 1 = .ok (.iload_n 1, 1) := by decide +kernel
theorem d19_2 : decode jdk_31_method_18_code 2 = .ok (.iload_n 2, 1) := by decide +kernel
theorem d19_3 : decode jdk_31_method_18_code 3 = .ok (.aconst_null, 1) := by decide +kernel
theorem d19_4 : decode jdk_31_method_18_code 4 = .ok (.invokestatic 111, 3) := by decide +kernel
theorem pd_43 : parseMethodDescriptor "(IIILjava/util/function/BiFunction;)I" = some ⟨[.int, .int, .int, (.object "java/util/function/BiFunction")], some .int⟩ := by decide +kernel
theorem d19_7 : decode jdk_31_method_18_code 7 = .ok (.ireturn, 1) := by decide +kernel
theorem pn_45 : plainName "java/util/Objects" = true := by first | (simp [plainName, overriddenIn]; done) | decide +kernel
theorem ef_19_46 (m : MethodId) (x0 : Int32) (x1 : Int32) (x2 : Int32) : entryFrame m #[(.int x0), (.int x1), (.int x2)] 3 = mkF m 0 #[.val (.int x0), .val (.int x1), .val (.int x2)] [] := by first | (simp [entryFrame, mkF, argsToLocals, Value.category]; done) | rfl
def QrmObj (Z : State) (p : Int32) (h0 : Heap) (n0 : Nat) (v : Option Value) (h : Heap) (L : List Loc) : Prop := v = some (.int (0 : Int32)) ∧ Fr n0 L ∧ h = h0
set_option maxRecDepth 65536 in
set_option maxHeartbeats 40000000 in
theorem rmObj (l : Launch) (Z : State) (a0 : Array Value) (hw : ∀ d ∈ tables_1, d.before a0 Z = true) (ws : List Jvm.Cond) (p : Int32) (h0 : Heap) (n0 : Nat) (O0 : Old Z n0 h0) (hp : ¬ (p < (0 : Int32))) :
    MetFree l (⟨"java/util/Objects", "checkFromToIndex", "(III)I"⟩ : MethodName) (head1 (Jvm.Cond.code (⟨"java/util/Objects", "checkFromToIndex", "(III)I"⟩ : MethodName) jdk_31_method_18_code 3 (some .int) :: ws) ({ frames := 1, cells := 0, slots := 0, locals := 15 } : Room)) (fun a_ U_ => a_ = #[(.int (0 : Int32)), (.int p), (.int p)] ∧ Z.Warmed39 U_.vm ∧ U_.heap = h0) (fun _ _ _ _ _ => True) (fun _ U_ o_ U'_ => ∃ v_ L_, o_ = .returned v_ ∧ QrmObj Z p h0 n0 v_ U'_.heap L_ ∧ FrameEnd U_ o_ U'_ L_ ({ frames := 1, cells := 0, slots := 0, locals := 15 } : Room).cells ({ frames := 1, cells := 0, slots := 0, locals := 15 } : Room).slots) := by
  refine MetFree.of_bodySF (plainFor_of_name pn_45) hisR ?_
  intro pg ee s mm args below meth cc s₁ Bd hml0 hP hK
  obtain ⟨rfl, hZ, hh⟩ := hP
  have hx := Bd.exec
  have hby := Bd.bytes
  have hml : cc.maxLocals = 3 := hml0
  have hown : s.vm.findClass "java/util/Objects" = some mm.cls := findClass_of_methodNamed Bd.named
  have hnm := (name_of_methodNamed Bd.named Bd.method).1
  have X0 : Stand pg l ee ({ frames := 1, cells := 0, slots := 0, locals := 15 } : Room) s mm #[(.int (0 : Int32)), (.int p), (.int p)] below meth cc s₁ [] 0 0 := Stand.of_body Bd
  have e0 : s₁.heap = h0 := by rw [← hh, Bd.state]; rfl
  have N0 := Fr.nil n0
  have K0 : Keep h0 h0 ([] : List Addr) := Keep.refl _ _
  have pre0 : ∀ tg_, Steps pg.tables ee below (s₁.setTop (mkF mm 0 #[.val (.int (0 : Int32)), .val (.int p), .val (.int p)] [])) tg_ → Steps pg.tables ee below (s₁.setTop (entryFrame mm #[(.int (0 : Int32)), (.int p), (.int p)] 3)) tg_ := fun tg_ k_ => castTop (ef_19_46 mm (0 : Int32) p p) k_
  obtain ⟨_, _, ⟨T1, L1, k1, n1⟩, -, X1, ⟨Lc1, hQ1, l1, y1, z1⟩, st1⟩ := Jvm.LawKit.callS X0 hx (y := (⟨"jdk/internal/util/Preconditions", "checkFromToIndex", "(IIILjava/util/function/BiFunction;)I"⟩ : MethodName)) hown (mvT hZ (hw _ (List.mem_of_getElem? (i := 110) rfl))) (mvT hZ (hw _ (List.mem_of_getElem? (i := 111) rfl))) (mvT hZ (hw _ (List.mem_of_getElem? (i := 112) rfl))) (mvT hZ (hw _ (List.mem_of_getElem? (i := 113) rfl))) (by decide) (backOf (W := 0) (rmPre l Z a0 hw [] p h0 n0 O0 hp) hZ (hw _ (List.mem_of_getElem? (i := 113) rfl)) (hw _ (List.mem_of_getElem? (i := 112) rfl)) (by decide) (by decide)) (g := (mkF mm 4 #[.val (.int (0 : Int32)), .val (.int p), .val (.int p)] [.null, (.int p), (.int p), (.int (0 : Int32))])) rfl (by rw [hml]; rfl) (argsL := [(.int (0 : Int32)), (.int p), (.int p), .null]) (rest := []) (lenOf pd_43 rfl) rfl (by show 2 * 0 + _ ≤ _; exact Nat.le_of_eq rfl) (hb hby d19_4) (fun _ _ => ⟨rfl, e0, (by decide : 0 + 0 ≤ _), (by decide : 0 + 0 ≤ _)⟩)
  dsimp only [Pt.U, Pt.locs, Pt.cells, Pt.slots] at X1 l1 y1 z1 st1 hQ1
  subst l1 y1 z1
  obtain ⟨rfl, N1q, e1⟩ := hQ1
  have N1 := Fr.app N0 N1q
  obtain ⟨fs, hr, hrun, hended, hW, hsame⟩ := X1.leave (v := some (.int (0 : Int32))) (fun h => by rw [Bd.returns] at h; cases h)
  refine ⟨_, _, pre0 _ ?_, hrun, hended, _, _, rfl, ?_, ⟨_, rfl⟩, hW, hsame.mono (by decide) (by decide)⟩
  · show Steps pg.tables ee below (s₁.setTop (mkF mm 0 #[.val (.int (0 : Int32)), .val (.int p), .val (.int p)] [])) _
    refine XS.iloadN X0.here hx rfl (hb hby d19_0) rfl ?_
    show Steps pg.tables ee below (s₁.setTop (mkF mm 1 #[.val (.int (0 : Int32)), .val (.int p), .val (.int p)] [(.int (0 : Int32))])) _
    refine XS.iloadN X0.here hx rfl (hb hby d19_1) rfl ?_
    show Steps pg.tables ee below (s₁.setTop (mkF mm 2 #[.val (.int (0 : Int32)), .val (.int p), .val (.int p)] [(.int p), (.int (0 : Int32))])) _
    refine XS.iloadN X0.here hx rfl (hb hby d19_2) rfl ?_
    show Steps pg.tables ee below (s₁.setTop (mkF mm 3 #[.val (.int (0 : Int32)), .val (.int p), .val (.int p)] [(.int p), (.int p), (.int (0 : Int32))])) _
    refine XS.aconstNull X0.here hx rfl (hb hby d19_3) ?_
    show Steps pg.tables ee below (s₁.setTop (mkF mm 4 #[.val (.int (0 : Int32)), .val (.int p), .val (.int p)] [.null, (.int p), (.int p), (.int (0 : Int32))])) _
    refine st1 _ ?_
    show Steps pg.tables ee below (T1.setTop (mkF mm 7 #[.val (.int (0 : Int32)), .val (.int p), .val (.int p)] [(.int (0 : Int32))])) _
    exact retOut X1 hx Bd.returns rfl (Or.inl ⟨rfl, Or.inl rfl, _, rfl⟩) (hb hby d19_7) hr
  · show QrmObj Z p h0 n0 _ T1.heap _
    rw [e1]
    exact ⟨rfl, N1, rfl⟩
theorem d18_0 : decode jdk_42_method_59_code 0 = .ok (.iload_n 1, 1) := by decide +kernel
theorem d18_1 : decode jdk_42_method_59_code 1 = .ok (.iload_n 2, 1) := by decide +kernel
theorem d18_2 : decode jdk_42_method_59_code 2 = .ok (.aload_n 0, 1) := by decide +kernel
theorem d18_3 : decode jdk_42_method_59_code 3 = .ok (.invokevirtual 505, 3) := by decide +kernel
theorem pd_51 : parseMethodDescriptor "()I" = some ⟨[], some .int⟩ := by decide +kernel
theorem d18_6 : decode jdk_42_method_59_code 6 = .ok (.invokestatic 511, 3) := by decide +kernel
theorem pd_53 : parseMethodDescriptor "(III)I" = some ⟨[.int, .int, .int], some .int⟩ := by decide +kernel
theorem d18_9 : decode jdk_42_method_59_code 9 = .ok (.pop, 1) := by decide +kernel
theorem d18_10 : decode jdk_42_method_59_code 10 = .ok (.aload_n 0, 1) := by decide +kernel
theorem d18_11 : decode jdk_42_method_59_code 11 = .ok (.invokevirtual 492, 3) := by decide +kernel
theorem pd_57 : parseMethodDescriptor "()Z" = some ⟨[], some .boolean⟩ := by decide +kernel
theorem d18_14 : decode jdk_42_method_59_code 14 = .ok (.ifCond .eq 7, 3) := by decide +kernel
theorem d18_17 : decode jdk_42_method_59_code 17 = .ok (.iload_n 2, 1) := by decide +kernel
theorem d18_18 : decode jdk_42_method_59_code 18 = .ok (.iload_n 1, 1) := by decide +kernel
theorem d18_19 : decode jdk_42_method_59_code 19 = .ok (.isub, 1) := by decide +kernel
theorem d18_20 : decode jdk_42_method_59_code 20 = .ok (.ireturn, 1) := by decide +kernel
theorem ef_18_63 (m : MethodId) (x0 : Addr) (x1 : Int32) (x2 : Int32) : entryFrame m #[(.ref x0), (.int x1), (.int x2)] 3 = mkF m 0 #[.val (.ref x0), .val (.int x1), .val (.int x2)] [] := by first | (simp [entryFrame, mkF, argsToLocals, Value.category]; done) | rfl
def QrmCpc (Z : State) (a : Addr) (d : Addr) (kd : ClassId) (p : Int32) (vs : List Value) (cs : Int32) (h0 : Heap) (n0 : Nat) (v : Option Value) (h : Heap) (L : List Loc) : Prop := v = some (.int p) ∧ Fr n0 L ∧ h = h0
set_option maxRecDepth 65536 in
set_option maxHeartbeats 40000000 in
theorem rmCpc (l : Launch) (Z : State) (a0 : Array Value) (hw : ∀ d ∈ tables_1, d.before a0 Z = true) (ws : List Jvm.Cond) (a : Addr) (d : Addr) (kd : ClassId) (p : Int32) (vs : List Value) (cs : Int32) (h0 : Heap) (n0 : Nat) (O0 : Old Z n0 h0) (Fc : Fld Z h0 a "java/lang/String" "coder" "B" (.int (0 : Int32))) (Fv : Fld Z h0 a "java/lang/String" "value" "[B" (.ref d)) (Va : Arv Z h0 d kd .byte p vs (.int 0)) (Ea : Exa Z h0 a "java/lang/String") (S_CS : Sta Z Z.heap "java/lang/String" "COMPACT_STRINGS" "Z" (.int cs)) (hcs : ¬ (cs = (0 : Int32))) (hp : ¬ (p < (0 : Int32))) :
    MetFree l (⟨"java/lang/String", "codePointCount", "(II)I"⟩ : MethodName) (head1 (Jvm.Cond.code (⟨"java/lang/String", "codePointCount", "(II)I"⟩ : MethodName) jdk_42_method_59_code 3 (some .int) :: ws) ({ frames := 2, cells := 0, slots := 0, locals := 29 } : Room)) (fun a_ U_ => a_ = #[(.ref a), (.int (0 : Int32)), (.int p)] ∧ Z.Warmed39 U_.vm ∧ U_.heap = h0) (fun _ _ _ _ _ => True) (fun _ U_ o_ U'_ => ∃ v_ L_, o_ = .returned v_ ∧ QrmCpc Z a d kd p vs cs h0 n0 v_ U'_.heap L_ ∧ FrameEnd U_ o_ U'_ L_ ({ frames := 2, cells := 0, slots := 0, locals := 29 } : Room).cells ({ frames := 2, cells := 0, slots := 0, locals := 29 } : Room).slots) := by
  refine MetFree.of_bodySF (plainFor_of_name pn_6) hisR ?_
  intro pg ee s mm args below meth cc s₁ Bd hml0 hP hK
  obtain ⟨rfl, hZ, hh⟩ := hP
  have hx := Bd.exec
  have hby := Bd.bytes
  have hml : cc.maxLocals = 3 := hml0
  have hown : s.vm.findClass "java/lang/String" = some mm.cls := findClass_of_methodNamed Bd.named
  have hnm := (name_of_methodNamed Bd.named Bd.method).1
  have X0 : Stand pg l ee ({ frames := 2, cells := 0, slots := 0, locals := 29 } : Room) s mm #[(.ref a), (.int (0 : Int32)), (.int p)] below meth cc s₁ [] 0 0 := Stand.of_body Bd
  have e0 : s₁.heap = h0 := by rw [← hh, Bd.state]; rfl
  have N0 := Fr.nil n0
  have K0 : Keep h0 h0 ([] : List Addr) := Keep.refl _ _
  have pre0 : ∀ tg_, Steps pg.tables ee below (s₁.setTop (mkF mm 0 #[.val (.ref a), .val (.int (0 : Int32)), .val (.int p)] [])) tg_ → Steps pg.tables ee below (s₁.setTop (entryFrame mm #[(.ref a), (.int (0 : Int32)), (.int p)] 3)) tg_ := fun tg_ k_ => castTop (ef_18_63 mm a (0 : Int32) p) k_
  obtain ⟨cq1, kq1, q1a, q1b, q1c⟩ := isOf hZ e0 Ea
  obtain ⟨_, _, ⟨T1, L1, k1, n1⟩, -, X1, ⟨Lc1, hQ1, l1, y1, z1⟩, st1⟩ := X0.virtualBack hx (y := (⟨"java/lang/String", "length", "()I"⟩ : MethodName)) (z := (⟨"java/lang/String", "length", "()I"⟩ : MethodName)) hown (mvT hZ (hw _ (List.mem_of_getElem? (i := 105) rfl))) (mvT hZ (hw _ (List.mem_of_getElem? (i := 90) rfl))) (notFace_of_selects (args := #[]) (mvT hZ (hw _ (List.mem_of_getElem? (i := 92) rfl)))) (mvT hZ (hw _ (List.mem_of_getElem? (i := 92) rfl))) (mvT hZ (hw _ (List.mem_of_getElem? (i := 91) rfl))) (by decide) (backOf (W := 2) (rmLen l Z a0 hw [] a d kd p vs cs h0 n0 O0 Fc Fv Va Ea S_CS hcs) hZ (hw _ (List.mem_of_getElem? (i := 93) rfl)) (hw _ (List.mem_of_getElem? (i := 6) rfl)) (by decide) (by decide)) q1a q1c (g := (mkF mm 3 #[.val (.ref a), .val (.int (0 : Int32)), .val (.int p)] [(.ref a), (.int p), (.int (0 : Int32))])) rfl (by rw [hml]; rfl) (Steps.refl _) (argsL := []) (rest := [(.int p), (.int (0 : Int32))]) (lenOf pd_51 rfl) rfl (by show 2 * 0 + _ ≤ _; exact Nat.le_of_eq rfl) (hb hby d18_3) (fun _ _ => ⟨rfl, e0, (by decide : 0 + 0 ≤ _), (by decide : 0 + 0 ≤ _)⟩)
  dsimp only [Pt.U, Pt.locs, Pt.cells, Pt.slots] at X1 l1 y1 z1 st1 hQ1
  subst l1 y1 z1
  obtain ⟨rfl, N1q, e1⟩ := hQ1
  have N1 := Fr.app N0 N1q
  obtain ⟨_, _, ⟨T2, L2, k2, n2⟩, -, X2, ⟨Lc2, hQ2, l2, y2, z2⟩, st2⟩ := Jvm.LawKit.callS X1 hx (y := (⟨"java/util/Objects", "checkFromToIndex", "(III)I"⟩ : MethodName)) hown (mvT hZ (hw _ (List.mem_of_getElem? (i := 106) rfl))) (mvT hZ (hw _ (List.mem_of_getElem? (i := 107) rfl))) (mvT hZ (hw _ (List.mem_of_getElem? (i := 108) rfl))) (mvT hZ (hw _ (List.mem_of_getElem? (i := 109) rfl))) (by decide) (backOf (W := 0) (rmObj l Z a0 hw [] p h0 n0 O0 hp) hZ (hw _ (List.mem_of_getElem? (i := 109) rfl)) (hw _ (List.mem_of_getElem? (i := 108) rfl)) (by decide) (by decide)) (g := (mkF mm 6 #[.val (.ref a), .val (.int (0 : Int32)), .val (.int p)] [(.int p), (.int p), (.int (0 : Int32))])) rfl (by rw [hml]; rfl) (argsL := [(.int (0 : Int32)), (.int p), (.int p)]) (rest := []) (lenOf pd_53 rfl) rfl (by show 2 * 0 + _ ≤ _; exact Nat.le_of_eq rfl) (hb hby d18_6) (fun _ _ => ⟨rfl, e1, (by decide : 0 + 0 ≤ _), (by decide : 0 + 0 ≤ _)⟩)
  dsimp only [Pt.U, Pt.locs, Pt.cells, Pt.slots] at X2 l2 y2 z2 st2 hQ2
  subst l2 y2 z2
  obtain ⟨rfl, N2q, e2⟩ := hQ2
  have N2 := Fr.app N1 N2q
  obtain ⟨cq3, kq3, q3a, q3b, q3c⟩ := isOf hZ e2 Ea
  obtain ⟨_, _, ⟨T3, L3, k3, n3⟩, -, X3, ⟨Lc3, hQ3, l3, y3, z3⟩, st3⟩ := X2.virtualBack hx (y := (⟨"java/lang/String", "isLatin1", "()Z"⟩ : MethodName)) (z := (⟨"java/lang/String", "isLatin1", "()Z"⟩ : MethodName)) hown (mvT hZ (hw _ (List.mem_of_getElem? (i := 114) rfl))) (mvT hZ (hw _ (List.mem_of_getElem? (i := 115) rfl))) (notFace_of_selects (args := #[]) (mvT hZ (hw _ (List.mem_of_getElem? (i := 117) rfl)))) (mvT hZ (hw _ (List.mem_of_getElem? (i := 117) rfl))) (mvT hZ (hw _ (List.mem_of_getElem? (i := 116) rfl))) (by decide) (backOf (W := 0) (rmLat l Z a0 hw [] a d kd p vs cs h0 n0 O0 Fc Fv Va Ea S_CS hcs) hZ (hw _ (List.mem_of_getElem? (i := 118) rfl)) (hw _ (List.mem_of_getElem? (i := 6) rfl)) (by decide) (by decide)) q3a q3c (g := (mkF mm 11 #[.val (.ref a), .val (.int (0 : Int32)), .val (.int p)] [(.ref a)])) rfl (by rw [hml]; rfl) (Steps.refl _) (argsL := []) (rest := []) (lenOf pd_57 rfl) rfl (by show 2 * 0 + _ ≤ _; exact Nat.le_of_eq rfl) (hb hby d18_11) (fun _ _ => ⟨rfl, e2, (by decide : 0 + 0 ≤ _), (by decide : 0 + 0 ≤ _)⟩)
  dsimp only [Pt.U, Pt.locs, Pt.cells, Pt.slots] at X3 l3 y3 z3 st3 hQ3
  subst l3 y3 z3
  obtain ⟨rfl, N3q, e3⟩ := hQ3
  have N3 := Fr.app N2 N3q
  obtain ⟨fs, hr, hrun, hended, hW, hsame⟩ := X3.leave (v := some (.int (p - (0 : Int32)))) (fun h => by rw [Bd.returns] at h; cases h)
  refine ⟨_, _, pre0 _ ?_, hrun, hended, _, _, rfl, ?_, ⟨_, rfl⟩, hW, hsame.mono (by decide) (by decide)⟩
  · show Steps pg.tables ee below (s₁.setTop (mkF mm 0 #[.val (.ref a), .val (.int (0 : Int32)), .val (.int p)] [])) _
    refine XS.iloadN X0.here hx rfl (hb hby d18_0) rfl ?_
    show Steps pg.tables ee below (s₁.setTop (mkF mm 1 #[.val (.ref a), .val (.int (0 : Int32)), .val (.int p)] [(.int (0 : Int32))])) _
    refine XS.iloadN X0.here hx rfl (hb hby d18_1) rfl ?_
    show Steps pg.tables ee below (s₁.setTop (mkF mm 2 #[.val (.ref a), .val (.int (0 : Int32)), .val (.int p)] [(.int p), (.int (0 : Int32))])) _
    refine XS.aloadN X0.here hx rfl (hb hby d18_2) rfl rfl ?_
    show Steps pg.tables ee below (s₁.setTop (mkF mm 3 #[.val (.ref a), .val (.int (0 : Int32)), .val (.int p)] [(.ref a), (.int p), (.int (0 : Int32))])) _
    refine st1.trans ?_
    show Steps pg.tables ee below (T1.setTop (mkF mm 6 #[.val (.ref a), .val (.int (0 : Int32)), .val (.int p)] [(.int p), (.int p), (.int (0 : Int32))])) _
    refine st2 _ ?_
    show Steps pg.tables ee below (T2.setTop (mkF mm 9 #[.val (.ref a), .val (.int (0 : Int32)), .val (.int p)] [(.int (0 : Int32))])) _
    refine XS.pop X2.here hx rfl (hb hby d18_9) rfl rfl ?_
    show Steps pg.tables ee below (T2.setTop (mkF mm 10 #[.val (.ref a), .val (.int (0 : Int32)), .val (.int p)] [])) _
    refine XS.aloadN X2.here hx rfl (hb hby d18_10) rfl rfl ?_
    show Steps pg.tables ee below (T2.setTop (mkF mm 11 #[.val (.ref a), .val (.int (0 : Int32)), .val (.int p)] [(.ref a)])) _
    refine st3.trans ?_
    show Steps pg.tables ee below (T3.setTop (mkF mm 14 #[.val (.ref a), .val (.int (0 : Int32)), .val (.int p)] [(.int (1 : Int32))])) _
    refine XS.ifNo X3.here hx rfl (hb hby d18_14) rfl ((if0 _ _).trans (feq (by decide : ¬ ((1 : Int32) = (0 : Int32)))).1) ?_
    show Steps pg.tables ee below (T3.setTop (mkF mm 17 #[.val (.ref a), .val (.int (0 : Int32)), .val (.int p)] [])) _
    refine XS.iloadN X3.here hx rfl (hb hby d18_17) rfl ?_
    show Steps pg.tables ee below (T3.setTop (mkF mm 18 #[.val (.ref a), .val (.int (0 : Int32)), .val (.int p)] [(.int p)])) _
    refine XS.iloadN X3.here hx rfl (hb hby d18_18) rfl ?_
    show Steps pg.tables ee below (T3.setTop (mkF mm 19 #[.val (.ref a), .val (.int (0 : Int32)), .val (.int p)] [(.int (0 : Int32)), (.int p)])) _
    refine XS.isub X3.here hx rfl (hb hby d18_19) rfl ?_
    show Steps pg.tables ee below (T3.setTop (mkF mm 20 #[.val (.ref a), .val (.int (0 : Int32)), .val (.int p)] [(.int (p - (0 : Int32)))])) _
    exact retOut X3 hx Bd.returns rfl (Or.inl ⟨rfl, Or.inl rfl, _, rfl⟩) (hb hby d18_20) hr
  · show QrmCpc Z a d kd p vs cs h0 n0 _ T3.heap _
    rw [e3]
    exact ⟨congrArg (fun z => some (Value.int z)) (Int32.sub_zero p), N3, rfl⟩
theorem d8_0 : decode jdk_42_method_66_code 0 = .ok (.aload_n 0, 1) := by decide +kernel
theorem d8_1 : decode jdk_42_method_66_code 1 = .ok (.aload_n 1, 1) := by decide +kernel
theorem d8_2 : decode jdk_42_method_66_code 2 = .ok (.if_acmp .ne 5, 3) := by decide +kernel
theorem d8_5 : decode jdk_42_method_66_code 5 = .ok (.iconst 1, 1) := by decide +kernel
theorem d8_6 : decode jdk_42_method_66_code 6 = .ok (.ireturn, 1) := by decide +kernel
theorem ef_8_69 (m : MethodId) (x0 : Addr) (x1 : Addr) : entryFrame m #[(.ref x0), (.ref x1)] 3 = mkF m 0 #[.val (.ref x0), .val (.ref x1), .unset] [] := by first | (simp [entryFrame, mkF, argsToLocals, Value.category]; done) | rfl
def QrmEq (Z : State) (a : Addr) (h0 : Heap) (n0 : Nat) (v : Option Value) (h : Heap) (L : List Loc) : Prop := v = some (.int (1 : Int32)) ∧ Fr n0 L ∧ h = h0
set_option maxRecDepth 65536 in
set_option maxHeartbeats 40000000 in
theorem rmEq (l : Launch) (Z : State) (a0 : Array Value) (hw : ∀ d ∈ tables_1, d.before a0 Z = true) (ws : List Jvm.Cond) (a : Addr) (h0 : Heap) (n0 : Nat) (O0 : Old Z n0 h0)  :
    MetFree l (⟨"java/lang/String", "equals", "(Ljava/lang/Object;)Z"⟩ : MethodName) (head1 (Jvm.Cond.code (⟨"java/lang/String", "equals", "(Ljava/lang/Object;)Z"⟩ : MethodName) jdk_42_method_66_code 3 (some .boolean) :: ws) ({ frames := 0, cells := 0, slots := 0, locals := 0 } : Room)) (fun a_ U_ => a_ = #[(.ref a), (.ref a)] ∧ Z.Warmed39 U_.vm ∧ U_.heap = h0) (fun _ _ _ _ _ => True) (fun _ U_ o_ U'_ => ∃ v_ L_, o_ = .returned v_ ∧ QrmEq Z a h0 n0 v_ U'_.heap L_ ∧ FrameEnd U_ o_ U'_ L_ ({ frames := 0, cells := 0, slots := 0, locals := 0 } : Room).cells ({ frames := 0, cells := 0, slots := 0, locals := 0 } : Room).slots) := by
  refine MetFree.of_bodySF (plainFor_of_name pn_6) hisR ?_
  intro pg ee s mm args below meth cc s₁ Bd hml0 hP hK
  obtain ⟨rfl, hZ, hh⟩ := hP
  have hx := Bd.exec
  have hby := Bd.bytes
  have hml : cc.maxLocals = 3 := hml0
  have hown : s.vm.findClass "java/lang/String" = some mm.cls := findClass_of_methodNamed Bd.named
  have hnm := (name_of_methodNamed Bd.named Bd.method).1
  have X0 : Stand pg l ee ({ frames := 0, cells := 0, slots := 0, locals := 0 } : Room) s mm #[(.ref a), (.ref a)] below meth cc s₁ [] 0 0 := Stand.of_body Bd
  have e0 : s₁.heap = h0 := by rw [← hh, Bd.state]; rfl
  have N0 := Fr.nil n0
  have K0 : Keep h0 h0 ([] : List Addr) := Keep.refl _ _
  have pre0 : ∀ tg_, Steps pg.tables ee below (s₁.setTop (mkF mm 0 #[.val (.ref a), .val (.ref a), .unset] [])) tg_ → Steps pg.tables ee below (s₁.setTop (entryFrame mm #[(.ref a), (.ref a)] 3)) tg_ := fun tg_ k_ => castTop (ef_8_69 mm a a) k_
  obtain ⟨fs, hr, hrun, hended, hW, hsame⟩ := X0.leave (v := some (.int (1 : Int32))) (fun h => by rw [Bd.returns] at h; cases h)
  refine ⟨_, _, pre0 _ ?_, hrun, hended, _, _, rfl, ?_, ⟨_, rfl⟩, hW, hsame.mono (by decide) (by decide)⟩
  · show Steps pg.tables ee below (s₁.setTop (mkF mm 0 #[.val (.ref a), .val (.ref a), .unset] [])) _
    refine XS.aloadN X0.here hx rfl (hb hby d8_0) rfl rfl ?_
    show Steps pg.tables ee below (s₁.setTop (mkF mm 1 #[.val (.ref a), .val (.ref a), .unset] [(.ref a)])) _
    refine XS.aloadN X0.here hx rfl (hb hby d8_1) rfl rfl ?_
    show Steps pg.tables ee below (s₁.setTop (mkF mm 2 #[.val (.ref a), .val (.ref a), .unset] [(.ref a), (.ref a)])) _
    refine Jvm.RoadKit.acmp (g := (mkF mm 2 #[.val (.ref a), .val (.ref a), .unset] [(.ref a), (.ref a)])) X0 hx rfl rfl rfl (pc0 := 2) (pc' := 5) (same := true) rfl (hb hby d8_2) rfl (decide_eq_true rfl) (by decide) (by decide) ?_
    show Steps pg.tables ee below (s₁.setTop (mkF mm 5 #[.val (.ref a), .val (.ref a), .unset] [])) _
    refine XS.iconst X0.here hx rfl (hb hby d8_5) ?_
    show Steps pg.tables ee below (s₁.setTop (mkF mm 6 #[.val (.ref a), .val (.ref a), .unset] [(.int (1 : Int32))])) _
    exact retN X0 hx (t := .boolean) Bd.returns (by simp) (hb hby d8_6) hr
  · show QrmEq Z a h0 n0 _ s₁.heap _
    rw [e0]
    exact ⟨rfl, N0, rfl⟩
theorem d13_0 : decode method_4_code 0 = .ok (.aload_n 0, 1) := by decide +kernel
theorem d13_1 : decode method_4_code 1 = .ok (.ifnonnull 13, 3) := by decide +kernel
theorem d13_4 : decode method_4_code 4 = .ok (.aload_n 1, 1) := by decide +kernel
theorem d13_5 : decode method_4_code 5 = .ok (.ifnonnull 7, 3) := by decide +kernel
theorem d13_8 : decode method_4_code 8 = .ok (.iconst 1, 1) := by decide +kernel
theorem d13_9 : decode method_4_code 9 = .ok (.goto 4, 3) := by decide +kernel
theorem d13_13 : decode method_4_code 13 = .ok (.ireturn, 1) := by decide +kernel
theorem pn_77 : plainName "com/example/orders_into_outcomes/ordersintooutcomes/model/TextLimitOptionalPinLaw" = true := by first | (simp [plainName, overriddenIn]; done) | decide +kernel
theorem ef_13_78 (m : MethodId)  : entryFrame m #[.null, .null] 2 = mkF m 0 #[.val .null, .val .null] [] := by first | (simp [entryFrame, mkF, argsToLocals, Value.category]; done) | rfl
def QrmSn (Z : State)  (h0 : Heap) (n0 : Nat) (v : Option Value) (h : Heap) (L : List Loc) : Prop := v = some (.int (1 : Int32)) ∧ Fr n0 L ∧ h = h0
set_option maxRecDepth 65536 in
set_option maxHeartbeats 40000000 in
theorem rmSn (l : Launch) (Z : State) (a0 : Array Value) (hw : ∀ d ∈ tables_1, d.before a0 Z = true) (ws : List Jvm.Cond)  (h0 : Heap) (n0 : Nat) (O0 : Old Z n0 h0)  :
    MetFree l (⟨"com/example/orders_into_outcomes/ordersintooutcomes/model/TextLimitOptionalPinLaw", "same", "(Ljava/lang/String;Ljava/lang/String;)Z"⟩ : MethodName) (head1 (Jvm.Cond.code (⟨"com/example/orders_into_outcomes/ordersintooutcomes/model/TextLimitOptionalPinLaw", "same", "(Ljava/lang/String;Ljava/lang/String;)Z"⟩ : MethodName) method_4_code 2 (some .boolean) :: ws) ({ frames := 0, cells := 0, slots := 0, locals := 0 } : Room)) (fun a_ U_ => a_ = #[.null, .null] ∧ Z.Warmed39 U_.vm ∧ U_.heap = h0) (fun _ _ _ _ _ => True) (fun _ U_ o_ U'_ => ∃ v_ L_, o_ = .returned v_ ∧ QrmSn Z  h0 n0 v_ U'_.heap L_ ∧ FrameEnd U_ o_ U'_ L_ ({ frames := 0, cells := 0, slots := 0, locals := 0 } : Room).cells ({ frames := 0, cells := 0, slots := 0, locals := 0 } : Room).slots) := by
  refine MetFree.of_bodySF (plainFor_of_name pn_77) hisR ?_
  intro pg ee s mm args below meth cc s₁ Bd hml0 hP hK
  obtain ⟨rfl, hZ, hh⟩ := hP
  have hx := Bd.exec
  have hby := Bd.bytes
  have hml : cc.maxLocals = 2 := hml0
  have hown : s.vm.findClass "com/example/orders_into_outcomes/ordersintooutcomes/model/TextLimitOptionalPinLaw" = some mm.cls := findClass_of_methodNamed Bd.named
  have hnm := (name_of_methodNamed Bd.named Bd.method).1
  have X0 : Stand pg l ee ({ frames := 0, cells := 0, slots := 0, locals := 0 } : Room) s mm #[.null, .null] below meth cc s₁ [] 0 0 := Stand.of_body Bd
  have e0 : s₁.heap = h0 := by rw [← hh, Bd.state]; rfl
  have N0 := Fr.nil n0
  have K0 : Keep h0 h0 ([] : List Addr) := Keep.refl _ _
  have pre0 : ∀ tg_, Steps pg.tables ee below (s₁.setTop (mkF mm 0 #[.val .null, .val .null] [])) tg_ → Steps pg.tables ee below (s₁.setTop (entryFrame mm #[.null, .null] 2)) tg_ := fun tg_ k_ => castTop (ef_13_78 mm ) k_
  obtain ⟨fs, hr, hrun, hended, hW, hsame⟩ := X0.leave (v := some (.int (1 : Int32))) (fun h => by rw [Bd.returns] at h; cases h)
  refine ⟨_, _, pre0 _ ?_, hrun, hended, _, _, rfl, ?_, ⟨_, rfl⟩, hW, hsame.mono (by decide) (by decide)⟩
  · show Steps pg.tables ee below (s₁.setTop (mkF mm 0 #[.val .null, .val .null] [])) _
    refine XS.aloadN X0.here hx rfl (hb hby d13_0) rfl rfl ?_
    show Steps pg.tables ee below (s₁.setTop (mkF mm 1 #[.val .null, .val .null] [.null])) _
    refine XS.ifnonnullNo X0.here hx rfl (hb hby d13_1) rfl ?_
    show Steps pg.tables ee below (s₁.setTop (mkF mm 4 #[.val .null, .val .null] [])) _
    refine XS.aloadN X0.here hx rfl (hb hby d13_4) rfl rfl ?_
    show Steps pg.tables ee below (s₁.setTop (mkF mm 5 #[.val .null, .val .null] [.null])) _
    refine XS.ifnonnullNo X0.here hx rfl (hb hby d13_5) rfl ?_
    show Steps pg.tables ee below (s₁.setTop (mkF mm 8 #[.val .null, .val .null] [])) _
    refine XS.iconst X0.here hx rfl (hb hby d13_8) ?_
    show Steps pg.tables ee below (s₁.setTop (mkF mm 9 #[.val .null, .val .null] [(.int (1 : Int32))])) _
    refine XS.goto X0.here hx rfl (pc0 := 9) (pc' := 13) rfl (hb hby d13_9) (by decide) (by decide) ?_
    show Steps pg.tables ee below (s₁.setTop (mkF mm 13 #[.val .null, .val .null] [(.int (1 : Int32))])) _
    exact retN X0 hx (t := .boolean) Bd.returns (by simp) (hb hby d13_13) hr
  · show QrmSn Z  h0 n0 _ s₁.heap _
    rw [e0]
    exact ⟨rfl, N0, rfl⟩
theorem d13_14 : decode method_4_code 14 = .ok (.aload_n 0, 1) := by decide +kernel
theorem d13_15 : decode method_4_code 15 = .ok (.aload_n 1, 1) := by decide +kernel
theorem d13_16 : decode method_4_code 16 = .ok (.invokevirtual 23, 3) := by decide +kernel
theorem pd_82 : parseMethodDescriptor "(Ljava/lang/Object;)Z" = some ⟨[(.object "java/lang/Object")], some .boolean⟩ := by decide +kernel
theorem d13_19 : decode method_4_code 19 = .ok (.ireturn, 1) := by decide +kernel
theorem ef_13_84 (m : MethodId) (x0 : Addr) (x1 : Addr) : entryFrame m #[(.ref x0), (.ref x1)] 2 = mkF m 0 #[.val (.ref x0), .val (.ref x1)] [] := by first | (simp [entryFrame, mkF, argsToLocals, Value.category]; done) | rfl
def QrmSr (Z : State) (a : Addr) (h0 : Heap) (n0 : Nat) (v : Option Value) (h : Heap) (L : List Loc) : Prop := v = some (.int (1 : Int32)) ∧ Fr n0 L ∧ h = h0
set_option maxRecDepth 65536 in
set_option maxHeartbeats 40000000 in
theorem rmSr (l : Launch) (Z : State) (a0 : Array Value) (hw : ∀ d ∈ tables_1, d.before a0 Z = true) (ws : List Jvm.Cond) (a : Addr) (h0 : Heap) (n0 : Nat) (O0 : Old Z n0 h0) (Ea : Exa Z h0 a "java/lang/String") :
    MetFree l (⟨"com/example/orders_into_outcomes/ordersintooutcomes/model/TextLimitOptionalPinLaw", "same", "(Ljava/lang/String;Ljava/lang/String;)Z"⟩ : MethodName) (head1 (Jvm.Cond.code (⟨"com/example/orders_into_outcomes/ordersintooutcomes/model/TextLimitOptionalPinLaw", "same", "(Ljava/lang/String;Ljava/lang/String;)Z"⟩ : MethodName) method_4_code 2 (some .boolean) :: ws) ({ frames := 1, cells := 0, slots := 0, locals := 14 } : Room)) (fun a_ U_ => a_ = #[(.ref a), (.ref a)] ∧ Z.Warmed39 U_.vm ∧ U_.heap = h0) (fun _ _ _ _ _ => True) (fun _ U_ o_ U'_ => ∃ v_ L_, o_ = .returned v_ ∧ QrmSr Z a h0 n0 v_ U'_.heap L_ ∧ FrameEnd U_ o_ U'_ L_ ({ frames := 1, cells := 0, slots := 0, locals := 14 } : Room).cells ({ frames := 1, cells := 0, slots := 0, locals := 14 } : Room).slots) := by
  refine MetFree.of_bodySF (plainFor_of_name pn_77) hisR ?_
  intro pg ee s mm args below meth cc s₁ Bd hml0 hP hK
  obtain ⟨rfl, hZ, hh⟩ := hP
  have hx := Bd.exec
  have hby := Bd.bytes
  have hml : cc.maxLocals = 2 := hml0
  have hown : s.vm.findClass "com/example/orders_into_outcomes/ordersintooutcomes/model/TextLimitOptionalPinLaw" = some mm.cls := findClass_of_methodNamed Bd.named
  have hnm := (name_of_methodNamed Bd.named Bd.method).1
  have X0 : Stand pg l ee ({ frames := 1, cells := 0, slots := 0, locals := 14 } : Room) s mm #[(.ref a), (.ref a)] below meth cc s₁ [] 0 0 := Stand.of_body Bd
  have e0 : s₁.heap = h0 := by rw [← hh, Bd.state]; rfl
  have N0 := Fr.nil n0
  have K0 : Keep h0 h0 ([] : List Addr) := Keep.refl _ _
  have pre0 : ∀ tg_, Steps pg.tables ee below (s₁.setTop (mkF mm 0 #[.val (.ref a), .val (.ref a)] [])) tg_ → Steps pg.tables ee below (s₁.setTop (entryFrame mm #[(.ref a), (.ref a)] 2)) tg_ := fun tg_ k_ => castTop (ef_13_84 mm a a) k_
  obtain ⟨cq1, kq1, q1a, q1b, q1c⟩ := isOf hZ e0 Ea
  obtain ⟨_, _, ⟨T1, L1, k1, n1⟩, -, X1, ⟨Lc1, hQ1, l1, y1, z1⟩, st1⟩ := X0.virtualBack hx (y := (⟨"java/lang/String", "equals", "(Ljava/lang/Object;)Z"⟩ : MethodName)) (z := (⟨"java/lang/String", "equals", "(Ljava/lang/Object;)Z"⟩ : MethodName)) hown (mvT hZ (hw _ (List.mem_of_getElem? (i := 51) rfl))) (mvT hZ (hw _ (List.mem_of_getElem? (i := 52) rfl))) (notFace_of_selects (args := #[]) (mvT hZ (hw _ (List.mem_of_getElem? (i := 54) rfl)))) (mvT hZ (hw _ (List.mem_of_getElem? (i := 54) rfl))) (mvT hZ (hw _ (List.mem_of_getElem? (i := 53) rfl))) (by decide) (backOf (W := 0) (rmEq l Z a0 hw [] a h0 n0 O0) hZ (hw _ (List.mem_of_getElem? (i := 55) rfl)) (hw _ (List.mem_of_getElem? (i := 6) rfl)) (by decide) (by decide)) q1a q1c (g := (mkF mm 16 #[.val (.ref a), .val (.ref a)] [(.ref a), (.ref a)])) rfl (by rw [hml]; rfl) (Steps.refl _) (argsL := [(.ref a)]) (rest := []) (lenOf pd_82 rfl) rfl (by show 2 * 0 + _ ≤ _; exact Nat.le_of_eq rfl) (hb hby d13_16) (fun _ _ => ⟨rfl, e0, (by decide : 0 + 0 ≤ _), (by decide : 0 + 0 ≤ _)⟩)
  dsimp only [Pt.U, Pt.locs, Pt.cells, Pt.slots] at X1 l1 y1 z1 st1 hQ1
  subst l1 y1 z1
  obtain ⟨rfl, N1q, e1⟩ := hQ1
  have N1 := Fr.app N0 N1q
  obtain ⟨fs, hr, hrun, hended, hW, hsame⟩ := X1.leave (v := some (.int (1 : Int32))) (fun h => by rw [Bd.returns] at h; cases h)
  refine ⟨_, _, pre0 _ ?_, hrun, hended, _, _, rfl, ?_, ⟨_, rfl⟩, hW, hsame.mono (by decide) (by decide)⟩
  · show Steps pg.tables ee below (s₁.setTop (mkF mm 0 #[.val (.ref a), .val (.ref a)] [])) _
    refine XS.aloadN X0.here hx rfl (hb hby d13_0) rfl rfl ?_
    show Steps pg.tables ee below (s₁.setTop (mkF mm 1 #[.val (.ref a), .val (.ref a)] [(.ref a)])) _
    refine XS.ifnonnullYes X0.here hx rfl (pc0 := 1) (pc' := 14) rfl (hb hby d13_1) rfl (by decide) (by decide) ?_
    show Steps pg.tables ee below (s₁.setTop (mkF mm 14 #[.val (.ref a), .val (.ref a)] [])) _
    refine XS.aloadN X0.here hx rfl (hb hby d13_14) rfl rfl ?_
    show Steps pg.tables ee below (s₁.setTop (mkF mm 15 #[.val (.ref a), .val (.ref a)] [(.ref a)])) _
    refine XS.aloadN X0.here hx rfl (hb hby d13_15) rfl rfl ?_
    show Steps pg.tables ee below (s₁.setTop (mkF mm 16 #[.val (.ref a), .val (.ref a)] [(.ref a), (.ref a)])) _
    refine st1.trans ?_
    show Steps pg.tables ee below (T1.setTop (mkF mm 19 #[.val (.ref a), .val (.ref a)] [(.int (1 : Int32))])) _
    exact retN X1 hx (t := .boolean) Bd.returns (by simp) (hb hby d13_19) hr
  · show QrmSr Z a h0 n0 _ T1.heap _
    rw [e1]
    exact ⟨rfl, N1, rfl⟩
theorem d6_0 : decode prog_49_method_1_code 0 = .ok (.aload_n 0, 1) := by decide +kernel
theorem d6_1 : decode prog_49_method_1_code 1 = .ok (.invokespecial 1, 3) := by decide +kernel
theorem d6_4 : decode prog_49_method_1_code 4 = .ok (.aload_n 0, 1) := by decide +kernel
theorem d6_5 : decode prog_49_method_1_code 5 = .ok (.aload_n 1, 1) := by decide +kernel
theorem d6_6 : decode prog_49_method_1_code 6 = .ok (.putfield 7, 3) := by decide +kernel
theorem d6_9 : decode prog_49_method_1_code 9 = .ok (.aload_n 0, 1) := by decide +kernel
theorem d6_10 : decode prog_49_method_1_code 10 = .ok (.iload_n 2, 1) := by decide +kernel
theorem d6_11 : decode prog_49_method_1_code 11 = .ok (.putfield 13, 3) := by decide +kernel
theorem d6_14 : decode prog_49_method_1_code 14 = .ok (.aload_n 0, 1) := by decide +kernel
theorem d6_15 : decode prog_49_method_1_code 15 = .ok (.iload_n 3, 1) := by decide +kernel
theorem d6_16 : decode prog_49_method_1_code 16 = .ok (.putfield 17, 3) := by decide +kernel
theorem d6_19 : decode prog_49_method_1_code 19 = .ok (.aload_n 0, 1) := by decide +kernel
theorem d6_20 : decode prog_49_method_1_code 20 = .ok (.iload 4, 2) := by decide +kernel
theorem d6_22 : decode prog_49_method_1_code 22 = .ok (.putfield 20, 3) := by decide +kernel
theorem d6_25 : decode prog_49_method_1_code 25 = .ok (.aload_n 0, 1) := by decide +kernel
theorem d6_26 : decode prog_49_method_1_code 26 = .ok (.aload 5, 2) := by decide +kernel
theorem d6_28 : decode prog_49_method_1_code 28 = .ok (.putfield 24, 3) := by decide +kernel
theorem d6_31 : decode prog_49_method_1_code 31 = .ok (.return_, 1) := by decide +kernel
theorem pn_103 : plainName "com/example/orders_into_outcomes/ordersintooutcomes/model/TextLimit" = true := by first | (simp [plainName, overriddenIn]; done) | decide +kernel
theorem ef_6_104 (m : MethodId) (x0 : Addr) (x1 : Addr) (x2 : Int32) (x3 : Int32) (x4 : Int32) : entryFrame m #[(.ref x0), (.ref x1), (.int x2), (.int x3), (.int x4), .null] 6 = mkF m 0 #[.val (.ref x0), .val (.ref x1), .val (.int x2), .val (.int x3), .val (.int x4), .val .null] [] := by first | (simp [entryFrame, mkF, argsToLocals, Value.category]; done) | rfl
def QrmTIN (Z : State) (a : Addr) (nm : Addr) (sh : Int32) (lo : Int32) (h0 : Heap) (n0 : Nat) (v : Option Value) (h : Heap) (L : List Loc) : Prop := v = none ∧ Fr n0 L ∧ Keep h0 h [a] ∧ Exa Z h a "com/example/orders_into_outcomes/ordersintooutcomes/model/TextLimit" ∧ Fld Z h a "com/example/orders_into_outcomes/ordersintooutcomes/model/TextLimit" "name" "Ljava/lang/String;" (.ref nm) ∧ Fld Z h a "com/example/orders_into_outcomes/ordersintooutcomes/model/TextLimit" "shortest" "I" (.int sh) ∧ Fld Z h a "com/example/orders_into_outcomes/ordersintooutcomes/model/TextLimit" "longest" "I" (.int lo) ∧ Fld Z h a "com/example/orders_into_outcomes/ordersintooutcomes/model/TextLimit" "required" "Z" (.int (0 : Int32)) ∧ Fld Z h a "com/example/orders_into_outcomes/ordersintooutcomes/model/TextLimit" "byDefault" "Ljava/lang/String;" .null
set_option maxRecDepth 65536 in
set_option maxHeartbeats 40000000 in
theorem rmTIN (l : Launch) (Z : State) (a0 : Array Value) (hw : ∀ d ∈ tables_1, d.before a0 Z = true) (ws : List Jvm.Cond) (a : Addr) (nm : Addr) (sh : Int32) (lo : Int32) (h0 : Heap) (n0 : Nat) (O0 : Old Z n0 h0) (E_a : Exa Z h0 a "com/example/orders_into_outcomes/ordersintooutcomes/model/TextLimit") (F_name_a : Fld Z h0 a "com/example/orders_into_outcomes/ordersintooutcomes/model/TextLimit" "name" "Ljava/lang/String;" .null) (F_shortest_a : Fld Z h0 a "com/example/orders_into_outcomes/ordersintooutcomes/model/TextLimit" "shortest" "I" (.int (0 : Int32))) (F_longest_a : Fld Z h0 a "com/example/orders_into_outcomes/ordersintooutcomes/model/TextLimit" "longest" "I" (.int (0 : Int32))) (F_required_a : Fld Z h0 a "com/example/orders_into_outcomes/ordersintooutcomes/model/TextLimit" "required" "Z" (.int (0 : Int32))) (F_byDefault_a : Fld Z h0 a "com/example/orders_into_outcomes/ordersintooutcomes/model/TextLimit" "byDefault" "Ljava/lang/String;" .null) (g_a : n0 ≤ a) :
    MetFree l (⟨"com/example/orders_into_outcomes/ordersintooutcomes/model/TextLimit", "<init>", "(Ljava/lang/String;IIZLjava/lang/String;)V"⟩ : MethodName) (head1 (Jvm.Cond.code (⟨"com/example/orders_into_outcomes/ordersintooutcomes/model/TextLimit", "<init>", "(Ljava/lang/String;IIZLjava/lang/String;)V"⟩ : MethodName) prog_49_method_1_code 6 none :: ws) ({ frames := 1, cells := 0, slots := 0, locals := 12 } : Room)) (fun a_ U_ => a_ = #[(.ref a), (.ref nm), (.int sh), (.int lo), (.int (0 : Int32)), .null] ∧ Z.Warmed39 U_.vm ∧ U_.heap = h0) (fun _ _ _ _ _ => True) (fun _ U_ o_ U'_ => ∃ v_ L_, o_ = .returned v_ ∧ QrmTIN Z a nm sh lo h0 n0 v_ U'_.heap L_ ∧ FrameEnd U_ o_ U'_ L_ ({ frames := 1, cells := 0, slots := 0, locals := 12 } : Room).cells ({ frames := 1, cells := 0, slots := 0, locals := 12 } : Room).slots) := by
  refine MetFree.of_bodySF (plainFor_of_name pn_103) hisR ?_
  intro pg ee s mm args below meth cc s₁ Bd hml0 hP hK
  obtain ⟨rfl, hZ, hh⟩ := hP
  have hx := Bd.exec
  have hby := Bd.bytes
  have hml : cc.maxLocals = 6 := hml0
  have hown : s.vm.findClass "com/example/orders_into_outcomes/ordersintooutcomes/model/TextLimit" = some mm.cls := findClass_of_methodNamed Bd.named
  have hnm := (name_of_methodNamed Bd.named Bd.method).1
  have X0 : Stand pg l ee ({ frames := 1, cells := 0, slots := 0, locals := 12 } : Room) s mm #[(.ref a), (.ref nm), (.int sh), (.int lo), (.int (0 : Int32)), .null] below meth cc s₁ [] 0 0 := Stand.of_body Bd
  have e0 : s₁.heap = h0 := by rw [← hh, Bd.state]; rfl
  have N0 := Fr.nil n0
  have K0 : Keep h0 h0 ([a] : List Addr) := Keep.refl _ _
  have pre0 : ∀ tg_, Steps pg.tables ee below (s₁.setTop (mkF mm 0 #[.val (.ref a), .val (.ref nm), .val (.int sh), .val (.int lo), .val (.int (0 : Int32)), .val .null] [])) tg_ → Steps pg.tables ee below (s₁.setTop (entryFrame mm #[(.ref a), (.ref nm), (.int sh), (.int lo), (.int (0 : Int32)), .null] 6)) tg_ := fun tg_ k_ => castTop (ef_6_104 mm a nm sh lo (0 : Int32)) k_
  obtain ⟨T1, X1, e1, st1⟩ := initO X0 hx hZ hown (hw _ (List.mem_of_getElem? (i := 35) rfl)) (hw _ (List.mem_of_getElem? (i := 16) rfl)) (hw _ (List.mem_of_getElem? (i := 17) rfl)) e0 (g := (mkF mm 1 #[.val (.ref a), .val (.ref nm), .val (.int sh), .val (.int lo), .val (.int (0 : Int32)), .val .null] [(.ref a)])) rfl (by rw [hml]; rfl) rfl (hb hby d6_1) (by decide) (W := 0) (by show 2 * 0 + _ ≤ _; exact Nat.le_of_eq rfl) (by decide)
  obtain ⟨T2, h2, X2, e2, W2, st2⟩ := putF X1 hx hZ hown (host := "") (Or.inl (hw _ (List.mem_of_getElem? (i := 36) rfl))) Via.refl e1 F_name_a E_a (Or.inr ⟨(hw _ (List.mem_of_getElem? (i := 37) rfl)), rfl, hnm⟩) (hw _ (List.mem_of_getElem? (i := 31) rfl)) (ty := (.object "java/lang/String")) (by decide) rfl rfl (g := (mkF mm 6 #[.val (.ref a), .val (.ref nm), .val (.int sh), .val (.int lo), .val (.int (0 : Int32)), .val .null] [(.ref nm), (.ref a)])) rfl rfl (hb hby d6_6)
  have Fw2 : Fld Z h2 a "com/example/orders_into_outcomes/ordersintooutcomes/model/TextLimit" "name" "Ljava/lang/String;" (.ref nm) := F_name_a.same W2
  have N2 := Fr.snoc X2 N0 g_a
  have O2 := O0.wr W2 g_a
  have KK2 := K0.wr W2 (Or.inl (by simp))
  obtain ⟨T3, h3, X3, e3, W3, st3⟩ := putF X2 hx hZ hown (host := "") (Or.inl (hw _ (List.mem_of_getElem? (i := 38) rfl))) Via.refl e2 (F_shortest_a.other W2 (Or.inr (slot_ne (Or.inr (hw _ (List.mem_of_getElem? (i := 39) rfl))) (Or.inr (hw _ (List.mem_of_getElem? (i := 37) rfl))) (by decide) (t := .int) (t' := (.object "java/lang/String")) (by decide) (by decide)))) (E_a.wr W2) (Or.inr ⟨(hw _ (List.mem_of_getElem? (i := 39) rfl)), rfl, hnm⟩) (hw _ (List.mem_of_getElem? (i := 31) rfl)) (ty := .int) (by decide) rfl rfl (g := (mkF mm 11 #[.val (.ref a), .val (.ref nm), .val (.int sh), .val (.int lo), .val (.int (0 : Int32)), .val .null] [(.int sh), (.ref a)])) rfl rfl (hb hby d6_11)
  have Fw3 : Fld Z h3 a "com/example/orders_into_outcomes/ordersintooutcomes/model/TextLimit" "shortest" "I" (.int sh) := (F_shortest_a.other W2 (Or.inr (slot_ne (Or.inr (hw _ (List.mem_of_getElem? (i := 39) rfl))) (Or.inr (hw _ (List.mem_of_getElem? (i := 37) rfl))) (by decide) (t := .int) (t' := (.object "java/lang/String")) (by decide) (by decide)))).same W3
  have N3 := Fr.snoc X3 N2 g_a
  have O3 := O2.wr W3 g_a
  have KK3 := KK2.wr W3 (Or.inl (by simp))
  obtain ⟨T4, h4, X4, e4, W4, st4⟩ := putF X3 hx hZ hown (host := "") (Or.inl (hw _ (List.mem_of_getElem? (i := 40) rfl))) Via.refl e3 ((F_longest_a.other W2 (Or.inr (slot_ne (Or.inr (hw _ (List.mem_of_getElem? (i := 41) rfl))) (Or.inr (hw _ (List.mem_of_getElem? (i := 37) rfl))) (by decide) (t := .int) (t' := (.object "java/lang/String")) (by decide) (by decide)))).other W3 (Or.inr (slot_ne (Or.inr (hw _ (List.mem_of_getElem? (i := 41) rfl))) (Or.inr (hw _ (List.mem_of_getElem? (i := 39) rfl))) (by decide) (t := .int) (t' := .int) (by decide) (by decide)))) ((E_a.wr W2).wr W3) (Or.inr ⟨(hw _ (List.mem_of_getElem? (i := 41) rfl)), rfl, hnm⟩) (hw _ (List.mem_of_getElem? (i := 31) rfl)) (ty := .int) (by decide) rfl rfl (g := (mkF mm 16 #[.val (.ref a), .val (.ref nm), .val (.int sh), .val (.int lo), .val (.int (0 : Int32)), .val .null] [(.int lo), (.ref a)])) rfl rfl (hb hby d6_16)
  have Fw4 : Fld Z h4 a "com/example/orders_into_outcomes/ordersintooutcomes/model/TextLimit" "longest" "I" (.int lo) := ((F_longest_a.other W2 (Or.inr (slot_ne (Or.inr (hw _ (List.mem_of_getElem? (i := 41) rfl))) (Or.inr (hw _ (List.mem_of_getElem? (i := 37) rfl))) (by decide) (t := .int) (t' := (.object "java/lang/String")) (by decide) (by decide)))).other W3 (Or.inr (slot_ne (Or.inr (hw _ (List.mem_of_getElem? (i := 41) rfl))) (Or.inr (hw _ (List.mem_of_getElem? (i := 39) rfl))) (by decide) (t := .int) (t' := .int) (by decide) (by decide)))).same W4
  have N4 := Fr.snoc X4 N3 g_a
  have O4 := O3.wr W4 g_a
  have KK4 := KK3.wr W4 (Or.inl (by simp))
  obtain ⟨T5, h5, X5, e5, W5, st5⟩ := putFN X4 hx hZ hown (hw _ (List.mem_of_getElem? (i := 42) rfl)) Via.refl e4 (((F_required_a.other W2 (Or.inr (slot_ne (Or.inr (hw _ (List.mem_of_getElem? (i := 43) rfl))) (Or.inr (hw _ (List.mem_of_getElem? (i := 37) rfl))) (by decide) (t := .boolean) (t' := (.object "java/lang/String")) (by decide) (by decide)))).other W3 (Or.inr (slot_ne (Or.inr (hw _ (List.mem_of_getElem? (i := 43) rfl))) (Or.inr (hw _ (List.mem_of_getElem? (i := 39) rfl))) (by decide) (t := .boolean) (t' := .int) (by decide) (by decide)))).other W4 (Or.inr (slot_ne (Or.inr (hw _ (List.mem_of_getElem? (i := 43) rfl))) (Or.inr (hw _ (List.mem_of_getElem? (i := 41) rfl))) (by decide) (t := .boolean) (t' := .int) (by decide) (by decide)))) (((E_a.wr W2).wr W3).wr W4) (Or.inr ⟨(hw _ (List.mem_of_getElem? (i := 43) rfl)), rfl, hnm⟩) (hw _ (List.mem_of_getElem? (i := 31) rfl)) (ty := .boolean) (v' := (.int (0 : Int32))) (by decide) rfl (by decide) (g := (mkF mm 22 #[.val (.ref a), .val (.ref nm), .val (.int sh), .val (.int lo), .val (.int (0 : Int32)), .val .null] [(.int (0 : Int32)), (.ref a)])) rfl rfl (hb hby d6_22)
  have Fw5 : Fld Z h5 a "com/example/orders_into_outcomes/ordersintooutcomes/model/TextLimit" "required" "Z" (.int (0 : Int32)) := (((F_required_a.other W2 (Or.inr (slot_ne (Or.inr (hw _ (List.mem_of_getElem? (i := 43) rfl))) (Or.inr (hw _ (List.mem_of_getElem? (i := 37) rfl))) (by decide) (t := .boolean) (t' := (.object "java/lang/String")) (by decide) (by decide)))).other W3 (Or.inr (slot_ne (Or.inr (hw _ (List.mem_of_getElem? (i := 43) rfl))) (Or.inr (hw _ (List.mem_of_getElem? (i := 39) rfl))) (by decide) (t := .boolean) (t' := .int) (by decide) (by decide)))).other W4 (Or.inr (slot_ne (Or.inr (hw _ (List.mem_of_getElem? (i := 43) rfl))) (Or.inr (hw _ (List.mem_of_getElem? (i := 41) rfl))) (by decide) (t := .boolean) (t' := .int) (by decide) (by decide)))).same W5
  have N5 := Fr.snoc X5 N4 g_a
  have O5 := O4.wr W5 g_a
  have KK5 := KK4.wr W5 (Or.inl (by simp))
  obtain ⟨T6, h6, X6, e6, W6, st6⟩ := putF X5 hx hZ hown (host := "") (Or.inl (hw _ (List.mem_of_getElem? (i := 44) rfl))) Via.refl e5 ((((F_byDefault_a.other W2 (Or.inr (slot_ne (Or.inr (hw _ (List.mem_of_getElem? (i := 45) rfl))) (Or.inr (hw _ (List.mem_of_getElem? (i := 37) rfl))) (by decide) (t := (.object "java/lang/String")) (t' := (.object "java/lang/String")) (by decide) (by decide)))).other W3 (Or.inr (slot_ne (Or.inr (hw _ (List.mem_of_getElem? (i := 45) rfl))) (Or.inr (hw _ (List.mem_of_getElem? (i := 39) rfl))) (by decide) (t := (.object "java/lang/String")) (t' := .int) (by decide) (by decide)))).other W4 (Or.inr (slot_ne (Or.inr (hw _ (List.mem_of_getElem? (i := 45) rfl))) (Or.inr (hw _ (List.mem_of_getElem? (i := 41) rfl))) (by decide) (t := (.object "java/lang/String")) (t' := .int) (by decide) (by decide)))).other W5 (Or.inr (slot_ne (Or.inr (hw _ (List.mem_of_getElem? (i := 45) rfl))) (Or.inr (hw _ (List.mem_of_getElem? (i := 43) rfl))) (by decide) (t := (.object "java/lang/String")) (t' := .boolean) (by decide) (by decide)))) ((((E_a.wr W2).wr W3).wr W4).wr W5) (Or.inr ⟨(hw _ (List.mem_of_getElem? (i := 45) rfl)), rfl, hnm⟩) (hw _ (List.mem_of_getElem? (i := 31) rfl)) (ty := (.object "java/lang/String")) (by decide) rfl rfl (g := (mkF mm 28 #[.val (.ref a), .val (.ref nm), .val (.int sh), .val (.int lo), .val (.int (0 : Int32)), .val .null] [.null, (.ref a)])) rfl rfl (hb hby d6_28)
  have Fw6 : Fld Z h6 a "com/example/orders_into_outcomes/ordersintooutcomes/model/TextLimit" "byDefault" "Ljava/lang/String;" .null := ((((F_byDefault_a.other W2 (Or.inr (slot_ne (Or.inr (hw _ (List.mem_of_getElem? (i := 45) rfl))) (Or.inr (hw _ (List.mem_of_getElem? (i := 37) rfl))) (by decide) (t := (.object "java/lang/String")) (t' := (.object "java/lang/String")) (by decide) (by decide)))).other W3 (Or.inr (slot_ne (Or.inr (hw _ (List.mem_of_getElem? (i := 45) rfl))) (Or.inr (hw _ (List.mem_of_getElem? (i := 39) rfl))) (by decide) (t := (.object "java/lang/String")) (t' := .int) (by decide) (by decide)))).other W4 (Or.inr (slot_ne (Or.inr (hw _ (List.mem_of_getElem? (i := 45) rfl))) (Or.inr (hw _ (List.mem_of_getElem? (i := 41) rfl))) (by decide) (t := (.object "java/lang/String")) (t' := .int) (by decide) (by decide)))).other W5 (Or.inr (slot_ne (Or.inr (hw _ (List.mem_of_getElem? (i := 45) rfl))) (Or.inr (hw _ (List.mem_of_getElem? (i := 43) rfl))) (by decide) (t := (.object "java/lang/String")) (t' := .boolean) (by decide) (by decide)))).same W6
  have N6 := Fr.snoc X6 N5 g_a
  have O6 := O5.wr W6 g_a
  have KK6 := KK5.wr W6 (Or.inl (by simp))
  obtain ⟨fs, hr, hrun, hended, hW, hsame⟩ := X6.leave (v := none) (fun _ => rfl)
  refine ⟨_, _, pre0 _ ?_, hrun, hended, _, _, rfl, ?_, ⟨_, rfl⟩, hW, hsame.mono (by decide) (by decide)⟩
  · show Steps pg.tables ee below (s₁.setTop (mkF mm 0 #[.val (.ref a), .val (.ref nm), .val (.int sh), .val (.int lo), .val (.int (0 : Int32)), .val .null] [])) _
    refine XS.aloadN X0.here hx rfl (hb hby d6_0) rfl rfl ?_
    show Steps pg.tables ee below (s₁.setTop (mkF mm 1 #[.val (.ref a), .val (.ref nm), .val (.int sh), .val (.int lo), .val (.int (0 : Int32)), .val .null] [(.ref a)])) _
    refine st1 _ ?_
    show Steps pg.tables ee below (T1.setTop (mkF mm 4 #[.val (.ref a), .val (.ref nm), .val (.int sh), .val (.int lo), .val (.int (0 : Int32)), .val .null] [])) _
    refine XS.aloadN X1.here hx rfl (hb hby d6_4) rfl rfl ?_
    show Steps pg.tables ee below (T1.setTop (mkF mm 5 #[.val (.ref a), .val (.ref nm), .val (.int sh), .val (.int lo), .val (.int (0 : Int32)), .val .null] [(.ref a)])) _
    refine XS.aloadN X1.here hx rfl (hb hby d6_5) rfl rfl ?_
    show Steps pg.tables ee below (T1.setTop (mkF mm 6 #[.val (.ref a), .val (.ref nm), .val (.int sh), .val (.int lo), .val (.int (0 : Int32)), .val .null] [(.ref nm), (.ref a)])) _
    refine st2 _ ?_
    show Steps pg.tables ee below (T2.setTop (mkF mm 9 #[.val (.ref a), .val (.ref nm), .val (.int sh), .val (.int lo), .val (.int (0 : Int32)), .val .null] [])) _
    refine XS.aloadN X2.here hx rfl (hb hby d6_9) rfl rfl ?_
    show Steps pg.tables ee below (T2.setTop (mkF mm 10 #[.val (.ref a), .val (.ref nm), .val (.int sh), .val (.int lo), .val (.int (0 : Int32)), .val .null] [(.ref a)])) _
    refine XS.iloadN X2.here hx rfl (hb hby d6_10) rfl ?_
    show Steps pg.tables ee below (T2.setTop (mkF mm 11 #[.val (.ref a), .val (.ref nm), .val (.int sh), .val (.int lo), .val (.int (0 : Int32)), .val .null] [(.int sh), (.ref a)])) _
    refine st3 _ ?_
    show Steps pg.tables ee below (T3.setTop (mkF mm 14 #[.val (.ref a), .val (.ref nm), .val (.int sh), .val (.int lo), .val (.int (0 : Int32)), .val .null] [])) _
    refine XS.aloadN X3.here hx rfl (hb hby d6_14) rfl rfl ?_
    show Steps pg.tables ee below (T3.setTop (mkF mm 15 #[.val (.ref a), .val (.ref nm), .val (.int sh), .val (.int lo), .val (.int (0 : Int32)), .val .null] [(.ref a)])) _
    refine XS.iloadN X3.here hx rfl (hb hby d6_15) rfl ?_
    show Steps pg.tables ee below (T3.setTop (mkF mm 16 #[.val (.ref a), .val (.ref nm), .val (.int sh), .val (.int lo), .val (.int (0 : Int32)), .val .null] [(.int lo), (.ref a)])) _
    refine st4 _ ?_
    show Steps pg.tables ee below (T4.setTop (mkF mm 19 #[.val (.ref a), .val (.ref nm), .val (.int sh), .val (.int lo), .val (.int (0 : Int32)), .val .null] [])) _
    refine XS.aloadN X4.here hx rfl (hb hby d6_19) rfl rfl ?_
    show Steps pg.tables ee below (T4.setTop (mkF mm 20 #[.val (.ref a), .val (.ref nm), .val (.int sh), .val (.int lo), .val (.int (0 : Int32)), .val .null] [(.ref a)])) _
    refine XS.iload X4.here hx rfl (hb hby d6_20) rfl ?_
    show Steps pg.tables ee below (T4.setTop (mkF mm 22 #[.val (.ref a), .val (.ref nm), .val (.int sh), .val (.int lo), .val (.int (0 : Int32)), .val .null] [(.int (0 : Int32)), (.ref a)])) _
    refine st5 _ ?_
    show Steps pg.tables ee below (T5.setTop (mkF mm 25 #[.val (.ref a), .val (.ref nm), .val (.int sh), .val (.int lo), .val (.int (0 : Int32)), .val .null] [])) _
    refine XS.aloadN X5.here hx rfl (hb hby d6_25) rfl rfl ?_
    show Steps pg.tables ee below (T5.setTop (mkF mm 26 #[.val (.ref a), .val (.ref nm), .val (.int sh), .val (.int lo), .val (.int (0 : Int32)), .val .null] [(.ref a)])) _
    refine XS.aload X5.here hx rfl (hb hby d6_26) rfl rfl ?_
    show Steps pg.tables ee below (T5.setTop (mkF mm 28 #[.val (.ref a), .val (.ref nm), .val (.int sh), .val (.int lo), .val (.int (0 : Int32)), .val .null] [.null, (.ref a)])) _
    refine st6 _ ?_
    show Steps pg.tables ee below (T6.setTop (mkF mm 31 #[.val (.ref a), .val (.ref nm), .val (.int sh), .val (.int lo), .val (.int (0 : Int32)), .val .null] [])) _
    exact X6.returnOut hx Bd.returns (hb hby d6_31) hr
  · show QrmTIN Z a nm sh lo h0 n0 _ T6.heap _
    rw [e6]
    exact ⟨rfl, N6, KK6, (((((E_a.wr W2).wr W3).wr W4).wr W5).wr W6), ((((Fw2.other W3 (Or.inr (slot_ne (Or.inr (hw _ (List.mem_of_getElem? (i := 37) rfl))) (Or.inr (hw _ (List.mem_of_getElem? (i := 39) rfl))) (by decide) (t := (.object "java/lang/String")) (t' := .int) (by decide) (by decide)))).other W4 (Or.inr (slot_ne (Or.inr (hw _ (List.mem_of_getElem? (i := 37) rfl))) (Or.inr (hw _ (List.mem_of_getElem? (i := 41) rfl))) (by decide) (t := (.object "java/lang/String")) (t' := .int) (by decide) (by decide)))).other W5 (Or.inr (slot_ne (Or.inr (hw _ (List.mem_of_getElem? (i := 37) rfl))) (Or.inr (hw _ (List.mem_of_getElem? (i := 43) rfl))) (by decide) (t := (.object "java/lang/String")) (t' := .boolean) (by decide) (by decide)))).other W6 (Or.inr (slot_ne (Or.inr (hw _ (List.mem_of_getElem? (i := 37) rfl))) (Or.inr (hw _ (List.mem_of_getElem? (i := 45) rfl))) (by decide) (t := (.object "java/lang/String")) (t' := (.object "java/lang/String")) (by decide) (by decide)))), (((Fw3.other W4 (Or.inr (slot_ne (Or.inr (hw _ (List.mem_of_getElem? (i := 39) rfl))) (Or.inr (hw _ (List.mem_of_getElem? (i := 41) rfl))) (by decide) (t := .int) (t' := .int) (by decide) (by decide)))).other W5 (Or.inr (slot_ne (Or.inr (hw _ (List.mem_of_getElem? (i := 39) rfl))) (Or.inr (hw _ (List.mem_of_getElem? (i := 43) rfl))) (by decide) (t := .int) (t' := .boolean) (by decide) (by decide)))).other W6 (Or.inr (slot_ne (Or.inr (hw _ (List.mem_of_getElem? (i := 39) rfl))) (Or.inr (hw _ (List.mem_of_getElem? (i := 45) rfl))) (by decide) (t := .int) (t' := (.object "java/lang/String")) (by decide) (by decide)))), ((Fw4.other W5 (Or.inr (slot_ne (Or.inr (hw _ (List.mem_of_getElem? (i := 41) rfl))) (Or.inr (hw _ (List.mem_of_getElem? (i := 43) rfl))) (by decide) (t := .int) (t' := .boolean) (by decide) (by decide)))).other W6 (Or.inr (slot_ne (Or.inr (hw _ (List.mem_of_getElem? (i := 41) rfl))) (Or.inr (hw _ (List.mem_of_getElem? (i := 45) rfl))) (by decide) (t := .int) (t' := (.object "java/lang/String")) (by decide) (by decide)))), (Fw5.other W6 (Or.inr (slot_ne (Or.inr (hw _ (List.mem_of_getElem? (i := 43) rfl))) (Or.inr (hw _ (List.mem_of_getElem? (i := 45) rfl))) (by decide) (t := .boolean) (t' := (.object "java/lang/String")) (by decide) (by decide)))), Fw6⟩
theorem d5_0 : decode prog_49_method_3_code 0 = .ok (.new 8, 3) := by decide +kernel
theorem d5_3 : decode prog_49_method_3_code 3 = .ok (.dup, 1) := by decide +kernel
theorem d5_4 : decode prog_49_method_3_code 4 = .ok (.aload_n 0, 1) := by decide +kernel
theorem d5_5 : decode prog_49_method_3_code 5 = .ok (.iload_n 1, 1) := by decide +kernel
theorem d5_6 : decode prog_49_method_3_code 6 = .ok (.iload_n 2, 1) := by decide +kernel
theorem d5_7 : decode prog_49_method_3_code 7 = .ok (.iconst 0, 1) := by decide +kernel
theorem d5_8 : decode prog_49_method_3_code 8 = .ok (.aload_n 3, 1) := by decide +kernel
theorem d5_9 : decode prog_49_method_3_code 9 = .ok (.invokespecial 27, 3) := by decide +kernel
theorem pd_113 : parseMethodDescriptor "(Ljava/lang/String;IIZLjava/lang/String;)V" = some ⟨[(.object "java/lang/String"), .int, .int, .boolean, (.object "java/lang/String")], none⟩ := by decide +kernel
theorem d5_12 : decode prog_49_method_3_code 12 = .ok (.areturn, 1) := by decide +kernel
theorem ef_5_115 (m : MethodId) (x0 : Addr) (x1 : Int32) (x2 : Int32) : entryFrame m #[(.ref x0), (.int x1), (.int x2), .null] 4 = mkF m 0 #[.val (.ref x0), .val (.int x1), .val (.int x2), .val .null] [] := by first | (simp [entryFrame, mkF, argsToLocals, Value.category]; done) | rfl
def QrmTON (Z : State) (nm : Addr) (sh : Int32) (lo : Int32) (h0 : Heap) (n0 : Nat) (v : Option Value) (h : Heap) (L : List Loc) : Prop := ∃ b : Addr, v = some (.ref b) ∧ Fr n0 L ∧ Keep h0 h [] ∧ Exa Z h b "com/example/orders_into_outcomes/ordersintooutcomes/model/TextLimit" ∧ Fld Z h b "com/example/orders_into_outcomes/ordersintooutcomes/model/TextLimit" "name" "Ljava/lang/String;" (.ref nm) ∧ Fld Z h b "com/example/orders_into_outcomes/ordersintooutcomes/model/TextLimit" "shortest" "I" (.int sh) ∧ Fld Z h b "com/example/orders_into_outcomes/ordersintooutcomes/model/TextLimit" "longest" "I" (.int lo) ∧ Fld Z h b "com/example/orders_into_outcomes/ordersintooutcomes/model/TextLimit" "required" "Z" (.int (0 : Int32)) ∧ Fld Z h b "com/example/orders_into_outcomes/ordersintooutcomes/model/TextLimit" "byDefault" "Ljava/lang/String;" .null
set_option maxRecDepth 65536 in
set_option maxHeartbeats 40000000 in
theorem rmTON (l : Launch) (Z : State) (a0 : Array Value) (hw : ∀ d ∈ tables_1, d.before a0 Z = true) (ws : List Jvm.Cond) (nm : Addr) (sh : Int32) (lo : Int32) (h0 : Heap) (n0 : Nat) (O0 : Old Z n0 h0)  :
    MetFree l (⟨"com/example/orders_into_outcomes/ordersintooutcomes/model/TextLimit", "optional", "(Ljava/lang/String;IILjava/lang/String;)Lcom/example/orders_into_outcomes/ordersintooutcomes/model/TextLimit;"⟩ : MethodName) (head1 (Jvm.Cond.code (⟨"com/example/orders_into_outcomes/ordersintooutcomes/model/TextLimit", "optional", "(Ljava/lang/String;IILjava/lang/String;)Lcom/example/orders_into_outcomes/ordersintooutcomes/model/TextLimit;"⟩ : MethodName) prog_49_method_3_code 4 (some (.object "com/example/orders_into_outcomes/ordersintooutcomes/model/TextLimit")) :: ws) ({ frames := 2, cells := 1, slots := 5, locals := 30 } : Room)) (fun a_ U_ => a_ = #[(.ref nm), (.int sh), (.int lo), .null] ∧ Z.Warmed39 U_.vm ∧ U_.heap = h0) (fun _ _ _ _ _ => True) (fun _ U_ o_ U'_ => ∃ v_ L_, o_ = .returned v_ ∧ QrmTON Z nm sh lo h0 n0 v_ U'_.heap L_ ∧ FrameEnd U_ o_ U'_ L_ ({ frames := 2, cells := 1, slots := 5, locals := 30 } : Room).cells ({ frames := 2, cells := 1, slots := 5, locals := 30 } : Room).slots) := by
  refine MetFree.of_bodySF (plainFor_of_name pn_103) hisR ?_
  intro pg ee s mm args below meth cc s₁ Bd hml0 hP hK
  obtain ⟨rfl, hZ, hh⟩ := hP
  have hx := Bd.exec
  have hby := Bd.bytes
  have hml : cc.maxLocals = 4 := hml0
  have hown : s.vm.findClass "com/example/orders_into_outcomes/ordersintooutcomes/model/TextLimit" = some mm.cls := findClass_of_methodNamed Bd.named
  have hnm := (name_of_methodNamed Bd.named Bd.method).1
  have X0 : Stand pg l ee ({ frames := 2, cells := 1, slots := 5, locals := 30 } : Room) s mm #[(.ref nm), (.int sh), (.int lo), .null] below meth cc s₁ [] 0 0 := Stand.of_body Bd
  have e0 : s₁.heap = h0 := by rw [← hh, Bd.state]; rfl
  have N0 := Fr.nil n0
  have K0 : Keep h0 h0 ([] : List Addr) := Keep.refl _ _
  have pre0 : ∀ tg_, Steps pg.tables ee below (s₁.setTop (mkF mm 0 #[.val (.ref nm), .val (.int sh), .val (.int lo), .val .null] [])) tg_ → Steps pg.tables ee below (s₁.setTop (entryFrame mm #[(.ref nm), (.int sh), (.int lo), .null] 4)) tg_ := fun tg_ k_ => castTop (ef_5_115 mm nm sh lo) k_
  obtain ⟨T1, h1, X1, e1, E1, A1, D1, -, st1⟩ := newO X0 hx hZ hown (hw _ (List.mem_of_getElem? (i := 30) rfl)) (hw _ (List.mem_of_getElem? (i := 31) rfl)) (hw _ (List.mem_of_getElem? (i := 28) rfl)) e0 (g := (mkF mm 0 #[.val (.ref nm), .val (.int sh), .val (.int lo), .val .null] [])) rfl (hb hby d5_0) (by decide) (by decide)
  obtain ⟨b1, g1⟩ : ∃ z, z = h0.size := ⟨_, rfl⟩
  rw [← g1] at A1 D1 st1
  have g_b1 : n0 ≤ b1 := Nat.le_trans (O0.1 ▸ O0.2.1) (Nat.le_of_eq g1.symm)
  have sz_b1 : h0.size ≤ b1 := Nat.le_trans K0.1 (Nat.le_of_eq g1.symm)
  have O1 := O0.ext E1
  have KK1 := K0.ext E1
  have F_name_b1 : Fld Z h1 b1 "com/example/orders_into_outcomes/ordersintooutcomes/model/TextLimit" "name" "Ljava/lang/String;" .null := D1 (Or.inr (hw _ (List.mem_of_getElem? (i := 37) rfl))) (ty := (.object "java/lang/String")) (by decide)
  have F_shortest_b1 : Fld Z h1 b1 "com/example/orders_into_outcomes/ordersintooutcomes/model/TextLimit" "shortest" "I" (.int (0 : Int32)) := D1 (Or.inr (hw _ (List.mem_of_getElem? (i := 39) rfl))) (ty := .int) (by decide)
  have F_longest_b1 : Fld Z h1 b1 "com/example/orders_into_outcomes/ordersintooutcomes/model/TextLimit" "longest" "I" (.int (0 : Int32)) := D1 (Or.inr (hw _ (List.mem_of_getElem? (i := 41) rfl))) (ty := .int) (by decide)
  have F_required_b1 : Fld Z h1 b1 "com/example/orders_into_outcomes/ordersintooutcomes/model/TextLimit" "required" "Z" (.int (0 : Int32)) := D1 (Or.inr (hw _ (List.mem_of_getElem? (i := 43) rfl))) (ty := .boolean) (by decide)
  have F_byDefault_b1 : Fld Z h1 b1 "com/example/orders_into_outcomes/ordersintooutcomes/model/TextLimit" "byDefault" "Ljava/lang/String;" .null := D1 (Or.inr (hw _ (List.mem_of_getElem? (i := 45) rfl))) (ty := (.object "java/lang/String")) (by decide)
  obtain ⟨_, _, ⟨T2, L2, k2, n2⟩, -, X2, ⟨Lc2, hQ2, l2, y2, z2⟩, st2⟩ := X1.specialBack hx (y := (⟨"com/example/orders_into_outcomes/ordersintooutcomes/model/TextLimit", "<init>", "(Ljava/lang/String;IIZLjava/lang/String;)V"⟩ : MethodName)) rfl hown (mvT hZ (hw _ (List.mem_of_getElem? (i := 32) rfl))) (mvT hZ (hw _ (List.mem_of_getElem? (i := 33) rfl))) (mvT hZ (hw _ (List.mem_of_getElem? (i := 34) rfl))) (by decide) (backOf (W := 1) (rmTIN l Z a0 hw [] b1 nm sh lo h1 n0 O1 A1 F_name_b1 F_shortest_b1 F_longest_b1 F_required_b1 F_byDefault_b1 g_b1 ) hZ (hw _ (List.mem_of_getElem? (i := 34) rfl)) (hw _ (List.mem_of_getElem? (i := 28) rfl)) (by decide) (by decide)) (g := (mkF mm 9 #[.val (.ref nm), .val (.int sh), .val (.int lo), .val .null] [.null, (.int (0 : Int32)), (.int lo), (.int sh), (.ref nm), (.ref b1), (.ref b1)])) rfl (by rw [hml]; rfl) (Steps.refl _) (a := b1) (argsL := [(.ref nm), (.int sh), (.int lo), (.int (0 : Int32)), .null]) (rest := [(.ref b1)]) (lenOf pd_113 rfl) rfl (by show 2 * 0 + _ ≤ _; exact Nat.le_of_eq rfl) (hb hby d5_9) (fun _ _ => ⟨rfl, e1, (by decide : 1 + 0 ≤ _), (by decide : 5 + 0 ≤ _)⟩)
  dsimp only [Pt.U, Pt.locs, Pt.cells, Pt.slots] at X2 l2 y2 z2 st2 hQ2
  subst l2 y2 z2
  obtain ⟨rfl, N2q, K2, Ex2, Fv0_2, Fv1_2, Fv2_2, Fv3_2, Fv4_2⟩ := hQ2
  have O2 := O1.keep K2 (allS g_b1 all0)
  have KK2 := KK1.trans K2 (allS (Or.inr sz_b1) all0)
  have N2 := Fr.app N0 N2q
  obtain ⟨fs, hr, hrun, hended, hW, hsame⟩ := X2.leave (v := some (.ref b1)) (fun h => by rw [Bd.returns] at h; cases h)
  refine ⟨_, _, pre0 _ ?_, hrun, hended, _, _, rfl, ?_, ⟨_, rfl⟩, hW, hsame.mono (by decide) (by decide)⟩
  · show Steps pg.tables ee below (s₁.setTop (mkF mm 0 #[.val (.ref nm), .val (.int sh), .val (.int lo), .val .null] [])) _
    refine st1 _ ?_
    show Steps pg.tables ee below (T1.setTop (mkF mm 3 #[.val (.ref nm), .val (.int sh), .val (.int lo), .val .null] [(.ref b1)])) _
    refine XS.dup X1.here hx rfl (hb hby d5_3) rfl rfl ?_
    show Steps pg.tables ee below (T1.setTop (mkF mm 4 #[.val (.ref nm), .val (.int sh), .val (.int lo), .val .null] [(.ref b1), (.ref b1)])) _
    refine XS.aloadN X1.here hx rfl (hb hby d5_4) rfl rfl ?_
    show Steps pg.tables ee below (T1.setTop (mkF mm 5 #[.val (.ref nm), .val (.int sh), .val (.int lo), .val .null] [(.ref nm), (.ref b1), (.ref b1)])) _
    refine XS.iloadN X1.here hx rfl (hb hby d5_5) rfl ?_
    show Steps pg.tables ee below (T1.setTop (mkF mm 6 #[.val (.ref nm), .val (.int sh), .val (.int lo), .val .null] [(.int sh), (.ref nm), (.ref b1), (.ref b1)])) _
    refine XS.iloadN X1.here hx rfl (hb hby d5_6) rfl ?_
    show Steps pg.tables ee below (T1.setTop (mkF mm 7 #[.val (.ref nm), .val (.int sh), .val (.int lo), .val .null] [(.int lo), (.int sh), (.ref nm), (.ref b1), (.ref b1)])) _
    refine XS.iconst X1.here hx rfl (hb hby d5_7) ?_
    show Steps pg.tables ee below (T1.setTop (mkF mm 8 #[.val (.ref nm), .val (.int sh), .val (.int lo), .val .null] [(.int (0 : Int32)), (.int lo), (.int sh), (.ref nm), (.ref b1), (.ref b1)])) _
    refine XS.aloadN X1.here hx rfl (hb hby d5_8) rfl rfl ?_
    show Steps pg.tables ee below (T1.setTop (mkF mm 9 #[.val (.ref nm), .val (.int sh), .val (.int lo), .val .null] [.null, (.int (0 : Int32)), (.int lo), (.int sh), (.ref nm), (.ref b1), (.ref b1)])) _
    refine st2.trans ?_
    show Steps pg.tables ee below (T2.setTop (mkF mm 12 #[.val (.ref nm), .val (.int sh), .val (.int lo), .val .null] [(.ref b1)])) _
    exact retOut X2 hx Bd.returns rfl (Or.inr (Or.inr (Or.inr (Or.inr ⟨rfl, rfl, rfl⟩)))) (hb hby d5_12) hr
  · show QrmTON Z nm sh lo h0 n0 _ T2.heap _
    exact ⟨_, rfl, N2, KK2, Ex2, Fv0_2, Fv1_2, Fv2_2, Fv3_2, Fv4_2⟩
theorem d7_0 : decode prog_49_method_4_code 0 = .ok (.aload_n 0, 1) := by decide +kernel
theorem d7_1 : decode prog_49_method_4_code 1 = .ok (.getfield 7, 3) := by decide +kernel
theorem d7_4 : decode prog_49_method_4_code 4 = .ok (.areturn, 1) := by decide +kernel
theorem ef_7_119 (m : MethodId) (x0 : Addr) : entryFrame m #[(.ref x0)] 1 = mkF m 0 #[.val (.ref x0)] [] := by first | (simp [entryFrame, mkF, argsToLocals, Value.category]; done) | rfl
def QrmGN_name (Z : State) (t : Addr) (nm : Addr) (sh : Int32) (lo : Int32) (h0 : Heap) (n0 : Nat) (v : Option Value) (h : Heap) (L : List Loc) : Prop := v = some (.ref nm) ∧ Fr n0 L ∧ h = h0
set_option maxRecDepth 65536 in
set_option maxHeartbeats 40000000 in
theorem rmGN_name (l : Launch) (Z : State) (a0 : Array Value) (hw : ∀ d ∈ tables_1, d.before a0 Z = true) (ws : List Jvm.Cond) (t : Addr) (nm : Addr) (sh : Int32) (lo : Int32) (h0 : Heap) (n0 : Nat) (O0 : Old Z n0 h0) (Tf0 : Fld Z h0 t "com/example/orders_into_outcomes/ordersintooutcomes/model/TextLimit" "name" "Ljava/lang/String;" (.ref nm)) (Tf1 : Fld Z h0 t "com/example/orders_into_outcomes/ordersintooutcomes/model/TextLimit" "shortest" "I" (.int sh)) (Tf2 : Fld Z h0 t "com/example/orders_into_outcomes/ordersintooutcomes/model/TextLimit" "longest" "I" (.int lo)) (Tf3 : Fld Z h0 t "com/example/orders_into_outcomes/ordersintooutcomes/model/TextLimit" "required" "Z" (.int (0 : Int32))) (Tf4 : Fld Z h0 t "com/example/orders_into_outcomes/ordersintooutcomes/model/TextLimit" "byDefault" "Ljava/lang/String;" .null) (Et : Exa Z h0 t "com/example/orders_into_outcomes/ordersintooutcomes/model/TextLimit") :
    MetFree l (⟨"com/example/orders_into_outcomes/ordersintooutcomes/model/TextLimit", "name", "()Ljava/lang/String;"⟩ : MethodName) (head1 (Jvm.Cond.code (⟨"com/example/orders_into_outcomes/ordersintooutcomes/model/TextLimit", "name", "()Ljava/lang/String;"⟩ : MethodName) prog_49_method_4_code 1 (some (.object "java/lang/String")) :: ws) ({ frames := 0, cells := 0, slots := 0, locals := 0 } : Room)) (fun a_ U_ => a_ = #[(.ref t)] ∧ Z.Warmed39 U_.vm ∧ U_.heap = h0) (fun _ _ _ _ _ => True) (fun _ U_ o_ U'_ => ∃ v_ L_, o_ = .returned v_ ∧ QrmGN_name Z t nm sh lo h0 n0 v_ U'_.heap L_ ∧ FrameEnd U_ o_ U'_ L_ ({ frames := 0, cells := 0, slots := 0, locals := 0 } : Room).cells ({ frames := 0, cells := 0, slots := 0, locals := 0 } : Room).slots) := by
  refine MetFree.of_bodySF (plainFor_of_name pn_103) hisR ?_
  intro pg ee s mm args below meth cc s₁ Bd hml0 hP hK
  obtain ⟨rfl, hZ, hh⟩ := hP
  have hx := Bd.exec
  have hby := Bd.bytes
  have hml : cc.maxLocals = 1 := hml0
  have hown : s.vm.findClass "com/example/orders_into_outcomes/ordersintooutcomes/model/TextLimit" = some mm.cls := findClass_of_methodNamed Bd.named
  have hnm := (name_of_methodNamed Bd.named Bd.method).1
  have X0 : Stand pg l ee ({ frames := 0, cells := 0, slots := 0, locals := 0 } : Room) s mm #[(.ref t)] below meth cc s₁ [] 0 0 := Stand.of_body Bd
  have e0 : s₁.heap = h0 := by rw [← hh, Bd.state]; rfl
  have N0 := Fr.nil n0
  have K0 : Keep h0 h0 ([] : List Addr) := Keep.refl _ _
  have pre0 : ∀ tg_, Steps pg.tables ee below (s₁.setTop (mkF mm 0 #[.val (.ref t)] [])) tg_ → Steps pg.tables ee below (s₁.setTop (entryFrame mm #[(.ref t)] 1)) tg_ := fun tg_ k_ => castTop (ef_7_119 mm t) k_
  obtain ⟨T1, X1, e1, st1⟩ := getF X0 hx hZ hown (host := "") (Or.inl (hw _ (List.mem_of_getElem? (i := 36) rfl))) Via.refl e0 Tf0 (g := (mkF mm 1 #[.val (.ref t)] [(.ref t)])) rfl rfl (hb hby d7_1)
  obtain ⟨fs, hr, hrun, hended, hW, hsame⟩ := X1.leave (v := some (.ref nm)) (fun h => by rw [Bd.returns] at h; cases h)
  refine ⟨_, _, pre0 _ ?_, hrun, hended, _, _, rfl, ?_, ⟨_, rfl⟩, hW, hsame.mono (by decide) (by decide)⟩
  · show Steps pg.tables ee below (s₁.setTop (mkF mm 0 #[.val (.ref t)] [])) _
    refine XS.aloadN X0.here hx rfl (hb hby d7_0) rfl rfl ?_
    show Steps pg.tables ee below (s₁.setTop (mkF mm 1 #[.val (.ref t)] [(.ref t)])) _
    refine st1 _ ?_
    show Steps pg.tables ee below (T1.setTop (mkF mm 4 #[.val (.ref t)] [(.ref nm)])) _
    exact retOut X1 hx Bd.returns rfl (Or.inr (Or.inr (Or.inr (Or.inr ⟨rfl, rfl, rfl⟩)))) (hb hby d7_4) hr
  · show QrmGN_name Z t nm sh lo h0 n0 _ T1.heap _
    rw [e1]
    exact ⟨rfl, N0, rfl⟩
theorem d9_0 : decode prog_49_method_5_code 0 = .ok (.aload_n 0, 1) := by decide +kernel
theorem d9_1 : decode prog_49_method_5_code 1 = .ok (.getfield 13, 3) := by decide +kernel
theorem d9_4 : decode prog_49_method_5_code 4 = .ok (.ireturn, 1) := by decide +kernel
theorem ef_9_123 (m : MethodId) (x0 : Addr) : entryFrame m #[(.ref x0)] 1 = mkF m 0 #[.val (.ref x0)] [] := by first | (simp [entryFrame, mkF, argsToLocals, Value.category]; done) | rfl
def QrmGN_shortest (Z : State) (t : Addr) (nm : Addr) (sh : Int32) (lo : Int32) (h0 : Heap) (n0 : Nat) (v : Option Value) (h : Heap) (L : List Loc) : Prop := v = some (.int sh) ∧ Fr n0 L ∧ h = h0
set_option maxRecDepth 65536 in
set_option maxHeartbeats 40000000 in
theorem rmGN_shortest (l : Launch) (Z : State) (a0 : Array Value) (hw : ∀ d ∈ tables_1, d.before a0 Z = true) (ws : List Jvm.Cond) (t : Addr) (nm : Addr) (sh : Int32) (lo : Int32) (h0 : Heap) (n0 : Nat) (O0 : Old Z n0 h0) (Tf0 : Fld Z h0 t "com/example/orders_into_outcomes/ordersintooutcomes/model/TextLimit" "name" "Ljava/lang/String;" (.ref nm)) (Tf1 : Fld Z h0 t "com/example/orders_into_outcomes/ordersintooutcomes/model/TextLimit" "shortest" "I" (.int sh)) (Tf2 : Fld Z h0 t "com/example/orders_into_outcomes/ordersintooutcomes/model/TextLimit" "longest" "I" (.int lo)) (Tf3 : Fld Z h0 t "com/example/orders_into_outcomes/ordersintooutcomes/model/TextLimit" "required" "Z" (.int (0 : Int32))) (Tf4 : Fld Z h0 t "com/example/orders_into_outcomes/ordersintooutcomes/model/TextLimit" "byDefault" "Ljava/lang/String;" .null) (Et : Exa Z h0 t "com/example/orders_into_outcomes/ordersintooutcomes/model/TextLimit") :
    MetFree l (⟨"com/example/orders_into_outcomes/ordersintooutcomes/model/TextLimit", "shortest", "()I"⟩ : MethodName) (head1 (Jvm.Cond.code (⟨"com/example/orders_into_outcomes/ordersintooutcomes/model/TextLimit", "shortest", "()I"⟩ : MethodName) prog_49_method_5_code 1 (some .int) :: ws) ({ frames := 0, cells := 0, slots := 0, locals := 0 } : Room)) (fun a_ U_ => a_ = #[(.ref t)] ∧ Z.Warmed39 U_.vm ∧ U_.heap = h0) (fun _ _ _ _ _ => True) (fun _ U_ o_ U'_ => ∃ v_ L_, o_ = .returned v_ ∧ QrmGN_shortest Z t nm sh lo h0 n0 v_ U'_.heap L_ ∧ FrameEnd U_ o_ U'_ L_ ({ frames := 0, cells := 0, slots := 0, locals := 0 } : Room).cells ({ frames := 0, cells := 0, slots := 0, locals := 0 } : Room).slots) := by
  refine MetFree.of_bodySF (plainFor_of_name pn_103) hisR ?_
  intro pg ee s mm args below meth cc s₁ Bd hml0 hP hK
  obtain ⟨rfl, hZ, hh⟩ := hP
  have hx := Bd.exec
  have hby := Bd.bytes
  have hml : cc.maxLocals = 1 := hml0
  have hown : s.vm.findClass "com/example/orders_into_outcomes/ordersintooutcomes/model/TextLimit" = some mm.cls := findClass_of_methodNamed Bd.named
  have hnm := (name_of_methodNamed Bd.named Bd.method).1
  have X0 : Stand pg l ee ({ frames := 0, cells := 0, slots := 0, locals := 0 } : Room) s mm #[(.ref t)] below meth cc s₁ [] 0 0 := Stand.of_body Bd
  have e0 : s₁.heap = h0 := by rw [← hh, Bd.state]; rfl
  have N0 := Fr.nil n0
  have K0 : Keep h0 h0 ([] : List Addr) := Keep.refl _ _
  have pre0 : ∀ tg_, Steps pg.tables ee below (s₁.setTop (mkF mm 0 #[.val (.ref t)] [])) tg_ → Steps pg.tables ee below (s₁.setTop (entryFrame mm #[(.ref t)] 1)) tg_ := fun tg_ k_ => castTop (ef_9_123 mm t) k_
  obtain ⟨T1, X1, e1, st1⟩ := getF X0 hx hZ hown (host := "") (Or.inl (hw _ (List.mem_of_getElem? (i := 38) rfl))) Via.refl e0 Tf1 (g := (mkF mm 1 #[.val (.ref t)] [(.ref t)])) rfl rfl (hb hby d9_1)
  obtain ⟨fs, hr, hrun, hended, hW, hsame⟩ := X1.leave (v := some (.int sh)) (fun h => by rw [Bd.returns] at h; cases h)
  refine ⟨_, _, pre0 _ ?_, hrun, hended, _, _, rfl, ?_, ⟨_, rfl⟩, hW, hsame.mono (by decide) (by decide)⟩
  · show Steps pg.tables ee below (s₁.setTop (mkF mm 0 #[.val (.ref t)] [])) _
    refine XS.aloadN X0.here hx rfl (hb hby d9_0) rfl rfl ?_
    show Steps pg.tables ee below (s₁.setTop (mkF mm 1 #[.val (.ref t)] [(.ref t)])) _
    refine st1 _ ?_
    show Steps pg.tables ee below (T1.setTop (mkF mm 4 #[.val (.ref t)] [(.int sh)])) _
    exact retOut X1 hx Bd.returns rfl (Or.inl ⟨rfl, Or.inl rfl, _, rfl⟩) (hb hby d9_4) hr
  · show QrmGN_shortest Z t nm sh lo h0 n0 _ T1.heap _
    rw [e1]
    exact ⟨rfl, N0, rfl⟩
theorem d10_0 : decode prog_49_method_6_code 0 = .ok (.aload_n 0, 1) := by decide +kernel
theorem d10_1 : decode prog_49_method_6_code 1 = .ok (.getfield 17, 3) := by decide +kernel
theorem d10_4 : decode prog_49_method_6_code 4 = .ok (.ireturn, 1) := by decide +kernel
theorem ef_10_127 (m : MethodId) (x0 : Addr) : entryFrame m #[(.ref x0)] 1 = mkF m 0 #[.val (.ref x0)] [] := by first | (simp [entryFrame, mkF, argsToLocals, Value.category]; done) | rfl
def QrmGN_longest (Z : State) (t : Addr) (nm : Addr) (sh : Int32) (lo : Int32) (h0 : Heap) (n0 : Nat) (v : Option Value) (h : Heap) (L : List Loc) : Prop := v = some (.int lo) ∧ Fr n0 L ∧ h = h0
set_option maxRecDepth 65536 in
set_option maxHeartbeats 40000000 in
theorem rmGN_longest (l : Launch) (Z : State) (a0 : Array Value) (hw : ∀ d ∈ tables_1, d.before a0 Z = true) (ws : List Jvm.Cond) (t : Addr) (nm : Addr) (sh : Int32) (lo : Int32) (h0 : Heap) (n0 : Nat) (O0 : Old Z n0 h0) (Tf0 : Fld Z h0 t "com/example/orders_into_outcomes/ordersintooutcomes/model/TextLimit" "name" "Ljava/lang/String;" (.ref nm)) (Tf1 : Fld Z h0 t "com/example/orders_into_outcomes/ordersintooutcomes/model/TextLimit" "shortest" "I" (.int sh)) (Tf2 : Fld Z h0 t "com/example/orders_into_outcomes/ordersintooutcomes/model/TextLimit" "longest" "I" (.int lo)) (Tf3 : Fld Z h0 t "com/example/orders_into_outcomes/ordersintooutcomes/model/TextLimit" "required" "Z" (.int (0 : Int32))) (Tf4 : Fld Z h0 t "com/example/orders_into_outcomes/ordersintooutcomes/model/TextLimit" "byDefault" "Ljava/lang/String;" .null) (Et : Exa Z h0 t "com/example/orders_into_outcomes/ordersintooutcomes/model/TextLimit") :
    MetFree l (⟨"com/example/orders_into_outcomes/ordersintooutcomes/model/TextLimit", "longest", "()I"⟩ : MethodName) (head1 (Jvm.Cond.code (⟨"com/example/orders_into_outcomes/ordersintooutcomes/model/TextLimit", "longest", "()I"⟩ : MethodName) prog_49_method_6_code 1 (some .int) :: ws) ({ frames := 0, cells := 0, slots := 0, locals := 0 } : Room)) (fun a_ U_ => a_ = #[(.ref t)] ∧ Z.Warmed39 U_.vm ∧ U_.heap = h0) (fun _ _ _ _ _ => True) (fun _ U_ o_ U'_ => ∃ v_ L_, o_ = .returned v_ ∧ QrmGN_longest Z t nm sh lo h0 n0 v_ U'_.heap L_ ∧ FrameEnd U_ o_ U'_ L_ ({ frames := 0, cells := 0, slots := 0, locals := 0 } : Room).cells ({ frames := 0, cells := 0, slots := 0, locals := 0 } : Room).slots) := by
  refine MetFree.of_bodySF (plainFor_of_name pn_103) hisR ?_
  intro pg ee s mm args below meth cc s₁ Bd hml0 hP hK
  obtain ⟨rfl, hZ, hh⟩ := hP
  have hx := Bd.exec
  have hby := Bd.bytes
  have hml : cc.maxLocals = 1 := hml0
  have hown : s.vm.findClass "com/example/orders_into_outcomes/ordersintooutcomes/model/TextLimit" = some mm.cls := findClass_of_methodNamed Bd.named
  have hnm := (name_of_methodNamed Bd.named Bd.method).1
  have X0 : Stand pg l ee ({ frames := 0, cells := 0, slots := 0, locals := 0 } : Room) s mm #[(.ref t)] below meth cc s₁ [] 0 0 := Stand.of_body Bd
  have e0 : s₁.heap = h0 := by rw [← hh, Bd.state]; rfl
  have N0 := Fr.nil n0
  have K0 : Keep h0 h0 ([] : List Addr) := Keep.refl _ _
  have pre0 : ∀ tg_, Steps pg.tables ee below (s₁.setTop (mkF mm 0 #[.val (.ref t)] [])) tg_ → Steps pg.tables ee below (s₁.setTop (entryFrame mm #[(.ref t)] 1)) tg_ := fun tg_ k_ => castTop (ef_10_127 mm t) k_
  obtain ⟨T1, X1, e1, st1⟩ := getF X0 hx hZ hown (host := "") (Or.inl (hw _ (List.mem_of_getElem? (i := 40) rfl))) Via.refl e0 Tf2 (g := (mkF mm 1 #[.val (.ref t)] [(.ref t)])) rfl rfl (hb hby d10_1)
  obtain ⟨fs, hr, hrun, hended, hW, hsame⟩ := X1.leave (v := some (.int lo)) (fun h => by rw [Bd.returns] at h; cases h)
  refine ⟨_, _, pre0 _ ?_, hrun, hended, _, _, rfl, ?_, ⟨_, rfl⟩, hW, hsame.mono (by decide) (by decide)⟩
  · show Steps pg.tables ee below (s₁.setTop (mkF mm 0 #[.val (.ref t)] [])) _
    refine XS.aloadN X0.here hx rfl (hb hby d10_0) rfl rfl ?_
    show Steps pg.tables ee below (s₁.setTop (mkF mm 1 #[.val (.ref t)] [(.ref t)])) _
    refine st1 _ ?_
    show Steps pg.tables ee below (T1.setTop (mkF mm 4 #[.val (.ref t)] [(.int lo)])) _
    exact retOut X1 hx Bd.returns rfl (Or.inl ⟨rfl, Or.inl rfl, _, rfl⟩) (hb hby d10_4) hr
  · show QrmGN_longest Z t nm sh lo h0 n0 _ T1.heap _
    rw [e1]
    exact ⟨rfl, N0, rfl⟩
theorem d11_0 : decode prog_49_method_7_code 0 = .ok (.aload_n 0, 1) := by decide +kernel
theorem d11_1 : decode prog_49_method_7_code 1 = .ok (.getfield 20, 3) := by decide +kernel
theorem d11_4 : decode prog_49_method_7_code 4 = .ok (.ireturn, 1) := by decide +kernel
theorem ef_11_131 (m : MethodId) (x0 : Addr) : entryFrame m #[(.ref x0)] 1 = mkF m 0 #[.val (.ref x0)] [] := by first | (simp [entryFrame, mkF, argsToLocals, Value.category]; done) | rfl
def QrmGN_isRequired (Z : State) (t : Addr) (nm : Addr) (sh : Int32) (lo : Int32) (h0 : Heap) (n0 : Nat) (v : Option Value) (h : Heap) (L : List Loc) : Prop := v = some (.int (0 : Int32)) ∧ Fr n0 L ∧ h = h0
set_option maxRecDepth 65536 in
set_option maxHeartbeats 40000000 in
theorem rmGN_isRequired (l : Launch) (Z : State) (a0 : Array Value) (hw : ∀ d ∈ tables_1, d.before a0 Z = true) (ws : List Jvm.Cond) (t : Addr) (nm : Addr) (sh : Int32) (lo : Int32) (h0 : Heap) (n0 : Nat) (O0 : Old Z n0 h0) (Tf0 : Fld Z h0 t "com/example/orders_into_outcomes/ordersintooutcomes/model/TextLimit" "name" "Ljava/lang/String;" (.ref nm)) (Tf1 : Fld Z h0 t "com/example/orders_into_outcomes/ordersintooutcomes/model/TextLimit" "shortest" "I" (.int sh)) (Tf2 : Fld Z h0 t "com/example/orders_into_outcomes/ordersintooutcomes/model/TextLimit" "longest" "I" (.int lo)) (Tf3 : Fld Z h0 t "com/example/orders_into_outcomes/ordersintooutcomes/model/TextLimit" "required" "Z" (.int (0 : Int32))) (Tf4 : Fld Z h0 t "com/example/orders_into_outcomes/ordersintooutcomes/model/TextLimit" "byDefault" "Ljava/lang/String;" .null) (Et : Exa Z h0 t "com/example/orders_into_outcomes/ordersintooutcomes/model/TextLimit") :
    MetFree l (⟨"com/example/orders_into_outcomes/ordersintooutcomes/model/TextLimit", "isRequired", "()Z"⟩ : MethodName) (head1 (Jvm.Cond.code (⟨"com/example/orders_into_outcomes/ordersintooutcomes/model/TextLimit", "isRequired", "()Z"⟩ : MethodName) prog_49_method_7_code 1 (some .boolean) :: ws) ({ frames := 0, cells := 0, slots := 0, locals := 0 } : Room)) (fun a_ U_ => a_ = #[(.ref t)] ∧ Z.Warmed39 U_.vm ∧ U_.heap = h0) (fun _ _ _ _ _ => True) (fun _ U_ o_ U'_ => ∃ v_ L_, o_ = .returned v_ ∧ QrmGN_isRequired Z t nm sh lo h0 n0 v_ U'_.heap L_ ∧ FrameEnd U_ o_ U'_ L_ ({ frames := 0, cells := 0, slots := 0, locals := 0 } : Room).cells ({ frames := 0, cells := 0, slots := 0, locals := 0 } : Room).slots) := by
  refine MetFree.of_bodySF (plainFor_of_name pn_103) hisR ?_
  intro pg ee s mm args below meth cc s₁ Bd hml0 hP hK
  obtain ⟨rfl, hZ, hh⟩ := hP
  have hx := Bd.exec
  have hby := Bd.bytes
  have hml : cc.maxLocals = 1 := hml0
  have hown : s.vm.findClass "com/example/orders_into_outcomes/ordersintooutcomes/model/TextLimit" = some mm.cls := findClass_of_methodNamed Bd.named
  have hnm := (name_of_methodNamed Bd.named Bd.method).1
  have X0 : Stand pg l ee ({ frames := 0, cells := 0, slots := 0, locals := 0 } : Room) s mm #[(.ref t)] below meth cc s₁ [] 0 0 := Stand.of_body Bd
  have e0 : s₁.heap = h0 := by rw [← hh, Bd.state]; rfl
  have N0 := Fr.nil n0
  have K0 : Keep h0 h0 ([] : List Addr) := Keep.refl _ _
  have pre0 : ∀ tg_, Steps pg.tables ee below (s₁.setTop (mkF mm 0 #[.val (.ref t)] [])) tg_ → Steps pg.tables ee below (s₁.setTop (entryFrame mm #[(.ref t)] 1)) tg_ := fun tg_ k_ => castTop (ef_11_131 mm t) k_
  obtain ⟨T1, X1, e1, st1⟩ := getF X0 hx hZ hown (host := "") (Or.inl (hw _ (List.mem_of_getElem? (i := 42) rfl))) Via.refl e0 Tf3 (g := (mkF mm 1 #[.val (.ref t)] [(.ref t)])) rfl rfl (hb hby d11_1)
  obtain ⟨fs, hr, hrun, hended, hW, hsame⟩ := X1.leave (v := some (.int (0 : Int32))) (fun h => by rw [Bd.returns] at h; cases h)
  refine ⟨_, _, pre0 _ ?_, hrun, hended, _, _, rfl, ?_, ⟨_, rfl⟩, hW, hsame.mono (by decide) (by decide)⟩
  · show Steps pg.tables ee below (s₁.setTop (mkF mm 0 #[.val (.ref t)] [])) _
    refine XS.aloadN X0.here hx rfl (hb hby d11_0) rfl rfl ?_
    show Steps pg.tables ee below (s₁.setTop (mkF mm 1 #[.val (.ref t)] [(.ref t)])) _
    refine st1 _ ?_
    show Steps pg.tables ee below (T1.setTop (mkF mm 4 #[.val (.ref t)] [(.int (0 : Int32))])) _
    exact retN X1 hx (t := .boolean) Bd.returns (by simp) (hb hby d11_4) hr
  · show QrmGN_isRequired Z t nm sh lo h0 n0 _ T1.heap _
    rw [e1]
    exact ⟨rfl, N0, rfl⟩
theorem d12_0 : decode prog_49_method_8_code 0 = .ok (.aload_n 0, 1) := by decide +kernel
theorem d12_1 : decode prog_49_method_8_code 1 = .ok (.getfield 24, 3) := by decide +kernel
theorem d12_4 : decode prog_49_method_8_code 4 = .ok (.areturn, 1) := by decide +kernel
theorem ef_12_135 (m : MethodId) (x0 : Addr) : entryFrame m #[(.ref x0)] 1 = mkF m 0 #[.val (.ref x0)] [] := by first | (simp [entryFrame, mkF, argsToLocals, Value.category]; done) | rfl
def QrmGN_byDefault (Z : State) (t : Addr) (nm : Addr) (sh : Int32) (lo : Int32) (h0 : Heap) (n0 : Nat) (v : Option Value) (h : Heap) (L : List Loc) : Prop := v = some .null ∧ Fr n0 L ∧ h = h0
set_option maxRecDepth 65536 in
set_option maxHeartbeats 40000000 in
theorem rmGN_byDefault (l : Launch) (Z : State) (a0 : Array Value) (hw : ∀ d ∈ tables_1, d.before a0 Z = true) (ws : List Jvm.Cond) (t : Addr) (nm : Addr) (sh : Int32) (lo : Int32) (h0 : Heap) (n0 : Nat) (O0 : Old Z n0 h0) (Tf0 : Fld Z h0 t "com/example/orders_into_outcomes/ordersintooutcomes/model/TextLimit" "name" "Ljava/lang/String;" (.ref nm)) (Tf1 : Fld Z h0 t "com/example/orders_into_outcomes/ordersintooutcomes/model/TextLimit" "shortest" "I" (.int sh)) (Tf2 : Fld Z h0 t "com/example/orders_into_outcomes/ordersintooutcomes/model/TextLimit" "longest" "I" (.int lo)) (Tf3 : Fld Z h0 t "com/example/orders_into_outcomes/ordersintooutcomes/model/TextLimit" "required" "Z" (.int (0 : Int32))) (Tf4 : Fld Z h0 t "com/example/orders_into_outcomes/ordersintooutcomes/model/TextLimit" "byDefault" "Ljava/lang/String;" .null) (Et : Exa Z h0 t "com/example/orders_into_outcomes/ordersintooutcomes/model/TextLimit") :
    MetFree l (⟨"com/example/orders_into_outcomes/ordersintooutcomes/model/TextLimit", "byDefault", "()Ljava/lang/String;"⟩ : MethodName) (head1 (Jvm.Cond.code (⟨"com/example/orders_into_outcomes/ordersintooutcomes/model/TextLimit", "byDefault", "()Ljava/lang/String;"⟩ : MethodName) prog_49_method_8_code 1 (some (.object "java/lang/String")) :: ws) ({ frames := 0, cells := 0, slots := 0, locals := 0 } : Room)) (fun a_ U_ => a_ = #[(.ref t)] ∧ Z.Warmed39 U_.vm ∧ U_.heap = h0) (fun _ _ _ _ _ => True) (fun _ U_ o_ U'_ => ∃ v_ L_, o_ = .returned v_ ∧ QrmGN_byDefault Z t nm sh lo h0 n0 v_ U'_.heap L_ ∧ FrameEnd U_ o_ U'_ L_ ({ frames := 0, cells := 0, slots := 0, locals := 0 } : Room).cells ({ frames := 0, cells := 0, slots := 0, locals := 0 } : Room).slots) := by
  refine MetFree.of_bodySF (plainFor_of_name pn_103) hisR ?_
  intro pg ee s mm args below meth cc s₁ Bd hml0 hP hK
  obtain ⟨rfl, hZ, hh⟩ := hP
  have hx := Bd.exec
  have hby := Bd.bytes
  have hml : cc.maxLocals = 1 := hml0
  have hown : s.vm.findClass "com/example/orders_into_outcomes/ordersintooutcomes/model/TextLimit" = some mm.cls := findClass_of_methodNamed Bd.named
  have hnm := (name_of_methodNamed Bd.named Bd.method).1
  have X0 : Stand pg l ee ({ frames := 0, cells := 0, slots := 0, locals := 0 } : Room) s mm #[(.ref t)] below meth cc s₁ [] 0 0 := Stand.of_body Bd
  have e0 : s₁.heap = h0 := by rw [← hh, Bd.state]; rfl
  have N0 := Fr.nil n0
  have K0 : Keep h0 h0 ([] : List Addr) := Keep.refl _ _
  have pre0 : ∀ tg_, Steps pg.tables ee below (s₁.setTop (mkF mm 0 #[.val (.ref t)] [])) tg_ → Steps pg.tables ee below (s₁.setTop (entryFrame mm #[(.ref t)] 1)) tg_ := fun tg_ k_ => castTop (ef_12_135 mm t) k_
  obtain ⟨T1, X1, e1, st1⟩ := getF X0 hx hZ hown (host := "") (Or.inl (hw _ (List.mem_of_getElem? (i := 44) rfl))) Via.refl e0 Tf4 (g := (mkF mm 1 #[.val (.ref t)] [(.ref t)])) rfl rfl (hb hby d12_1)
  obtain ⟨fs, hr, hrun, hended, hW, hsame⟩ := X1.leave (v := some .null) (fun h => by rw [Bd.returns] at h; cases h)
  refine ⟨_, _, pre0 _ ?_, hrun, hended, _, _, rfl, ?_, ⟨_, rfl⟩, hW, hsame.mono (by decide) (by decide)⟩
  · show Steps pg.tables ee below (s₁.setTop (mkF mm 0 #[.val (.ref t)] [])) _
    refine XS.aloadN X0.here hx rfl (hb hby d12_0) rfl rfl ?_
    show Steps pg.tables ee below (s₁.setTop (mkF mm 1 #[.val (.ref t)] [(.ref t)])) _
    refine st1 _ ?_
    show Steps pg.tables ee below (T1.setTop (mkF mm 4 #[.val (.ref t)] [.null])) _
    exact retOut X1 hx Bd.returns rfl (Or.inr (Or.inr (Or.inr (Or.inr ⟨rfl, rfl, rfl⟩)))) (hb hby d12_4) hr
  · show QrmGN_byDefault Z t nm sh lo h0 n0 _ T1.heap _
    rw [e1]
    exact ⟨rfl, N0, rfl⟩
theorem d15_0 : decode prog_49_method_10_code 0 = .ok (.aload_n 2, 1) := by decide +kernel
theorem d15_1 : decode prog_49_method_10_code 1 = .ok (.ifnonnull 20, 3) := by decide +kernel
theorem d15_4 : decode prog_49_method_10_code 4 = .ok (.aload_n 0, 1) := by decide +kernel
theorem d15_5 : decode prog_49_method_10_code 5 = .ok (.getfield 20, 3) := by decide +kernel
theorem d15_8 : decode prog_49_method_10_code 8 = .ok (.ifCond .eq 13, 3) := by decide +kernel
theorem d15_21 : decode prog_49_method_10_code 21 = .ok (.aload_n 2, 1) := by decide +kernel
theorem d15_22 : decode prog_49_method_10_code 22 = .ok (.ifnonnull 7, 3) := by decide +kernel
theorem d15_25 : decode prog_49_method_10_code 25 = .ok (.iconst 0, 1) := by decide +kernel
theorem d15_26 : decode prog_49_method_10_code 26 = .ok (.goto 12, 3) := by decide +kernel
theorem d15_38 : decode prog_49_method_10_code 38 = .ok (.istore_n 3, 1) := by decide +kernel
theorem d15_39 : decode prog_49_method_10_code 39 = .ok (.aload_n 2, 1) := by decide +kernel
theorem d15_40 : decode prog_49_method_10_code 40 = .ok (.ifnull 38, 3) := by decide +kernel
theorem d15_78 : decode prog_49_method_10_code 78 = .ok (.aload_n 2, 1) := by decide +kernel
theorem d15_79 : decode prog_49_method_10_code 79 = .ok (.ifnonnull 10, 3) := by decide +kernel
theorem d15_82 : decode prog_49_method_10_code 82 = .ok (.aload_n 0, 1) := by decide +kernel
theorem d15_83 : decode prog_49_method_10_code 83 = .ok (.getfield 24, 3) := by decide +kernel
theorem d15_86 : decode prog_49_method_10_code 86 = .ok (.goto 4, 3) := by decide +kernel
theorem d15_90 : decode prog_49_method_10_code 90 = .ok (.areturn, 1) := by decide +kernel
theorem ef_15_154 (m : MethodId) (x0 : Addr) (x1 : Addr) : entryFrame m #[(.ref x0), (.ref x1), .null] 4 = mkF m 0 #[.val (.ref x0), .val (.ref x1), .val .null, .unset] [] := by first | (simp [entryFrame, mkF, argsToLocals, Value.category]; done) | rfl
def QrmK2nN (Z : State) (t : Addr) (nm : Addr) (sh : Int32) (lo : Int32) (h0 : Heap) (n0 : Nat) (v : Option Value) (h : Heap) (L : List Loc) : Prop := v = some .null ∧ Fr n0 L ∧ h = h0
set_option maxRecDepth 65536 in
set_option maxHeartbeats 40000000 in
theorem rmK2nN (l : Launch) (Z : State) (a0 : Array Value) (hw : ∀ d ∈ tables_1, d.before a0 Z = true) (ws : List Jvm.Cond) (t : Addr) (nm : Addr) (sh : Int32) (lo : Int32) (h0 : Heap) (n0 : Nat) (O0 : Old Z n0 h0) (Tf0 : Fld Z h0 t "com/example/orders_into_outcomes/ordersintooutcomes/model/TextLimit" "name" "Ljava/lang/String;" (.ref nm)) (Tf1 : Fld Z h0 t "com/example/orders_into_outcomes/ordersintooutcomes/model/TextLimit" "shortest" "I" (.int sh)) (Tf2 : Fld Z h0 t "com/example/orders_into_outcomes/ordersintooutcomes/model/TextLimit" "longest" "I" (.int lo)) (Tf3 : Fld Z h0 t "com/example/orders_into_outcomes/ordersintooutcomes/model/TextLimit" "required" "Z" (.int (0 : Int32))) (Tf4 : Fld Z h0 t "com/example/orders_into_outcomes/ordersintooutcomes/model/TextLimit" "byDefault" "Ljava/lang/String;" .null) (Et : Exa Z h0 t "com/example/orders_into_outcomes/ordersintooutcomes/model/TextLimit") :
    MetFree l (⟨"com/example/orders_into_outcomes/ordersintooutcomes/model/TextLimit", "check", "(Ljava/lang/String;Ljava/lang/String;)Ljava/lang/String;"⟩ : MethodName) (head1 (Jvm.Cond.code (⟨"com/example/orders_into_outcomes/ordersintooutcomes/model/TextLimit", "check", "(Ljava/lang/String;Ljava/lang/String;)Ljava/lang/String;"⟩ : MethodName) prog_49_method_10_code 4 (some (.object "java/lang/String")) :: ws) ({ frames := 0, cells := 0, slots := 0, locals := 0 } : Room)) (fun a_ U_ => a_ = #[(.ref t), (.ref nm), .null] ∧ Z.Warmed39 U_.vm ∧ U_.heap = h0) (fun _ _ _ _ _ => True) (fun _ U_ o_ U'_ => ∃ v_ L_, o_ = .returned v_ ∧ QrmK2nN Z t nm sh lo h0 n0 v_ U'_.heap L_ ∧ FrameEnd U_ o_ U'_ L_ ({ frames := 0, cells := 0, slots := 0, locals := 0 } : Room).cells ({ frames := 0, cells := 0, slots := 0, locals := 0 } : Room).slots) := by
  refine MetFree.of_bodySF (plainFor_of_name pn_103) hisR ?_
  intro pg ee s mm args below meth cc s₁ Bd hml0 hP hK
  obtain ⟨rfl, hZ, hh⟩ := hP
  have hx := Bd.exec
  have hby := Bd.bytes
  have hml : cc.maxLocals = 4 := hml0
  have hown : s.vm.findClass "com/example/orders_into_outcomes/ordersintooutcomes/model/TextLimit" = some mm.cls := findClass_of_methodNamed Bd.named
  have hnm := (name_of_methodNamed Bd.named Bd.method).1
  have X0 : Stand pg l ee ({ frames := 0, cells := 0, slots := 0, locals := 0 } : Room) s mm #[(.ref t), (.ref nm), .null] below meth cc s₁ [] 0 0 := Stand.of_body Bd
  have e0 : s₁.heap = h0 := by rw [← hh, Bd.state]; rfl
  have N0 := Fr.nil n0
  have K0 : Keep h0 h0 ([] : List Addr) := Keep.refl _ _
  have pre0 : ∀ tg_, Steps pg.tables ee below (s₁.setTop (mkF mm 0 #[.val (.ref t), .val (.ref nm), .val .null, .unset] [])) tg_ → Steps pg.tables ee below (s₁.setTop (entryFrame mm #[(.ref t), (.ref nm), .null] 4)) tg_ := fun tg_ k_ => castTop (ef_15_154 mm t nm) k_
  obtain ⟨T1, X1, e1, st1⟩ := getF X0 hx hZ hown (host := "") (Or.inl (hw _ (List.mem_of_getElem? (i := 42) rfl))) Via.refl e0 Tf3 (g := (mkF mm 5 #[.val (.ref t), .val (.ref nm), .val .null, .unset] [(.ref t)])) rfl rfl (hb hby d15_5)
  obtain ⟨T2, X2, e2, st2⟩ := getF X1 hx hZ hown (host := "") (Or.inl (hw _ (List.mem_of_getElem? (i := 44) rfl))) Via.refl e1 Tf4 (g := (mkF mm 83 #[.val (.ref t), .val (.ref nm), .val .null, .val (.int (0 : Int32))] [(.ref t)])) rfl rfl (hb hby d15_83)
  obtain ⟨fs, hr, hrun, hended, hW, hsame⟩ := X2.leave (v := some .null) (fun h => by rw [Bd.returns] at h; cases h)
  refine ⟨_, _, pre0 _ ?_, hrun, hended, _, _, rfl, ?_, ⟨_, rfl⟩, hW, hsame.mono (by decide) (by decide)⟩
  · show Steps pg.tables ee below (s₁.setTop (mkF mm 0 #[.val (.ref t), .val (.ref nm), .val .null, .unset] [])) _
    refine XS.aloadN X0.here hx rfl (hb hby d15_0) rfl rfl ?_
    show Steps pg.tables ee below (s₁.setTop (mkF mm 1 #[.val (.ref t), .val (.ref nm), .val .null, .unset] [.null])) _
    refine XS.ifnonnullNo X0.here hx rfl (hb hby d15_1) rfl ?_
    show Steps pg.tables ee below (s₁.setTop (mkF mm 4 #[.val (.ref t), .val (.ref nm), .val .null, .unset] [])) _
    refine XS.aloadN X0.here hx rfl (hb hby d15_4) rfl rfl ?_
    show Steps pg.tables ee below (s₁.setTop (mkF mm 5 #[.val (.ref t), .val (.ref nm), .val .null, .unset] [(.ref t)])) _
    refine st1 _ ?_
    show Steps pg.tables ee below (T1.setTop (mkF mm 8 #[.val (.ref t), .val (.ref nm), .val .null, .unset] [(.int (0 : Int32))])) _
    refine XS.ifYes X1.here hx rfl (pc0 := 8) (pc' := 21) rfl (hb hby d15_8) rfl ((if0 _ _).trans (teq (by decide : (0 : Int32) = (0 : Int32))).1) (by decide) (by decide) ?_
    show Steps pg.tables ee below (T1.setTop (mkF mm 21 #[.val (.ref t), .val (.ref nm), .val .null, .unset] [])) _
    refine XS.aloadN X1.here hx rfl (hb hby d15_21) rfl rfl ?_
    show Steps pg.tables ee below (T1.setTop (mkF mm 22 #[.val (.ref t), .val (.ref nm), .val .null, .unset] [.null])) _
    refine XS.ifnonnullNo X1.here hx rfl (hb hby d15_22) rfl ?_
    show Steps pg.tables ee below (T1.setTop (mkF mm 25 #[.val (.ref t), .val (.ref nm), .val .null, .unset] [])) _
    refine XS.iconst X1.here hx rfl (hb hby d15_25) ?_
    show Steps pg.tables ee below (T1.setTop (mkF mm 26 #[.val (.ref t), .val (.ref nm), .val .null, .unset] [(.int (0 : Int32))])) _
    refine XS.goto X1.here hx rfl (pc0 := 26) (pc' := 38) rfl (hb hby d15_26) (by decide) (by decide) ?_
    show Steps pg.tables ee below (T1.setTop (mkF mm 38 #[.val (.ref t), .val (.ref nm), .val .null, .unset] [(.int (0 : Int32))])) _
    refine XS.istoreN X1.here hx rfl (hb hby d15_38) rfl (l' := #[.val (.ref t), .val (.ref nm), .val .null, .val (.int (0 : Int32))]) rfl ?_
    show Steps pg.tables ee below (T1.setTop (mkF mm 39 #[.val (.ref t), .val (.ref nm), .val .null, .val (.int (0 : Int32))] [])) _
    refine XS.aloadN X1.here hx rfl (hb hby d15_39) rfl rfl ?_
    show Steps pg.tables ee below (T1.setTop (mkF mm 40 #[.val (.ref t), .val (.ref nm), .val .null, .val (.int (0 : Int32))] [.null])) _
    refine XS.ifnullYes X1.here hx rfl (pc0 := 40) (pc' := 78) rfl (hb hby d15_40) rfl (by decide) (by decide) ?_
    show Steps pg.tables ee below (T1.setTop (mkF mm 78 #[.val (.ref t), .val (.ref nm), .val .null, .val (.int (0 : Int32))] [])) _
    refine XS.aloadN X1.here hx rfl (hb hby d15_78) rfl rfl ?_
    show Steps pg.tables ee below (T1.setTop (mkF mm 79 #[.val (.ref t), .val (.ref nm), .val .null, .val (.int (0 : Int32))] [.null])) _
    refine XS.ifnonnullNo X1.here hx rfl (hb hby d15_79) rfl ?_
    show Steps pg.tables ee below (T1.setTop (mkF mm 82 #[.val (.ref t), .val (.ref nm), .val .null, .val (.int (0 : Int32))] [])) _
    refine XS.aloadN X1.here hx rfl (hb hby d15_82) rfl rfl ?_
    show Steps pg.tables ee below (T1.setTop (mkF mm 83 #[.val (.ref t), .val (.ref nm), .val .null, .val (.int (0 : Int32))] [(.ref t)])) _
    refine st2 _ ?_
    show Steps pg.tables ee below (T2.setTop (mkF mm 86 #[.val (.ref t), .val (.ref nm), .val .null, .val (.int (0 : Int32))] [.null])) _
    refine XS.goto X2.here hx rfl (pc0 := 86) (pc' := 90) rfl (hb hby d15_86) (by decide) (by decide) ?_
    show Steps pg.tables ee below (T2.setTop (mkF mm 90 #[.val (.ref t), .val (.ref nm), .val .null, .val (.int (0 : Int32))] [.null])) _
    exact retOut X2 hx Bd.returns rfl (Or.inr (Or.inr (Or.inr (Or.inr ⟨rfl, rfl, rfl⟩)))) (hb hby d15_90) hr
  · show QrmK2nN Z t nm sh lo h0 n0 _ T2.heap _
    rw [e2]
    exact ⟨rfl, N0, rfl⟩
theorem d14_0 : decode prog_49_method_9_code 0 = .ok (.aload_n 0, 1) := by decide +kernel
theorem d14_1 : decode prog_49_method_9_code 1 = .ok (.aload_n 0, 1) := by decide +kernel
theorem d14_2 : decode prog_49_method_9_code 2 = .ok (.getfield 7, 3) := by decide +kernel
theorem d14_5 : decode prog_49_method_9_code 5 = .ok (.aload_n 1, 1) := by decide +kernel
theorem d14_6 : decode prog_49_method_9_code 6 = .ok (.invokevirtual 30, 3) := by decide +kernel
theorem pd_160 : parseMethodDescriptor "(Ljava/lang/String;Ljava/lang/String;)Ljava/lang/String;" = some ⟨[(.object "java/lang/String"), (.object "java/lang/String")], some (.object "java/lang/String")⟩ := by decide +kernel
theorem d14_9 : decode prog_49_method_9_code 9 = .ok (.areturn, 1) := by decide +kernel
theorem ef_14_162 (m : MethodId) (x0 : Addr) : entryFrame m #[(.ref x0), .null] 2 = mkF m 0 #[.val (.ref x0), .val .null] [] := by first | (simp [entryFrame, mkF, argsToLocals, Value.category]; done) | rfl
def QrmK1nN (Z : State) (t : Addr) (nm : Addr) (sh : Int32) (lo : Int32) (h0 : Heap) (n0 : Nat) (v : Option Value) (h : Heap) (L : List Loc) : Prop := v = some .null ∧ Fr n0 L ∧ h = h0
set_option maxRecDepth 65536 in
set_option maxHeartbeats 40000000 in
theorem rmK1nN (l : Launch) (Z : State) (a0 : Array Value) (hw : ∀ d ∈ tables_1, d.before a0 Z = true) (ws : List Jvm.Cond) (t : Addr) (nm : Addr) (sh : Int32) (lo : Int32) (h0 : Heap) (n0 : Nat) (O0 : Old Z n0 h0) (Tf0 : Fld Z h0 t "com/example/orders_into_outcomes/ordersintooutcomes/model/TextLimit" "name" "Ljava/lang/String;" (.ref nm)) (Tf1 : Fld Z h0 t "com/example/orders_into_outcomes/ordersintooutcomes/model/TextLimit" "shortest" "I" (.int sh)) (Tf2 : Fld Z h0 t "com/example/orders_into_outcomes/ordersintooutcomes/model/TextLimit" "longest" "I" (.int lo)) (Tf3 : Fld Z h0 t "com/example/orders_into_outcomes/ordersintooutcomes/model/TextLimit" "required" "Z" (.int (0 : Int32))) (Tf4 : Fld Z h0 t "com/example/orders_into_outcomes/ordersintooutcomes/model/TextLimit" "byDefault" "Ljava/lang/String;" .null) (Et : Exa Z h0 t "com/example/orders_into_outcomes/ordersintooutcomes/model/TextLimit") :
    MetFree l (⟨"com/example/orders_into_outcomes/ordersintooutcomes/model/TextLimit", "check", "(Ljava/lang/String;)Ljava/lang/String;"⟩ : MethodName) (head1 (Jvm.Cond.code (⟨"com/example/orders_into_outcomes/ordersintooutcomes/model/TextLimit", "check", "(Ljava/lang/String;)Ljava/lang/String;"⟩ : MethodName) prog_49_method_9_code 2 (some (.object "java/lang/String")) :: ws) ({ frames := 1, cells := 0, slots := 0, locals := 15 } : Room)) (fun a_ U_ => a_ = #[(.ref t), .null] ∧ Z.Warmed39 U_.vm ∧ U_.heap = h0) (fun _ _ _ _ _ => True) (fun _ U_ o_ U'_ => ∃ v_ L_, o_ = .returned v_ ∧ QrmK1nN Z t nm sh lo h0 n0 v_ U'_.heap L_ ∧ FrameEnd U_ o_ U'_ L_ ({ frames := 1, cells := 0, slots := 0, locals := 15 } : Room).cells ({ frames := 1, cells := 0, slots := 0, locals := 15 } : Room).slots) := by
  refine MetFree.of_bodySF (plainFor_of_name pn_103) hisR ?_
  intro pg ee s mm args below meth cc s₁ Bd hml0 hP hK
  obtain ⟨rfl, hZ, hh⟩ := hP
  have hx := Bd.exec
  have hby := Bd.bytes
  have hml : cc.maxLocals = 2 := hml0
  have hown : s.vm.findClass "com/example/orders_into_outcomes/ordersintooutcomes/model/TextLimit" = some mm.cls := findClass_of_methodNamed Bd.named
  have hnm := (name_of_methodNamed Bd.named Bd.method).1
  have X0 : Stand pg l ee ({ frames := 1, cells := 0, slots := 0, locals := 15 } : Room) s mm #[(.ref t), .null] below meth cc s₁ [] 0 0 := Stand.of_body Bd
  have e0 : s₁.heap = h0 := by rw [← hh, Bd.state]; rfl
  have N0 := Fr.nil n0
  have K0 : Keep h0 h0 ([] : List Addr) := Keep.refl _ _
  have pre0 : ∀ tg_, Steps pg.tables ee below (s₁.setTop (mkF mm 0 #[.val (.ref t), .val .null] [])) tg_ → Steps pg.tables ee below (s₁.setTop (entryFrame mm #[(.ref t), .null] 2)) tg_ := fun tg_ k_ => castTop (ef_14_162 mm t) k_
  obtain ⟨T1, X1, e1, st1⟩ := getF X0 hx hZ hown (host := "") (Or.inl (hw _ (List.mem_of_getElem? (i := 36) rfl))) Via.refl e0 Tf0 (g := (mkF mm 2 #[.val (.ref t), .val .null] [(.ref t), (.ref t)])) rfl rfl (hb hby d14_2)
  obtain ⟨cq2, kq2, q2a, q2b, q2c⟩ := isOf hZ e1 Et
  obtain ⟨_, _, ⟨T2, L2, k2, n2⟩, -, X2, ⟨Lc2, hQ2, l2, y2, z2⟩, st2⟩ := X1.virtualBack hx (y := (⟨"com/example/orders_into_outcomes/ordersintooutcomes/model/TextLimit", "check", "(Ljava/lang/String;Ljava/lang/String;)Ljava/lang/String;"⟩ : MethodName)) (z := (⟨"com/example/orders_into_outcomes/ordersintooutcomes/model/TextLimit", "check", "(Ljava/lang/String;Ljava/lang/String;)Ljava/lang/String;"⟩ : MethodName)) hown (mvT hZ (hw _ (List.mem_of_getElem? (i := 84) rfl))) (mvT hZ (hw _ (List.mem_of_getElem? (i := 85) rfl))) (notFace_of_selects (args := #[]) (mvT hZ (hw _ (List.mem_of_getElem? (i := 87) rfl)))) (mvT hZ (hw _ (List.mem_of_getElem? (i := 87) rfl))) (mvT hZ (hw _ (List.mem_of_getElem? (i := 86) rfl))) (by decide) (backOf (W := 0) (rmK2nN l Z a0 hw [] t nm sh lo h0 n0 O0 Tf0 Tf1 Tf2 Tf3 Tf4 Et) hZ (hw _ (List.mem_of_getElem? (i := 88) rfl)) (hw _ (List.mem_of_getElem? (i := 28) rfl)) (by decide) (by decide)) q2a q2c (g := (mkF mm 6 #[.val (.ref t), .val .null] [.null, (.ref nm), (.ref t)])) rfl (by rw [hml]; rfl) (Steps.refl _) (argsL := [(.ref nm), .null]) (rest := []) (lenOf pd_160 rfl) rfl (by show 2 * 0 + _ ≤ _; exact Nat.le_of_eq rfl) (hb hby d14_6) (fun _ _ => ⟨rfl, e1, (by decide : 0 + 0 ≤ _), (by decide : 0 + 0 ≤ _)⟩)
  dsimp only [Pt.U, Pt.locs, Pt.cells, Pt.slots] at X2 l2 y2 z2 st2 hQ2
  subst l2 y2 z2
  obtain ⟨rfl, N2q, e2⟩ := hQ2
  have N2 := Fr.app N0 N2q
  obtain ⟨fs, hr, hrun, hended, hW, hsame⟩ := X2.leave (v := some .null) (fun h => by rw [Bd.returns] at h; cases h)
  refine ⟨_, _, pre0 _ ?_, hrun, hended, _, _, rfl, ?_, ⟨_, rfl⟩, hW, hsame.mono (by decide) (by decide)⟩
  · show Steps pg.tables ee below (s₁.setTop (mkF mm 0 #[.val (.ref t), .val .null] [])) _
    refine XS.aloadN X0.here hx rfl (hb hby d14_0) rfl rfl ?_
    show Steps pg.tables ee below (s₁.setTop (mkF mm 1 #[.val (.ref t), .val .null] [(.ref t)])) _
    refine XS.aloadN X0.here hx rfl (hb hby d14_1) rfl rfl ?_
    show Steps pg.tables ee below (s₁.setTop (mkF mm 2 #[.val (.ref t), .val .null] [(.ref t), (.ref t)])) _
    refine st1 _ ?_
    show Steps pg.tables ee below (T1.setTop (mkF mm 5 #[.val (.ref t), .val .null] [(.ref nm), (.ref t)])) _
    refine XS.aloadN X1.here hx rfl (hb hby d14_5) rfl rfl ?_
    show Steps pg.tables ee below (T1.setTop (mkF mm 6 #[.val (.ref t), .val .null] [.null, (.ref nm), (.ref t)])) _
    refine st2.trans ?_
    show Steps pg.tables ee below (T2.setTop (mkF mm 9 #[.val (.ref t), .val .null] [.null])) _
    exact retOut X2 hx Bd.returns rfl (Or.inr (Or.inr (Or.inr (Or.inr ⟨rfl, rfl, rfl⟩)))) (hb hby d14_9) hr
  · show QrmK1nN Z t nm sh lo h0 n0 _ T2.heap _
    rw [e2]
    exact ⟨rfl, N2, rfl⟩
theorem d15_29 : decode prog_49_method_10_code 29 = .ok (.aload_n 2, 1) := by decide +kernel
theorem d15_30 : decode prog_49_method_10_code 30 = .ok (.iconst 0, 1) := by decide +kernel
theorem d15_31 : decode prog_49_method_10_code 31 = .ok (.aload_n 2, 1) := by decide +kernel
theorem d15_32 : decode prog_49_method_10_code 32 = .ok (.invokevirtual 44, 3) := by decide +kernel
theorem d15_35 : decode prog_49_method_10_code 35 = .ok (.invokevirtual 50, 3) := by decide +kernel
theorem pd_168 : parseMethodDescriptor "(II)I" = some ⟨[.int, .int], some .int⟩ := by decide +kernel
theorem d15_43 : decode prog_49_method_10_code 43 = .ok (.iload_n 3, 1) := by decide +kernel
theorem d15_44 : decode prog_49_method_10_code 44 = .ok (.aload_n 0, 1) := by decide +kernel
theorem d15_45 : decode prog_49_method_10_code 45 = .ok (.getfield 13, 3) := by decide +kernel
theorem d15_48 : decode prog_49_method_10_code 48 = .ok (.if_icmp .lt 11, 3) := by decide +kernel
theorem d15_51 : decode prog_49_method_10_code 51 = .ok (.iload_n 3, 1) := by decide +kernel
theorem d15_52 : decode prog_49_method_10_code 52 = .ok (.aload_n 0, 1) := by decide +kernel
theorem d15_53 : decode prog_49_method_10_code 53 = .ok (.getfield 17, 3) := by decide +kernel
theorem d15_56 : decode prog_49_method_10_code 56 = .ok (.if_icmp .le 22, 3) := by decide +kernel
theorem d15_89 : decode prog_49_method_10_code 89 = .ok (.aload_n 2, 1) := by decide +kernel
theorem ef_15_178 (m : MethodId) (x0 : Addr) (x1 : Addr) (x2 : Addr) : entryFrame m #[(.ref x0), (.ref x1), (.ref x2)] 4 = mkF m 0 #[.val (.ref x0), .val (.ref x1), .val (.ref x2), .unset] [] := by first | (simp [entryFrame, mkF, argsToLocals, Value.category]; done) | rfl
def QrmK2N (Z : State) (t : Addr) (nm : Addr) (sh : Int32) (lo : Int32) (a : Addr) (d : Addr) (kd : ClassId) (p : Int32) (vs : List Value) (cs : Int32) (h0 : Heap) (n0 : Nat) (v : Option Value) (h : Heap) (L : List Loc) : Prop := v = some (.ref a) ∧ Fr n0 L ∧ h = h0
set_option maxRecDepth 65536 in
set_option maxHeartbeats 40000000 in
theorem rmK2N (l : Launch) (Z : State) (a0 : Array Value) (hw : ∀ d ∈ tables_1, d.before a0 Z = true) (ws : List Jvm.Cond) (t : Addr) (nm : Addr) (sh : Int32) (lo : Int32) (a : Addr) (d : Addr) (kd : ClassId) (p : Int32) (vs : List Value) (cs : Int32) (h0 : Heap) (n0 : Nat) (O0 : Old Z n0 h0) (Tf0 : Fld Z h0 t "com/example/orders_into_outcomes/ordersintooutcomes/model/TextLimit" "name" "Ljava/lang/String;" (.ref nm)) (Tf1 : Fld Z h0 t "com/example/orders_into_outcomes/ordersintooutcomes/model/TextLimit" "shortest" "I" (.int sh)) (Tf2 : Fld Z h0 t "com/example/orders_into_outcomes/ordersintooutcomes/model/TextLimit" "longest" "I" (.int lo)) (Tf3 : Fld Z h0 t "com/example/orders_into_outcomes/ordersintooutcomes/model/TextLimit" "required" "Z" (.int (0 : Int32))) (Tf4 : Fld Z h0 t "com/example/orders_into_outcomes/ordersintooutcomes/model/TextLimit" "byDefault" "Ljava/lang/String;" .null) (Et : Exa Z h0 t "com/example/orders_into_outcomes/ordersintooutcomes/model/TextLimit") (Fc : Fld Z h0 a "java/lang/String" "coder" "B" (.int (0 : Int32))) (Fv : Fld Z h0 a "java/lang/String" "value" "[B" (.ref d)) (Va : Arv Z h0 d kd .byte p vs (.int 0)) (Ea : Exa Z h0 a "java/lang/String") (S_CS : Sta Z Z.heap "java/lang/String" "COMPACT_STRINGS" "Z" (.int cs)) (hcs : ¬ (cs = (0 : Int32))) (hp : ¬ (p < (0 : Int32))) (h1 : ¬ (p < sh)) (h2 : ¬ (lo < p)) :
    MetFree l (⟨"com/example/orders_into_outcomes/ordersintooutcomes/model/TextLimit", "check", "(Ljava/lang/String;Ljava/lang/String;)Ljava/lang/String;"⟩ : MethodName) (head1 (Jvm.Cond.code (⟨"com/example/orders_into_outcomes/ordersintooutcomes/model/TextLimit", "check", "(Ljava/lang/String;Ljava/lang/String;)Ljava/lang/String;"⟩ : MethodName) prog_49_method_10_code 4 (some (.object "java/lang/String")) :: ws) ({ frames := 3, cells := 0, slots := 0, locals := 43 } : Room)) (fun a_ U_ => a_ = #[(.ref t), (.ref nm), (.ref a)] ∧ Z.Warmed39 U_.vm ∧ U_.heap = h0) (fun _ _ _ _ _ => True) (fun _ U_ o_ U'_ => ∃ v_ L_, o_ = .returned v_ ∧ QrmK2N Z t nm sh lo a d kd p vs cs h0 n0 v_ U'_.heap L_ ∧ FrameEnd U_ o_ U'_ L_ ({ frames := 3, cells := 0, slots := 0, locals := 43 } : Room).cells ({ frames := 3, cells := 0, slots := 0, locals := 43 } : Room).slots) := by
  refine MetFree.of_bodySF (plainFor_of_name pn_103) hisR ?_
  intro pg ee s mm args below meth cc s₁ Bd hml0 hP hK
  obtain ⟨rfl, hZ, hh⟩ := hP
  have hx := Bd.exec
  have hby := Bd.bytes
  have hml : cc.maxLocals = 4 := hml0
  have hown : s.vm.findClass "com/example/orders_into_outcomes/ordersintooutcomes/model/TextLimit" = some mm.cls := findClass_of_methodNamed Bd.named
  have hnm := (name_of_methodNamed Bd.named Bd.method).1
  have X0 : Stand pg l ee ({ frames := 3, cells := 0, slots := 0, locals := 43 } : Room) s mm #[(.ref t), (.ref nm), (.ref a)] below meth cc s₁ [] 0 0 := Stand.of_body Bd
  have e0 : s₁.heap = h0 := by rw [← hh, Bd.state]; rfl
  have N0 := Fr.nil n0
  have K0 : Keep h0 h0 ([] : List Addr) := Keep.refl _ _
  have pre0 : ∀ tg_, Steps pg.tables ee below (s₁.setTop (mkF mm 0 #[.val (.ref t), .val (.ref nm), .val (.ref a), .unset] [])) tg_ → Steps pg.tables ee below (s₁.setTop (entryFrame mm #[(.ref t), (.ref nm), (.ref a)] 4)) tg_ := fun tg_ k_ => castTop (ef_15_178 mm t nm a) k_
  obtain ⟨cq1, kq1, q1a, q1b, q1c⟩ := isOf hZ e0 Ea
  obtain ⟨_, _, ⟨T1, L1, k1, n1⟩, -, X1, ⟨Lc1, hQ1, l1, y1, z1⟩, st1⟩ := X0.virtualBack hx (y := (⟨"java/lang/String", "length", "()I"⟩ : MethodName)) (z := (⟨"java/lang/String", "length", "()I"⟩ : MethodName)) hown (mvT hZ (hw _ (List.mem_of_getElem? (i := 89) rfl))) (mvT hZ (hw _ (List.mem_of_getElem? (i := 90) rfl))) (notFace_of_selects (args := #[]) (mvT hZ (hw _ (List.mem_of_getElem? (i := 92) rfl)))) (mvT hZ (hw _ (List.mem_of_getElem? (i := 92) rfl))) (mvT hZ (hw _ (List.mem_of_getElem? (i := 91) rfl))) (by decide) (backOf (W := 2) (rmLen l Z a0 hw [] a d kd p vs cs h0 n0 O0 Fc Fv Va Ea S_CS hcs) hZ (hw _ (List.mem_of_getElem? (i := 93) rfl)) (hw _ (List.mem_of_getElem? (i := 6) rfl)) (by decide) (by decide)) q1a q1c (g := (mkF mm 32 #[.val (.ref t), .val (.ref nm), .val (.ref a), .unset] [(.ref a), (.int (0 : Int32)), (.ref a)])) rfl (by rw [hml]; rfl) (Steps.refl _) (argsL := []) (rest := [(.int (0 : Int32)), (.ref a)]) (lenOf pd_51 rfl) rfl (by show 2 * 0 + _ ≤ _; exact Nat.le_of_eq rfl) (hb hby d15_32) (fun _ _ => ⟨rfl, e0, (by decide : 0 + 0 ≤ _), (by decide : 0 + 0 ≤ _)⟩)
  dsimp only [Pt.U, Pt.locs, Pt.cells, Pt.slots] at X1 l1 y1 z1 st1 hQ1
  subst l1 y1 z1
  obtain ⟨rfl, N1q, e1⟩ := hQ1
  have N1 := Fr.app N0 N1q
  obtain ⟨cq2, kq2, q2a, q2b, q2c⟩ := isOf hZ e1 Ea
  obtain ⟨_, _, ⟨T2, L2, k2, n2⟩, -, X2, ⟨Lc2, hQ2, l2, y2, z2⟩, st2⟩ := X1.virtualBack hx (y := (⟨"java/lang/String", "codePointCount", "(II)I"⟩ : MethodName)) (z := (⟨"java/lang/String", "codePointCount", "(II)I"⟩ : MethodName)) hown (mvT hZ (hw _ (List.mem_of_getElem? (i := 100) rfl))) (mvT hZ (hw _ (List.mem_of_getElem? (i := 101) rfl))) (notFace_of_selects (args := #[]) (mvT hZ (hw _ (List.mem_of_getElem? (i := 103) rfl)))) (mvT hZ (hw _ (List.mem_of_getElem? (i := 103) rfl))) (mvT hZ (hw _ (List.mem_of_getElem? (i := 102) rfl))) (by decide) (backOf (W := 0) (rmCpc l Z a0 hw [] a d kd p vs cs h0 n0 O0 Fc Fv Va Ea S_CS hcs hp) hZ (hw _ (List.mem_of_getElem? (i := 104) rfl)) (hw _ (List.mem_of_getElem? (i := 6) rfl)) (by decide) (by decide)) q2a q2c (g := (mkF mm 35 #[.val (.ref t), .val (.ref nm), .val (.ref a), .unset] [(.int p), (.int (0 : Int32)), (.ref a)])) rfl (by rw [hml]; rfl) (Steps.refl _) (argsL := [(.int (0 : Int32)), (.int p)]) (rest := []) (lenOf pd_168 rfl) rfl (by show 2 * 0 + _ ≤ _; exact Nat.le_of_eq rfl) (hb hby d15_35) (fun _ _ => ⟨rfl, e1, (by decide : 0 + 0 ≤ _), (by decide : 0 + 0 ≤ _)⟩)
  dsimp only [Pt.U, Pt.locs, Pt.cells, Pt.slots] at X2 l2 y2 z2 st2 hQ2
  subst l2 y2 z2
  obtain ⟨rfl, N2q, e2⟩ := hQ2
  have N2 := Fr.app N1 N2q
  obtain ⟨T3, X3, e3, st3⟩ := getF X2 hx hZ hown (host := "") (Or.inl (hw _ (List.mem_of_getElem? (i := 38) rfl))) Via.refl e2 Tf1 (g := (mkF mm 45 #[.val (.ref t), .val (.ref nm), .val (.ref a), .val (.int p)] [(.ref t), (.int p)])) rfl rfl (hb hby d15_45)
  obtain ⟨T4, X4, e4, st4⟩ := getF X3 hx hZ hown (host := "") (Or.inl (hw _ (List.mem_of_getElem? (i := 40) rfl))) Via.refl e3 Tf2 (g := (mkF mm 53 #[.val (.ref t), .val (.ref nm), .val (.ref a), .val (.int p)] [(.ref t), (.int p)])) rfl rfl (hb hby d15_53)
  obtain ⟨fs, hr, hrun, hended, hW, hsame⟩ := X4.leave (v := some (.ref a)) (fun h => by rw [Bd.returns] at h; cases h)
  refine ⟨_, _, pre0 _ ?_, hrun, hended, _, _, rfl, ?_, ⟨_, rfl⟩, hW, hsame.mono (by decide) (by decide)⟩
  · show Steps pg.tables ee below (s₁.setTop (mkF mm 0 #[.val (.ref t), .val (.ref nm), .val (.ref a), .unset] [])) _
    refine XS.aloadN X0.here hx rfl (hb hby d15_0) rfl rfl ?_
    show Steps pg.tables ee below (s₁.setTop (mkF mm 1 #[.val (.ref t), .val (.ref nm), .val (.ref a), .unset] [(.ref a)])) _
    refine XS.ifnonnullYes X0.here hx rfl (pc0 := 1) (pc' := 21) rfl (hb hby d15_1) rfl (by decide) (by decide) ?_
    show Steps pg.tables ee below (s₁.setTop (mkF mm 21 #[.val (.ref t), .val (.ref nm), .val (.ref a), .unset] [])) _
    refine XS.aloadN X0.here hx rfl (hb hby d15_21) rfl rfl ?_
    show Steps pg.tables ee below (s₁.setTop (mkF mm 22 #[.val (.ref t), .val (.ref nm), .val (.ref a), .unset] [(.ref a)])) _
    refine XS.ifnonnullYes X0.here hx rfl (pc0 := 22) (pc' := 29) rfl (hb hby d15_22) rfl (by decide) (by decide) ?_
    show Steps pg.tables ee below (s₁.setTop (mkF mm 29 #[.val (.ref t), .val (.ref nm), .val (.ref a), .unset] [])) _
    refine XS.aloadN X0.here hx rfl (hb hby d15_29) rfl rfl ?_
    show Steps pg.tables ee below (s₁.setTop (mkF mm 30 #[.val (.ref t), .val (.ref nm), .val (.ref a), .unset] [(.ref a)])) _
    refine XS.iconst X0.here hx rfl (hb hby d15_30) ?_
    show Steps pg.tables ee below (s₁.setTop (mkF mm 31 #[.val (.ref t), .val (.ref nm), .val (.ref a), .unset] [(.int (0 : Int32)), (.ref a)])) _
    refine XS.aloadN X0.here hx rfl (hb hby d15_31) rfl rfl ?_
    show Steps pg.tables ee below (s₁.setTop (mkF mm 32 #[.val (.ref t), .val (.ref nm), .val (.ref a), .unset] [(.ref a), (.int (0 : Int32)), (.ref a)])) _
    refine st1.trans ?_
    show Steps pg.tables ee below (T1.setTop (mkF mm 35 #[.val (.ref t), .val (.ref nm), .val (.ref a), .unset] [(.int p), (.int (0 : Int32)), (.ref a)])) _
    refine st2.trans ?_
    show Steps pg.tables ee below (T2.setTop (mkF mm 38 #[.val (.ref t), .val (.ref nm), .val (.ref a), .unset] [(.int p)])) _
    refine XS.istoreN X2.here hx rfl (hb hby d15_38) rfl (l' := #[.val (.ref t), .val (.ref nm), .val (.ref a), .val (.int p)]) rfl ?_
    show Steps pg.tables ee below (T2.setTop (mkF mm 39 #[.val (.ref t), .val (.ref nm), .val (.ref a), .val (.int p)] [])) _
    refine XS.aloadN X2.here hx rfl (hb hby d15_39) rfl rfl ?_
    show Steps pg.tables ee below (T2.setTop (mkF mm 40 #[.val (.ref t), .val (.ref nm), .val (.ref a), .val (.int p)] [(.ref a)])) _
    refine XS.ifnullNo X2.here hx rfl (hb hby d15_40) rfl ?_
    show Steps pg.tables ee below (T2.setTop (mkF mm 43 #[.val (.ref t), .val (.ref nm), .val (.ref a), .val (.int p)] [])) _
    refine XS.iloadN X2.here hx rfl (hb hby d15_43) rfl ?_
    show Steps pg.tables ee below (T2.setTop (mkF mm 44 #[.val (.ref t), .val (.ref nm), .val (.ref a), .val (.int p)] [(.int p)])) _
    refine XS.aloadN X2.here hx rfl (hb hby d15_44) rfl rfl ?_
    show Steps pg.tables ee below (T2.setTop (mkF mm 45 #[.val (.ref t), .val (.ref nm), .val (.ref a), .val (.int p)] [(.ref t), (.int p)])) _
    refine st3 _ ?_
    show Steps pg.tables ee below (T3.setTop (mkF mm 48 #[.val (.ref t), .val (.ref nm), .val (.ref a), .val (.int p)] [(.int sh), (.int p)])) _
    refine XS.icmpNo X3.here hx rfl (hb hby d15_48) rfl (flt h1).1 ?_
    show Steps pg.tables ee below (T3.setTop (mkF mm 51 #[.val (.ref t), .val (.ref nm), .val (.ref a), .val (.int p)] [])) _
    refine XS.iloadN X3.here hx rfl (hb hby d15_51) rfl ?_
    show Steps pg.tables ee below (T3.setTop (mkF mm 52 #[.val (.ref t), .val (.ref nm), .val (.ref a), .val (.int p)] [(.int p)])) _
    refine XS.aloadN X3.here hx rfl (hb hby d15_52) rfl rfl ?_
    show Steps pg.tables ee below (T3.setTop (mkF mm 53 #[.val (.ref t), .val (.ref nm), .val (.ref a), .val (.int p)] [(.ref t), (.int p)])) _
    refine st4 _ ?_
    show Steps pg.tables ee below (T4.setTop (mkF mm 56 #[.val (.ref t), .val (.ref nm), .val (.ref a), .val (.int p)] [(.int lo), (.int p)])) _
    refine XS.icmpYes X4.here hx rfl (pc0 := 56) (pc' := 78) rfl (hb hby d15_56) rfl (flt h2).2.2.2 (by decide) (by decide) ?_
    show Steps pg.tables ee below (T4.setTop (mkF mm 78 #[.val (.ref t), .val (.ref nm), .val (.ref a), .val (.int p)] [])) _
    refine XS.aloadN X4.here hx rfl (hb hby d15_78) rfl rfl ?_
    show Steps pg.tables ee below (T4.setTop (mkF mm 79 #[.val (.ref t), .val (.ref nm), .val (.ref a), .val (.int p)] [(.ref a)])) _
    refine XS.ifnonnullYes X4.here hx rfl (pc0 := 79) (pc' := 89) rfl (hb hby d15_79) rfl (by decide) (by decide) ?_
    show Steps pg.tables ee below (T4.setTop (mkF mm 89 #[.val (.ref t), .val (.ref nm), .val (.ref a), .val (.int p)] [])) _
    refine XS.aloadN X4.here hx rfl (hb hby d15_89) rfl rfl ?_
    show Steps pg.tables ee below (T4.setTop (mkF mm 90 #[.val (.ref t), .val (.ref nm), .val (.ref a), .val (.int p)] [(.ref a)])) _
    exact retOut X4 hx Bd.returns rfl (Or.inr (Or.inr (Or.inr (Or.inr ⟨rfl, rfl, rfl⟩)))) (hb hby d15_90) hr
  · show QrmK2N Z t nm sh lo a d kd p vs cs h0 n0 _ T4.heap _
    rw [e4]
    exact ⟨rfl, N2, rfl⟩
theorem ef_14_179 (m : MethodId) (x0 : Addr) (x1 : Addr) : entryFrame m #[(.ref x0), (.ref x1)] 2 = mkF m 0 #[.val (.ref x0), .val (.ref x1)] [] := by first | (simp [entryFrame, mkF, argsToLocals, Value.category]; done) | rfl
def QrmK1N (Z : State) (t : Addr) (nm : Addr) (sh : Int32) (lo : Int32) (a : Addr) (d : Addr) (kd : ClassId) (p : Int32) (vs : List Value) (cs : Int32) (h0 : Heap) (n0 : Nat) (v : Option Value) (h : Heap) (L : List Loc) : Prop := v = some (.ref a) ∧ Fr n0 L ∧ h = h0
set_option maxRecDepth 65536 in
set_option maxHeartbeats 40000000 in
theorem rmK1N (l : Launch) (Z : State) (a0 : Array Value) (hw : ∀ d ∈ tables_1, d.before a0 Z = true) (ws : List Jvm.Cond) (t : Addr) (nm : Addr) (sh : Int32) (lo : Int32) (a : Addr) (d : Addr) (kd : ClassId) (p : Int32) (vs : List Value) (cs : Int32) (h0 : Heap) (n0 : Nat) (O0 : Old Z n0 h0) (Tf0 : Fld Z h0 t "com/example/orders_into_outcomes/ordersintooutcomes/model/TextLimit" "name" "Ljava/lang/String;" (.ref nm)) (Tf1 : Fld Z h0 t "com/example/orders_into_outcomes/ordersintooutcomes/model/TextLimit" "shortest" "I" (.int sh)) (Tf2 : Fld Z h0 t "com/example/orders_into_outcomes/ordersintooutcomes/model/TextLimit" "longest" "I" (.int lo)) (Tf3 : Fld Z h0 t "com/example/orders_into_outcomes/ordersintooutcomes/model/TextLimit" "required" "Z" (.int (0 : Int32))) (Tf4 : Fld Z h0 t "com/example/orders_into_outcomes/ordersintooutcomes/model/TextLimit" "byDefault" "Ljava/lang/String;" .null) (Et : Exa Z h0 t "com/example/orders_into_outcomes/ordersintooutcomes/model/TextLimit") (Fc : Fld Z h0 a "java/lang/String" "coder" "B" (.int (0 : Int32))) (Fv : Fld Z h0 a "java/lang/String" "value" "[B" (.ref d)) (Va : Arv Z h0 d kd .byte p vs (.int 0)) (Ea : Exa Z h0 a "java/lang/String") (S_CS : Sta Z Z.heap "java/lang/String" "COMPACT_STRINGS" "Z" (.int cs)) (hcs : ¬ (cs = (0 : Int32))) (hp : ¬ (p < (0 : Int32))) (h1 : ¬ (p < sh)) (h2 : ¬ (lo < p)) :
    MetFree l (⟨"com/example/orders_into_outcomes/ordersintooutcomes/model/TextLimit", "check", "(Ljava/lang/String;)Ljava/lang/String;"⟩ : MethodName) (head1 (Jvm.Cond.code (⟨"com/example/orders_into_outcomes/ordersintooutcomes/model/TextLimit", "check", "(Ljava/lang/String;)Ljava/lang/String;"⟩ : MethodName) prog_49_method_9_code 2 (some (.object "java/lang/String")) :: ws) ({ frames := 4, cells := 0, slots := 0, locals := 58 } : Room)) (fun a_ U_ => a_ = #[(.ref t), (.ref a)] ∧ Z.Warmed39 U_.vm ∧ U_.heap = h0) (fun _ _ _ _ _ => True) (fun _ U_ o_ U'_ => ∃ v_ L_, o_ = .returned v_ ∧ QrmK1N Z t nm sh lo a d kd p vs cs h0 n0 v_ U'_.heap L_ ∧ FrameEnd U_ o_ U'_ L_ ({ frames := 4, cells := 0, slots := 0, locals := 58 } : Room).cells ({ frames := 4, cells := 0, slots := 0, locals := 58 } : Room).slots) := by
  refine MetFree.of_bodySF (plainFor_of_name pn_103) hisR ?_
  intro pg ee s mm args below meth cc s₁ Bd hml0 hP hK
  obtain ⟨rfl, hZ, hh⟩ := hP
  have hx := Bd.exec
  have hby := Bd.bytes
  have hml : cc.maxLocals = 2 := hml0
  have hown : s.vm.findClass "com/example/orders_into_outcomes/ordersintooutcomes/model/TextLimit" = some mm.cls := findClass_of_methodNamed Bd.named
  have hnm := (name_of_methodNamed Bd.named Bd.method).1
  have X0 : Stand pg l ee ({ frames := 4, cells := 0, slots := 0, locals := 58 } : Room) s mm #[(.ref t), (.ref a)] below meth cc s₁ [] 0 0 := Stand.of_body Bd
  have e0 : s₁.heap = h0 := by rw [← hh, Bd.state]; rfl
  have N0 := Fr.nil n0
  have K0 : Keep h0 h0 ([] : List Addr) := Keep.refl _ _
  have pre0 : ∀ tg_, Steps pg.tables ee below (s₁.setTop (mkF mm 0 #[.val (.ref t), .val (.ref a)] [])) tg_ → Steps pg.tables ee below (s₁.setTop (entryFrame mm #[(.ref t), (.ref a)] 2)) tg_ := fun tg_ k_ => castTop (ef_14_179 mm t a) k_
  obtain ⟨T1, X1, e1, st1⟩ := getF X0 hx hZ hown (host := "") (Or.inl (hw _ (List.mem_of_getElem? (i := 36) rfl))) Via.refl e0 Tf0 (g := (mkF mm 2 #[.val (.ref t), .val (.ref a)] [(.ref t), (.ref t)])) rfl rfl (hb hby d14_2)
  obtain ⟨cq2, kq2, q2a, q2b, q2c⟩ := isOf hZ e1 Et
  obtain ⟨_, _, ⟨T2, L2, k2, n2⟩, -, X2, ⟨Lc2, hQ2, l2, y2, z2⟩, st2⟩ := X1.virtualBack hx (y := (⟨"com/example/orders_into_outcomes/ordersintooutcomes/model/TextLimit", "check", "(Ljava/lang/String;Ljava/lang/String;)Ljava/lang/String;"⟩ : MethodName)) (z := (⟨"com/example/orders_into_outcomes/ordersintooutcomes/model/TextLimit", "check", "(Ljava/lang/String;Ljava/lang/String;)Ljava/lang/String;"⟩ : MethodName)) hown (mvT hZ (hw _ (List.mem_of_getElem? (i := 84) rfl))) (mvT hZ (hw _ (List.mem_of_getElem? (i := 85) rfl))) (notFace_of_selects (args := #[]) (mvT hZ (hw _ (List.mem_of_getElem? (i := 87) rfl)))) (mvT hZ (hw _ (List.mem_of_getElem? (i := 87) rfl))) (mvT hZ (hw _ (List.mem_of_getElem? (i := 86) rfl))) (by decide) (backOf (W := 0) (rmK2N l Z a0 hw [] t nm sh lo a d kd p vs cs h0 n0 O0 Tf0 Tf1 Tf2 Tf3 Tf4 Et Fc Fv Va Ea S_CS hcs hp h1 h2) hZ (hw _ (List.mem_of_getElem? (i := 88) rfl)) (hw _ (List.mem_of_getElem? (i := 28) rfl)) (by decide) (by decide)) q2a q2c (g := (mkF mm 6 #[.val (.ref t), .val (.ref a)] [(.ref a), (.ref nm), (.ref t)])) rfl (by rw [hml]; rfl) (Steps.refl _) (argsL := [(.ref nm), (.ref a)]) (rest := []) (lenOf pd_160 rfl) rfl (by show 2 * 0 + _ ≤ _; exact Nat.le_of_eq rfl) (hb hby d14_6) (fun _ _ => ⟨rfl, e1, (by decide : 0 + 0 ≤ _), (by decide : 0 + 0 ≤ _)⟩)
  dsimp only [Pt.U, Pt.locs, Pt.cells, Pt.slots] at X2 l2 y2 z2 st2 hQ2
  subst l2 y2 z2
  obtain ⟨rfl, N2q, e2⟩ := hQ2
  have N2 := Fr.app N0 N2q
  obtain ⟨fs, hr, hrun, hended, hW, hsame⟩ := X2.leave (v := some (.ref a)) (fun h => by rw [Bd.returns] at h; cases h)
  refine ⟨_, _, pre0 _ ?_, hrun, hended, _, _, rfl, ?_, ⟨_, rfl⟩, hW, hsame.mono (by decide) (by decide)⟩
  · show Steps pg.tables ee below (s₁.setTop (mkF mm 0 #[.val (.ref t), .val (.ref a)] [])) _
    refine XS.aloadN X0.here hx rfl (hb hby d14_0) rfl rfl ?_
    show Steps pg.tables ee below (s₁.setTop (mkF mm 1 #[.val (.ref t), .val (.ref a)] [(.ref t)])) _
    refine XS.aloadN X0.here hx rfl (hb hby d14_1) rfl rfl ?_
    show Steps pg.tables ee below (s₁.setTop (mkF mm 2 #[.val (.ref t), .val (.ref a)] [(.ref t), (.ref t)])) _
    refine st1 _ ?_
    show Steps pg.tables ee below (T1.setTop (mkF mm 5 #[.val (.ref t), .val (.ref a)] [(.ref nm), (.ref t)])) _
    refine XS.aloadN X1.here hx rfl (hb hby d14_5) rfl rfl ?_
    show Steps pg.tables ee below (T1.setTop (mkF mm 6 #[.val (.ref t), .val (.ref a)] [(.ref a), (.ref nm), (.ref t)])) _
    refine st2.trans ?_
    show Steps pg.tables ee below (T2.setTop (mkF mm 9 #[.val (.ref t), .val (.ref a)] [(.ref a)])) _
    exact retOut X2 hx Bd.returns rfl (Or.inr (Or.inr (Or.inr (Or.inr ⟨rfl, rfl, rfl⟩)))) (hb hby d14_9) hr
  · show QrmK1N Z t nm sh lo a d kd p vs cs h0 n0 _ T2.heap _
    rw [e2]
    exact ⟨rfl, N2, rfl⟩
theorem ef_6_180 (m : MethodId) (x0 : Addr) (x1 : Addr) (x2 : Int32) (x3 : Int32) (x4 : Int32) (x5 : Addr) : entryFrame m #[(.ref x0), (.ref x1), (.int x2), (.int x3), (.int x4), (.ref x5)] 6 = mkF m 0 #[.val (.ref x0), .val (.ref x1), .val (.int x2), .val (.int x3), .val (.int x4), .val (.ref x5)] [] := by first | (simp [entryFrame, mkF, argsToLocals, Value.category]; done) | rfl
def QrmTIR (Z : State) (a : Addr) (nm : Addr) (sh : Int32) (lo : Int32) (bd : Addr) (h0 : Heap) (n0 : Nat) (v : Option Value) (h : Heap) (L : List Loc) : Prop := v = none ∧ Fr n0 L ∧ Keep h0 h [a] ∧ Exa Z h a "com/example/orders_into_outcomes/ordersintooutcomes/model/TextLimit" ∧ Fld Z h a "com/example/orders_into_outcomes/ordersintooutcomes/model/TextLimit" "name" "Ljava/lang/String;" (.ref nm) ∧ Fld Z h a "com/example/orders_into_outcomes/ordersintooutcomes/model/TextLimit" "shortest" "I" (.int sh) ∧ Fld Z h a "com/example/orders_into_outcomes/ordersintooutcomes/model/TextLimit" "longest" "I" (.int lo) ∧ Fld Z h a "com/example/orders_into_outcomes/ordersintooutcomes/model/TextLimit" "required" "Z" (.int (0 : Int32)) ∧ Fld Z h a "com/example/orders_into_outcomes/ordersintooutcomes/model/TextLimit" "byDefault" "Ljava/lang/String;" (.ref bd)
set_option maxRecDepth 65536 in
set_option maxHeartbeats 40000000 in
theorem rmTIR (l : Launch) (Z : State) (a0 : Array Value) (hw : ∀ d ∈ tables_1, d.before a0 Z = true) (ws : List Jvm.Cond) (a : Addr) (nm : Addr) (sh : Int32) (lo : Int32) (bd : Addr) (h0 : Heap) (n0 : Nat) (O0 : Old Z n0 h0) (E_a : Exa Z h0 a "com/example/orders_into_outcomes/ordersintooutcomes/model/TextLimit") (F_name_a : Fld Z h0 a "com/example/orders_into_outcomes/ordersintooutcomes/model/TextLimit" "name" "Ljava/lang/String;" .null) (F_shortest_a : Fld Z h0 a "com/example/orders_into_outcomes/ordersintooutcomes/model/TextLimit" "shortest" "I" (.int (0 : Int32))) (F_longest_a : Fld Z h0 a "com/example/orders_into_outcomes/ordersintooutcomes/model/TextLimit" "longest" "I" (.int (0 : Int32))) (F_required_a : Fld Z h0 a "com/example/orders_into_outcomes/ordersintooutcomes/model/TextLimit" "required" "Z" (.int (0 : Int32))) (F_byDefault_a : Fld Z h0 a "com/example/orders_into_outcomes/ordersintooutcomes/model/TextLimit" "byDefault" "Ljava/lang/String;" .null) (g_a : n0 ≤ a) :
    MetFree l (⟨"com/example/orders_into_outcomes/ordersintooutcomes/model/TextLimit", "<init>", "(Ljava/lang/String;IIZLjava/lang/String;)V"⟩ : MethodName) (head1 (Jvm.Cond.code (⟨"com/example/orders_into_outcomes/ordersintooutcomes/model/TextLimit", "<init>", "(Ljava/lang/String;IIZLjava/lang/String;)V"⟩ : MethodName) prog_49_method_1_code 6 none :: ws) ({ frames := 1, cells := 0, slots := 0, locals := 12 } : Room)) (fun a_ U_ => a_ = #[(.ref a), (.ref nm), (.int sh), (.int lo), (.int (0 : Int32)), (.ref bd)] ∧ Z.Warmed39 U_.vm ∧ U_.heap = h0) (fun _ _ _ _ _ => True) (fun _ U_ o_ U'_ => ∃ v_ L_, o_ = .returned v_ ∧ QrmTIR Z a nm sh lo bd h0 n0 v_ U'_.heap L_ ∧ FrameEnd U_ o_ U'_ L_ ({ frames := 1, cells := 0, slots := 0, locals := 12 } : Room).cells ({ frames := 1, cells := 0, slots := 0, locals := 12 } : Room).slots) := by
  refine MetFree.of_bodySF (plainFor_of_name pn_103) hisR ?_
  intro pg ee s mm args below meth cc s₁ Bd hml0 hP hK
  obtain ⟨rfl, hZ, hh⟩ := hP
  have hx := Bd.exec
  have hby := Bd.bytes
  have hml : cc.maxLocals = 6 := hml0
  have hown : s.vm.findClass "com/example/orders_into_outcomes/ordersintooutcomes/model/TextLimit" = some mm.cls := findClass_of_methodNamed Bd.named
  have hnm := (name_of_methodNamed Bd.named Bd.method).1
  have X0 : Stand pg l ee ({ frames := 1, cells := 0, slots := 0, locals := 12 } : Room) s mm #[(.ref a), (.ref nm), (.int sh), (.int lo), (.int (0 : Int32)), (.ref bd)] below meth cc s₁ [] 0 0 := Stand.of_body Bd
  have e0 : s₁.heap = h0 := by rw [← hh, Bd.state]; rfl
  have N0 := Fr.nil n0
  have K0 : Keep h0 h0 ([a] : List Addr) := Keep.refl _ _
  have pre0 : ∀ tg_, Steps pg.tables ee below (s₁.setTop (mkF mm 0 #[.val (.ref a), .val (.ref nm), .val (.int sh), .val (.int lo), .val (.int (0 : Int32)), .val (.ref bd)] [])) tg_ → Steps pg.tables ee below (s₁.setTop (entryFrame mm #[(.ref a), (.ref nm), (.int sh), (.int lo), (.int (0 : Int32)), (.ref bd)] 6)) tg_ := fun tg_ k_ => castTop (ef_6_180 mm a nm sh lo (0 : Int32) bd) k_
  obtain ⟨T1, X1, e1, st1⟩ := initO X0 hx hZ hown (hw _ (List.mem_of_getElem? (i := 35) rfl)) (hw _ (List.mem_of_getElem? (i := 16) rfl)) (hw _ (List.mem_of_getElem? (i := 17) rfl)) e0 (g := (mkF mm 1 #[.val (.ref a), .val (.ref nm), .val (.int sh), .val (.int lo), .val (.int (0 : Int32)), .val (.ref bd)] [(.ref a)])) rfl (by rw [hml]; rfl) rfl (hb hby d6_1) (by decide) (W := 0) (by show 2 * 0 + _ ≤ _; exact Nat.le_of_eq rfl) (by decide)
  obtain ⟨T2, h2, X2, e2, W2, st2⟩ := putF X1 hx hZ hown (host := "") (Or.inl (hw _ (List.mem_of_getElem? (i := 36) rfl))) Via.refl e1 F_name_a E_a (Or.inr ⟨(hw _ (List.mem_of_getElem? (i := 37) rfl)), rfl, hnm⟩) (hw _ (List.mem_of_getElem? (i := 31) rfl)) (ty := (.object "java/lang/String")) (by decide) rfl rfl (g := (mkF mm 6 #[.val (.ref a), .val (.ref nm), .val (.int sh), .val (.int lo), .val (.int (0 : Int32)), .val (.ref bd)] [(.ref nm), (.ref a)])) rfl rfl (hb hby d6_6)
  have Fw2 : Fld Z h2 a "com/example/orders_into_outcomes/ordersintooutcomes/model/TextLimit" "name" "Ljava/lang/String;" (.ref nm) := F_name_a.same W2
  have N2 := Fr.snoc X2 N0 g_a
  have O2 := O0.wr W2 g_a
  have KK2 := K0.wr W2 (Or.inl (by simp))
  obtain ⟨T3, h3, X3, e3, W3, st3⟩ := putF X2 hx hZ hown (host := "") (Or.inl (hw _ (List.mem_of_getElem? (i := 38) rfl))) Via.refl e2 (F_shortest_a.other W2 (Or.inr (slot_ne (Or.inr (hw _ (List.mem_of_getElem? (i := 39) rfl))) (Or.inr (hw _ (List.mem_of_getElem? (i := 37) rfl))) (by decide) (t := .int) (t' := (.object "java/lang/String")) (by decide) (by decide)))) (E_a.wr W2) (Or.inr ⟨(hw _ (List.mem_of_getElem? (i := 39) rfl)), rfl, hnm⟩) (hw _ (List.mem_of_getElem? (i := 31) rfl)) (ty := .int) (by decide) rfl rfl (g := (mkF mm 11 #[.val (.ref a), .val (.ref nm), .val (.int sh), .val (.int lo), .val (.int (0 : Int32)), .val (.ref bd)] [(.int sh), (.ref a)])) rfl rfl (hb hby d6_11)
  have Fw3 : Fld Z h3 a "com/example/orders_into_outcomes/ordersintooutcomes/model/TextLimit" "shortest" "I" (.int sh) := (F_shortest_a.other W2 (Or.inr (slot_ne (Or.inr (hw _ (List.mem_of_getElem? (i := 39) rfl))) (Or.inr (hw _ (List.mem_of_getElem? (i := 37) rfl))) (by decide) (t := .int) (t' := (.object "java/lang/String")) (by decide) (by decide)))).same W3
  have N3 := Fr.snoc X3 N2 g_a
  have O3 := O2.wr W3 g_a
  have KK3 := KK2.wr W3 (Or.inl (by simp))
  obtain ⟨T4, h4, X4, e4, W4, st4⟩ := putF X3 hx hZ hown (host := "") (Or.inl (hw _ (List.mem_of_getElem? (i := 40) rfl))) Via.refl e3 ((F_longest_a.other W2 (Or.inr (slot_ne (Or.inr (hw _ (List.mem_of_getElem? (i := 41) rfl))) (Or.inr (hw _ (List.mem_of_getElem? (i := 37) rfl))) (by decide) (t := .int) (t' := (.object "java/lang/String")) (by decide) (by decide)))).other W3 (Or.inr (slot_ne (Or.inr (hw _ (List.mem_of_getElem? (i := 41) rfl))) (Or.inr (hw _ (List.mem_of_getElem? (i := 39) rfl))) (by decide) (t := .int) (t' := .int) (by decide) (by decide)))) ((E_a.wr W2).wr W3) (Or.inr ⟨(hw _ (List.mem_of_getElem? (i := 41) rfl)), rfl, hnm⟩) (hw _ (List.mem_of_getElem? (i := 31) rfl)) (ty := .int) (by decide) rfl rfl (g := (mkF mm 16 #[.val (.ref a), .val (.ref nm), .val (.int sh), .val (.int lo), .val (.int (0 : Int32)), .val (.ref bd)] [(.int lo), (.ref a)])) rfl rfl (hb hby d6_16)
  have Fw4 : Fld Z h4 a "com/example/orders_into_outcomes/ordersintooutcomes/model/TextLimit" "longest" "I" (.int lo) := ((F_longest_a.other W2 (Or.inr (slot_ne (Or.inr (hw _ (List.mem_of_getElem? (i := 41) rfl))) (Or.inr (hw _ (List.mem_of_getElem? (i := 37) rfl))) (by decide) (t := .int) (t' := (.object "java/lang/String")) (by decide) (by decide)))).other W3 (Or.inr (slot_ne (Or.inr (hw _ (List.mem_of_getElem? (i := 41) rfl))) (Or.inr (hw _ (List.mem_of_getElem? (i := 39) rfl))) (by decide) (t := .int) (t' := .int) (by decide) (by decide)))).same W4
  have N4 := Fr.snoc X4 N3 g_a
  have O4 := O3.wr W4 g_a
  have KK4 := KK3.wr W4 (Or.inl (by simp))
  obtain ⟨T5, h5, X5, e5, W5, st5⟩ := putFN X4 hx hZ hown (hw _ (List.mem_of_getElem? (i := 42) rfl)) Via.refl e4 (((F_required_a.other W2 (Or.inr (slot_ne (Or.inr (hw _ (List.mem_of_getElem? (i := 43) rfl))) (Or.inr (hw _ (List.mem_of_getElem? (i := 37) rfl))) (by decide) (t := .boolean) (t' := (.object "java/lang/String")) (by decide) (by decide)))).other W3 (Or.inr (slot_ne (Or.inr (hw _ (List.mem_of_getElem? (i := 43) rfl))) (Or.inr (hw _ (List.mem_of_getElem? (i := 39) rfl))) (by decide) (t := .boolean) (t' := .int) (by decide) (by decide)))).other W4 (Or.inr (slot_ne (Or.inr (hw _ (List.mem_of_getElem? (i := 43) rfl))) (Or.inr (hw _ (List.mem_of_getElem? (i := 41) rfl))) (by decide) (t := .boolean) (t' := .int) (by decide) (by decide)))) (((E_a.wr W2).wr W3).wr W4) (Or.inr ⟨(hw _ (List.mem_of_getElem? (i := 43) rfl)), rfl, hnm⟩) (hw _ (List.mem_of_getElem? (i := 31) rfl)) (ty := .boolean) (v' := (.int (0 : Int32))) (by decide) rfl (by decide) (g := (mkF mm 22 #[.val (.ref a), .val (.ref nm), .val (.int sh), .val (.int lo), .val (.int (0 : Int32)), .val (.ref bd)] [(.int (0 : Int32)), (.ref a)])) rfl rfl (hb hby d6_22)
  have Fw5 : Fld Z h5 a "com/example/orders_into_outcomes/ordersintooutcomes/model/TextLimit" "required" "Z" (.int (0 : Int32)) := (((F_required_a.other W2 (Or.inr (slot_ne (Or.inr (hw _ (List.mem_of_getElem? (i := 43) rfl))) (Or.inr (hw _ (List.mem_of_getElem? (i := 37) rfl))) (by decide) (t := .boolean) (t' := (.object "java/lang/String")) (by decide) (by decide)))).other W3 (Or.inr (slot_ne (Or.inr (hw _ (List.mem_of_getElem? (i := 43) rfl))) (Or.inr (hw _ (List.mem_of_getElem? (i := 39) rfl))) (by decide) (t := .boolean) (t' := .int) (by decide) (by decide)))).other W4 (Or.inr (slot_ne (Or.inr (hw _ (List.mem_of_getElem? (i := 43) rfl))) (Or.inr (hw _ (List.mem_of_getElem? (i := 41) rfl))) (by decide) (t := .boolean) (t' := .int) (by decide) (by decide)))).same W5
  have N5 := Fr.snoc X5 N4 g_a
  have O5 := O4.wr W5 g_a
  have KK5 := KK4.wr W5 (Or.inl (by simp))
  obtain ⟨T6, h6, X6, e6, W6, st6⟩ := putF X5 hx hZ hown (host := "") (Or.inl (hw _ (List.mem_of_getElem? (i := 44) rfl))) Via.refl e5 ((((F_byDefault_a.other W2 (Or.inr (slot_ne (Or.inr (hw _ (List.mem_of_getElem? (i := 45) rfl))) (Or.inr (hw _ (List.mem_of_getElem? (i := 37) rfl))) (by decide) (t := (.object "java/lang/String")) (t' := (.object "java/lang/String")) (by decide) (by decide)))).other W3 (Or.inr (slot_ne (Or.inr (hw _ (List.mem_of_getElem? (i := 45) rfl))) (Or.inr (hw _ (List.mem_of_getElem? (i := 39) rfl))) (by decide) (t := (.object "java/lang/String")) (t' := .int) (by decide) (by decide)))).other W4 (Or.inr (slot_ne (Or.inr (hw _ (List.mem_of_getElem? (i := 45) rfl))) (Or.inr (hw _ (List.mem_of_getElem? (i := 41) rfl))) (by decide) (t := (.object "java/lang/String")) (t' := .int) (by decide) (by decide)))).other W5 (Or.inr (slot_ne (Or.inr (hw _ (List.mem_of_getElem? (i := 45) rfl))) (Or.inr (hw _ (List.mem_of_getElem? (i := 43) rfl))) (by decide) (t := (.object "java/lang/String")) (t' := .boolean) (by decide) (by decide)))) ((((E_a.wr W2).wr W3).wr W4).wr W5) (Or.inr ⟨(hw _ (List.mem_of_getElem? (i := 45) rfl)), rfl, hnm⟩) (hw _ (List.mem_of_getElem? (i := 31) rfl)) (ty := (.object "java/lang/String")) (by decide) rfl rfl (g := (mkF mm 28 #[.val (.ref a), .val (.ref nm), .val (.int sh), .val (.int lo), .val (.int (0 : Int32)), .val (.ref bd)] [(.ref bd), (.ref a)])) rfl rfl (hb hby d6_28)
  have Fw6 : Fld Z h6 a "com/example/orders_into_outcomes/ordersintooutcomes/model/TextLimit" "byDefault" "Ljava/lang/String;" (.ref bd) := ((((F_byDefault_a.other W2 (Or.inr (slot_ne (Or.inr (hw _ (List.mem_of_getElem? (i := 45) rfl))) (Or.inr (hw _ (List.mem_of_getElem? (i := 37) rfl))) (by decide) (t := (.object "java/lang/String")) (t' := (.object "java/lang/String")) (by decide) (by decide)))).other W3 (Or.inr (slot_ne (Or.inr (hw _ (List.mem_of_getElem? (i := 45) rfl))) (Or.inr (hw _ (List.mem_of_getElem? (i := 39) rfl))) (by decide) (t := (.object "java/lang/String")) (t' := .int) (by decide) (by decide)))).other W4 (Or.inr (slot_ne (Or.inr (hw _ (List.mem_of_getElem? (i := 45) rfl))) (Or.inr (hw _ (List.mem_of_getElem? (i := 41) rfl))) (by decide) (t := (.object "java/lang/String")) (t' := .int) (by decide) (by decide)))).other W5 (Or.inr (slot_ne (Or.inr (hw _ (List.mem_of_getElem? (i := 45) rfl))) (Or.inr (hw _ (List.mem_of_getElem? (i := 43) rfl))) (by decide) (t := (.object "java/lang/String")) (t' := .boolean) (by decide) (by decide)))).same W6
  have N6 := Fr.snoc X6 N5 g_a
  have O6 := O5.wr W6 g_a
  have KK6 := KK5.wr W6 (Or.inl (by simp))
  obtain ⟨fs, hr, hrun, hended, hW, hsame⟩ := X6.leave (v := none) (fun _ => rfl)
  refine ⟨_, _, pre0 _ ?_, hrun, hended, _, _, rfl, ?_, ⟨_, rfl⟩, hW, hsame.mono (by decide) (by decide)⟩
  · show Steps pg.tables ee below (s₁.setTop (mkF mm 0 #[.val (.ref a), .val (.ref nm), .val (.int sh), .val (.int lo), .val (.int (0 : Int32)), .val (.ref bd)] [])) _
    refine XS.aloadN X0.here hx rfl (hb hby d6_0) rfl rfl ?_
    show Steps pg.tables ee below (s₁.setTop (mkF mm 1 #[.val (.ref a), .val (.ref nm), .val (.int sh), .val (.int lo), .val (.int (0 : Int32)), .val (.ref bd)] [(.ref a)])) _
    refine st1 _ ?_
    show Steps pg.tables ee below (T1.setTop (mkF mm 4 #[.val (.ref a), .val (.ref nm), .val (.int sh), .val (.int lo), .val (.int (0 : Int32)), .val (.ref bd)] [])) _
    refine XS.aloadN X1.here hx rfl (hb hby d6_4) rfl rfl ?_
    show Steps pg.tables ee below (T1.setTop (mkF mm 5 #[.val (.ref a), .val (.ref nm), .val (.int sh), .val (.int lo), .val (.int (0 : Int32)), .val (.ref bd)] [(.ref a)])) _
    refine XS.aloadN X1.here hx rfl (hb hby d6_5) rfl rfl ?_
    show Steps pg.tables ee below (T1.setTop (mkF mm 6 #[.val (.ref a), .val (.ref nm), .val (.int sh), .val (.int lo), .val (.int (0 : Int32)), .val (.ref bd)] [(.ref nm), (.ref a)])) _
    refine st2 _ ?_
    show Steps pg.tables ee below (T2.setTop (mkF mm 9 #[.val (.ref a), .val (.ref nm), .val (.int sh), .val (.int lo), .val (.int (0 : Int32)), .val (.ref bd)] [])) _
    refine XS.aloadN X2.here hx rfl (hb hby d6_9) rfl rfl ?_
    show Steps pg.tables ee below (T2.setTop (mkF mm 10 #[.val (.ref a), .val (.ref nm), .val (.int sh), .val (.int lo), .val (.int (0 : Int32)), .val (.ref bd)] [(.ref a)])) _
    refine XS.iloadN X2.here hx rfl (hb hby d6_10) rfl ?_
    show Steps pg.tables ee below (T2.setTop (mkF mm 11 #[.val (.ref a), .val (.ref nm), .val (.int sh), .val (.int lo), .val (.int (0 : Int32)), .val (.ref bd)] [(.int sh), (.ref a)])) _
    refine st3 _ ?_
    show Steps pg.tables ee below (T3.setTop (mkF mm 14 #[.val (.ref a), .val (.ref nm), .val (.int sh), .val (.int lo), .val (.int (0 : Int32)), .val (.ref bd)] [])) _
    refine XS.aloadN X3.here hx rfl (hb hby d6_14) rfl rfl ?_
    show Steps pg.tables ee below (T3.setTop (mkF mm 15 #[.val (.ref a), .val (.ref nm), .val (.int sh), .val (.int lo), .val (.int (0 : Int32)), .val (.ref bd)] [(.ref a)])) _
    refine XS.iloadN X3.here hx rfl (hb hby d6_15) rfl ?_
    show Steps pg.tables ee below (T3.setTop (mkF mm 16 #[.val (.ref a), .val (.ref nm), .val (.int sh), .val (.int lo), .val (.int (0 : Int32)), .val (.ref bd)] [(.int lo), (.ref a)])) _
    refine st4 _ ?_
    show Steps pg.tables ee below (T4.setTop (mkF mm 19 #[.val (.ref a), .val (.ref nm), .val (.int sh), .val (.int lo), .val (.int (0 : Int32)), .val (.ref bd)] [])) _
    refine XS.aloadN X4.here hx rfl (hb hby d6_19) rfl rfl ?_
    show Steps pg.tables ee below (T4.setTop (mkF mm 20 #[.val (.ref a), .val (.ref nm), .val (.int sh), .val (.int lo), .val (.int (0 : Int32)), .val (.ref bd)] [(.ref a)])) _
    refine XS.iload X4.here hx rfl (hb hby d6_20) rfl ?_
    show Steps pg.tables ee below (T4.setTop (mkF mm 22 #[.val (.ref a), .val (.ref nm), .val (.int sh), .val (.int lo), .val (.int (0 : Int32)), .val (.ref bd)] [(.int (0 : Int32)), (.ref a)])) _
    refine st5 _ ?_
    show Steps pg.tables ee below (T5.setTop (mkF mm 25 #[.val (.ref a), .val (.ref nm), .val (.int sh), .val (.int lo), .val (.int (0 : Int32)), .val (.ref bd)] [])) _
    refine XS.aloadN X5.here hx rfl (hb hby d6_25) rfl rfl ?_
    show Steps pg.tables ee below (T5.setTop (mkF mm 26 #[.val (.ref a), .val (.ref nm), .val (.int sh), .val (.int lo), .val (.int (0 : Int32)), .val (.ref bd)] [(.ref a)])) _
    refine XS.aload X5.here hx rfl (hb hby d6_26) rfl rfl ?_
    show Steps pg.tables ee below (T5.setTop (mkF mm 28 #[.val (.ref a), .val (.ref nm), .val (.int sh), .val (.int lo), .val (.int (0 : Int32)), .val (.ref bd)] [(.ref bd), (.ref a)])) _
    refine st6 _ ?_
    show Steps pg.tables ee below (T6.setTop (mkF mm 31 #[.val (.ref a), .val (.ref nm), .val (.int sh), .val (.int lo), .val (.int (0 : Int32)), .val (.ref bd)] [])) _
    exact X6.returnOut hx Bd.returns (hb hby d6_31) hr
  · show QrmTIR Z a nm sh lo bd h0 n0 _ T6.heap _
    rw [e6]
    exact ⟨rfl, N6, KK6, (((((E_a.wr W2).wr W3).wr W4).wr W5).wr W6), ((((Fw2.other W3 (Or.inr (slot_ne (Or.inr (hw _ (List.mem_of_getElem? (i := 37) rfl))) (Or.inr (hw _ (List.mem_of_getElem? (i := 39) rfl))) (by decide) (t := (.object "java/lang/String")) (t' := .int) (by decide) (by decide)))).other W4 (Or.inr (slot_ne (Or.inr (hw _ (List.mem_of_getElem? (i := 37) rfl))) (Or.inr (hw _ (List.mem_of_getElem? (i := 41) rfl))) (by decide) (t := (.object "java/lang/String")) (t' := .int) (by decide) (by decide)))).other W5 (Or.inr (slot_ne (Or.inr (hw _ (List.mem_of_getElem? (i := 37) rfl))) (Or.inr (hw _ (List.mem_of_getElem? (i := 43) rfl))) (by decide) (t := (.object "java/lang/String")) (t' := .boolean) (by decide) (by decide)))).other W6 (Or.inr (slot_ne (Or.inr (hw _ (List.mem_of_getElem? (i := 37) rfl))) (Or.inr (hw _ (List.mem_of_getElem? (i := 45) rfl))) (by decide) (t := (.object "java/lang/String")) (t' := (.object "java/lang/String")) (by decide) (by decide)))), (((Fw3.other W4 (Or.inr (slot_ne (Or.inr (hw _ (List.mem_of_getElem? (i := 39) rfl))) (Or.inr (hw _ (List.mem_of_getElem? (i := 41) rfl))) (by decide) (t := .int) (t' := .int) (by decide) (by decide)))).other W5 (Or.inr (slot_ne (Or.inr (hw _ (List.mem_of_getElem? (i := 39) rfl))) (Or.inr (hw _ (List.mem_of_getElem? (i := 43) rfl))) (by decide) (t := .int) (t' := .boolean) (by decide) (by decide)))).other W6 (Or.inr (slot_ne (Or.inr (hw _ (List.mem_of_getElem? (i := 39) rfl))) (Or.inr (hw _ (List.mem_of_getElem? (i := 45) rfl))) (by decide) (t := .int) (t' := (.object "java/lang/String")) (by decide) (by decide)))), ((Fw4.other W5 (Or.inr (slot_ne (Or.inr (hw _ (List.mem_of_getElem? (i := 41) rfl))) (Or.inr (hw _ (List.mem_of_getElem? (i := 43) rfl))) (by decide) (t := .int) (t' := .boolean) (by decide) (by decide)))).other W6 (Or.inr (slot_ne (Or.inr (hw _ (List.mem_of_getElem? (i := 41) rfl))) (Or.inr (hw _ (List.mem_of_getElem? (i := 45) rfl))) (by decide) (t := .int) (t' := (.object "java/lang/String")) (by decide) (by decide)))), (Fw5.other W6 (Or.inr (slot_ne (Or.inr (hw _ (List.mem_of_getElem? (i := 43) rfl))) (Or.inr (hw _ (List.mem_of_getElem? (i := 45) rfl))) (by decide) (t := .boolean) (t' := (.object "java/lang/String")) (by decide) (by decide)))), Fw6⟩
theorem ef_5_181 (m : MethodId) (x0 : Addr) (x1 : Int32) (x2 : Int32) (x3 : Addr) : entryFrame m #[(.ref x0), (.int x1), (.int x2), (.ref x3)] 4 = mkF m 0 #[.val (.ref x0), .val (.int x1), .val (.int x2), .val (.ref x3)] [] := by first | (simp [entryFrame, mkF, argsToLocals, Value.category]; done) | rfl
def QrmTOR (Z : State) (nm : Addr) (sh : Int32) (lo : Int32) (bd : Addr) (h0 : Heap) (n0 : Nat) (v : Option Value) (h : Heap) (L : List Loc) : Prop := ∃ b : Addr, v = some (.ref b) ∧ Fr n0 L ∧ Keep h0 h [] ∧ Exa Z h b "com/example/orders_into_outcomes/ordersintooutcomes/model/TextLimit" ∧ Fld Z h b "com/example/orders_into_outcomes/ordersintooutcomes/model/TextLimit" "name" "Ljava/lang/String;" (.ref nm) ∧ Fld Z h b "com/example/orders_into_outcomes/ordersintooutcomes/model/TextLimit" "shortest" "I" (.int sh) ∧ Fld Z h b "com/example/orders_into_outcomes/ordersintooutcomes/model/TextLimit" "longest" "I" (.int lo) ∧ Fld Z h b "com/example/orders_into_outcomes/ordersintooutcomes/model/TextLimit" "required" "Z" (.int (0 : Int32)) ∧ Fld Z h b "com/example/orders_into_outcomes/ordersintooutcomes/model/TextLimit" "byDefault" "Ljava/lang/String;" (.ref bd)
set_option maxRecDepth 65536 in
set_option maxHeartbeats 40000000 in
theorem rmTOR (l : Launch) (Z : State) (a0 : Array Value) (hw : ∀ d ∈ tables_1, d.before a0 Z = true) (ws : List Jvm.Cond) (nm : Addr) (sh : Int32) (lo : Int32) (bd : Addr) (h0 : Heap) (n0 : Nat) (O0 : Old Z n0 h0)  :
    MetFree l (⟨"com/example/orders_into_outcomes/ordersintooutcomes/model/TextLimit", "optional", "(Ljava/lang/String;IILjava/lang/String;)Lcom/example/orders_into_outcomes/ordersintooutcomes/model/TextLimit;"⟩ : MethodName) (head1 (Jvm.Cond.code (⟨"com/example/orders_into_outcomes/ordersintooutcomes/model/TextLimit", "optional", "(Ljava/lang/String;IILjava/lang/String;)Lcom/example/orders_into_outcomes/ordersintooutcomes/model/TextLimit;"⟩ : MethodName) prog_49_method_3_code 4 (some (.object "com/example/orders_into_outcomes/ordersintooutcomes/model/TextLimit")) :: ws) ({ frames := 2, cells := 1, slots := 5, locals := 30 } : Room)) (fun a_ U_ => a_ = #[(.ref nm), (.int sh), (.int lo), (.ref bd)] ∧ Z.Warmed39 U_.vm ∧ U_.heap = h0) (fun _ _ _ _ _ => True) (fun _ U_ o_ U'_ => ∃ v_ L_, o_ = .returned v_ ∧ QrmTOR Z nm sh lo bd h0 n0 v_ U'_.heap L_ ∧ FrameEnd U_ o_ U'_ L_ ({ frames := 2, cells := 1, slots := 5, locals := 30 } : Room).cells ({ frames := 2, cells := 1, slots := 5, locals := 30 } : Room).slots) := by
  refine MetFree.of_bodySF (plainFor_of_name pn_103) hisR ?_
  intro pg ee s mm args below meth cc s₁ Bd hml0 hP hK
  obtain ⟨rfl, hZ, hh⟩ := hP
  have hx := Bd.exec
  have hby := Bd.bytes
  have hml : cc.maxLocals = 4 := hml0
  have hown : s.vm.findClass "com/example/orders_into_outcomes/ordersintooutcomes/model/TextLimit" = some mm.cls := findClass_of_methodNamed Bd.named
  have hnm := (name_of_methodNamed Bd.named Bd.method).1
  have X0 : Stand pg l ee ({ frames := 2, cells := 1, slots := 5, locals := 30 } : Room) s mm #[(.ref nm), (.int sh), (.int lo), (.ref bd)] below meth cc s₁ [] 0 0 := Stand.of_body Bd
  have e0 : s₁.heap = h0 := by rw [← hh, Bd.state]; rfl
  have N0 := Fr.nil n0
  have K0 : Keep h0 h0 ([] : List Addr) := Keep.refl _ _
  have pre0 : ∀ tg_, Steps pg.tables ee below (s₁.setTop (mkF mm 0 #[.val (.ref nm), .val (.int sh), .val (.int lo), .val (.ref bd)] [])) tg_ → Steps pg.tables ee below (s₁.setTop (entryFrame mm #[(.ref nm), (.int sh), (.int lo), (.ref bd)] 4)) tg_ := fun tg_ k_ => castTop (ef_5_181 mm nm sh lo bd) k_
  obtain ⟨T1, h1, X1, e1, E1, A1, D1, -, st1⟩ := newO X0 hx hZ hown (hw _ (List.mem_of_getElem? (i := 30) rfl)) (hw _ (List.mem_of_getElem? (i := 31) rfl)) (hw _ (List.mem_of_getElem? (i := 28) rfl)) e0 (g := (mkF mm 0 #[.val (.ref nm), .val (.int sh), .val (.int lo), .val (.ref bd)] [])) rfl (hb hby d5_0) (by decide) (by decide)
  obtain ⟨b1, g1⟩ : ∃ z, z = h0.size := ⟨_, rfl⟩
  rw [← g1] at A1 D1 st1
  have g_b1 : n0 ≤ b1 := Nat.le_trans (O0.1 ▸ O0.2.1) (Nat.le_of_eq g1.symm)
  have sz_b1 : h0.size ≤ b1 := Nat.le_trans K0.1 (Nat.le_of_eq g1.symm)
  have O1 := O0.ext E1
  have KK1 := K0.ext E1
  have F_name_b1 : Fld Z h1 b1 "com/example/orders_into_outcomes/ordersintooutcomes/model/TextLimit" "name" "Ljava/lang/String;" .null := D1 (Or.inr (hw _ (List.mem_of_getElem? (i := 37) rfl))) (ty := (.object "java/lang/String")) (by decide)
  have F_shortest_b1 : Fld Z h1 b1 "com/example/orders_into_outcomes/ordersintooutcomes/model/TextLimit" "shortest" "I" (.int (0 : Int32)) := D1 (Or.inr (hw _ (List.mem_of_getElem? (i := 39) rfl))) (ty := .int) (by decide)
  have F_longest_b1 : Fld Z h1 b1 "com/example/orders_into_outcomes/ordersintooutcomes/model/TextLimit" "longest" "I" (.int (0 : Int32)) := D1 (Or.inr (hw _ (List.mem_of_getElem? (i := 41) rfl))) (ty := .int) (by decide)
  have F_required_b1 : Fld Z h1 b1 "com/example/orders_into_outcomes/ordersintooutcomes/model/TextLimit" "required" "Z" (.int (0 : Int32)) := D1 (Or.inr (hw _ (List.mem_of_getElem? (i := 43) rfl))) (ty := .boolean) (by decide)
  have F_byDefault_b1 : Fld Z h1 b1 "com/example/orders_into_outcomes/ordersintooutcomes/model/TextLimit" "byDefault" "Ljava/lang/String;" .null := D1 (Or.inr (hw _ (List.mem_of_getElem? (i := 45) rfl))) (ty := (.object "java/lang/String")) (by decide)
  obtain ⟨_, _, ⟨T2, L2, k2, n2⟩, -, X2, ⟨Lc2, hQ2, l2, y2, z2⟩, st2⟩ := X1.specialBack hx (y := (⟨"com/example/orders_into_outcomes/ordersintooutcomes/model/TextLimit", "<init>", "(Ljava/lang/String;IIZLjava/lang/String;)V"⟩ : MethodName)) rfl hown (mvT hZ (hw _ (List.mem_of_getElem? (i := 32) rfl))) (mvT hZ (hw _ (List.mem_of_getElem? (i := 33) rfl))) (mvT hZ (hw _ (List.mem_of_getElem? (i := 34) rfl))) (by decide) (backOf (W := 1) (rmTIR l Z a0 hw [] b1 nm sh lo bd h1 n0 O1 A1 F_name_b1 F_shortest_b1 F_longest_b1 F_required_b1 F_byDefault_b1 g_b1 ) hZ (hw _ (List.mem_of_getElem? (i := 34) rfl)) (hw _ (List.mem_of_getElem? (i := 28) rfl)) (by decide) (by decide)) (g := (mkF mm 9 #[.val (.ref nm), .val (.int sh), .val (.int lo), .val (.ref bd)] [(.ref bd), (.int (0 : Int32)), (.int lo), (.int sh), (.ref nm), (.ref b1), (.ref b1)])) rfl (by rw [hml]; rfl) (Steps.refl _) (a := b1) (argsL := [(.ref nm), (.int sh), (.int lo), (.int (0 : Int32)), (.ref bd)]) (rest := [(.ref b1)]) (lenOf pd_113 rfl) rfl (by show 2 * 0 + _ ≤ _; exact Nat.le_of_eq rfl) (hb hby d5_9) (fun _ _ => ⟨rfl, e1, (by decide : 1 + 0 ≤ _), (by decide : 5 + 0 ≤ _)⟩)
  dsimp only [Pt.U, Pt.locs, Pt.cells, Pt.slots] at X2 l2 y2 z2 st2 hQ2
  subst l2 y2 z2
  obtain ⟨rfl, N2q, K2, Ex2, Fv0_2, Fv1_2, Fv2_2, Fv3_2, Fv4_2⟩ := hQ2
  have O2 := O1.keep K2 (allS g_b1 all0)
  have KK2 := KK1.trans K2 (allS (Or.inr sz_b1) all0)
  have N2 := Fr.app N0 N2q
  obtain ⟨fs, hr, hrun, hended, hW, hsame⟩ := X2.leave (v := some (.ref b1)) (fun h => by rw [Bd.returns] at h; cases h)
  refine ⟨_, _, pre0 _ ?_, hrun, hended, _, _, rfl, ?_, ⟨_, rfl⟩, hW, hsame.mono (by decide) (by decide)⟩
  · show Steps pg.tables ee below (s₁.setTop (mkF mm 0 #[.val (.ref nm), .val (.int sh), .val (.int lo), .val (.ref bd)] [])) _
    refine st1 _ ?_
    show Steps pg.tables ee below (T1.setTop (mkF mm 3 #[.val (.ref nm), .val (.int sh), .val (.int lo), .val (.ref bd)] [(.ref b1)])) _
    refine XS.dup X1.here hx rfl (hb hby d5_3) rfl rfl ?_
    show Steps pg.tables ee below (T1.setTop (mkF mm 4 #[.val (.ref nm), .val (.int sh), .val (.int lo), .val (.ref bd)] [(.ref b1), (.ref b1)])) _
    refine XS.aloadN X1.here hx rfl (hb hby d5_4) rfl rfl ?_
    show Steps pg.tables ee below (T1.setTop (mkF mm 5 #[.val (.ref nm), .val (.int sh), .val (.int lo), .val (.ref bd)] [(.ref nm), (.ref b1), (.ref b1)])) _
    refine XS.iloadN X1.here hx rfl (hb hby d5_5) rfl ?_
    show Steps pg.tables ee below (T1.setTop (mkF mm 6 #[.val (.ref nm), .val (.int sh), .val (.int lo), .val (.ref bd)] [(.int sh), (.ref nm), (.ref b1), (.ref b1)])) _
    refine XS.iloadN X1.here hx rfl (hb hby d5_6) rfl ?_
    show Steps pg.tables ee below (T1.setTop (mkF mm 7 #[.val (.ref nm), .val (.int sh), .val (.int lo), .val (.ref bd)] [(.int lo), (.int sh), (.ref nm), (.ref b1), (.ref b1)])) _
    refine XS.iconst X1.here hx rfl (hb hby d5_7) ?_
    show Steps pg.tables ee below (T1.setTop (mkF mm 8 #[.val (.ref nm), .val (.int sh), .val (.int lo), .val (.ref bd)] [(.int (0 : Int32)), (.int lo), (.int sh), (.ref nm), (.ref b1), (.ref b1)])) _
    refine XS.aloadN X1.here hx rfl (hb hby d5_8) rfl rfl ?_
    show Steps pg.tables ee below (T1.setTop (mkF mm 9 #[.val (.ref nm), .val (.int sh), .val (.int lo), .val (.ref bd)] [(.ref bd), (.int (0 : Int32)), (.int lo), (.int sh), (.ref nm), (.ref b1), (.ref b1)])) _
    refine st2.trans ?_
    show Steps pg.tables ee below (T2.setTop (mkF mm 12 #[.val (.ref nm), .val (.int sh), .val (.int lo), .val (.ref bd)] [(.ref b1)])) _
    exact retOut X2 hx Bd.returns rfl (Or.inr (Or.inr (Or.inr (Or.inr ⟨rfl, rfl, rfl⟩)))) (hb hby d5_12) hr
  · show QrmTOR Z nm sh lo bd h0 n0 _ T2.heap _
    exact ⟨_, rfl, N2, KK2, Ex2, Fv0_2, Fv1_2, Fv2_2, Fv3_2, Fv4_2⟩
def QrmGR_name (Z : State) (t : Addr) (nm : Addr) (sh : Int32) (lo : Int32) (bd : Addr) (h0 : Heap) (n0 : Nat) (v : Option Value) (h : Heap) (L : List Loc) : Prop := v = some (.ref nm) ∧ Fr n0 L ∧ h = h0
set_option maxRecDepth 65536 in
set_option maxHeartbeats 40000000 in
theorem rmGR_name (l : Launch) (Z : State) (a0 : Array Value) (hw : ∀ d ∈ tables_1, d.before a0 Z = true) (ws : List Jvm.Cond) (t : Addr) (nm : Addr) (sh : Int32) (lo : Int32) (bd : Addr) (h0 : Heap) (n0 : Nat) (O0 : Old Z n0 h0) (Tf0 : Fld Z h0 t "com/example/orders_into_outcomes/ordersintooutcomes/model/TextLimit" "name" "Ljava/lang/String;" (.ref nm)) (Tf1 : Fld Z h0 t "com/example/orders_into_outcomes/ordersintooutcomes/model/TextLimit" "shortest" "I" (.int sh)) (Tf2 : Fld Z h0 t "com/example/orders_into_outcomes/ordersintooutcomes/model/TextLimit" "longest" "I" (.int lo)) (Tf3 : Fld Z h0 t "com/example/orders_into_outcomes/ordersintooutcomes/model/TextLimit" "required" "Z" (.int (0 : Int32))) (Tf4 : Fld Z h0 t "com/example/orders_into_outcomes/ordersintooutcomes/model/TextLimit" "byDefault" "Ljava/lang/String;" (.ref bd)) (Et : Exa Z h0 t "com/example/orders_into_outcomes/ordersintooutcomes/model/TextLimit") :
    MetFree l (⟨"com/example/orders_into_outcomes/ordersintooutcomes/model/TextLimit", "name", "()Ljava/lang/String;"⟩ : MethodName) (head1 (Jvm.Cond.code (⟨"com/example/orders_into_outcomes/ordersintooutcomes/model/TextLimit", "name", "()Ljava/lang/String;"⟩ : MethodName) prog_49_method_4_code 1 (some (.object "java/lang/String")) :: ws) ({ frames := 0, cells := 0, slots := 0, locals := 0 } : Room)) (fun a_ U_ => a_ = #[(.ref t)] ∧ Z.Warmed39 U_.vm ∧ U_.heap = h0) (fun _ _ _ _ _ => True) (fun _ U_ o_ U'_ => ∃ v_ L_, o_ = .returned v_ ∧ QrmGR_name Z t nm sh lo bd h0 n0 v_ U'_.heap L_ ∧ FrameEnd U_ o_ U'_ L_ ({ frames := 0, cells := 0, slots := 0, locals := 0 } : Room).cells ({ frames := 0, cells := 0, slots := 0, locals := 0 } : Room).slots) := by
  refine MetFree.of_bodySF (plainFor_of_name pn_103) hisR ?_
  intro pg ee s mm args below meth cc s₁ Bd hml0 hP hK
  obtain ⟨rfl, hZ, hh⟩ := hP
  have hx := Bd.exec
  have hby := Bd.bytes
  have hml : cc.maxLocals = 1 := hml0
  have hown : s.vm.findClass "com/example/orders_into_outcomes/ordersintooutcomes/model/TextLimit" = some mm.cls := findClass_of_methodNamed Bd.named
  have hnm := (name_of_methodNamed Bd.named Bd.method).1
  have X0 : Stand pg l ee ({ frames := 0, cells := 0, slots := 0, locals := 0 } : Room) s mm #[(.ref t)] below meth cc s₁ [] 0 0 := Stand.of_body Bd
  have e0 : s₁.heap = h0 := by rw [← hh, Bd.state]; rfl
  have N0 := Fr.nil n0
  have K0 : Keep h0 h0 ([] : List Addr) := Keep.refl _ _
  have pre0 : ∀ tg_, Steps pg.tables ee below (s₁.setTop (mkF mm 0 #[.val (.ref t)] [])) tg_ → Steps pg.tables ee below (s₁.setTop (entryFrame mm #[(.ref t)] 1)) tg_ := fun tg_ k_ => castTop (ef_7_119 mm t) k_
  obtain ⟨T1, X1, e1, st1⟩ := getF X0 hx hZ hown (host := "") (Or.inl (hw _ (List.mem_of_getElem? (i := 36) rfl))) Via.refl e0 Tf0 (g := (mkF mm 1 #[.val (.ref t)] [(.ref t)])) rfl rfl (hb hby d7_1)
  obtain ⟨fs, hr, hrun, hended, hW, hsame⟩ := X1.leave (v := some (.ref nm)) (fun h => by rw [Bd.returns] at h; cases h)
  refine ⟨_, _, pre0 _ ?_, hrun, hended, _, _, rfl, ?_, ⟨_, rfl⟩, hW, hsame.mono (by decide) (by decide)⟩
  · show Steps pg.tables ee below (s₁.setTop (mkF mm 0 #[.val (.ref t)] [])) _
    refine XS.aloadN X0.here hx rfl (hb hby d7_0) rfl rfl ?_
    show Steps pg.tables ee below (s₁.setTop (mkF mm 1 #[.val (.ref t)] [(.ref t)])) _
    refine st1 _ ?_
    show Steps pg.tables ee below (T1.setTop (mkF mm 4 #[.val (.ref t)] [(.ref nm)])) _
    exact retOut X1 hx Bd.returns rfl (Or.inr (Or.inr (Or.inr (Or.inr ⟨rfl, rfl, rfl⟩)))) (hb hby d7_4) hr
  · show QrmGR_name Z t nm sh lo bd h0 n0 _ T1.heap _
    rw [e1]
    exact ⟨rfl, N0, rfl⟩
def QrmGR_shortest (Z : State) (t : Addr) (nm : Addr) (sh : Int32) (lo : Int32) (bd : Addr) (h0 : Heap) (n0 : Nat) (v : Option Value) (h : Heap) (L : List Loc) : Prop := v = some (.int sh) ∧ Fr n0 L ∧ h = h0
set_option maxRecDepth 65536 in
set_option maxHeartbeats 40000000 in
theorem rmGR_shortest (l : Launch) (Z : State) (a0 : Array Value) (hw : ∀ d ∈ tables_1, d.before a0 Z = true) (ws : List Jvm.Cond) (t : Addr) (nm : Addr) (sh : Int32) (lo : Int32) (bd : Addr) (h0 : Heap) (n0 : Nat) (O0 : Old Z n0 h0) (Tf0 : Fld Z h0 t "com/example/orders_into_outcomes/ordersintooutcomes/model/TextLimit" "name" "Ljava/lang/String;" (.ref nm)) (Tf1 : Fld Z h0 t "com/example/orders_into_outcomes/ordersintooutcomes/model/TextLimit" "shortest" "I" (.int sh)) (Tf2 : Fld Z h0 t "com/example/orders_into_outcomes/ordersintooutcomes/model/TextLimit" "longest" "I" (.int lo)) (Tf3 : Fld Z h0 t "com/example/orders_into_outcomes/ordersintooutcomes/model/TextLimit" "required" "Z" (.int (0 : Int32))) (Tf4 : Fld Z h0 t "com/example/orders_into_outcomes/ordersintooutcomes/model/TextLimit" "byDefault" "Ljava/lang/String;" (.ref bd)) (Et : Exa Z h0 t "com/example/orders_into_outcomes/ordersintooutcomes/model/TextLimit") :
    MetFree l (⟨"com/example/orders_into_outcomes/ordersintooutcomes/model/TextLimit", "shortest", "()I"⟩ : MethodName) (head1 (Jvm.Cond.code (⟨"com/example/orders_into_outcomes/ordersintooutcomes/model/TextLimit", "shortest", "()I"⟩ : MethodName) prog_49_method_5_code 1 (some .int) :: ws) ({ frames := 0, cells := 0, slots := 0, locals := 0 } : Room)) (fun a_ U_ => a_ = #[(.ref t)] ∧ Z.Warmed39 U_.vm ∧ U_.heap = h0) (fun _ _ _ _ _ => True) (fun _ U_ o_ U'_ => ∃ v_ L_, o_ = .returned v_ ∧ QrmGR_shortest Z t nm sh lo bd h0 n0 v_ U'_.heap L_ ∧ FrameEnd U_ o_ U'_ L_ ({ frames := 0, cells := 0, slots := 0, locals := 0 } : Room).cells ({ frames := 0, cells := 0, slots := 0, locals := 0 } : Room).slots) := by
  refine MetFree.of_bodySF (plainFor_of_name pn_103) hisR ?_
  intro pg ee s mm args below meth cc s₁ Bd hml0 hP hK
  obtain ⟨rfl, hZ, hh⟩ := hP
  have hx := Bd.exec
  have hby := Bd.bytes
  have hml : cc.maxLocals = 1 := hml0
  have hown : s.vm.findClass "com/example/orders_into_outcomes/ordersintooutcomes/model/TextLimit" = some mm.cls := findClass_of_methodNamed Bd.named
  have hnm := (name_of_methodNamed Bd.named Bd.method).1
  have X0 : Stand pg l ee ({ frames := 0, cells := 0, slots := 0, locals := 0 } : Room) s mm #[(.ref t)] below meth cc s₁ [] 0 0 := Stand.of_body Bd
  have e0 : s₁.heap = h0 := by rw [← hh, Bd.state]; rfl
  have N0 := Fr.nil n0
  have K0 : Keep h0 h0 ([] : List Addr) := Keep.refl _ _
  have pre0 : ∀ tg_, Steps pg.tables ee below (s₁.setTop (mkF mm 0 #[.val (.ref t)] [])) tg_ → Steps pg.tables ee below (s₁.setTop (entryFrame mm #[(.ref t)] 1)) tg_ := fun tg_ k_ => castTop (ef_9_123 mm t) k_
  obtain ⟨T1, X1, e1, st1⟩ := getF X0 hx hZ hown (host := "") (Or.inl (hw _ (List.mem_of_getElem? (i := 38) rfl))) Via.refl e0 Tf1 (g := (mkF mm 1 #[.val (.ref t)] [(.ref t)])) rfl rfl (hb hby d9_1)
  obtain ⟨fs, hr, hrun, hended, hW, hsame⟩ := X1.leave (v := some (.int sh)) (fun h => by rw [Bd.returns] at h; cases h)
  refine ⟨_, _, pre0 _ ?_, hrun, hended, _, _, rfl, ?_, ⟨_, rfl⟩, hW, hsame.mono (by decide) (by decide)⟩
  · show Steps pg.tables ee below (s₁.setTop (mkF mm 0 #[.val (.ref t)] [])) _
    refine XS.aloadN X0.here hx rfl (hb hby d9_0) rfl rfl ?_
    show Steps pg.tables ee below (s₁.setTop (mkF mm 1 #[.val (.ref t)] [(.ref t)])) _
    refine st1 _ ?_
    show Steps pg.tables ee below (T1.setTop (mkF mm 4 #[.val (.ref t)] [(.int sh)])) _
    exact retOut X1 hx Bd.returns rfl (Or.inl ⟨rfl, Or.inl rfl, _, rfl⟩) (hb hby d9_4) hr
  · show QrmGR_shortest Z t nm sh lo bd h0 n0 _ T1.heap _
    rw [e1]
    exact ⟨rfl, N0, rfl⟩
def QrmGR_longest (Z : State) (t : Addr) (nm : Addr) (sh : Int32) (lo : Int32) (bd : Addr) (h0 : Heap) (n0 : Nat) (v : Option Value) (h : Heap) (L : List Loc) : Prop := v = some (.int lo) ∧ Fr n0 L ∧ h = h0
set_option maxRecDepth 65536 in
set_option maxHeartbeats 40000000 in
theorem rmGR_longest (l : Launch) (Z : State) (a0 : Array Value) (hw : ∀ d ∈ tables_1, d.before a0 Z = true) (ws : List Jvm.Cond) (t : Addr) (nm : Addr) (sh : Int32) (lo : Int32) (bd : Addr) (h0 : Heap) (n0 : Nat) (O0 : Old Z n0 h0) (Tf0 : Fld Z h0 t "com/example/orders_into_outcomes/ordersintooutcomes/model/TextLimit" "name" "Ljava/lang/String;" (.ref nm)) (Tf1 : Fld Z h0 t "com/example/orders_into_outcomes/ordersintooutcomes/model/TextLimit" "shortest" "I" (.int sh)) (Tf2 : Fld Z h0 t "com/example/orders_into_outcomes/ordersintooutcomes/model/TextLimit" "longest" "I" (.int lo)) (Tf3 : Fld Z h0 t "com/example/orders_into_outcomes/ordersintooutcomes/model/TextLimit" "required" "Z" (.int (0 : Int32))) (Tf4 : Fld Z h0 t "com/example/orders_into_outcomes/ordersintooutcomes/model/TextLimit" "byDefault" "Ljava/lang/String;" (.ref bd)) (Et : Exa Z h0 t "com/example/orders_into_outcomes/ordersintooutcomes/model/TextLimit") :
    MetFree l (⟨"com/example/orders_into_outcomes/ordersintooutcomes/model/TextLimit", "longest", "()I"⟩ : MethodName) (head1 (Jvm.Cond.code (⟨"com/example/orders_into_outcomes/ordersintooutcomes/model/TextLimit", "longest", "()I"⟩ : MethodName) prog_49_method_6_code 1 (some .int) :: ws) ({ frames := 0, cells := 0, slots := 0, locals := 0 } : Room)) (fun a_ U_ => a_ = #[(.ref t)] ∧ Z.Warmed39 U_.vm ∧ U_.heap = h0) (fun _ _ _ _ _ => True) (fun _ U_ o_ U'_ => ∃ v_ L_, o_ = .returned v_ ∧ QrmGR_longest Z t nm sh lo bd h0 n0 v_ U'_.heap L_ ∧ FrameEnd U_ o_ U'_ L_ ({ frames := 0, cells := 0, slots := 0, locals := 0 } : Room).cells ({ frames := 0, cells := 0, slots := 0, locals := 0 } : Room).slots) := by
  refine MetFree.of_bodySF (plainFor_of_name pn_103) hisR ?_
  intro pg ee s mm args below meth cc s₁ Bd hml0 hP hK
  obtain ⟨rfl, hZ, hh⟩ := hP
  have hx := Bd.exec
  have hby := Bd.bytes
  have hml : cc.maxLocals = 1 := hml0
  have hown : s.vm.findClass "com/example/orders_into_outcomes/ordersintooutcomes/model/TextLimit" = some mm.cls := findClass_of_methodNamed Bd.named
  have hnm := (name_of_methodNamed Bd.named Bd.method).1
  have X0 : Stand pg l ee ({ frames := 0, cells := 0, slots := 0, locals := 0 } : Room) s mm #[(.ref t)] below meth cc s₁ [] 0 0 := Stand.of_body Bd
  have e0 : s₁.heap = h0 := by rw [← hh, Bd.state]; rfl
  have N0 := Fr.nil n0
  have K0 : Keep h0 h0 ([] : List Addr) := Keep.refl _ _
  have pre0 : ∀ tg_, Steps pg.tables ee below (s₁.setTop (mkF mm 0 #[.val (.ref t)] [])) tg_ → Steps pg.tables ee below (s₁.setTop (entryFrame mm #[(.ref t)] 1)) tg_ := fun tg_ k_ => castTop (ef_10_127 mm t) k_
  obtain ⟨T1, X1, e1, st1⟩ := getF X0 hx hZ hown (host := "") (Or.inl (hw _ (List.mem_of_getElem? (i := 40) rfl))) Via.refl e0 Tf2 (g := (mkF mm 1 #[.val (.ref t)] [(.ref t)])) rfl rfl (hb hby d10_1)
  obtain ⟨fs, hr, hrun, hended, hW, hsame⟩ := X1.leave (v := some (.int lo)) (fun h => by rw [Bd.returns] at h; cases h)
  refine ⟨_, _, pre0 _ ?_, hrun, hended, _, _, rfl, ?_, ⟨_, rfl⟩, hW, hsame.mono (by decide) (by decide)⟩
  · show Steps pg.tables ee below (s₁.setTop (mkF mm 0 #[.val (.ref t)] [])) _
    refine XS.aloadN X0.here hx rfl (hb hby d10_0) rfl rfl ?_
    show Steps pg.tables ee below (s₁.setTop (mkF mm 1 #[.val (.ref t)] [(.ref t)])) _
    refine st1 _ ?_
    show Steps pg.tables ee below (T1.setTop (mkF mm 4 #[.val (.ref t)] [(.int lo)])) _
    exact retOut X1 hx Bd.returns rfl (Or.inl ⟨rfl, Or.inl rfl, _, rfl⟩) (hb hby d10_4) hr
  · show QrmGR_longest Z t nm sh lo bd h0 n0 _ T1.heap _
    rw [e1]
    exact ⟨rfl, N0, rfl⟩
def QrmGR_isRequired (Z : State) (t : Addr) (nm : Addr) (sh : Int32) (lo : Int32) (bd : Addr) (h0 : Heap) (n0 : Nat) (v : Option Value) (h : Heap) (L : List Loc) : Prop := v = some (.int (0 : Int32)) ∧ Fr n0 L ∧ h = h0
set_option maxRecDepth 65536 in
set_option maxHeartbeats 40000000 in
theorem rmGR_isRequired (l : Launch) (Z : State) (a0 : Array Value) (hw : ∀ d ∈ tables_1, d.before a0 Z = true) (ws : List Jvm.Cond) (t : Addr) (nm : Addr) (sh : Int32) (lo : Int32) (bd : Addr) (h0 : Heap) (n0 : Nat) (O0 : Old Z n0 h0) (Tf0 : Fld Z h0 t "com/example/orders_into_outcomes/ordersintooutcomes/model/TextLimit" "name" "Ljava/lang/String;" (.ref nm)) (Tf1 : Fld Z h0 t "com/example/orders_into_outcomes/ordersintooutcomes/model/TextLimit" "shortest" "I" (.int sh)) (Tf2 : Fld Z h0 t "com/example/orders_into_outcomes/ordersintooutcomes/model/TextLimit" "longest" "I" (.int lo)) (Tf3 : Fld Z h0 t "com/example/orders_into_outcomes/ordersintooutcomes/model/TextLimit" "required" "Z" (.int (0 : Int32))) (Tf4 : Fld Z h0 t "com/example/orders_into_outcomes/ordersintooutcomes/model/TextLimit" "byDefault" "Ljava/lang/String;" (.ref bd)) (Et : Exa Z h0 t "com/example/orders_into_outcomes/ordersintooutcomes/model/TextLimit") :
    MetFree l (⟨"com/example/orders_into_outcomes/ordersintooutcomes/model/TextLimit", "isRequired", "()Z"⟩ : MethodName) (head1 (Jvm.Cond.code (⟨"com/example/orders_into_outcomes/ordersintooutcomes/model/TextLimit", "isRequired", "()Z"⟩ : MethodName) prog_49_method_7_code 1 (some .boolean) :: ws) ({ frames := 0, cells := 0, slots := 0, locals := 0 } : Room)) (fun a_ U_ => a_ = #[(.ref t)] ∧ Z.Warmed39 U_.vm ∧ U_.heap = h0) (fun _ _ _ _ _ => True) (fun _ U_ o_ U'_ => ∃ v_ L_, o_ = .returned v_ ∧ QrmGR_isRequired Z t nm sh lo bd h0 n0 v_ U'_.heap L_ ∧ FrameEnd U_ o_ U'_ L_ ({ frames := 0, cells := 0, slots := 0, locals := 0 } : Room).cells ({ frames := 0, cells := 0, slots := 0, locals := 0 } : Room).slots) := by
  refine MetFree.of_bodySF (plainFor_of_name pn_103) hisR ?_
  intro pg ee s mm args below meth cc s₁ Bd hml0 hP hK
  obtain ⟨rfl, hZ, hh⟩ := hP
  have hx := Bd.exec
  have hby := Bd.bytes
  have hml : cc.maxLocals = 1 := hml0
  have hown : s.vm.findClass "com/example/orders_into_outcomes/ordersintooutcomes/model/TextLimit" = some mm.cls := findClass_of_methodNamed Bd.named
  have hnm := (name_of_methodNamed Bd.named Bd.method).1
  have X0 : Stand pg l ee ({ frames := 0, cells := 0, slots := 0, locals := 0 } : Room) s mm #[(.ref t)] below meth cc s₁ [] 0 0 := Stand.of_body Bd
  have e0 : s₁.heap = h0 := by rw [← hh, Bd.state]; rfl
  have N0 := Fr.nil n0
  have K0 : Keep h0 h0 ([] : List Addr) := Keep.refl _ _
  have pre0 : ∀ tg_, Steps pg.tables ee below (s₁.setTop (mkF mm 0 #[.val (.ref t)] [])) tg_ → Steps pg.tables ee below (s₁.setTop (entryFrame mm #[(.ref t)] 1)) tg_ := fun tg_ k_ => castTop (ef_11_131 mm t) k_
  obtain ⟨T1, X1, e1, st1⟩ := getF X0 hx hZ hown (host := "") (Or.inl (hw _ (List.mem_of_getElem? (i := 42) rfl))) Via.refl e0 Tf3 (g := (mkF mm 1 #[.val (.ref t)] [(.ref t)])) rfl rfl (hb hby d11_1)
  obtain ⟨fs, hr, hrun, hended, hW, hsame⟩ := X1.leave (v := some (.int (0 : Int32))) (fun h => by rw [Bd.returns] at h; cases h)
  refine ⟨_, _, pre0 _ ?_, hrun, hended, _, _, rfl, ?_, ⟨_, rfl⟩, hW, hsame.mono (by decide) (by decide)⟩
  · show Steps pg.tables ee below (s₁.setTop (mkF mm 0 #[.val (.ref t)] [])) _
    refine XS.aloadN X0.here hx rfl (hb hby d11_0) rfl rfl ?_
    show Steps pg.tables ee below (s₁.setTop (mkF mm 1 #[.val (.ref t)] [(.ref t)])) _
    refine st1 _ ?_
    show Steps pg.tables ee below (T1.setTop (mkF mm 4 #[.val (.ref t)] [(.int (0 : Int32))])) _
    exact retN X1 hx (t := .boolean) Bd.returns (by simp) (hb hby d11_4) hr
  · show QrmGR_isRequired Z t nm sh lo bd h0 n0 _ T1.heap _
    rw [e1]
    exact ⟨rfl, N0, rfl⟩
def QrmGR_byDefault (Z : State) (t : Addr) (nm : Addr) (sh : Int32) (lo : Int32) (bd : Addr) (h0 : Heap) (n0 : Nat) (v : Option Value) (h : Heap) (L : List Loc) : Prop := v = some (.ref bd) ∧ Fr n0 L ∧ h = h0
set_option maxRecDepth 65536 in
set_option maxHeartbeats 40000000 in
theorem rmGR_byDefault (l : Launch) (Z : State) (a0 : Array Value) (hw : ∀ d ∈ tables_1, d.before a0 Z = true) (ws : List Jvm.Cond) (t : Addr) (nm : Addr) (sh : Int32) (lo : Int32) (bd : Addr) (h0 : Heap) (n0 : Nat) (O0 : Old Z n0 h0) (Tf0 : Fld Z h0 t "com/example/orders_into_outcomes/ordersintooutcomes/model/TextLimit" "name" "Ljava/lang/String;" (.ref nm)) (Tf1 : Fld Z h0 t "com/example/orders_into_outcomes/ordersintooutcomes/model/TextLimit" "shortest" "I" (.int sh)) (Tf2 : Fld Z h0 t "com/example/orders_into_outcomes/ordersintooutcomes/model/TextLimit" "longest" "I" (.int lo)) (Tf3 : Fld Z h0 t "com/example/orders_into_outcomes/ordersintooutcomes/model/TextLimit" "required" "Z" (.int (0 : Int32))) (Tf4 : Fld Z h0 t "com/example/orders_into_outcomes/ordersintooutcomes/model/TextLimit" "byDefault" "Ljava/lang/String;" (.ref bd)) (Et : Exa Z h0 t "com/example/orders_into_outcomes/ordersintooutcomes/model/TextLimit") :
    MetFree l (⟨"com/example/orders_into_outcomes/ordersintooutcomes/model/TextLimit", "byDefault", "()Ljava/lang/String;"⟩ : MethodName) (head1 (Jvm.Cond.code (⟨"com/example/orders_into_outcomes/ordersintooutcomes/model/TextLimit", "byDefault", "()Ljava/lang/String;"⟩ : MethodName) prog_49_method_8_code 1 (some (.object "java/lang/String")) :: ws) ({ frames := 0, cells := 0, slots := 0, locals := 0 } : Room)) (fun a_ U_ => a_ = #[(.ref t)] ∧ Z.Warmed39 U_.vm ∧ U_.heap = h0) (fun _ _ _ _ _ => True) (fun _ U_ o_ U'_ => ∃ v_ L_, o_ = .returned v_ ∧ QrmGR_byDefault Z t nm sh lo bd h0 n0 v_ U'_.heap L_ ∧ FrameEnd U_ o_ U'_ L_ ({ frames := 0, cells := 0, slots := 0, locals := 0 } : Room).cells ({ frames := 0, cells := 0, slots := 0, locals := 0 } : Room).slots) := by
  refine MetFree.of_bodySF (plainFor_of_name pn_103) hisR ?_
  intro pg ee s mm args below meth cc s₁ Bd hml0 hP hK
  obtain ⟨rfl, hZ, hh⟩ := hP
  have hx := Bd.exec
  have hby := Bd.bytes
  have hml : cc.maxLocals = 1 := hml0
  have hown : s.vm.findClass "com/example/orders_into_outcomes/ordersintooutcomes/model/TextLimit" = some mm.cls := findClass_of_methodNamed Bd.named
  have hnm := (name_of_methodNamed Bd.named Bd.method).1
  have X0 : Stand pg l ee ({ frames := 0, cells := 0, slots := 0, locals := 0 } : Room) s mm #[(.ref t)] below meth cc s₁ [] 0 0 := Stand.of_body Bd
  have e0 : s₁.heap = h0 := by rw [← hh, Bd.state]; rfl
  have N0 := Fr.nil n0
  have K0 : Keep h0 h0 ([] : List Addr) := Keep.refl _ _
  have pre0 : ∀ tg_, Steps pg.tables ee below (s₁.setTop (mkF mm 0 #[.val (.ref t)] [])) tg_ → Steps pg.tables ee below (s₁.setTop (entryFrame mm #[(.ref t)] 1)) tg_ := fun tg_ k_ => castTop (ef_12_135 mm t) k_
  obtain ⟨T1, X1, e1, st1⟩ := getF X0 hx hZ hown (host := "") (Or.inl (hw _ (List.mem_of_getElem? (i := 44) rfl))) Via.refl e0 Tf4 (g := (mkF mm 1 #[.val (.ref t)] [(.ref t)])) rfl rfl (hb hby d12_1)
  obtain ⟨fs, hr, hrun, hended, hW, hsame⟩ := X1.leave (v := some (.ref bd)) (fun h => by rw [Bd.returns] at h; cases h)
  refine ⟨_, _, pre0 _ ?_, hrun, hended, _, _, rfl, ?_, ⟨_, rfl⟩, hW, hsame.mono (by decide) (by decide)⟩
  · show Steps pg.tables ee below (s₁.setTop (mkF mm 0 #[.val (.ref t)] [])) _
    refine XS.aloadN X0.here hx rfl (hb hby d12_0) rfl rfl ?_
    show Steps pg.tables ee below (s₁.setTop (mkF mm 1 #[.val (.ref t)] [(.ref t)])) _
    refine st1 _ ?_
    show Steps pg.tables ee below (T1.setTop (mkF mm 4 #[.val (.ref t)] [(.ref bd)])) _
    exact retOut X1 hx Bd.returns rfl (Or.inr (Or.inr (Or.inr (Or.inr ⟨rfl, rfl, rfl⟩)))) (hb hby d12_4) hr
  · show QrmGR_byDefault Z t nm sh lo bd h0 n0 _ T1.heap _
    rw [e1]
    exact ⟨rfl, N0, rfl⟩
def QrmK2nR (Z : State) (t : Addr) (nm : Addr) (sh : Int32) (lo : Int32) (bd : Addr) (h0 : Heap) (n0 : Nat) (v : Option Value) (h : Heap) (L : List Loc) : Prop := v = some (.ref bd) ∧ Fr n0 L ∧ h = h0
set_option maxRecDepth 65536 in
set_option maxHeartbeats 40000000 in
theorem rmK2nR (l : Launch) (Z : State) (a0 : Array Value) (hw : ∀ d ∈ tables_1, d.before a0 Z = true) (ws : List Jvm.Cond) (t : Addr) (nm : Addr) (sh : Int32) (lo : Int32) (bd : Addr) (h0 : Heap) (n0 : Nat) (O0 : Old Z n0 h0) (Tf0 : Fld Z h0 t "com/example/orders_into_outcomes/ordersintooutcomes/model/TextLimit" "name" "Ljava/lang/String;" (.ref nm)) (Tf1 : Fld Z h0 t "com/example/orders_into_outcomes/ordersintooutcomes/model/TextLimit" "shortest" "I" (.int sh)) (Tf2 : Fld Z h0 t "com/example/orders_into_outcomes/ordersintooutcomes/model/TextLimit" "longest" "I" (.int lo)) (Tf3 : Fld Z h0 t "com/example/orders_into_outcomes/ordersintooutcomes/model/TextLimit" "required" "Z" (.int (0 : Int32))) (Tf4 : Fld Z h0 t "com/example/orders_into_outcomes/ordersintooutcomes/model/TextLimit" "byDefault" "Ljava/lang/String;" (.ref bd)) (Et : Exa Z h0 t "com/example/orders_into_outcomes/ordersintooutcomes/model/TextLimit") :
    MetFree l (⟨"com/example/orders_into_outcomes/ordersintooutcomes/model/TextLimit", "check", "(Ljava/lang/String;Ljava/lang/String;)Ljava/lang/String;"⟩ : MethodName) (head1 (Jvm.Cond.code (⟨"com/example/orders_into_outcomes/ordersintooutcomes/model/TextLimit", "check", "(Ljava/lang/String;Ljava/lang/String;)Ljava/lang/String;"⟩ : MethodName) prog_49_method_10_code 4 (some (.object "java/lang/String")) :: ws) ({ frames := 0, cells := 0, slots := 0, locals := 0 } : Room)) (fun a_ U_ => a_ = #[(.ref t), (.ref nm), .null] ∧ Z.Warmed39 U_.vm ∧ U_.heap = h0) (fun _ _ _ _ _ => True) (fun _ U_ o_ U'_ => ∃ v_ L_, o_ = .returned v_ ∧ QrmK2nR Z t nm sh lo bd h0 n0 v_ U'_.heap L_ ∧ FrameEnd U_ o_ U'_ L_ ({ frames := 0, cells := 0, slots := 0, locals := 0 } : Room).cells ({ frames := 0, cells := 0, slots := 0, locals := 0 } : Room).slots) := by
  refine MetFree.of_bodySF (plainFor_of_name pn_103) hisR ?_
  intro pg ee s mm args below meth cc s₁ Bd hml0 hP hK
  obtain ⟨rfl, hZ, hh⟩ := hP
  have hx := Bd.exec
  have hby := Bd.bytes
  have hml : cc.maxLocals = 4 := hml0
  have hown : s.vm.findClass "com/example/orders_into_outcomes/ordersintooutcomes/model/TextLimit" = some mm.cls := findClass_of_methodNamed Bd.named
  have hnm := (name_of_methodNamed Bd.named Bd.method).1
  have X0 : Stand pg l ee ({ frames := 0, cells := 0, slots := 0, locals := 0 } : Room) s mm #[(.ref t), (.ref nm), .null] below meth cc s₁ [] 0 0 := Stand.of_body Bd
  have e0 : s₁.heap = h0 := by rw [← hh, Bd.state]; rfl
  have N0 := Fr.nil n0
  have K0 : Keep h0 h0 ([] : List Addr) := Keep.refl _ _
  have pre0 : ∀ tg_, Steps pg.tables ee below (s₁.setTop (mkF mm 0 #[.val (.ref t), .val (.ref nm), .val .null, .unset] [])) tg_ → Steps pg.tables ee below (s₁.setTop (entryFrame mm #[(.ref t), (.ref nm), .null] 4)) tg_ := fun tg_ k_ => castTop (ef_15_154 mm t nm) k_
  obtain ⟨T1, X1, e1, st1⟩ := getF X0 hx hZ hown (host := "") (Or.inl (hw _ (List.mem_of_getElem? (i := 42) rfl))) Via.refl e0 Tf3 (g := (mkF mm 5 #[.val (.ref t), .val (.ref nm), .val .null, .unset] [(.ref t)])) rfl rfl (hb hby d15_5)
  obtain ⟨T2, X2, e2, st2⟩ := getF X1 hx hZ hown (host := "") (Or.inl (hw _ (List.mem_of_getElem? (i := 44) rfl))) Via.refl e1 Tf4 (g := (mkF mm 83 #[.val (.ref t), .val (.ref nm), .val .null, .val (.int (0 : Int32))] [(.ref t)])) rfl rfl (hb hby d15_83)
  obtain ⟨fs, hr, hrun, hended, hW, hsame⟩ := X2.leave (v := some (.ref bd)) (fun h => by rw [Bd.returns] at h; cases h)
  refine ⟨_, _, pre0 _ ?_, hrun, hended, _, _, rfl, ?_, ⟨_, rfl⟩, hW, hsame.mono (by decide) (by decide)⟩
  · show Steps pg.tables ee below (s₁.setTop (mkF mm 0 #[.val (.ref t), .val (.ref nm), .val .null, .unset] [])) _
    refine XS.aloadN X0.here hx rfl (hb hby d15_0) rfl rfl ?_
    show Steps pg.tables ee below (s₁.setTop (mkF mm 1 #[.val (.ref t), .val (.ref nm), .val .null, .unset] [.null])) _
    refine XS.ifnonnullNo X0.here hx rfl (hb hby d15_1) rfl ?_
    show Steps pg.tables ee below (s₁.setTop (mkF mm 4 #[.val (.ref t), .val (.ref nm), .val .null, .unset] [])) _
    refine XS.aloadN X0.here hx rfl (hb hby d15_4) rfl rfl ?_
    show Steps pg.tables ee below (s₁.setTop (mkF mm 5 #[.val (.ref t), .val (.ref nm), .val .null, .unset] [(.ref t)])) _
    refine st1 _ ?_
    show Steps pg.tables ee below (T1.setTop (mkF mm 8 #[.val (.ref t), .val (.ref nm), .val .null, .unset] [(.int (0 : Int32))])) _
    refine XS.ifYes X1.here hx rfl (pc0 := 8) (pc' := 21) rfl (hb hby d15_8) rfl ((if0 _ _).trans (teq (by decide : (0 : Int32) = (0 : Int32))).1) (by decide) (by decide) ?_
    show Steps pg.tables ee below (T1.setTop (mkF mm 21 #[.val (.ref t), .val (.ref nm), .val .null, .unset] [])) _
    refine XS.aloadN X1.here hx rfl (hb hby d15_21) rfl rfl ?_
    show Steps pg.tables ee below (T1.setTop (mkF mm 22 #[.val (.ref t), .val (.ref nm), .val .null, .unset] [.null])) _
    refine XS.ifnonnullNo X1.here hx rfl (hb hby d15_22) rfl ?_
    show Steps pg.tables ee below (T1.setTop (mkF mm 25 #[.val (.ref t), .val (.ref nm), .val .null, .unset] [])) _
    refine XS.iconst X1.here hx rfl (hb hby d15_25) ?_
    show Steps pg.tables ee below (T1.setTop (mkF mm 26 #[.val (.ref t), .val (.ref nm), .val .null, .unset] [(.int (0 : Int32))])) _
    refine XS.goto X1.here hx rfl (pc0 := 26) (pc' := 38) rfl (hb hby d15_26) (by decide) (by decide) ?_
    show Steps pg.tables ee below (T1.setTop (mkF mm 38 #[.val (.ref t), .val (.ref nm), .val .null, .unset] [(.int (0 : Int32))])) _
    refine XS.istoreN X1.here hx rfl (hb hby d15_38) rfl (l' := #[.val (.ref t), .val (.ref nm), .val .null, .val (.int (0 : Int32))]) rfl ?_
    show Steps pg.tables ee below (T1.setTop (mkF mm 39 #[.val (.ref t), .val (.ref nm), .val .null, .val (.int (0 : Int32))] [])) _
    refine XS.aloadN X1.here hx rfl (hb hby d15_39) rfl rfl ?_
    show Steps pg.tables ee below (T1.setTop (mkF mm 40 #[.val (.ref t), .val (.ref nm), .val .null, .val (.int (0 : Int32))] [.null])) _
    refine XS.ifnullYes X1.here hx rfl (pc0 := 40) (pc' := 78) rfl (hb hby d15_40) rfl (by decide) (by decide) ?_
    show Steps pg.tables ee below (T1.setTop (mkF mm 78 #[.val (.ref t), .val (.ref nm), .val .null, .val (.int (0 : Int32))] [])) _
    refine XS.aloadN X1.here hx rfl (hb hby d15_78) rfl rfl ?_
    show Steps pg.tables ee below (T1.setTop (mkF mm 79 #[.val (.ref t), .val (.ref nm), .val .null, .val (.int (0 : Int32))] [.null])) _
    refine XS.ifnonnullNo X1.here hx rfl (hb hby d15_79) rfl ?_
    show Steps pg.tables ee below (T1.setTop (mkF mm 82 #[.val (.ref t), .val (.ref nm), .val .null, .val (.int (0 : Int32))] [])) _
    refine XS.aloadN X1.here hx rfl (hb hby d15_82) rfl rfl ?_
    show Steps pg.tables ee below (T1.setTop (mkF mm 83 #[.val (.ref t), .val (.ref nm), .val .null, .val (.int (0 : Int32))] [(.ref t)])) _
    refine st2 _ ?_
    show Steps pg.tables ee below (T2.setTop (mkF mm 86 #[.val (.ref t), .val (.ref nm), .val .null, .val (.int (0 : Int32))] [(.ref bd)])) _
    refine XS.goto X2.here hx rfl (pc0 := 86) (pc' := 90) rfl (hb hby d15_86) (by decide) (by decide) ?_
    show Steps pg.tables ee below (T2.setTop (mkF mm 90 #[.val (.ref t), .val (.ref nm), .val .null, .val (.int (0 : Int32))] [(.ref bd)])) _
    exact retOut X2 hx Bd.returns rfl (Or.inr (Or.inr (Or.inr (Or.inr ⟨rfl, rfl, rfl⟩)))) (hb hby d15_90) hr
  · show QrmK2nR Z t nm sh lo bd h0 n0 _ T2.heap _
    rw [e2]
    exact ⟨rfl, N0, rfl⟩
def QrmK1nR (Z : State) (t : Addr) (nm : Addr) (sh : Int32) (lo : Int32) (bd : Addr) (h0 : Heap) (n0 : Nat) (v : Option Value) (h : Heap) (L : List Loc) : Prop := v = some (.ref bd) ∧ Fr n0 L ∧ h = h0
set_option maxRecDepth 65536 in
set_option maxHeartbeats 40000000 in
theorem rmK1nR (l : Launch) (Z : State) (a0 : Array Value) (hw : ∀ d ∈ tables_1, d.before a0 Z = true) (ws : List Jvm.Cond) (t : Addr) (nm : Addr) (sh : Int32) (lo : Int32) (bd : Addr) (h0 : Heap) (n0 : Nat) (O0 : Old Z n0 h0) (Tf0 : Fld Z h0 t "com/example/orders_into_outcomes/ordersintooutcomes/model/TextLimit" "name" "Ljava/lang/String;" (.ref nm)) (Tf1 : Fld Z h0 t "com/example/orders_into_outcomes/ordersintooutcomes/model/TextLimit" "shortest" "I" (.int sh)) (Tf2 : Fld Z h0 t "com/example/orders_into_outcomes/ordersintooutcomes/model/TextLimit" "longest" "I" (.int lo)) (Tf3 : Fld Z h0 t "com/example/orders_into_outcomes/ordersintooutcomes/model/TextLimit" "required" "Z" (.int (0 : Int32))) (Tf4 : Fld Z h0 t "com/example/orders_into_outcomes/ordersintooutcomes/model/TextLimit" "byDefault" "Ljava/lang/String;" (.ref bd)) (Et : Exa Z h0 t "com/example/orders_into_outcomes/ordersintooutcomes/model/TextLimit") :
    MetFree l (⟨"com/example/orders_into_outcomes/ordersintooutcomes/model/TextLimit", "check", "(Ljava/lang/String;)Ljava/lang/String;"⟩ : MethodName) (head1 (Jvm.Cond.code (⟨"com/example/orders_into_outcomes/ordersintooutcomes/model/TextLimit", "check", "(Ljava/lang/String;)Ljava/lang/String;"⟩ : MethodName) prog_49_method_9_code 2 (some (.object "java/lang/String")) :: ws) ({ frames := 1, cells := 0, slots := 0, locals := 15 } : Room)) (fun a_ U_ => a_ = #[(.ref t), .null] ∧ Z.Warmed39 U_.vm ∧ U_.heap = h0) (fun _ _ _ _ _ => True) (fun _ U_ o_ U'_ => ∃ v_ L_, o_ = .returned v_ ∧ QrmK1nR Z t nm sh lo bd h0 n0 v_ U'_.heap L_ ∧ FrameEnd U_ o_ U'_ L_ ({ frames := 1, cells := 0, slots := 0, locals := 15 } : Room).cells ({ frames := 1, cells := 0, slots := 0, locals := 15 } : Room).slots) := by
  refine MetFree.of_bodySF (plainFor_of_name pn_103) hisR ?_
  intro pg ee s mm args below meth cc s₁ Bd hml0 hP hK
  obtain ⟨rfl, hZ, hh⟩ := hP
  have hx := Bd.exec
  have hby := Bd.bytes
  have hml : cc.maxLocals = 2 := hml0
  have hown : s.vm.findClass "com/example/orders_into_outcomes/ordersintooutcomes/model/TextLimit" = some mm.cls := findClass_of_methodNamed Bd.named
  have hnm := (name_of_methodNamed Bd.named Bd.method).1
  have X0 : Stand pg l ee ({ frames := 1, cells := 0, slots := 0, locals := 15 } : Room) s mm #[(.ref t), .null] below meth cc s₁ [] 0 0 := Stand.of_body Bd
  have e0 : s₁.heap = h0 := by rw [← hh, Bd.state]; rfl
  have N0 := Fr.nil n0
  have K0 : Keep h0 h0 ([] : List Addr) := Keep.refl _ _
  have pre0 : ∀ tg_, Steps pg.tables ee below (s₁.setTop (mkF mm 0 #[.val (.ref t), .val .null] [])) tg_ → Steps pg.tables ee below (s₁.setTop (entryFrame mm #[(.ref t), .null] 2)) tg_ := fun tg_ k_ => castTop (ef_14_162 mm t) k_
  obtain ⟨T1, X1, e1, st1⟩ := getF X0 hx hZ hown (host := "") (Or.inl (hw _ (List.mem_of_getElem? (i := 36) rfl))) Via.refl e0 Tf0 (g := (mkF mm 2 #[.val (.ref t), .val .null] [(.ref t), (.ref t)])) rfl rfl (hb hby d14_2)
  obtain ⟨cq2, kq2, q2a, q2b, q2c⟩ := isOf hZ e1 Et
  obtain ⟨_, _, ⟨T2, L2, k2, n2⟩, -, X2, ⟨Lc2, hQ2, l2, y2, z2⟩, st2⟩ := X1.virtualBack hx (y := (⟨"com/example/orders_into_outcomes/ordersintooutcomes/model/TextLimit", "check", "(Ljava/lang/String;Ljava/lang/String;)Ljava/lang/String;"⟩ : MethodName)) (z := (⟨"com/example/orders_into_outcomes/ordersintooutcomes/model/TextLimit", "check", "(Ljava/lang/String;Ljava/lang/String;)Ljava/lang/String;"⟩ : MethodName)) hown (mvT hZ (hw _ (List.mem_of_getElem? (i := 84) rfl))) (mvT hZ (hw _ (List.mem_of_getElem? (i := 85) rfl))) (notFace_of_selects (args := #[]) (mvT hZ (hw _ (List.mem_of_getElem? (i := 87) rfl)))) (mvT hZ (hw _ (List.mem_of_getElem? (i := 87) rfl))) (mvT hZ (hw _ (List.mem_of_getElem? (i := 86) rfl))) (by decide) (backOf (W := 0) (rmK2nR l Z a0 hw [] t nm sh lo bd h0 n0 O0 Tf0 Tf1 Tf2 Tf3 Tf4 Et) hZ (hw _ (List.mem_of_getElem? (i := 88) rfl)) (hw _ (List.mem_of_getElem? (i := 28) rfl)) (by decide) (by decide)) q2a q2c (g := (mkF mm 6 #[.val (.ref t), .val .null] [.null, (.ref nm), (.ref t)])) rfl (by rw [hml]; rfl) (Steps.refl _) (argsL := [(.ref nm), .null]) (rest := []) (lenOf pd_160 rfl) rfl (by show 2 * 0 + _ ≤ _; exact Nat.le_of_eq rfl) (hb hby d14_6) (fun _ _ => ⟨rfl, e1, (by decide : 0 + 0 ≤ _), (by decide : 0 + 0 ≤ _)⟩)
  dsimp only [Pt.U, Pt.locs, Pt.cells, Pt.slots] at X2 l2 y2 z2 st2 hQ2
  subst l2 y2 z2
  obtain ⟨rfl, N2q, e2⟩ := hQ2
  have N2 := Fr.app N0 N2q
  obtain ⟨fs, hr, hrun, hended, hW, hsame⟩ := X2.leave (v := some (.ref bd)) (fun h => by rw [Bd.returns] at h; cases h)
  refine ⟨_, _, pre0 _ ?_, hrun, hended, _, _, rfl, ?_, ⟨_, rfl⟩, hW, hsame.mono (by decide) (by decide)⟩
  · show Steps pg.tables ee below (s₁.setTop (mkF mm 0 #[.val (.ref t), .val .null] [])) _
    refine XS.aloadN X0.here hx rfl (hb hby d14_0) rfl rfl ?_
    show Steps pg.tables ee below (s₁.setTop (mkF mm 1 #[.val (.ref t), .val .null] [(.ref t)])) _
    refine XS.aloadN X0.here hx rfl (hb hby d14_1) rfl rfl ?_
    show Steps pg.tables ee below (s₁.setTop (mkF mm 2 #[.val (.ref t), .val .null] [(.ref t), (.ref t)])) _
    refine st1 _ ?_
    show Steps pg.tables ee below (T1.setTop (mkF mm 5 #[.val (.ref t), .val .null] [(.ref nm), (.ref t)])) _
    refine XS.aloadN X1.here hx rfl (hb hby d14_5) rfl rfl ?_
    show Steps pg.tables ee below (T1.setTop (mkF mm 6 #[.val (.ref t), .val .null] [.null, (.ref nm), (.ref t)])) _
    refine st2.trans ?_
    show Steps pg.tables ee below (T2.setTop (mkF mm 9 #[.val (.ref t), .val .null] [(.ref bd)])) _
    exact retOut X2 hx Bd.returns rfl (Or.inr (Or.inr (Or.inr (Or.inr ⟨rfl, rfl, rfl⟩)))) (hb hby d14_9) hr
  · show QrmK1nR Z t nm sh lo bd h0 n0 _ T2.heap _
    rw [e2]
    exact ⟨rfl, N2, rfl⟩
def QrmK2R (Z : State) (t : Addr) (nm : Addr) (sh : Int32) (lo : Int32) (bd : Addr) (a : Addr) (d : Addr) (kd : ClassId) (p : Int32) (vs : List Value) (cs : Int32) (h0 : Heap) (n0 : Nat) (v : Option Value) (h : Heap) (L : List Loc) : Prop := v = some (.ref a) ∧ Fr n0 L ∧ h = h0
set_option maxRecDepth 65536 in
set_option maxHeartbeats 40000000 in
theorem rmK2R (l : Launch) (Z : State) (a0 : Array Value) (hw : ∀ d ∈ tables_1, d.before a0 Z = true) (ws : List Jvm.Cond) (t : Addr) (nm : Addr) (sh : Int32) (lo : Int32) (bd : Addr) (a : Addr) (d : Addr) (kd : ClassId) (p : Int32) (vs : List Value) (cs : Int32) (h0 : Heap) (n0 : Nat) (O0 : Old Z n0 h0) (Tf0 : Fld Z h0 t "com/example/orders_into_outcomes/ordersintooutcomes/model/TextLimit" "name" "Ljava/lang/String;" (.ref nm)) (Tf1 : Fld Z h0 t "com/example/orders_into_outcomes/ordersintooutcomes/model/TextLimit" "shortest" "I" (.int sh)) (Tf2 : Fld Z h0 t "com/example/orders_into_outcomes/ordersintooutcomes/model/TextLimit" "longest" "I" (.int lo)) (Tf3 : Fld Z h0 t "com/example/orders_into_outcomes/ordersintooutcomes/model/TextLimit" "required" "Z" (.int (0 : Int32))) (Tf4 : Fld Z h0 t "com/example/orders_into_outcomes/ordersintooutcomes/model/TextLimit" "byDefault" "Ljava/lang/String;" (.ref bd)) (Et : Exa Z h0 t "com/example/orders_into_outcomes/ordersintooutcomes/model/TextLimit") (Fc : Fld Z h0 a "java/lang/String" "coder" "B" (.int (0 : Int32))) (Fv : Fld Z h0 a "java/lang/String" "value" "[B" (.ref d)) (Va : Arv Z h0 d kd .byte p vs (.int 0)) (Ea : Exa Z h0 a "java/lang/String") (S_CS : Sta Z Z.heap "java/lang/String" "COMPACT_STRINGS" "Z" (.int cs)) (hcs : ¬ (cs = (0 : Int32))) (hp : ¬ (p < (0 : Int32))) (h1 : ¬ (p < sh)) (h2 : ¬ (lo < p)) :
    MetFree l (⟨"com/example/orders_into_outcomes/ordersintooutcomes/model/TextLimit", "check", "(Ljava/lang/String;Ljava/lang/String;)Ljava/lang/String;"⟩ : MethodName) (head1 (Jvm.Cond.code (⟨"com/example/orders_into_outcomes/ordersintooutcomes/model/TextLimit", "check", "(Ljava/lang/String;Ljava/lang/String;)Ljava/lang/String;"⟩ : MethodName) prog_49_method_10_code 4 (some (.object "java/lang/String")) :: ws) ({ frames := 3, cells := 0, slots := 0, locals := 43 } : Room)) (fun a_ U_ => a_ = #[(.ref t), (.ref nm), (.ref a)] ∧ Z.Warmed39 U_.vm ∧ U_.heap = h0) (fun _ _ _ _ _ => True) (fun _ U_ o_ U'_ => ∃ v_ L_, o_ = .returned v_ ∧ QrmK2R Z t nm sh lo bd a d kd p vs cs h0 n0 v_ U'_.heap L_ ∧ FrameEnd U_ o_ U'_ L_ ({ frames := 3, cells := 0, slots := 0, locals := 43 } : Room).cells ({ frames := 3, cells := 0, slots := 0, locals := 43 } : Room).slots) := by
  refine MetFree.of_bodySF (plainFor_of_name pn_103) hisR ?_
  intro pg ee s mm args below meth cc s₁ Bd hml0 hP hK
  obtain ⟨rfl, hZ, hh⟩ := hP
  have hx := Bd.exec
  have hby := Bd.bytes
  have hml : cc.maxLocals = 4 := hml0
  have hown : s.vm.findClass "com/example/orders_into_outcomes/ordersintooutcomes/model/TextLimit" = some mm.cls := findClass_of_methodNamed Bd.named
  have hnm := (name_of_methodNamed Bd.named Bd.method).1
  have X0 : Stand pg l ee ({ frames := 3, cells := 0, slots := 0, locals := 43 } : Room) s mm #[(.ref t), (.ref nm), (.ref a)] below meth cc s₁ [] 0 0 := Stand.of_body Bd
  have e0 : s₁.heap = h0 := by rw [← hh, Bd.state]; rfl
  have N0 := Fr.nil n0
  have K0 : Keep h0 h0 ([] : List Addr) := Keep.refl _ _
  have pre0 : ∀ tg_, Steps pg.tables ee below (s₁.setTop (mkF mm 0 #[.val (.ref t), .val (.ref nm), .val (.ref a), .unset] [])) tg_ → Steps pg.tables ee below (s₁.setTop (entryFrame mm #[(.ref t), (.ref nm), (.ref a)] 4)) tg_ := fun tg_ k_ => castTop (ef_15_178 mm t nm a) k_
  obtain ⟨cq1, kq1, q1a, q1b, q1c⟩ := isOf hZ e0 Ea
  obtain ⟨_, _, ⟨T1, L1, k1, n1⟩, -, X1, ⟨Lc1, hQ1, l1, y1, z1⟩, st1⟩ := X0.virtualBack hx (y := (⟨"java/lang/String", "length", "()I"⟩ : MethodName)) (z := (⟨"java/lang/String", "length", "()I"⟩ : MethodName)) hown (mvT hZ (hw _ (List.mem_of_getElem? (i := 89) rfl))) (mvT hZ (hw _ (List.mem_of_getElem? (i := 90) rfl))) (notFace_of_selects (args := #[]) (mvT hZ (hw _ (List.mem_of_getElem? (i := 92) rfl)))) (mvT hZ (hw _ (List.mem_of_getElem? (i := 92) rfl))) (mvT hZ (hw _ (List.mem_of_getElem? (i := 91) rfl))) (by decide) (backOf (W := 2) (rmLen l Z a0 hw [] a d kd p vs cs h0 n0 O0 Fc Fv Va Ea S_CS hcs) hZ (hw _ (List.mem_of_getElem? (i := 93) rfl)) (hw _ (List.mem_of_getElem? (i := 6) rfl)) (by decide) (by decide)) q1a q1c (g := (mkF mm 32 #[.val (.ref t), .val (.ref nm), .val (.ref a), .unset] [(.ref a), (.int (0 : Int32)), (.ref a)])) rfl (by rw [hml]; rfl) (Steps.refl _) (argsL := []) (rest := [(.int (0 : Int32)), (.ref a)]) (lenOf pd_51 rfl) rfl (by show 2 * 0 + _ ≤ _; exact Nat.le_of_eq rfl) (hb hby d15_32) (fun _ _ => ⟨rfl, e0, (by decide : 0 + 0 ≤ _), (by decide : 0 + 0 ≤ _)⟩)
  dsimp only [Pt.U, Pt.locs, Pt.cells, Pt.slots] at X1 l1 y1 z1 st1 hQ1
  subst l1 y1 z1
  obtain ⟨rfl, N1q, e1⟩ := hQ1
  have N1 := Fr.app N0 N1q
  obtain ⟨cq2, kq2, q2a, q2b, q2c⟩ := isOf hZ e1 Ea
  obtain ⟨_, _, ⟨T2, L2, k2, n2⟩, -, X2, ⟨Lc2, hQ2, l2, y2, z2⟩, st2⟩ := X1.virtualBack hx (y := (⟨"java/lang/String", "codePointCount", "(II)I"⟩ : MethodName)) (z := (⟨"java/lang/String", "codePointCount", "(II)I"⟩ : MethodName)) hown (mvT hZ (hw _ (List.mem_of_getElem? (i := 100) rfl))) (mvT hZ (hw _ (List.mem_of_getElem? (i := 101) rfl))) (notFace_of_selects (args := #[]) (mvT hZ (hw _ (List.mem_of_getElem? (i := 103) rfl)))) (mvT hZ (hw _ (List.mem_of_getElem? (i := 103) rfl))) (mvT hZ (hw _ (List.mem_of_getElem? (i := 102) rfl))) (by decide) (backOf (W := 0) (rmCpc l Z a0 hw [] a d kd p vs cs h0 n0 O0 Fc Fv Va Ea S_CS hcs hp) hZ (hw _ (List.mem_of_getElem? (i := 104) rfl)) (hw _ (List.mem_of_getElem? (i := 6) rfl)) (by decide) (by decide)) q2a q2c (g := (mkF mm 35 #[.val (.ref t), .val (.ref nm), .val (.ref a), .unset] [(.int p), (.int (0 : Int32)), (.ref a)])) rfl (by rw [hml]; rfl) (Steps.refl _) (argsL := [(.int (0 : Int32)), (.int p)]) (rest := []) (lenOf pd_168 rfl) rfl (by show 2 * 0 + _ ≤ _; exact Nat.le_of_eq rfl) (hb hby d15_35) (fun _ _ => ⟨rfl, e1, (by decide : 0 + 0 ≤ _), (by decide : 0 + 0 ≤ _)⟩)
  dsimp only [Pt.U, Pt.locs, Pt.cells, Pt.slots] at X2 l2 y2 z2 st2 hQ2
  subst l2 y2 z2
  obtain ⟨rfl, N2q, e2⟩ := hQ2
  have N2 := Fr.app N1 N2q
  obtain ⟨T3, X3, e3, st3⟩ := getF X2 hx hZ hown (host := "") (Or.inl (hw _ (List.mem_of_getElem? (i := 38) rfl))) Via.refl e2 Tf1 (g := (mkF mm 45 #[.val (.ref t), .val (.ref nm), .val (.ref a), .val (.int p)] [(.ref t), (.int p)])) rfl rfl (hb hby d15_45)
  obtain ⟨T4, X4, e4, st4⟩ := getF X3 hx hZ hown (host := "") (Or.inl (hw _ (List.mem_of_getElem? (i := 40) rfl))) Via.refl e3 Tf2 (g := (mkF mm 53 #[.val (.ref t), .val (.ref nm), .val (.ref a), .val (.int p)] [(.ref t), (.int p)])) rfl rfl (hb hby d15_53)
  obtain ⟨fs, hr, hrun, hended, hW, hsame⟩ := X4.leave (v := some (.ref a)) (fun h => by rw [Bd.returns] at h; cases h)
  refine ⟨_, _, pre0 _ ?_, hrun, hended, _, _, rfl, ?_, ⟨_, rfl⟩, hW, hsame.mono (by decide) (by decide)⟩
  · show Steps pg.tables ee below (s₁.setTop (mkF mm 0 #[.val (.ref t), .val (.ref nm), .val (.ref a), .unset] [])) _
    refine XS.aloadN X0.here hx rfl (hb hby d15_0) rfl rfl ?_
    show Steps pg.tables ee below (s₁.setTop (mkF mm 1 #[.val (.ref t), .val (.ref nm), .val (.ref a), .unset] [(.ref a)])) _
    refine XS.ifnonnullYes X0.here hx rfl (pc0 := 1) (pc' := 21) rfl (hb hby d15_1) rfl (by decide) (by decide) ?_
    show Steps pg.tables ee below (s₁.setTop (mkF mm 21 #[.val (.ref t), .val (.ref nm), .val (.ref a), .unset] [])) _
    refine XS.aloadN X0.here hx rfl (hb hby d15_21) rfl rfl ?_
    show Steps pg.tables ee below (s₁.setTop (mkF mm 22 #[.val (.ref t), .val (.ref nm), .val (.ref a), .unset] [(.ref a)])) _
    refine XS.ifnonnullYes X0.here hx rfl (pc0 := 22) (pc' := 29) rfl (hb hby d15_22) rfl (by decide) (by decide) ?_
    show Steps pg.tables ee below (s₁.setTop (mkF mm 29 #[.val (.ref t), .val (.ref nm), .val (.ref a), .unset] [])) _
    refine XS.aloadN X0.here hx rfl (hb hby d15_29) rfl rfl ?_
    show Steps pg.tables ee below (s₁.setTop (mkF mm 30 #[.val (.ref t), .val (.ref nm), .val (.ref a), .unset] [(.ref a)])) _
    refine XS.iconst X0.here hx rfl (hb hby d15_30) ?_
    show Steps pg.tables ee below (s₁.setTop (mkF mm 31 #[.val (.ref t), .val (.ref nm), .val (.ref a), .unset] [(.int (0 : Int32)), (.ref a)])) _
    refine XS.aloadN X0.here hx rfl (hb hby d15_31) rfl rfl ?_
    show Steps pg.tables ee below (s₁.setTop (mkF mm 32 #[.val (.ref t), .val (.ref nm), .val (.ref a), .unset] [(.ref a), (.int (0 : Int32)), (.ref a)])) _
    refine st1.trans ?_
    show Steps pg.tables ee below (T1.setTop (mkF mm 35 #[.val (.ref t), .val (.ref nm), .val (.ref a), .unset] [(.int p), (.int (0 : Int32)), (.ref a)])) _
    refine st2.trans ?_
    show Steps pg.tables ee below (T2.setTop (mkF mm 38 #[.val (.ref t), .val (.ref nm), .val (.ref a), .unset] [(.int p)])) _
    refine XS.istoreN X2.here hx rfl (hb hby d15_38) rfl (l' := #[.val (.ref t), .val (.ref nm), .val (.ref a), .val (.int p)]) rfl ?_
    show Steps pg.tables ee below (T2.setTop (mkF mm 39 #[.val (.ref t), .val (.ref nm), .val (.ref a), .val (.int p)] [])) _
    refine XS.aloadN X2.here hx rfl (hb hby d15_39) rfl rfl ?_
    show Steps pg.tables ee below (T2.setTop (mkF mm 40 #[.val (.ref t), .val (.ref nm), .val (.ref a), .val (.int p)] [(.ref a)])) _
    refine XS.ifnullNo X2.here hx rfl (hb hby d15_40) rfl ?_
    show Steps pg.tables ee below (T2.setTop (mkF mm 43 #[.val (.ref t), .val (.ref nm), .val (.ref a), .val (.int p)] [])) _
    refine XS.iloadN X2.here hx rfl (hb hby d15_43) rfl ?_
    show Steps pg.tables ee below (T2.setTop (mkF mm 44 #[.val (.ref t), .val (.ref nm), .val (.ref a), .val (.int p)] [(.int p)])) _
    refine XS.aloadN X2.here hx rfl (hb hby d15_44) rfl rfl ?_
    show Steps pg.tables ee below (T2.setTop (mkF mm 45 #[.val (.ref t), .val (.ref nm), .val (.ref a), .val (.int p)] [(.ref t), (.int p)])) _
    refine st3 _ ?_
    show Steps pg.tables ee below (T3.setTop (mkF mm 48 #[.val (.ref t), .val (.ref nm), .val (.ref a), .val (.int p)] [(.int sh), (.int p)])) _
    refine XS.icmpNo X3.here hx rfl (hb hby d15_48) rfl (flt h1).1 ?_
    show Steps pg.tables ee below (T3.setTop (mkF mm 51 #[.val (.ref t), .val (.ref nm), .val (.ref a), .val (.int p)] [])) _
    refine XS.iloadN X3.here hx rfl (hb hby d15_51) rfl ?_
    show Steps pg.tables ee below (T3.setTop (mkF mm 52 #[.val (.ref t), .val (.ref nm), .val (.ref a), .val (.int p)] [(.int p)])) _
    refine XS.aloadN X3.here hx rfl (hb hby d15_52) rfl rfl ?_
    show Steps pg.tables ee below (T3.setTop (mkF mm 53 #[.val (.ref t), .val (.ref nm), .val (.ref a), .val (.int p)] [(.ref t), (.int p)])) _
    refine st4 _ ?_
    show Steps pg.tables ee below (T4.setTop (mkF mm 56 #[.val (.ref t), .val (.ref nm), .val (.ref a), .val (.int p)] [(.int lo), (.int p)])) _
    refine XS.icmpYes X4.here hx rfl (pc0 := 56) (pc' := 78) rfl (hb hby d15_56) rfl (flt h2).2.2.2 (by decide) (by decide) ?_
    show Steps pg.tables ee below (T4.setTop (mkF mm 78 #[.val (.ref t), .val (.ref nm), .val (.ref a), .val (.int p)] [])) _
    refine XS.aloadN X4.here hx rfl (hb hby d15_78) rfl rfl ?_
    show Steps pg.tables ee below (T4.setTop (mkF mm 79 #[.val (.ref t), .val (.ref nm), .val (.ref a), .val (.int p)] [(.ref a)])) _
    refine XS.ifnonnullYes X4.here hx rfl (pc0 := 79) (pc' := 89) rfl (hb hby d15_79) rfl (by decide) (by decide) ?_
    show Steps pg.tables ee below (T4.setTop (mkF mm 89 #[.val (.ref t), .val (.ref nm), .val (.ref a), .val (.int p)] [])) _
    refine XS.aloadN X4.here hx rfl (hb hby d15_89) rfl rfl ?_
    show Steps pg.tables ee below (T4.setTop (mkF mm 90 #[.val (.ref t), .val (.ref nm), .val (.ref a), .val (.int p)] [(.ref a)])) _
    exact retOut X4 hx Bd.returns rfl (Or.inr (Or.inr (Or.inr (Or.inr ⟨rfl, rfl, rfl⟩)))) (hb hby d15_90) hr
  · show QrmK2R Z t nm sh lo bd a d kd p vs cs h0 n0 _ T4.heap _
    rw [e4]
    exact ⟨rfl, N2, rfl⟩
def QrmK1R (Z : State) (t : Addr) (nm : Addr) (sh : Int32) (lo : Int32) (bd : Addr) (a : Addr) (d : Addr) (kd : ClassId) (p : Int32) (vs : List Value) (cs : Int32) (h0 : Heap) (n0 : Nat) (v : Option Value) (h : Heap) (L : List Loc) : Prop := v = some (.ref a) ∧ Fr n0 L ∧ h = h0
set_option maxRecDepth 65536 in
set_option maxHeartbeats 40000000 in
theorem rmK1R (l : Launch) (Z : State) (a0 : Array Value) (hw : ∀ d ∈ tables_1, d.before a0 Z = true) (ws : List Jvm.Cond) (t : Addr) (nm : Addr) (sh : Int32) (lo : Int32) (bd : Addr) (a : Addr) (d : Addr) (kd : ClassId) (p : Int32) (vs : List Value) (cs : Int32) (h0 : Heap) (n0 : Nat) (O0 : Old Z n0 h0) (Tf0 : Fld Z h0 t "com/example/orders_into_outcomes/ordersintooutcomes/model/TextLimit" "name" "Ljava/lang/String;" (.ref nm)) (Tf1 : Fld Z h0 t "com/example/orders_into_outcomes/ordersintooutcomes/model/TextLimit" "shortest" "I" (.int sh)) (Tf2 : Fld Z h0 t "com/example/orders_into_outcomes/ordersintooutcomes/model/TextLimit" "longest" "I" (.int lo)) (Tf3 : Fld Z h0 t "com/example/orders_into_outcomes/ordersintooutcomes/model/TextLimit" "required" "Z" (.int (0 : Int32))) (Tf4 : Fld Z h0 t "com/example/orders_into_outcomes/ordersintooutcomes/model/TextLimit" "byDefault" "Ljava/lang/String;" (.ref bd)) (Et : Exa Z h0 t "com/example/orders_into_outcomes/ordersintooutcomes/model/TextLimit") (Fc : Fld Z h0 a "java/lang/String" "coder" "B" (.int (0 : Int32))) (Fv : Fld Z h0 a "java/lang/String" "value" "[B" (.ref d)) (Va : Arv Z h0 d kd .byte p vs (.int 0)) (Ea : Exa Z h0 a "java/lang/String") (S_CS : Sta Z Z.heap "java/lang/String" "COMPACT_STRINGS" "Z" (.int cs)) (hcs : ¬ (cs = (0 : Int32))) (hp : ¬ (p < (0 : Int32))) (h1 : ¬ (p < sh)) (h2 : ¬ (lo < p)) :
    MetFree l (⟨"com/example/orders_into_outcomes/ordersintooutcomes/model/TextLimit", "check", "(Ljava/lang/String;)Ljava/lang/String;"⟩ : MethodName) (head1 (Jvm.Cond.code (⟨"com/example/orders_into_outcomes/ordersintooutcomes/model/TextLimit", "check", "(Ljava/lang/String;)Ljava/lang/String;"⟩ : MethodName) prog_49_method_9_code 2 (some (.object "java/lang/String")) :: ws) ({ frames := 4, cells := 0, slots := 0, locals := 58 } : Room)) (fun a_ U_ => a_ = #[(.ref t), (.ref a)] ∧ Z.Warmed39 U_.vm ∧ U_.heap = h0) (fun _ _ _ _ _ => True) (fun _ U_ o_ U'_ => ∃ v_ L_, o_ = .returned v_ ∧ QrmK1R Z t nm sh lo bd a d kd p vs cs h0 n0 v_ U'_.heap L_ ∧ FrameEnd U_ o_ U'_ L_ ({ frames := 4, cells := 0, slots := 0, locals := 58 } : Room).cells ({ frames := 4, cells := 0, slots := 0, locals := 58 } : Room).slots) := by
  refine MetFree.of_bodySF (plainFor_of_name pn_103) hisR ?_
  intro pg ee s mm args below meth cc s₁ Bd hml0 hP hK
  obtain ⟨rfl, hZ, hh⟩ := hP
  have hx := Bd.exec
  have hby := Bd.bytes
  have hml : cc.maxLocals = 2 := hml0
  have hown : s.vm.findClass "com/example/orders_into_outcomes/ordersintooutcomes/model/TextLimit" = some mm.cls := findClass_of_methodNamed Bd.named
  have hnm := (name_of_methodNamed Bd.named Bd.method).1
  have X0 : Stand pg l ee ({ frames := 4, cells := 0, slots := 0, locals := 58 } : Room) s mm #[(.ref t), (.ref a)] below meth cc s₁ [] 0 0 := Stand.of_body Bd
  have e0 : s₁.heap = h0 := by rw [← hh, Bd.state]; rfl
  have N0 := Fr.nil n0
  have K0 : Keep h0 h0 ([] : List Addr) := Keep.refl _ _
  have pre0 : ∀ tg_, Steps pg.tables ee below (s₁.setTop (mkF mm 0 #[.val (.ref t), .val (.ref a)] [])) tg_ → Steps pg.tables ee below (s₁.setTop (entryFrame mm #[(.ref t), (.ref a)] 2)) tg_ := fun tg_ k_ => castTop (ef_14_179 mm t a) k_
  obtain ⟨T1, X1, e1, st1⟩ := getF X0 hx hZ hown (host := "") (Or.inl (hw _ (List.mem_of_getElem? (i := 36) rfl))) Via.refl e0 Tf0 (g := (mkF mm 2 #[.val (.ref t), .val (.ref a)] [(.ref t), (.ref t)])) rfl rfl (hb hby d14_2)
  obtain ⟨cq2, kq2, q2a, q2b, q2c⟩ := isOf hZ e1 Et
  obtain ⟨_, _, ⟨T2, L2, k2, n2⟩, -, X2, ⟨Lc2, hQ2, l2, y2, z2⟩, st2⟩ := X1.virtualBack hx (y := (⟨"com/example/orders_into_outcomes/ordersintooutcomes/model/TextLimit", "check", "(Ljava/lang/String;Ljava/lang/String;)Ljava/lang/String;"⟩ : MethodName)) (z := (⟨"com/example/orders_into_outcomes/ordersintooutcomes/model/TextLimit", "check", "(Ljava/lang/String;Ljava/lang/String;)Ljava/lang/String;"⟩ : MethodName)) hown (mvT hZ (hw _ (List.mem_of_getElem? (i := 84) rfl))) (mvT hZ (hw _ (List.mem_of_getElem? (i := 85) rfl))) (notFace_of_selects (args := #[]) (mvT hZ (hw _ (List.mem_of_getElem? (i := 87) rfl)))) (mvT hZ (hw _ (List.mem_of_getElem? (i := 87) rfl))) (mvT hZ (hw _ (List.mem_of_getElem? (i := 86) rfl))) (by decide) (backOf (W := 0) (rmK2R l Z a0 hw [] t nm sh lo bd a d kd p vs cs h0 n0 O0 Tf0 Tf1 Tf2 Tf3 Tf4 Et Fc Fv Va Ea S_CS hcs hp h1 h2) hZ (hw _ (List.mem_of_getElem? (i := 88) rfl)) (hw _ (List.mem_of_getElem? (i := 28) rfl)) (by decide) (by decide)) q2a q2c (g := (mkF mm 6 #[.val (.ref t), .val (.ref a)] [(.ref a), (.ref nm), (.ref t)])) rfl (by rw [hml]; rfl) (Steps.refl _) (argsL := [(.ref nm), (.ref a)]) (rest := []) (lenOf pd_160 rfl) rfl (by show 2 * 0 + _ ≤ _; exact Nat.le_of_eq rfl) (hb hby d14_6) (fun _ _ => ⟨rfl, e1, (by decide : 0 + 0 ≤ _), (by decide : 0 + 0 ≤ _)⟩)
  dsimp only [Pt.U, Pt.locs, Pt.cells, Pt.slots] at X2 l2 y2 z2 st2 hQ2
  subst l2 y2 z2
  obtain ⟨rfl, N2q, e2⟩ := hQ2
  have N2 := Fr.app N0 N2q
  obtain ⟨fs, hr, hrun, hended, hW, hsame⟩ := X2.leave (v := some (.ref a)) (fun h => by rw [Bd.returns] at h; cases h)
  refine ⟨_, _, pre0 _ ?_, hrun, hended, _, _, rfl, ?_, ⟨_, rfl⟩, hW, hsame.mono (by decide) (by decide)⟩
  · show Steps pg.tables ee below (s₁.setTop (mkF mm 0 #[.val (.ref t), .val (.ref a)] [])) _
    refine XS.aloadN X0.here hx rfl (hb hby d14_0) rfl rfl ?_
    show Steps pg.tables ee below (s₁.setTop (mkF mm 1 #[.val (.ref t), .val (.ref a)] [(.ref t)])) _
    refine XS.aloadN X0.here hx rfl (hb hby d14_1) rfl rfl ?_
    show Steps pg.tables ee below (s₁.setTop (mkF mm 2 #[.val (.ref t), .val (.ref a)] [(.ref t), (.ref t)])) _
    refine st1 _ ?_
    show Steps pg.tables ee below (T1.setTop (mkF mm 5 #[.val (.ref t), .val (.ref a)] [(.ref nm), (.ref t)])) _
    refine XS.aloadN X1.here hx rfl (hb hby d14_5) rfl rfl ?_
    show Steps pg.tables ee below (T1.setTop (mkF mm 6 #[.val (.ref t), .val (.ref a)] [(.ref a), (.ref nm), (.ref t)])) _
    refine st2.trans ?_
    show Steps pg.tables ee below (T2.setTop (mkF mm 9 #[.val (.ref t), .val (.ref a)] [(.ref a)])) _
    exact retOut X2 hx Bd.returns rfl (Or.inr (Or.inr (Or.inr (Or.inr ⟨rfl, rfl, rfl⟩)))) (hb hby d14_9) hr
  · show QrmK1R Z t nm sh lo bd a d kd p vs cs h0 n0 _ T2.heap _
    rw [e2]
    exact ⟨rfl, N2, rfl⟩
def QD (Z : State) (p : Int32) (h0 : Heap) (n0 : Nat) (v : Option Value) (h : Heap) (L : List Loc) : Prop := ∃ (b d : Addr) (kd : ClassId) (vs : List Value), v = some (.ref b) ∧ Fr n0 L ∧ Keep h0 h [] ∧ Exa Z h b "java/lang/String" ∧ Fld Z h b "java/lang/String" "coder" "B" (.int (0 : Int32)) ∧ Fld Z h b "java/lang/String" "value" "[B" (.ref d) ∧ Arv Z h d kd .byte p vs (.int 0)
theorem d23_0 : decode jdk_52_method_21_code 0 = .ok (.iconst 0, 1) := by decide +kernel
theorem d23_1 : decode jdk_52_method_21_code 1 = .ok (.istore 5, 2) := by decide +kernel
theorem d23_3 : decode jdk_52_method_21_code 3 = .ok (.iload 5, 2) := by decide +kernel
theorem d23_5 : decode jdk_52_method_21_code 5 = .ok (.iload 4, 2) := by decide +kernel
theorem d23_7 : decode jdk_52_method_21_code 7 = .ok (.if_icmp .ge 37, 3) := by decide +kernel
theorem d23_10 : decode jdk_52_method_21_code 10 = .ok (.aload_n 0, 1) := by decide +kernel
theorem d23_11 : decode jdk_52_method_21_code 11 = .ok (.iload_n 1, 1) := by decide +kernel
theorem d23_12 : decode jdk_52_method_21_code 12 = .ok (.caload, 1) := by decide +kernel
theorem d23_13 : decode jdk_52_method_21_code 13 = .ok (.istore 6, 2) := by decide +kernel
theorem d23_15 : decode jdk_52_method_21_code 15 = .ok (.iload 6, 2) := by decide +kernel
theorem d23_17 : decode jdk_52_method_21_code 17 = .ok (.sipush 255, 3) := by decide +kernel
theorem d23_20 : decode jdk_52_method_21_code 20 = .ok (.if_icmp .le 6, 3) := by decide +kernel
theorem d23_26 : decode jdk_52_method_21_code 26 = .ok (.aload_n 2, 1) := by decide +kernel
theorem d23_27 : decode jdk_52_method_21_code 27 = .ok (.iload_n 3, 1) := by decide +kernel
theorem d23_28 : decode jdk_52_method_21_code 28 = .ok (.iload 6, 2) := by decide +kernel
theorem d23_30 : decode jdk_52_method_21_code 30 = .ok (.i2b, 1) := by decide +kernel
theorem d23_31 : decode jdk_52_method_21_code 31 = .ok (.bastore, 1) := by decide +kernel
theorem d23_32 : decode jdk_52_method_21_code 32 = .ok (.iinc 1 1, 3) := by decide +kernel
theorem d23_35 : decode jdk_52_method_21_code 35 = .ok (.iinc 3 1, 3) := by decide +kernel
theorem d23_38 : decode jdk_52_method_21_code 38 = .ok (.iinc 5 1, 3) := by decide +kernel
theorem d23_41 : decode jdk_52_method_21_code 41 = .ok (.goto (-38), 3) := by decide +kernel
theorem d23_44 : decode jdk_52_method_21_code 44 = .ok (.iload 4, 2) := by decide +kernel
theorem d23_46 : decode jdk_52_method_21_code 46 = .ok (.ireturn, 1) := by decide +kernel
theorem pn_205 : plainName "java/lang/StringUTF16" = true := by first | (simp [plainName, overriddenIn]; done) | decide +kernel
theorem ef_23_206 (m : MethodId) (x0 : Addr) (x1 : Int32) (x2 : Addr) (x3 : Int32) (x4 : Int32) : entryFrame m #[(.ref x0), (.int x1), (.ref x2), (.int x3), (.int x4)] 7 = mkF m 0 #[.val (.ref x0), .val (.int x1), .val (.ref x2), .val (.int x3), .val (.int x4), .unset, .unset] [] := by first | (simp [entryFrame, mkF, argsToLocals, Value.category]; done) | rfl
def QrmIn1 (Z : State) (ch : Addr) (kc : ClassId) (x0 : Int32) (bb : Addr) (kb : ClassId) (h0 : Heap) (n0 : Nat) (v : Option Value) (h : Heap) (L : List Loc) : Prop := v = some (.int (1 : Int32)) ∧ Fr n0 L ∧ Keep h0 h [bb] ∧ ∃ vs : List Value, Arv Z h bb kb .byte (1 : Int32) vs (.int (0 : Int32))
set_option maxRecDepth 65536 in
set_option maxHeartbeats 40000000 in
theorem rmIn1 (l : Launch) (Z : State) (a0 : Array Value) (hw : ∀ d ∈ tables_1, d.before a0 Z = true) (ws : List Jvm.Cond) (ch : Addr) (kc : ClassId) (x0 : Int32) (bb : Addr) (kb : ClassId) (h0 : Heap) (n0 : Nat) (O0 : Old Z n0 h0) (Vc : Arv Z h0 ch kc .char (1 : Int32) [(.int x0)] (.int (0 : Int32))) (Vb : Arv Z h0 bb kb .byte (1 : Int32) [(.int (0 : Int32))] (.int (0 : Int32))) (g_bb : n0 ≤ bb) (hne : ch ≠ bb) (hx0 : ¬ ((255 : Int32) < x0)) :
    MetFree l (⟨"java/lang/StringUTF16", "compress", "([CI[BII)I"⟩ : MethodName) (head1 (Jvm.Cond.code (⟨"java/lang/StringUTF16", "compress", "([CI[BII)I"⟩ : MethodName) jdk_52_method_21_code 7 (some .int) :: ws) ({ frames := 0, cells := 0, slots := 0, locals := 0 } : Room)) (fun a_ U_ => a_ = #[(.ref ch), (.int (0 : Int32)), (.ref bb), (.int (0 : Int32)), (.int (1 : Int32))] ∧ Z.Warmed39 U_.vm ∧ U_.heap = h0) (fun _ _ _ _ _ => True) (fun _ U_ o_ U'_ => ∃ v_ L_, o_ = .returned v_ ∧ QrmIn1 Z ch kc x0 bb kb h0 n0 v_ U'_.heap L_ ∧ FrameEnd U_ o_ U'_ L_ ({ frames := 0, cells := 0, slots := 0, locals := 0 } : Room).cells ({ frames := 0, cells := 0, slots := 0, locals := 0 } : Room).slots) := by
  refine MetFree.of_bodySF (plainFor_of_name pn_205) hisR ?_
  intro pg ee s mm args below meth cc s₁ Bd hml0 hP hK
  obtain ⟨rfl, hZ, hh⟩ := hP
  have hx := Bd.exec
  have hby := Bd.bytes
  have hml : cc.maxLocals = 7 := hml0
  have hown : s.vm.findClass "java/lang/StringUTF16" = some mm.cls := findClass_of_methodNamed Bd.named
  have hnm := (name_of_methodNamed Bd.named Bd.method).1
  have X0 : Stand pg l ee ({ frames := 0, cells := 0, slots := 0, locals := 0 } : Room) s mm #[(.ref ch), (.int (0 : Int32)), (.ref bb), (.int (0 : Int32)), (.int (1 : Int32))] below meth cc s₁ [] 0 0 := Stand.of_body Bd
  have e0 : s₁.heap = h0 := by rw [← hh, Bd.state]; rfl
  have N0 := Fr.nil n0
  have K0 : Keep h0 h0 ([bb] : List Addr) := Keep.refl _ _
  have pre0 : ∀ tg_, Steps pg.tables ee below (s₁.setTop (mkF mm 0 #[.val (.ref ch), .val (.int (0 : Int32)), .val (.ref bb), .val (.int (0 : Int32)), .val (.int (1 : Int32)), .unset, .unset] [])) tg_ → Steps pg.tables ee below (s₁.setTop (entryFrame mm #[(.ref ch), (.int (0 : Int32)), (.ref bb), (.int (0 : Int32)), (.int (1 : Int32))] 7)) tg_ := fun tg_ k_ => castTop (ef_23_206 mm ch (0 : Int32) bb (0 : Int32) (1 : Int32)) k_
  obtain ⟨cl1, Ar1, qk1, Sz1, Nn1, Hh1, Gg1⟩ := id Vc
  have hin1 : ¬ ((0 : Int32) < 0 ∨ cl1.slots.size ≤ ((0 : Int32)).toNatClampNeg) := inb_of Sz1 ⟨by decide, by decide⟩
  obtain ⟨cl2, Ar2, qk2, Sz2, Nn2, Hh2, Gg2⟩ := id Vb
  have hin2 : ¬ ((0 : Int32) < 0 ∨ cl2.slots.size ≤ ((0 : Int32)).toNatClampNeg) := inb_of Sz2 ⟨by decide, by decide⟩
  obtain ⟨T3, h3, X3, e3, W3, st3⟩ := stB X0 hx hZ e0 Ar2 (j := (0 : Int32)) hin2 (g := (mkF mm 31 #[.val (.ref ch), .val (.int (0 : Int32)), .val (.ref bb), .val (.int (0 : Int32)), .val (.int (1 : Int32)), .val (.int (0 : Int32)), .val (.int x0)] [(.int (x0.toInt8.toInt32)), (.int (0 : Int32)), (.ref bb)])) rfl rfl (hb hby d23_31)
  have V3 : Arv Z h3 bb kb .byte (1 : Int32) [(.int (nar .byte (x0.toInt8.toInt32)))] (.int (0 : Int32)) := Arv.set Ar2 qk2 Sz2 Nn2 Hh2 Gg2 (fits_nar_byte _) W3 0 rfl (Nat.le_of_ble_eq_true rfl)
  have N3 := Fr.snoc X3 N0 g_bb
  have O3 := O0.wr W3 g_bb
  have KK3 := K0.wr W3 (Or.inl (by simp))
  obtain ⟨fs, hr, hrun, hended, hW, hsame⟩ := X3.leave (v := some (.int (1 : Int32))) (fun h => by rw [Bd.returns] at h; cases h)
  refine ⟨_, _, pre0 _ ?_, hrun, hended, _, _, rfl, ?_, ⟨_, rfl⟩, hW, hsame.mono (by decide) (by decide)⟩
  · show Steps pg.tables ee below (s₁.setTop (mkF mm 0 #[.val (.ref ch), .val (.int (0 : Int32)), .val (.ref bb), .val (.int (0 : Int32)), .val (.int (1 : Int32)), .unset, .unset] [])) _
    refine XS.iconst X0.here hx rfl (hb hby d23_0) ?_
    show Steps pg.tables ee below (s₁.setTop (mkF mm 1 #[.val (.ref ch), .val (.int (0 : Int32)), .val (.ref bb), .val (.int (0 : Int32)), .val (.int (1 : Int32)), .unset, .unset] [(.int (0 : Int32))])) _
    refine XS.istore X0.here hx rfl (hb hby d23_1) rfl (l' := #[.val (.ref ch), .val (.int (0 : Int32)), .val (.ref bb), .val (.int (0 : Int32)), .val (.int (1 : Int32)), .val (.int (0 : Int32)), .unset]) rfl ?_
    show Steps pg.tables ee below (s₁.setTop (mkF mm 3 #[.val (.ref ch), .val (.int (0 : Int32)), .val (.ref bb), .val (.int (0 : Int32)), .val (.int (1 : Int32)), .val (.int (0 : Int32)), .unset] [])) _
    refine XS.iload X0.here hx rfl (hb hby d23_3) rfl ?_
    show Steps pg.tables ee below (s₁.setTop (mkF mm 5 #[.val (.ref ch), .val (.int (0 : Int32)), .val (.ref bb), .val (.int (0 : Int32)), .val (.int (1 : Int32)), .val (.int (0 : Int32)), .unset] [(.int (0 : Int32))])) _
    refine XS.iload X0.here hx rfl (hb hby d23_5) rfl ?_
    show Steps pg.tables ee below (s₁.setTop (mkF mm 7 #[.val (.ref ch), .val (.int (0 : Int32)), .val (.ref bb), .val (.int (0 : Int32)), .val (.int (1 : Int32)), .val (.int (0 : Int32)), .unset] [(.int (1 : Int32)), (.int (0 : Int32))])) _
    refine XS.icmpNo X0.here hx rfl (hb hby d23_7) rfl (tlt (by decide : (0 : Int32) < (1 : Int32))).2.1 ?_
    show Steps pg.tables ee below (s₁.setTop (mkF mm 10 #[.val (.ref ch), .val (.int (0 : Int32)), .val (.ref bb), .val (.int (0 : Int32)), .val (.int (1 : Int32)), .val (.int (0 : Int32)), .unset] [])) _
    refine XS.aloadN X0.here hx rfl (hb hby d23_10) rfl rfl ?_
    show Steps pg.tables ee below (s₁.setTop (mkF mm 11 #[.val (.ref ch), .val (.int (0 : Int32)), .val (.ref bb), .val (.int (0 : Int32)), .val (.int (1 : Int32)), .val (.int (0 : Int32)), .unset] [(.ref ch)])) _
    refine XS.iloadN X0.here hx rfl (hb hby d23_11) rfl ?_
    show Steps pg.tables ee below (s₁.setTop (mkF mm 12 #[.val (.ref ch), .val (.int (0 : Int32)), .val (.ref bb), .val (.int (0 : Int32)), .val (.int (1 : Int32)), .val (.int (0 : Int32)), .unset] [(.int (0 : Int32)), (.ref ch)])) _
    refine X0.caload hx (j := (0 : Int32)) (v := (.int x0)) (by rw [e0]; exact Ar1.1) (State.isArrayOf_alike hZ.alike Ar1.2.1) Ar1.2.2 hin1 (Has.at Hh1 hin1 rfl) (g := (mkF mm 12 #[.val (.ref ch), .val (.int (0 : Int32)), .val (.ref bb), .val (.int (0 : Int32)), .val (.int (1 : Int32)), .val (.int (0 : Int32)), .unset] [(.int (0 : Int32)), (.ref ch)])) rfl rfl (hb hby d23_12) _ ?_
    show Steps pg.tables ee below (s₁.setTop (mkF mm 13 #[.val (.ref ch), .val (.int (0 : Int32)), .val (.ref bb), .val (.int (0 : Int32)), .val (.int (1 : Int32)), .val (.int (0 : Int32)), .unset] [(.int x0)])) _
    refine XS.istore X0.here hx rfl (hb hby d23_13) rfl (l' := #[.val (.ref ch), .val (.int (0 : Int32)), .val (.ref bb), .val (.int (0 : Int32)), .val (.int (1 : Int32)), .val (.int (0 : Int32)), .val (.int x0)]) rfl ?_
    show Steps pg.tables ee below (s₁.setTop (mkF mm 15 #[.val (.ref ch), .val (.int (0 : Int32)), .val (.ref bb), .val (.int (0 : Int32)), .val (.int (1 : Int32)), .val (.int (0 : Int32)), .val (.int x0)] [])) _
    refine XS.iload X0.here hx rfl (hb hby d23_15) rfl ?_
    show Steps pg.tables ee below (s₁.setTop (mkF mm 17 #[.val (.ref ch), .val (.int (0 : Int32)), .val (.ref bb), .val (.int (0 : Int32)), .val (.int (1 : Int32)), .val (.int (0 : Int32)), .val (.int x0)] [(.int x0)])) _
    refine XS.sipush X0.here hx rfl (hb hby d23_17) ?_
    show Steps pg.tables ee below (s₁.setTop (mkF mm 20 #[.val (.ref ch), .val (.int (0 : Int32)), .val (.ref bb), .val (.int (0 : Int32)), .val (.int (1 : Int32)), .val (.int (0 : Int32)), .val (.int x0)] [(.int (255 : Int32)), (.int x0)])) _
    refine XS.icmpYes X0.here hx rfl (pc0 := 20) (pc' := 26) rfl (hb hby d23_20) rfl (flt hx0).2.2.2 (by decide) (by decide) ?_
    show Steps pg.tables ee below (s₁.setTop (mkF mm 26 #[.val (.ref ch), .val (.int (0 : Int32)), .val (.ref bb), .val (.int (0 : Int32)), .val (.int (1 : Int32)), .val (.int (0 : Int32)), .val (.int x0)] [])) _
    refine XS.aloadN X0.here hx rfl (hb hby d23_26) rfl rfl ?_
    show Steps pg.tables ee below (s₁.setTop (mkF mm 27 #[.val (.ref ch), .val (.int (0 : Int32)), .val (.ref bb), .val (.int (0 : Int32)), .val (.int (1 : Int32)), .val (.int (0 : Int32)), .val (.int x0)] [(.ref bb)])) _
    refine XS.iloadN X0.here hx rfl (hb hby d23_27) rfl ?_
    show Steps pg.tables ee below (s₁.setTop (mkF mm 28 #[.val (.ref ch), .val (.int (0 : Int32)), .val (.ref bb), .val (.int (0 : Int32)), .val (.int (1 : Int32)), .val (.int (0 : Int32)), .val (.int x0)] [(.int (0 : Int32)), (.ref bb)])) _
    refine XS.iload X0.here hx rfl (hb hby d23_28) rfl ?_
    show Steps pg.tables ee below (s₁.setTop (mkF mm 30 #[.val (.ref ch), .val (.int (0 : Int32)), .val (.ref bb), .val (.int (0 : Int32)), .val (.int (1 : Int32)), .val (.int (0 : Int32)), .val (.int x0)] [(.int x0), (.int (0 : Int32)), (.ref bb)])) _
    refine XS.i2b X0.here hx rfl (hb hby d23_30) rfl ?_
    show Steps pg.tables ee below (s₁.setTop (mkF mm 31 #[.val (.ref ch), .val (.int (0 : Int32)), .val (.ref bb), .val (.int (0 : Int32)), .val (.int (1 : Int32)), .val (.int (0 : Int32)), .val (.int x0)] [(.int (x0.toInt8.toInt32)), (.int (0 : Int32)), (.ref bb)])) _
    refine st3 _ ?_
    show Steps pg.tables ee below (T3.setTop (mkF mm 32 #[.val (.ref ch), .val (.int (0 : Int32)), .val (.ref bb), .val (.int (0 : Int32)), .val (.int (1 : Int32)), .val (.int (0 : Int32)), .val (.int x0)] [])) _
    refine XS.iinc X3.here hx rfl (hb hby d23_32) rfl (l' := #[.val (.ref ch), .val (.int (1 : Int32)), .val (.ref bb), .val (.int (0 : Int32)), .val (.int (1 : Int32)), .val (.int (0 : Int32)), .val (.int x0)]) rfl ?_
    show Steps pg.tables ee below (T3.setTop (mkF mm 35 #[.val (.ref ch), .val (.int (1 : Int32)), .val (.ref bb), .val (.int (0 : Int32)), .val (.int (1 : Int32)), .val (.int (0 : Int32)), .val (.int x0)] [])) _
    refine XS.iinc X3.here hx rfl (hb hby d23_35) rfl (l' := #[.val (.ref ch), .val (.int (1 : Int32)), .val (.ref bb), .val (.int (1 : Int32)), .val (.int (1 : Int32)), .val (.int (0 : Int32)), .val (.int x0)]) rfl ?_
    show Steps pg.tables ee below (T3.setTop (mkF mm 38 #[.val (.ref ch), .val (.int (1 : Int32)), .val (.ref bb), .val (.int (1 : Int32)), .val (.int (1 : Int32)), .val (.int (0 : Int32)), .val (.int x0)] [])) _
    refine XS.iinc X3.here hx rfl (hb hby d23_38) rfl (l' := #[.val (.ref ch), .val (.int (1 : Int32)), .val (.ref bb), .val (.int (1 : Int32)), .val (.int (1 : Int32)), .val (.int (1 : Int32)), .val (.int x0)]) rfl ?_
    show Steps pg.tables ee below (T3.setTop (mkF mm 41 #[.val (.ref ch), .val (.int (1 : Int32)), .val (.ref bb), .val (.int (1 : Int32)), .val (.int (1 : Int32)), .val (.int (1 : Int32)), .val (.int x0)] [])) _
    refine XS.goto X3.here hx rfl (pc0 := 41) (pc' := 3) rfl (hb hby d23_41) (by decide) (by decide) ?_
    show Steps pg.tables ee below (T3.setTop (mkF mm 3 #[.val (.ref ch), .val (.int (1 : Int32)), .val (.ref bb), .val (.int (1 : Int32)), .val (.int (1 : Int32)), .val (.int (1 : Int32)), .val (.int x0)] [])) _
    refine XS.iload X3.here hx rfl (hb hby d23_3) rfl ?_
    show Steps pg.tables ee below (T3.setTop (mkF mm 5 #[.val (.ref ch), .val (.int (1 : Int32)), .val (.ref bb), .val (.int (1 : Int32)), .val (.int (1 : Int32)), .val (.int (1 : Int32)), .val (.int x0)] [(.int (1 : Int32))])) _
    refine XS.iload X3.here hx rfl (hb hby d23_5) rfl ?_
    show Steps pg.tables ee below (T3.setTop (mkF mm 7 #[.val (.ref ch), .val (.int (1 : Int32)), .val (.ref bb), .val (.int (1 : Int32)), .val (.int (1 : Int32)), .val (.int (1 : Int32)), .val (.int x0)] [(.int (1 : Int32)), (.int (1 : Int32))])) _
    refine XS.icmpYes X3.here hx rfl (pc0 := 7) (pc' := 44) rfl (hb hby d23_7) rfl (flt (by decide : ¬ ((1 : Int32) < (1 : Int32)))).2.1 (by decide) (by decide) ?_
    show Steps pg.tables ee below (T3.setTop (mkF mm 44 #[.val (.ref ch), .val (.int (1 : Int32)), .val (.ref bb), .val (.int (1 : Int32)), .val (.int (1 : Int32)), .val (.int (1 : Int32)), .val (.int x0)] [])) _
    refine XS.iload X3.here hx rfl (hb hby d23_44) rfl ?_
    show Steps pg.tables ee below (T3.setTop (mkF mm 46 #[.val (.ref ch), .val (.int (1 : Int32)), .val (.ref bb), .val (.int (1 : Int32)), .val (.int (1 : Int32)), .val (.int (1 : Int32)), .val (.int x0)] [(.int (1 : Int32))])) _
    exact retOut X3 hx Bd.returns rfl (Or.inl ⟨rfl, Or.inl rfl, _, rfl⟩) (hb hby d23_46) hr
  · show QrmIn1 Z ch kc x0 bb kb h0 n0 _ T3.heap _
    rw [e3]
    exact ⟨rfl, N3, KK3, _, V3⟩
theorem d22_0 : decode jdk_52_method_16_code 0 = .ok (.iload_n 2, 1) := by decide +kernel
theorem d22_1 : decode jdk_52_method_16_code 1 = .ok (.newarray .byte, 2) := by decide +kernel
theorem d22_3 : decode jdk_52_method_16_code 3 = .ok (.astore_n 3, 1) := by decide +kernel
theorem d22_4 : decode jdk_52_method_16_code 4 = .ok (.aload_n 0, 1) := by decide +kernel
theorem d22_5 : decode jdk_52_method_16_code 5 = .ok (.iload_n 1, 1) := by decide +kernel
theorem d22_6 : decode jdk_52_method_16_code 6 = .ok (.aload_n 3, 1) := by decide +kernel
theorem d22_7 : decode jdk_52_method_16_code 7 = .ok (.iconst 0, 1) := by decide +kernel
theorem d22_8 : decode jdk_52_method_16_code 8 = .ok (.iload_n 2, 1) := by decide +kernel
theorem d22_9 : decode jdk_52_method_16_code 9 = .ok (.invokestatic 115, 3) := by decide +kernel
theorem pd_216 : parseMethodDescriptor "([CI[BII)I" = some ⟨[(.array .char), .int, (.array .byte), .int, .int], some .int⟩ := by decide +kernel
theorem d22_12 : decode jdk_52_method_16_code 12 = .ok (.istore 4, 2) := by decide +kernel
theorem d22_14 : decode jdk_52_method_16_code 14 = .ok (.iload 4, 2) := by decide +kernel
theorem d22_16 : decode jdk_52_method_16_code 16 = .ok (.iload_n 2, 1) := by decide +kernel
theorem d22_17 : decode jdk_52_method_16_code 17 = .ok (.if_icmp .eq 40, 3) := by decide +kernel
theorem d22_57 : decode jdk_52_method_16_code 57 = .ok (.aload_n 3, 1) := by decide +kernel
theorem d22_58 : decode jdk_52_method_16_code 58 = .ok (.areturn, 1) := by decide +kernel
theorem ef_22_223 (m : MethodId) (x0 : Addr) (x1 : Int32) (x2 : Int32) : entryFrame m #[(.ref x0), (.int x1), (.int x2)] 6 = mkF m 0 #[.val (.ref x0), .val (.int x1), .val (.int x2), .unset, .unset, .unset] [] := by first | (simp [entryFrame, mkF, argsToLocals, Value.category]; done) | rfl
def QrmCm1 (Z : State) (ch : Addr) (kc : ClassId) (x0 : Int32) (h0 : Heap) (n0 : Nat) (v : Option Value) (h : Heap) (L : List Loc) : Prop := ∃ (b : Addr) (kb : ClassId) (vs : List Value), v = some (.ref b) ∧ Fr n0 L ∧ Keep h0 h [] ∧ n0 ≤ b ∧ h0.size ≤ b ∧ Arv Z h b kb .byte (1 : Int32) vs (.int (0 : Int32))
set_option maxRecDepth 65536 in
set_option maxHeartbeats 40000000 in
theorem rmCm1 (l : Launch) (Z : State) (a0 : Array Value) (hw : ∀ d ∈ tables_1, d.before a0 Z = true) (ws : List Jvm.Cond) (ch : Addr) (kc : ClassId) (x0 : Int32) (h0 : Heap) (n0 : Nat) (O0 : Old Z n0 h0) (Vc : Arv Z h0 ch kc .char (1 : Int32) [(.int x0)] (.int (0 : Int32))) (hx0 : ¬ ((255 : Int32) < x0)) :
    MetFree l (⟨"java/lang/StringUTF16", "compress", "([CII)[B"⟩ : MethodName) (head1 (Jvm.Cond.code (⟨"java/lang/StringUTF16", "compress", "([CII)[B"⟩ : MethodName) jdk_52_method_16_code 6 (some (.array .byte)) :: ws) ({ frames := 1, cells := 1, slots := 1, locals := 18 } : Room)) (fun a_ U_ => a_ = #[(.ref ch), (.int (0 : Int32)), (.int (1 : Int32))] ∧ Z.Warmed39 U_.vm ∧ U_.heap = h0) (fun _ _ _ _ _ => True) (fun _ U_ o_ U'_ => ∃ v_ L_, o_ = .returned v_ ∧ QrmCm1 Z ch kc x0 h0 n0 v_ U'_.heap L_ ∧ FrameEnd U_ o_ U'_ L_ ({ frames := 1, cells := 1, slots := 1, locals := 18 } : Room).cells ({ frames := 1, cells := 1, slots := 1, locals := 18 } : Room).slots) := by
  refine MetFree.of_bodySF (plainFor_of_name pn_205) hisR ?_
  intro pg ee s mm args below meth cc s₁ Bd hml0 hP hK
  obtain ⟨rfl, hZ, hh⟩ := hP
  have hx := Bd.exec
  have hby := Bd.bytes
  have hml : cc.maxLocals = 6 := hml0
  have hown : s.vm.findClass "java/lang/StringUTF16" = some mm.cls := findClass_of_methodNamed Bd.named
  have hnm := (name_of_methodNamed Bd.named Bd.method).1
  have X0 : Stand pg l ee ({ frames := 1, cells := 1, slots := 1, locals := 18 } : Room) s mm #[(.ref ch), (.int (0 : Int32)), (.int (1 : Int32))] below meth cc s₁ [] 0 0 := Stand.of_body Bd
  have e0 : s₁.heap = h0 := by rw [← hh, Bd.state]; rfl
  have N0 := Fr.nil n0
  have K0 : Keep h0 h0 ([] : List Addr) := Keep.refl _ _
  have pre0 : ∀ tg_, Steps pg.tables ee below (s₁.setTop (mkF mm 0 #[.val (.ref ch), .val (.int (0 : Int32)), .val (.int (1 : Int32)), .unset, .unset, .unset] [])) tg_ → Steps pg.tables ee below (s₁.setTop (entryFrame mm #[(.ref ch), (.int (0 : Int32)), (.int (1 : Int32))] 6)) tg_ := fun tg_ k_ => castTop (ef_22_223 mm ch (0 : Int32) (1 : Int32)) k_
  obtain ⟨T1, h1, k1, X1, e1, E1, A1, st1⟩ := newP X0 hx hZ (hw _ (List.mem_of_getElem? (i := 19) rfl)) e0 (g := (mkF mm 1 #[.val (.ref ch), .val (.int (0 : Int32)), .val (.int (1 : Int32)), .unset, .unset, .unset] [(.int (1 : Int32))])) rfl (hb hby d22_1) rfl (by decide) (cap := 1) (by decide) (by decide) (by decide) (by decide)
  obtain ⟨b1, g1⟩ : ∃ z, z = h0.size := ⟨_, rfl⟩
  rw [← g1] at A1 st1
  have g_b1 : n0 ≤ b1 := Nat.le_trans (O0.1 ▸ O0.2.1) (Nat.le_of_eq g1.symm)
  have sz_b1 : h0.size ≤ b1 := Nat.le_trans K0.1 (Nat.le_of_eq g1.symm)
  have O1 := O0.ext E1
  have KK1 := K0.ext E1
  have V1 : Arv Z h1 b1 k1 .byte (1 : Int32) [(.int (0 : Int32))] (.int (0 : Int32)) := (Arv.new A1 (by decide)).pad (pad_rep [] (.int (0 : Int32)) 1)
  obtain ⟨_, _, ⟨T2, L2, k2, n2⟩, -, X2, ⟨Lc2, hQ2, l2, y2, z2⟩, st2⟩ := Jvm.LawKit.callS X1 hx (y := (⟨"java/lang/StringUTF16", "compress", "([CI[BII)I"⟩ : MethodName)) hown (mvT hZ (hw _ (List.mem_of_getElem? (i := 123) rfl))) (mvT hZ (hw _ (List.mem_of_getElem? (i := 124) rfl))) (mvT hZ (hw _ (List.mem_of_getElem? (i := 121) rfl))) (mvT hZ (hw _ (List.mem_of_getElem? (i := 125) rfl))) (by decide) (backOf (W := 0) (rmIn1 l Z a0 hw [] ch kc x0 b1 k1 h1 n0 O1 (Vc.ext E1) V1 g_b1 (Nat.ne_of_lt (Nat.lt_of_lt_of_le Vc.lt (Nat.le_of_eq g1.symm))) hx0) hZ (hw _ (List.mem_of_getElem? (i := 125) rfl)) (hw _ (List.mem_of_getElem? (i := 121) rfl)) (by decide) (by decide)) (g := (mkF mm 9 #[.val (.ref ch), .val (.int (0 : Int32)), .val (.int (1 : Int32)), .val (.ref b1), .unset, .unset] [(.int (1 : Int32)), (.int (0 : Int32)), (.ref b1), (.int (0 : Int32)), (.ref ch)])) rfl (by rw [hml]; rfl) (argsL := [(.ref ch), (.int (0 : Int32)), (.ref b1), (.int (0 : Int32)), (.int (1 : Int32))]) (rest := []) (lenOf pd_216 rfl) rfl (by show 2 * 0 + _ ≤ _; exact Nat.le_of_eq rfl) (hb hby d22_9) (fun _ _ => ⟨rfl, e1, (by decide : 1 + 0 ≤ _), (by decide : 1 + 0 ≤ _)⟩)
  dsimp only [Pt.U, Pt.locs, Pt.cells, Pt.slots] at X2 l2 y2 z2 st2 hQ2
  subst l2 y2 z2
  obtain ⟨rfl, N2q, K2, vs2, Vw2⟩ := hQ2
  have O2 := O1.keep K2 (allS g_b1 all0)
  have KK2 := KK1.trans K2 (allS (Or.inr sz_b1) all0)
  have N2 := Fr.app N0 N2q
  obtain ⟨fs, hr, hrun, hended, hW, hsame⟩ := X2.leave (v := some (.ref b1)) (fun h => by rw [Bd.returns] at h; cases h)
  refine ⟨_, _, pre0 _ ?_, hrun, hended, _, _, rfl, ?_, ⟨_, rfl⟩, hW, hsame.mono (by decide) (by decide)⟩
  · show Steps pg.tables ee below (s₁.setTop (mkF mm 0 #[.val (.ref ch), .val (.int (0 : Int32)), .val (.int (1 : Int32)), .unset, .unset, .unset] [])) _
    refine XS.iloadN X0.here hx rfl (hb hby d22_0) rfl ?_
    show Steps pg.tables ee below (s₁.setTop (mkF mm 1 #[.val (.ref ch), .val (.int (0 : Int32)), .val (.int (1 : Int32)), .unset, .unset, .unset] [(.int (1 : Int32))])) _
    refine st1 _ ?_
    show Steps pg.tables ee below (T1.setTop (mkF mm 3 #[.val (.ref ch), .val (.int (0 : Int32)), .val (.int (1 : Int32)), .unset, .unset, .unset] [(.ref b1)])) _
    refine XS.astoreN X1.here hx rfl (hb hby d22_3) rfl rfl (l' := #[.val (.ref ch), .val (.int (0 : Int32)), .val (.int (1 : Int32)), .val (.ref b1), .unset, .unset]) rfl ?_
    show Steps pg.tables ee below (T1.setTop (mkF mm 4 #[.val (.ref ch), .val (.int (0 : Int32)), .val (.int (1 : Int32)), .val (.ref b1), .unset, .unset] [])) _
    refine XS.aloadN X1.here hx rfl (hb hby d22_4) rfl rfl ?_
    show Steps pg.tables ee below (T1.setTop (mkF mm 5 #[.val (.ref ch), .val (.int (0 : Int32)), .val (.int (1 : Int32)), .val (.ref b1), .unset, .unset] [(.ref ch)])) _
    refine XS.iloadN X1.here hx rfl (hb hby d22_5) rfl ?_
    show Steps pg.tables ee below (T1.setTop (mkF mm 6 #[.val (.ref ch), .val (.int (0 : Int32)), .val (.int (1 : Int32)), .val (.ref b1), .unset, .unset] [(.int (0 : Int32)), (.ref ch)])) _
    refine XS.aloadN X1.here hx rfl (hb hby d22_6) rfl rfl ?_
    show Steps pg.tables ee below (T1.setTop (mkF mm 7 #[.val (.ref ch), .val (.int (0 : Int32)), .val (.int (1 : Int32)), .val (.ref b1), .unset, .unset] [(.ref b1), (.int (0 : Int32)), (.ref ch)])) _
    refine XS.iconst X1.here hx rfl (hb hby d22_7) ?_
    show Steps pg.tables ee below (T1.setTop (mkF mm 8 #[.val (.ref ch), .val (.int (0 : Int32)), .val (.int (1 : Int32)), .val (.ref b1), .unset, .unset] [(.int (0 : Int32)), (.ref b1), (.int (0 : Int32)), (.ref ch)])) _
    refine XS.iloadN X1.here hx rfl (hb hby d22_8) rfl ?_
    show Steps pg.tables ee below (T1.setTop (mkF mm 9 #[.val (.ref ch), .val (.int (0 : Int32)), .val (.int (1 : Int32)), .val (.ref b1), .unset, .unset] [(.int (1 : Int32)), (.int (0 : Int32)), (.ref b1), (.int (0 : Int32)), (.ref ch)])) _
    refine st2 _ ?_
    show Steps pg.tables ee below (T2.setTop (mkF mm 12 #[.val (.ref ch), .val (.int (0 : Int32)), .val (.int (1 : Int32)), .val (.ref b1), .unset, .unset] [(.int (1 : Int32))])) _
    refine XS.istore X2.here hx rfl (hb hby d22_12) rfl (l' := #[.val (.ref ch), .val (.int (0 : Int32)), .val (.int (1 : Int32)), .val (.ref b1), .val (.int (1 : Int32)), .unset]) rfl ?_
    show Steps pg.tables ee below (T2.setTop (mkF mm 14 #[.val (.ref ch), .val (.int (0 : Int32)), .val (.int (1 : Int32)), .val (.ref b1), .val (.int (1 : Int32)), .unset] [])) _
    refine XS.iload X2.here hx rfl (hb hby d22_14) rfl ?_
    show Steps pg.tables ee below (T2.setTop (mkF mm 16 #[.val (.ref ch), .val (.int (0 : Int32)), .val (.int (1 : Int32)), .val (.ref b1), .val (.int (1 : Int32)), .unset] [(.int (1 : Int32))])) _
    refine XS.iloadN X2.here hx rfl (hb hby d22_16) rfl ?_
    show Steps pg.tables ee below (T2.setTop (mkF mm 17 #[.val (.ref ch), .val (.int (0 : Int32)), .val (.int (1 : Int32)), .val (.ref b1), .val (.int (1 : Int32)), .unset] [(.int (1 : Int32)), (.int (1 : Int32))])) _
    refine XS.icmpYes X2.here hx rfl (pc0 := 17) (pc' := 57) rfl (hb hby d22_17) rfl (teq (by decide : (1 : Int32) = (1 : Int32))).1 (by decide) (by decide) ?_
    show Steps pg.tables ee below (T2.setTop (mkF mm 57 #[.val (.ref ch), .val (.int (0 : Int32)), .val (.int (1 : Int32)), .val (.ref b1), .val (.int (1 : Int32)), .unset] [])) _
    refine XS.aloadN X2.here hx rfl (hb hby d22_57) rfl rfl ?_
    show Steps pg.tables ee below (T2.setTop (mkF mm 58 #[.val (.ref ch), .val (.int (0 : Int32)), .val (.int (1 : Int32)), .val (.ref b1), .val (.int (1 : Int32)), .unset] [(.ref b1)])) _
    exact retOut X2 hx Bd.returns rfl (Or.inr (Or.inr (Or.inr (Or.inr ⟨rfl, rfl, rfl⟩)))) (hb hby d22_58) hr
  · show QrmCm1 Z ch kc x0 h0 n0 _ T2.heap _
    exact ⟨_, _, _, rfl, N2, KK2, g_b1, sz_b1, Vw2⟩
theorem d24_0 : decode jdk_52_method_15_code 0 = .ok (.iload_n 1, 1) := by decide +kernel
theorem d24_1 : decode jdk_52_method_15_code 1 = .ok (.aload_n 0, 1) := by decide +kernel
theorem d24_2 : decode jdk_52_method_15_code 2 = .ok (.arraylength, 1) := by decide +kernel
theorem d24_3 : decode jdk_52_method_15_code 3 = .ok (.isub, 1) := by decide +kernel
theorem d24_4 : decode jdk_52_method_15_code 4 = .ok (.bipush 31, 2) := by decide +kernel
theorem d24_6 : decode jdk_52_method_15_code 6 = .ok (.iushr, 1) := by decide +kernel
theorem d24_7 : decode jdk_52_method_15_code 7 = .ok (.i2b, 1) := by decide +kernel
theorem d24_8 : decode jdk_52_method_15_code 8 = .ok (.ireturn, 1) := by decide +kernel
theorem ef_24_232 (m : MethodId) (x0 : Addr) (x1 : Int32) : entryFrame m #[(.ref x0), (.int x1)] 2 = mkF m 0 #[.val (.ref x0), .val (.int x1)] [] := by first | (simp [entryFrame, mkF, argsToLocals, Value.category]; done) | rfl
def QrmCf1 (Z : State) (bb : Addr) (kb : ClassId) (vs : List Value) (h0 : Heap) (n0 : Nat) (v : Option Value) (h : Heap) (L : List Loc) : Prop := v = some (.int (0 : Int32)) ∧ Fr n0 L ∧ h = h0
set_option maxRecDepth 65536 in
set_option maxHeartbeats 40000000 in
theorem rmCf1 (l : Launch) (Z : State) (a0 : Array Value) (hw : ∀ d ∈ tables_1, d.before a0 Z = true) (ws : List Jvm.Cond) (bb : Addr) (kb : ClassId) (vs : List Value) (h0 : Heap) (n0 : Nat) (O0 : Old Z n0 h0) (Vb : Arv Z h0 bb kb .byte (1 : Int32) vs (.int (0 : Int32))) :
    MetFree l (⟨"java/lang/StringUTF16", "coderFromArrayLen", "([BI)B"⟩ : MethodName) (head1 (Jvm.Cond.code (⟨"java/lang/StringUTF16", "coderFromArrayLen", "([BI)B"⟩ : MethodName) jdk_52_method_15_code 2 (some .byte) :: ws) ({ frames := 0, cells := 0, slots := 0, locals := 0 } : Room)) (fun a_ U_ => a_ = #[(.ref bb), (.int (1 : Int32))] ∧ Z.Warmed39 U_.vm ∧ U_.heap = h0) (fun _ _ _ _ _ => True) (fun _ U_ o_ U'_ => ∃ v_ L_, o_ = .returned v_ ∧ QrmCf1 Z bb kb vs h0 n0 v_ U'_.heap L_ ∧ FrameEnd U_ o_ U'_ L_ ({ frames := 0, cells := 0, slots := 0, locals := 0 } : Room).cells ({ frames := 0, cells := 0, slots := 0, locals := 0 } : Room).slots) := by
  refine MetFree.of_bodySF (plainFor_of_name pn_205) hisR ?_
  intro pg ee s mm args below meth cc s₁ Bd hml0 hP hK
  obtain ⟨rfl, hZ, hh⟩ := hP
  have hx := Bd.exec
  have hby := Bd.bytes
  have hml : cc.maxLocals = 2 := hml0
  have hown : s.vm.findClass "java/lang/StringUTF16" = some mm.cls := findClass_of_methodNamed Bd.named
  have hnm := (name_of_methodNamed Bd.named Bd.method).1
  have X0 : Stand pg l ee ({ frames := 0, cells := 0, slots := 0, locals := 0 } : Room) s mm #[(.ref bb), (.int (1 : Int32))] below meth cc s₁ [] 0 0 := Stand.of_body Bd
  have e0 : s₁.heap = h0 := by rw [← hh, Bd.state]; rfl
  have N0 := Fr.nil n0
  have K0 : Keep h0 h0 ([] : List Addr) := Keep.refl _ _
  have pre0 : ∀ tg_, Steps pg.tables ee below (s₁.setTop (mkF mm 0 #[.val (.ref bb), .val (.int (1 : Int32))] [])) tg_ → Steps pg.tables ee below (s₁.setTop (entryFrame mm #[(.ref bb), (.int (1 : Int32))] 2)) tg_ := fun tg_ k_ => castTop (ef_24_232 mm bb (1 : Int32)) k_
  obtain ⟨cl1, Ar1, qk1, Sz1, Nn1, Hh1, Gg1⟩ := id Vb
  obtain ⟨fs, hr, hrun, hended, hW, hsame⟩ := X0.leave (v := some (.int (0 : Int32))) (fun h => by rw [Bd.returns] at h; cases h)
  refine ⟨_, _, pre0 _ ?_, hrun, hended, _, _, rfl, ?_, ⟨_, rfl⟩, hW, hsame.mono (by decide) (by decide)⟩
  · show Steps pg.tables ee below (s₁.setTop (mkF mm 0 #[.val (.ref bb), .val (.int (1 : Int32))] [])) _
    refine XS.iloadN X0.here hx rfl (hb hby d24_0) rfl ?_
    show Steps pg.tables ee below (s₁.setTop (mkF mm 1 #[.val (.ref bb), .val (.int (1 : Int32))] [(.int (1 : Int32))])) _
    refine XS.aloadN X0.here hx rfl (hb hby d24_1) rfl rfl ?_
    show Steps pg.tables ee below (s₁.setTop (mkF mm 2 #[.val (.ref bb), .val (.int (1 : Int32))] [(.ref bb), (.int (1 : Int32))])) _
    refine X0.arraylength hx (by rw [e0]; exact Ar1.1) (State.isArrayOf_alike hZ.alike Ar1.2.1) (g := (mkF mm 2 #[.val (.ref bb), .val (.int (1 : Int32))] [(.ref bb), (.int (1 : Int32))])) rfl rfl (hb hby d24_2) _ ?_
    rw [len_of Sz1 Nn1]
    show Steps pg.tables ee below (s₁.setTop (mkF mm 3 #[.val (.ref bb), .val (.int (1 : Int32))] [(.int (1 : Int32)), (.int (1 : Int32))])) _
    refine XS.isub X0.here hx rfl (hb hby d24_3) rfl ?_
    show Steps pg.tables ee below (s₁.setTop (mkF mm 4 #[.val (.ref bb), .val (.int (1 : Int32))] [(.int (0 : Int32))])) _
    refine XS.bipush X0.here hx rfl (hb hby d24_4) ?_
    show Steps pg.tables ee below (s₁.setTop (mkF mm 6 #[.val (.ref bb), .val (.int (1 : Int32))] [(.int (31 : Int32)), (.int (0 : Int32))])) _
    refine XS.iushr X0.here hx rfl (hb hby d24_6) rfl ?_
    show Steps pg.tables ee below (s₁.setTop (mkF mm 7 #[.val (.ref bb), .val (.int (1 : Int32))] [(.int (0 : Int32))])) _
    refine XS.i2b X0.here hx rfl (hb hby d24_7) rfl ?_
    show Steps pg.tables ee below (s₁.setTop (mkF mm 8 #[.val (.ref bb), .val (.int (1 : Int32))] [(.int (0 : Int32))])) _
    exact retN X0 hx (t := .byte) Bd.returns (by simp) (hb hby d24_8) hr
  · show QrmCf1 Z bb kb vs h0 n0 _ s₁.heap _
    rw [e0]
    exact ⟨rfl, N0, rfl⟩
theorem d3_0 : decode jdk_42_method_149_code 0 = .ok (.aload_n 0, 1) := by decide +kernel
theorem d3_1 : decode jdk_42_method_149_code 1 = .ok (.invokespecial 1, 3) := by decide +kernel
theorem d3_4 : decode jdk_42_method_149_code 4 = .ok (.iload_n 3, 1) := by decide +kernel
theorem d3_5 : decode jdk_42_method_149_code 5 = .ok (.ifCond .ne 22, 3) := by decide +kernel
theorem d3_27 : decode jdk_42_method_149_code 27 = .ok (.getstatic 38, 3) := by decide +kernel
theorem d3_30 : decode jdk_42_method_149_code 30 = .ok (.ifCond .eq 28, 3) := by decide +kernel
theorem d3_33 : decode jdk_42_method_149_code 33 = .ok (.aload_n 1, 1) := by decide +kernel
theorem d3_34 : decode jdk_42_method_149_code 34 = .ok (.iload_n 2, 1) := by decide +kernel
theorem d3_35 : decode jdk_42_method_149_code 35 = .ok (.iload_n 3, 1) := by decide +kernel
theorem d3_36 : decode jdk_42_method_149_code 36 = .ok (.invokestatic 177, 3) := by decide +kernel
theorem pd_243 : parseMethodDescriptor "([CII)[B" = some ⟨[(.array .char), .int, .int], some (.array .byte)⟩ := by decide +kernel
theorem d3_39 : decode jdk_42_method_149_code 39 = .ok (.astore 5, 2) := by decide +kernel
theorem d3_41 : decode jdk_42_method_149_code 41 = .ok (.aload_n 0, 1) := by decide +kernel
theorem d3_42 : decode jdk_42_method_149_code 42 = .ok (.aload 5, 2) := by decide +kernel
theorem d3_44 : decode jdk_42_method_149_code 44 = .ok (.iload_n 3, 1) := by decide +kernel
theorem d3_45 : decode jdk_42_method_149_code 45 = .ok (.invokestatic 47, 3) := by decide +kernel
theorem pd_249 : parseMethodDescriptor "([BI)B" = some ⟨[(.array .byte), .int], some .byte⟩ := by decide +kernel
theorem d3_48 : decode jdk_42_method_149_code 48 = .ok (.putfield 15, 3) := by decide +kernel
theorem d3_51 : decode jdk_42_method_149_code 51 = .ok (.aload_n 0, 1) := by decide +kernel
theorem d3_52 : decode jdk_42_method_149_code 52 = .ok (.aload 5, 2) := by decide +kernel
theorem d3_54 : decode jdk_42_method_149_code 54 = .ok (.putfield 9, 3) := by decide +kernel
theorem d3_57 : decode jdk_42_method_149_code 57 = .ok (.return_, 1) := by decide +kernel
theorem ef_3_255 (m : MethodId) (x0 : Addr) (x1 : Addr) (x2 : Int32) (x3 : Int32) : entryFrame m #[(.ref x0), (.ref x1), (.int x2), (.int x3), .null] 6 = mkF m 0 #[.val (.ref x0), .val (.ref x1), .val (.int x2), .val (.int x3), .val .null, .unset] [] := by first | (simp [entryFrame, mkF, argsToLocals, Value.category]; done) | rfl
def QrmV1 (Z : State) (a : Addr) (ch : Addr) (kc : ClassId) (x0 : Int32) (cs : Int32) (h0 : Heap) (n0 : Nat) (v : Option Value) (h : Heap) (L : List Loc) : Prop := v = none ∧ Fr n0 L ∧ Keep h0 h [a] ∧ ∃ (b : Addr) (kb : ClassId) (vs : List Value), Exa Z h a "java/lang/String" ∧ Fld Z h a "java/lang/String" "coder" "B" (.int (0 : Int32)) ∧ Fld Z h a "java/lang/String" "value" "[B" (.ref b) ∧ Arv Z h b kb .byte (1 : Int32) vs (.int 0)
set_option maxRecDepth 65536 in
set_option maxHeartbeats 40000000 in
theorem rmV1 (l : Launch) (Z : State) (a0 : Array Value) (hw : ∀ d ∈ tables_1, d.before a0 Z = true) (ws : List Jvm.Cond) (a : Addr) (ch : Addr) (kc : ClassId) (x0 : Int32) (cs : Int32) (h0 : Heap) (n0 : Nat) (O0 : Old Z n0 h0) (E_a : Exa Z h0 a "java/lang/String") (F_value_a : Fld Z h0 a "java/lang/String" "value" "[B" .null) (F_coder_a : Fld Z h0 a "java/lang/String" "coder" "B" (.int (0 : Int32))) (g_a : n0 ≤ a) (Vc : Arv Z h0 ch kc .char (1 : Int32) [(.int x0)] (.int (0 : Int32))) (hca : ch ≠ a) (hx0 : ¬ ((255 : Int32) < x0)) (S_CS : Sta Z Z.heap "java/lang/String" "COMPACT_STRINGS" "Z" (.int cs)) (hcs : ¬ (cs = (0 : Int32))) :
    MetFree l (⟨"java/lang/String", "<init>", "([CIILjava/lang/Void;)V"⟩ : MethodName) (head1 (Jvm.Cond.code (⟨"java/lang/String", "<init>", "([CIILjava/lang/Void;)V"⟩ : MethodName) jdk_42_method_149_code 6 none :: ws) ({ frames := 2, cells := 1, slots := 1, locals := 35 } : Room)) (fun a_ U_ => a_ = #[(.ref a), (.ref ch), (.int (0 : Int32)), (.int (1 : Int32)), .null] ∧ Z.Warmed39 U_.vm ∧ U_.heap = h0) (fun _ _ _ _ _ => True) (fun _ U_ o_ U'_ => ∃ v_ L_, o_ = .returned v_ ∧ QrmV1 Z a ch kc x0 cs h0 n0 v_ U'_.heap L_ ∧ FrameEnd U_ o_ U'_ L_ ({ frames := 2, cells := 1, slots := 1, locals := 35 } : Room).cells ({ frames := 2, cells := 1, slots := 1, locals := 35 } : Room).slots) := by
  refine MetFree.of_bodySF (plainFor_of_name pn_6) hisR ?_
  intro pg ee s mm args below meth cc s₁ Bd hml0 hP hK
  obtain ⟨rfl, hZ, hh⟩ := hP
  have hx := Bd.exec
  have hby := Bd.bytes
  have hml : cc.maxLocals = 6 := hml0
  have hown : s.vm.findClass "java/lang/String" = some mm.cls := findClass_of_methodNamed Bd.named
  have hnm := (name_of_methodNamed Bd.named Bd.method).1
  have X0 : Stand pg l ee ({ frames := 2, cells := 1, slots := 1, locals := 35 } : Room) s mm #[(.ref a), (.ref ch), (.int (0 : Int32)), (.int (1 : Int32)), .null] below meth cc s₁ [] 0 0 := Stand.of_body Bd
  have e0 : s₁.heap = h0 := by rw [← hh, Bd.state]; rfl
  have N0 := Fr.nil n0
  have K0 : Keep h0 h0 ([a] : List Addr) := Keep.refl _ _
  have pre0 : ∀ tg_, Steps pg.tables ee below (s₁.setTop (mkF mm 0 #[.val (.ref a), .val (.ref ch), .val (.int (0 : Int32)), .val (.int (1 : Int32)), .val .null, .unset] [])) tg_ → Steps pg.tables ee below (s₁.setTop (entryFrame mm #[(.ref a), (.ref ch), (.int (0 : Int32)), (.int (1 : Int32)), .null] 6)) tg_ := fun tg_ k_ => castTop (ef_3_255 mm a ch (0 : Int32) (1 : Int32)) k_
  obtain ⟨T1, X1, e1, st1⟩ := initO X0 hx hZ hown (hw _ (List.mem_of_getElem? (i := 15) rfl)) (hw _ (List.mem_of_getElem? (i := 16) rfl)) (hw _ (List.mem_of_getElem? (i := 17) rfl)) e0 (g := (mkF mm 1 #[.val (.ref a), .val (.ref ch), .val (.int (0 : Int32)), .val (.int (1 : Int32)), .val .null, .unset] [(.ref a)])) rfl (by rw [hml]; rfl) rfl (hb hby d3_1) (by decide) (W := 0) (by show 2 * 0 + _ ≤ _; exact Nat.le_of_eq rfl) (by decide)
  obtain ⟨T2, X2, e2, st2⟩ := getS2 X1 hx hZ hown (host := "") (Or.inl (hw _ (List.mem_of_getElem? (i := 99) rfl))) Via.refl e1 (S_CS.ext O0.2) (g := (mkF mm 27 #[.val (.ref a), .val (.ref ch), .val (.int (0 : Int32)), .val (.int (1 : Int32)), .val .null, .unset] [])) rfl (hb hby d3_27)
  obtain ⟨_, _, ⟨T3, L3, k3, n3⟩, -, X3, ⟨Lc3, hQ3, l3, y3, z3⟩, st3⟩ := Jvm.LawKit.callS X2 hx (y := (⟨"java/lang/StringUTF16", "compress", "([CII)[B"⟩ : MethodName)) hown (mvT hZ (hw _ (List.mem_of_getElem? (i := 119) rfl))) (mvT hZ (hw _ (List.mem_of_getElem? (i := 120) rfl))) (mvT hZ (hw _ (List.mem_of_getElem? (i := 121) rfl))) (mvT hZ (hw _ (List.mem_of_getElem? (i := 122) rfl))) (by decide) (backOf (W := 0) (rmCm1 l Z a0 hw [] ch kc x0 h0 n0 O0 Vc hx0) hZ (hw _ (List.mem_of_getElem? (i := 122) rfl)) (hw _ (List.mem_of_getElem? (i := 121) rfl)) (by decide) (by decide)) (g := (mkF mm 36 #[.val (.ref a), .val (.ref ch), .val (.int (0 : Int32)), .val (.int (1 : Int32)), .val .null, .unset] [(.int (1 : Int32)), (.int (0 : Int32)), (.ref ch)])) rfl (by rw [hml]; rfl) (argsL := [(.ref ch), (.int (0 : Int32)), (.int (1 : Int32))]) (rest := []) (lenOf pd_243 rfl) rfl (by show 2 * 0 + _ ≤ _; exact Nat.le_of_eq rfl) (hb hby d3_36) (fun _ _ => ⟨rfl, e2, (by decide : 0 + 1 ≤ _), (by decide : 0 + 1 ≤ _)⟩)
  dsimp only [Pt.U, Pt.locs, Pt.cells, Pt.slots] at X3 l3 y3 z3 st3 hQ3
  subst l3 y3 z3
  obtain ⟨bb3, kb3, vs3, rfl, N3q, K3, g_bb3, sz_bb3, Vw3⟩ := hQ3
  have O3 := O0.keep K3 all0
  have KK3 := K0.trans K3 all0
  have N3 := Fr.app N0 N3q
  obtain ⟨_, _, ⟨T4, L4, k4, n4⟩, -, X4, ⟨Lc4, hQ4, l4, y4, z4⟩, st4⟩ := Jvm.LawKit.callS X3 hx (y := (⟨"java/lang/StringUTF16", "coderFromArrayLen", "([BI)B"⟩ : MethodName)) hown (mvT hZ (hw _ (List.mem_of_getElem? (i := 126) rfl))) (mvT hZ (hw _ (List.mem_of_getElem? (i := 127) rfl))) (mvT hZ (hw _ (List.mem_of_getElem? (i := 121) rfl))) (mvT hZ (hw _ (List.mem_of_getElem? (i := 128) rfl))) (by decide) (backOf (W := 1) (rmCf1 l Z a0 hw [] bb3 kb3 vs3 T3.heap n0 O3 Vw3) hZ (hw _ (List.mem_of_getElem? (i := 128) rfl)) (hw _ (List.mem_of_getElem? (i := 121) rfl)) (by decide) (by decide)) (g := (mkF mm 45 #[.val (.ref a), .val (.ref ch), .val (.int (0 : Int32)), .val (.int (1 : Int32)), .val .null, .val (.ref bb3)] [(.int (1 : Int32)), (.ref bb3), (.ref a)])) rfl (by rw [hml]; rfl) (argsL := [(.ref bb3), (.int (1 : Int32))]) (rest := [(.ref a)]) (lenOf pd_249 rfl) rfl (by show 2 * 0 + _ ≤ _; exact Nat.le_of_eq rfl) (hb hby d3_45) (fun _ _ => ⟨rfl, rfl, (by decide : 1 + 0 ≤ _), (by decide : 1 + 0 ≤ _)⟩)
  dsimp only [Pt.U, Pt.locs, Pt.cells, Pt.slots] at X4 l4 y4 z4 st4 hQ4
  subst l4 y4 z4
  obtain ⟨rfl, N4q, e4⟩ := hQ4
  have N4 := Fr.app N3 N4q
  obtain ⟨T5, h5, X5, e5, W5, st5⟩ := putFN X4 hx hZ hown (hw _ (List.mem_of_getElem? (i := 25) rfl)) Via.refl e4 (F_coder_a.keep K3 nin0) (E_a.keep K3) (Or.inr ⟨(hw _ (List.mem_of_getElem? (i := 21) rfl)), rfl, hnm⟩) (hw _ (List.mem_of_getElem? (i := 5) rfl)) (ty := .byte) (v' := (.int (0 : Int32))) (by decide) rfl (by decide) (g := (mkF mm 48 #[.val (.ref a), .val (.ref ch), .val (.int (0 : Int32)), .val (.int (1 : Int32)), .val .null, .val (.ref bb3)] [(.int (0 : Int32)), (.ref a)])) rfl rfl (hb hby d3_48)
  have Fw5 : Fld Z h5 a "java/lang/String" "coder" "B" (.int (0 : Int32)) := (F_coder_a.keep K3 nin0).same W5
  have N5 := Fr.snoc X5 N4 g_a
  have O5 := O3.wr W5 g_a
  have KK5 := KK3.wr W5 (Or.inl (by simp))
  obtain ⟨T6, h6, X6, e6, W6, st6⟩ := putF X5 hx hZ hown (host := "") (Or.inl (hw _ (List.mem_of_getElem? (i := 24) rfl))) Via.refl e5 ((F_value_a.keep K3 nin0).other W5 (Or.inr (slot_ne (Or.inr (hw _ (List.mem_of_getElem? (i := 20) rfl))) (Or.inr (hw _ (List.mem_of_getElem? (i := 21) rfl))) (by decide) (t := (.array .byte)) (t' := .byte) (by decide) (by decide)))) ((E_a.keep K3).wr W5) (Or.inr ⟨(hw _ (List.mem_of_getElem? (i := 20) rfl)), rfl, hnm⟩) (hw _ (List.mem_of_getElem? (i := 5) rfl)) (ty := (.array .byte)) (by decide) rfl rfl (g := (mkF mm 54 #[.val (.ref a), .val (.ref ch), .val (.int (0 : Int32)), .val (.int (1 : Int32)), .val .null, .val (.ref bb3)] [(.ref bb3), (.ref a)])) rfl rfl (hb hby d3_54)
  have Fw6 : Fld Z h6 a "java/lang/String" "value" "[B" (.ref bb3) := ((F_value_a.keep K3 nin0).other W5 (Or.inr (slot_ne (Or.inr (hw _ (List.mem_of_getElem? (i := 20) rfl))) (Or.inr (hw _ (List.mem_of_getElem? (i := 21) rfl))) (by decide) (t := (.array .byte)) (t' := .byte) (by decide) (by decide)))).same W6
  have N6 := Fr.snoc X6 N5 g_a
  have O6 := O5.wr W6 g_a
  have KK6 := KK5.wr W6 (Or.inl (by simp))
  obtain ⟨fs, hr, hrun, hended, hW, hsame⟩ := X6.leave (v := none) (fun _ => rfl)
  refine ⟨_, _, pre0 _ ?_, hrun, hended, _, _, rfl, ?_, ⟨_, rfl⟩, hW, hsame.mono (by decide) (by decide)⟩
  · show Steps pg.tables ee below (s₁.setTop (mkF mm 0 #[.val (.ref a), .val (.ref ch), .val (.int (0 : Int32)), .val (.int (1 : Int32)), .val .null, .unset] [])) _
    refine XS.aloadN X0.here hx rfl (hb hby d3_0) rfl rfl ?_
    show Steps pg.tables ee below (s₁.setTop (mkF mm 1 #[.val (.ref a), .val (.ref ch), .val (.int (0 : Int32)), .val (.int (1 : Int32)), .val .null, .unset] [(.ref a)])) _
    refine st1 _ ?_
    show Steps pg.tables ee below (T1.setTop (mkF mm 4 #[.val (.ref a), .val (.ref ch), .val (.int (0 : Int32)), .val (.int (1 : Int32)), .val .null, .unset] [])) _
    refine XS.iloadN X1.here hx rfl (hb hby d3_4) rfl ?_
    show Steps pg.tables ee below (T1.setTop (mkF mm 5 #[.val (.ref a), .val (.ref ch), .val (.int (0 : Int32)), .val (.int (1 : Int32)), .val .null, .unset] [(.int (1 : Int32))])) _
    refine XS.ifYes X1.here hx rfl (pc0 := 5) (pc' := 27) rfl (hb hby d3_5) rfl ((if0 _ _).trans (feq (by decide : ¬ ((1 : Int32) = (0 : Int32)))).2) (by decide) (by decide) ?_
    show Steps pg.tables ee below (T1.setTop (mkF mm 27 #[.val (.ref a), .val (.ref ch), .val (.int (0 : Int32)), .val (.int (1 : Int32)), .val .null, .unset] [])) _
    refine st2 _ ?_
    show Steps pg.tables ee below (T2.setTop (mkF mm 30 #[.val (.ref a), .val (.ref ch), .val (.int (0 : Int32)), .val (.int (1 : Int32)), .val .null, .unset] [(.int cs)])) _
    refine XS.ifNo X2.here hx rfl (hb hby d3_30) rfl ((if0 _ _).trans (feq hcs).1) ?_
    show Steps pg.tables ee below (T2.setTop (mkF mm 33 #[.val (.ref a), .val (.ref ch), .val (.int (0 : Int32)), .val (.int (1 : Int32)), .val .null, .unset] [])) _
    refine XS.aloadN X2.here hx rfl (hb hby d3_33) rfl rfl ?_
    show Steps pg.tables ee below (T2.setTop (mkF mm 34 #[.val (.ref a), .val (.ref ch), .val (.int (0 : Int32)), .val (.int (1 : Int32)), .val .null, .unset] [(.ref ch)])) _
    refine XS.iloadN X2.here hx rfl (hb hby d3_34) rfl ?_
    show Steps pg.tables ee below (T2.setTop (mkF mm 35 #[.val (.ref a), .val (.ref ch), .val (.int (0 : Int32)), .val (.int (1 : Int32)), .val .null, .unset] [(.int (0 : Int32)), (.ref ch)])) _
    refine XS.iloadN X2.here hx rfl (hb hby d3_35) rfl ?_
    show Steps pg.tables ee below (T2.setTop (mkF mm 36 #[.val (.ref a), .val (.ref ch), .val (.int (0 : Int32)), .val (.int (1 : Int32)), .val .null, .unset] [(.int (1 : Int32)), (.int (0 : Int32)), (.ref ch)])) _
    refine st3 _ ?_
    show Steps pg.tables ee below (T3.setTop (mkF mm 39 #[.val (.ref a), .val (.ref ch), .val (.int (0 : Int32)), .val (.int (1 : Int32)), .val .null, .unset] [(.ref bb3)])) _
    refine XS.astore X3.here hx rfl (hb hby d3_39) rfl rfl (l' := #[.val (.ref a), .val (.ref ch), .val (.int (0 : Int32)), .val (.int (1 : Int32)), .val .null, .val (.ref bb3)]) rfl ?_
    show Steps pg.tables ee below (T3.setTop (mkF mm 41 #[.val (.ref a), .val (.ref ch), .val (.int (0 : Int32)), .val (.int (1 : Int32)), .val .null, .val (.ref bb3)] [])) _
    refine XS.aloadN X3.here hx rfl (hb hby d3_41) rfl rfl ?_
    show Steps pg.tables ee below (T3.setTop (mkF mm 42 #[.val (.ref a), .val (.ref ch), .val (.int (0 : Int32)), .val (.int (1 : Int32)), .val .null, .val (.ref bb3)] [(.ref a)])) _
    refine XS.aload X3.here hx rfl (hb hby d3_42) rfl rfl ?_
    show Steps pg.tables ee below (T3.setTop (mkF mm 44 #[.val (.ref a), .val (.ref ch), .val (.int (0 : Int32)), .val (.int (1 : Int32)), .val .null, .val (.ref bb3)] [(.ref bb3), (.ref a)])) _
    refine XS.iloadN X3.here hx rfl (hb hby d3_44) rfl ?_
    show Steps pg.tables ee below (T3.setTop (mkF mm 45 #[.val (.ref a), .val (.ref ch), .val (.int (0 : Int32)), .val (.int (1 : Int32)), .val .null, .val (.ref bb3)] [(.int (1 : Int32)), (.ref bb3), (.ref a)])) _
    refine st4 _ ?_
    show Steps pg.tables ee below (T4.setTop (mkF mm 48 #[.val (.ref a), .val (.ref ch), .val (.int (0 : Int32)), .val (.int (1 : Int32)), .val .null, .val (.ref bb3)] [(.int (0 : Int32)), (.ref a)])) _
    refine st5 _ ?_
    show Steps pg.tables ee below (T5.setTop (mkF mm 51 #[.val (.ref a), .val (.ref ch), .val (.int (0 : Int32)), .val (.int (1 : Int32)), .val .null, .val (.ref bb3)] [])) _
    refine XS.aloadN X5.here hx rfl (hb hby d3_51) rfl rfl ?_
    show Steps pg.tables ee below (T5.setTop (mkF mm 52 #[.val (.ref a), .val (.ref ch), .val (.int (0 : Int32)), .val (.int (1 : Int32)), .val .null, .val (.ref bb3)] [(.ref a)])) _
    refine XS.aload X5.here hx rfl (hb hby d3_52) rfl rfl ?_
    show Steps pg.tables ee below (T5.setTop (mkF mm 54 #[.val (.ref a), .val (.ref ch), .val (.int (0 : Int32)), .val (.int (1 : Int32)), .val .null, .val (.ref bb3)] [(.ref bb3), (.ref a)])) _
    refine st6 _ ?_
    show Steps pg.tables ee below (T6.setTop (mkF mm 57 #[.val (.ref a), .val (.ref ch), .val (.int (0 : Int32)), .val (.int (1 : Int32)), .val .null, .val (.ref bb3)] [])) _
    exact X6.returnOut hx Bd.returns (hb hby d3_57) hr
  · show QrmV1 Z a ch kc x0 cs h0 n0 _ T6.heap _
    rw [e6]
    exact ⟨rfl, N6, KK6, _, _, _, (((E_a.keep K3).wr W5).wr W6), (Fw5.other W6 (Or.inr (slot_ne (Or.inr (hw _ (List.mem_of_getElem? (i := 21) rfl))) (Or.inr (hw _ (List.mem_of_getElem? (i := 20) rfl))) (by decide) (t := .byte) (t' := (.array .byte)) (by decide) (by decide)))), Fw6, ((Vw3.other W5 (Ne.symm (Nat.ne_of_lt (Nat.lt_of_lt_of_le E_a.lt sz_bb3)))).other W6 (Ne.symm (Nat.ne_of_lt (Nat.lt_of_lt_of_le E_a.lt sz_bb3))))⟩
theorem d2_0 : decode jdk_42_method_3_code 0 = .ok (.aload_n 0, 1) := by decide +kernel
theorem d2_1 : decode jdk_42_method_3_code 1 = .ok (.aload_n 1, 1) := by decide +kernel
theorem d2_2 : decode jdk_42_method_3_code 2 = .ok (.iconst 0, 1) := by decide +kernel
theorem d2_3 : decode jdk_42_method_3_code 3 = .ok (.aload_n 1, 1) := by decide +kernel
theorem d2_4 : decode jdk_42_method_3_code 4 = .ok (.arraylength, 1) := by decide +kernel
theorem d2_5 : decode jdk_42_method_3_code 5 = .ok (.aconst_null, 1) := by decide +kernel
theorem d2_6 : decode jdk_42_method_3_code 6 = .ok (.invokespecial 27, 3) := by decide +kernel
theorem pd_263 : parseMethodDescriptor "([CIILjava/lang/Void;)V" = some ⟨[(.array .char), .int, .int, (.object "java/lang/Void")], none⟩ := by decide +kernel
theorem d2_9 : decode jdk_42_method_3_code 9 = .ok (.return_, 1) := by decide +kernel
theorem ef_2_265 (m : MethodId) (x0 : Addr) (x1 : Addr) : entryFrame m #[(.ref x0), (.ref x1)] 2 = mkF m 0 #[.val (.ref x0), .val (.ref x1)] [] := by first | (simp [entryFrame, mkF, argsToLocals, Value.category]; done) | rfl
def QrmC1 (Z : State) (a : Addr) (ch : Addr) (kc : ClassId) (x0 : Int32) (cs : Int32) (h0 : Heap) (n0 : Nat) (v : Option Value) (h : Heap) (L : List Loc) : Prop := v = none ∧ Fr n0 L ∧ Keep h0 h [a] ∧ ∃ (b : Addr) (kb : ClassId) (vs : List Value), Exa Z h a "java/lang/String" ∧ Fld Z h a "java/lang/String" "coder" "B" (.int (0 : Int32)) ∧ Fld Z h a "java/lang/String" "value" "[B" (.ref b) ∧ Arv Z h b kb .byte (1 : Int32) vs (.int 0)
set_option maxRecDepth 65536 in
set_option maxHeartbeats 40000000 in
theorem rmC1 (l : Launch) (Z : State) (a0 : Array Value) (hw : ∀ d ∈ tables_1, d.before a0 Z = true) (ws : List Jvm.Cond) (a : Addr) (ch : Addr) (kc : ClassId) (x0 : Int32) (cs : Int32) (h0 : Heap) (n0 : Nat) (O0 : Old Z n0 h0) (E_a : Exa Z h0 a "java/lang/String") (F_value_a : Fld Z h0 a "java/lang/String" "value" "[B" .null) (F_coder_a : Fld Z h0 a "java/lang/String" "coder" "B" (.int (0 : Int32))) (g_a : n0 ≤ a) (Vc : Arv Z h0 ch kc .char (1 : Int32) [(.int x0)] (.int (0 : Int32))) (hca : ch ≠ a) (hx0 : ¬ ((255 : Int32) < x0)) (S_CS : Sta Z Z.heap "java/lang/String" "COMPACT_STRINGS" "Z" (.int cs)) (hcs : ¬ (cs = (0 : Int32))) :
    MetFree l (⟨"java/lang/String", "<init>", "([C)V"⟩ : MethodName) (head1 (Jvm.Cond.code (⟨"java/lang/String", "<init>", "([C)V"⟩ : MethodName) jdk_42_method_3_code 2 none :: ws) ({ frames := 3, cells := 1, slots := 1, locals := 52 } : Room)) (fun a_ U_ => a_ = #[(.ref a), (.ref ch)] ∧ Z.Warmed39 U_.vm ∧ U_.heap = h0) (fun _ _ _ _ _ => True) (fun _ U_ o_ U'_ => ∃ v_ L_, o_ = .returned v_ ∧ QrmC1 Z a ch kc x0 cs h0 n0 v_ U'_.heap L_ ∧ FrameEnd U_ o_ U'_ L_ ({ frames := 3, cells := 1, slots := 1, locals := 52 } : Room).cells ({ frames := 3, cells := 1, slots := 1, locals := 52 } : Room).slots) := by
  refine MetFree.of_bodySF (plainFor_of_name pn_6) hisR ?_
  intro pg ee s mm args below meth cc s₁ Bd hml0 hP hK
  obtain ⟨rfl, hZ, hh⟩ := hP
  have hx := Bd.exec
  have hby := Bd.bytes
  have hml : cc.maxLocals = 2 := hml0
  have hown : s.vm.findClass "java/lang/String" = some mm.cls := findClass_of_methodNamed Bd.named
  have hnm := (name_of_methodNamed Bd.named Bd.method).1
  have X0 : Stand pg l ee ({ frames := 3, cells := 1, slots := 1, locals := 52 } : Room) s mm #[(.ref a), (.ref ch)] below meth cc s₁ [] 0 0 := Stand.of_body Bd
  have e0 : s₁.heap = h0 := by rw [← hh, Bd.state]; rfl
  have N0 := Fr.nil n0
  have K0 : Keep h0 h0 ([a] : List Addr) := Keep.refl _ _
  have pre0 : ∀ tg_, Steps pg.tables ee below (s₁.setTop (mkF mm 0 #[.val (.ref a), .val (.ref ch)] [])) tg_ → Steps pg.tables ee below (s₁.setTop (entryFrame mm #[(.ref a), (.ref ch)] 2)) tg_ := fun tg_ k_ => castTop (ef_2_265 mm a ch) k_
  obtain ⟨cl1, Ar1, qk1, Sz1, Nn1, Hh1, Gg1⟩ := id Vc
  obtain ⟨_, _, ⟨T2, L2, k2, n2⟩, -, X2, ⟨Lc2, hQ2, l2, y2, z2⟩, st2⟩ := X0.specialBack hx (y := (⟨"java/lang/String", "<init>", "([CIILjava/lang/Void;)V"⟩ : MethodName)) rfl hown (mvT hZ (hw _ (List.mem_of_getElem? (i := 11) rfl))) (mvT hZ (hw _ (List.mem_of_getElem? (i := 12) rfl))) (mvT hZ (hw _ (List.mem_of_getElem? (i := 14) rfl))) (by decide) (backOf (W := 0) (rmV1 l Z a0 hw [] a ch kc x0 cs h0 n0 O0 E_a F_value_a F_coder_a g_a Vc hca hx0 S_CS hcs) hZ (hw _ (List.mem_of_getElem? (i := 14) rfl)) (hw _ (List.mem_of_getElem? (i := 6) rfl)) (by decide) (by decide)) (g := (mkF mm 6 #[.val (.ref a), .val (.ref ch)] [.null, (.int (1 : Int32)), (.int (0 : Int32)), (.ref ch), (.ref a)])) rfl (by rw [hml]; rfl) (Steps.refl _) (a := a) (argsL := [(.ref ch), (.int (0 : Int32)), (.int (1 : Int32)), .null]) (rest := []) (lenOf pd_263 rfl) rfl (by show 2 * 0 + _ ≤ _; exact Nat.le_of_eq rfl) (hb hby d2_6) (fun _ _ => ⟨rfl, e0, (by decide : 0 + 1 ≤ _), (by decide : 0 + 1 ≤ _)⟩)
  dsimp only [Pt.U, Pt.locs, Pt.cells, Pt.slots] at X2 l2 y2 z2 st2 hQ2
  subst l2 y2 z2
  obtain ⟨rfl, N2q, K2, sb2, kb2, vs2, Ex2, Fc2, Fv2, Va2⟩ := hQ2
  have O2 := O0.keep K2 (allS g_a all0)
  have KK2 := K0.trans K2 (allS (Or.inl (by simp)) all0)
  have N2 := Fr.app N0 N2q
  obtain ⟨fs, hr, hrun, hended, hW, hsame⟩ := X2.leave (v := none) (fun _ => rfl)
  refine ⟨_, _, pre0 _ ?_, hrun, hended, _, _, rfl, ?_, ⟨_, rfl⟩, hW, hsame.mono (by decide) (by decide)⟩
  · show Steps pg.tables ee below (s₁.setTop (mkF mm 0 #[.val (.ref a), .val (.ref ch)] [])) _
    refine XS.aloadN X0.here hx rfl (hb hby d2_0) rfl rfl ?_
    show Steps pg.tables ee below (s₁.setTop (mkF mm 1 #[.val (.ref a), .val (.ref ch)] [(.ref a)])) _
    refine XS.aloadN X0.here hx rfl (hb hby d2_1) rfl rfl ?_
    show Steps pg.tables ee below (s₁.setTop (mkF mm 2 #[.val (.ref a), .val (.ref ch)] [(.ref ch), (.ref a)])) _
    refine XS.iconst X0.here hx rfl (hb hby d2_2) ?_
    show Steps pg.tables ee below (s₁.setTop (mkF mm 3 #[.val (.ref a), .val (.ref ch)] [(.int (0 : Int32)), (.ref ch), (.ref a)])) _
    refine XS.aloadN X0.here hx rfl (hb hby d2_3) rfl rfl ?_
    show Steps pg.tables ee below (s₁.setTop (mkF mm 4 #[.val (.ref a), .val (.ref ch)] [(.ref ch), (.int (0 : Int32)), (.ref ch), (.ref a)])) _
    refine X0.arraylength hx (by rw [e0]; exact Ar1.1) (State.isArrayOf_alike hZ.alike Ar1.2.1) (g := (mkF mm 4 #[.val (.ref a), .val (.ref ch)] [(.ref ch), (.int (0 : Int32)), (.ref ch), (.ref a)])) rfl rfl (hb hby d2_4) _ ?_
    rw [len_of Sz1 Nn1]
    show Steps pg.tables ee below (s₁.setTop (mkF mm 5 #[.val (.ref a), .val (.ref ch)] [(.int (1 : Int32)), (.int (0 : Int32)), (.ref ch), (.ref a)])) _
    refine XS.aconstNull X0.here hx rfl (hb hby d2_5) ?_
    show Steps pg.tables ee below (s₁.setTop (mkF mm 6 #[.val (.ref a), .val (.ref ch)] [.null, (.int (1 : Int32)), (.int (0 : Int32)), (.ref ch), (.ref a)])) _
    refine st2.trans ?_
    show Steps pg.tables ee below (T2.setTop (mkF mm 9 #[.val (.ref a), .val (.ref ch)] [])) _
    exact X2.returnOut hx Bd.returns (hb hby d2_9) hr
  · show QrmC1 Z a ch kc x0 cs h0 n0 _ T2.heap _
    exact ⟨rfl, N2, KK2, _, _, _, Ex2, Fc2, Fv2, Va2⟩
theorem d1_0 : decode method_3_code 0 = .ok (.iload_n 1, 1) := by decide +kernel
theorem d1_1 : decode method_3_code 1 = .ok (.sipush 255, 3) := by decide +kernel
theorem d1_4 : decode method_3_code 4 = .ok (.iand, 1) := by decide +kernel
theorem d1_5 : decode method_3_code 5 = .ok (.i2c, 1) := by decide +kernel
theorem d1_6 : decode method_3_code 6 = .ok (.istore_n 2, 1) := by decide +kernel
theorem d1_7 : decode method_3_code 7 = .ok (.iload_n 1, 1) := by decide +kernel
theorem d1_8 : decode method_3_code 8 = .ok (.bipush 8, 2) := by decide +kernel
theorem d1_10 : decode method_3_code 10 = .ok (.iushr, 1) := by decide +kernel
theorem d1_11 : decode method_3_code 11 = .ok (.sipush 255, 3) := by decide +kernel
theorem d1_14 : decode method_3_code 14 = .ok (.iand, 1) := by decide +kernel
theorem d1_15 : decode method_3_code 15 = .ok (.i2c, 1) := by decide +kernel
theorem d1_16 : decode method_3_code 16 = .ok (.istore_n 3, 1) := by decide +kernel
theorem d1_17 : decode method_3_code 17 = .ok (.iload_n 1, 1) := by decide +kernel
theorem d1_18 : decode method_3_code 18 = .ok (.bipush 16, 2) := by decide +kernel
theorem d1_20 : decode method_3_code 20 = .ok (.iushr, 1) := by decide +kernel
theorem d1_21 : decode method_3_code 21 = .ok (.sipush 255, 3) := by decide +kernel
theorem d1_24 : decode method_3_code 24 = .ok (.iand, 1) := by decide +kernel
theorem d1_25 : decode method_3_code 25 = .ok (.i2c, 1) := by decide +kernel
theorem d1_26 : decode method_3_code 26 = .ok (.istore 4, 2) := by decide +kernel
theorem d1_28 : decode method_3_code 28 = .ok (.iload_n 0, 1) := by decide +kernel
theorem d1_29 : decode method_3_code 29 = .ok (.ifCond .ne 14, 3) := by decide +kernel
theorem d1_43 : decode method_3_code 43 = .ok (.iload_n 0, 1) := by decide +kernel
theorem d1_44 : decode method_3_code 44 = .ok (.iconst 1, 1) := by decide +kernel
theorem d1_45 : decode method_3_code 45 = .ok (.if_icmp .ne 18, 3) := by decide +kernel
theorem d1_48 : decode method_3_code 48 = .ok (.new 24, 3) := by decide +kernel
theorem d1_51 : decode method_3_code 51 = .ok (.dup, 1) := by decide +kernel
theorem d1_52 : decode method_3_code 52 = .ok (.iconst 1, 1) := by decide +kernel
theorem d1_53 : decode method_3_code 53 = .ok (.newarray .char, 2) := by decide +kernel
theorem d1_55 : decode method_3_code 55 = .ok (.dup, 1) := by decide +kernel
theorem d1_56 : decode method_3_code 56 = .ok (.iconst 0, 1) := by decide +kernel
theorem d1_57 : decode method_3_code 57 = .ok (.iload_n 2, 1) := by decide +kernel
theorem d1_58 : decode method_3_code 58 = .ok (.castore, 1) := by decide +kernel
theorem d1_59 : decode method_3_code 59 = .ok (.invokespecial 51, 3) := by decide +kernel
theorem pd_299 : parseMethodDescriptor "([C)V" = some ⟨[(.array .char)], none⟩ := by decide +kernel
theorem d1_62 : decode method_3_code 62 = .ok (.areturn, 1) := by decide +kernel
theorem ef_1_301 (m : MethodId) (x0 : Int32) (x1 : Int32) : entryFrame m #[(.int x0), (.int x1)] 5 = mkF m 0 #[.val (.int x0), .val (.int x1), .unset, .unset, .unset] [] := by first | (simp [entryFrame, mkF, argsToLocals, Value.category]; done) | rfl
set_option maxRecDepth 65536 in
set_option maxHeartbeats 40000000 in
theorem rmD1 (l : Launch) (Z : State) (a0 : Array Value) (hw : ∀ d ∈ tables_1, d.before a0 Z = true) (ws : List Jvm.Cond) (bits : Int32) (cs : Int32) (h0 : Heap) (n0 : Nat) (O0 : Old Z n0 h0) (S_CS : Sta Z Z.heap "java/lang/String" "COMPACT_STRINGS" "Z" (.int cs)) (hcs : ¬ (cs = (0 : Int32))) :
    MetFree l (⟨"com/example/orders_into_outcomes/ordersintooutcomes/model/TextLimitOptionalPinLaw", "draw", "(II)Ljava/lang/String;"⟩ : MethodName) (head1 (Jvm.Cond.code (⟨"com/example/orders_into_outcomes/ordersintooutcomes/model/TextLimitOptionalPinLaw", "draw", "(II)Ljava/lang/String;"⟩ : MethodName) method_3_code 5 (some (.object "java/lang/String")) :: ws) ({ frames := 4, cells := 6, slots := 12, locals := 66 } : Room)) (fun a_ U_ => a_ = #[(.int (1 : Int32)), (.int bits)] ∧ Z.Warmed39 U_.vm ∧ U_.heap = h0) (fun _ _ _ _ _ => True) (fun _ U_ o_ U'_ => ∃ v_ L_, o_ = .returned v_ ∧ QD Z (1 : Int32) h0 n0 v_ U'_.heap L_ ∧ FrameEnd U_ o_ U'_ L_ ({ frames := 4, cells := 6, slots := 12, locals := 66 } : Room).cells ({ frames := 4, cells := 6, slots := 12, locals := 66 } : Room).slots) := by
  refine MetFree.of_bodySF (plainFor_of_name pn_77) hisR ?_
  intro pg ee s mm args below meth cc s₁ Bd hml0 hP hK
  obtain ⟨rfl, hZ, hh⟩ := hP
  have hx := Bd.exec
  have hby := Bd.bytes
  have hml : cc.maxLocals = 5 := hml0
  have hown : s.vm.findClass "com/example/orders_into_outcomes/ordersintooutcomes/model/TextLimitOptionalPinLaw" = some mm.cls := findClass_of_methodNamed Bd.named
  have hnm := (name_of_methodNamed Bd.named Bd.method).1
  have X0 : Stand pg l ee ({ frames := 4, cells := 6, slots := 12, locals := 66 } : Room) s mm #[(.int (1 : Int32)), (.int bits)] below meth cc s₁ [] 0 0 := Stand.of_body Bd
  have e0 : s₁.heap = h0 := by rw [← hh, Bd.state]; rfl
  have N0 := Fr.nil n0
  have K0 : Keep h0 h0 ([] : List Addr) := Keep.refl _ _
  have pre0 : ∀ tg_, Steps pg.tables ee below (s₁.setTop (mkF mm 0 #[.val (.int (1 : Int32)), .val (.int bits), .unset, .unset, .unset] [])) tg_ → Steps pg.tables ee below (s₁.setTop (entryFrame mm #[(.int (1 : Int32)), (.int bits)] 5)) tg_ := fun tg_ k_ => castTop (ef_1_301 mm (1 : Int32) bits) k_
  obtain ⟨T1, h1, X1, e1, E1, A1, D1, -, st1⟩ := newO X0 hx hZ hown (hw _ (List.mem_of_getElem? (i := 4) rfl)) (hw _ (List.mem_of_getElem? (i := 5) rfl)) (hw _ (List.mem_of_getElem? (i := 6) rfl)) e0 (g := (mkF mm 48 #[.val (.int (1 : Int32)), .val (.int bits), .val (.int ((bits &&& (255 : Int32)).toUInt32.toUInt16.toUInt32.toInt32)), .val (.int ((((bits.toUInt32 >>> ((8 : Int32) &&& 31).toUInt32).toInt32) &&& (255 : Int32)).toUInt32.toUInt16.toUInt32.toInt32)), .val (.int ((((bits.toUInt32 >>> ((16 : Int32) &&& 31).toUInt32).toInt32) &&& (255 : Int32)).toUInt32.toUInt16.toUInt32.toInt32))] [])) rfl (hb hby d1_48) (by decide) (by decide)
  obtain ⟨b1, g1⟩ : ∃ z, z = h0.size := ⟨_, rfl⟩
  rw [← g1] at A1 D1 st1
  have g_b1 : n0 ≤ b1 := Nat.le_trans (O0.1 ▸ O0.2.1) (Nat.le_of_eq g1.symm)
  have sz_b1 : h0.size ≤ b1 := Nat.le_trans K0.1 (Nat.le_of_eq g1.symm)
  have O1 := O0.ext E1
  have KK1 := K0.ext E1
  have F_value_b1 : Fld Z h1 b1 "java/lang/String" "value" "[B" .null := D1 (Or.inr (hw _ (List.mem_of_getElem? (i := 20) rfl))) (ty := (.array .byte)) (by decide)
  have F_coder_b1 : Fld Z h1 b1 "java/lang/String" "coder" "B" (.int (0 : Int32)) := D1 (Or.inr (hw _ (List.mem_of_getElem? (i := 21) rfl))) (ty := .byte) (by decide)
  obtain ⟨T2, h2, k2, X2, e2, E2, A2, st2⟩ := newP X1 hx hZ (hw _ (List.mem_of_getElem? (i := 7) rfl)) e1 (g := (mkF mm 53 #[.val (.int (1 : Int32)), .val (.int bits), .val (.int ((bits &&& (255 : Int32)).toUInt32.toUInt16.toUInt32.toInt32)), .val (.int ((((bits.toUInt32 >>> ((8 : Int32) &&& 31).toUInt32).toInt32) &&& (255 : Int32)).toUInt32.toUInt16.toUInt32.toInt32)), .val (.int ((((bits.toUInt32 >>> ((16 : Int32) &&& 31).toUInt32).toInt32) &&& (255 : Int32)).toUInt32.toUInt16.toUInt32.toInt32))] [(.int (1 : Int32)), (.ref b1), (.ref b1)])) rfl (hb hby d1_53) rfl (by decide) (cap := 1) (by decide) (by decide) (by decide) (by decide)
  obtain ⟨b2, g2⟩ : ∃ z, z = h1.size := ⟨_, rfl⟩
  rw [← g2] at A2 st2
  have g_b2 : n0 ≤ b2 := Nat.le_trans (O1.1 ▸ O1.2.1) (Nat.le_of_eq g2.symm)
  have sz_b2 : h0.size ≤ b2 := Nat.le_trans KK1.1 (Nat.le_of_eq g2.symm)
  have O2 := O1.ext E2
  have KK2 := KK1.ext E2
  have V2 : Arv Z h2 b2 k2 .char (1 : Int32) [(.int (0 : Int32))] (.int (0 : Int32)) := (Arv.new A2 (by decide)).pad (pad_rep [] (.int (0 : Int32)) 1)
  obtain ⟨cl3, Ar3, qk3, Sz3, Nn3, Hh3, Gg3⟩ := id V2
  have hin3 : ¬ ((0 : Int32) < 0 ∨ cl3.slots.size ≤ ((0 : Int32)).toNatClampNeg) := inb_of Sz3 ⟨by decide, by decide⟩
  obtain ⟨T4, h4, X4, e4, W4, st4⟩ := stC X2 hx hZ e2 Ar3 (j := (0 : Int32)) hin3 (g := (mkF mm 58 #[.val (.int (1 : Int32)), .val (.int bits), .val (.int ((bits &&& (255 : Int32)).toUInt32.toUInt16.toUInt32.toInt32)), .val (.int ((((bits.toUInt32 >>> ((8 : Int32) &&& 31).toUInt32).toInt32) &&& (255 : Int32)).toUInt32.toUInt16.toUInt32.toInt32)), .val (.int ((((bits.toUInt32 >>> ((16 : Int32) &&& 31).toUInt32).toInt32) &&& (255 : Int32)).toUInt32.toUInt16.toUInt32.toInt32))] [(.int ((bits &&& (255 : Int32)).toUInt32.toUInt16.toUInt32.toInt32)), (.int (0 : Int32)), (.ref b2), (.ref b2), (.ref b1), (.ref b1)])) rfl rfl (hb hby d1_58)
  have V4 : Arv Z h4 b2 k2 .char (1 : Int32) [(.int (nar .char ((bits &&& (255 : Int32)).toUInt32.toUInt16.toUInt32.toInt32)))] (.int (0 : Int32)) := Arv.set Ar3 qk3 Sz3 Nn3 Hh3 Gg3 (fits_nar_char _) W4 0 rfl (Nat.le_of_ble_eq_true rfl)
  have N4 := Fr.snoc X4 N0 g_b2
  have O4 := O2.wr W4 g_b2
  have KK4 := KK2.wr W4 (Or.inr sz_b2)
  obtain ⟨_, _, ⟨T5, L5, k5, n5⟩, -, X5, ⟨Lc5, hQ5, l5, y5, z5⟩, st5⟩ := X4.specialBack hx (y := (⟨"java/lang/String", "<init>", "([C)V"⟩ : MethodName)) rfl hown (mvT hZ (hw _ (List.mem_of_getElem? (i := 8) rfl))) (mvT hZ (hw _ (List.mem_of_getElem? (i := 9) rfl))) (mvT hZ (hw _ (List.mem_of_getElem? (i := 10) rfl))) (by decide) (backOf (W := 1) (rmC1 l Z a0 hw [] b1 b2 k2 ((nar .char ((bits &&& (255 : Int32)).toUInt32.toUInt16.toUInt32.toInt32))) cs h4 n0 O4 ((A1.ext E2).wr W4) ((F_value_b1.ext E2).other W4 (Or.inl (Nat.ne_of_lt (Nat.lt_of_lt_of_le A1.lt (Nat.le_of_eq g2.symm))))) ((F_coder_b1.ext E2).other W4 (Or.inl (Nat.ne_of_lt (Nat.lt_of_lt_of_le A1.lt (Nat.le_of_eq g2.symm))))) g_b1 V4 (Ne.symm (Nat.ne_of_lt (Nat.lt_of_lt_of_le A1.lt (Nat.le_of_eq g2.symm)))) (own_c8 _) S_CS hcs) hZ (hw _ (List.mem_of_getElem? (i := 10) rfl)) (hw _ (List.mem_of_getElem? (i := 6) rfl)) (by decide) (by decide)) (g := (mkF mm 59 #[.val (.int (1 : Int32)), .val (.int bits), .val (.int ((bits &&& (255 : Int32)).toUInt32.toUInt16.toUInt32.toInt32)), .val (.int ((((bits.toUInt32 >>> ((8 : Int32) &&& 31).toUInt32).toInt32) &&& (255 : Int32)).toUInt32.toUInt16.toUInt32.toInt32)), .val (.int ((((bits.toUInt32 >>> ((16 : Int32) &&& 31).toUInt32).toInt32) &&& (255 : Int32)).toUInt32.toUInt16.toUInt32.toInt32))] [(.ref b2), (.ref b1), (.ref b1)])) rfl (by rw [hml]; rfl) (Steps.refl _) (a := b1) (argsL := [(.ref b2)]) (rest := [(.ref b1)]) (lenOf pd_299 rfl) rfl (by show 2 * 0 + _ ≤ _; exact Nat.le_of_eq rfl) (hb hby d1_59) (fun _ _ => ⟨rfl, e4, (by decide : 2 + 1 ≤ _), (by decide : 5 + 1 ≤ _)⟩)
  dsimp only [Pt.U, Pt.locs, Pt.cells, Pt.slots] at X5 l5 y5 z5 st5 hQ5
  subst l5 y5 z5
  obtain ⟨rfl, N5q, K5, sb5, kb5, vs5, Ex5, Fc5, Fv5, Va5⟩ := hQ5
  have O5 := O4.keep K5 (allS g_b1 all0)
  have KK5 := KK4.trans K5 (allS (Or.inr sz_b1) all0)
  have N5 := Fr.app N4 N5q
  obtain ⟨fs, hr, hrun, hended, hW, hsame⟩ := X5.leave (v := some (.ref b1)) (fun h => by rw [Bd.returns] at h; cases h)
  refine ⟨_, _, pre0 _ ?_, hrun, hended, _, _, rfl, ?_, ⟨_, rfl⟩, hW, hsame.mono (by decide) (by decide)⟩
  · show Steps pg.tables ee below (s₁.setTop (mkF mm 0 #[.val (.int (1 : Int32)), .val (.int bits), .unset, .unset, .unset] [])) _
    refine XS.iloadN X0.here hx rfl (hb hby d1_0) rfl ?_
    show Steps pg.tables ee below (s₁.setTop (mkF mm 1 #[.val (.int (1 : Int32)), .val (.int bits), .unset, .unset, .unset] [(.int bits)])) _
    refine XS.sipush X0.here hx rfl (hb hby d1_1) ?_
    show Steps pg.tables ee below (s₁.setTop (mkF mm 4 #[.val (.int (1 : Int32)), .val (.int bits), .unset, .unset, .unset] [(.int (255 : Int32)), (.int bits)])) _
    refine XS.iand X0.here hx rfl (hb hby d1_4) rfl ?_
    show Steps pg.tables ee below (s₁.setTop (mkF mm 5 #[.val (.int (1 : Int32)), .val (.int bits), .unset, .unset, .unset] [(.int (bits &&& (255 : Int32)))])) _
    refine XS.i2c X0.here hx rfl (hb hby d1_5) rfl ?_
    show Steps pg.tables ee below (s₁.setTop (mkF mm 6 #[.val (.int (1 : Int32)), .val (.int bits), .unset, .unset, .unset] [(.int ((bits &&& (255 : Int32)).toUInt32.toUInt16.toUInt32.toInt32))])) _
    refine XS.istoreN X0.here hx rfl (hb hby d1_6) rfl (l' := #[.val (.int (1 : Int32)), .val (.int bits), .val (.int ((bits &&& (255 : Int32)).toUInt32.toUInt16.toUInt32.toInt32)), .unset, .unset]) rfl ?_
    show Steps pg.tables ee below (s₁.setTop (mkF mm 7 #[.val (.int (1 : Int32)), .val (.int bits), .val (.int ((bits &&& (255 : Int32)).toUInt32.toUInt16.toUInt32.toInt32)), .unset, .unset] [])) _
    refine XS.iloadN X0.here hx rfl (hb hby d1_7) rfl ?_
    show Steps pg.tables ee below (s₁.setTop (mkF mm 8 #[.val (.int (1 : Int32)), .val (.int bits), .val (.int ((bits &&& (255 : Int32)).toUInt32.toUInt16.toUInt32.toInt32)), .unset, .unset] [(.int bits)])) _
    refine XS.bipush X0.here hx rfl (hb hby d1_8) ?_
    show Steps pg.tables ee below (s₁.setTop (mkF mm 10 #[.val (.int (1 : Int32)), .val (.int bits), .val (.int ((bits &&& (255 : Int32)).toUInt32.toUInt16.toUInt32.toInt32)), .unset, .unset] [(.int (8 : Int32)), (.int bits)])) _
    refine XS.iushr X0.here hx rfl (hb hby d1_10) rfl ?_
    show Steps pg.tables ee below (s₁.setTop (mkF mm 11 #[.val (.int (1 : Int32)), .val (.int bits), .val (.int ((bits &&& (255 : Int32)).toUInt32.toUInt16.toUInt32.toInt32)), .unset, .unset] [(.int ((bits.toUInt32 >>> ((8 : Int32) &&& 31).toUInt32).toInt32))])) _
    refine XS.sipush X0.here hx rfl (hb hby d1_11) ?_
    show Steps pg.tables ee below (s₁.setTop (mkF mm 14 #[.val (.int (1 : Int32)), .val (.int bits), .val (.int ((bits &&& (255 : Int32)).toUInt32.toUInt16.toUInt32.toInt32)), .unset, .unset] [(.int (255 : Int32)), (.int ((bits.toUInt32 >>> ((8 : Int32) &&& 31).toUInt32).toInt32))])) _
    refine XS.iand X0.here hx rfl (hb hby d1_14) rfl ?_
    show Steps pg.tables ee below (s₁.setTop (mkF mm 15 #[.val (.int (1 : Int32)), .val (.int bits), .val (.int ((bits &&& (255 : Int32)).toUInt32.toUInt16.toUInt32.toInt32)), .unset, .unset] [(.int (((bits.toUInt32 >>> ((8 : Int32) &&& 31).toUInt32).toInt32) &&& (255 : Int32)))])) _
    refine XS.i2c X0.here hx rfl (hb hby d1_15) rfl ?_
    show Steps pg.tables ee below (s₁.setTop (mkF mm 16 #[.val (.int (1 : Int32)), .val (.int bits), .val (.int ((bits &&& (255 : Int32)).toUInt32.toUInt16.toUInt32.toInt32)), .unset, .unset] [(.int ((((bits.toUInt32 >>> ((8 : Int32) &&& 31).toUInt32).toInt32) &&& (255 : Int32)).toUInt32.toUInt16.toUInt32.toInt32))])) _
    refine XS.istoreN X0.here hx rfl (hb hby d1_16) rfl (l' := #[.val (.int (1 : Int32)), .val (.int bits), .val (.int ((bits &&& (255 : Int32)).toUInt32.toUInt16.toUInt32.toInt32)), .val (.int ((((bits.toUInt32 >>> ((8 : Int32) &&& 31).toUInt32).toInt32) &&& (255 : Int32)).toUInt32.toUInt16.toUInt32.toInt32)), .unset]) rfl ?_
    show Steps pg.tables ee below (s₁.setTop (mkF mm 17 #[.val (.int (1 : Int32)), .val (.int bits), .val (.int ((bits &&& (255 : Int32)).toUInt32.toUInt16.toUInt32.toInt32)), .val (.int ((((bits.toUInt32 >>> ((8 : Int32) &&& 31).toUInt32).toInt32) &&& (255 : Int32)).toUInt32.toUInt16.toUInt32.toInt32)), .unset] [])) _
    refine XS.iloadN X0.here hx rfl (hb hby d1_17) rfl ?_
    show Steps pg.tables ee below (s₁.setTop (mkF mm 18 #[.val (.int (1 : Int32)), .val (.int bits), .val (.int ((bits &&& (255 : Int32)).toUInt32.toUInt16.toUInt32.toInt32)), .val (.int ((((bits.toUInt32 >>> ((8 : Int32) &&& 31).toUInt32).toInt32) &&& (255 : Int32)).toUInt32.toUInt16.toUInt32.toInt32)), .unset] [(.int bits)])) _
    refine XS.bipush X0.here hx rfl (hb hby d1_18) ?_
    show Steps pg.tables ee below (s₁.setTop (mkF mm 20 #[.val (.int (1 : Int32)), .val (.int bits), .val (.int ((bits &&& (255 : Int32)).toUInt32.toUInt16.toUInt32.toInt32)), .val (.int ((((bits.toUInt32 >>> ((8 : Int32) &&& 31).toUInt32).toInt32) &&& (255 : Int32)).toUInt32.toUInt16.toUInt32.toInt32)), .unset] [(.int (16 : Int32)), (.int bits)])) _
    refine XS.iushr X0.here hx rfl (hb hby d1_20) rfl ?_
    show Steps pg.tables ee below (s₁.setTop (mkF mm 21 #[.val (.int (1 : Int32)), .val (.int bits), .val (.int ((bits &&& (255 : Int32)).toUInt32.toUInt16.toUInt32.toInt32)), .val (.int ((((bits.toUInt32 >>> ((8 : Int32) &&& 31).toUInt32).toInt32) &&& (255 : Int32)).toUInt32.toUInt16.toUInt32.toInt32)), .unset] [(.int ((bits.toUInt32 >>> ((16 : Int32) &&& 31).toUInt32).toInt32))])) _
    refine XS.sipush X0.here hx rfl (hb hby d1_21) ?_
    show Steps pg.tables ee below (s₁.setTop (mkF mm 24 #[.val (.int (1 : Int32)), .val (.int bits), .val (.int ((bits &&& (255 : Int32)).toUInt32.toUInt16.toUInt32.toInt32)), .val (.int ((((bits.toUInt32 >>> ((8 : Int32) &&& 31).toUInt32).toInt32) &&& (255 : Int32)).toUInt32.toUInt16.toUInt32.toInt32)), .unset] [(.int (255 : Int32)), (.int ((bits.toUInt32 >>> ((16 : Int32) &&& 31).toUInt32).toInt32))])) _
    refine XS.iand X0.here hx rfl (hb hby d1_24) rfl ?_
    show Steps pg.tables ee below (s₁.setTop (mkF mm 25 #[.val (.int (1 : Int32)), .val (.int bits), .val (.int ((bits &&& (255 : Int32)).toUInt32.toUInt16.toUInt32.toInt32)), .val (.int ((((bits.toUInt32 >>> ((8 : Int32) &&& 31).toUInt32).toInt32) &&& (255 : Int32)).toUInt32.toUInt16.toUInt32.toInt32)), .unset] [(.int (((bits.toUInt32 >>> ((16 : Int32) &&& 31).toUInt32).toInt32) &&& (255 : Int32)))])) _
    refine XS.i2c X0.here hx rfl (hb hby d1_25) rfl ?_
    show Steps pg.tables ee below (s₁.setTop (mkF mm 26 #[.val (.int (1 : Int32)), .val (.int bits), .val (.int ((bits &&& (255 : Int32)).toUInt32.toUInt16.toUInt32.toInt32)), .val (.int ((((bits.toUInt32 >>> ((8 : Int32) &&& 31).toUInt32).toInt32) &&& (255 : Int32)).toUInt32.toUInt16.toUInt32.toInt32)), .unset] [(.int ((((bits.toUInt32 >>> ((16 : Int32) &&& 31).toUInt32).toInt32) &&& (255 : Int32)).toUInt32.toUInt16.toUInt32.toInt32))])) _
    refine XS.istore X0.here hx rfl (hb hby d1_26) rfl (l' := #[.val (.int (1 : Int32)), .val (.int bits), .val (.int ((bits &&& (255 : Int32)).toUInt32.toUInt16.toUInt32.toInt32)), .val (.int ((((bits.toUInt32 >>> ((8 : Int32) &&& 31).toUInt32).toInt32) &&& (255 : Int32)).toUInt32.toUInt16.toUInt32.toInt32)), .val (.int ((((bits.toUInt32 >>> ((16 : Int32) &&& 31).toUInt32).toInt32) &&& (255 : Int32)).toUInt32.toUInt16.toUInt32.toInt32))]) rfl ?_
    show Steps pg.tables ee below (s₁.setTop (mkF mm 28 #[.val (.int (1 : Int32)), .val (.int bits), .val (.int ((bits &&& (255 : Int32)).toUInt32.toUInt16.toUInt32.toInt32)), .val (.int ((((bits.toUInt32 >>> ((8 : Int32) &&& 31).toUInt32).toInt32) &&& (255 : Int32)).toUInt32.toUInt16.toUInt32.toInt32)), .val (.int ((((bits.toUInt32 >>> ((16 : Int32) &&& 31).toUInt32).toInt32) &&& (255 : Int32)).toUInt32.toUInt16.toUInt32.toInt32))] [])) _
    refine XS.iloadN X0.here hx rfl (hb hby d1_28) rfl ?_
    show Steps pg.tables ee below (s₁.setTop (mkF mm 29 #[.val (.int (1 : Int32)), .val (.int bits), .val (.int ((bits &&& (255 : Int32)).toUInt32.toUInt16.toUInt32.toInt32)), .val (.int ((((bits.toUInt32 >>> ((8 : Int32) &&& 31).toUInt32).toInt32) &&& (255 : Int32)).toUInt32.toUInt16.toUInt32.toInt32)), .val (.int ((((bits.toUInt32 >>> ((16 : Int32) &&& 31).toUInt32).toInt32) &&& (255 : Int32)).toUInt32.toUInt16.toUInt32.toInt32))] [(.int (1 : Int32))])) _
    refine XS.ifYes X0.here hx rfl (pc0 := 29) (pc' := 43) rfl (hb hby d1_29) rfl ((if0 _ _).trans (feq (by decide : ¬ ((1 : Int32) = (0 : Int32)))).2) (by decide) (by decide) ?_
    show Steps pg.tables ee below (s₁.setTop (mkF mm 43 #[.val (.int (1 : Int32)), .val (.int bits), .val (.int ((bits &&& (255 : Int32)).toUInt32.toUInt16.toUInt32.toInt32)), .val (.int ((((bits.toUInt32 >>> ((8 : Int32) &&& 31).toUInt32).toInt32) &&& (255 : Int32)).toUInt32.toUInt16.toUInt32.toInt32)), .val (.int ((((bits.toUInt32 >>> ((16 : Int32) &&& 31).toUInt32).toInt32) &&& (255 : Int32)).toUInt32.toUInt16.toUInt32.toInt32))] [])) _
    refine XS.iloadN X0.here hx rfl (hb hby d1_43) rfl ?_
    show Steps pg.tables ee below (s₁.setTop (mkF mm 44 #[.val (.int (1 : Int32)), .val (.int bits), .val (.int ((bits &&& (255 : Int32)).toUInt32.toUInt16.toUInt32.toInt32)), .val (.int ((((bits.toUInt32 >>> ((8 : Int32) &&& 31).toUInt32).toInt32) &&& (255 : Int32)).toUInt32.toUInt16.toUInt32.toInt32)), .val (.int ((((bits.toUInt32 >>> ((16 : Int32) &&& 31).toUInt32).toInt32) &&& (255 : Int32)).toUInt32.toUInt16.toUInt32.toInt32))] [(.int (1 : Int32))])) _
    refine XS.iconst X0.here hx rfl (hb hby d1_44) ?_
    show Steps pg.tables ee below (s₁.setTop (mkF mm 45 #[.val (.int (1 : Int32)), .val (.int bits), .val (.int ((bits &&& (255 : Int32)).toUInt32.toUInt16.toUInt32.toInt32)), .val (.int ((((bits.toUInt32 >>> ((8 : Int32) &&& 31).toUInt32).toInt32) &&& (255 : Int32)).toUInt32.toUInt16.toUInt32.toInt32)), .val (.int ((((bits.toUInt32 >>> ((16 : Int32) &&& 31).toUInt32).toInt32) &&& (255 : Int32)).toUInt32.toUInt16.toUInt32.toInt32))] [(.int (1 : Int32)), (.int (1 : Int32))])) _
    refine XS.icmpNo X0.here hx rfl (hb hby d1_45) rfl (teq (by decide : (1 : Int32) = (1 : Int32))).2 ?_
    show Steps pg.tables ee below (s₁.setTop (mkF mm 48 #[.val (.int (1 : Int32)), .val (.int bits), .val (.int ((bits &&& (255 : Int32)).toUInt32.toUInt16.toUInt32.toInt32)), .val (.int ((((bits.toUInt32 >>> ((8 : Int32) &&& 31).toUInt32).toInt32) &&& (255 : Int32)).toUInt32.toUInt16.toUInt32.toInt32)), .val (.int ((((bits.toUInt32 >>> ((16 : Int32) &&& 31).toUInt32).toInt32) &&& (255 : Int32)).toUInt32.toUInt16.toUInt32.toInt32))] [])) _
    refine st1 _ ?_
    show Steps pg.tables ee below (T1.setTop (mkF mm 51 #[.val (.int (1 : Int32)), .val (.int bits), .val (.int ((bits &&& (255 : Int32)).toUInt32.toUInt16.toUInt32.toInt32)), .val (.int ((((bits.toUInt32 >>> ((8 : Int32) &&& 31).toUInt32).toInt32) &&& (255 : Int32)).toUInt32.toUInt16.toUInt32.toInt32)), .val (.int ((((bits.toUInt32 >>> ((16 : Int32) &&& 31).toUInt32).toInt32) &&& (255 : Int32)).toUInt32.toUInt16.toUInt32.toInt32))] [(.ref b1)])) _
    refine XS.dup X1.here hx rfl (hb hby d1_51) rfl rfl ?_
    show Steps pg.tables ee below (T1.setTop (mkF mm 52 #[.val (.int (1 : Int32)), .val (.int bits), .val (.int ((bits &&& (255 : Int32)).toUInt32.toUInt16.toUInt32.toInt32)), .val (.int ((((bits.toUInt32 >>> ((8 : Int32) &&& 31).toUInt32).toInt32) &&& (255 : Int32)).toUInt32.toUInt16.toUInt32.toInt32)), .val (.int ((((bits.toUInt32 >>> ((16 : Int32) &&& 31).toUInt32).toInt32) &&& (255 : Int32)).toUInt32.toUInt16.toUInt32.toInt32))] [(.ref b1), (.ref b1)])) _
    refine XS.iconst X1.here hx rfl (hb hby d1_52) ?_
    show Steps pg.tables ee below (T1.setTop (mkF mm 53 #[.val (.int (1 : Int32)), .val (.int bits), .val (.int ((bits &&& (255 : Int32)).toUInt32.toUInt16.toUInt32.toInt32)), .val (.int ((((bits.toUInt32 >>> ((8 : Int32) &&& 31).toUInt32).toInt32) &&& (255 : Int32)).toUInt32.toUInt16.toUInt32.toInt32)), .val (.int ((((bits.toUInt32 >>> ((16 : Int32) &&& 31).toUInt32).toInt32) &&& (255 : Int32)).toUInt32.toUInt16.toUInt32.toInt32))] [(.int (1 : Int32)), (.ref b1), (.ref b1)])) _
    refine st2 _ ?_
    show Steps pg.tables ee below (T2.setTop (mkF mm 55 #[.val (.int (1 : Int32)), .val (.int bits), .val (.int ((bits &&& (255 : Int32)).toUInt32.toUInt16.toUInt32.toInt32)), .val (.int ((((bits.toUInt32 >>> ((8 : Int32) &&& 31).toUInt32).toInt32) &&& (255 : Int32)).toUInt32.toUInt16.toUInt32.toInt32)), .val (.int ((((bits.toUInt32 >>> ((16 : Int32) &&& 31).toUInt32).toInt32) &&& (255 : Int32)).toUInt32.toUInt16.toUInt32.toInt32))] [(.ref b2), (.ref b1), (.ref b1)])) _
    refine XS.dup X2.here hx rfl (hb hby d1_55) rfl rfl ?_
    show Steps pg.tables ee below (T2.setTop (mkF mm 56 #[.val (.int (1 : Int32)), .val (.int bits), .val (.int ((bits &&& (255 : Int32)).toUInt32.toUInt16.toUInt32.toInt32)), .val (.int ((((bits.toUInt32 >>> ((8 : Int32) &&& 31).toUInt32).toInt32) &&& (255 : Int32)).toUInt32.toUInt16.toUInt32.toInt32)), .val (.int ((((bits.toUInt32 >>> ((16 : Int32) &&& 31).toUInt32).toInt32) &&& (255 : Int32)).toUInt32.toUInt16.toUInt32.toInt32))] [(.ref b2), (.ref b2), (.ref b1), (.ref b1)])) _
    refine XS.iconst X2.here hx rfl (hb hby d1_56) ?_
    show Steps pg.tables ee below (T2.setTop (mkF mm 57 #[.val (.int (1 : Int32)), .val (.int bits), .val (.int ((bits &&& (255 : Int32)).toUInt32.toUInt16.toUInt32.toInt32)), .val (.int ((((bits.toUInt32 >>> ((8 : Int32) &&& 31).toUInt32).toInt32) &&& (255 : Int32)).toUInt32.toUInt16.toUInt32.toInt32)), .val (.int ((((bits.toUInt32 >>> ((16 : Int32) &&& 31).toUInt32).toInt32) &&& (255 : Int32)).toUInt32.toUInt16.toUInt32.toInt32))] [(.int (0 : Int32)), (.ref b2), (.ref b2), (.ref b1), (.ref b1)])) _
    refine XS.iloadN X2.here hx rfl (hb hby d1_57) rfl ?_
    show Steps pg.tables ee below (T2.setTop (mkF mm 58 #[.val (.int (1 : Int32)), .val (.int bits), .val (.int ((bits &&& (255 : Int32)).toUInt32.toUInt16.toUInt32.toInt32)), .val (.int ((((bits.toUInt32 >>> ((8 : Int32) &&& 31).toUInt32).toInt32) &&& (255 : Int32)).toUInt32.toUInt16.toUInt32.toInt32)), .val (.int ((((bits.toUInt32 >>> ((16 : Int32) &&& 31).toUInt32).toInt32) &&& (255 : Int32)).toUInt32.toUInt16.toUInt32.toInt32))] [(.int ((bits &&& (255 : Int32)).toUInt32.toUInt16.toUInt32.toInt32)), (.int (0 : Int32)), (.ref b2), (.ref b2), (.ref b1), (.ref b1)])) _
    refine st4 _ ?_
    show Steps pg.tables ee below (T4.setTop (mkF mm 59 #[.val (.int (1 : Int32)), .val (.int bits), .val (.int ((bits &&& (255 : Int32)).toUInt32.toUInt16.toUInt32.toInt32)), .val (.int ((((bits.toUInt32 >>> ((8 : Int32) &&& 31).toUInt32).toInt32) &&& (255 : Int32)).toUInt32.toUInt16.toUInt32.toInt32)), .val (.int ((((bits.toUInt32 >>> ((16 : Int32) &&& 31).toUInt32).toInt32) &&& (255 : Int32)).toUInt32.toUInt16.toUInt32.toInt32))] [(.ref b2), (.ref b1), (.ref b1)])) _
    refine st5.trans ?_
    show Steps pg.tables ee below (T5.setTop (mkF mm 62 #[.val (.int (1 : Int32)), .val (.int bits), .val (.int ((bits &&& (255 : Int32)).toUInt32.toUInt16.toUInt32.toInt32)), .val (.int ((((bits.toUInt32 >>> ((8 : Int32) &&& 31).toUInt32).toInt32) &&& (255 : Int32)).toUInt32.toUInt16.toUInt32.toInt32)), .val (.int ((((bits.toUInt32 >>> ((16 : Int32) &&& 31).toUInt32).toInt32) &&& (255 : Int32)).toUInt32.toUInt16.toUInt32.toInt32))] [(.ref b1)])) _
    exact retOut X5 hx Bd.returns rfl (Or.inr (Or.inr (Or.inr (Or.inr ⟨rfl, rfl, rfl⟩)))) (hb hby d1_62) hr
  · show QD Z (1 : Int32) h0 n0 _ T5.heap _
    exact ⟨_, _, _, _, rfl, N5, KK5, Ex5, Fc5, Fv5, Va5⟩
def QrmIn2 (Z : State) (ch : Addr) (kc : ClassId) (x0 : Int32) (x1 : Int32) (bb : Addr) (kb : ClassId) (h0 : Heap) (n0 : Nat) (v : Option Value) (h : Heap) (L : List Loc) : Prop := v = some (.int (2 : Int32)) ∧ Fr n0 L ∧ Keep h0 h [bb] ∧ ∃ vs : List Value, Arv Z h bb kb .byte (2 : Int32) vs (.int (0 : Int32))
set_option maxRecDepth 65536 in
set_option maxHeartbeats 40000000 in
theorem rmIn2 (l : Launch) (Z : State) (a0 : Array Value) (hw : ∀ d ∈ tables_1, d.before a0 Z = true) (ws : List Jvm.Cond) (ch : Addr) (kc : ClassId) (x0 : Int32) (x1 : Int32) (bb : Addr) (kb : ClassId) (h0 : Heap) (n0 : Nat) (O0 : Old Z n0 h0) (Vc : Arv Z h0 ch kc .char (2 : Int32) [(.int x0), (.int x1)] (.int (0 : Int32))) (Vb : Arv Z h0 bb kb .byte (2 : Int32) [(.int (0 : Int32)), (.int (0 : Int32))] (.int (0 : Int32))) (g_bb : n0 ≤ bb) (hne : ch ≠ bb) (hx0 : ¬ ((255 : Int32) < x0)) (hx1 : ¬ ((255 : Int32) < x1)) :
    MetFree l (⟨"java/lang/StringUTF16", "compress", "([CI[BII)I"⟩ : MethodName) (head1 (Jvm.Cond.code (⟨"java/lang/StringUTF16", "compress", "([CI[BII)I"⟩ : MethodName) jdk_52_method_21_code 7 (some .int) :: ws) ({ frames := 0, cells := 0, slots := 0, locals := 0 } : Room)) (fun a_ U_ => a_ = #[(.ref ch), (.int (0 : Int32)), (.ref bb), (.int (0 : Int32)), (.int (2 : Int32))] ∧ Z.Warmed39 U_.vm ∧ U_.heap = h0) (fun _ _ _ _ _ => True) (fun _ U_ o_ U'_ => ∃ v_ L_, o_ = .returned v_ ∧ QrmIn2 Z ch kc x0 x1 bb kb h0 n0 v_ U'_.heap L_ ∧ FrameEnd U_ o_ U'_ L_ ({ frames := 0, cells := 0, slots := 0, locals := 0 } : Room).cells ({ frames := 0, cells := 0, slots := 0, locals := 0 } : Room).slots) := by
  refine MetFree.of_bodySF (plainFor_of_name pn_205) hisR ?_
  intro pg ee s mm args below meth cc s₁ Bd hml0 hP hK
  obtain ⟨rfl, hZ, hh⟩ := hP
  have hx := Bd.exec
  have hby := Bd.bytes
  have hml : cc.maxLocals = 7 := hml0
  have hown : s.vm.findClass "java/lang/StringUTF16" = some mm.cls := findClass_of_methodNamed Bd.named
  have hnm := (name_of_methodNamed Bd.named Bd.method).1
  have X0 : Stand pg l ee ({ frames := 0, cells := 0, slots := 0, locals := 0 } : Room) s mm #[(.ref ch), (.int (0 : Int32)), (.ref bb), (.int (0 : Int32)), (.int (2 : Int32))] below meth cc s₁ [] 0 0 := Stand.of_body Bd
  have e0 : s₁.heap = h0 := by rw [← hh, Bd.state]; rfl
  have N0 := Fr.nil n0
  have K0 : Keep h0 h0 ([bb] : List Addr) := Keep.refl _ _
  have pre0 : ∀ tg_, Steps pg.tables ee below (s₁.setTop (mkF mm 0 #[.val (.ref ch), .val (.int (0 : Int32)), .val (.ref bb), .val (.int (0 : Int32)), .val (.int (2 : Int32)), .unset, .unset] [])) tg_ → Steps pg.tables ee below (s₁.setTop (entryFrame mm #[(.ref ch), (.int (0 : Int32)), (.ref bb), (.int (0 : Int32)), (.int (2 : Int32))] 7)) tg_ := fun tg_ k_ => castTop (ef_23_206 mm ch (0 : Int32) bb (0 : Int32) (2 : Int32)) k_
  obtain ⟨cl1, Ar1, qk1, Sz1, Nn1, Hh1, Gg1⟩ := id Vc
  have hin1 : ¬ ((0 : Int32) < 0 ∨ cl1.slots.size ≤ ((0 : Int32)).toNatClampNeg) := inb_of Sz1 ⟨by decide, by decide⟩
  obtain ⟨cl2, Ar2, qk2, Sz2, Nn2, Hh2, Gg2⟩ := id Vb
  have hin2 : ¬ ((0 : Int32) < 0 ∨ cl2.slots.size ≤ ((0 : Int32)).toNatClampNeg) := inb_of Sz2 ⟨by decide, by decide⟩
  obtain ⟨T3, h3, X3, e3, W3, st3⟩ := stB X0 hx hZ e0 Ar2 (j := (0 : Int32)) hin2 (g := (mkF mm 31 #[.val (.ref ch), .val (.int (0 : Int32)), .val (.ref bb), .val (.int (0 : Int32)), .val (.int (2 : Int32)), .val (.int (0 : Int32)), .val (.int x0)] [(.int (x0.toInt8.toInt32)), (.int (0 : Int32)), (.ref bb)])) rfl rfl (hb hby d23_31)
  have V3 : Arv Z h3 bb kb .byte (2 : Int32) [(.int (nar .byte (x0.toInt8.toInt32))), (.int (0 : Int32))] (.int (0 : Int32)) := Arv.set Ar2 qk2 Sz2 Nn2 Hh2 Gg2 (fits_nar_byte _) W3 0 rfl (Nat.le_of_ble_eq_true rfl)
  have N3 := Fr.snoc X3 N0 g_bb
  have O3 := O0.wr W3 g_bb
  have KK3 := K0.wr W3 (Or.inl (by simp))
  obtain ⟨cl4, Ar4, qk4, Sz4, Nn4, Hh4, Gg4⟩ := id (Vc.other W3 hne)
  have hin4 : ¬ ((1 : Int32) < 0 ∨ cl4.slots.size ≤ ((1 : Int32)).toNatClampNeg) := inb_of Sz4 ⟨by decide, by decide⟩
  obtain ⟨cl5, Ar5, qk5, Sz5, Nn5, Hh5, Gg5⟩ := id V3
  have hin5 : ¬ ((1 : Int32) < 0 ∨ cl5.slots.size ≤ ((1 : Int32)).toNatClampNeg) := inb_of Sz5 ⟨by decide, by decide⟩
  obtain ⟨T6, h6, X6, e6, W6, st6⟩ := stB X3 hx hZ e3 Ar5 (j := (1 : Int32)) hin5 (g := (mkF mm 31 #[.val (.ref ch), .val (.int (1 : Int32)), .val (.ref bb), .val (.int (1 : Int32)), .val (.int (2 : Int32)), .val (.int (1 : Int32)), .val (.int x1)] [(.int (x1.toInt8.toInt32)), (.int (1 : Int32)), (.ref bb)])) rfl rfl (hb hby d23_31)
  have V6 : Arv Z h6 bb kb .byte (2 : Int32) [(.int (nar .byte (x0.toInt8.toInt32))), (.int (nar .byte (x1.toInt8.toInt32)))] (.int (0 : Int32)) := Arv.set Ar5 qk5 Sz5 Nn5 Hh5 Gg5 (fits_nar_byte _) W6 1 rfl (Nat.le_of_ble_eq_true rfl)
  have N6 := Fr.snoc X6 N3 g_bb
  have O6 := O3.wr W6 g_bb
  have KK6 := KK3.wr W6 (Or.inl (by simp))
  obtain ⟨fs, hr, hrun, hended, hW, hsame⟩ := X6.leave (v := some (.int (2 : Int32))) (fun h => by rw [Bd.returns] at h; cases h)
  refine ⟨_, _, pre0 _ ?_, hrun, hended, _, _, rfl, ?_, ⟨_, rfl⟩, hW, hsame.mono (by decide) (by decide)⟩
  · show Steps pg.tables ee below (s₁.setTop (mkF mm 0 #[.val (.ref ch), .val (.int (0 : Int32)), .val (.ref bb), .val (.int (0 : Int32)), .val (.int (2 : Int32)), .unset, .unset] [])) _
    refine XS.iconst X0.here hx rfl (hb hby d23_0) ?_
    show Steps pg.tables ee below (s₁.setTop (mkF mm 1 #[.val (.ref ch), .val (.int (0 : Int32)), .val (.ref bb), .val (.int (0 : Int32)), .val (.int (2 : Int32)), .unset, .unset] [(.int (0 : Int32))])) _
    refine XS.istore X0.here hx rfl (hb hby d23_1) rfl (l' := #[.val (.ref ch), .val (.int (0 : Int32)), .val (.ref bb), .val (.int (0 : Int32)), .val (.int (2 : Int32)), .val (.int (0 : Int32)), .unset]) rfl ?_
    show Steps pg.tables ee below (s₁.setTop (mkF mm 3 #[.val (.ref ch), .val (.int (0 : Int32)), .val (.ref bb), .val (.int (0 : Int32)), .val (.int (2 : Int32)), .val (.int (0 : Int32)), .unset] [])) _
    refine XS.iload X0.here hx rfl (hb hby d23_3) rfl ?_
    show Steps pg.tables ee below (s₁.setTop (mkF mm 5 #[.val (.ref ch), .val (.int (0 : Int32)), .val (.ref bb), .val (.int (0 : Int32)), .val (.int (2 : Int32)), .val (.int (0 : Int32)), .unset] [(.int (0 : Int32))])) _
    refine XS.iload X0.here hx rfl (hb hby d23_5) rfl ?_
    show Steps pg.tables ee below (s₁.setTop (mkF mm 7 #[.val (.ref ch), .val (.int (0 : Int32)), .val (.ref bb), .val (.int (0 : Int32)), .val (.int (2 : Int32)), .val (.int (0 : Int32)), .unset] [(.int (2 : Int32)), (.int (0 : Int32))])) _
    refine XS.icmpNo X0.here hx rfl (hb hby d23_7) rfl (tlt (by decide : (0 : Int32) < (2 : Int32))).2.1 ?_
    show Steps pg.tables ee below (s₁.setTop (mkF mm 10 #[.val (.ref ch), .val (.int (0 : Int32)), .val (.ref bb), .val (.int (0 : Int32)), .val (.int (2 : Int32)), .val (.int (0 : Int32)), .unset] [])) _
    refine XS.aloadN X0.here hx rfl (hb hby d23_10) rfl rfl ?_
    show Steps pg.tables ee below (s₁.setTop (mkF mm 11 #[.val (.ref ch), .val (.int (0 : Int32)), .val (.ref bb), .val (.int (0 : Int32)), .val (.int (2 : Int32)), .val (.int (0 : Int32)), .unset] [(.ref ch)])) _
    refine XS.iloadN X0.here hx rfl (hb hby d23_11) rfl ?_
    show Steps pg.tables ee below (s₁.setTop (mkF mm 12 #[.val (.ref ch), .val (.int (0 : Int32)), .val (.ref bb), .val (.int (0 : Int32)), .val (.int (2 : Int32)), .val (.int (0 : Int32)), .unset] [(.int (0 : Int32)), (.ref ch)])) _
    refine X0.caload hx (j := (0 : Int32)) (v := (.int x0)) (by rw [e0]; exact Ar1.1) (State.isArrayOf_alike hZ.alike Ar1.2.1) Ar1.2.2 hin1 (Has.at Hh1 hin1 rfl) (g := (mkF mm 12 #[.val (.ref ch), .val (.int (0 : Int32)), .val (.ref bb), .val (.int (0 : Int32)), .val (.int (2 : Int32)), .val (.int (0 : Int32)), .unset] [(.int (0 : Int32)), (.ref ch)])) rfl rfl (hb hby d23_12) _ ?_
    show Steps pg.tables ee below (s₁.setTop (mkF mm 13 #[.val (.ref ch), .val (.int (0 : Int32)), .val (.ref bb), .val (.int (0 : Int32)), .val (.int (2 : Int32)), .val (.int (0 : Int32)), .unset] [(.int x0)])) _
    refine XS.istore X0.here hx rfl (hb hby d23_13) rfl (l' := #[.val (.ref ch), .val (.int (0 : Int32)), .val (.ref bb), .val (.int (0 : Int32)), .val (.int (2 : Int32)), .val (.int (0 : Int32)), .val (.int x0)]) rfl ?_
    show Steps pg.tables ee below (s₁.setTop (mkF mm 15 #[.val (.ref ch), .val (.int (0 : Int32)), .val (.ref bb), .val (.int (0 : Int32)), .val (.int (2 : Int32)), .val (.int (0 : Int32)), .val (.int x0)] [])) _
    refine XS.iload X0.here hx rfl (hb hby d23_15) rfl ?_
    show Steps pg.tables ee below (s₁.setTop (mkF mm 17 #[.val (.ref ch), .val (.int (0 : Int32)), .val (.ref bb), .val (.int (0 : Int32)), .val (.int (2 : Int32)), .val (.int (0 : Int32)), .val (.int x0)] [(.int x0)])) _
    refine XS.sipush X0.here hx rfl (hb hby d23_17) ?_
    show Steps pg.tables ee below (s₁.setTop (mkF mm 20 #[.val (.ref ch), .val (.int (0 : Int32)), .val (.ref bb), .val (.int (0 : Int32)), .val (.int (2 : Int32)), .val (.int (0 : Int32)), .val (.int x0)] [(.int (255 : Int32)), (.int x0)])) _
    refine XS.icmpYes X0.here hx rfl (pc0 := 20) (pc' := 26) rfl (hb hby d23_20) rfl (flt hx0).2.2.2 (by decide) (by decide) ?_
    show Steps pg.tables ee below (s₁.setTop (mkF mm 26 #[.val (.ref ch), .val (.int (0 : Int32)), .val (.ref bb), .val (.int (0 : Int32)), .val (.int (2 : Int32)), .val (.int (0 : Int32)), .val (.int x0)] [])) _
    refine XS.aloadN X0.here hx rfl (hb hby d23_26) rfl rfl ?_
    show Steps pg.tables ee below (s₁.setTop (mkF mm 27 #[.val (.ref ch), .val (.int (0 : Int32)), .val (.ref bb), .val (.int (0 : Int32)), .val (.int (2 : Int32)), .val (.int (0 : Int32)), .val (.int x0)] [(.ref bb)])) _
    refine XS.iloadN X0.here hx rfl (hb hby d23_27) rfl ?_
    show Steps pg.tables ee below (s₁.setTop (mkF mm 28 #[.val (.ref ch), .val (.int (0 : Int32)), .val (.ref bb), .val (.int (0 : Int32)), .val (.int (2 : Int32)), .val (.int (0 : Int32)), .val (.int x0)] [(.int (0 : Int32)), (.ref bb)])) _
    refine XS.iload X0.here hx rfl (hb hby d23_28) rfl ?_
    show Steps pg.tables ee below (s₁.setTop (mkF mm 30 #[.val (.ref ch), .val (.int (0 : Int32)), .val (.ref bb), .val (.int (0 : Int32)), .val (.int (2 : Int32)), .val (.int (0 : Int32)), .val (.int x0)] [(.int x0), (.int (0 : Int32)), (.ref bb)])) _
    refine XS.i2b X0.here hx rfl (hb hby d23_30) rfl ?_
    show Steps pg.tables ee below (s₁.setTop (mkF mm 31 #[.val (.ref ch), .val (.int (0 : Int32)), .val (.ref bb), .val (.int (0 : Int32)), .val (.int (2 : Int32)), .val (.int (0 : Int32)), .val (.int x0)] [(.int (x0.toInt8.toInt32)), (.int (0 : Int32)), (.ref bb)])) _
    refine st3 _ ?_
    show Steps pg.tables ee below (T3.setTop (mkF mm 32 #[.val (.ref ch), .val (.int (0 : Int32)), .val (.ref bb), .val (.int (0 : Int32)), .val (.int (2 : Int32)), .val (.int (0 : Int32)), .val (.int x0)] [])) _
    refine XS.iinc X3.here hx rfl (hb hby d23_32) rfl (l' := #[.val (.ref ch), .val (.int (1 : Int32)), .val (.ref bb), .val (.int (0 : Int32)), .val (.int (2 : Int32)), .val (.int (0 : Int32)), .val (.int x0)]) rfl ?_
    show Steps pg.tables ee below (T3.setTop (mkF mm 35 #[.val (.ref ch), .val (.int (1 : Int32)), .val (.ref bb), .val (.int (0 : Int32)), .val (.int (2 : Int32)), .val (.int (0 : Int32)), .val (.int x0)] [])) _
    refine XS.iinc X3.here hx rfl (hb hby d23_35) rfl (l' := #[.val (.ref ch), .val (.int (1 : Int32)), .val (.ref bb), .val (.int (1 : Int32)), .val (.int (2 : Int32)), .val (.int (0 : Int32)), .val (.int x0)]) rfl ?_
    show Steps pg.tables ee below (T3.setTop (mkF mm 38 #[.val (.ref ch), .val (.int (1 : Int32)), .val (.ref bb), .val (.int (1 : Int32)), .val (.int (2 : Int32)), .val (.int (0 : Int32)), .val (.int x0)] [])) _
    refine XS.iinc X3.here hx rfl (hb hby d23_38) rfl (l' := #[.val (.ref ch), .val (.int (1 : Int32)), .val (.ref bb), .val (.int (1 : Int32)), .val (.int (2 : Int32)), .val (.int (1 : Int32)), .val (.int x0)]) rfl ?_
    show Steps pg.tables ee below (T3.setTop (mkF mm 41 #[.val (.ref ch), .val (.int (1 : Int32)), .val (.ref bb), .val (.int (1 : Int32)), .val (.int (2 : Int32)), .val (.int (1 : Int32)), .val (.int x0)] [])) _
    refine XS.goto X3.here hx rfl (pc0 := 41) (pc' := 3) rfl (hb hby d23_41) (by decide) (by decide) ?_
    show Steps pg.tables ee below (T3.setTop (mkF mm 3 #[.val (.ref ch), .val (.int (1 : Int32)), .val (.ref bb), .val (.int (1 : Int32)), .val (.int (2 : Int32)), .val (.int (1 : Int32)), .val (.int x0)] [])) _
    refine XS.iload X3.here hx rfl (hb hby d23_3) rfl ?_
    show Steps pg.tables ee below (T3.setTop (mkF mm 5 #[.val (.ref ch), .val (.int (1 : Int32)), .val (.ref bb), .val (.int (1 : Int32)), .val (.int (2 : Int32)), .val (.int (1 : Int32)), .val (.int x0)] [(.int (1 : Int32))])) _
    refine XS.iload X3.here hx rfl (hb hby d23_5) rfl ?_
    show Steps pg.tables ee below (T3.setTop (mkF mm 7 #[.val (.ref ch), .val (.int (1 : Int32)), .val (.ref bb), .val (.int (1 : Int32)), .val (.int (2 : Int32)), .val (.int (1 : Int32)), .val (.int x0)] [(.int (2 : Int32)), (.int (1 : Int32))])) _
    refine XS.icmpNo X3.here hx rfl (hb hby d23_7) rfl (tlt (by decide : (1 : Int32) < (2 : Int32))).2.1 ?_
    show Steps pg.tables ee below (T3.setTop (mkF mm 10 #[.val (.ref ch), .val (.int (1 : Int32)), .val (.ref bb), .val (.int (1 : Int32)), .val (.int (2 : Int32)), .val (.int (1 : Int32)), .val (.int x0)] [])) _
    refine XS.aloadN X3.here hx rfl (hb hby d23_10) rfl rfl ?_
    show Steps pg.tables ee below (T3.setTop (mkF mm 11 #[.val (.ref ch), .val (.int (1 : Int32)), .val (.ref bb), .val (.int (1 : Int32)), .val (.int (2 : Int32)), .val (.int (1 : Int32)), .val (.int x0)] [(.ref ch)])) _
    refine XS.iloadN X3.here hx rfl (hb hby d23_11) rfl ?_
    show Steps pg.tables ee below (T3.setTop (mkF mm 12 #[.val (.ref ch), .val (.int (1 : Int32)), .val (.ref bb), .val (.int (1 : Int32)), .val (.int (2 : Int32)), .val (.int (1 : Int32)), .val (.int x0)] [(.int (1 : Int32)), (.ref ch)])) _
    refine X3.caload hx (j := (1 : Int32)) (v := (.int x1)) (by rw [e3]; exact Ar4.1) (State.isArrayOf_alike hZ.alike Ar4.2.1) Ar4.2.2 hin4 (Has.at Hh4 hin4 rfl) (g := (mkF mm 12 #[.val (.ref ch), .val (.int (1 : Int32)), .val (.ref bb), .val (.int (1 : Int32)), .val (.int (2 : Int32)), .val (.int (1 : Int32)), .val (.int x0)] [(.int (1 : Int32)), (.ref ch)])) rfl rfl (hb hby d23_12) _ ?_
    show Steps pg.tables ee below (T3.setTop (mkF mm 13 #[.val (.ref ch), .val (.int (1 : Int32)), .val (.ref bb), .val (.int (1 : Int32)), .val (.int (2 : Int32)), .val (.int (1 : Int32)), .val (.int x0)] [(.int x1)])) _
    refine XS.istore X3.here hx rfl (hb hby d23_13) rfl (l' := #[.val (.ref ch), .val (.int (1 : Int32)), .val (.ref bb), .val (.int (1 : Int32)), .val (.int (2 : Int32)), .val (.int (1 : Int32)), .val (.int x1)]) rfl ?_
    show Steps pg.tables ee below (T3.setTop (mkF mm 15 #[.val (.ref ch), .val (.int (1 : Int32)), .val (.ref bb), .val (.int (1 : Int32)), .val (.int (2 : Int32)), .val (.int (1 : Int32)), .val (.int x1)] [])) _
    refine XS.iload X3.here hx rfl (hb hby d23_15) rfl ?_
    show Steps pg.tables ee below (T3.setTop (mkF mm 17 #[.val (.ref ch), .val (.int (1 : Int32)), .val (.ref bb), .val (.int (1 : Int32)), .val (.int (2 : Int32)), .val (.int (1 : Int32)), .val (.int x1)] [(.int x1)])) _
    refine XS.sipush X3.here hx rfl (hb hby d23_17) ?_
    show Steps pg.tables ee below (T3.setTop (mkF mm 20 #[.val (.ref ch), .val (.int (1 : Int32)), .val (.ref bb), .val (.int (1 : Int32)), .val (.int (2 : Int32)), .val (.int (1 : Int32)), .val (.int x1)] [(.int (255 : Int32)), (.int x1)])) _
    refine XS.icmpYes X3.here hx rfl (pc0 := 20) (pc' := 26) rfl (hb hby d23_20) rfl (flt hx1).2.2.2 (by decide) (by decide) ?_
    show Steps pg.tables ee below (T3.setTop (mkF mm 26 #[.val (.ref ch), .val (.int (1 : Int32)), .val (.ref bb), .val (.int (1 : Int32)), .val (.int (2 : Int32)), .val (.int (1 : Int32)), .val (.int x1)] [])) _
    refine XS.aloadN X3.here hx rfl (hb hby d23_26) rfl rfl ?_
    show Steps pg.tables ee below (T3.setTop (mkF mm 27 #[.val (.ref ch), .val (.int (1 : Int32)), .val (.ref bb), .val (.int (1 : Int32)), .val (.int (2 : Int32)), .val (.int (1 : Int32)), .val (.int x1)] [(.ref bb)])) _
    refine XS.iloadN X3.here hx rfl (hb hby d23_27) rfl ?_
    show Steps pg.tables ee below (T3.setTop (mkF mm 28 #[.val (.ref ch), .val (.int (1 : Int32)), .val (.ref bb), .val (.int (1 : Int32)), .val (.int (2 : Int32)), .val (.int (1 : Int32)), .val (.int x1)] [(.int (1 : Int32)), (.ref bb)])) _
    refine XS.iload X3.here hx rfl (hb hby d23_28) rfl ?_
    show Steps pg.tables ee below (T3.setTop (mkF mm 30 #[.val (.ref ch), .val (.int (1 : Int32)), .val (.ref bb), .val (.int (1 : Int32)), .val (.int (2 : Int32)), .val (.int (1 : Int32)), .val (.int x1)] [(.int x1), (.int (1 : Int32)), (.ref bb)])) _
    refine XS.i2b X3.here hx rfl (hb hby d23_30) rfl ?_
    show Steps pg.tables ee below (T3.setTop (mkF mm 31 #[.val (.ref ch), .val (.int (1 : Int32)), .val (.ref bb), .val (.int (1 : Int32)), .val (.int (2 : Int32)), .val (.int (1 : Int32)), .val (.int x1)] [(.int (x1.toInt8.toInt32)), (.int (1 : Int32)), (.ref bb)])) _
    refine st6 _ ?_
    show Steps pg.tables ee below (T6.setTop (mkF mm 32 #[.val (.ref ch), .val (.int (1 : Int32)), .val (.ref bb), .val (.int (1 : Int32)), .val (.int (2 : Int32)), .val (.int (1 : Int32)), .val (.int x1)] [])) _
    refine XS.iinc X6.here hx rfl (hb hby d23_32) rfl (l' := #[.val (.ref ch), .val (.int (2 : Int32)), .val (.ref bb), .val (.int (1 : Int32)), .val (.int (2 : Int32)), .val (.int (1 : Int32)), .val (.int x1)]) rfl ?_
    show Steps pg.tables ee below (T6.setTop (mkF mm 35 #[.val (.ref ch), .val (.int (2 : Int32)), .val (.ref bb), .val (.int (1 : Int32)), .val (.int (2 : Int32)), .val (.int (1 : Int32)), .val (.int x1)] [])) _
    refine XS.iinc X6.here hx rfl (hb hby d23_35) rfl (l' := #[.val (.ref ch), .val (.int (2 : Int32)), .val (.ref bb), .val (.int (2 : Int32)), .val (.int (2 : Int32)), .val (.int (1 : Int32)), .val (.int x1)]) rfl ?_
    show Steps pg.tables ee below (T6.setTop (mkF mm 38 #[.val (.ref ch), .val (.int (2 : Int32)), .val (.ref bb), .val (.int (2 : Int32)), .val (.int (2 : Int32)), .val (.int (1 : Int32)), .val (.int x1)] [])) _
    refine XS.iinc X6.here hx rfl (hb hby d23_38) rfl (l' := #[.val (.ref ch), .val (.int (2 : Int32)), .val (.ref bb), .val (.int (2 : Int32)), .val (.int (2 : Int32)), .val (.int (2 : Int32)), .val (.int x1)]) rfl ?_
    show Steps pg.tables ee below (T6.setTop (mkF mm 41 #[.val (.ref ch), .val (.int (2 : Int32)), .val (.ref bb), .val (.int (2 : Int32)), .val (.int (2 : Int32)), .val (.int (2 : Int32)), .val (.int x1)] [])) _
    refine XS.goto X6.here hx rfl (pc0 := 41) (pc' := 3) rfl (hb hby d23_41) (by decide) (by decide) ?_
    show Steps pg.tables ee below (T6.setTop (mkF mm 3 #[.val (.ref ch), .val (.int (2 : Int32)), .val (.ref bb), .val (.int (2 : Int32)), .val (.int (2 : Int32)), .val (.int (2 : Int32)), .val (.int x1)] [])) _
    refine XS.iload X6.here hx rfl (hb hby d23_3) rfl ?_
    show Steps pg.tables ee below (T6.setTop (mkF mm 5 #[.val (.ref ch), .val (.int (2 : Int32)), .val (.ref bb), .val (.int (2 : Int32)), .val (.int (2 : Int32)), .val (.int (2 : Int32)), .val (.int x1)] [(.int (2 : Int32))])) _
    refine XS.iload X6.here hx rfl (hb hby d23_5) rfl ?_
    show Steps pg.tables ee below (T6.setTop (mkF mm 7 #[.val (.ref ch), .val (.int (2 : Int32)), .val (.ref bb), .val (.int (2 : Int32)), .val (.int (2 : Int32)), .val (.int (2 : Int32)), .val (.int x1)] [(.int (2 : Int32)), (.int (2 : Int32))])) _
    refine XS.icmpYes X6.here hx rfl (pc0 := 7) (pc' := 44) rfl (hb hby d23_7) rfl (flt (by decide : ¬ ((2 : Int32) < (2 : Int32)))).2.1 (by decide) (by decide) ?_
    show Steps pg.tables ee below (T6.setTop (mkF mm 44 #[.val (.ref ch), .val (.int (2 : Int32)), .val (.ref bb), .val (.int (2 : Int32)), .val (.int (2 : Int32)), .val (.int (2 : Int32)), .val (.int x1)] [])) _
    refine XS.iload X6.here hx rfl (hb hby d23_44) rfl ?_
    show Steps pg.tables ee below (T6.setTop (mkF mm 46 #[.val (.ref ch), .val (.int (2 : Int32)), .val (.ref bb), .val (.int (2 : Int32)), .val (.int (2 : Int32)), .val (.int (2 : Int32)), .val (.int x1)] [(.int (2 : Int32))])) _
    exact retOut X6 hx Bd.returns rfl (Or.inl ⟨rfl, Or.inl rfl, _, rfl⟩) (hb hby d23_46) hr
  · show QrmIn2 Z ch kc x0 x1 bb kb h0 n0 _ T6.heap _
    rw [e6]
    exact ⟨rfl, N6, KK6, _, V6⟩
def QrmCm2 (Z : State) (ch : Addr) (kc : ClassId) (x0 : Int32) (x1 : Int32) (h0 : Heap) (n0 : Nat) (v : Option Value) (h : Heap) (L : List Loc) : Prop := ∃ (b : Addr) (kb : ClassId) (vs : List Value), v = some (.ref b) ∧ Fr n0 L ∧ Keep h0 h [] ∧ n0 ≤ b ∧ h0.size ≤ b ∧ Arv Z h b kb .byte (2 : Int32) vs (.int (0 : Int32))
set_option maxRecDepth 65536 in
set_option maxHeartbeats 40000000 in
theorem rmCm2 (l : Launch) (Z : State) (a0 : Array Value) (hw : ∀ d ∈ tables_1, d.before a0 Z = true) (ws : List Jvm.Cond) (ch : Addr) (kc : ClassId) (x0 : Int32) (x1 : Int32) (h0 : Heap) (n0 : Nat) (O0 : Old Z n0 h0) (Vc : Arv Z h0 ch kc .char (2 : Int32) [(.int x0), (.int x1)] (.int (0 : Int32))) (hx0 : ¬ ((255 : Int32) < x0)) (hx1 : ¬ ((255 : Int32) < x1)) :
    MetFree l (⟨"java/lang/StringUTF16", "compress", "([CII)[B"⟩ : MethodName) (head1 (Jvm.Cond.code (⟨"java/lang/StringUTF16", "compress", "([CII)[B"⟩ : MethodName) jdk_52_method_16_code 6 (some (.array .byte)) :: ws) ({ frames := 1, cells := 1, slots := 2, locals := 18 } : Room)) (fun a_ U_ => a_ = #[(.ref ch), (.int (0 : Int32)), (.int (2 : Int32))] ∧ Z.Warmed39 U_.vm ∧ U_.heap = h0) (fun _ _ _ _ _ => True) (fun _ U_ o_ U'_ => ∃ v_ L_, o_ = .returned v_ ∧ QrmCm2 Z ch kc x0 x1 h0 n0 v_ U'_.heap L_ ∧ FrameEnd U_ o_ U'_ L_ ({ frames := 1, cells := 1, slots := 2, locals := 18 } : Room).cells ({ frames := 1, cells := 1, slots := 2, locals := 18 } : Room).slots) := by
  refine MetFree.of_bodySF (plainFor_of_name pn_205) hisR ?_
  intro pg ee s mm args below meth cc s₁ Bd hml0 hP hK
  obtain ⟨rfl, hZ, hh⟩ := hP
  have hx := Bd.exec
  have hby := Bd.bytes
  have hml : cc.maxLocals = 6 := hml0
  have hown : s.vm.findClass "java/lang/StringUTF16" = some mm.cls := findClass_of_methodNamed Bd.named
  have hnm := (name_of_methodNamed Bd.named Bd.method).1
  have X0 : Stand pg l ee ({ frames := 1, cells := 1, slots := 2, locals := 18 } : Room) s mm #[(.ref ch), (.int (0 : Int32)), (.int (2 : Int32))] below meth cc s₁ [] 0 0 := Stand.of_body Bd
  have e0 : s₁.heap = h0 := by rw [← hh, Bd.state]; rfl
  have N0 := Fr.nil n0
  have K0 : Keep h0 h0 ([] : List Addr) := Keep.refl _ _
  have pre0 : ∀ tg_, Steps pg.tables ee below (s₁.setTop (mkF mm 0 #[.val (.ref ch), .val (.int (0 : Int32)), .val (.int (2 : Int32)), .unset, .unset, .unset] [])) tg_ → Steps pg.tables ee below (s₁.setTop (entryFrame mm #[(.ref ch), (.int (0 : Int32)), (.int (2 : Int32))] 6)) tg_ := fun tg_ k_ => castTop (ef_22_223 mm ch (0 : Int32) (2 : Int32)) k_
  obtain ⟨T1, h1, k1, X1, e1, E1, A1, st1⟩ := newP X0 hx hZ (hw _ (List.mem_of_getElem? (i := 19) rfl)) e0 (g := (mkF mm 1 #[.val (.ref ch), .val (.int (0 : Int32)), .val (.int (2 : Int32)), .unset, .unset, .unset] [(.int (2 : Int32))])) rfl (hb hby d22_1) rfl (by decide) (cap := 2) (by decide) (by decide) (by decide) (by decide)
  obtain ⟨b1, g1⟩ : ∃ z, z = h0.size := ⟨_, rfl⟩
  rw [← g1] at A1 st1
  have g_b1 : n0 ≤ b1 := Nat.le_trans (O0.1 ▸ O0.2.1) (Nat.le_of_eq g1.symm)
  have sz_b1 : h0.size ≤ b1 := Nat.le_trans K0.1 (Nat.le_of_eq g1.symm)
  have O1 := O0.ext E1
  have KK1 := K0.ext E1
  have V1 : Arv Z h1 b1 k1 .byte (2 : Int32) [(.int (0 : Int32)), (.int (0 : Int32))] (.int (0 : Int32)) := (Arv.new A1 (by decide)).pad (pad_rep [] (.int (0 : Int32)) 2)
  obtain ⟨_, _, ⟨T2, L2, k2, n2⟩, -, X2, ⟨Lc2, hQ2, l2, y2, z2⟩, st2⟩ := Jvm.LawKit.callS X1 hx (y := (⟨"java/lang/StringUTF16", "compress", "([CI[BII)I"⟩ : MethodName)) hown (mvT hZ (hw _ (List.mem_of_getElem? (i := 123) rfl))) (mvT hZ (hw _ (List.mem_of_getElem? (i := 124) rfl))) (mvT hZ (hw _ (List.mem_of_getElem? (i := 121) rfl))) (mvT hZ (hw _ (List.mem_of_getElem? (i := 125) rfl))) (by decide) (backOf (W := 0) (rmIn2 l Z a0 hw [] ch kc x0 x1 b1 k1 h1 n0 O1 (Vc.ext E1) V1 g_b1 (Nat.ne_of_lt (Nat.lt_of_lt_of_le Vc.lt (Nat.le_of_eq g1.symm))) hx0 hx1) hZ (hw _ (List.mem_of_getElem? (i := 125) rfl)) (hw _ (List.mem_of_getElem? (i := 121) rfl)) (by decide) (by decide)) (g := (mkF mm 9 #[.val (.ref ch), .val (.int (0 : Int32)), .val (.int (2 : Int32)), .val (.ref b1), .unset, .unset] [(.int (2 : Int32)), (.int (0 : Int32)), (.ref b1), (.int (0 : Int32)), (.ref ch)])) rfl (by rw [hml]; rfl) (argsL := [(.ref ch), (.int (0 : Int32)), (.ref b1), (.int (0 : Int32)), (.int (2 : Int32))]) (rest := []) (lenOf pd_216 rfl) rfl (by show 2 * 0 + _ ≤ _; exact Nat.le_of_eq rfl) (hb hby d22_9) (fun _ _ => ⟨rfl, e1, (by decide : 1 + 0 ≤ _), (by decide : 2 + 0 ≤ _)⟩)
  dsimp only [Pt.U, Pt.locs, Pt.cells, Pt.slots] at X2 l2 y2 z2 st2 hQ2
  subst l2 y2 z2
  obtain ⟨rfl, N2q, K2, vs2, Vw2⟩ := hQ2
  have O2 := O1.keep K2 (allS g_b1 all0)
  have KK2 := KK1.trans K2 (allS (Or.inr sz_b1) all0)
  have N2 := Fr.app N0 N2q
  obtain ⟨fs, hr, hrun, hended, hW, hsame⟩ := X2.leave (v := some (.ref b1)) (fun h => by rw [Bd.returns] at h; cases h)
  refine ⟨_, _, pre0 _ ?_, hrun, hended, _, _, rfl, ?_, ⟨_, rfl⟩, hW, hsame.mono (by decide) (by decide)⟩
  · show Steps pg.tables ee below (s₁.setTop (mkF mm 0 #[.val (.ref ch), .val (.int (0 : Int32)), .val (.int (2 : Int32)), .unset, .unset, .unset] [])) _
    refine XS.iloadN X0.here hx rfl (hb hby d22_0) rfl ?_
    show Steps pg.tables ee below (s₁.setTop (mkF mm 1 #[.val (.ref ch), .val (.int (0 : Int32)), .val (.int (2 : Int32)), .unset, .unset, .unset] [(.int (2 : Int32))])) _
    refine st1 _ ?_
    show Steps pg.tables ee below (T1.setTop (mkF mm 3 #[.val (.ref ch), .val (.int (0 : Int32)), .val (.int (2 : Int32)), .unset, .unset, .unset] [(.ref b1)])) _
    refine XS.astoreN X1.here hx rfl (hb hby d22_3) rfl rfl (l' := #[.val (.ref ch), .val (.int (0 : Int32)), .val (.int (2 : Int32)), .val (.ref b1), .unset, .unset]) rfl ?_
    show Steps pg.tables ee below (T1.setTop (mkF mm 4 #[.val (.ref ch), .val (.int (0 : Int32)), .val (.int (2 : Int32)), .val (.ref b1), .unset, .unset] [])) _
    refine XS.aloadN X1.here hx rfl (hb hby d22_4) rfl rfl ?_
    show Steps pg.tables ee below (T1.setTop (mkF mm 5 #[.val (.ref ch), .val (.int (0 : Int32)), .val (.int (2 : Int32)), .val (.ref b1), .unset, .unset] [(.ref ch)])) _
    refine XS.iloadN X1.here hx rfl (hb hby d22_5) rfl ?_
    show Steps pg.tables ee below (T1.setTop (mkF mm 6 #[.val (.ref ch), .val (.int (0 : Int32)), .val (.int (2 : Int32)), .val (.ref b1), .unset, .unset] [(.int (0 : Int32)), (.ref ch)])) _
    refine XS.aloadN X1.here hx rfl (hb hby d22_6) rfl rfl ?_
    show Steps pg.tables ee below (T1.setTop (mkF mm 7 #[.val (.ref ch), .val (.int (0 : Int32)), .val (.int (2 : Int32)), .val (.ref b1), .unset, .unset] [(.ref b1), (.int (0 : Int32)), (.ref ch)])) _
    refine XS.iconst X1.here hx rfl (hb hby d22_7) ?_
    show Steps pg.tables ee below (T1.setTop (mkF mm 8 #[.val (.ref ch), .val (.int (0 : Int32)), .val (.int (2 : Int32)), .val (.ref b1), .unset, .unset] [(.int (0 : Int32)), (.ref b1), (.int (0 : Int32)), (.ref ch)])) _
    refine XS.iloadN X1.here hx rfl (hb hby d22_8) rfl ?_
    show Steps pg.tables ee below (T1.setTop (mkF mm 9 #[.val (.ref ch), .val (.int (0 : Int32)), .val (.int (2 : Int32)), .val (.ref b1), .unset, .unset] [(.int (2 : Int32)), (.int (0 : Int32)), (.ref b1), (.int (0 : Int32)), (.ref ch)])) _
    refine st2 _ ?_
    show Steps pg.tables ee below (T2.setTop (mkF mm 12 #[.val (.ref ch), .val (.int (0 : Int32)), .val (.int (2 : Int32)), .val (.ref b1), .unset, .unset] [(.int (2 : Int32))])) _
    refine XS.istore X2.here hx rfl (hb hby d22_12) rfl (l' := #[.val (.ref ch), .val (.int (0 : Int32)), .val (.int (2 : Int32)), .val (.ref b1), .val (.int (2 : Int32)), .unset]) rfl ?_
    show Steps pg.tables ee below (T2.setTop (mkF mm 14 #[.val (.ref ch), .val (.int (0 : Int32)), .val (.int (2 : Int32)), .val (.ref b1), .val (.int (2 : Int32)), .unset] [])) _
    refine XS.iload X2.here hx rfl (hb hby d22_14) rfl ?_
    show Steps pg.tables ee below (T2.setTop (mkF mm 16 #[.val (.ref ch), .val (.int (0 : Int32)), .val (.int (2 : Int32)), .val (.ref b1), .val (.int (2 : Int32)), .unset] [(.int (2 : Int32))])) _
    refine XS.iloadN X2.here hx rfl (hb hby d22_16) rfl ?_
    show Steps pg.tables ee below (T2.setTop (mkF mm 17 #[.val (.ref ch), .val (.int (0 : Int32)), .val (.int (2 : Int32)), .val (.ref b1), .val (.int (2 : Int32)), .unset] [(.int (2 : Int32)), (.int (2 : Int32))])) _
    refine XS.icmpYes X2.here hx rfl (pc0 := 17) (pc' := 57) rfl (hb hby d22_17) rfl (teq (by decide : (2 : Int32) = (2 : Int32))).1 (by decide) (by decide) ?_
    show Steps pg.tables ee below (T2.setTop (mkF mm 57 #[.val (.ref ch), .val (.int (0 : Int32)), .val (.int (2 : Int32)), .val (.ref b1), .val (.int (2 : Int32)), .unset] [])) _
    refine XS.aloadN X2.here hx rfl (hb hby d22_57) rfl rfl ?_
    show Steps pg.tables ee below (T2.setTop (mkF mm 58 #[.val (.ref ch), .val (.int (0 : Int32)), .val (.int (2 : Int32)), .val (.ref b1), .val (.int (2 : Int32)), .unset] [(.ref b1)])) _
    exact retOut X2 hx Bd.returns rfl (Or.inr (Or.inr (Or.inr (Or.inr ⟨rfl, rfl, rfl⟩)))) (hb hby d22_58) hr
  · show QrmCm2 Z ch kc x0 x1 h0 n0 _ T2.heap _
    exact ⟨_, _, _, rfl, N2, KK2, g_b1, sz_b1, Vw2⟩
def QrmCf2 (Z : State) (bb : Addr) (kb : ClassId) (vs : List Value) (h0 : Heap) (n0 : Nat) (v : Option Value) (h : Heap) (L : List Loc) : Prop := v = some (.int (0 : Int32)) ∧ Fr n0 L ∧ h = h0
set_option maxRecDepth 65536 in
set_option maxHeartbeats 40000000 in
theorem rmCf2 (l : Launch) (Z : State) (a0 : Array Value) (hw : ∀ d ∈ tables_1, d.before a0 Z = true) (ws : List Jvm.Cond) (bb : Addr) (kb : ClassId) (vs : List Value) (h0 : Heap) (n0 : Nat) (O0 : Old Z n0 h0) (Vb : Arv Z h0 bb kb .byte (2 : Int32) vs (.int (0 : Int32))) :
    MetFree l (⟨"java/lang/StringUTF16", "coderFromArrayLen", "([BI)B"⟩ : MethodName) (head1 (Jvm.Cond.code (⟨"java/lang/StringUTF16", "coderFromArrayLen", "([BI)B"⟩ : MethodName) jdk_52_method_15_code 2 (some .byte) :: ws) ({ frames := 0, cells := 0, slots := 0, locals := 0 } : Room)) (fun a_ U_ => a_ = #[(.ref bb), (.int (2 : Int32))] ∧ Z.Warmed39 U_.vm ∧ U_.heap = h0) (fun _ _ _ _ _ => True) (fun _ U_ o_ U'_ => ∃ v_ L_, o_ = .returned v_ ∧ QrmCf2 Z bb kb vs h0 n0 v_ U'_.heap L_ ∧ FrameEnd U_ o_ U'_ L_ ({ frames := 0, cells := 0, slots := 0, locals := 0 } : Room).cells ({ frames := 0, cells := 0, slots := 0, locals := 0 } : Room).slots) := by
  refine MetFree.of_bodySF (plainFor_of_name pn_205) hisR ?_
  intro pg ee s mm args below meth cc s₁ Bd hml0 hP hK
  obtain ⟨rfl, hZ, hh⟩ := hP
  have hx := Bd.exec
  have hby := Bd.bytes
  have hml : cc.maxLocals = 2 := hml0
  have hown : s.vm.findClass "java/lang/StringUTF16" = some mm.cls := findClass_of_methodNamed Bd.named
  have hnm := (name_of_methodNamed Bd.named Bd.method).1
  have X0 : Stand pg l ee ({ frames := 0, cells := 0, slots := 0, locals := 0 } : Room) s mm #[(.ref bb), (.int (2 : Int32))] below meth cc s₁ [] 0 0 := Stand.of_body Bd
  have e0 : s₁.heap = h0 := by rw [← hh, Bd.state]; rfl
  have N0 := Fr.nil n0
  have K0 : Keep h0 h0 ([] : List Addr) := Keep.refl _ _
  have pre0 : ∀ tg_, Steps pg.tables ee below (s₁.setTop (mkF mm 0 #[.val (.ref bb), .val (.int (2 : Int32))] [])) tg_ → Steps pg.tables ee below (s₁.setTop (entryFrame mm #[(.ref bb), (.int (2 : Int32))] 2)) tg_ := fun tg_ k_ => castTop (ef_24_232 mm bb (2 : Int32)) k_
  obtain ⟨cl1, Ar1, qk1, Sz1, Nn1, Hh1, Gg1⟩ := id Vb
  obtain ⟨fs, hr, hrun, hended, hW, hsame⟩ := X0.leave (v := some (.int (0 : Int32))) (fun h => by rw [Bd.returns] at h; cases h)
  refine ⟨_, _, pre0 _ ?_, hrun, hended, _, _, rfl, ?_, ⟨_, rfl⟩, hW, hsame.mono (by decide) (by decide)⟩
  · show Steps pg.tables ee below (s₁.setTop (mkF mm 0 #[.val (.ref bb), .val (.int (2 : Int32))] [])) _
    refine XS.iloadN X0.here hx rfl (hb hby d24_0) rfl ?_
    show Steps pg.tables ee below (s₁.setTop (mkF mm 1 #[.val (.ref bb), .val (.int (2 : Int32))] [(.int (2 : Int32))])) _
    refine XS.aloadN X0.here hx rfl (hb hby d24_1) rfl rfl ?_
    show Steps pg.tables ee below (s₁.setTop (mkF mm 2 #[.val (.ref bb), .val (.int (2 : Int32))] [(.ref bb), (.int (2 : Int32))])) _
    refine X0.arraylength hx (by rw [e0]; exact Ar1.1) (State.isArrayOf_alike hZ.alike Ar1.2.1) (g := (mkF mm 2 #[.val (.ref bb), .val (.int (2 : Int32))] [(.ref bb), (.int (2 : Int32))])) rfl rfl (hb hby d24_2) _ ?_
    rw [len_of Sz1 Nn1]
    show Steps pg.tables ee below (s₁.setTop (mkF mm 3 #[.val (.ref bb), .val (.int (2 : Int32))] [(.int (2 : Int32)), (.int (2 : Int32))])) _
    refine XS.isub X0.here hx rfl (hb hby d24_3) rfl ?_
    show Steps pg.tables ee below (s₁.setTop (mkF mm 4 #[.val (.ref bb), .val (.int (2 : Int32))] [(.int (0 : Int32))])) _
    refine XS.bipush X0.here hx rfl (hb hby d24_4) ?_
    show Steps pg.tables ee below (s₁.setTop (mkF mm 6 #[.val (.ref bb), .val (.int (2 : Int32))] [(.int (31 : Int32)), (.int (0 : Int32))])) _
    refine XS.iushr X0.here hx rfl (hb hby d24_6) rfl ?_
    show Steps pg.tables ee below (s₁.setTop (mkF mm 7 #[.val (.ref bb), .val (.int (2 : Int32))] [(.int (0 : Int32))])) _
    refine XS.i2b X0.here hx rfl (hb hby d24_7) rfl ?_
    show Steps pg.tables ee below (s₁.setTop (mkF mm 8 #[.val (.ref bb), .val (.int (2 : Int32))] [(.int (0 : Int32))])) _
    exact retN X0 hx (t := .byte) Bd.returns (by simp) (hb hby d24_8) hr
  · show QrmCf2 Z bb kb vs h0 n0 _ s₁.heap _
    rw [e0]
    exact ⟨rfl, N0, rfl⟩
def QrmV2 (Z : State) (a : Addr) (ch : Addr) (kc : ClassId) (x0 : Int32) (x1 : Int32) (cs : Int32) (h0 : Heap) (n0 : Nat) (v : Option Value) (h : Heap) (L : List Loc) : Prop := v = none ∧ Fr n0 L ∧ Keep h0 h [a] ∧ ∃ (b : Addr) (kb : ClassId) (vs : List Value), Exa Z h a "java/lang/String" ∧ Fld Z h a "java/lang/String" "coder" "B" (.int (0 : Int32)) ∧ Fld Z h a "java/lang/String" "value" "[B" (.ref b) ∧ Arv Z h b kb .byte (2 : Int32) vs (.int 0)
set_option maxRecDepth 65536 in
set_option maxHeartbeats 40000000 in
theorem rmV2 (l : Launch) (Z : State) (a0 : Array Value) (hw : ∀ d ∈ tables_1, d.before a0 Z = true) (ws : List Jvm.Cond) (a : Addr) (ch : Addr) (kc : ClassId) (x0 : Int32) (x1 : Int32) (cs : Int32) (h0 : Heap) (n0 : Nat) (O0 : Old Z n0 h0) (E_a : Exa Z h0 a "java/lang/String") (F_value_a : Fld Z h0 a "java/lang/String" "value" "[B" .null) (F_coder_a : Fld Z h0 a "java/lang/String" "coder" "B" (.int (0 : Int32))) (g_a : n0 ≤ a) (Vc : Arv Z h0 ch kc .char (2 : Int32) [(.int x0), (.int x1)] (.int (0 : Int32))) (hca : ch ≠ a) (hx0 : ¬ ((255 : Int32) < x0)) (hx1 : ¬ ((255 : Int32) < x1)) (S_CS : Sta Z Z.heap "java/lang/String" "COMPACT_STRINGS" "Z" (.int cs)) (hcs : ¬ (cs = (0 : Int32))) :
    MetFree l (⟨"java/lang/String", "<init>", "([CIILjava/lang/Void;)V"⟩ : MethodName) (head1 (Jvm.Cond.code (⟨"java/lang/String", "<init>", "([CIILjava/lang/Void;)V"⟩ : MethodName) jdk_42_method_149_code 6 none :: ws) ({ frames := 2, cells := 1, slots := 2, locals := 35 } : Room)) (fun a_ U_ => a_ = #[(.ref a), (.ref ch), (.int (0 : Int32)), (.int (2 : Int32)), .null] ∧ Z.Warmed39 U_.vm ∧ U_.heap = h0) (fun _ _ _ _ _ => True) (fun _ U_ o_ U'_ => ∃ v_ L_, o_ = .returned v_ ∧ QrmV2 Z a ch kc x0 x1 cs h0 n0 v_ U'_.heap L_ ∧ FrameEnd U_ o_ U'_ L_ ({ frames := 2, cells := 1, slots := 2, locals := 35 } : Room).cells ({ frames := 2, cells := 1, slots := 2, locals := 35 } : Room).slots) := by
  refine MetFree.of_bodySF (plainFor_of_name pn_6) hisR ?_
  intro pg ee s mm args below meth cc s₁ Bd hml0 hP hK
  obtain ⟨rfl, hZ, hh⟩ := hP
  have hx := Bd.exec
  have hby := Bd.bytes
  have hml : cc.maxLocals = 6 := hml0
  have hown : s.vm.findClass "java/lang/String" = some mm.cls := findClass_of_methodNamed Bd.named
  have hnm := (name_of_methodNamed Bd.named Bd.method).1
  have X0 : Stand pg l ee ({ frames := 2, cells := 1, slots := 2, locals := 35 } : Room) s mm #[(.ref a), (.ref ch), (.int (0 : Int32)), (.int (2 : Int32)), .null] below meth cc s₁ [] 0 0 := Stand.of_body Bd
  have e0 : s₁.heap = h0 := by rw [← hh, Bd.state]; rfl
  have N0 := Fr.nil n0
  have K0 : Keep h0 h0 ([a] : List Addr) := Keep.refl _ _
  have pre0 : ∀ tg_, Steps pg.tables ee below (s₁.setTop (mkF mm 0 #[.val (.ref a), .val (.ref ch), .val (.int (0 : Int32)), .val (.int (2 : Int32)), .val .null, .unset] [])) tg_ → Steps pg.tables ee below (s₁.setTop (entryFrame mm #[(.ref a), (.ref ch), (.int (0 : Int32)), (.int (2 : Int32)), .null] 6)) tg_ := fun tg_ k_ => castTop (ef_3_255 mm a ch (0 : Int32) (2 : Int32)) k_
  obtain ⟨T1, X1, e1, st1⟩ := initO X0 hx hZ hown (hw _ (List.mem_of_getElem? (i := 15) rfl)) (hw _ (List.mem_of_getElem? (i := 16) rfl)) (hw _ (List.mem_of_getElem? (i := 17) rfl)) e0 (g := (mkF mm 1 #[.val (.ref a), .val (.ref ch), .val (.int (0 : Int32)), .val (.int (2 : Int32)), .val .null, .unset] [(.ref a)])) rfl (by rw [hml]; rfl) rfl (hb hby d3_1) (by decide) (W := 0) (by show 2 * 0 + _ ≤ _; exact Nat.le_of_eq rfl) (by decide)
  obtain ⟨T2, X2, e2, st2⟩ := getS2 X1 hx hZ hown (host := "") (Or.inl (hw _ (List.mem_of_getElem? (i := 99) rfl))) Via.refl e1 (S_CS.ext O0.2) (g := (mkF mm 27 #[.val (.ref a), .val (.ref ch), .val (.int (0 : Int32)), .val (.int (2 : Int32)), .val .null, .unset] [])) rfl (hb hby d3_27)
  obtain ⟨_, _, ⟨T3, L3, k3, n3⟩, -, X3, ⟨Lc3, hQ3, l3, y3, z3⟩, st3⟩ := Jvm.LawKit.callS X2 hx (y := (⟨"java/lang/StringUTF16", "compress", "([CII)[B"⟩ : MethodName)) hown (mvT hZ (hw _ (List.mem_of_getElem? (i := 119) rfl))) (mvT hZ (hw _ (List.mem_of_getElem? (i := 120) rfl))) (mvT hZ (hw _ (List.mem_of_getElem? (i := 121) rfl))) (mvT hZ (hw _ (List.mem_of_getElem? (i := 122) rfl))) (by decide) (backOf (W := 0) (rmCm2 l Z a0 hw [] ch kc x0 x1 h0 n0 O0 Vc hx0 hx1) hZ (hw _ (List.mem_of_getElem? (i := 122) rfl)) (hw _ (List.mem_of_getElem? (i := 121) rfl)) (by decide) (by decide)) (g := (mkF mm 36 #[.val (.ref a), .val (.ref ch), .val (.int (0 : Int32)), .val (.int (2 : Int32)), .val .null, .unset] [(.int (2 : Int32)), (.int (0 : Int32)), (.ref ch)])) rfl (by rw [hml]; rfl) (argsL := [(.ref ch), (.int (0 : Int32)), (.int (2 : Int32))]) (rest := []) (lenOf pd_243 rfl) rfl (by show 2 * 0 + _ ≤ _; exact Nat.le_of_eq rfl) (hb hby d3_36) (fun _ _ => ⟨rfl, e2, (by decide : 0 + 1 ≤ _), (by decide : 0 + 2 ≤ _)⟩)
  dsimp only [Pt.U, Pt.locs, Pt.cells, Pt.slots] at X3 l3 y3 z3 st3 hQ3
  subst l3 y3 z3
  obtain ⟨bb3, kb3, vs3, rfl, N3q, K3, g_bb3, sz_bb3, Vw3⟩ := hQ3
  have O3 := O0.keep K3 all0
  have KK3 := K0.trans K3 all0
  have N3 := Fr.app N0 N3q
  obtain ⟨_, _, ⟨T4, L4, k4, n4⟩, -, X4, ⟨Lc4, hQ4, l4, y4, z4⟩, st4⟩ := Jvm.LawKit.callS X3 hx (y := (⟨"java/lang/StringUTF16", "coderFromArrayLen", "([BI)B"⟩ : MethodName)) hown (mvT hZ (hw _ (List.mem_of_getElem? (i := 126) rfl))) (mvT hZ (hw _ (List.mem_of_getElem? (i := 127) rfl))) (mvT hZ (hw _ (List.mem_of_getElem? (i := 121) rfl))) (mvT hZ (hw _ (List.mem_of_getElem? (i := 128) rfl))) (by decide) (backOf (W := 1) (rmCf2 l Z a0 hw [] bb3 kb3 vs3 T3.heap n0 O3 Vw3) hZ (hw _ (List.mem_of_getElem? (i := 128) rfl)) (hw _ (List.mem_of_getElem? (i := 121) rfl)) (by decide) (by decide)) (g := (mkF mm 45 #[.val (.ref a), .val (.ref ch), .val (.int (0 : Int32)), .val (.int (2 : Int32)), .val .null, .val (.ref bb3)] [(.int (2 : Int32)), (.ref bb3), (.ref a)])) rfl (by rw [hml]; rfl) (argsL := [(.ref bb3), (.int (2 : Int32))]) (rest := [(.ref a)]) (lenOf pd_249 rfl) rfl (by show 2 * 0 + _ ≤ _; exact Nat.le_of_eq rfl) (hb hby d3_45) (fun _ _ => ⟨rfl, rfl, (by decide : 1 + 0 ≤ _), (by decide : 2 + 0 ≤ _)⟩)
  dsimp only [Pt.U, Pt.locs, Pt.cells, Pt.slots] at X4 l4 y4 z4 st4 hQ4
  subst l4 y4 z4
  obtain ⟨rfl, N4q, e4⟩ := hQ4
  have N4 := Fr.app N3 N4q
  obtain ⟨T5, h5, X5, e5, W5, st5⟩ := putFN X4 hx hZ hown (hw _ (List.mem_of_getElem? (i := 25) rfl)) Via.refl e4 (F_coder_a.keep K3 nin0) (E_a.keep K3) (Or.inr ⟨(hw _ (List.mem_of_getElem? (i := 21) rfl)), rfl, hnm⟩) (hw _ (List.mem_of_getElem? (i := 5) rfl)) (ty := .byte) (v' := (.int (0 : Int32))) (by decide) rfl (by decide) (g := (mkF mm 48 #[.val (.ref a), .val (.ref ch), .val (.int (0 : Int32)), .val (.int (2 : Int32)), .val .null, .val (.ref bb3)] [(.int (0 : Int32)), (.ref a)])) rfl rfl (hb hby d3_48)
  have Fw5 : Fld Z h5 a "java/lang/String" "coder" "B" (.int (0 : Int32)) := (F_coder_a.keep K3 nin0).same W5
  have N5 := Fr.snoc X5 N4 g_a
  have O5 := O3.wr W5 g_a
  have KK5 := KK3.wr W5 (Or.inl (by simp))
  obtain ⟨T6, h6, X6, e6, W6, st6⟩ := putF X5 hx hZ hown (host := "") (Or.inl (hw _ (List.mem_of_getElem? (i := 24) rfl))) Via.refl e5 ((F_value_a.keep K3 nin0).other W5 (Or.inr (slot_ne (Or.inr (hw _ (List.mem_of_getElem? (i := 20) rfl))) (Or.inr (hw _ (List.mem_of_getElem? (i := 21) rfl))) (by decide) (t := (.array .byte)) (t' := .byte) (by decide) (by decide)))) ((E_a.keep K3).wr W5) (Or.inr ⟨(hw _ (List.mem_of_getElem? (i := 20) rfl)), rfl, hnm⟩) (hw _ (List.mem_of_getElem? (i := 5) rfl)) (ty := (.array .byte)) (by decide) rfl rfl (g := (mkF mm 54 #[.val (.ref a), .val (.ref ch), .val (.int (0 : Int32)), .val (.int (2 : Int32)), .val .null, .val (.ref bb3)] [(.ref bb3), (.ref a)])) rfl rfl (hb hby d3_54)
  have Fw6 : Fld Z h6 a "java/lang/String" "value" "[B" (.ref bb3) := ((F_value_a.keep K3 nin0).other W5 (Or.inr (slot_ne (Or.inr (hw _ (List.mem_of_getElem? (i := 20) rfl))) (Or.inr (hw _ (List.mem_of_getElem? (i := 21) rfl))) (by decide) (t := (.array .byte)) (t' := .byte) (by decide) (by decide)))).same W6
  have N6 := Fr.snoc X6 N5 g_a
  have O6 := O5.wr W6 g_a
  have KK6 := KK5.wr W6 (Or.inl (by simp))
  obtain ⟨fs, hr, hrun, hended, hW, hsame⟩ := X6.leave (v := none) (fun _ => rfl)
  refine ⟨_, _, pre0 _ ?_, hrun, hended, _, _, rfl, ?_, ⟨_, rfl⟩, hW, hsame.mono (by decide) (by decide)⟩
  · show Steps pg.tables ee below (s₁.setTop (mkF mm 0 #[.val (.ref a), .val (.ref ch), .val (.int (0 : Int32)), .val (.int (2 : Int32)), .val .null, .unset] [])) _
    refine XS.aloadN X0.here hx rfl (hb hby d3_0) rfl rfl ?_
    show Steps pg.tables ee below (s₁.setTop (mkF mm 1 #[.val (.ref a), .val (.ref ch), .val (.int (0 : Int32)), .val (.int (2 : Int32)), .val .null, .unset] [(.ref a)])) _
    refine st1 _ ?_
    show Steps pg.tables ee below (T1.setTop (mkF mm 4 #[.val (.ref a), .val (.ref ch), .val (.int (0 : Int32)), .val (.int (2 : Int32)), .val .null, .unset] [])) _
    refine XS.iloadN X1.here hx rfl (hb hby d3_4) rfl ?_
    show Steps pg.tables ee below (T1.setTop (mkF mm 5 #[.val (.ref a), .val (.ref ch), .val (.int (0 : Int32)), .val (.int (2 : Int32)), .val .null, .unset] [(.int (2 : Int32))])) _
    refine XS.ifYes X1.here hx rfl (pc0 := 5) (pc' := 27) rfl (hb hby d3_5) rfl ((if0 _ _).trans (feq (by decide : ¬ ((2 : Int32) = (0 : Int32)))).2) (by decide) (by decide) ?_
    show Steps pg.tables ee below (T1.setTop (mkF mm 27 #[.val (.ref a), .val (.ref ch), .val (.int (0 : Int32)), .val (.int (2 : Int32)), .val .null, .unset] [])) _
    refine st2 _ ?_
    show Steps pg.tables ee below (T2.setTop (mkF mm 30 #[.val (.ref a), .val (.ref ch), .val (.int (0 : Int32)), .val (.int (2 : Int32)), .val .null, .unset] [(.int cs)])) _
    refine XS.ifNo X2.here hx rfl (hb hby d3_30) rfl ((if0 _ _).trans (feq hcs).1) ?_
    show Steps pg.tables ee below (T2.setTop (mkF mm 33 #[.val (.ref a), .val (.ref ch), .val (.int (0 : Int32)), .val (.int (2 : Int32)), .val .null, .unset] [])) _
    refine XS.aloadN X2.here hx rfl (hb hby d3_33) rfl rfl ?_
    show Steps pg.tables ee below (T2.setTop (mkF mm 34 #[.val (.ref a), .val (.ref ch), .val (.int (0 : Int32)), .val (.int (2 : Int32)), .val .null, .unset] [(.ref ch)])) _
    refine XS.iloadN X2.here hx rfl (hb hby d3_34) rfl ?_
    show Steps pg.tables ee below (T2.setTop (mkF mm 35 #[.val (.ref a), .val (.ref ch), .val (.int (0 : Int32)), .val (.int (2 : Int32)), .val .null, .unset] [(.int (0 : Int32)), (.ref ch)])) _
    refine XS.iloadN X2.here hx rfl (hb hby d3_35) rfl ?_
    show Steps pg.tables ee below (T2.setTop (mkF mm 36 #[.val (.ref a), .val (.ref ch), .val (.int (0 : Int32)), .val (.int (2 : Int32)), .val .null, .unset] [(.int (2 : Int32)), (.int (0 : Int32)), (.ref ch)])) _
    refine st3 _ ?_
    show Steps pg.tables ee below (T3.setTop (mkF mm 39 #[.val (.ref a), .val (.ref ch), .val (.int (0 : Int32)), .val (.int (2 : Int32)), .val .null, .unset] [(.ref bb3)])) _
    refine XS.astore X3.here hx rfl (hb hby d3_39) rfl rfl (l' := #[.val (.ref a), .val (.ref ch), .val (.int (0 : Int32)), .val (.int (2 : Int32)), .val .null, .val (.ref bb3)]) rfl ?_
    show Steps pg.tables ee below (T3.setTop (mkF mm 41 #[.val (.ref a), .val (.ref ch), .val (.int (0 : Int32)), .val (.int (2 : Int32)), .val .null, .val (.ref bb3)] [])) _
    refine XS.aloadN X3.here hx rfl (hb hby d3_41) rfl rfl ?_
    show Steps pg.tables ee below (T3.setTop (mkF mm 42 #[.val (.ref a), .val (.ref ch), .val (.int (0 : Int32)), .val (.int (2 : Int32)), .val .null, .val (.ref bb3)] [(.ref a)])) _
    refine XS.aload X3.here hx rfl (hb hby d3_42) rfl rfl ?_
    show Steps pg.tables ee below (T3.setTop (mkF mm 44 #[.val (.ref a), .val (.ref ch), .val (.int (0 : Int32)), .val (.int (2 : Int32)), .val .null, .val (.ref bb3)] [(.ref bb3), (.ref a)])) _
    refine XS.iloadN X3.here hx rfl (hb hby d3_44) rfl ?_
    show Steps pg.tables ee below (T3.setTop (mkF mm 45 #[.val (.ref a), .val (.ref ch), .val (.int (0 : Int32)), .val (.int (2 : Int32)), .val .null, .val (.ref bb3)] [(.int (2 : Int32)), (.ref bb3), (.ref a)])) _
    refine st4 _ ?_
    show Steps pg.tables ee below (T4.setTop (mkF mm 48 #[.val (.ref a), .val (.ref ch), .val (.int (0 : Int32)), .val (.int (2 : Int32)), .val .null, .val (.ref bb3)] [(.int (0 : Int32)), (.ref a)])) _
    refine st5 _ ?_
    show Steps pg.tables ee below (T5.setTop (mkF mm 51 #[.val (.ref a), .val (.ref ch), .val (.int (0 : Int32)), .val (.int (2 : Int32)), .val .null, .val (.ref bb3)] [])) _
    refine XS.aloadN X5.here hx rfl (hb hby d3_51) rfl rfl ?_
    show Steps pg.tables ee below (T5.setTop (mkF mm 52 #[.val (.ref a), .val (.ref ch), .val (.int (0 : Int32)), .val (.int (2 : Int32)), .val .null, .val (.ref bb3)] [(.ref a)])) _
    refine XS.aload X5.here hx rfl (hb hby d3_52) rfl rfl ?_
    show Steps pg.tables ee below (T5.setTop (mkF mm 54 #[.val (.ref a), .val (.ref ch), .val (.int (0 : Int32)), .val (.int (2 : Int32)), .val .null, .val (.ref bb3)] [(.ref bb3), (.ref a)])) _
    refine st6 _ ?_
    show Steps pg.tables ee below (T6.setTop (mkF mm 57 #[.val (.ref a), .val (.ref ch), .val (.int (0 : Int32)), .val (.int (2 : Int32)), .val .null, .val (.ref bb3)] [])) _
    exact X6.returnOut hx Bd.returns (hb hby d3_57) hr
  · show QrmV2 Z a ch kc x0 x1 cs h0 n0 _ T6.heap _
    rw [e6]
    exact ⟨rfl, N6, KK6, _, _, _, (((E_a.keep K3).wr W5).wr W6), (Fw5.other W6 (Or.inr (slot_ne (Or.inr (hw _ (List.mem_of_getElem? (i := 21) rfl))) (Or.inr (hw _ (List.mem_of_getElem? (i := 20) rfl))) (by decide) (t := .byte) (t' := (.array .byte)) (by decide) (by decide)))), Fw6, ((Vw3.other W5 (Ne.symm (Nat.ne_of_lt (Nat.lt_of_lt_of_le E_a.lt sz_bb3)))).other W6 (Ne.symm (Nat.ne_of_lt (Nat.lt_of_lt_of_le E_a.lt sz_bb3))))⟩
def QrmC2 (Z : State) (a : Addr) (ch : Addr) (kc : ClassId) (x0 : Int32) (x1 : Int32) (cs : Int32) (h0 : Heap) (n0 : Nat) (v : Option Value) (h : Heap) (L : List Loc) : Prop := v = none ∧ Fr n0 L ∧ Keep h0 h [a] ∧ ∃ (b : Addr) (kb : ClassId) (vs : List Value), Exa Z h a "java/lang/String" ∧ Fld Z h a "java/lang/String" "coder" "B" (.int (0 : Int32)) ∧ Fld Z h a "java/lang/String" "value" "[B" (.ref b) ∧ Arv Z h b kb .byte (2 : Int32) vs (.int 0)
set_option maxRecDepth 65536 in
set_option maxHeartbeats 40000000 in
theorem rmC2 (l : Launch) (Z : State) (a0 : Array Value) (hw : ∀ d ∈ tables_1, d.before a0 Z = true) (ws : List Jvm.Cond) (a : Addr) (ch : Addr) (kc : ClassId) (x0 : Int32) (x1 : Int32) (cs : Int32) (h0 : Heap) (n0 : Nat) (O0 : Old Z n0 h0) (E_a : Exa Z h0 a "java/lang/String") (F_value_a : Fld Z h0 a "java/lang/String" "value" "[B" .null) (F_coder_a : Fld Z h0 a "java/lang/String" "coder" "B" (.int (0 : Int32))) (g_a : n0 ≤ a) (Vc : Arv Z h0 ch kc .char (2 : Int32) [(.int x0), (.int x1)] (.int (0 : Int32))) (hca : ch ≠ a) (hx0 : ¬ ((255 : Int32) < x0)) (hx1 : ¬ ((255 : Int32) < x1)) (S_CS : Sta Z Z.heap "java/lang/String" "COMPACT_STRINGS" "Z" (.int cs)) (hcs : ¬ (cs = (0 : Int32))) :
    MetFree l (⟨"java/lang/String", "<init>", "([C)V"⟩ : MethodName) (head1 (Jvm.Cond.code (⟨"java/lang/String", "<init>", "([C)V"⟩ : MethodName) jdk_42_method_3_code 2 none :: ws) ({ frames := 3, cells := 1, slots := 2, locals := 52 } : Room)) (fun a_ U_ => a_ = #[(.ref a), (.ref ch)] ∧ Z.Warmed39 U_.vm ∧ U_.heap = h0) (fun _ _ _ _ _ => True) (fun _ U_ o_ U'_ => ∃ v_ L_, o_ = .returned v_ ∧ QrmC2 Z a ch kc x0 x1 cs h0 n0 v_ U'_.heap L_ ∧ FrameEnd U_ o_ U'_ L_ ({ frames := 3, cells := 1, slots := 2, locals := 52 } : Room).cells ({ frames := 3, cells := 1, slots := 2, locals := 52 } : Room).slots) := by
  refine MetFree.of_bodySF (plainFor_of_name pn_6) hisR ?_
  intro pg ee s mm args below meth cc s₁ Bd hml0 hP hK
  obtain ⟨rfl, hZ, hh⟩ := hP
  have hx := Bd.exec
  have hby := Bd.bytes
  have hml : cc.maxLocals = 2 := hml0
  have hown : s.vm.findClass "java/lang/String" = some mm.cls := findClass_of_methodNamed Bd.named
  have hnm := (name_of_methodNamed Bd.named Bd.method).1
  have X0 : Stand pg l ee ({ frames := 3, cells := 1, slots := 2, locals := 52 } : Room) s mm #[(.ref a), (.ref ch)] below meth cc s₁ [] 0 0 := Stand.of_body Bd
  have e0 : s₁.heap = h0 := by rw [← hh, Bd.state]; rfl
  have N0 := Fr.nil n0
  have K0 : Keep h0 h0 ([a] : List Addr) := Keep.refl _ _
  have pre0 : ∀ tg_, Steps pg.tables ee below (s₁.setTop (mkF mm 0 #[.val (.ref a), .val (.ref ch)] [])) tg_ → Steps pg.tables ee below (s₁.setTop (entryFrame mm #[(.ref a), (.ref ch)] 2)) tg_ := fun tg_ k_ => castTop (ef_2_265 mm a ch) k_
  obtain ⟨cl1, Ar1, qk1, Sz1, Nn1, Hh1, Gg1⟩ := id Vc
  obtain ⟨_, _, ⟨T2, L2, k2, n2⟩, -, X2, ⟨Lc2, hQ2, l2, y2, z2⟩, st2⟩ := X0.specialBack hx (y := (⟨"java/lang/String", "<init>", "([CIILjava/lang/Void;)V"⟩ : MethodName)) rfl hown (mvT hZ (hw _ (List.mem_of_getElem? (i := 11) rfl))) (mvT hZ (hw _ (List.mem_of_getElem? (i := 12) rfl))) (mvT hZ (hw _ (List.mem_of_getElem? (i := 14) rfl))) (by decide) (backOf (W := 0) (rmV2 l Z a0 hw [] a ch kc x0 x1 cs h0 n0 O0 E_a F_value_a F_coder_a g_a Vc hca hx0 hx1 S_CS hcs) hZ (hw _ (List.mem_of_getElem? (i := 14) rfl)) (hw _ (List.mem_of_getElem? (i := 6) rfl)) (by decide) (by decide)) (g := (mkF mm 6 #[.val (.ref a), .val (.ref ch)] [.null, (.int (2 : Int32)), (.int (0 : Int32)), (.ref ch), (.ref a)])) rfl (by rw [hml]; rfl) (Steps.refl _) (a := a) (argsL := [(.ref ch), (.int (0 : Int32)), (.int (2 : Int32)), .null]) (rest := []) (lenOf pd_263 rfl) rfl (by show 2 * 0 + _ ≤ _; exact Nat.le_of_eq rfl) (hb hby d2_6) (fun _ _ => ⟨rfl, e0, (by decide : 0 + 1 ≤ _), (by decide : 0 + 2 ≤ _)⟩)
  dsimp only [Pt.U, Pt.locs, Pt.cells, Pt.slots] at X2 l2 y2 z2 st2 hQ2
  subst l2 y2 z2
  obtain ⟨rfl, N2q, K2, sb2, kb2, vs2, Ex2, Fc2, Fv2, Va2⟩ := hQ2
  have O2 := O0.keep K2 (allS g_a all0)
  have KK2 := K0.trans K2 (allS (Or.inl (by simp)) all0)
  have N2 := Fr.app N0 N2q
  obtain ⟨fs, hr, hrun, hended, hW, hsame⟩ := X2.leave (v := none) (fun _ => rfl)
  refine ⟨_, _, pre0 _ ?_, hrun, hended, _, _, rfl, ?_, ⟨_, rfl⟩, hW, hsame.mono (by decide) (by decide)⟩
  · show Steps pg.tables ee below (s₁.setTop (mkF mm 0 #[.val (.ref a), .val (.ref ch)] [])) _
    refine XS.aloadN X0.here hx rfl (hb hby d2_0) rfl rfl ?_
    show Steps pg.tables ee below (s₁.setTop (mkF mm 1 #[.val (.ref a), .val (.ref ch)] [(.ref a)])) _
    refine XS.aloadN X0.here hx rfl (hb hby d2_1) rfl rfl ?_
    show Steps pg.tables ee below (s₁.setTop (mkF mm 2 #[.val (.ref a), .val (.ref ch)] [(.ref ch), (.ref a)])) _
    refine XS.iconst X0.here hx rfl (hb hby d2_2) ?_
    show Steps pg.tables ee below (s₁.setTop (mkF mm 3 #[.val (.ref a), .val (.ref ch)] [(.int (0 : Int32)), (.ref ch), (.ref a)])) _
    refine XS.aloadN X0.here hx rfl (hb hby d2_3) rfl rfl ?_
    show Steps pg.tables ee below (s₁.setTop (mkF mm 4 #[.val (.ref a), .val (.ref ch)] [(.ref ch), (.int (0 : Int32)), (.ref ch), (.ref a)])) _
    refine X0.arraylength hx (by rw [e0]; exact Ar1.1) (State.isArrayOf_alike hZ.alike Ar1.2.1) (g := (mkF mm 4 #[.val (.ref a), .val (.ref ch)] [(.ref ch), (.int (0 : Int32)), (.ref ch), (.ref a)])) rfl rfl (hb hby d2_4) _ ?_
    rw [len_of Sz1 Nn1]
    show Steps pg.tables ee below (s₁.setTop (mkF mm 5 #[.val (.ref a), .val (.ref ch)] [(.int (2 : Int32)), (.int (0 : Int32)), (.ref ch), (.ref a)])) _
    refine XS.aconstNull X0.here hx rfl (hb hby d2_5) ?_
    show Steps pg.tables ee below (s₁.setTop (mkF mm 6 #[.val (.ref a), .val (.ref ch)] [.null, (.int (2 : Int32)), (.int (0 : Int32)), (.ref ch), (.ref a)])) _
    refine st2.trans ?_
    show Steps pg.tables ee below (T2.setTop (mkF mm 9 #[.val (.ref a), .val (.ref ch)] [])) _
    exact X2.returnOut hx Bd.returns (hb hby d2_9) hr
  · show QrmC2 Z a ch kc x0 x1 cs h0 n0 _ T2.heap _
    exact ⟨rfl, N2, KK2, _, _, _, Ex2, Fc2, Fv2, Va2⟩
theorem d1_63 : decode method_3_code 63 = .ok (.iload_n 0, 1) := by decide +kernel
theorem d1_64 : decode method_3_code 64 = .ok (.iconst 2, 1) := by decide +kernel
theorem d1_65 : decode method_3_code 65 = .ok (.if_icmp .ne 22, 3) := by decide +kernel
theorem d1_68 : decode method_3_code 68 = .ok (.new 24, 3) := by decide +kernel
theorem d1_71 : decode method_3_code 71 = .ok (.dup, 1) := by decide +kernel
theorem d1_72 : decode method_3_code 72 = .ok (.iconst 2, 1) := by decide +kernel
theorem d1_73 : decode method_3_code 73 = .ok (.newarray .char, 2) := by decide +kernel
theorem d1_75 : decode method_3_code 75 = .ok (.dup, 1) := by decide +kernel
theorem d1_76 : decode method_3_code 76 = .ok (.iconst 0, 1) := by decide +kernel
theorem d1_77 : decode method_3_code 77 = .ok (.iload_n 2, 1) := by decide +kernel
theorem d1_78 : decode method_3_code 78 = .ok (.castore, 1) := by decide +kernel
theorem d1_79 : decode method_3_code 79 = .ok (.dup, 1) := by decide +kernel
theorem d1_80 : decode method_3_code 80 = .ok (.iconst 1, 1) := by decide +kernel
theorem d1_81 : decode method_3_code 81 = .ok (.iload_n 3, 1) := by decide +kernel
theorem d1_82 : decode method_3_code 82 = .ok (.castore, 1) := by decide +kernel
theorem d1_83 : decode method_3_code 83 = .ok (.invokespecial 51, 3) := by decide +kernel
theorem d1_86 : decode method_3_code 86 = .ok (.areturn, 1) := by decide +kernel
set_option maxRecDepth 65536 in
set_option maxHeartbeats 40000000 in
theorem rmD2 (l : Launch) (Z : State) (a0 : Array Value) (hw : ∀ d ∈ tables_1, d.before a0 Z = true) (ws : List Jvm.Cond) (bits : Int32) (cs : Int32) (h0 : Heap) (n0 : Nat) (O0 : Old Z n0 h0) (S_CS : Sta Z Z.heap "java/lang/String" "COMPACT_STRINGS" "Z" (.int cs)) (hcs : ¬ (cs = (0 : Int32))) :
    MetFree l (⟨"com/example/orders_into_outcomes/ordersintooutcomes/model/TextLimitOptionalPinLaw", "draw", "(II)Ljava/lang/String;"⟩ : MethodName) (head1 (Jvm.Cond.code (⟨"com/example/orders_into_outcomes/ordersintooutcomes/model/TextLimitOptionalPinLaw", "draw", "(II)Ljava/lang/String;"⟩ : MethodName) method_3_code 5 (some (.object "java/lang/String")) :: ws) ({ frames := 4, cells := 6, slots := 12, locals := 66 } : Room)) (fun a_ U_ => a_ = #[(.int (2 : Int32)), (.int bits)] ∧ Z.Warmed39 U_.vm ∧ U_.heap = h0) (fun _ _ _ _ _ => True) (fun _ U_ o_ U'_ => ∃ v_ L_, o_ = .returned v_ ∧ QD Z (2 : Int32) h0 n0 v_ U'_.heap L_ ∧ FrameEnd U_ o_ U'_ L_ ({ frames := 4, cells := 6, slots := 12, locals := 66 } : Room).cells ({ frames := 4, cells := 6, slots := 12, locals := 66 } : Room).slots) := by
  refine MetFree.of_bodySF (plainFor_of_name pn_77) hisR ?_
  intro pg ee s mm args below meth cc s₁ Bd hml0 hP hK
  obtain ⟨rfl, hZ, hh⟩ := hP
  have hx := Bd.exec
  have hby := Bd.bytes
  have hml : cc.maxLocals = 5 := hml0
  have hown : s.vm.findClass "com/example/orders_into_outcomes/ordersintooutcomes/model/TextLimitOptionalPinLaw" = some mm.cls := findClass_of_methodNamed Bd.named
  have hnm := (name_of_methodNamed Bd.named Bd.method).1
  have X0 : Stand pg l ee ({ frames := 4, cells := 6, slots := 12, locals := 66 } : Room) s mm #[(.int (2 : Int32)), (.int bits)] below meth cc s₁ [] 0 0 := Stand.of_body Bd
  have e0 : s₁.heap = h0 := by rw [← hh, Bd.state]; rfl
  have N0 := Fr.nil n0
  have K0 : Keep h0 h0 ([] : List Addr) := Keep.refl _ _
  have pre0 : ∀ tg_, Steps pg.tables ee below (s₁.setTop (mkF mm 0 #[.val (.int (2 : Int32)), .val (.int bits), .unset, .unset, .unset] [])) tg_ → Steps pg.tables ee below (s₁.setTop (entryFrame mm #[(.int (2 : Int32)), (.int bits)] 5)) tg_ := fun tg_ k_ => castTop (ef_1_301 mm (2 : Int32) bits) k_
  obtain ⟨T1, h1, X1, e1, E1, A1, D1, -, st1⟩ := newO X0 hx hZ hown (hw _ (List.mem_of_getElem? (i := 4) rfl)) (hw _ (List.mem_of_getElem? (i := 5) rfl)) (hw _ (List.mem_of_getElem? (i := 6) rfl)) e0 (g := (mkF mm 68 #[.val (.int (2 : Int32)), .val (.int bits), .val (.int ((bits &&& (255 : Int32)).toUInt32.toUInt16.toUInt32.toInt32)), .val (.int ((((bits.toUInt32 >>> ((8 : Int32) &&& 31).toUInt32).toInt32) &&& (255 : Int32)).toUInt32.toUInt16.toUInt32.toInt32)), .val (.int ((((bits.toUInt32 >>> ((16 : Int32) &&& 31).toUInt32).toInt32) &&& (255 : Int32)).toUInt32.toUInt16.toUInt32.toInt32))] [])) rfl (hb hby d1_68) (by decide) (by decide)
  obtain ⟨b1, g1⟩ : ∃ z, z = h0.size := ⟨_, rfl⟩
  rw [← g1] at A1 D1 st1
  have g_b1 : n0 ≤ b1 := Nat.le_trans (O0.1 ▸ O0.2.1) (Nat.le_of_eq g1.symm)
  have sz_b1 : h0.size ≤ b1 := Nat.le_trans K0.1 (Nat.le_of_eq g1.symm)
  have O1 := O0.ext E1
  have KK1 := K0.ext E1
  have F_value_b1 : Fld Z h1 b1 "java/lang/String" "value" "[B" .null := D1 (Or.inr (hw _ (List.mem_of_getElem? (i := 20) rfl))) (ty := (.array .byte)) (by decide)
  have F_coder_b1 : Fld Z h1 b1 "java/lang/String" "coder" "B" (.int (0 : Int32)) := D1 (Or.inr (hw _ (List.mem_of_getElem? (i := 21) rfl))) (ty := .byte) (by decide)
  obtain ⟨T2, h2, k2, X2, e2, E2, A2, st2⟩ := newP X1 hx hZ (hw _ (List.mem_of_getElem? (i := 7) rfl)) e1 (g := (mkF mm 73 #[.val (.int (2 : Int32)), .val (.int bits), .val (.int ((bits &&& (255 : Int32)).toUInt32.toUInt16.toUInt32.toInt32)), .val (.int ((((bits.toUInt32 >>> ((8 : Int32) &&& 31).toUInt32).toInt32) &&& (255 : Int32)).toUInt32.toUInt16.toUInt32.toInt32)), .val (.int ((((bits.toUInt32 >>> ((16 : Int32) &&& 31).toUInt32).toInt32) &&& (255 : Int32)).toUInt32.toUInt16.toUInt32.toInt32))] [(.int (2 : Int32)), (.ref b1), (.ref b1)])) rfl (hb hby d1_73) rfl (by decide) (cap := 2) (by decide) (by decide) (by decide) (by decide)
  obtain ⟨b2, g2⟩ : ∃ z, z = h1.size := ⟨_, rfl⟩
  rw [← g2] at A2 st2
  have g_b2 : n0 ≤ b2 := Nat.le_trans (O1.1 ▸ O1.2.1) (Nat.le_of_eq g2.symm)
  have sz_b2 : h0.size ≤ b2 := Nat.le_trans KK1.1 (Nat.le_of_eq g2.symm)
  have O2 := O1.ext E2
  have KK2 := KK1.ext E2
  have V2 : Arv Z h2 b2 k2 .char (2 : Int32) [(.int (0 : Int32)), (.int (0 : Int32))] (.int (0 : Int32)) := (Arv.new A2 (by decide)).pad (pad_rep [] (.int (0 : Int32)) 2)
  obtain ⟨cl3, Ar3, qk3, Sz3, Nn3, Hh3, Gg3⟩ := id V2
  have hin3 : ¬ ((0 : Int32) < 0 ∨ cl3.slots.size ≤ ((0 : Int32)).toNatClampNeg) := inb_of Sz3 ⟨by decide, by decide⟩
  obtain ⟨T4, h4, X4, e4, W4, st4⟩ := stC X2 hx hZ e2 Ar3 (j := (0 : Int32)) hin3 (g := (mkF mm 78 #[.val (.int (2 : Int32)), .val (.int bits), .val (.int ((bits &&& (255 : Int32)).toUInt32.toUInt16.toUInt32.toInt32)), .val (.int ((((bits.toUInt32 >>> ((8 : Int32) &&& 31).toUInt32).toInt32) &&& (255 : Int32)).toUInt32.toUInt16.toUInt32.toInt32)), .val (.int ((((bits.toUInt32 >>> ((16 : Int32) &&& 31).toUInt32).toInt32) &&& (255 : Int32)).toUInt32.toUInt16.toUInt32.toInt32))] [(.int ((bits &&& (255 : Int32)).toUInt32.toUInt16.toUInt32.toInt32)), (.int (0 : Int32)), (.ref b2), (.ref b2), (.ref b1), (.ref b1)])) rfl rfl (hb hby d1_78)
  have V4 : Arv Z h4 b2 k2 .char (2 : Int32) [(.int (nar .char ((bits &&& (255 : Int32)).toUInt32.toUInt16.toUInt32.toInt32))), (.int (0 : Int32))] (.int (0 : Int32)) := Arv.set Ar3 qk3 Sz3 Nn3 Hh3 Gg3 (fits_nar_char _) W4 0 rfl (Nat.le_of_ble_eq_true rfl)
  have N4 := Fr.snoc X4 N0 g_b2
  have O4 := O2.wr W4 g_b2
  have KK4 := KK2.wr W4 (Or.inr sz_b2)
  obtain ⟨cl5, Ar5, qk5, Sz5, Nn5, Hh5, Gg5⟩ := id V4
  have hin5 : ¬ ((1 : Int32) < 0 ∨ cl5.slots.size ≤ ((1 : Int32)).toNatClampNeg) := inb_of Sz5 ⟨by decide, by decide⟩
  obtain ⟨T6, h6, X6, e6, W6, st6⟩ := stC X4 hx hZ e4 Ar5 (j := (1 : Int32)) hin5 (g := (mkF mm 82 #[.val (.int (2 : Int32)), .val (.int bits), .val (.int ((bits &&& (255 : Int32)).toUInt32.toUInt16.toUInt32.toInt32)), .val (.int ((((bits.toUInt32 >>> ((8 : Int32) &&& 31).toUInt32).toInt32) &&& (255 : Int32)).toUInt32.toUInt16.toUInt32.toInt32)), .val (.int ((((bits.toUInt32 >>> ((16 : Int32) &&& 31).toUInt32).toInt32) &&& (255 : Int32)).toUInt32.toUInt16.toUInt32.toInt32))] [(.int ((((bits.toUInt32 >>> ((8 : Int32) &&& 31).toUInt32).toInt32) &&& (255 : Int32)).toUInt32.toUInt16.toUInt32.toInt32)), (.int (1 : Int32)), (.ref b2), (.ref b2), (.ref b1), (.ref b1)])) rfl rfl (hb hby d1_82)
  have V6 : Arv Z h6 b2 k2 .char (2 : Int32) [(.int (nar .char ((bits &&& (255 : Int32)).toUInt32.toUInt16.toUInt32.toInt32))), (.int (nar .char ((((bits.toUInt32 >>> ((8 : Int32) &&& 31).toUInt32).toInt32) &&& (255 : Int32)).toUInt32.toUInt16.toUInt32.toInt32)))] (.int (0 : Int32)) := Arv.set Ar5 qk5 Sz5 Nn5 Hh5 Gg5 (fits_nar_char _) W6 1 rfl (Nat.le_of_ble_eq_true rfl)
  have N6 := Fr.snoc X6 N4 g_b2
  have O6 := O4.wr W6 g_b2
  have KK6 := KK4.wr W6 (Or.inr sz_b2)
  obtain ⟨_, _, ⟨T7, L7, k7, n7⟩, -, X7, ⟨Lc7, hQ7, l7, y7, z7⟩, st7⟩ := X6.specialBack hx (y := (⟨"java/lang/String", "<init>", "([C)V"⟩ : MethodName)) rfl hown (mvT hZ (hw _ (List.mem_of_getElem? (i := 8) rfl))) (mvT hZ (hw _ (List.mem_of_getElem? (i := 9) rfl))) (mvT hZ (hw _ (List.mem_of_getElem? (i := 10) rfl))) (by decide) (backOf (W := 1) (rmC2 l Z a0 hw [] b1 b2 k2 ((nar .char ((bits &&& (255 : Int32)).toUInt32.toUInt16.toUInt32.toInt32))) ((nar .char ((((bits.toUInt32 >>> ((8 : Int32) &&& 31).toUInt32).toInt32) &&& (255 : Int32)).toUInt32.toUInt16.toUInt32.toInt32))) cs h6 n0 O6 (((A1.ext E2).wr W4).wr W6) (((F_value_b1.ext E2).other W4 (Or.inl (Nat.ne_of_lt (Nat.lt_of_lt_of_le A1.lt (Nat.le_of_eq g2.symm))))).other W6 (Or.inl (Nat.ne_of_lt (Nat.lt_of_lt_of_le A1.lt (Nat.le_of_eq g2.symm))))) (((F_coder_b1.ext E2).other W4 (Or.inl (Nat.ne_of_lt (Nat.lt_of_lt_of_le A1.lt (Nat.le_of_eq g2.symm))))).other W6 (Or.inl (Nat.ne_of_lt (Nat.lt_of_lt_of_le A1.lt (Nat.le_of_eq g2.symm))))) g_b1 V6 (Ne.symm (Nat.ne_of_lt (Nat.lt_of_lt_of_le A1.lt (Nat.le_of_eq g2.symm)))) (own_c8 _) (own_c8 _) S_CS hcs) hZ (hw _ (List.mem_of_getElem? (i := 10) rfl)) (hw _ (List.mem_of_getElem? (i := 6) rfl)) (by decide) (by decide)) (g := (mkF mm 83 #[.val (.int (2 : Int32)), .val (.int bits), .val (.int ((bits &&& (255 : Int32)).toUInt32.toUInt16.toUInt32.toInt32)), .val (.int ((((bits.toUInt32 >>> ((8 : Int32) &&& 31).toUInt32).toInt32) &&& (255 : Int32)).toUInt32.toUInt16.toUInt32.toInt32)), .val (.int ((((bits.toUInt32 >>> ((16 : Int32) &&& 31).toUInt32).toInt32) &&& (255 : Int32)).toUInt32.toUInt16.toUInt32.toInt32))] [(.ref b2), (.ref b1), (.ref b1)])) rfl (by rw [hml]; rfl) (Steps.refl _) (a := b1) (argsL := [(.ref b2)]) (rest := [(.ref b1)]) (lenOf pd_299 rfl) rfl (by show 2 * 0 + _ ≤ _; exact Nat.le_of_eq rfl) (hb hby d1_83) (fun _ _ => ⟨rfl, e6, (by decide : 2 + 1 ≤ _), (by decide : 6 + 2 ≤ _)⟩)
  dsimp only [Pt.U, Pt.locs, Pt.cells, Pt.slots] at X7 l7 y7 z7 st7 hQ7
  subst l7 y7 z7
  obtain ⟨rfl, N7q, K7, sb7, kb7, vs7, Ex7, Fc7, Fv7, Va7⟩ := hQ7
  have O7 := O6.keep K7 (allS g_b1 all0)
  have KK7 := KK6.trans K7 (allS (Or.inr sz_b1) all0)
  have N7 := Fr.app N6 N7q
  obtain ⟨fs, hr, hrun, hended, hW, hsame⟩ := X7.leave (v := some (.ref b1)) (fun h => by rw [Bd.returns] at h; cases h)
  refine ⟨_, _, pre0 _ ?_, hrun, hended, _, _, rfl, ?_, ⟨_, rfl⟩, hW, hsame.mono (by decide) (by decide)⟩
  · show Steps pg.tables ee below (s₁.setTop (mkF mm 0 #[.val (.int (2 : Int32)), .val (.int bits), .unset, .unset, .unset] [])) _
    refine XS.iloadN X0.here hx rfl (hb hby d1_0) rfl ?_
    show Steps pg.tables ee below (s₁.setTop (mkF mm 1 #[.val (.int (2 : Int32)), .val (.int bits), .unset, .unset, .unset] [(.int bits)])) _
    refine XS.sipush X0.here hx rfl (hb hby d1_1) ?_
    show Steps pg.tables ee below (s₁.setTop (mkF mm 4 #[.val (.int (2 : Int32)), .val (.int bits), .unset, .unset, .unset] [(.int (255 : Int32)), (.int bits)])) _
    refine XS.iand X0.here hx rfl (hb hby d1_4) rfl ?_
    show Steps pg.tables ee below (s₁.setTop (mkF mm 5 #[.val (.int (2 : Int32)), .val (.int bits), .unset, .unset, .unset] [(.int (bits &&& (255 : Int32)))])) _
    refine XS.i2c X0.here hx rfl (hb hby d1_5) rfl ?_
    show Steps pg.tables ee below (s₁.setTop (mkF mm 6 #[.val (.int (2 : Int32)), .val (.int bits), .unset, .unset, .unset] [(.int ((bits &&& (255 : Int32)).toUInt32.toUInt16.toUInt32.toInt32))])) _
    refine XS.istoreN X0.here hx rfl (hb hby d1_6) rfl (l' := #[.val (.int (2 : Int32)), .val (.int bits), .val (.int ((bits &&& (255 : Int32)).toUInt32.toUInt16.toUInt32.toInt32)), .unset, .unset]) rfl ?_
    show Steps pg.tables ee below (s₁.setTop (mkF mm 7 #[.val (.int (2 : Int32)), .val (.int bits), .val (.int ((bits &&& (255 : Int32)).toUInt32.toUInt16.toUInt32.toInt32)), .unset, .unset] [])) _
    refine XS.iloadN X0.here hx rfl (hb hby d1_7) rfl ?_
    show Steps pg.tables ee below (s₁.setTop (mkF mm 8 #[.val (.int (2 : Int32)), .val (.int bits), .val (.int ((bits &&& (255 : Int32)).toUInt32.toUInt16.toUInt32.toInt32)), .unset, .unset] [(.int bits)])) _
    refine XS.bipush X0.here hx rfl (hb hby d1_8) ?_
    show Steps pg.tables ee below (s₁.setTop (mkF mm 10 #[.val (.int (2 : Int32)), .val (.int bits), .val (.int ((bits &&& (255 : Int32)).toUInt32.toUInt16.toUInt32.toInt32)), .unset, .unset] [(.int (8 : Int32)), (.int bits)])) _
    refine XS.iushr X0.here hx rfl (hb hby d1_10) rfl ?_
    show Steps pg.tables ee below (s₁.setTop (mkF mm 11 #[.val (.int (2 : Int32)), .val (.int bits), .val (.int ((bits &&& (255 : Int32)).toUInt32.toUInt16.toUInt32.toInt32)), .unset, .unset] [(.int ((bits.toUInt32 >>> ((8 : Int32) &&& 31).toUInt32).toInt32))])) _
    refine XS.sipush X0.here hx rfl (hb hby d1_11) ?_
    show Steps pg.tables ee below (s₁.setTop (mkF mm 14 #[.val (.int (2 : Int32)), .val (.int bits), .val (.int ((bits &&& (255 : Int32)).toUInt32.toUInt16.toUInt32.toInt32)), .unset, .unset] [(.int (255 : Int32)), (.int ((bits.toUInt32 >>> ((8 : Int32) &&& 31).toUInt32).toInt32))])) _
    refine XS.iand X0.here hx rfl (hb hby d1_14) rfl ?_
    show Steps pg.tables ee below (s₁.setTop (mkF mm 15 #[.val (.int (2 : Int32)), .val (.int bits), .val (.int ((bits &&& (255 : Int32)).toUInt32.toUInt16.toUInt32.toInt32)), .unset, .unset] [(.int (((bits.toUInt32 >>> ((8 : Int32) &&& 31).toUInt32).toInt32) &&& (255 : Int32)))])) _
    refine XS.i2c X0.here hx rfl (hb hby d1_15) rfl ?_
    show Steps pg.tables ee below (s₁.setTop (mkF mm 16 #[.val (.int (2 : Int32)), .val (.int bits), .val (.int ((bits &&& (255 : Int32)).toUInt32.toUInt16.toUInt32.toInt32)), .unset, .unset] [(.int ((((bits.toUInt32 >>> ((8 : Int32) &&& 31).toUInt32).toInt32) &&& (255 : Int32)).toUInt32.toUInt16.toUInt32.toInt32))])) _
    refine XS.istoreN X0.here hx rfl (hb hby d1_16) rfl (l' := #[.val (.int (2 : Int32)), .val (.int bits), .val (.int ((bits &&& (255 : Int32)).toUInt32.toUInt16.toUInt32.toInt32)), .val (.int ((((bits.toUInt32 >>> ((8 : Int32) &&& 31).toUInt32).toInt32) &&& (255 : Int32)).toUInt32.toUInt16.toUInt32.toInt32)), .unset]) rfl ?_
    show Steps pg.tables ee below (s₁.setTop (mkF mm 17 #[.val (.int (2 : Int32)), .val (.int bits), .val (.int ((bits &&& (255 : Int32)).toUInt32.toUInt16.toUInt32.toInt32)), .val (.int ((((bits.toUInt32 >>> ((8 : Int32) &&& 31).toUInt32).toInt32) &&& (255 : Int32)).toUInt32.toUInt16.toUInt32.toInt32)), .unset] [])) _
    refine XS.iloadN X0.here hx rfl (hb hby d1_17) rfl ?_
    show Steps pg.tables ee below (s₁.setTop (mkF mm 18 #[.val (.int (2 : Int32)), .val (.int bits), .val (.int ((bits &&& (255 : Int32)).toUInt32.toUInt16.toUInt32.toInt32)), .val (.int ((((bits.toUInt32 >>> ((8 : Int32) &&& 31).toUInt32).toInt32) &&& (255 : Int32)).toUInt32.toUInt16.toUInt32.toInt32)), .unset] [(.int bits)])) _
    refine XS.bipush X0.here hx rfl (hb hby d1_18) ?_
    show Steps pg.tables ee below (s₁.setTop (mkF mm 20 #[.val (.int (2 : Int32)), .val (.int bits), .val (.int ((bits &&& (255 : Int32)).toUInt32.toUInt16.toUInt32.toInt32)), .val (.int ((((bits.toUInt32 >>> ((8 : Int32) &&& 31).toUInt32).toInt32) &&& (255 : Int32)).toUInt32.toUInt16.toUInt32.toInt32)), .unset] [(.int (16 : Int32)), (.int bits)])) _
    refine XS.iushr X0.here hx rfl (hb hby d1_20) rfl ?_
    show Steps pg.tables ee below (s₁.setTop (mkF mm 21 #[.val (.int (2 : Int32)), .val (.int bits), .val (.int ((bits &&& (255 : Int32)).toUInt32.toUInt16.toUInt32.toInt32)), .val (.int ((((bits.toUInt32 >>> ((8 : Int32) &&& 31).toUInt32).toInt32) &&& (255 : Int32)).toUInt32.toUInt16.toUInt32.toInt32)), .unset] [(.int ((bits.toUInt32 >>> ((16 : Int32) &&& 31).toUInt32).toInt32))])) _
    refine XS.sipush X0.here hx rfl (hb hby d1_21) ?_
    show Steps pg.tables ee below (s₁.setTop (mkF mm 24 #[.val (.int (2 : Int32)), .val (.int bits), .val (.int ((bits &&& (255 : Int32)).toUInt32.toUInt16.toUInt32.toInt32)), .val (.int ((((bits.toUInt32 >>> ((8 : Int32) &&& 31).toUInt32).toInt32) &&& (255 : Int32)).toUInt32.toUInt16.toUInt32.toInt32)), .unset] [(.int (255 : Int32)), (.int ((bits.toUInt32 >>> ((16 : Int32) &&& 31).toUInt32).toInt32))])) _
    refine XS.iand X0.here hx rfl (hb hby d1_24) rfl ?_
    show Steps pg.tables ee below (s₁.setTop (mkF mm 25 #[.val (.int (2 : Int32)), .val (.int bits), .val (.int ((bits &&& (255 : Int32)).toUInt32.toUInt16.toUInt32.toInt32)), .val (.int ((((bits.toUInt32 >>> ((8 : Int32) &&& 31).toUInt32).toInt32) &&& (255 : Int32)).toUInt32.toUInt16.toUInt32.toInt32)), .unset] [(.int (((bits.toUInt32 >>> ((16 : Int32) &&& 31).toUInt32).toInt32) &&& (255 : Int32)))])) _
    refine XS.i2c X0.here hx rfl (hb hby d1_25) rfl ?_
    show Steps pg.tables ee below (s₁.setTop (mkF mm 26 #[.val (.int (2 : Int32)), .val (.int bits), .val (.int ((bits &&& (255 : Int32)).toUInt32.toUInt16.toUInt32.toInt32)), .val (.int ((((bits.toUInt32 >>> ((8 : Int32) &&& 31).toUInt32).toInt32) &&& (255 : Int32)).toUInt32.toUInt16.toUInt32.toInt32)), .unset] [(.int ((((bits.toUInt32 >>> ((16 : Int32) &&& 31).toUInt32).toInt32) &&& (255 : Int32)).toUInt32.toUInt16.toUInt32.toInt32))])) _
    refine XS.istore X0.here hx rfl (hb hby d1_26) rfl (l' := #[.val (.int (2 : Int32)), .val (.int bits), .val (.int ((bits &&& (255 : Int32)).toUInt32.toUInt16.toUInt32.toInt32)), .val (.int ((((bits.toUInt32 >>> ((8 : Int32) &&& 31).toUInt32).toInt32) &&& (255 : Int32)).toUInt32.toUInt16.toUInt32.toInt32)), .val (.int ((((bits.toUInt32 >>> ((16 : Int32) &&& 31).toUInt32).toInt32) &&& (255 : Int32)).toUInt32.toUInt16.toUInt32.toInt32))]) rfl ?_
    show Steps pg.tables ee below (s₁.setTop (mkF mm 28 #[.val (.int (2 : Int32)), .val (.int bits), .val (.int ((bits &&& (255 : Int32)).toUInt32.toUInt16.toUInt32.toInt32)), .val (.int ((((bits.toUInt32 >>> ((8 : Int32) &&& 31).toUInt32).toInt32) &&& (255 : Int32)).toUInt32.toUInt16.toUInt32.toInt32)), .val (.int ((((bits.toUInt32 >>> ((16 : Int32) &&& 31).toUInt32).toInt32) &&& (255 : Int32)).toUInt32.toUInt16.toUInt32.toInt32))] [])) _
    refine XS.iloadN X0.here hx rfl (hb hby d1_28) rfl ?_
    show Steps pg.tables ee below (s₁.setTop (mkF mm 29 #[.val (.int (2 : Int32)), .val (.int bits), .val (.int ((bits &&& (255 : Int32)).toUInt32.toUInt16.toUInt32.toInt32)), .val (.int ((((bits.toUInt32 >>> ((8 : Int32) &&& 31).toUInt32).toInt32) &&& (255 : Int32)).toUInt32.toUInt16.toUInt32.toInt32)), .val (.int ((((bits.toUInt32 >>> ((16 : Int32) &&& 31).toUInt32).toInt32) &&& (255 : Int32)).toUInt32.toUInt16.toUInt32.toInt32))] [(.int (2 : Int32))])) _
    refine XS.ifYes X0.here hx rfl (pc0 := 29) (pc' := 43) rfl (hb hby d1_29) rfl ((if0 _ _).trans (feq (by decide : ¬ ((2 : Int32) = (0 : Int32)))).2) (by decide) (by decide) ?_
    show Steps pg.tables ee below (s₁.setTop (mkF mm 43 #[.val (.int (2 : Int32)), .val (.int bits), .val (.int ((bits &&& (255 : Int32)).toUInt32.toUInt16.toUInt32.toInt32)), .val (.int ((((bits.toUInt32 >>> ((8 : Int32) &&& 31).toUInt32).toInt32) &&& (255 : Int32)).toUInt32.toUInt16.toUInt32.toInt32)), .val (.int ((((bits.toUInt32 >>> ((16 : Int32) &&& 31).toUInt32).toInt32) &&& (255 : Int32)).toUInt32.toUInt16.toUInt32.toInt32))] [])) _
    refine XS.iloadN X0.here hx rfl (hb hby d1_43) rfl ?_
    show Steps pg.tables ee below (s₁.setTop (mkF mm 44 #[.val (.int (2 : Int32)), .val (.int bits), .val (.int ((bits &&& (255 : Int32)).toUInt32.toUInt16.toUInt32.toInt32)), .val (.int ((((bits.toUInt32 >>> ((8 : Int32) &&& 31).toUInt32).toInt32) &&& (255 : Int32)).toUInt32.toUInt16.toUInt32.toInt32)), .val (.int ((((bits.toUInt32 >>> ((16 : Int32) &&& 31).toUInt32).toInt32) &&& (255 : Int32)).toUInt32.toUInt16.toUInt32.toInt32))] [(.int (2 : Int32))])) _
    refine XS.iconst X0.here hx rfl (hb hby d1_44) ?_
    show Steps pg.tables ee below (s₁.setTop (mkF mm 45 #[.val (.int (2 : Int32)), .val (.int bits), .val (.int ((bits &&& (255 : Int32)).toUInt32.toUInt16.toUInt32.toInt32)), .val (.int ((((bits.toUInt32 >>> ((8 : Int32) &&& 31).toUInt32).toInt32) &&& (255 : Int32)).toUInt32.toUInt16.toUInt32.toInt32)), .val (.int ((((bits.toUInt32 >>> ((16 : Int32) &&& 31).toUInt32).toInt32) &&& (255 : Int32)).toUInt32.toUInt16.toUInt32.toInt32))] [(.int (1 : Int32)), (.int (2 : Int32))])) _
    refine XS.icmpYes X0.here hx rfl (pc0 := 45) (pc' := 63) rfl (hb hby d1_45) rfl (feq (by decide : ¬ ((2 : Int32) = (1 : Int32)))).2 (by decide) (by decide) ?_
    show Steps pg.tables ee below (s₁.setTop (mkF mm 63 #[.val (.int (2 : Int32)), .val (.int bits), .val (.int ((bits &&& (255 : Int32)).toUInt32.toUInt16.toUInt32.toInt32)), .val (.int ((((bits.toUInt32 >>> ((8 : Int32) &&& 31).toUInt32).toInt32) &&& (255 : Int32)).toUInt32.toUInt16.toUInt32.toInt32)), .val (.int ((((bits.toUInt32 >>> ((16 : Int32) &&& 31).toUInt32).toInt32) &&& (255 : Int32)).toUInt32.toUInt16.toUInt32.toInt32))] [])) _
    refine XS.iloadN X0.here hx rfl (hb hby d1_63) rfl ?_
    show Steps pg.tables ee below (s₁.setTop (mkF mm 64 #[.val (.int (2 : Int32)), .val (.int bits), .val (.int ((bits &&& (255 : Int32)).toUInt32.toUInt16.toUInt32.toInt32)), .val (.int ((((bits.toUInt32 >>> ((8 : Int32) &&& 31).toUInt32).toInt32) &&& (255 : Int32)).toUInt32.toUInt16.toUInt32.toInt32)), .val (.int ((((bits.toUInt32 >>> ((16 : Int32) &&& 31).toUInt32).toInt32) &&& (255 : Int32)).toUInt32.toUInt16.toUInt32.toInt32))] [(.int (2 : Int32))])) _
    refine XS.iconst X0.here hx rfl (hb hby d1_64) ?_
    show Steps pg.tables ee below (s₁.setTop (mkF mm 65 #[.val (.int (2 : Int32)), .val (.int bits), .val (.int ((bits &&& (255 : Int32)).toUInt32.toUInt16.toUInt32.toInt32)), .val (.int ((((bits.toUInt32 >>> ((8 : Int32) &&& 31).toUInt32).toInt32) &&& (255 : Int32)).toUInt32.toUInt16.toUInt32.toInt32)), .val (.int ((((bits.toUInt32 >>> ((16 : Int32) &&& 31).toUInt32).toInt32) &&& (255 : Int32)).toUInt32.toUInt16.toUInt32.toInt32))] [(.int (2 : Int32)), (.int (2 : Int32))])) _
    refine XS.icmpNo X0.here hx rfl (hb hby d1_65) rfl (teq (by decide : (2 : Int32) = (2 : Int32))).2 ?_
    show Steps pg.tables ee below (s₁.setTop (mkF mm 68 #[.val (.int (2 : Int32)), .val (.int bits), .val (.int ((bits &&& (255 : Int32)).toUInt32.toUInt16.toUInt32.toInt32)), .val (.int ((((bits.toUInt32 >>> ((8 : Int32) &&& 31).toUInt32).toInt32) &&& (255 : Int32)).toUInt32.toUInt16.toUInt32.toInt32)), .val (.int ((((bits.toUInt32 >>> ((16 : Int32) &&& 31).toUInt32).toInt32) &&& (255 : Int32)).toUInt32.toUInt16.toUInt32.toInt32))] [])) _
    refine st1 _ ?_
    show Steps pg.tables ee below (T1.setTop (mkF mm 71 #[.val (.int (2 : Int32)), .val (.int bits), .val (.int ((bits &&& (255 : Int32)).toUInt32.toUInt16.toUInt32.toInt32)), .val (.int ((((bits.toUInt32 >>> ((8 : Int32) &&& 31).toUInt32).toInt32) &&& (255 : Int32)).toUInt32.toUInt16.toUInt32.toInt32)), .val (.int ((((bits.toUInt32 >>> ((16 : Int32) &&& 31).toUInt32).toInt32) &&& (255 : Int32)).toUInt32.toUInt16.toUInt32.toInt32))] [(.ref b1)])) _
    refine XS.dup X1.here hx rfl (hb hby d1_71) rfl rfl ?_
    show Steps pg.tables ee below (T1.setTop (mkF mm 72 #[.val (.int (2 : Int32)), .val (.int bits), .val (.int ((bits &&& (255 : Int32)).toUInt32.toUInt16.toUInt32.toInt32)), .val (.int ((((bits.toUInt32 >>> ((8 : Int32) &&& 31).toUInt32).toInt32) &&& (255 : Int32)).toUInt32.toUInt16.toUInt32.toInt32)), .val (.int ((((bits.toUInt32 >>> ((16 : Int32) &&& 31).toUInt32).toInt32) &&& (255 : Int32)).toUInt32.toUInt16.toUInt32.toInt32))] [(.ref b1), (.ref b1)])) _
    refine XS.iconst X1.here hx rfl (hb hby d1_72) ?_
    show Steps pg.tables ee below (T1.setTop (mkF mm 73 #[.val (.int (2 : Int32)), .val (.int bits), .val (.int ((bits &&& (255 : Int32)).toUInt32.toUInt16.toUInt32.toInt32)), .val (.int ((((bits.toUInt32 >>> ((8 : Int32) &&& 31).toUInt32).toInt32) &&& (255 : Int32)).toUInt32.toUInt16.toUInt32.toInt32)), .val (.int ((((bits.toUInt32 >>> ((16 : Int32) &&& 31).toUInt32).toInt32) &&& (255 : Int32)).toUInt32.toUInt16.toUInt32.toInt32))] [(.int (2 : Int32)), (.ref b1), (.ref b1)])) _
    refine st2 _ ?_
    show Steps pg.tables ee below (T2.setTop (mkF mm 75 #[.val (.int (2 : Int32)), .val (.int bits), .val (.int ((bits &&& (255 : Int32)).toUInt32.toUInt16.toUInt32.toInt32)), .val (.int ((((bits.toUInt32 >>> ((8 : Int32) &&& 31).toUInt32).toInt32) &&& (255 : Int32)).toUInt32.toUInt16.toUInt32.toInt32)), .val (.int ((((bits.toUInt32 >>> ((16 : Int32) &&& 31).toUInt32).toInt32) &&& (255 : Int32)).toUInt32.toUInt16.toUInt32.toInt32))] [(.ref b2), (.ref b1), (.ref b1)])) _
    refine XS.dup X2.here hx rfl (hb hby d1_75) rfl rfl ?_
    show Steps pg.tables ee below (T2.setTop (mkF mm 76 #[.val (.int (2 : Int32)), .val (.int bits), .val (.int ((bits &&& (255 : Int32)).toUInt32.toUInt16.toUInt32.toInt32)), .val (.int ((((bits.toUInt32 >>> ((8 : Int32) &&& 31).toUInt32).toInt32) &&& (255 : Int32)).toUInt32.toUInt16.toUInt32.toInt32)), .val (.int ((((bits.toUInt32 >>> ((16 : Int32) &&& 31).toUInt32).toInt32) &&& (255 : Int32)).toUInt32.toUInt16.toUInt32.toInt32))] [(.ref b2), (.ref b2), (.ref b1), (.ref b1)])) _
    refine XS.iconst X2.here hx rfl (hb hby d1_76) ?_
    show Steps pg.tables ee below (T2.setTop (mkF mm 77 #[.val (.int (2 : Int32)), .val (.int bits), .val (.int ((bits &&& (255 : Int32)).toUInt32.toUInt16.toUInt32.toInt32)), .val (.int ((((bits.toUInt32 >>> ((8 : Int32) &&& 31).toUInt32).toInt32) &&& (255 : Int32)).toUInt32.toUInt16.toUInt32.toInt32)), .val (.int ((((bits.toUInt32 >>> ((16 : Int32) &&& 31).toUInt32).toInt32) &&& (255 : Int32)).toUInt32.toUInt16.toUInt32.toInt32))] [(.int (0 : Int32)), (.ref b2), (.ref b2), (.ref b1), (.ref b1)])) _
    refine XS.iloadN X2.here hx rfl (hb hby d1_77) rfl ?_
    show Steps pg.tables ee below (T2.setTop (mkF mm 78 #[.val (.int (2 : Int32)), .val (.int bits), .val (.int ((bits &&& (255 : Int32)).toUInt32.toUInt16.toUInt32.toInt32)), .val (.int ((((bits.toUInt32 >>> ((8 : Int32) &&& 31).toUInt32).toInt32) &&& (255 : Int32)).toUInt32.toUInt16.toUInt32.toInt32)), .val (.int ((((bits.toUInt32 >>> ((16 : Int32) &&& 31).toUInt32).toInt32) &&& (255 : Int32)).toUInt32.toUInt16.toUInt32.toInt32))] [(.int ((bits &&& (255 : Int32)).toUInt32.toUInt16.toUInt32.toInt32)), (.int (0 : Int32)), (.ref b2), (.ref b2), (.ref b1), (.ref b1)])) _
    refine st4 _ ?_
    show Steps pg.tables ee below (T4.setTop (mkF mm 79 #[.val (.int (2 : Int32)), .val (.int bits), .val (.int ((bits &&& (255 : Int32)).toUInt32.toUInt16.toUInt32.toInt32)), .val (.int ((((bits.toUInt32 >>> ((8 : Int32) &&& 31).toUInt32).toInt32) &&& (255 : Int32)).toUInt32.toUInt16.toUInt32.toInt32)), .val (.int ((((bits.toUInt32 >>> ((16 : Int32) &&& 31).toUInt32).toInt32) &&& (255 : Int32)).toUInt32.toUInt16.toUInt32.toInt32))] [(.ref b2), (.ref b1), (.ref b1)])) _
    refine XS.dup X4.here hx rfl (hb hby d1_79) rfl rfl ?_
    show Steps pg.tables ee below (T4.setTop (mkF mm 80 #[.val (.int (2 : Int32)), .val (.int bits), .val (.int ((bits &&& (255 : Int32)).toUInt32.toUInt16.toUInt32.toInt32)), .val (.int ((((bits.toUInt32 >>> ((8 : Int32) &&& 31).toUInt32).toInt32) &&& (255 : Int32)).toUInt32.toUInt16.toUInt32.toInt32)), .val (.int ((((bits.toUInt32 >>> ((16 : Int32) &&& 31).toUInt32).toInt32) &&& (255 : Int32)).toUInt32.toUInt16.toUInt32.toInt32))] [(.ref b2), (.ref b2), (.ref b1), (.ref b1)])) _
    refine XS.iconst X4.here hx rfl (hb hby d1_80) ?_
    show Steps pg.tables ee below (T4.setTop (mkF mm 81 #[.val (.int (2 : Int32)), .val (.int bits), .val (.int ((bits &&& (255 : Int32)).toUInt32.toUInt16.toUInt32.toInt32)), .val (.int ((((bits.toUInt32 >>> ((8 : Int32) &&& 31).toUInt32).toInt32) &&& (255 : Int32)).toUInt32.toUInt16.toUInt32.toInt32)), .val (.int ((((bits.toUInt32 >>> ((16 : Int32) &&& 31).toUInt32).toInt32) &&& (255 : Int32)).toUInt32.toUInt16.toUInt32.toInt32))] [(.int (1 : Int32)), (.ref b2), (.ref b2), (.ref b1), (.ref b1)])) _
    refine XS.iloadN X4.here hx rfl (hb hby d1_81) rfl ?_
    show Steps pg.tables ee below (T4.setTop (mkF mm 82 #[.val (.int (2 : Int32)), .val (.int bits), .val (.int ((bits &&& (255 : Int32)).toUInt32.toUInt16.toUInt32.toInt32)), .val (.int ((((bits.toUInt32 >>> ((8 : Int32) &&& 31).toUInt32).toInt32) &&& (255 : Int32)).toUInt32.toUInt16.toUInt32.toInt32)), .val (.int ((((bits.toUInt32 >>> ((16 : Int32) &&& 31).toUInt32).toInt32) &&& (255 : Int32)).toUInt32.toUInt16.toUInt32.toInt32))] [(.int ((((bits.toUInt32 >>> ((8 : Int32) &&& 31).toUInt32).toInt32) &&& (255 : Int32)).toUInt32.toUInt16.toUInt32.toInt32)), (.int (1 : Int32)), (.ref b2), (.ref b2), (.ref b1), (.ref b1)])) _
    refine st6 _ ?_
    show Steps pg.tables ee below (T6.setTop (mkF mm 83 #[.val (.int (2 : Int32)), .val (.int bits), .val (.int ((bits &&& (255 : Int32)).toUInt32.toUInt16.toUInt32.toInt32)), .val (.int ((((bits.toUInt32 >>> ((8 : Int32) &&& 31).toUInt32).toInt32) &&& (255 : Int32)).toUInt32.toUInt16.toUInt32.toInt32)), .val (.int ((((bits.toUInt32 >>> ((16 : Int32) &&& 31).toUInt32).toInt32) &&& (255 : Int32)).toUInt32.toUInt16.toUInt32.toInt32))] [(.ref b2), (.ref b1), (.ref b1)])) _
    refine st7.trans ?_
    show Steps pg.tables ee below (T7.setTop (mkF mm 86 #[.val (.int (2 : Int32)), .val (.int bits), .val (.int ((bits &&& (255 : Int32)).toUInt32.toUInt16.toUInt32.toInt32)), .val (.int ((((bits.toUInt32 >>> ((8 : Int32) &&& 31).toUInt32).toInt32) &&& (255 : Int32)).toUInt32.toUInt16.toUInt32.toInt32)), .val (.int ((((bits.toUInt32 >>> ((16 : Int32) &&& 31).toUInt32).toInt32) &&& (255 : Int32)).toUInt32.toUInt16.toUInt32.toInt32))] [(.ref b1)])) _
    exact retOut X7 hx Bd.returns rfl (Or.inr (Or.inr (Or.inr (Or.inr ⟨rfl, rfl, rfl⟩)))) (hb hby d1_86) hr
  · show QD Z (2 : Int32) h0 n0 _ T7.heap _
    exact ⟨_, _, _, _, rfl, N7, KK7, Ex7, Fc7, Fv7, Va7⟩
def QrmIn3 (Z : State) (ch : Addr) (kc : ClassId) (x0 : Int32) (x1 : Int32) (x2 : Int32) (bb : Addr) (kb : ClassId) (h0 : Heap) (n0 : Nat) (v : Option Value) (h : Heap) (L : List Loc) : Prop := v = some (.int (3 : Int32)) ∧ Fr n0 L ∧ Keep h0 h [bb] ∧ ∃ vs : List Value, Arv Z h bb kb .byte (3 : Int32) vs (.int (0 : Int32))
set_option maxRecDepth 65536 in
set_option maxHeartbeats 40000000 in
theorem rmIn3 (l : Launch) (Z : State) (a0 : Array Value) (hw : ∀ d ∈ tables_1, d.before a0 Z = true) (ws : List Jvm.Cond) (ch : Addr) (kc : ClassId) (x0 : Int32) (x1 : Int32) (x2 : Int32) (bb : Addr) (kb : ClassId) (h0 : Heap) (n0 : Nat) (O0 : Old Z n0 h0) (Vc : Arv Z h0 ch kc .char (3 : Int32) [(.int x0), (.int x1), (.int x2)] (.int (0 : Int32))) (Vb : Arv Z h0 bb kb .byte (3 : Int32) [(.int (0 : Int32)), (.int (0 : Int32)), (.int (0 : Int32))] (.int (0 : Int32))) (g_bb : n0 ≤ bb) (hne : ch ≠ bb) (hx0 : ¬ ((255 : Int32) < x0)) (hx1 : ¬ ((255 : Int32) < x1)) (hx2 : ¬ ((255 : Int32) < x2)) :
    MetFree l (⟨"java/lang/StringUTF16", "compress", "([CI[BII)I"⟩ : MethodName) (head1 (Jvm.Cond.code (⟨"java/lang/StringUTF16", "compress", "([CI[BII)I"⟩ : MethodName) jdk_52_method_21_code 7 (some .int) :: ws) ({ frames := 0, cells := 0, slots := 0, locals := 0 } : Room)) (fun a_ U_ => a_ = #[(.ref ch), (.int (0 : Int32)), (.ref bb), (.int (0 : Int32)), (.int (3 : Int32))] ∧ Z.Warmed39 U_.vm ∧ U_.heap = h0) (fun _ _ _ _ _ => True) (fun _ U_ o_ U'_ => ∃ v_ L_, o_ = .returned v_ ∧ QrmIn3 Z ch kc x0 x1 x2 bb kb h0 n0 v_ U'_.heap L_ ∧ FrameEnd U_ o_ U'_ L_ ({ frames := 0, cells := 0, slots := 0, locals := 0 } : Room).cells ({ frames := 0, cells := 0, slots := 0, locals := 0 } : Room).slots) := by
  refine MetFree.of_bodySF (plainFor_of_name pn_205) hisR ?_
  intro pg ee s mm args below meth cc s₁ Bd hml0 hP hK
  obtain ⟨rfl, hZ, hh⟩ := hP
  have hx := Bd.exec
  have hby := Bd.bytes
  have hml : cc.maxLocals = 7 := hml0
  have hown : s.vm.findClass "java/lang/StringUTF16" = some mm.cls := findClass_of_methodNamed Bd.named
  have hnm := (name_of_methodNamed Bd.named Bd.method).1
  have X0 : Stand pg l ee ({ frames := 0, cells := 0, slots := 0, locals := 0 } : Room) s mm #[(.ref ch), (.int (0 : Int32)), (.ref bb), (.int (0 : Int32)), (.int (3 : Int32))] below meth cc s₁ [] 0 0 := Stand.of_body Bd
  have e0 : s₁.heap = h0 := by rw [← hh, Bd.state]; rfl
  have N0 := Fr.nil n0
  have K0 : Keep h0 h0 ([bb] : List Addr) := Keep.refl _ _
  have pre0 : ∀ tg_, Steps pg.tables ee below (s₁.setTop (mkF mm 0 #[.val (.ref ch), .val (.int (0 : Int32)), .val (.ref bb), .val (.int (0 : Int32)), .val (.int (3 : Int32)), .unset, .unset] [])) tg_ → Steps pg.tables ee below (s₁.setTop (entryFrame mm #[(.ref ch), (.int (0 : Int32)), (.ref bb), (.int (0 : Int32)), (.int (3 : Int32))] 7)) tg_ := fun tg_ k_ => castTop (ef_23_206 mm ch (0 : Int32) bb (0 : Int32) (3 : Int32)) k_
  obtain ⟨cl1, Ar1, qk1, Sz1, Nn1, Hh1, Gg1⟩ := id Vc
  have hin1 : ¬ ((0 : Int32) < 0 ∨ cl1.slots.size ≤ ((0 : Int32)).toNatClampNeg) := inb_of Sz1 ⟨by decide, by decide⟩
  obtain ⟨cl2, Ar2, qk2, Sz2, Nn2, Hh2, Gg2⟩ := id Vb
  have hin2 : ¬ ((0 : Int32) < 0 ∨ cl2.slots.size ≤ ((0 : Int32)).toNatClampNeg) := inb_of Sz2 ⟨by decide, by decide⟩
  obtain ⟨T3, h3, X3, e3, W3, st3⟩ := stB X0 hx hZ e0 Ar2 (j := (0 : Int32)) hin2 (g := (mkF mm 31 #[.val (.ref ch), .val (.int (0 : Int32)), .val (.ref bb), .val (.int (0 : Int32)), .val (.int (3 : Int32)), .val (.int (0 : Int32)), .val (.int x0)] [(.int (x0.toInt8.toInt32)), (.int (0 : Int32)), (.ref bb)])) rfl rfl (hb hby d23_31)
  have V3 : Arv Z h3 bb kb .byte (3 : Int32) [(.int (nar .byte (x0.toInt8.toInt32))), (.int (0 : Int32)), (.int (0 : Int32))] (.int (0 : Int32)) := Arv.set Ar2 qk2 Sz2 Nn2 Hh2 Gg2 (fits_nar_byte _) W3 0 rfl (Nat.le_of_ble_eq_true rfl)
  have N3 := Fr.snoc X3 N0 g_bb
  have O3 := O0.wr W3 g_bb
  have KK3 := K0.wr W3 (Or.inl (by simp))
  obtain ⟨cl4, Ar4, qk4, Sz4, Nn4, Hh4, Gg4⟩ := id (Vc.other W3 hne)
  have hin4 : ¬ ((1 : Int32) < 0 ∨ cl4.slots.size ≤ ((1 : Int32)).toNatClampNeg) := inb_of Sz4 ⟨by decide, by decide⟩
  obtain ⟨cl5, Ar5, qk5, Sz5, Nn5, Hh5, Gg5⟩ := id V3
  have hin5 : ¬ ((1 : Int32) < 0 ∨ cl5.slots.size ≤ ((1 : Int32)).toNatClampNeg) := inb_of Sz5 ⟨by decide, by decide⟩
  obtain ⟨T6, h6, X6, e6, W6, st6⟩ := stB X3 hx hZ e3 Ar5 (j := (1 : Int32)) hin5 (g := (mkF mm 31 #[.val (.ref ch), .val (.int (1 : Int32)), .val (.ref bb), .val (.int (1 : Int32)), .val (.int (3 : Int32)), .val (.int (1 : Int32)), .val (.int x1)] [(.int (x1.toInt8.toInt32)), (.int (1 : Int32)), (.ref bb)])) rfl rfl (hb hby d23_31)
  have V6 : Arv Z h6 bb kb .byte (3 : Int32) [(.int (nar .byte (x0.toInt8.toInt32))), (.int (nar .byte (x1.toInt8.toInt32))), (.int (0 : Int32))] (.int (0 : Int32)) := Arv.set Ar5 qk5 Sz5 Nn5 Hh5 Gg5 (fits_nar_byte _) W6 1 rfl (Nat.le_of_ble_eq_true rfl)
  have N6 := Fr.snoc X6 N3 g_bb
  have O6 := O3.wr W6 g_bb
  have KK6 := KK3.wr W6 (Or.inl (by simp))
  obtain ⟨cl7, Ar7, qk7, Sz7, Nn7, Hh7, Gg7⟩ := id ((Vc.other W3 hne).other W6 hne)
  have hin7 : ¬ ((2 : Int32) < 0 ∨ cl7.slots.size ≤ ((2 : Int32)).toNatClampNeg) := inb_of Sz7 ⟨by decide, by decide⟩
  obtain ⟨cl8, Ar8, qk8, Sz8, Nn8, Hh8, Gg8⟩ := id V6
  have hin8 : ¬ ((2 : Int32) < 0 ∨ cl8.slots.size ≤ ((2 : Int32)).toNatClampNeg) := inb_of Sz8 ⟨by decide, by decide⟩
  obtain ⟨T9, h9, X9, e9, W9, st9⟩ := stB X6 hx hZ e6 Ar8 (j := (2 : Int32)) hin8 (g := (mkF mm 31 #[.val (.ref ch), .val (.int (2 : Int32)), .val (.ref bb), .val (.int (2 : Int32)), .val (.int (3 : Int32)), .val (.int (2 : Int32)), .val (.int x2)] [(.int (x2.toInt8.toInt32)), (.int (2 : Int32)), (.ref bb)])) rfl rfl (hb hby d23_31)
  have V9 : Arv Z h9 bb kb .byte (3 : Int32) [(.int (nar .byte (x0.toInt8.toInt32))), (.int (nar .byte (x1.toInt8.toInt32))), (.int (nar .byte (x2.toInt8.toInt32)))] (.int (0 : Int32)) := Arv.set Ar8 qk8 Sz8 Nn8 Hh8 Gg8 (fits_nar_byte _) W9 2 rfl (Nat.le_of_ble_eq_true rfl)
  have N9 := Fr.snoc X9 N6 g_bb
  have O9 := O6.wr W9 g_bb
  have KK9 := KK6.wr W9 (Or.inl (by simp))
  obtain ⟨fs, hr, hrun, hended, hW, hsame⟩ := X9.leave (v := some (.int (3 : Int32))) (fun h => by rw [Bd.returns] at h; cases h)
  refine ⟨_, _, pre0 _ ?_, hrun, hended, _, _, rfl, ?_, ⟨_, rfl⟩, hW, hsame.mono (by decide) (by decide)⟩
  · show Steps pg.tables ee below (s₁.setTop (mkF mm 0 #[.val (.ref ch), .val (.int (0 : Int32)), .val (.ref bb), .val (.int (0 : Int32)), .val (.int (3 : Int32)), .unset, .unset] [])) _
    refine XS.iconst X0.here hx rfl (hb hby d23_0) ?_
    show Steps pg.tables ee below (s₁.setTop (mkF mm 1 #[.val (.ref ch), .val (.int (0 : Int32)), .val (.ref bb), .val (.int (0 : Int32)), .val (.int (3 : Int32)), .unset, .unset] [(.int (0 : Int32))])) _
    refine XS.istore X0.here hx rfl (hb hby d23_1) rfl (l' := #[.val (.ref ch), .val (.int (0 : Int32)), .val (.ref bb), .val (.int (0 : Int32)), .val (.int (3 : Int32)), .val (.int (0 : Int32)), .unset]) rfl ?_
    show Steps pg.tables ee below (s₁.setTop (mkF mm 3 #[.val (.ref ch), .val (.int (0 : Int32)), .val (.ref bb), .val (.int (0 : Int32)), .val (.int (3 : Int32)), .val (.int (0 : Int32)), .unset] [])) _
    refine XS.iload X0.here hx rfl (hb hby d23_3) rfl ?_
    show Steps pg.tables ee below (s₁.setTop (mkF mm 5 #[.val (.ref ch), .val (.int (0 : Int32)), .val (.ref bb), .val (.int (0 : Int32)), .val (.int (3 : Int32)), .val (.int (0 : Int32)), .unset] [(.int (0 : Int32))])) _
    refine XS.iload X0.here hx rfl (hb hby d23_5) rfl ?_
    show Steps pg.tables ee below (s₁.setTop (mkF mm 7 #[.val (.ref ch), .val (.int (0 : Int32)), .val (.ref bb), .val (.int (0 : Int32)), .val (.int (3 : Int32)), .val (.int (0 : Int32)), .unset] [(.int (3 : Int32)), (.int (0 : Int32))])) _
    refine XS.icmpNo X0.here hx rfl (hb hby d23_7) rfl (tlt (by decide : (0 : Int32) < (3 : Int32))).2.1 ?_
    show Steps pg.tables ee below (s₁.setTop (mkF mm 10 #[.val (.ref ch), .val (.int (0 : Int32)), .val (.ref bb), .val (.int (0 : Int32)), .val (.int (3 : Int32)), .val (.int (0 : Int32)), .unset] [])) _
    refine XS.aloadN X0.here hx rfl (hb hby d23_10) rfl rfl ?_
    show Steps pg.tables ee below (s₁.setTop (mkF mm 11 #[.val (.ref ch), .val (.int (0 : Int32)), .val (.ref bb), .val (.int (0 : Int32)), .val (.int (3 : Int32)), .val (.int (0 : Int32)), .unset] [(.ref ch)])) _
    refine XS.iloadN X0.here hx rfl (hb hby d23_11) rfl ?_
    show Steps pg.tables ee below (s₁.setTop (mkF mm 12 #[.val (.ref ch), .val (.int (0 : Int32)), .val (.ref bb), .val (.int (0 : Int32)), .val (.int (3 : Int32)), .val (.int (0 : Int32)), .unset] [(.int (0 : Int32)), (.ref ch)])) _
    refine X0.caload hx (j := (0 : Int32)) (v := (.int x0)) (by rw [e0]; exact Ar1.1) (State.isArrayOf_alike hZ.alike Ar1.2.1) Ar1.2.2 hin1 (Has.at Hh1 hin1 rfl) (g := (mkF mm 12 #[.val (.ref ch), .val (.int (0 : Int32)), .val (.ref bb), .val (.int (0 : Int32)), .val (.int (3 : Int32)), .val (.int (0 : Int32)), .unset] [(.int (0 : Int32)), (.ref ch)])) rfl rfl (hb hby d23_12) _ ?_
    show Steps pg.tables ee below (s₁.setTop (mkF mm 13 #[.val (.ref ch), .val (.int (0 : Int32)), .val (.ref bb), .val (.int (0 : Int32)), .val (.int (3 : Int32)), .val (.int (0 : Int32)), .unset] [(.int x0)])) _
    refine XS.istore X0.here hx rfl (hb hby d23_13) rfl (l' := #[.val (.ref ch), .val (.int (0 : Int32)), .val (.ref bb), .val (.int (0 : Int32)), .val (.int (3 : Int32)), .val (.int (0 : Int32)), .val (.int x0)]) rfl ?_
    show Steps pg.tables ee below (s₁.setTop (mkF mm 15 #[.val (.ref ch), .val (.int (0 : Int32)), .val (.ref bb), .val (.int (0 : Int32)), .val (.int (3 : Int32)), .val (.int (0 : Int32)), .val (.int x0)] [])) _
    refine XS.iload X0.here hx rfl (hb hby d23_15) rfl ?_
    show Steps pg.tables ee below (s₁.setTop (mkF mm 17 #[.val (.ref ch), .val (.int (0 : Int32)), .val (.ref bb), .val (.int (0 : Int32)), .val (.int (3 : Int32)), .val (.int (0 : Int32)), .val (.int x0)] [(.int x0)])) _
    refine XS.sipush X0.here hx rfl (hb hby d23_17) ?_
    show Steps pg.tables ee below (s₁.setTop (mkF mm 20 #[.val (.ref ch), .val (.int (0 : Int32)), .val (.ref bb), .val (.int (0 : Int32)), .val (.int (3 : Int32)), .val (.int (0 : Int32)), .val (.int x0)] [(.int (255 : Int32)), (.int x0)])) _
    refine XS.icmpYes X0.here hx rfl (pc0 := 20) (pc' := 26) rfl (hb hby d23_20) rfl (flt hx0).2.2.2 (by decide) (by decide) ?_
    show Steps pg.tables ee below (s₁.setTop (mkF mm 26 #[.val (.ref ch), .val (.int (0 : Int32)), .val (.ref bb), .val (.int (0 : Int32)), .val (.int (3 : Int32)), .val (.int (0 : Int32)), .val (.int x0)] [])) _
    refine XS.aloadN X0.here hx rfl (hb hby d23_26) rfl rfl ?_
    show Steps pg.tables ee below (s₁.setTop (mkF mm 27 #[.val (.ref ch), .val (.int (0 : Int32)), .val (.ref bb), .val (.int (0 : Int32)), .val (.int (3 : Int32)), .val (.int (0 : Int32)), .val (.int x0)] [(.ref bb)])) _
    refine XS.iloadN X0.here hx rfl (hb hby d23_27) rfl ?_
    show Steps pg.tables ee below (s₁.setTop (mkF mm 28 #[.val (.ref ch), .val (.int (0 : Int32)), .val (.ref bb), .val (.int (0 : Int32)), .val (.int (3 : Int32)), .val (.int (0 : Int32)), .val (.int x0)] [(.int (0 : Int32)), (.ref bb)])) _
    refine XS.iload X0.here hx rfl (hb hby d23_28) rfl ?_
    show Steps pg.tables ee below (s₁.setTop (mkF mm 30 #[.val (.ref ch), .val (.int (0 : Int32)), .val (.ref bb), .val (.int (0 : Int32)), .val (.int (3 : Int32)), .val (.int (0 : Int32)), .val (.int x0)] [(.int x0), (.int (0 : Int32)), (.ref bb)])) _
    refine XS.i2b X0.here hx rfl (hb hby d23_30) rfl ?_
    show Steps pg.tables ee below (s₁.setTop (mkF mm 31 #[.val (.ref ch), .val (.int (0 : Int32)), .val (.ref bb), .val (.int (0 : Int32)), .val (.int (3 : Int32)), .val (.int (0 : Int32)), .val (.int x0)] [(.int (x0.toInt8.toInt32)), (.int (0 : Int32)), (.ref bb)])) _
    refine st3 _ ?_
    show Steps pg.tables ee below (T3.setTop (mkF mm 32 #[.val (.ref ch), .val (.int (0 : Int32)), .val (.ref bb), .val (.int (0 : Int32)), .val (.int (3 : Int32)), .val (.int (0 : Int32)), .val (.int x0)] [])) _
    refine XS.iinc X3.here hx rfl (hb hby d23_32) rfl (l' := #[.val (.ref ch), .val (.int (1 : Int32)), .val (.ref bb), .val (.int (0 : Int32)), .val (.int (3 : Int32)), .val (.int (0 : Int32)), .val (.int x0)]) rfl ?_
    show Steps pg.tables ee below (T3.setTop (mkF mm 35 #[.val (.ref ch), .val (.int (1 : Int32)), .val (.ref bb), .val (.int (0 : Int32)), .val (.int (3 : Int32)), .val (.int (0 : Int32)), .val (.int x0)] [])) _
    refine XS.iinc X3.here hx rfl (hb hby d23_35) rfl (l' := #[.val (.ref ch), .val (.int (1 : Int32)), .val (.ref bb), .val (.int (1 : Int32)), .val (.int (3 : Int32)), .val (.int (0 : Int32)), .val (.int x0)]) rfl ?_
    show Steps pg.tables ee below (T3.setTop (mkF mm 38 #[.val (.ref ch), .val (.int (1 : Int32)), .val (.ref bb), .val (.int (1 : Int32)), .val (.int (3 : Int32)), .val (.int (0 : Int32)), .val (.int x0)] [])) _
    refine XS.iinc X3.here hx rfl (hb hby d23_38) rfl (l' := #[.val (.ref ch), .val (.int (1 : Int32)), .val (.ref bb), .val (.int (1 : Int32)), .val (.int (3 : Int32)), .val (.int (1 : Int32)), .val (.int x0)]) rfl ?_
    show Steps pg.tables ee below (T3.setTop (mkF mm 41 #[.val (.ref ch), .val (.int (1 : Int32)), .val (.ref bb), .val (.int (1 : Int32)), .val (.int (3 : Int32)), .val (.int (1 : Int32)), .val (.int x0)] [])) _
    refine XS.goto X3.here hx rfl (pc0 := 41) (pc' := 3) rfl (hb hby d23_41) (by decide) (by decide) ?_
    show Steps pg.tables ee below (T3.setTop (mkF mm 3 #[.val (.ref ch), .val (.int (1 : Int32)), .val (.ref bb), .val (.int (1 : Int32)), .val (.int (3 : Int32)), .val (.int (1 : Int32)), .val (.int x0)] [])) _
    refine XS.iload X3.here hx rfl (hb hby d23_3) rfl ?_
    show Steps pg.tables ee below (T3.setTop (mkF mm 5 #[.val (.ref ch), .val (.int (1 : Int32)), .val (.ref bb), .val (.int (1 : Int32)), .val (.int (3 : Int32)), .val (.int (1 : Int32)), .val (.int x0)] [(.int (1 : Int32))])) _
    refine XS.iload X3.here hx rfl (hb hby d23_5) rfl ?_
    show Steps pg.tables ee below (T3.setTop (mkF mm 7 #[.val (.ref ch), .val (.int (1 : Int32)), .val (.ref bb), .val (.int (1 : Int32)), .val (.int (3 : Int32)), .val (.int (1 : Int32)), .val (.int x0)] [(.int (3 : Int32)), (.int (1 : Int32))])) _
    refine XS.icmpNo X3.here hx rfl (hb hby d23_7) rfl (tlt (by decide : (1 : Int32) < (3 : Int32))).2.1 ?_
    show Steps pg.tables ee below (T3.setTop (mkF mm 10 #[.val (.ref ch), .val (.int (1 : Int32)), .val (.ref bb), .val (.int (1 : Int32)), .val (.int (3 : Int32)), .val (.int (1 : Int32)), .val (.int x0)] [])) _
    refine XS.aloadN X3.here hx rfl (hb hby d23_10) rfl rfl ?_
    show Steps pg.tables ee below (T3.setTop (mkF mm 11 #[.val (.ref ch), .val (.int (1 : Int32)), .val (.ref bb), .val (.int (1 : Int32)), .val (.int (3 : Int32)), .val (.int (1 : Int32)), .val (.int x0)] [(.ref ch)])) _
    refine XS.iloadN X3.here hx rfl (hb hby d23_11) rfl ?_
    show Steps pg.tables ee below (T3.setTop (mkF mm 12 #[.val (.ref ch), .val (.int (1 : Int32)), .val (.ref bb), .val (.int (1 : Int32)), .val (.int (3 : Int32)), .val (.int (1 : Int32)), .val (.int x0)] [(.int (1 : Int32)), (.ref ch)])) _
    refine X3.caload hx (j := (1 : Int32)) (v := (.int x1)) (by rw [e3]; exact Ar4.1) (State.isArrayOf_alike hZ.alike Ar4.2.1) Ar4.2.2 hin4 (Has.at Hh4 hin4 rfl) (g := (mkF mm 12 #[.val (.ref ch), .val (.int (1 : Int32)), .val (.ref bb), .val (.int (1 : Int32)), .val (.int (3 : Int32)), .val (.int (1 : Int32)), .val (.int x0)] [(.int (1 : Int32)), (.ref ch)])) rfl rfl (hb hby d23_12) _ ?_
    show Steps pg.tables ee below (T3.setTop (mkF mm 13 #[.val (.ref ch), .val (.int (1 : Int32)), .val (.ref bb), .val (.int (1 : Int32)), .val (.int (3 : Int32)), .val (.int (1 : Int32)), .val (.int x0)] [(.int x1)])) _
    refine XS.istore X3.here hx rfl (hb hby d23_13) rfl (l' := #[.val (.ref ch), .val (.int (1 : Int32)), .val (.ref bb), .val (.int (1 : Int32)), .val (.int (3 : Int32)), .val (.int (1 : Int32)), .val (.int x1)]) rfl ?_
    show Steps pg.tables ee below (T3.setTop (mkF mm 15 #[.val (.ref ch), .val (.int (1 : Int32)), .val (.ref bb), .val (.int (1 : Int32)), .val (.int (3 : Int32)), .val (.int (1 : Int32)), .val (.int x1)] [])) _
    refine XS.iload X3.here hx rfl (hb hby d23_15) rfl ?_
    show Steps pg.tables ee below (T3.setTop (mkF mm 17 #[.val (.ref ch), .val (.int (1 : Int32)), .val (.ref bb), .val (.int (1 : Int32)), .val (.int (3 : Int32)), .val (.int (1 : Int32)), .val (.int x1)] [(.int x1)])) _
    refine XS.sipush X3.here hx rfl (hb hby d23_17) ?_
    show Steps pg.tables ee below (T3.setTop (mkF mm 20 #[.val (.ref ch), .val (.int (1 : Int32)), .val (.ref bb), .val (.int (1 : Int32)), .val (.int (3 : Int32)), .val (.int (1 : Int32)), .val (.int x1)] [(.int (255 : Int32)), (.int x1)])) _
    refine XS.icmpYes X3.here hx rfl (pc0 := 20) (pc' := 26) rfl (hb hby d23_20) rfl (flt hx1).2.2.2 (by decide) (by decide) ?_
    show Steps pg.tables ee below (T3.setTop (mkF mm 26 #[.val (.ref ch), .val (.int (1 : Int32)), .val (.ref bb), .val (.int (1 : Int32)), .val (.int (3 : Int32)), .val (.int (1 : Int32)), .val (.int x1)] [])) _
    refine XS.aloadN X3.here hx rfl (hb hby d23_26) rfl rfl ?_
    show Steps pg.tables ee below (T3.setTop (mkF mm 27 #[.val (.ref ch), .val (.int (1 : Int32)), .val (.ref bb), .val (.int (1 : Int32)), .val (.int (3 : Int32)), .val (.int (1 : Int32)), .val (.int x1)] [(.ref bb)])) _
    refine XS.iloadN X3.here hx rfl (hb hby d23_27) rfl ?_
    show Steps pg.tables ee below (T3.setTop (mkF mm 28 #[.val (.ref ch), .val (.int (1 : Int32)), .val (.ref bb), .val (.int (1 : Int32)), .val (.int (3 : Int32)), .val (.int (1 : Int32)), .val (.int x1)] [(.int (1 : Int32)), (.ref bb)])) _
    refine XS.iload X3.here hx rfl (hb hby d23_28) rfl ?_
    show Steps pg.tables ee below (T3.setTop (mkF mm 30 #[.val (.ref ch), .val (.int (1 : Int32)), .val (.ref bb), .val (.int (1 : Int32)), .val (.int (3 : Int32)), .val (.int (1 : Int32)), .val (.int x1)] [(.int x1), (.int (1 : Int32)), (.ref bb)])) _
    refine XS.i2b X3.here hx rfl (hb hby d23_30) rfl ?_
    show Steps pg.tables ee below (T3.setTop (mkF mm 31 #[.val (.ref ch), .val (.int (1 : Int32)), .val (.ref bb), .val (.int (1 : Int32)), .val (.int (3 : Int32)), .val (.int (1 : Int32)), .val (.int x1)] [(.int (x1.toInt8.toInt32)), (.int (1 : Int32)), (.ref bb)])) _
    refine st6 _ ?_
    show Steps pg.tables ee below (T6.setTop (mkF mm 32 #[.val (.ref ch), .val (.int (1 : Int32)), .val (.ref bb), .val (.int (1 : Int32)), .val (.int (3 : Int32)), .val (.int (1 : Int32)), .val (.int x1)] [])) _
    refine XS.iinc X6.here hx rfl (hb hby d23_32) rfl (l' := #[.val (.ref ch), .val (.int (2 : Int32)), .val (.ref bb), .val (.int (1 : Int32)), .val (.int (3 : Int32)), .val (.int (1 : Int32)), .val (.int x1)]) rfl ?_
    show Steps pg.tables ee below (T6.setTop (mkF mm 35 #[.val (.ref ch), .val (.int (2 : Int32)), .val (.ref bb), .val (.int (1 : Int32)), .val (.int (3 : Int32)), .val (.int (1 : Int32)), .val (.int x1)] [])) _
    refine XS.iinc X6.here hx rfl (hb hby d23_35) rfl (l' := #[.val (.ref ch), .val (.int (2 : Int32)), .val (.ref bb), .val (.int (2 : Int32)), .val (.int (3 : Int32)), .val (.int (1 : Int32)), .val (.int x1)]) rfl ?_
    show Steps pg.tables ee below (T6.setTop (mkF mm 38 #[.val (.ref ch), .val (.int (2 : Int32)), .val (.ref bb), .val (.int (2 : Int32)), .val (.int (3 : Int32)), .val (.int (1 : Int32)), .val (.int x1)] [])) _
    refine XS.iinc X6.here hx rfl (hb hby d23_38) rfl (l' := #[.val (.ref ch), .val (.int (2 : Int32)), .val (.ref bb), .val (.int (2 : Int32)), .val (.int (3 : Int32)), .val (.int (2 : Int32)), .val (.int x1)]) rfl ?_
    show Steps pg.tables ee below (T6.setTop (mkF mm 41 #[.val (.ref ch), .val (.int (2 : Int32)), .val (.ref bb), .val (.int (2 : Int32)), .val (.int (3 : Int32)), .val (.int (2 : Int32)), .val (.int x1)] [])) _
    refine XS.goto X6.here hx rfl (pc0 := 41) (pc' := 3) rfl (hb hby d23_41) (by decide) (by decide) ?_
    show Steps pg.tables ee below (T6.setTop (mkF mm 3 #[.val (.ref ch), .val (.int (2 : Int32)), .val (.ref bb), .val (.int (2 : Int32)), .val (.int (3 : Int32)), .val (.int (2 : Int32)), .val (.int x1)] [])) _
    refine XS.iload X6.here hx rfl (hb hby d23_3) rfl ?_
    show Steps pg.tables ee below (T6.setTop (mkF mm 5 #[.val (.ref ch), .val (.int (2 : Int32)), .val (.ref bb), .val (.int (2 : Int32)), .val (.int (3 : Int32)), .val (.int (2 : Int32)), .val (.int x1)] [(.int (2 : Int32))])) _
    refine XS.iload X6.here hx rfl (hb hby d23_5) rfl ?_
    show Steps pg.tables ee below (T6.setTop (mkF mm 7 #[.val (.ref ch), .val (.int (2 : Int32)), .val (.ref bb), .val (.int (2 : Int32)), .val (.int (3 : Int32)), .val (.int (2 : Int32)), .val (.int x1)] [(.int (3 : Int32)), (.int (2 : Int32))])) _
    refine XS.icmpNo X6.here hx rfl (hb hby d23_7) rfl (tlt (by decide : (2 : Int32) < (3 : Int32))).2.1 ?_
    show Steps pg.tables ee below (T6.setTop (mkF mm 10 #[.val (.ref ch), .val (.int (2 : Int32)), .val (.ref bb), .val (.int (2 : Int32)), .val (.int (3 : Int32)), .val (.int (2 : Int32)), .val (.int x1)] [])) _
    refine XS.aloadN X6.here hx rfl (hb hby d23_10) rfl rfl ?_
    show Steps pg.tables ee below (T6.setTop (mkF mm 11 #[.val (.ref ch), .val (.int (2 : Int32)), .val (.ref bb), .val (.int (2 : Int32)), .val (.int (3 : Int32)), .val (.int (2 : Int32)), .val (.int x1)] [(.ref ch)])) _
    refine XS.iloadN X6.here hx rfl (hb hby d23_11) rfl ?_
    show Steps pg.tables ee below (T6.setTop (mkF mm 12 #[.val (.ref ch), .val (.int (2 : Int32)), .val (.ref bb), .val (.int (2 : Int32)), .val (.int (3 : Int32)), .val (.int (2 : Int32)), .val (.int x1)] [(.int (2 : Int32)), (.ref ch)])) _
    refine X6.caload hx (j := (2 : Int32)) (v := (.int x2)) (by rw [e6]; exact Ar7.1) (State.isArrayOf_alike hZ.alike Ar7.2.1) Ar7.2.2 hin7 (Has.at Hh7 hin7 rfl) (g := (mkF mm 12 #[.val (.ref ch), .val (.int (2 : Int32)), .val (.ref bb), .val (.int (2 : Int32)), .val (.int (3 : Int32)), .val (.int (2 : Int32)), .val (.int x1)] [(.int (2 : Int32)), (.ref ch)])) rfl rfl (hb hby d23_12) _ ?_
    show Steps pg.tables ee below (T6.setTop (mkF mm 13 #[.val (.ref ch), .val (.int (2 : Int32)), .val (.ref bb), .val (.int (2 : Int32)), .val (.int (3 : Int32)), .val (.int (2 : Int32)), .val (.int x1)] [(.int x2)])) _
    refine XS.istore X6.here hx rfl (hb hby d23_13) rfl (l' := #[.val (.ref ch), .val (.int (2 : Int32)), .val (.ref bb), .val (.int (2 : Int32)), .val (.int (3 : Int32)), .val (.int (2 : Int32)), .val (.int x2)]) rfl ?_
    show Steps pg.tables ee below (T6.setTop (mkF mm 15 #[.val (.ref ch), .val (.int (2 : Int32)), .val (.ref bb), .val (.int (2 : Int32)), .val (.int (3 : Int32)), .val (.int (2 : Int32)), .val (.int x2)] [])) _
    refine XS.iload X6.here hx rfl (hb hby d23_15) rfl ?_
    show Steps pg.tables ee below (T6.setTop (mkF mm 17 #[.val (.ref ch), .val (.int (2 : Int32)), .val (.ref bb), .val (.int (2 : Int32)), .val (.int (3 : Int32)), .val (.int (2 : Int32)), .val (.int x2)] [(.int x2)])) _
    refine XS.sipush X6.here hx rfl (hb hby d23_17) ?_
    show Steps pg.tables ee below (T6.setTop (mkF mm 20 #[.val (.ref ch), .val (.int (2 : Int32)), .val (.ref bb), .val (.int (2 : Int32)), .val (.int (3 : Int32)), .val (.int (2 : Int32)), .val (.int x2)] [(.int (255 : Int32)), (.int x2)])) _
    refine XS.icmpYes X6.here hx rfl (pc0 := 20) (pc' := 26) rfl (hb hby d23_20) rfl (flt hx2).2.2.2 (by decide) (by decide) ?_
    show Steps pg.tables ee below (T6.setTop (mkF mm 26 #[.val (.ref ch), .val (.int (2 : Int32)), .val (.ref bb), .val (.int (2 : Int32)), .val (.int (3 : Int32)), .val (.int (2 : Int32)), .val (.int x2)] [])) _
    refine XS.aloadN X6.here hx rfl (hb hby d23_26) rfl rfl ?_
    show Steps pg.tables ee below (T6.setTop (mkF mm 27 #[.val (.ref ch), .val (.int (2 : Int32)), .val (.ref bb), .val (.int (2 : Int32)), .val (.int (3 : Int32)), .val (.int (2 : Int32)), .val (.int x2)] [(.ref bb)])) _
    refine XS.iloadN X6.here hx rfl (hb hby d23_27) rfl ?_
    show Steps pg.tables ee below (T6.setTop (mkF mm 28 #[.val (.ref ch), .val (.int (2 : Int32)), .val (.ref bb), .val (.int (2 : Int32)), .val (.int (3 : Int32)), .val (.int (2 : Int32)), .val (.int x2)] [(.int (2 : Int32)), (.ref bb)])) _
    refine XS.iload X6.here hx rfl (hb hby d23_28) rfl ?_
    show Steps pg.tables ee below (T6.setTop (mkF mm 30 #[.val (.ref ch), .val (.int (2 : Int32)), .val (.ref bb), .val (.int (2 : Int32)), .val (.int (3 : Int32)), .val (.int (2 : Int32)), .val (.int x2)] [(.int x2), (.int (2 : Int32)), (.ref bb)])) _
    refine XS.i2b X6.here hx rfl (hb hby d23_30) rfl ?_
    show Steps pg.tables ee below (T6.setTop (mkF mm 31 #[.val (.ref ch), .val (.int (2 : Int32)), .val (.ref bb), .val (.int (2 : Int32)), .val (.int (3 : Int32)), .val (.int (2 : Int32)), .val (.int x2)] [(.int (x2.toInt8.toInt32)), (.int (2 : Int32)), (.ref bb)])) _
    refine st9 _ ?_
    show Steps pg.tables ee below (T9.setTop (mkF mm 32 #[.val (.ref ch), .val (.int (2 : Int32)), .val (.ref bb), .val (.int (2 : Int32)), .val (.int (3 : Int32)), .val (.int (2 : Int32)), .val (.int x2)] [])) _
    refine XS.iinc X9.here hx rfl (hb hby d23_32) rfl (l' := #[.val (.ref ch), .val (.int (3 : Int32)), .val (.ref bb), .val (.int (2 : Int32)), .val (.int (3 : Int32)), .val (.int (2 : Int32)), .val (.int x2)]) rfl ?_
    show Steps pg.tables ee below (T9.setTop (mkF mm 35 #[.val (.ref ch), .val (.int (3 : Int32)), .val (.ref bb), .val (.int (2 : Int32)), .val (.int (3 : Int32)), .val (.int (2 : Int32)), .val (.int x2)] [])) _
    refine XS.iinc X9.here hx rfl (hb hby d23_35) rfl (l' := #[.val (.ref ch), .val (.int (3 : Int32)), .val (.ref bb), .val (.int (3 : Int32)), .val (.int (3 : Int32)), .val (.int (2 : Int32)), .val (.int x2)]) rfl ?_
    show Steps pg.tables ee below (T9.setTop (mkF mm 38 #[.val (.ref ch), .val (.int (3 : Int32)), .val (.ref bb), .val (.int (3 : Int32)), .val (.int (3 : Int32)), .val (.int (2 : Int32)), .val (.int x2)] [])) _
    refine XS.iinc X9.here hx rfl (hb hby d23_38) rfl (l' := #[.val (.ref ch), .val (.int (3 : Int32)), .val (.ref bb), .val (.int (3 : Int32)), .val (.int (3 : Int32)), .val (.int (3 : Int32)), .val (.int x2)]) rfl ?_
    show Steps pg.tables ee below (T9.setTop (mkF mm 41 #[.val (.ref ch), .val (.int (3 : Int32)), .val (.ref bb), .val (.int (3 : Int32)), .val (.int (3 : Int32)), .val (.int (3 : Int32)), .val (.int x2)] [])) _
    refine XS.goto X9.here hx rfl (pc0 := 41) (pc' := 3) rfl (hb hby d23_41) (by decide) (by decide) ?_
    show Steps pg.tables ee below (T9.setTop (mkF mm 3 #[.val (.ref ch), .val (.int (3 : Int32)), .val (.ref bb), .val (.int (3 : Int32)), .val (.int (3 : Int32)), .val (.int (3 : Int32)), .val (.int x2)] [])) _
    refine XS.iload X9.here hx rfl (hb hby d23_3) rfl ?_
    show Steps pg.tables ee below (T9.setTop (mkF mm 5 #[.val (.ref ch), .val (.int (3 : Int32)), .val (.ref bb), .val (.int (3 : Int32)), .val (.int (3 : Int32)), .val (.int (3 : Int32)), .val (.int x2)] [(.int (3 : Int32))])) _
    refine XS.iload X9.here hx rfl (hb hby d23_5) rfl ?_
    show Steps pg.tables ee below (T9.setTop (mkF mm 7 #[.val (.ref ch), .val (.int (3 : Int32)), .val (.ref bb), .val (.int (3 : Int32)), .val (.int (3 : Int32)), .val (.int (3 : Int32)), .val (.int x2)] [(.int (3 : Int32)), (.int (3 : Int32))])) _
    refine XS.icmpYes X9.here hx rfl (pc0 := 7) (pc' := 44) rfl (hb hby d23_7) rfl (flt (by decide : ¬ ((3 : Int32) < (3 : Int32)))).2.1 (by decide) (by decide) ?_
    show Steps pg.tables ee below (T9.setTop (mkF mm 44 #[.val (.ref ch), .val (.int (3 : Int32)), .val (.ref bb), .val (.int (3 : Int32)), .val (.int (3 : Int32)), .val (.int (3 : Int32)), .val (.int x2)] [])) _
    refine XS.iload X9.here hx rfl (hb hby d23_44) rfl ?_
    show Steps pg.tables ee below (T9.setTop (mkF mm 46 #[.val (.ref ch), .val (.int (3 : Int32)), .val (.ref bb), .val (.int (3 : Int32)), .val (.int (3 : Int32)), .val (.int (3 : Int32)), .val (.int x2)] [(.int (3 : Int32))])) _
    exact retOut X9 hx Bd.returns rfl (Or.inl ⟨rfl, Or.inl rfl, _, rfl⟩) (hb hby d23_46) hr
  · show QrmIn3 Z ch kc x0 x1 x2 bb kb h0 n0 _ T9.heap _
    rw [e9]
    exact ⟨rfl, N9, KK9, _, V9⟩
def QrmCm3 (Z : State) (ch : Addr) (kc : ClassId) (x0 : Int32) (x1 : Int32) (x2 : Int32) (h0 : Heap) (n0 : Nat) (v : Option Value) (h : Heap) (L : List Loc) : Prop := ∃ (b : Addr) (kb : ClassId) (vs : List Value), v = some (.ref b) ∧ Fr n0 L ∧ Keep h0 h [] ∧ n0 ≤ b ∧ h0.size ≤ b ∧ Arv Z h b kb .byte (3 : Int32) vs (.int (0 : Int32))
set_option maxRecDepth 65536 in
set_option maxHeartbeats 40000000 in
theorem rmCm3 (l : Launch) (Z : State) (a0 : Array Value) (hw : ∀ d ∈ tables_1, d.before a0 Z = true) (ws : List Jvm.Cond) (ch : Addr) (kc : ClassId) (x0 : Int32) (x1 : Int32) (x2 : Int32) (h0 : Heap) (n0 : Nat) (O0 : Old Z n0 h0) (Vc : Arv Z h0 ch kc .char (3 : Int32) [(.int x0), (.int x1), (.int x2)] (.int (0 : Int32))) (hx0 : ¬ ((255 : Int32) < x0)) (hx1 : ¬ ((255 : Int32) < x1)) (hx2 : ¬ ((255 : Int32) < x2)) :
    MetFree l (⟨"java/lang/StringUTF16", "compress", "([CII)[B"⟩ : MethodName) (head1 (Jvm.Cond.code (⟨"java/lang/StringUTF16", "compress", "([CII)[B"⟩ : MethodName) jdk_52_method_16_code 6 (some (.array .byte)) :: ws) ({ frames := 1, cells := 1, slots := 3, locals := 18 } : Room)) (fun a_ U_ => a_ = #[(.ref ch), (.int (0 : Int32)), (.int (3 : Int32))] ∧ Z.Warmed39 U_.vm ∧ U_.heap = h0) (fun _ _ _ _ _ => True) (fun _ U_ o_ U'_ => ∃ v_ L_, o_ = .returned v_ ∧ QrmCm3 Z ch kc x0 x1 x2 h0 n0 v_ U'_.heap L_ ∧ FrameEnd U_ o_ U'_ L_ ({ frames := 1, cells := 1, slots := 3, locals := 18 } : Room).cells ({ frames := 1, cells := 1, slots := 3, locals := 18 } : Room).slots) := by
  refine MetFree.of_bodySF (plainFor_of_name pn_205) hisR ?_
  intro pg ee s mm args below meth cc s₁ Bd hml0 hP hK
  obtain ⟨rfl, hZ, hh⟩ := hP
  have hx := Bd.exec
  have hby := Bd.bytes
  have hml : cc.maxLocals = 6 := hml0
  have hown : s.vm.findClass "java/lang/StringUTF16" = some mm.cls := findClass_of_methodNamed Bd.named
  have hnm := (name_of_methodNamed Bd.named Bd.method).1
  have X0 : Stand pg l ee ({ frames := 1, cells := 1, slots := 3, locals := 18 } : Room) s mm #[(.ref ch), (.int (0 : Int32)), (.int (3 : Int32))] below meth cc s₁ [] 0 0 := Stand.of_body Bd
  have e0 : s₁.heap = h0 := by rw [← hh, Bd.state]; rfl
  have N0 := Fr.nil n0
  have K0 : Keep h0 h0 ([] : List Addr) := Keep.refl _ _
  have pre0 : ∀ tg_, Steps pg.tables ee below (s₁.setTop (mkF mm 0 #[.val (.ref ch), .val (.int (0 : Int32)), .val (.int (3 : Int32)), .unset, .unset, .unset] [])) tg_ → Steps pg.tables ee below (s₁.setTop (entryFrame mm #[(.ref ch), (.int (0 : Int32)), (.int (3 : Int32))] 6)) tg_ := fun tg_ k_ => castTop (ef_22_223 mm ch (0 : Int32) (3 : Int32)) k_
  obtain ⟨T1, h1, k1, X1, e1, E1, A1, st1⟩ := newP X0 hx hZ (hw _ (List.mem_of_getElem? (i := 19) rfl)) e0 (g := (mkF mm 1 #[.val (.ref ch), .val (.int (0 : Int32)), .val (.int (3 : Int32)), .unset, .unset, .unset] [(.int (3 : Int32))])) rfl (hb hby d22_1) rfl (by decide) (cap := 3) (by decide) (by decide) (by decide) (by decide)
  obtain ⟨b1, g1⟩ : ∃ z, z = h0.size := ⟨_, rfl⟩
  rw [← g1] at A1 st1
  have g_b1 : n0 ≤ b1 := Nat.le_trans (O0.1 ▸ O0.2.1) (Nat.le_of_eq g1.symm)
  have sz_b1 : h0.size ≤ b1 := Nat.le_trans K0.1 (Nat.le_of_eq g1.symm)
  have O1 := O0.ext E1
  have KK1 := K0.ext E1
  have V1 : Arv Z h1 b1 k1 .byte (3 : Int32) [(.int (0 : Int32)), (.int (0 : Int32)), (.int (0 : Int32))] (.int (0 : Int32)) := (Arv.new A1 (by decide)).pad (pad_rep [] (.int (0 : Int32)) 3)
  obtain ⟨_, _, ⟨T2, L2, k2, n2⟩, -, X2, ⟨Lc2, hQ2, l2, y2, z2⟩, st2⟩ := Jvm.LawKit.callS X1 hx (y := (⟨"java/lang/StringUTF16", "compress", "([CI[BII)I"⟩ : MethodName)) hown (mvT hZ (hw _ (List.mem_of_getElem? (i := 123) rfl))) (mvT hZ (hw _ (List.mem_of_getElem? (i := 124) rfl))) (mvT hZ (hw _ (List.mem_of_getElem? (i := 121) rfl))) (mvT hZ (hw _ (List.mem_of_getElem? (i := 125) rfl))) (by decide) (backOf (W := 0) (rmIn3 l Z a0 hw [] ch kc x0 x1 x2 b1 k1 h1 n0 O1 (Vc.ext E1) V1 g_b1 (Nat.ne_of_lt (Nat.lt_of_lt_of_le Vc.lt (Nat.le_of_eq g1.symm))) hx0 hx1 hx2) hZ (hw _ (List.mem_of_getElem? (i := 125) rfl)) (hw _ (List.mem_of_getElem? (i := 121) rfl)) (by decide) (by decide)) (g := (mkF mm 9 #[.val (.ref ch), .val (.int (0 : Int32)), .val (.int (3 : Int32)), .val (.ref b1), .unset, .unset] [(.int (3 : Int32)), (.int (0 : Int32)), (.ref b1), (.int (0 : Int32)), (.ref ch)])) rfl (by rw [hml]; rfl) (argsL := [(.ref ch), (.int (0 : Int32)), (.ref b1), (.int (0 : Int32)), (.int (3 : Int32))]) (rest := []) (lenOf pd_216 rfl) rfl (by show 2 * 0 + _ ≤ _; exact Nat.le_of_eq rfl) (hb hby d22_9) (fun _ _ => ⟨rfl, e1, (by decide : 1 + 0 ≤ _), (by decide : 3 + 0 ≤ _)⟩)
  dsimp only [Pt.U, Pt.locs, Pt.cells, Pt.slots] at X2 l2 y2 z2 st2 hQ2
  subst l2 y2 z2
  obtain ⟨rfl, N2q, K2, vs2, Vw2⟩ := hQ2
  have O2 := O1.keep K2 (allS g_b1 all0)
  have KK2 := KK1.trans K2 (allS (Or.inr sz_b1) all0)
  have N2 := Fr.app N0 N2q
  obtain ⟨fs, hr, hrun, hended, hW, hsame⟩ := X2.leave (v := some (.ref b1)) (fun h => by rw [Bd.returns] at h; cases h)
  refine ⟨_, _, pre0 _ ?_, hrun, hended, _, _, rfl, ?_, ⟨_, rfl⟩, hW, hsame.mono (by decide) (by decide)⟩
  · show Steps pg.tables ee below (s₁.setTop (mkF mm 0 #[.val (.ref ch), .val (.int (0 : Int32)), .val (.int (3 : Int32)), .unset, .unset, .unset] [])) _
    refine XS.iloadN X0.here hx rfl (hb hby d22_0) rfl ?_
    show Steps pg.tables ee below (s₁.setTop (mkF mm 1 #[.val (.ref ch), .val (.int (0 : Int32)), .val (.int (3 : Int32)), .unset, .unset, .unset] [(.int (3 : Int32))])) _
    refine st1 _ ?_
    show Steps pg.tables ee below (T1.setTop (mkF mm 3 #[.val (.ref ch), .val (.int (0 : Int32)), .val (.int (3 : Int32)), .unset, .unset, .unset] [(.ref b1)])) _
    refine XS.astoreN X1.here hx rfl (hb hby d22_3) rfl rfl (l' := #[.val (.ref ch), .val (.int (0 : Int32)), .val (.int (3 : Int32)), .val (.ref b1), .unset, .unset]) rfl ?_
    show Steps pg.tables ee below (T1.setTop (mkF mm 4 #[.val (.ref ch), .val (.int (0 : Int32)), .val (.int (3 : Int32)), .val (.ref b1), .unset, .unset] [])) _
    refine XS.aloadN X1.here hx rfl (hb hby d22_4) rfl rfl ?_
    show Steps pg.tables ee below (T1.setTop (mkF mm 5 #[.val (.ref ch), .val (.int (0 : Int32)), .val (.int (3 : Int32)), .val (.ref b1), .unset, .unset] [(.ref ch)])) _
    refine XS.iloadN X1.here hx rfl (hb hby d22_5) rfl ?_
    show Steps pg.tables ee below (T1.setTop (mkF mm 6 #[.val (.ref ch), .val (.int (0 : Int32)), .val (.int (3 : Int32)), .val (.ref b1), .unset, .unset] [(.int (0 : Int32)), (.ref ch)])) _
    refine XS.aloadN X1.here hx rfl (hb hby d22_6) rfl rfl ?_
    show Steps pg.tables ee below (T1.setTop (mkF mm 7 #[.val (.ref ch), .val (.int (0 : Int32)), .val (.int (3 : Int32)), .val (.ref b1), .unset, .unset] [(.ref b1), (.int (0 : Int32)), (.ref ch)])) _
    refine XS.iconst X1.here hx rfl (hb hby d22_7) ?_
    show Steps pg.tables ee below (T1.setTop (mkF mm 8 #[.val (.ref ch), .val (.int (0 : Int32)), .val (.int (3 : Int32)), .val (.ref b1), .unset, .unset] [(.int (0 : Int32)), (.ref b1), (.int (0 : Int32)), (.ref ch)])) _
    refine XS.iloadN X1.here hx rfl (hb hby d22_8) rfl ?_
    show Steps pg.tables ee below (T1.setTop (mkF mm 9 #[.val (.ref ch), .val (.int (0 : Int32)), .val (.int (3 : Int32)), .val (.ref b1), .unset, .unset] [(.int (3 : Int32)), (.int (0 : Int32)), (.ref b1), (.int (0 : Int32)), (.ref ch)])) _
    refine st2 _ ?_
    show Steps pg.tables ee below (T2.setTop (mkF mm 12 #[.val (.ref ch), .val (.int (0 : Int32)), .val (.int (3 : Int32)), .val (.ref b1), .unset, .unset] [(.int (3 : Int32))])) _
    refine XS.istore X2.here hx rfl (hb hby d22_12) rfl (l' := #[.val (.ref ch), .val (.int (0 : Int32)), .val (.int (3 : Int32)), .val (.ref b1), .val (.int (3 : Int32)), .unset]) rfl ?_
    show Steps pg.tables ee below (T2.setTop (mkF mm 14 #[.val (.ref ch), .val (.int (0 : Int32)), .val (.int (3 : Int32)), .val (.ref b1), .val (.int (3 : Int32)), .unset] [])) _
    refine XS.iload X2.here hx rfl (hb hby d22_14) rfl ?_
    show Steps pg.tables ee below (T2.setTop (mkF mm 16 #[.val (.ref ch), .val (.int (0 : Int32)), .val (.int (3 : Int32)), .val (.ref b1), .val (.int (3 : Int32)), .unset] [(.int (3 : Int32))])) _
    refine XS.iloadN X2.here hx rfl (hb hby d22_16) rfl ?_
    show Steps pg.tables ee below (T2.setTop (mkF mm 17 #[.val (.ref ch), .val (.int (0 : Int32)), .val (.int (3 : Int32)), .val (.ref b1), .val (.int (3 : Int32)), .unset] [(.int (3 : Int32)), (.int (3 : Int32))])) _
    refine XS.icmpYes X2.here hx rfl (pc0 := 17) (pc' := 57) rfl (hb hby d22_17) rfl (teq (by decide : (3 : Int32) = (3 : Int32))).1 (by decide) (by decide) ?_
    show Steps pg.tables ee below (T2.setTop (mkF mm 57 #[.val (.ref ch), .val (.int (0 : Int32)), .val (.int (3 : Int32)), .val (.ref b1), .val (.int (3 : Int32)), .unset] [])) _
    refine XS.aloadN X2.here hx rfl (hb hby d22_57) rfl rfl ?_
    show Steps pg.tables ee below (T2.setTop (mkF mm 58 #[.val (.ref ch), .val (.int (0 : Int32)), .val (.int (3 : Int32)), .val (.ref b1), .val (.int (3 : Int32)), .unset] [(.ref b1)])) _
    exact retOut X2 hx Bd.returns rfl (Or.inr (Or.inr (Or.inr (Or.inr ⟨rfl, rfl, rfl⟩)))) (hb hby d22_58) hr
  · show QrmCm3 Z ch kc x0 x1 x2 h0 n0 _ T2.heap _
    exact ⟨_, _, _, rfl, N2, KK2, g_b1, sz_b1, Vw2⟩
def QrmCf3 (Z : State) (bb : Addr) (kb : ClassId) (vs : List Value) (h0 : Heap) (n0 : Nat) (v : Option Value) (h : Heap) (L : List Loc) : Prop := v = some (.int (0 : Int32)) ∧ Fr n0 L ∧ h = h0
set_option maxRecDepth 65536 in
set_option maxHeartbeats 40000000 in
theorem rmCf3 (l : Launch) (Z : State) (a0 : Array Value) (hw : ∀ d ∈ tables_1, d.before a0 Z = true) (ws : List Jvm.Cond) (bb : Addr) (kb : ClassId) (vs : List Value) (h0 : Heap) (n0 : Nat) (O0 : Old Z n0 h0) (Vb : Arv Z h0 bb kb .byte (3 : Int32) vs (.int (0 : Int32))) :
    MetFree l (⟨"java/lang/StringUTF16", "coderFromArrayLen", "([BI)B"⟩ : MethodName) (head1 (Jvm.Cond.code (⟨"java/lang/StringUTF16", "coderFromArrayLen", "([BI)B"⟩ : MethodName) jdk_52_method_15_code 2 (some .byte) :: ws) ({ frames := 0, cells := 0, slots := 0, locals := 0 } : Room)) (fun a_ U_ => a_ = #[(.ref bb), (.int (3 : Int32))] ∧ Z.Warmed39 U_.vm ∧ U_.heap = h0) (fun _ _ _ _ _ => True) (fun _ U_ o_ U'_ => ∃ v_ L_, o_ = .returned v_ ∧ QrmCf3 Z bb kb vs h0 n0 v_ U'_.heap L_ ∧ FrameEnd U_ o_ U'_ L_ ({ frames := 0, cells := 0, slots := 0, locals := 0 } : Room).cells ({ frames := 0, cells := 0, slots := 0, locals := 0 } : Room).slots) := by
  refine MetFree.of_bodySF (plainFor_of_name pn_205) hisR ?_
  intro pg ee s mm args below meth cc s₁ Bd hml0 hP hK
  obtain ⟨rfl, hZ, hh⟩ := hP
  have hx := Bd.exec
  have hby := Bd.bytes
  have hml : cc.maxLocals = 2 := hml0
  have hown : s.vm.findClass "java/lang/StringUTF16" = some mm.cls := findClass_of_methodNamed Bd.named
  have hnm := (name_of_methodNamed Bd.named Bd.method).1
  have X0 : Stand pg l ee ({ frames := 0, cells := 0, slots := 0, locals := 0 } : Room) s mm #[(.ref bb), (.int (3 : Int32))] below meth cc s₁ [] 0 0 := Stand.of_body Bd
  have e0 : s₁.heap = h0 := by rw [← hh, Bd.state]; rfl
  have N0 := Fr.nil n0
  have K0 : Keep h0 h0 ([] : List Addr) := Keep.refl _ _
  have pre0 : ∀ tg_, Steps pg.tables ee below (s₁.setTop (mkF mm 0 #[.val (.ref bb), .val (.int (3 : Int32))] [])) tg_ → Steps pg.tables ee below (s₁.setTop (entryFrame mm #[(.ref bb), (.int (3 : Int32))] 2)) tg_ := fun tg_ k_ => castTop (ef_24_232 mm bb (3 : Int32)) k_
  obtain ⟨cl1, Ar1, qk1, Sz1, Nn1, Hh1, Gg1⟩ := id Vb
  obtain ⟨fs, hr, hrun, hended, hW, hsame⟩ := X0.leave (v := some (.int (0 : Int32))) (fun h => by rw [Bd.returns] at h; cases h)
  refine ⟨_, _, pre0 _ ?_, hrun, hended, _, _, rfl, ?_, ⟨_, rfl⟩, hW, hsame.mono (by decide) (by decide)⟩
  · show Steps pg.tables ee below (s₁.setTop (mkF mm 0 #[.val (.ref bb), .val (.int (3 : Int32))] [])) _
    refine XS.iloadN X0.here hx rfl (hb hby d24_0) rfl ?_
    show Steps pg.tables ee below (s₁.setTop (mkF mm 1 #[.val (.ref bb), .val (.int (3 : Int32))] [(.int (3 : Int32))])) _
    refine XS.aloadN X0.here hx rfl (hb hby d24_1) rfl rfl ?_
    show Steps pg.tables ee below (s₁.setTop (mkF mm 2 #[.val (.ref bb), .val (.int (3 : Int32))] [(.ref bb), (.int (3 : Int32))])) _
    refine X0.arraylength hx (by rw [e0]; exact Ar1.1) (State.isArrayOf_alike hZ.alike Ar1.2.1) (g := (mkF mm 2 #[.val (.ref bb), .val (.int (3 : Int32))] [(.ref bb), (.int (3 : Int32))])) rfl rfl (hb hby d24_2) _ ?_
    rw [len_of Sz1 Nn1]
    show Steps pg.tables ee below (s₁.setTop (mkF mm 3 #[.val (.ref bb), .val (.int (3 : Int32))] [(.int (3 : Int32)), (.int (3 : Int32))])) _
    refine XS.isub X0.here hx rfl (hb hby d24_3) rfl ?_
    show Steps pg.tables ee below (s₁.setTop (mkF mm 4 #[.val (.ref bb), .val (.int (3 : Int32))] [(.int (0 : Int32))])) _
    refine XS.bipush X0.here hx rfl (hb hby d24_4) ?_
    show Steps pg.tables ee below (s₁.setTop (mkF mm 6 #[.val (.ref bb), .val (.int (3 : Int32))] [(.int (31 : Int32)), (.int (0 : Int32))])) _
    refine XS.iushr X0.here hx rfl (hb hby d24_6) rfl ?_
    show Steps pg.tables ee below (s₁.setTop (mkF mm 7 #[.val (.ref bb), .val (.int (3 : Int32))] [(.int (0 : Int32))])) _
    refine XS.i2b X0.here hx rfl (hb hby d24_7) rfl ?_
    show Steps pg.tables ee below (s₁.setTop (mkF mm 8 #[.val (.ref bb), .val (.int (3 : Int32))] [(.int (0 : Int32))])) _
    exact retN X0 hx (t := .byte) Bd.returns (by simp) (hb hby d24_8) hr
  · show QrmCf3 Z bb kb vs h0 n0 _ s₁.heap _
    rw [e0]
    exact ⟨rfl, N0, rfl⟩
def QrmV3 (Z : State) (a : Addr) (ch : Addr) (kc : ClassId) (x0 : Int32) (x1 : Int32) (x2 : Int32) (cs : Int32) (h0 : Heap) (n0 : Nat) (v : Option Value) (h : Heap) (L : List Loc) : Prop := v = none ∧ Fr n0 L ∧ Keep h0 h [a] ∧ ∃ (b : Addr) (kb : ClassId) (vs : List Value), Exa Z h a "java/lang/String" ∧ Fld Z h a "java/lang/String" "coder" "B" (.int (0 : Int32)) ∧ Fld Z h a "java/lang/String" "value" "[B" (.ref b) ∧ Arv Z h b kb .byte (3 : Int32) vs (.int 0)
set_option maxRecDepth 65536 in
set_option maxHeartbeats 40000000 in
theorem rmV3 (l : Launch) (Z : State) (a0 : Array Value) (hw : ∀ d ∈ tables_1, d.before a0 Z = true) (ws : List Jvm.Cond) (a : Addr) (ch : Addr) (kc : ClassId) (x0 : Int32) (x1 : Int32) (x2 : Int32) (cs : Int32) (h0 : Heap) (n0 : Nat) (O0 : Old Z n0 h0) (E_a : Exa Z h0 a "java/lang/String") (F_value_a : Fld Z h0 a "java/lang/String" "value" "[B" .null) (F_coder_a : Fld Z h0 a "java/lang/String" "coder" "B" (.int (0 : Int32))) (g_a : n0 ≤ a) (Vc : Arv Z h0 ch kc .char (3 : Int32) [(.int x0), (.int x1), (.int x2)] (.int (0 : Int32))) (hca : ch ≠ a) (hx0 : ¬ ((255 : Int32) < x0)) (hx1 : ¬ ((255 : Int32) < x1)) (hx2 : ¬ ((255 : Int32) < x2)) (S_CS : Sta Z Z.heap "java/lang/String" "COMPACT_STRINGS" "Z" (.int cs)) (hcs : ¬ (cs = (0 : Int32))) :
    MetFree l (⟨"java/lang/String", "<init>", "([CIILjava/lang/Void;)V"⟩ : MethodName) (head1 (Jvm.Cond.code (⟨"java/lang/String", "<init>", "([CIILjava/lang/Void;)V"⟩ : MethodName) jdk_42_method_149_code 6 none :: ws) ({ frames := 2, cells := 1, slots := 3, locals := 35 } : Room)) (fun a_ U_ => a_ = #[(.ref a), (.ref ch), (.int (0 : Int32)), (.int (3 : Int32)), .null] ∧ Z.Warmed39 U_.vm ∧ U_.heap = h0) (fun _ _ _ _ _ => True) (fun _ U_ o_ U'_ => ∃ v_ L_, o_ = .returned v_ ∧ QrmV3 Z a ch kc x0 x1 x2 cs h0 n0 v_ U'_.heap L_ ∧ FrameEnd U_ o_ U'_ L_ ({ frames := 2, cells := 1, slots := 3, locals := 35 } : Room).cells ({ frames := 2, cells := 1, slots := 3, locals := 35 } : Room).slots) := by
  refine MetFree.of_bodySF (plainFor_of_name pn_6) hisR ?_
  intro pg ee s mm args below meth cc s₁ Bd hml0 hP hK
  obtain ⟨rfl, hZ, hh⟩ := hP
  have hx := Bd.exec
  have hby := Bd.bytes
  have hml : cc.maxLocals = 6 := hml0
  have hown : s.vm.findClass "java/lang/String" = some mm.cls := findClass_of_methodNamed Bd.named
  have hnm := (name_of_methodNamed Bd.named Bd.method).1
  have X0 : Stand pg l ee ({ frames := 2, cells := 1, slots := 3, locals := 35 } : Room) s mm #[(.ref a), (.ref ch), (.int (0 : Int32)), (.int (3 : Int32)), .null] below meth cc s₁ [] 0 0 := Stand.of_body Bd
  have e0 : s₁.heap = h0 := by rw [← hh, Bd.state]; rfl
  have N0 := Fr.nil n0
  have K0 : Keep h0 h0 ([a] : List Addr) := Keep.refl _ _
  have pre0 : ∀ tg_, Steps pg.tables ee below (s₁.setTop (mkF mm 0 #[.val (.ref a), .val (.ref ch), .val (.int (0 : Int32)), .val (.int (3 : Int32)), .val .null, .unset] [])) tg_ → Steps pg.tables ee below (s₁.setTop (entryFrame mm #[(.ref a), (.ref ch), (.int (0 : Int32)), (.int (3 : Int32)), .null] 6)) tg_ := fun tg_ k_ => castTop (ef_3_255 mm a ch (0 : Int32) (3 : Int32)) k_
  obtain ⟨T1, X1, e1, st1⟩ := initO X0 hx hZ hown (hw _ (List.mem_of_getElem? (i := 15) rfl)) (hw _ (List.mem_of_getElem? (i := 16) rfl)) (hw _ (List.mem_of_getElem? (i := 17) rfl)) e0 (g := (mkF mm 1 #[.val (.ref a), .val (.ref ch), .val (.int (0 : Int32)), .val (.int (3 : Int32)), .val .null, .unset] [(.ref a)])) rfl (by rw [hml]; rfl) rfl (hb hby d3_1) (by decide) (W := 0) (by show 2 * 0 + _ ≤ _; exact Nat.le_of_eq rfl) (by decide)
  obtain ⟨T2, X2, e2, st2⟩ := getS2 X1 hx hZ hown (host := "") (Or.inl (hw _ (List.mem_of_getElem? (i := 99) rfl))) Via.refl e1 (S_CS.ext O0.2) (g := (mkF mm 27 #[.val (.ref a), .val (.ref ch), .val (.int (0 : Int32)), .val (.int (3 : Int32)), .val .null, .unset] [])) rfl (hb hby d3_27)
  obtain ⟨_, _, ⟨T3, L3, k3, n3⟩, -, X3, ⟨Lc3, hQ3, l3, y3, z3⟩, st3⟩ := Jvm.LawKit.callS X2 hx (y := (⟨"java/lang/StringUTF16", "compress", "([CII)[B"⟩ : MethodName)) hown (mvT hZ (hw _ (List.mem_of_getElem? (i := 119) rfl))) (mvT hZ (hw _ (List.mem_of_getElem? (i := 120) rfl))) (mvT hZ (hw _ (List.mem_of_getElem? (i := 121) rfl))) (mvT hZ (hw _ (List.mem_of_getElem? (i := 122) rfl))) (by decide) (backOf (W := 0) (rmCm3 l Z a0 hw [] ch kc x0 x1 x2 h0 n0 O0 Vc hx0 hx1 hx2) hZ (hw _ (List.mem_of_getElem? (i := 122) rfl)) (hw _ (List.mem_of_getElem? (i := 121) rfl)) (by decide) (by decide)) (g := (mkF mm 36 #[.val (.ref a), .val (.ref ch), .val (.int (0 : Int32)), .val (.int (3 : Int32)), .val .null, .unset] [(.int (3 : Int32)), (.int (0 : Int32)), (.ref ch)])) rfl (by rw [hml]; rfl) (argsL := [(.ref ch), (.int (0 : Int32)), (.int (3 : Int32))]) (rest := []) (lenOf pd_243 rfl) rfl (by show 2 * 0 + _ ≤ _; exact Nat.le_of_eq rfl) (hb hby d3_36) (fun _ _ => ⟨rfl, e2, (by decide : 0 + 1 ≤ _), (by decide : 0 + 3 ≤ _)⟩)
  dsimp only [Pt.U, Pt.locs, Pt.cells, Pt.slots] at X3 l3 y3 z3 st3 hQ3
  subst l3 y3 z3
  obtain ⟨bb3, kb3, vs3, rfl, N3q, K3, g_bb3, sz_bb3, Vw3⟩ := hQ3
  have O3 := O0.keep K3 all0
  have KK3 := K0.trans K3 all0
  have N3 := Fr.app N0 N3q
  obtain ⟨_, _, ⟨T4, L4, k4, n4⟩, -, X4, ⟨Lc4, hQ4, l4, y4, z4⟩, st4⟩ := Jvm.LawKit.callS X3 hx (y := (⟨"java/lang/StringUTF16", "coderFromArrayLen", "([BI)B"⟩ : MethodName)) hown (mvT hZ (hw _ (List.mem_of_getElem? (i := 126) rfl))) (mvT hZ (hw _ (List.mem_of_getElem? (i := 127) rfl))) (mvT hZ (hw _ (List.mem_of_getElem? (i := 121) rfl))) (mvT hZ (hw _ (List.mem_of_getElem? (i := 128) rfl))) (by decide) (backOf (W := 1) (rmCf3 l Z a0 hw [] bb3 kb3 vs3 T3.heap n0 O3 Vw3) hZ (hw _ (List.mem_of_getElem? (i := 128) rfl)) (hw _ (List.mem_of_getElem? (i := 121) rfl)) (by decide) (by decide)) (g := (mkF mm 45 #[.val (.ref a), .val (.ref ch), .val (.int (0 : Int32)), .val (.int (3 : Int32)), .val .null, .val (.ref bb3)] [(.int (3 : Int32)), (.ref bb3), (.ref a)])) rfl (by rw [hml]; rfl) (argsL := [(.ref bb3), (.int (3 : Int32))]) (rest := [(.ref a)]) (lenOf pd_249 rfl) rfl (by show 2 * 0 + _ ≤ _; exact Nat.le_of_eq rfl) (hb hby d3_45) (fun _ _ => ⟨rfl, rfl, (by decide : 1 + 0 ≤ _), (by decide : 3 + 0 ≤ _)⟩)
  dsimp only [Pt.U, Pt.locs, Pt.cells, Pt.slots] at X4 l4 y4 z4 st4 hQ4
  subst l4 y4 z4
  obtain ⟨rfl, N4q, e4⟩ := hQ4
  have N4 := Fr.app N3 N4q
  obtain ⟨T5, h5, X5, e5, W5, st5⟩ := putFN X4 hx hZ hown (hw _ (List.mem_of_getElem? (i := 25) rfl)) Via.refl e4 (F_coder_a.keep K3 nin0) (E_a.keep K3) (Or.inr ⟨(hw _ (List.mem_of_getElem? (i := 21) rfl)), rfl, hnm⟩) (hw _ (List.mem_of_getElem? (i := 5) rfl)) (ty := .byte) (v' := (.int (0 : Int32))) (by decide) rfl (by decide) (g := (mkF mm 48 #[.val (.ref a), .val (.ref ch), .val (.int (0 : Int32)), .val (.int (3 : Int32)), .val .null, .val (.ref bb3)] [(.int (0 : Int32)), (.ref a)])) rfl rfl (hb hby d3_48)
  have Fw5 : Fld Z h5 a "java/lang/String" "coder" "B" (.int (0 : Int32)) := (F_coder_a.keep K3 nin0).same W5
  have N5 := Fr.snoc X5 N4 g_a
  have O5 := O3.wr W5 g_a
  have KK5 := KK3.wr W5 (Or.inl (by simp))
  obtain ⟨T6, h6, X6, e6, W6, st6⟩ := putF X5 hx hZ hown (host := "") (Or.inl (hw _ (List.mem_of_getElem? (i := 24) rfl))) Via.refl e5 ((F_value_a.keep K3 nin0).other W5 (Or.inr (slot_ne (Or.inr (hw _ (List.mem_of_getElem? (i := 20) rfl))) (Or.inr (hw _ (List.mem_of_getElem? (i := 21) rfl))) (by decide) (t := (.array .byte)) (t' := .byte) (by decide) (by decide)))) ((E_a.keep K3).wr W5) (Or.inr ⟨(hw _ (List.mem_of_getElem? (i := 20) rfl)), rfl, hnm⟩) (hw _ (List.mem_of_getElem? (i := 5) rfl)) (ty := (.array .byte)) (by decide) rfl rfl (g := (mkF mm 54 #[.val (.ref a), .val (.ref ch), .val (.int (0 : Int32)), .val (.int (3 : Int32)), .val .null, .val (.ref bb3)] [(.ref bb3), (.ref a)])) rfl rfl (hb hby d3_54)
  have Fw6 : Fld Z h6 a "java/lang/String" "value" "[B" (.ref bb3) := ((F_value_a.keep K3 nin0).other W5 (Or.inr (slot_ne (Or.inr (hw _ (List.mem_of_getElem? (i := 20) rfl))) (Or.inr (hw _ (List.mem_of_getElem? (i := 21) rfl))) (by decide) (t := (.array .byte)) (t' := .byte) (by decide) (by decide)))).same W6
  have N6 := Fr.snoc X6 N5 g_a
  have O6 := O5.wr W6 g_a
  have KK6 := KK5.wr W6 (Or.inl (by simp))
  obtain ⟨fs, hr, hrun, hended, hW, hsame⟩ := X6.leave (v := none) (fun _ => rfl)
  refine ⟨_, _, pre0 _ ?_, hrun, hended, _, _, rfl, ?_, ⟨_, rfl⟩, hW, hsame.mono (by decide) (by decide)⟩
  · show Steps pg.tables ee below (s₁.setTop (mkF mm 0 #[.val (.ref a), .val (.ref ch), .val (.int (0 : Int32)), .val (.int (3 : Int32)), .val .null, .unset] [])) _
    refine XS.aloadN X0.here hx rfl (hb hby d3_0) rfl rfl ?_
    show Steps pg.tables ee below (s₁.setTop (mkF mm 1 #[.val (.ref a), .val (.ref ch), .val (.int (0 : Int32)), .val (.int (3 : Int32)), .val .null, .unset] [(.ref a)])) _
    refine st1 _ ?_
    show Steps pg.tables ee below (T1.setTop (mkF mm 4 #[.val (.ref a), .val (.ref ch), .val (.int (0 : Int32)), .val (.int (3 : Int32)), .val .null, .unset] [])) _
    refine XS.iloadN X1.here hx rfl (hb hby d3_4) rfl ?_
    show Steps pg.tables ee below (T1.setTop (mkF mm 5 #[.val (.ref a), .val (.ref ch), .val (.int (0 : Int32)), .val (.int (3 : Int32)), .val .null, .unset] [(.int (3 : Int32))])) _
    refine XS.ifYes X1.here hx rfl (pc0 := 5) (pc' := 27) rfl (hb hby d3_5) rfl ((if0 _ _).trans (feq (by decide : ¬ ((3 : Int32) = (0 : Int32)))).2) (by decide) (by decide) ?_
    show Steps pg.tables ee below (T1.setTop (mkF mm 27 #[.val (.ref a), .val (.ref ch), .val (.int (0 : Int32)), .val (.int (3 : Int32)), .val .null, .unset] [])) _
    refine st2 _ ?_
    show Steps pg.tables ee below (T2.setTop (mkF mm 30 #[.val (.ref a), .val (.ref ch), .val (.int (0 : Int32)), .val (.int (3 : Int32)), .val .null, .unset] [(.int cs)])) _
    refine XS.ifNo X2.here hx rfl (hb hby d3_30) rfl ((if0 _ _).trans (feq hcs).1) ?_
    show Steps pg.tables ee below (T2.setTop (mkF mm 33 #[.val (.ref a), .val (.ref ch), .val (.int (0 : Int32)), .val (.int (3 : Int32)), .val .null, .unset] [])) _
    refine XS.aloadN X2.here hx rfl (hb hby d3_33) rfl rfl ?_
    show Steps pg.tables ee below (T2.setTop (mkF mm 34 #[.val (.ref a), .val (.ref ch), .val (.int (0 : Int32)), .val (.int (3 : Int32)), .val .null, .unset] [(.ref ch)])) _
    refine XS.iloadN X2.here hx rfl (hb hby d3_34) rfl ?_
    show Steps pg.tables ee below (T2.setTop (mkF mm 35 #[.val (.ref a), .val (.ref ch), .val (.int (0 : Int32)), .val (.int (3 : Int32)), .val .null, .unset] [(.int (0 : Int32)), (.ref ch)])) _
    refine XS.iloadN X2.here hx rfl (hb hby d3_35) rfl ?_
    show Steps pg.tables ee below (T2.setTop (mkF mm 36 #[.val (.ref a), .val (.ref ch), .val (.int (0 : Int32)), .val (.int (3 : Int32)), .val .null, .unset] [(.int (3 : Int32)), (.int (0 : Int32)), (.ref ch)])) _
    refine st3 _ ?_
    show Steps pg.tables ee below (T3.setTop (mkF mm 39 #[.val (.ref a), .val (.ref ch), .val (.int (0 : Int32)), .val (.int (3 : Int32)), .val .null, .unset] [(.ref bb3)])) _
    refine XS.astore X3.here hx rfl (hb hby d3_39) rfl rfl (l' := #[.val (.ref a), .val (.ref ch), .val (.int (0 : Int32)), .val (.int (3 : Int32)), .val .null, .val (.ref bb3)]) rfl ?_
    show Steps pg.tables ee below (T3.setTop (mkF mm 41 #[.val (.ref a), .val (.ref ch), .val (.int (0 : Int32)), .val (.int (3 : Int32)), .val .null, .val (.ref bb3)] [])) _
    refine XS.aloadN X3.here hx rfl (hb hby d3_41) rfl rfl ?_
    show Steps pg.tables ee below (T3.setTop (mkF mm 42 #[.val (.ref a), .val (.ref ch), .val (.int (0 : Int32)), .val (.int (3 : Int32)), .val .null, .val (.ref bb3)] [(.ref a)])) _
    refine XS.aload X3.here hx rfl (hb hby d3_42) rfl rfl ?_
    show Steps pg.tables ee below (T3.setTop (mkF mm 44 #[.val (.ref a), .val (.ref ch), .val (.int (0 : Int32)), .val (.int (3 : Int32)), .val .null, .val (.ref bb3)] [(.ref bb3), (.ref a)])) _
    refine XS.iloadN X3.here hx rfl (hb hby d3_44) rfl ?_
    show Steps pg.tables ee below (T3.setTop (mkF mm 45 #[.val (.ref a), .val (.ref ch), .val (.int (0 : Int32)), .val (.int (3 : Int32)), .val .null, .val (.ref bb3)] [(.int (3 : Int32)), (.ref bb3), (.ref a)])) _
    refine st4 _ ?_
    show Steps pg.tables ee below (T4.setTop (mkF mm 48 #[.val (.ref a), .val (.ref ch), .val (.int (0 : Int32)), .val (.int (3 : Int32)), .val .null, .val (.ref bb3)] [(.int (0 : Int32)), (.ref a)])) _
    refine st5 _ ?_
    show Steps pg.tables ee below (T5.setTop (mkF mm 51 #[.val (.ref a), .val (.ref ch), .val (.int (0 : Int32)), .val (.int (3 : Int32)), .val .null, .val (.ref bb3)] [])) _
    refine XS.aloadN X5.here hx rfl (hb hby d3_51) rfl rfl ?_
    show Steps pg.tables ee below (T5.setTop (mkF mm 52 #[.val (.ref a), .val (.ref ch), .val (.int (0 : Int32)), .val (.int (3 : Int32)), .val .null, .val (.ref bb3)] [(.ref a)])) _
    refine XS.aload X5.here hx rfl (hb hby d3_52) rfl rfl ?_
    show Steps pg.tables ee below (T5.setTop (mkF mm 54 #[.val (.ref a), .val (.ref ch), .val (.int (0 : Int32)), .val (.int (3 : Int32)), .val .null, .val (.ref bb3)] [(.ref bb3), (.ref a)])) _
    refine st6 _ ?_
    show Steps pg.tables ee below (T6.setTop (mkF mm 57 #[.val (.ref a), .val (.ref ch), .val (.int (0 : Int32)), .val (.int (3 : Int32)), .val .null, .val (.ref bb3)] [])) _
    exact X6.returnOut hx Bd.returns (hb hby d3_57) hr
  · show QrmV3 Z a ch kc x0 x1 x2 cs h0 n0 _ T6.heap _
    rw [e6]
    exact ⟨rfl, N6, KK6, _, _, _, (((E_a.keep K3).wr W5).wr W6), (Fw5.other W6 (Or.inr (slot_ne (Or.inr (hw _ (List.mem_of_getElem? (i := 21) rfl))) (Or.inr (hw _ (List.mem_of_getElem? (i := 20) rfl))) (by decide) (t := .byte) (t' := (.array .byte)) (by decide) (by decide)))), Fw6, ((Vw3.other W5 (Ne.symm (Nat.ne_of_lt (Nat.lt_of_lt_of_le E_a.lt sz_bb3)))).other W6 (Ne.symm (Nat.ne_of_lt (Nat.lt_of_lt_of_le E_a.lt sz_bb3))))⟩
def QrmC3 (Z : State) (a : Addr) (ch : Addr) (kc : ClassId) (x0 : Int32) (x1 : Int32) (x2 : Int32) (cs : Int32) (h0 : Heap) (n0 : Nat) (v : Option Value) (h : Heap) (L : List Loc) : Prop := v = none ∧ Fr n0 L ∧ Keep h0 h [a] ∧ ∃ (b : Addr) (kb : ClassId) (vs : List Value), Exa Z h a "java/lang/String" ∧ Fld Z h a "java/lang/String" "coder" "B" (.int (0 : Int32)) ∧ Fld Z h a "java/lang/String" "value" "[B" (.ref b) ∧ Arv Z h b kb .byte (3 : Int32) vs (.int 0)
set_option maxRecDepth 65536 in
set_option maxHeartbeats 40000000 in
theorem rmC3 (l : Launch) (Z : State) (a0 : Array Value) (hw : ∀ d ∈ tables_1, d.before a0 Z = true) (ws : List Jvm.Cond) (a : Addr) (ch : Addr) (kc : ClassId) (x0 : Int32) (x1 : Int32) (x2 : Int32) (cs : Int32) (h0 : Heap) (n0 : Nat) (O0 : Old Z n0 h0) (E_a : Exa Z h0 a "java/lang/String") (F_value_a : Fld Z h0 a "java/lang/String" "value" "[B" .null) (F_coder_a : Fld Z h0 a "java/lang/String" "coder" "B" (.int (0 : Int32))) (g_a : n0 ≤ a) (Vc : Arv Z h0 ch kc .char (3 : Int32) [(.int x0), (.int x1), (.int x2)] (.int (0 : Int32))) (hca : ch ≠ a) (hx0 : ¬ ((255 : Int32) < x0)) (hx1 : ¬ ((255 : Int32) < x1)) (hx2 : ¬ ((255 : Int32) < x2)) (S_CS : Sta Z Z.heap "java/lang/String" "COMPACT_STRINGS" "Z" (.int cs)) (hcs : ¬ (cs = (0 : Int32))) :
    MetFree l (⟨"java/lang/String", "<init>", "([C)V"⟩ : MethodName) (head1 (Jvm.Cond.code (⟨"java/lang/String", "<init>", "([C)V"⟩ : MethodName) jdk_42_method_3_code 2 none :: ws) ({ frames := 3, cells := 1, slots := 3, locals := 52 } : Room)) (fun a_ U_ => a_ = #[(.ref a), (.ref ch)] ∧ Z.Warmed39 U_.vm ∧ U_.heap = h0) (fun _ _ _ _ _ => True) (fun _ U_ o_ U'_ => ∃ v_ L_, o_ = .returned v_ ∧ QrmC3 Z a ch kc x0 x1 x2 cs h0 n0 v_ U'_.heap L_ ∧ FrameEnd U_ o_ U'_ L_ ({ frames := 3, cells := 1, slots := 3, locals := 52 } : Room).cells ({ frames := 3, cells := 1, slots := 3, locals := 52 } : Room).slots) := by
  refine MetFree.of_bodySF (plainFor_of_name pn_6) hisR ?_
  intro pg ee s mm args below meth cc s₁ Bd hml0 hP hK
  obtain ⟨rfl, hZ, hh⟩ := hP
  have hx := Bd.exec
  have hby := Bd.bytes
  have hml : cc.maxLocals = 2 := hml0
  have hown : s.vm.findClass "java/lang/String" = some mm.cls := findClass_of_methodNamed Bd.named
  have hnm := (name_of_methodNamed Bd.named Bd.method).1
  have X0 : Stand pg l ee ({ frames := 3, cells := 1, slots := 3, locals := 52 } : Room) s mm #[(.ref a), (.ref ch)] below meth cc s₁ [] 0 0 := Stand.of_body Bd
  have e0 : s₁.heap = h0 := by rw [← hh, Bd.state]; rfl
  have N0 := Fr.nil n0
  have K0 : Keep h0 h0 ([a] : List Addr) := Keep.refl _ _
  have pre0 : ∀ tg_, Steps pg.tables ee below (s₁.setTop (mkF mm 0 #[.val (.ref a), .val (.ref ch)] [])) tg_ → Steps pg.tables ee below (s₁.setTop (entryFrame mm #[(.ref a), (.ref ch)] 2)) tg_ := fun tg_ k_ => castTop (ef_2_265 mm a ch) k_
  obtain ⟨cl1, Ar1, qk1, Sz1, Nn1, Hh1, Gg1⟩ := id Vc
  obtain ⟨_, _, ⟨T2, L2, k2, n2⟩, -, X2, ⟨Lc2, hQ2, l2, y2, z2⟩, st2⟩ := X0.specialBack hx (y := (⟨"java/lang/String", "<init>", "([CIILjava/lang/Void;)V"⟩ : MethodName)) rfl hown (mvT hZ (hw _ (List.mem_of_getElem? (i := 11) rfl))) (mvT hZ (hw _ (List.mem_of_getElem? (i := 12) rfl))) (mvT hZ (hw _ (List.mem_of_getElem? (i := 14) rfl))) (by decide) (backOf (W := 0) (rmV3 l Z a0 hw [] a ch kc x0 x1 x2 cs h0 n0 O0 E_a F_value_a F_coder_a g_a Vc hca hx0 hx1 hx2 S_CS hcs) hZ (hw _ (List.mem_of_getElem? (i := 14) rfl)) (hw _ (List.mem_of_getElem? (i := 6) rfl)) (by decide) (by decide)) (g := (mkF mm 6 #[.val (.ref a), .val (.ref ch)] [.null, (.int (3 : Int32)), (.int (0 : Int32)), (.ref ch), (.ref a)])) rfl (by rw [hml]; rfl) (Steps.refl _) (a := a) (argsL := [(.ref ch), (.int (0 : Int32)), (.int (3 : Int32)), .null]) (rest := []) (lenOf pd_263 rfl) rfl (by show 2 * 0 + _ ≤ _; exact Nat.le_of_eq rfl) (hb hby d2_6) (fun _ _ => ⟨rfl, e0, (by decide : 0 + 1 ≤ _), (by decide : 0 + 3 ≤ _)⟩)
  dsimp only [Pt.U, Pt.locs, Pt.cells, Pt.slots] at X2 l2 y2 z2 st2 hQ2
  subst l2 y2 z2
  obtain ⟨rfl, N2q, K2, sb2, kb2, vs2, Ex2, Fc2, Fv2, Va2⟩ := hQ2
  have O2 := O0.keep K2 (allS g_a all0)
  have KK2 := K0.trans K2 (allS (Or.inl (by simp)) all0)
  have N2 := Fr.app N0 N2q
  obtain ⟨fs, hr, hrun, hended, hW, hsame⟩ := X2.leave (v := none) (fun _ => rfl)
  refine ⟨_, _, pre0 _ ?_, hrun, hended, _, _, rfl, ?_, ⟨_, rfl⟩, hW, hsame.mono (by decide) (by decide)⟩
  · show Steps pg.tables ee below (s₁.setTop (mkF mm 0 #[.val (.ref a), .val (.ref ch)] [])) _
    refine XS.aloadN X0.here hx rfl (hb hby d2_0) rfl rfl ?_
    show Steps pg.tables ee below (s₁.setTop (mkF mm 1 #[.val (.ref a), .val (.ref ch)] [(.ref a)])) _
    refine XS.aloadN X0.here hx rfl (hb hby d2_1) rfl rfl ?_
    show Steps pg.tables ee below (s₁.setTop (mkF mm 2 #[.val (.ref a), .val (.ref ch)] [(.ref ch), (.ref a)])) _
    refine XS.iconst X0.here hx rfl (hb hby d2_2) ?_
    show Steps pg.tables ee below (s₁.setTop (mkF mm 3 #[.val (.ref a), .val (.ref ch)] [(.int (0 : Int32)), (.ref ch), (.ref a)])) _
    refine XS.aloadN X0.here hx rfl (hb hby d2_3) rfl rfl ?_
    show Steps pg.tables ee below (s₁.setTop (mkF mm 4 #[.val (.ref a), .val (.ref ch)] [(.ref ch), (.int (0 : Int32)), (.ref ch), (.ref a)])) _
    refine X0.arraylength hx (by rw [e0]; exact Ar1.1) (State.isArrayOf_alike hZ.alike Ar1.2.1) (g := (mkF mm 4 #[.val (.ref a), .val (.ref ch)] [(.ref ch), (.int (0 : Int32)), (.ref ch), (.ref a)])) rfl rfl (hb hby d2_4) _ ?_
    rw [len_of Sz1 Nn1]
    show Steps pg.tables ee below (s₁.setTop (mkF mm 5 #[.val (.ref a), .val (.ref ch)] [(.int (3 : Int32)), (.int (0 : Int32)), (.ref ch), (.ref a)])) _
    refine XS.aconstNull X0.here hx rfl (hb hby d2_5) ?_
    show Steps pg.tables ee below (s₁.setTop (mkF mm 6 #[.val (.ref a), .val (.ref ch)] [.null, (.int (3 : Int32)), (.int (0 : Int32)), (.ref ch), (.ref a)])) _
    refine st2.trans ?_
    show Steps pg.tables ee below (T2.setTop (mkF mm 9 #[.val (.ref a), .val (.ref ch)] [])) _
    exact X2.returnOut hx Bd.returns (hb hby d2_9) hr
  · show QrmC3 Z a ch kc x0 x1 x2 cs h0 n0 _ T2.heap _
    exact ⟨rfl, N2, KK2, _, _, _, Ex2, Fc2, Fv2, Va2⟩
theorem d1_87 : decode method_3_code 87 = .ok (.new 24, 3) := by decide +kernel
theorem d1_90 : decode method_3_code 90 = .ok (.dup, 1) := by decide +kernel
theorem d1_91 : decode method_3_code 91 = .ok (.iconst 3, 1) := by decide +kernel
theorem d1_92 : decode method_3_code 92 = .ok (.newarray .char, 2) := by decide +kernel
theorem d1_94 : decode method_3_code 94 = .ok (.dup, 1) := by decide +kernel
theorem d1_95 : decode method_3_code 95 = .ok (.iconst 0, 1) := by decide +kernel
theorem d1_96 : decode method_3_code 96 = .ok (.iload_n 2, 1) := by decide +kernel
theorem d1_97 : decode method_3_code 97 = .ok (.castore, 1) := by decide +kernel
theorem d1_98 : decode method_3_code 98 = .ok (.dup, 1) := by decide +kernel
theorem d1_99 : decode method_3_code 99 = .ok (.iconst 1, 1) := by decide +kernel
theorem d1_100 : decode method_3_code 100 = .ok (.iload_n 3, 1) := by decide +kernel
theorem d1_101 : decode method_3_code 101 = .ok (.castore, 1) := by decide +kernel
theorem d1_102 : decode method_3_code 102 = .ok (.dup, 1) := by decide +kernel
theorem d1_103 : decode method_3_code 103 = .ok (.iconst 2, 1) := by decide +kernel
theorem d1_104 : decode method_3_code 104 = .ok (.iload 4, 2) := by decide +kernel
theorem d1_106 : decode method_3_code 106 = .ok (.castore, 1) := by decide +kernel
theorem d1_107 : decode method_3_code 107 = .ok (.invokespecial 51, 3) := by decide +kernel
theorem d1_110 : decode method_3_code 110 = .ok (.areturn, 1) := by decide +kernel
set_option maxRecDepth 65536 in
set_option maxHeartbeats 40000000 in
theorem rmD3 (l : Launch) (Z : State) (a0 : Array Value) (hw : ∀ d ∈ tables_1, d.before a0 Z = true) (ws : List Jvm.Cond) (bits : Int32) (cs : Int32) (h0 : Heap) (n0 : Nat) (O0 : Old Z n0 h0) (S_CS : Sta Z Z.heap "java/lang/String" "COMPACT_STRINGS" "Z" (.int cs)) (hcs : ¬ (cs = (0 : Int32))) :
    MetFree l (⟨"com/example/orders_into_outcomes/ordersintooutcomes/model/TextLimitOptionalPinLaw", "draw", "(II)Ljava/lang/String;"⟩ : MethodName) (head1 (Jvm.Cond.code (⟨"com/example/orders_into_outcomes/ordersintooutcomes/model/TextLimitOptionalPinLaw", "draw", "(II)Ljava/lang/String;"⟩ : MethodName) method_3_code 5 (some (.object "java/lang/String")) :: ws) ({ frames := 4, cells := 6, slots := 12, locals := 66 } : Room)) (fun a_ U_ => a_ = #[(.int (3 : Int32)), (.int bits)] ∧ Z.Warmed39 U_.vm ∧ U_.heap = h0) (fun _ _ _ _ _ => True) (fun _ U_ o_ U'_ => ∃ v_ L_, o_ = .returned v_ ∧ QD Z (3 : Int32) h0 n0 v_ U'_.heap L_ ∧ FrameEnd U_ o_ U'_ L_ ({ frames := 4, cells := 6, slots := 12, locals := 66 } : Room).cells ({ frames := 4, cells := 6, slots := 12, locals := 66 } : Room).slots) := by
  refine MetFree.of_bodySF (plainFor_of_name pn_77) hisR ?_
  intro pg ee s mm args below meth cc s₁ Bd hml0 hP hK
  obtain ⟨rfl, hZ, hh⟩ := hP
  have hx := Bd.exec
  have hby := Bd.bytes
  have hml : cc.maxLocals = 5 := hml0
  have hown : s.vm.findClass "com/example/orders_into_outcomes/ordersintooutcomes/model/TextLimitOptionalPinLaw" = some mm.cls := findClass_of_methodNamed Bd.named
  have hnm := (name_of_methodNamed Bd.named Bd.method).1
  have X0 : Stand pg l ee ({ frames := 4, cells := 6, slots := 12, locals := 66 } : Room) s mm #[(.int (3 : Int32)), (.int bits)] below meth cc s₁ [] 0 0 := Stand.of_body Bd
  have e0 : s₁.heap = h0 := by rw [← hh, Bd.state]; rfl
  have N0 := Fr.nil n0
  have K0 : Keep h0 h0 ([] : List Addr) := Keep.refl _ _
  have pre0 : ∀ tg_, Steps pg.tables ee below (s₁.setTop (mkF mm 0 #[.val (.int (3 : Int32)), .val (.int bits), .unset, .unset, .unset] [])) tg_ → Steps pg.tables ee below (s₁.setTop (entryFrame mm #[(.int (3 : Int32)), (.int bits)] 5)) tg_ := fun tg_ k_ => castTop (ef_1_301 mm (3 : Int32) bits) k_
  obtain ⟨T1, h1, X1, e1, E1, A1, D1, -, st1⟩ := newO X0 hx hZ hown (hw _ (List.mem_of_getElem? (i := 4) rfl)) (hw _ (List.mem_of_getElem? (i := 5) rfl)) (hw _ (List.mem_of_getElem? (i := 6) rfl)) e0 (g := (mkF mm 87 #[.val (.int (3 : Int32)), .val (.int bits), .val (.int ((bits &&& (255 : Int32)).toUInt32.toUInt16.toUInt32.toInt32)), .val (.int ((((bits.toUInt32 >>> ((8 : Int32) &&& 31).toUInt32).toInt32) &&& (255 : Int32)).toUInt32.toUInt16.toUInt32.toInt32)), .val (.int ((((bits.toUInt32 >>> ((16 : Int32) &&& 31).toUInt32).toInt32) &&& (255 : Int32)).toUInt32.toUInt16.toUInt32.toInt32))] [])) rfl (hb hby d1_87) (by decide) (by decide)
  obtain ⟨b1, g1⟩ : ∃ z, z = h0.size := ⟨_, rfl⟩
  rw [← g1] at A1 D1 st1
  have g_b1 : n0 ≤ b1 := Nat.le_trans (O0.1 ▸ O0.2.1) (Nat.le_of_eq g1.symm)
  have sz_b1 : h0.size ≤ b1 := Nat.le_trans K0.1 (Nat.le_of_eq g1.symm)
  have O1 := O0.ext E1
  have KK1 := K0.ext E1
  have F_value_b1 : Fld Z h1 b1 "java/lang/String" "value" "[B" .null := D1 (Or.inr (hw _ (List.mem_of_getElem? (i := 20) rfl))) (ty := (.array .byte)) (by decide)
  have F_coder_b1 : Fld Z h1 b1 "java/lang/String" "coder" "B" (.int (0 : Int32)) := D1 (Or.inr (hw _ (List.mem_of_getElem? (i := 21) rfl))) (ty := .byte) (by decide)
  obtain ⟨T2, h2, k2, X2, e2, E2, A2, st2⟩ := newP X1 hx hZ (hw _ (List.mem_of_getElem? (i := 7) rfl)) e1 (g := (mkF mm 92 #[.val (.int (3 : Int32)), .val (.int bits), .val (.int ((bits &&& (255 : Int32)).toUInt32.toUInt16.toUInt32.toInt32)), .val (.int ((((bits.toUInt32 >>> ((8 : Int32) &&& 31).toUInt32).toInt32) &&& (255 : Int32)).toUInt32.toUInt16.toUInt32.toInt32)), .val (.int ((((bits.toUInt32 >>> ((16 : Int32) &&& 31).toUInt32).toInt32) &&& (255 : Int32)).toUInt32.toUInt16.toUInt32.toInt32))] [(.int (3 : Int32)), (.ref b1), (.ref b1)])) rfl (hb hby d1_92) rfl (by decide) (cap := 3) (by decide) (by decide) (by decide) (by decide)
  obtain ⟨b2, g2⟩ : ∃ z, z = h1.size := ⟨_, rfl⟩
  rw [← g2] at A2 st2
  have g_b2 : n0 ≤ b2 := Nat.le_trans (O1.1 ▸ O1.2.1) (Nat.le_of_eq g2.symm)
  have sz_b2 : h0.size ≤ b2 := Nat.le_trans KK1.1 (Nat.le_of_eq g2.symm)
  have O2 := O1.ext E2
  have KK2 := KK1.ext E2
  have V2 : Arv Z h2 b2 k2 .char (3 : Int32) [(.int (0 : Int32)), (.int (0 : Int32)), (.int (0 : Int32))] (.int (0 : Int32)) := (Arv.new A2 (by decide)).pad (pad_rep [] (.int (0 : Int32)) 3)
  obtain ⟨cl3, Ar3, qk3, Sz3, Nn3, Hh3, Gg3⟩ := id V2
  have hin3 : ¬ ((0 : Int32) < 0 ∨ cl3.slots.size ≤ ((0 : Int32)).toNatClampNeg) := inb_of Sz3 ⟨by decide, by decide⟩
  obtain ⟨T4, h4, X4, e4, W4, st4⟩ := stC X2 hx hZ e2 Ar3 (j := (0 : Int32)) hin3 (g := (mkF mm 97 #[.val (.int (3 : Int32)), .val (.int bits), .val (.int ((bits &&& (255 : Int32)).toUInt32.toUInt16.toUInt32.toInt32)), .val (.int ((((bits.toUInt32 >>> ((8 : Int32) &&& 31).toUInt32).toInt32) &&& (255 : Int32)).toUInt32.toUInt16.toUInt32.toInt32)), .val (.int ((((bits.toUInt32 >>> ((16 : Int32) &&& 31).toUInt32).toInt32) &&& (255 : Int32)).toUInt32.toUInt16.toUInt32.toInt32))] [(.int ((bits &&& (255 : Int32)).toUInt32.toUInt16.toUInt32.toInt32)), (.int (0 : Int32)), (.ref b2), (.ref b2), (.ref b1), (.ref b1)])) rfl rfl (hb hby d1_97)
  have V4 : Arv Z h4 b2 k2 .char (3 : Int32) [(.int (nar .char ((bits &&& (255 : Int32)).toUInt32.toUInt16.toUInt32.toInt32))), (.int (0 : Int32)), (.int (0 : Int32))] (.int (0 : Int32)) := Arv.set Ar3 qk3 Sz3 Nn3 Hh3 Gg3 (fits_nar_char _) W4 0 rfl (Nat.le_of_ble_eq_true rfl)
  have N4 := Fr.snoc X4 N0 g_b2
  have O4 := O2.wr W4 g_b2
  have KK4 := KK2.wr W4 (Or.inr sz_b2)
  obtain ⟨cl5, Ar5, qk5, Sz5, Nn5, Hh5, Gg5⟩ := id V4
  have hin5 : ¬ ((1 : Int32) < 0 ∨ cl5.slots.size ≤ ((1 : Int32)).toNatClampNeg) := inb_of Sz5 ⟨by decide, by decide⟩
  obtain ⟨T6, h6, X6, e6, W6, st6⟩ := stC X4 hx hZ e4 Ar5 (j := (1 : Int32)) hin5 (g := (mkF mm 101 #[.val (.int (3 : Int32)), .val (.int bits), .val (.int ((bits &&& (255 : Int32)).toUInt32.toUInt16.toUInt32.toInt32)), .val (.int ((((bits.toUInt32 >>> ((8 : Int32) &&& 31).toUInt32).toInt32) &&& (255 : Int32)).toUInt32.toUInt16.toUInt32.toInt32)), .val (.int ((((bits.toUInt32 >>> ((16 : Int32) &&& 31).toUInt32).toInt32) &&& (255 : Int32)).toUInt32.toUInt16.toUInt32.toInt32))] [(.int ((((bits.toUInt32 >>> ((8 : Int32) &&& 31).toUInt32).toInt32) &&& (255 : Int32)).toUInt32.toUInt16.toUInt32.toInt32)), (.int (1 : Int32)), (.ref b2), (.ref b2), (.ref b1), (.ref b1)])) rfl rfl (hb hby d1_101)
  have V6 : Arv Z h6 b2 k2 .char (3 : Int32) [(.int (nar .char ((bits &&& (255 : Int32)).toUInt32.toUInt16.toUInt32.toInt32))), (.int (nar .char ((((bits.toUInt32 >>> ((8 : Int32) &&& 31).toUInt32).toInt32) &&& (255 : Int32)).toUInt32.toUInt16.toUInt32.toInt32))), (.int (0 : Int32))] (.int (0 : Int32)) := Arv.set Ar5 qk5 Sz5 Nn5 Hh5 Gg5 (fits_nar_char _) W6 1 rfl (Nat.le_of_ble_eq_true rfl)
  have N6 := Fr.snoc X6 N4 g_b2
  have O6 := O4.wr W6 g_b2
  have KK6 := KK4.wr W6 (Or.inr sz_b2)
  obtain ⟨cl7, Ar7, qk7, Sz7, Nn7, Hh7, Gg7⟩ := id V6
  have hin7 : ¬ ((2 : Int32) < 0 ∨ cl7.slots.size ≤ ((2 : Int32)).toNatClampNeg) := inb_of Sz7 ⟨by decide, by decide⟩
  obtain ⟨T8, h8, X8, e8, W8, st8⟩ := stC X6 hx hZ e6 Ar7 (j := (2 : Int32)) hin7 (g := (mkF mm 106 #[.val (.int (3 : Int32)), .val (.int bits), .val (.int ((bits &&& (255 : Int32)).toUInt32.toUInt16.toUInt32.toInt32)), .val (.int ((((bits.toUInt32 >>> ((8 : Int32) &&& 31).toUInt32).toInt32) &&& (255 : Int32)).toUInt32.toUInt16.toUInt32.toInt32)), .val (.int ((((bits.toUInt32 >>> ((16 : Int32) &&& 31).toUInt32).toInt32) &&& (255 : Int32)).toUInt32.toUInt16.toUInt32.toInt32))] [(.int ((((bits.toUInt32 >>> ((16 : Int32) &&& 31).toUInt32).toInt32) &&& (255 : Int32)).toUInt32.toUInt16.toUInt32.toInt32)), (.int (2 : Int32)), (.ref b2), (.ref b2), (.ref b1), (.ref b1)])) rfl rfl (hb hby d1_106)
  have V8 : Arv Z h8 b2 k2 .char (3 : Int32) [(.int (nar .char ((bits &&& (255 : Int32)).toUInt32.toUInt16.toUInt32.toInt32))), (.int (nar .char ((((bits.toUInt32 >>> ((8 : Int32) &&& 31).toUInt32).toInt32) &&& (255 : Int32)).toUInt32.toUInt16.toUInt32.toInt32))), (.int (nar .char ((((bits.toUInt32 >>> ((16 : Int32) &&& 31).toUInt32).toInt32) &&& (255 : Int32)).toUInt32.toUInt16.toUInt32.toInt32)))] (.int (0 : Int32)) := Arv.set Ar7 qk7 Sz7 Nn7 Hh7 Gg7 (fits_nar_char _) W8 2 rfl (Nat.le_of_ble_eq_true rfl)
  have N8 := Fr.snoc X8 N6 g_b2
  have O8 := O6.wr W8 g_b2
  have KK8 := KK6.wr W8 (Or.inr sz_b2)
  obtain ⟨_, _, ⟨T9, L9, k9, n9⟩, -, X9, ⟨Lc9, hQ9, l9, y9, z9⟩, st9⟩ := X8.specialBack hx (y := (⟨"java/lang/String", "<init>", "([C)V"⟩ : MethodName)) rfl hown (mvT hZ (hw _ (List.mem_of_getElem? (i := 8) rfl))) (mvT hZ (hw _ (List.mem_of_getElem? (i := 9) rfl))) (mvT hZ (hw _ (List.mem_of_getElem? (i := 10) rfl))) (by decide) (backOf (W := 1) (rmC3 l Z a0 hw [] b1 b2 k2 ((nar .char ((bits &&& (255 : Int32)).toUInt32.toUInt16.toUInt32.toInt32))) ((nar .char ((((bits.toUInt32 >>> ((8 : Int32) &&& 31).toUInt32).toInt32) &&& (255 : Int32)).toUInt32.toUInt16.toUInt32.toInt32))) ((nar .char ((((bits.toUInt32 >>> ((16 : Int32) &&& 31).toUInt32).toInt32) &&& (255 : Int32)).toUInt32.toUInt16.toUInt32.toInt32))) cs h8 n0 O8 ((((A1.ext E2).wr W4).wr W6).wr W8) ((((F_value_b1.ext E2).other W4 (Or.inl (Nat.ne_of_lt (Nat.lt_of_lt_of_le A1.lt (Nat.le_of_eq g2.symm))))).other W6 (Or.inl (Nat.ne_of_lt (Nat.lt_of_lt_of_le A1.lt (Nat.le_of_eq g2.symm))))).other W8 (Or.inl (Nat.ne_of_lt (Nat.lt_of_lt_of_le A1.lt (Nat.le_of_eq g2.symm))))) ((((F_coder_b1.ext E2).other W4 (Or.inl (Nat.ne_of_lt (Nat.lt_of_lt_of_le A1.lt (Nat.le_of_eq g2.symm))))).other W6 (Or.inl (Nat.ne_of_lt (Nat.lt_of_lt_of_le A1.lt (Nat.le_of_eq g2.symm))))).other W8 (Or.inl (Nat.ne_of_lt (Nat.lt_of_lt_of_le A1.lt (Nat.le_of_eq g2.symm))))) g_b1 V8 (Ne.symm (Nat.ne_of_lt (Nat.lt_of_lt_of_le A1.lt (Nat.le_of_eq g2.symm)))) (own_c8 _) (own_c8 _) (own_c8 _) S_CS hcs) hZ (hw _ (List.mem_of_getElem? (i := 10) rfl)) (hw _ (List.mem_of_getElem? (i := 6) rfl)) (by decide) (by decide)) (g := (mkF mm 107 #[.val (.int (3 : Int32)), .val (.int bits), .val (.int ((bits &&& (255 : Int32)).toUInt32.toUInt16.toUInt32.toInt32)), .val (.int ((((bits.toUInt32 >>> ((8 : Int32) &&& 31).toUInt32).toInt32) &&& (255 : Int32)).toUInt32.toUInt16.toUInt32.toInt32)), .val (.int ((((bits.toUInt32 >>> ((16 : Int32) &&& 31).toUInt32).toInt32) &&& (255 : Int32)).toUInt32.toUInt16.toUInt32.toInt32))] [(.ref b2), (.ref b1), (.ref b1)])) rfl (by rw [hml]; rfl) (Steps.refl _) (a := b1) (argsL := [(.ref b2)]) (rest := [(.ref b1)]) (lenOf pd_299 rfl) rfl (by show 2 * 0 + _ ≤ _; exact Nat.le_of_eq rfl) (hb hby d1_107) (fun _ _ => ⟨rfl, e8, (by decide : 2 + 1 ≤ _), (by decide : 7 + 3 ≤ _)⟩)
  dsimp only [Pt.U, Pt.locs, Pt.cells, Pt.slots] at X9 l9 y9 z9 st9 hQ9
  subst l9 y9 z9
  obtain ⟨rfl, N9q, K9, sb9, kb9, vs9, Ex9, Fc9, Fv9, Va9⟩ := hQ9
  have O9 := O8.keep K9 (allS g_b1 all0)
  have KK9 := KK8.trans K9 (allS (Or.inr sz_b1) all0)
  have N9 := Fr.app N8 N9q
  obtain ⟨fs, hr, hrun, hended, hW, hsame⟩ := X9.leave (v := some (.ref b1)) (fun h => by rw [Bd.returns] at h; cases h)
  refine ⟨_, _, pre0 _ ?_, hrun, hended, _, _, rfl, ?_, ⟨_, rfl⟩, hW, hsame.mono (by decide) (by decide)⟩
  · show Steps pg.tables ee below (s₁.setTop (mkF mm 0 #[.val (.int (3 : Int32)), .val (.int bits), .unset, .unset, .unset] [])) _
    refine XS.iloadN X0.here hx rfl (hb hby d1_0) rfl ?_
    show Steps pg.tables ee below (s₁.setTop (mkF mm 1 #[.val (.int (3 : Int32)), .val (.int bits), .unset, .unset, .unset] [(.int bits)])) _
    refine XS.sipush X0.here hx rfl (hb hby d1_1) ?_
    show Steps pg.tables ee below (s₁.setTop (mkF mm 4 #[.val (.int (3 : Int32)), .val (.int bits), .unset, .unset, .unset] [(.int (255 : Int32)), (.int bits)])) _
    refine XS.iand X0.here hx rfl (hb hby d1_4) rfl ?_
    show Steps pg.tables ee below (s₁.setTop (mkF mm 5 #[.val (.int (3 : Int32)), .val (.int bits), .unset, .unset, .unset] [(.int (bits &&& (255 : Int32)))])) _
    refine XS.i2c X0.here hx rfl (hb hby d1_5) rfl ?_
    show Steps pg.tables ee below (s₁.setTop (mkF mm 6 #[.val (.int (3 : Int32)), .val (.int bits), .unset, .unset, .unset] [(.int ((bits &&& (255 : Int32)).toUInt32.toUInt16.toUInt32.toInt32))])) _
    refine XS.istoreN X0.here hx rfl (hb hby d1_6) rfl (l' := #[.val (.int (3 : Int32)), .val (.int bits), .val (.int ((bits &&& (255 : Int32)).toUInt32.toUInt16.toUInt32.toInt32)), .unset, .unset]) rfl ?_
    show Steps pg.tables ee below (s₁.setTop (mkF mm 7 #[.val (.int (3 : Int32)), .val (.int bits), .val (.int ((bits &&& (255 : Int32)).toUInt32.toUInt16.toUInt32.toInt32)), .unset, .unset] [])) _
    refine XS.iloadN X0.here hx rfl (hb hby d1_7) rfl ?_
    show Steps pg.tables ee below (s₁.setTop (mkF mm 8 #[.val (.int (3 : Int32)), .val (.int bits), .val (.int ((bits &&& (255 : Int32)).toUInt32.toUInt16.toUInt32.toInt32)), .unset, .unset] [(.int bits)])) _
    refine XS.bipush X0.here hx rfl (hb hby d1_8) ?_
    show Steps pg.tables ee below (s₁.setTop (mkF mm 10 #[.val (.int (3 : Int32)), .val (.int bits), .val (.int ((bits &&& (255 : Int32)).toUInt32.toUInt16.toUInt32.toInt32)), .unset, .unset] [(.int (8 : Int32)), (.int bits)])) _
    refine XS.iushr X0.here hx rfl (hb hby d1_10) rfl ?_
    show Steps pg.tables ee below (s₁.setTop (mkF mm 11 #[.val (.int (3 : Int32)), .val (.int bits), .val (.int ((bits &&& (255 : Int32)).toUInt32.toUInt16.toUInt32.toInt32)), .unset, .unset] [(.int ((bits.toUInt32 >>> ((8 : Int32) &&& 31).toUInt32).toInt32))])) _
    refine XS.sipush X0.here hx rfl (hb hby d1_11) ?_
    show Steps pg.tables ee below (s₁.setTop (mkF mm 14 #[.val (.int (3 : Int32)), .val (.int bits), .val (.int ((bits &&& (255 : Int32)).toUInt32.toUInt16.toUInt32.toInt32)), .unset, .unset] [(.int (255 : Int32)), (.int ((bits.toUInt32 >>> ((8 : Int32) &&& 31).toUInt32).toInt32))])) _
    refine XS.iand X0.here hx rfl (hb hby d1_14) rfl ?_
    show Steps pg.tables ee below (s₁.setTop (mkF mm 15 #[.val (.int (3 : Int32)), .val (.int bits), .val (.int ((bits &&& (255 : Int32)).toUInt32.toUInt16.toUInt32.toInt32)), .unset, .unset] [(.int (((bits.toUInt32 >>> ((8 : Int32) &&& 31).toUInt32).toInt32) &&& (255 : Int32)))])) _
    refine XS.i2c X0.here hx rfl (hb hby d1_15) rfl ?_
    show Steps pg.tables ee below (s₁.setTop (mkF mm 16 #[.val (.int (3 : Int32)), .val (.int bits), .val (.int ((bits &&& (255 : Int32)).toUInt32.toUInt16.toUInt32.toInt32)), .unset, .unset] [(.int ((((bits.toUInt32 >>> ((8 : Int32) &&& 31).toUInt32).toInt32) &&& (255 : Int32)).toUInt32.toUInt16.toUInt32.toInt32))])) _
    refine XS.istoreN X0.here hx rfl (hb hby d1_16) rfl (l' := #[.val (.int (3 : Int32)), .val (.int bits), .val (.int ((bits &&& (255 : Int32)).toUInt32.toUInt16.toUInt32.toInt32)), .val (.int ((((bits.toUInt32 >>> ((8 : Int32) &&& 31).toUInt32).toInt32) &&& (255 : Int32)).toUInt32.toUInt16.toUInt32.toInt32)), .unset]) rfl ?_
    show Steps pg.tables ee below (s₁.setTop (mkF mm 17 #[.val (.int (3 : Int32)), .val (.int bits), .val (.int ((bits &&& (255 : Int32)).toUInt32.toUInt16.toUInt32.toInt32)), .val (.int ((((bits.toUInt32 >>> ((8 : Int32) &&& 31).toUInt32).toInt32) &&& (255 : Int32)).toUInt32.toUInt16.toUInt32.toInt32)), .unset] [])) _
    refine XS.iloadN X0.here hx rfl (hb hby d1_17) rfl ?_
    show Steps pg.tables ee below (s₁.setTop (mkF mm 18 #[.val (.int (3 : Int32)), .val (.int bits), .val (.int ((bits &&& (255 : Int32)).toUInt32.toUInt16.toUInt32.toInt32)), .val (.int ((((bits.toUInt32 >>> ((8 : Int32) &&& 31).toUInt32).toInt32) &&& (255 : Int32)).toUInt32.toUInt16.toUInt32.toInt32)), .unset] [(.int bits)])) _
    refine XS.bipush X0.here hx rfl (hb hby d1_18) ?_
    show Steps pg.tables ee below (s₁.setTop (mkF mm 20 #[.val (.int (3 : Int32)), .val (.int bits), .val (.int ((bits &&& (255 : Int32)).toUInt32.toUInt16.toUInt32.toInt32)), .val (.int ((((bits.toUInt32 >>> ((8 : Int32) &&& 31).toUInt32).toInt32) &&& (255 : Int32)).toUInt32.toUInt16.toUInt32.toInt32)), .unset] [(.int (16 : Int32)), (.int bits)])) _
    refine XS.iushr X0.here hx rfl (hb hby d1_20) rfl ?_
    show Steps pg.tables ee below (s₁.setTop (mkF mm 21 #[.val (.int (3 : Int32)), .val (.int bits), .val (.int ((bits &&& (255 : Int32)).toUInt32.toUInt16.toUInt32.toInt32)), .val (.int ((((bits.toUInt32 >>> ((8 : Int32) &&& 31).toUInt32).toInt32) &&& (255 : Int32)).toUInt32.toUInt16.toUInt32.toInt32)), .unset] [(.int ((bits.toUInt32 >>> ((16 : Int32) &&& 31).toUInt32).toInt32))])) _
    refine XS.sipush X0.here hx rfl (hb hby d1_21) ?_
    show Steps pg.tables ee below (s₁.setTop (mkF mm 24 #[.val (.int (3 : Int32)), .val (.int bits), .val (.int ((bits &&& (255 : Int32)).toUInt32.toUInt16.toUInt32.toInt32)), .val (.int ((((bits.toUInt32 >>> ((8 : Int32) &&& 31).toUInt32).toInt32) &&& (255 : Int32)).toUInt32.toUInt16.toUInt32.toInt32)), .unset] [(.int (255 : Int32)), (.int ((bits.toUInt32 >>> ((16 : Int32) &&& 31).toUInt32).toInt32))])) _
    refine XS.iand X0.here hx rfl (hb hby d1_24) rfl ?_
    show Steps pg.tables ee below (s₁.setTop (mkF mm 25 #[.val (.int (3 : Int32)), .val (.int bits), .val (.int ((bits &&& (255 : Int32)).toUInt32.toUInt16.toUInt32.toInt32)), .val (.int ((((bits.toUInt32 >>> ((8 : Int32) &&& 31).toUInt32).toInt32) &&& (255 : Int32)).toUInt32.toUInt16.toUInt32.toInt32)), .unset] [(.int (((bits.toUInt32 >>> ((16 : Int32) &&& 31).toUInt32).toInt32) &&& (255 : Int32)))])) _
    refine XS.i2c X0.here hx rfl (hb hby d1_25) rfl ?_
    show Steps pg.tables ee below (s₁.setTop (mkF mm 26 #[.val (.int (3 : Int32)), .val (.int bits), .val (.int ((bits &&& (255 : Int32)).toUInt32.toUInt16.toUInt32.toInt32)), .val (.int ((((bits.toUInt32 >>> ((8 : Int32) &&& 31).toUInt32).toInt32) &&& (255 : Int32)).toUInt32.toUInt16.toUInt32.toInt32)), .unset] [(.int ((((bits.toUInt32 >>> ((16 : Int32) &&& 31).toUInt32).toInt32) &&& (255 : Int32)).toUInt32.toUInt16.toUInt32.toInt32))])) _
    refine XS.istore X0.here hx rfl (hb hby d1_26) rfl (l' := #[.val (.int (3 : Int32)), .val (.int bits), .val (.int ((bits &&& (255 : Int32)).toUInt32.toUInt16.toUInt32.toInt32)), .val (.int ((((bits.toUInt32 >>> ((8 : Int32) &&& 31).toUInt32).toInt32) &&& (255 : Int32)).toUInt32.toUInt16.toUInt32.toInt32)), .val (.int ((((bits.toUInt32 >>> ((16 : Int32) &&& 31).toUInt32).toInt32) &&& (255 : Int32)).toUInt32.toUInt16.toUInt32.toInt32))]) rfl ?_
    show Steps pg.tables ee below (s₁.setTop (mkF mm 28 #[.val (.int (3 : Int32)), .val (.int bits), .val (.int ((bits &&& (255 : Int32)).toUInt32.toUInt16.toUInt32.toInt32)), .val (.int ((((bits.toUInt32 >>> ((8 : Int32) &&& 31).toUInt32).toInt32) &&& (255 : Int32)).toUInt32.toUInt16.toUInt32.toInt32)), .val (.int ((((bits.toUInt32 >>> ((16 : Int32) &&& 31).toUInt32).toInt32) &&& (255 : Int32)).toUInt32.toUInt16.toUInt32.toInt32))] [])) _
    refine XS.iloadN X0.here hx rfl (hb hby d1_28) rfl ?_
    show Steps pg.tables ee below (s₁.setTop (mkF mm 29 #[.val (.int (3 : Int32)), .val (.int bits), .val (.int ((bits &&& (255 : Int32)).toUInt32.toUInt16.toUInt32.toInt32)), .val (.int ((((bits.toUInt32 >>> ((8 : Int32) &&& 31).toUInt32).toInt32) &&& (255 : Int32)).toUInt32.toUInt16.toUInt32.toInt32)), .val (.int ((((bits.toUInt32 >>> ((16 : Int32) &&& 31).toUInt32).toInt32) &&& (255 : Int32)).toUInt32.toUInt16.toUInt32.toInt32))] [(.int (3 : Int32))])) _
    refine XS.ifYes X0.here hx rfl (pc0 := 29) (pc' := 43) rfl (hb hby d1_29) rfl ((if0 _ _).trans (feq (by decide : ¬ ((3 : Int32) = (0 : Int32)))).2) (by decide) (by decide) ?_
    show Steps pg.tables ee below (s₁.setTop (mkF mm 43 #[.val (.int (3 : Int32)), .val (.int bits), .val (.int ((bits &&& (255 : Int32)).toUInt32.toUInt16.toUInt32.toInt32)), .val (.int ((((bits.toUInt32 >>> ((8 : Int32) &&& 31).toUInt32).toInt32) &&& (255 : Int32)).toUInt32.toUInt16.toUInt32.toInt32)), .val (.int ((((bits.toUInt32 >>> ((16 : Int32) &&& 31).toUInt32).toInt32) &&& (255 : Int32)).toUInt32.toUInt16.toUInt32.toInt32))] [])) _
    refine XS.iloadN X0.here hx rfl (hb hby d1_43) rfl ?_
    show Steps pg.tables ee below (s₁.setTop (mkF mm 44 #[.val (.int (3 : Int32)), .val (.int bits), .val (.int ((bits &&& (255 : Int32)).toUInt32.toUInt16.toUInt32.toInt32)), .val (.int ((((bits.toUInt32 >>> ((8 : Int32) &&& 31).toUInt32).toInt32) &&& (255 : Int32)).toUInt32.toUInt16.toUInt32.toInt32)), .val (.int ((((bits.toUInt32 >>> ((16 : Int32) &&& 31).toUInt32).toInt32) &&& (255 : Int32)).toUInt32.toUInt16.toUInt32.toInt32))] [(.int (3 : Int32))])) _
    refine XS.iconst X0.here hx rfl (hb hby d1_44) ?_
    show Steps pg.tables ee below (s₁.setTop (mkF mm 45 #[.val (.int (3 : Int32)), .val (.int bits), .val (.int ((bits &&& (255 : Int32)).toUInt32.toUInt16.toUInt32.toInt32)), .val (.int ((((bits.toUInt32 >>> ((8 : Int32) &&& 31).toUInt32).toInt32) &&& (255 : Int32)).toUInt32.toUInt16.toUInt32.toInt32)), .val (.int ((((bits.toUInt32 >>> ((16 : Int32) &&& 31).toUInt32).toInt32) &&& (255 : Int32)).toUInt32.toUInt16.toUInt32.toInt32))] [(.int (1 : Int32)), (.int (3 : Int32))])) _
    refine XS.icmpYes X0.here hx rfl (pc0 := 45) (pc' := 63) rfl (hb hby d1_45) rfl (feq (by decide : ¬ ((3 : Int32) = (1 : Int32)))).2 (by decide) (by decide) ?_
    show Steps pg.tables ee below (s₁.setTop (mkF mm 63 #[.val (.int (3 : Int32)), .val (.int bits), .val (.int ((bits &&& (255 : Int32)).toUInt32.toUInt16.toUInt32.toInt32)), .val (.int ((((bits.toUInt32 >>> ((8 : Int32) &&& 31).toUInt32).toInt32) &&& (255 : Int32)).toUInt32.toUInt16.toUInt32.toInt32)), .val (.int ((((bits.toUInt32 >>> ((16 : Int32) &&& 31).toUInt32).toInt32) &&& (255 : Int32)).toUInt32.toUInt16.toUInt32.toInt32))] [])) _
    refine XS.iloadN X0.here hx rfl (hb hby d1_63) rfl ?_
    show Steps pg.tables ee below (s₁.setTop (mkF mm 64 #[.val (.int (3 : Int32)), .val (.int bits), .val (.int ((bits &&& (255 : Int32)).toUInt32.toUInt16.toUInt32.toInt32)), .val (.int ((((bits.toUInt32 >>> ((8 : Int32) &&& 31).toUInt32).toInt32) &&& (255 : Int32)).toUInt32.toUInt16.toUInt32.toInt32)), .val (.int ((((bits.toUInt32 >>> ((16 : Int32) &&& 31).toUInt32).toInt32) &&& (255 : Int32)).toUInt32.toUInt16.toUInt32.toInt32))] [(.int (3 : Int32))])) _
    refine XS.iconst X0.here hx rfl (hb hby d1_64) ?_
    show Steps pg.tables ee below (s₁.setTop (mkF mm 65 #[.val (.int (3 : Int32)), .val (.int bits), .val (.int ((bits &&& (255 : Int32)).toUInt32.toUInt16.toUInt32.toInt32)), .val (.int ((((bits.toUInt32 >>> ((8 : Int32) &&& 31).toUInt32).toInt32) &&& (255 : Int32)).toUInt32.toUInt16.toUInt32.toInt32)), .val (.int ((((bits.toUInt32 >>> ((16 : Int32) &&& 31).toUInt32).toInt32) &&& (255 : Int32)).toUInt32.toUInt16.toUInt32.toInt32))] [(.int (2 : Int32)), (.int (3 : Int32))])) _
    refine XS.icmpYes X0.here hx rfl (pc0 := 65) (pc' := 87) rfl (hb hby d1_65) rfl (feq (by decide : ¬ ((3 : Int32) = (2 : Int32)))).2 (by decide) (by decide) ?_
    show Steps pg.tables ee below (s₁.setTop (mkF mm 87 #[.val (.int (3 : Int32)), .val (.int bits), .val (.int ((bits &&& (255 : Int32)).toUInt32.toUInt16.toUInt32.toInt32)), .val (.int ((((bits.toUInt32 >>> ((8 : Int32) &&& 31).toUInt32).toInt32) &&& (255 : Int32)).toUInt32.toUInt16.toUInt32.toInt32)), .val (.int ((((bits.toUInt32 >>> ((16 : Int32) &&& 31).toUInt32).toInt32) &&& (255 : Int32)).toUInt32.toUInt16.toUInt32.toInt32))] [])) _
    refine st1 _ ?_
    show Steps pg.tables ee below (T1.setTop (mkF mm 90 #[.val (.int (3 : Int32)), .val (.int bits), .val (.int ((bits &&& (255 : Int32)).toUInt32.toUInt16.toUInt32.toInt32)), .val (.int ((((bits.toUInt32 >>> ((8 : Int32) &&& 31).toUInt32).toInt32) &&& (255 : Int32)).toUInt32.toUInt16.toUInt32.toInt32)), .val (.int ((((bits.toUInt32 >>> ((16 : Int32) &&& 31).toUInt32).toInt32) &&& (255 : Int32)).toUInt32.toUInt16.toUInt32.toInt32))] [(.ref b1)])) _
    refine XS.dup X1.here hx rfl (hb hby d1_90) rfl rfl ?_
    show Steps pg.tables ee below (T1.setTop (mkF mm 91 #[.val (.int (3 : Int32)), .val (.int bits), .val (.int ((bits &&& (255 : Int32)).toUInt32.toUInt16.toUInt32.toInt32)), .val (.int ((((bits.toUInt32 >>> ((8 : Int32) &&& 31).toUInt32).toInt32) &&& (255 : Int32)).toUInt32.toUInt16.toUInt32.toInt32)), .val (.int ((((bits.toUInt32 >>> ((16 : Int32) &&& 31).toUInt32).toInt32) &&& (255 : Int32)).toUInt32.toUInt16.toUInt32.toInt32))] [(.ref b1), (.ref b1)])) _
    refine XS.iconst X1.here hx rfl (hb hby d1_91) ?_
    show Steps pg.tables ee below (T1.setTop (mkF mm 92 #[.val (.int (3 : Int32)), .val (.int bits), .val (.int ((bits &&& (255 : Int32)).toUInt32.toUInt16.toUInt32.toInt32)), .val (.int ((((bits.toUInt32 >>> ((8 : Int32) &&& 31).toUInt32).toInt32) &&& (255 : Int32)).toUInt32.toUInt16.toUInt32.toInt32)), .val (.int ((((bits.toUInt32 >>> ((16 : Int32) &&& 31).toUInt32).toInt32) &&& (255 : Int32)).toUInt32.toUInt16.toUInt32.toInt32))] [(.int (3 : Int32)), (.ref b1), (.ref b1)])) _
    refine st2 _ ?_
    show Steps pg.tables ee below (T2.setTop (mkF mm 94 #[.val (.int (3 : Int32)), .val (.int bits), .val (.int ((bits &&& (255 : Int32)).toUInt32.toUInt16.toUInt32.toInt32)), .val (.int ((((bits.toUInt32 >>> ((8 : Int32) &&& 31).toUInt32).toInt32) &&& (255 : Int32)).toUInt32.toUInt16.toUInt32.toInt32)), .val (.int ((((bits.toUInt32 >>> ((16 : Int32) &&& 31).toUInt32).toInt32) &&& (255 : Int32)).toUInt32.toUInt16.toUInt32.toInt32))] [(.ref b2), (.ref b1), (.ref b1)])) _
    refine XS.dup X2.here hx rfl (hb hby d1_94) rfl rfl ?_
    show Steps pg.tables ee below (T2.setTop (mkF mm 95 #[.val (.int (3 : Int32)), .val (.int bits), .val (.int ((bits &&& (255 : Int32)).toUInt32.toUInt16.toUInt32.toInt32)), .val (.int ((((bits.toUInt32 >>> ((8 : Int32) &&& 31).toUInt32).toInt32) &&& (255 : Int32)).toUInt32.toUInt16.toUInt32.toInt32)), .val (.int ((((bits.toUInt32 >>> ((16 : Int32) &&& 31).toUInt32).toInt32) &&& (255 : Int32)).toUInt32.toUInt16.toUInt32.toInt32))] [(.ref b2), (.ref b2), (.ref b1), (.ref b1)])) _
    refine XS.iconst X2.here hx rfl (hb hby d1_95) ?_
    show Steps pg.tables ee below (T2.setTop (mkF mm 96 #[.val (.int (3 : Int32)), .val (.int bits), .val (.int ((bits &&& (255 : Int32)).toUInt32.toUInt16.toUInt32.toInt32)), .val (.int ((((bits.toUInt32 >>> ((8 : Int32) &&& 31).toUInt32).toInt32) &&& (255 : Int32)).toUInt32.toUInt16.toUInt32.toInt32)), .val (.int ((((bits.toUInt32 >>> ((16 : Int32) &&& 31).toUInt32).toInt32) &&& (255 : Int32)).toUInt32.toUInt16.toUInt32.toInt32))] [(.int (0 : Int32)), (.ref b2), (.ref b2), (.ref b1), (.ref b1)])) _
    refine XS.iloadN X2.here hx rfl (hb hby d1_96) rfl ?_
    show Steps pg.tables ee below (T2.setTop (mkF mm 97 #[.val (.int (3 : Int32)), .val (.int bits), .val (.int ((bits &&& (255 : Int32)).toUInt32.toUInt16.toUInt32.toInt32)), .val (.int ((((bits.toUInt32 >>> ((8 : Int32) &&& 31).toUInt32).toInt32) &&& (255 : Int32)).toUInt32.toUInt16.toUInt32.toInt32)), .val (.int ((((bits.toUInt32 >>> ((16 : Int32) &&& 31).toUInt32).toInt32) &&& (255 : Int32)).toUInt32.toUInt16.toUInt32.toInt32))] [(.int ((bits &&& (255 : Int32)).toUInt32.toUInt16.toUInt32.toInt32)), (.int (0 : Int32)), (.ref b2), (.ref b2), (.ref b1), (.ref b1)])) _
    refine st4 _ ?_
    show Steps pg.tables ee below (T4.setTop (mkF mm 98 #[.val (.int (3 : Int32)), .val (.int bits), .val (.int ((bits &&& (255 : Int32)).toUInt32.toUInt16.toUInt32.toInt32)), .val (.int ((((bits.toUInt32 >>> ((8 : Int32) &&& 31).toUInt32).toInt32) &&& (255 : Int32)).toUInt32.toUInt16.toUInt32.toInt32)), .val (.int ((((bits.toUInt32 >>> ((16 : Int32) &&& 31).toUInt32).toInt32) &&& (255 : Int32)).toUInt32.toUInt16.toUInt32.toInt32))] [(.ref b2), (.ref b1), (.ref b1)])) _
    refine XS.dup X4.here hx rfl (hb hby d1_98) rfl rfl ?_
    show Steps pg.tables ee below (T4.setTop (mkF mm 99 #[.val (.int (3 : Int32)), .val (.int bits), .val (.int ((bits &&& (255 : Int32)).toUInt32.toUInt16.toUInt32.toInt32)), .val (.int ((((bits.toUInt32 >>> ((8 : Int32) &&& 31).toUInt32).toInt32) &&& (255 : Int32)).toUInt32.toUInt16.toUInt32.toInt32)), .val (.int ((((bits.toUInt32 >>> ((16 : Int32) &&& 31).toUInt32).toInt32) &&& (255 : Int32)).toUInt32.toUInt16.toUInt32.toInt32))] [(.ref b2), (.ref b2), (.ref b1), (.ref b1)])) _
    refine XS.iconst X4.here hx rfl (hb hby d1_99) ?_
    show Steps pg.tables ee below (T4.setTop (mkF mm 100 #[.val (.int (3 : Int32)), .val (.int bits), .val (.int ((bits &&& (255 : Int32)).toUInt32.toUInt16.toUInt32.toInt32)), .val (.int ((((bits.toUInt32 >>> ((8 : Int32) &&& 31).toUInt32).toInt32) &&& (255 : Int32)).toUInt32.toUInt16.toUInt32.toInt32)), .val (.int ((((bits.toUInt32 >>> ((16 : Int32) &&& 31).toUInt32).toInt32) &&& (255 : Int32)).toUInt32.toUInt16.toUInt32.toInt32))] [(.int (1 : Int32)), (.ref b2), (.ref b2), (.ref b1), (.ref b1)])) _
    refine XS.iloadN X4.here hx rfl (hb hby d1_100) rfl ?_
    show Steps pg.tables ee below (T4.setTop (mkF mm 101 #[.val (.int (3 : Int32)), .val (.int bits), .val (.int ((bits &&& (255 : Int32)).toUInt32.toUInt16.toUInt32.toInt32)), .val (.int ((((bits.toUInt32 >>> ((8 : Int32) &&& 31).toUInt32).toInt32) &&& (255 : Int32)).toUInt32.toUInt16.toUInt32.toInt32)), .val (.int ((((bits.toUInt32 >>> ((16 : Int32) &&& 31).toUInt32).toInt32) &&& (255 : Int32)).toUInt32.toUInt16.toUInt32.toInt32))] [(.int ((((bits.toUInt32 >>> ((8 : Int32) &&& 31).toUInt32).toInt32) &&& (255 : Int32)).toUInt32.toUInt16.toUInt32.toInt32)), (.int (1 : Int32)), (.ref b2), (.ref b2), (.ref b1), (.ref b1)])) _
    refine st6 _ ?_
    show Steps pg.tables ee below (T6.setTop (mkF mm 102 #[.val (.int (3 : Int32)), .val (.int bits), .val (.int ((bits &&& (255 : Int32)).toUInt32.toUInt16.toUInt32.toInt32)), .val (.int ((((bits.toUInt32 >>> ((8 : Int32) &&& 31).toUInt32).toInt32) &&& (255 : Int32)).toUInt32.toUInt16.toUInt32.toInt32)), .val (.int ((((bits.toUInt32 >>> ((16 : Int32) &&& 31).toUInt32).toInt32) &&& (255 : Int32)).toUInt32.toUInt16.toUInt32.toInt32))] [(.ref b2), (.ref b1), (.ref b1)])) _
    refine XS.dup X6.here hx rfl (hb hby d1_102) rfl rfl ?_
    show Steps pg.tables ee below (T6.setTop (mkF mm 103 #[.val (.int (3 : Int32)), .val (.int bits), .val (.int ((bits &&& (255 : Int32)).toUInt32.toUInt16.toUInt32.toInt32)), .val (.int ((((bits.toUInt32 >>> ((8 : Int32) &&& 31).toUInt32).toInt32) &&& (255 : Int32)).toUInt32.toUInt16.toUInt32.toInt32)), .val (.int ((((bits.toUInt32 >>> ((16 : Int32) &&& 31).toUInt32).toInt32) &&& (255 : Int32)).toUInt32.toUInt16.toUInt32.toInt32))] [(.ref b2), (.ref b2), (.ref b1), (.ref b1)])) _
    refine XS.iconst X6.here hx rfl (hb hby d1_103) ?_
    show Steps pg.tables ee below (T6.setTop (mkF mm 104 #[.val (.int (3 : Int32)), .val (.int bits), .val (.int ((bits &&& (255 : Int32)).toUInt32.toUInt16.toUInt32.toInt32)), .val (.int ((((bits.toUInt32 >>> ((8 : Int32) &&& 31).toUInt32).toInt32) &&& (255 : Int32)).toUInt32.toUInt16.toUInt32.toInt32)), .val (.int ((((bits.toUInt32 >>> ((16 : Int32) &&& 31).toUInt32).toInt32) &&& (255 : Int32)).toUInt32.toUInt16.toUInt32.toInt32))] [(.int (2 : Int32)), (.ref b2), (.ref b2), (.ref b1), (.ref b1)])) _
    refine XS.iload X6.here hx rfl (hb hby d1_104) rfl ?_
    show Steps pg.tables ee below (T6.setTop (mkF mm 106 #[.val (.int (3 : Int32)), .val (.int bits), .val (.int ((bits &&& (255 : Int32)).toUInt32.toUInt16.toUInt32.toInt32)), .val (.int ((((bits.toUInt32 >>> ((8 : Int32) &&& 31).toUInt32).toInt32) &&& (255 : Int32)).toUInt32.toUInt16.toUInt32.toInt32)), .val (.int ((((bits.toUInt32 >>> ((16 : Int32) &&& 31).toUInt32).toInt32) &&& (255 : Int32)).toUInt32.toUInt16.toUInt32.toInt32))] [(.int ((((bits.toUInt32 >>> ((16 : Int32) &&& 31).toUInt32).toInt32) &&& (255 : Int32)).toUInt32.toUInt16.toUInt32.toInt32)), (.int (2 : Int32)), (.ref b2), (.ref b2), (.ref b1), (.ref b1)])) _
    refine st8 _ ?_
    show Steps pg.tables ee below (T8.setTop (mkF mm 107 #[.val (.int (3 : Int32)), .val (.int bits), .val (.int ((bits &&& (255 : Int32)).toUInt32.toUInt16.toUInt32.toInt32)), .val (.int ((((bits.toUInt32 >>> ((8 : Int32) &&& 31).toUInt32).toInt32) &&& (255 : Int32)).toUInt32.toUInt16.toUInt32.toInt32)), .val (.int ((((bits.toUInt32 >>> ((16 : Int32) &&& 31).toUInt32).toInt32) &&& (255 : Int32)).toUInt32.toUInt16.toUInt32.toInt32))] [(.ref b2), (.ref b1), (.ref b1)])) _
    refine st9.trans ?_
    show Steps pg.tables ee below (T9.setTop (mkF mm 110 #[.val (.int (3 : Int32)), .val (.int bits), .val (.int ((bits &&& (255 : Int32)).toUInt32.toUInt16.toUInt32.toInt32)), .val (.int ((((bits.toUInt32 >>> ((8 : Int32) &&& 31).toUInt32).toInt32) &&& (255 : Int32)).toUInt32.toUInt16.toUInt32.toInt32)), .val (.int ((((bits.toUInt32 >>> ((16 : Int32) &&& 31).toUInt32).toInt32) &&& (255 : Int32)).toUInt32.toUInt16.toUInt32.toInt32))] [(.ref b1)])) _
    exact retOut X9 hx Bd.returns rfl (Or.inr (Or.inr (Or.inr (Or.inr ⟨rfl, rfl, rfl⟩)))) (hb hby d1_110) hr
  · show QD Z (3 : Int32) h0 n0 _ T9.heap _
    exact ⟨_, _, _, _, rfl, N9, KK9, Ex9, Fc9, Fv9, Va9⟩
theorem d3_8 : decode jdk_42_method_149_code 8 = .ok (.aload_n 0, 1) := by decide +kernel
theorem d3_9 : decode jdk_42_method_149_code 9 = .ok (.ldc 7, 2) := by decide +kernel
theorem d3_11 : decode jdk_42_method_149_code 11 = .ok (.getfield 9, 3) := by decide +kernel
theorem d3_14 : decode jdk_42_method_149_code 14 = .ok (.putfield 9, 3) := by decide +kernel
theorem d3_17 : decode jdk_42_method_149_code 17 = .ok (.aload_n 0, 1) := by decide +kernel
theorem own_loose {p : Program} {l : Launch} {e : Env} {R : Room} {s : State} {m : MethodId} {args : Array Value} {below : List Frame} {meth : Method} {c : Code} {T : State} {locs : List Loc} {cells slots n0 : Nat} (X : Stand p l e R s m args below meth c T locs cells slots) (N : Fr n0 locs) : ∃ LL, Stand p l e R s m args below meth c T LL cells slots ∧ Fr n0 LL := ⟨_, X, N⟩
theorem d3_18 : decode jdk_42_method_149_code 18 = .ok (.ldc 7, 2) := by decide +kernel
theorem d3_20 : decode jdk_42_method_149_code 20 = .ok (.getfield 15, 3) := by decide +kernel
theorem d3_23 : decode jdk_42_method_149_code 23 = .ok (.putfield 15, 3) := by decide +kernel
theorem d3_26 : decode jdk_42_method_149_code 26 = .ok (.return_, 1) := by decide +kernel
theorem own_rmono {s t : State} {o : Outcome} {L : List Loc} {k n k' n' : Nat} (h : ReturnedEndW s o t L k n) (hk : k ≤ k') (hn : n ≤ n') : ReturnedEndW s o t L k' n' := ⟨h.1, h.2.1, h.2.2.1, h.2.2.2.mono hk hn⟩
def QrmV0 (Z : State) (a : Addr) (ch : Addr) (h0 : Heap) (n0 : Nat) (v : Option Value) (h : Heap) (L : List Loc) : Prop := v = none ∧ Fr n0 L ∧ Keep h0 h [a] ∧ ∃ (b : Addr) (kb : ClassId) (vs : List Value), Exa Z h a "java/lang/String" ∧ Fld Z h a "java/lang/String" "coder" "B" (.int (0 : Int32)) ∧ Fld Z h a "java/lang/String" "value" "[B" (.ref b) ∧ Arv Z h b kb .byte (0 : Int32) vs (.int 0)
set_option maxRecDepth 65536 in
set_option maxHeartbeats 40000000 in
theorem rmV0 (l : Launch) (Z : State) (a0 : Array Value) (hw : ∀ d ∈ tables_1, d.before a0 Z = true) (ws : List Jvm.Cond) (a : Addr) (ch : Addr) (h0 : Heap) (n0 : Nat) (O0 : Old Z n0 h0) (E_a : Exa Z h0 a "java/lang/String") (F_value_a : Fld Z h0 a "java/lang/String" "value" "[B" .null) (F_coder_a : Fld Z h0 a "java/lang/String" "coder" "B" (.int (0 : Int32))) (g_a : n0 ≤ a) :
    MetFree l (⟨"java/lang/String", "<init>", "([CIILjava/lang/Void;)V"⟩ : MethodName) (head1 (Jvm.Cond.code (⟨"java/lang/String", "<init>", "([CIILjava/lang/Void;)V"⟩ : MethodName) jdk_42_method_149_code 6 none :: ws) ({ frames := 1, cells := 4, slots := 8, locals := 12 } : Room)) (fun a_ U_ => a_ = #[(.ref a), (.ref ch), (.int (0 : Int32)), (.int (0 : Int32)), .null] ∧ Z.Warmed39 U_.vm ∧ U_.heap = h0 ∧ CHv Z own_EL U_.vm h0) (fun _ _ _ _ _ => True) (fun _ U_ o_ U'_ => ∃ v_ L_, o_ = .returned v_ ∧ QrmV0 Z a ch h0 n0 v_ U'_.heap L_ ∧ CHr Z own_EL U_.vm U_.heap U'_.vm U'_.heap ∧ ReturnedEndW U_ o_ U'_ L_ ({ frames := 1, cells := 4, slots := 8, locals := 12 } : Room).cells ({ frames := 1, cells := 4, slots := 8, locals := 12 } : Room).slots) := by
  refine MetFree.of_bodySF (plainFor_of_name pn_6) hisR ?_
  intro pg ee s mm args below meth cc s₁ Bd hml0 hP hK
  obtain ⟨rfl, hZ, hh, HC0⟩ := hP
  have hx := Bd.exec
  have hby := Bd.bytes
  have hml : cc.maxLocals = 6 := hml0
  have hown : s.vm.findClass "java/lang/String" = some mm.cls := findClass_of_methodNamed Bd.named
  have hnm := (name_of_methodNamed Bd.named Bd.method).1
  have X0 : Stand pg l ee ({ frames := 1, cells := 4, slots := 8, locals := 12 } : Room) s mm #[(.ref a), (.ref ch), (.int (0 : Int32)), (.int (0 : Int32)), .null] below meth cc s₁ [] 0 0 := Stand.of_body Bd
  have e0 : s₁.heap = h0 := by rw [← hh, Bd.state]; rfl
  have N0 := Fr.nil n0
  have K0 : Keep h0 h0 ([a] : List Addr) := Keep.refl _ _
  have XW : Stand pg l ee ({ frames := 1, cells := 4, slots := 8, locals := 12 } : Room) (s.setVm s.vm) mm #[(.ref a), (.ref ch), (.int (0 : Int32)), (.int (0 : Int32)), .null] below meth cc s₁ [] 0 0 := X0
  have hS0 : s.Since s.vm 0 := (State.WarmedH.refl s).since 0
  have CR0 : CHr Z own_EL s.vm h0 s.vm h0 := CHr.refl HC0
  have hEL := own_hEL hw
  have pre0 : ∀ tg_, Steps pg.tables ee below (s₁.setTop (mkF mm 0 #[.val (.ref a), .val (.ref ch), .val (.int (0 : Int32)), .val (.int (0 : Int32)), .val .null, .unset] [])) tg_ → Steps pg.tables ee below (s₁.setTop (entryFrame mm #[(.ref a), (.ref ch), (.int (0 : Int32)), (.int (0 : Int32)), .null] 6)) tg_ := fun tg_ k_ => castTop (ef_3_255 mm a ch (0 : Int32) (0 : Int32)) k_
  obtain ⟨T1, X1, e1, st1⟩ := initO XW hx hZ hown (hw _ (List.mem_of_getElem? (i := 15) rfl)) (hw _ (List.mem_of_getElem? (i := 16) rfl)) (hw _ (List.mem_of_getElem? (i := 17) rfl)) e0 (g := (mkF mm 1 #[.val (.ref a), .val (.ref ch), .val (.int (0 : Int32)), .val (.int (0 : Int32)), .val .null, .unset] [(.ref a)])) rfl (by rw [hml]; rfl) rfl (hb hby d3_1) (by decide) (W := 0) (by show 2 * 0 + _ ≤ _; exact Nat.le_of_eq rfl) (by decide)
  have pre2 : ∀ tg_, Steps pg.tables ee below (T1.setTop (mkF mm 9 #[.val (.ref a), .val (.ref ch), .val (.int (0 : Int32)), .val (.int (0 : Int32)), .val .null, .unset] [(.ref a)])) tg_ → Steps pg.tables ee below (s₁.setTop (entryFrame mm #[(.ref a), (.ref ch), (.int (0 : Int32)), (.int (0 : Int32)), .null] 6)) tg_ := fun tg_ k_ => pre0 tg_ (by
      show Steps pg.tables ee below (s₁.setTop (mkF mm 0 #[.val (.ref a), .val (.ref ch), .val (.int (0 : Int32)), .val (.int (0 : Int32)), .val .null, .unset] [])) _
      refine XS.aloadN XW.here hx rfl (hb hby d3_0) rfl rfl ?_
      show Steps pg.tables ee below (s₁.setTop (mkF mm 1 #[.val (.ref a), .val (.ref ch), .val (.int (0 : Int32)), .val (.int (0 : Int32)), .val .null, .unset] [(.ref a)])) _
      refine st1 _ ?_
      show Steps pg.tables ee below (T1.setTop (mkF mm 4 #[.val (.ref a), .val (.ref ch), .val (.int (0 : Int32)), .val (.int (0 : Int32)), .val .null, .unset] [])) _
      refine XS.iloadN X1.here hx rfl (hb hby d3_4) rfl ?_
      show Steps pg.tables ee below (T1.setTop (mkF mm 5 #[.val (.ref a), .val (.ref ch), .val (.int (0 : Int32)), .val (.int (0 : Int32)), .val .null, .unset] [(.int (0 : Int32))])) _
      refine XS.ifNo X1.here hx rfl (hb hby d3_5) rfl ((if0 _ _).trans (teq (by decide : (0 : Int32) = (0 : Int32))).2) ?_
      show Steps pg.tables ee below (T1.setTop (mkF mm 8 #[.val (.ref a), .val (.ref ch), .val (.int (0 : Int32)), .val (.int (0 : Int32)), .val .null, .unset] [])) _
      refine XS.aloadN X1.here hx rfl (hb hby d3_8) rfl rfl ?_
      exact k_)
  obtain ⟨sa3, T3, h3, k3, sb3, sk3, X3, e3, E3, hS3, hk3, hZ, hown, Es3, Fc3, Fv3, Va3, lt3, lu3, CQ3, -, hne3, st3⟩ := ldcCH (EL := own_EL) (vs := []) (z := (0 : Int32)) (n := 0) X1 hx hZ hown (hw _ (List.mem_of_getElem? (i := 18) rfl)) (own_wS hw) e1 hS0 (Nat.zero_le _) hEL (List.mem_of_getElem? (i := 0) rfl) CR0.1 (by decide +kernel) (by decide) rfl (g := (mkF mm 9 #[.val (.ref a), .val (.ref ch), .val (.int (0 : Int32)), .val (.int (0 : Int32)), .val .null, .unset] [(.ref a)])) rfl (hb hby d3_9) (by decide +kernel) (by decide) (by decide) (by decide)
  have CR3 := CR0.trans CQ3
  have O3 := O0.ext E3
  have KK3 := K0.ext E3
  obtain ⟨T4, X4, e4, st4⟩ := getF X3 hx hZ hown (host := "") (Or.inl (hw _ (List.mem_of_getElem? (i := 24) rfl))) Via.refl e3 Fv3 (g := (mkF mm 11 #[.val (.ref a), .val (.ref ch), .val (.int (0 : Int32)), .val (.int (0 : Int32)), .val .null, .unset] [(.ref sa3), (.ref a)])) rfl rfl (hb hby d3_11)
  have Sa := own_safe (EL := own_EL) hZ.alike (F_value_a.ext E3) (E_a.ext E3)
  obtain ⟨T5, h5, X5, e5, W5, st5⟩ := putF X4 hx hZ hown (host := "") (Or.inl (hw _ (List.mem_of_getElem? (i := 24) rfl))) Via.refl e4 (F_value_a.ext E3) (E_a.ext E3) (Or.inr ⟨(hw _ (List.mem_of_getElem? (i := 20) rfl)), rfl, hnm⟩) (hw _ (List.mem_of_getElem? (i := 5) rfl)) (ty := (.array .byte)) (by decide) rfl rfl (g := (mkF mm 14 #[.val (.ref a), .val (.ref ch), .val (.int (0 : Int32)), .val (.int (0 : Int32)), .val .null, .unset] [(.ref sb3), (.ref a)])) rfl rfl (hb hby d3_14)
  have Fw5 : Fld Z h5 a "java/lang/String" "value" "[B" (.ref sb3) := (F_value_a.ext E3).same W5
  have CR5 := CR3.trans (CHr.wr W5 Sa CR3.1)
  have Sf5 := Safe.wr W5 Sa CR3.1 Sa
  have N5 := Fr.snoc X5 N0 g_a
  have O5 := O3.wr W5 g_a
  have KK5 := KK3.wr W5 (Or.inl (by simp))
  have hk5 := Nat.le_trans hk3 (Nat.le_of_eq W5.size.symm)
  obtain ⟨LL6, XL6, NL6⟩ := own_loose X5 N5
  have pre7 : ∀ tg_, Steps pg.tables ee below (T5.setTop (mkF mm 18 #[.val (.ref a), .val (.ref ch), .val (.int (0 : Int32)), .val (.int (0 : Int32)), .val .null, .unset] [(.ref a)])) tg_ → Steps pg.tables ee below (s₁.setTop (entryFrame mm #[(.ref a), (.ref ch), (.int (0 : Int32)), (.int (0 : Int32)), .null] 6)) tg_ := fun tg_ k_ => pre2 tg_ (by
      show Steps pg.tables ee below (T1.setTop (mkF mm 9 #[.val (.ref a), .val (.ref ch), .val (.int (0 : Int32)), .val (.int (0 : Int32)), .val .null, .unset] [(.ref a)])) _
      refine st3 _ ?_
      show Steps pg.tables ee below (T3.setTop (mkF mm 11 #[.val (.ref a), .val (.ref ch), .val (.int (0 : Int32)), .val (.int (0 : Int32)), .val .null, .unset] [(.ref sa3), (.ref a)])) _
      refine st4 _ ?_
      show Steps pg.tables ee below (T4.setTop (mkF mm 14 #[.val (.ref a), .val (.ref ch), .val (.int (0 : Int32)), .val (.int (0 : Int32)), .val .null, .unset] [(.ref sb3), (.ref a)])) _
      refine st5 _ ?_
      show Steps pg.tables ee below (T5.setTop (mkF mm 17 #[.val (.ref a), .val (.ref ch), .val (.int (0 : Int32)), .val (.int (0 : Int32)), .val .null, .unset] [])) _
      refine XS.aloadN X5.here hx rfl (hb hby d3_17) rfl rfl ?_
      exact k_)
  obtain ⟨sa8, T8, h8, k8, sb8, sk8, X8, e8, E8, hS8, hk8, hZ, hown, Es8, Fc8, Fv8, Va8, lt8, lu8, CQ8, -, hne8, st8⟩ := ldcCH (EL := own_EL) (vs := []) (z := (0 : Int32)) (n := 0) XL6 hx hZ hown (hw _ (List.mem_of_getElem? (i := 18) rfl)) (own_wS hw) e5 hS3 hk5 hEL (List.mem_of_getElem? (i := 0) rfl) CR5.1 (by decide +kernel) (by decide) rfl (g := (mkF mm 18 #[.val (.ref a), .val (.ref ch), .val (.int (0 : Int32)), .val (.int (0 : Int32)), .val .null, .unset] [(.ref a)])) rfl (hb hby d3_18) (by decide +kernel) (by decide) (by decide) (by decide)
  have Sg8 := CHr.safe CQ8 ((E_a.ext E3).wr W5).lt Sf5
  have CR8 := CR5.trans CQ8
  have O8 := O5.ext E8
  have KK8 := KK5.ext E8
  obtain ⟨T9, X9, e9, st9⟩ := getF X8 hx hZ hown (host := "") (Or.inl (hw _ (List.mem_of_getElem? (i := 25) rfl))) Via.refl e8 Fc8 (g := (mkF mm 20 #[.val (.ref a), .val (.ref ch), .val (.int (0 : Int32)), .val (.int (0 : Int32)), .val .null, .unset] [(.ref sa8), (.ref a)])) rfl rfl (hb hby d3_20)
  obtain ⟨T10, h10, X10, e10, W10, st10⟩ := putFN X9 hx hZ hown (hw _ (List.mem_of_getElem? (i := 25) rfl)) Via.refl e9 (((F_coder_a.ext E3).other W5 (Or.inr (slot_ne (Or.inr (hw _ (List.mem_of_getElem? (i := 21) rfl))) (Or.inr (hw _ (List.mem_of_getElem? (i := 20) rfl))) (by decide) (t := .byte) (t' := (.array .byte)) (by decide) (by decide)))).ext E8) (((E_a.ext E3).wr W5).ext E8) (Or.inr ⟨(hw _ (List.mem_of_getElem? (i := 21) rfl)), rfl, hnm⟩) (hw _ (List.mem_of_getElem? (i := 5) rfl)) (ty := .byte) (v' := (.int (0 : Int32))) (by decide) rfl (by decide) (g := (mkF mm 23 #[.val (.ref a), .val (.ref ch), .val (.int (0 : Int32)), .val (.int (0 : Int32)), .val .null, .unset] [(.int (0 : Int32)), (.ref a)])) rfl rfl (hb hby d3_23)
  have Fw10 : Fld Z h10 a "java/lang/String" "coder" "B" (.int (0 : Int32)) := (((F_coder_a.ext E3).other W5 (Or.inr (slot_ne (Or.inr (hw _ (List.mem_of_getElem? (i := 21) rfl))) (Or.inr (hw _ (List.mem_of_getElem? (i := 20) rfl))) (by decide) (t := .byte) (t' := (.array .byte)) (by decide) (by decide)))).ext E8).same W10
  have CR10 := CR8.trans (CHr.wr W10 Sg8 CR8.1)
  have Sf10 := Safe.wr W10 Sg8 CR8.1 Sg8
  have N10 := Fr.snoc X10 NL6 g_a
  have O10 := O8.wr W10 g_a
  have KK10 := KK8.wr W10 (Or.inl (by simp))
  have hk10 := Nat.le_trans hk8 (Nat.le_of_eq W10.size.symm)
  obtain ⟨fs, hr, hrun, hended, hRW⟩ := X10.leaveW hS8 (by rw [e10]; exact hk10) (v := none) (fun _ => rfl)
  refine ⟨_, _, pre7 _ ?_, hrun, hended, _, _, rfl, ?_, ?_, (own_rmono hRW (by decide) (by decide))⟩
  · show Steps pg.tables ee below (T5.setTop (mkF mm 18 #[.val (.ref a), .val (.ref ch), .val (.int (0 : Int32)), .val (.int (0 : Int32)), .val .null, .unset] [(.ref a)])) _
    refine st8 _ ?_
    show Steps pg.tables ee below (T8.setTop (mkF mm 20 #[.val (.ref a), .val (.ref ch), .val (.int (0 : Int32)), .val (.int (0 : Int32)), .val .null, .unset] [(.ref sa8), (.ref a)])) _
    refine st9 _ ?_
    show Steps pg.tables ee below (T9.setTop (mkF mm 23 #[.val (.ref a), .val (.ref ch), .val (.int (0 : Int32)), .val (.int (0 : Int32)), .val .null, .unset] [(.int (0 : Int32)), (.ref a)])) _
    refine st10 _ ?_
    show Steps pg.tables ee below (T10.setTop (mkF mm 26 #[.val (.ref a), .val (.ref ch), .val (.int (0 : Int32)), .val (.int (0 : Int32)), .val .null, .unset] [])) _
    exact X10.returnOut hx Bd.returns (hb hby d3_26) hr
  · show QrmV0 Z a ch h0 n0 _ T10.heap _
    rw [e10]
    exact ⟨rfl, N10, KK10, _, _, _, ((((E_a.ext E3).wr W5).ext E8).wr W10), Fw10, ((Fw5.ext E8).other W10 (Or.inr (slot_ne (Or.inr (hw _ (List.mem_of_getElem? (i := 20) rfl))) (Or.inr (hw _ (List.mem_of_getElem? (i := 21) rfl))) (by decide) (t := (.array .byte)) (t' := .byte) (by decide) (by decide)))), (((Va3.other W5 ((hne3 _ Sa).2.symm)).ext E8).other W10 ((hne3 _ Sa).2.symm))⟩
  · show CHr Z own_EL s.vm s.heap T10.vm T10.heap
    rw [hh, e10]
    exact CR10.trans (CHv.at X10 hZ hEL CR10.1)
theorem own_rebase {p : Program} {l : Launch} {e : Env} {R : Room} {s : State} {v0 v1 : Vm} {m : MethodId} {args : Array Value} {below : List Frame} {meth : Method} {c : Code} {T : State} {locs : List Loc} {cells slots : Nat} (X : Stand p l e R ((s.setVm v0).setVm v1) m args below meth c T locs cells slots) : Stand p l e R (s.setVm v1) m args below meth c T locs cells slots := X
def QrmC0 (Z : State) (a : Addr) (ch : Addr) (kc : ClassId) (h0 : Heap) (n0 : Nat) (v : Option Value) (h : Heap) (L : List Loc) : Prop := v = none ∧ Fr n0 L ∧ Keep h0 h [a] ∧ ∃ (b : Addr) (kb : ClassId) (vs : List Value), Exa Z h a "java/lang/String" ∧ Fld Z h a "java/lang/String" "coder" "B" (.int (0 : Int32)) ∧ Fld Z h a "java/lang/String" "value" "[B" (.ref b) ∧ Arv Z h b kb .byte (0 : Int32) vs (.int 0)
set_option maxRecDepth 65536 in
set_option maxHeartbeats 40000000 in
theorem rmC0 (l : Launch) (Z : State) (a0 : Array Value) (hw : ∀ d ∈ tables_1, d.before a0 Z = true) (ws : List Jvm.Cond) (a : Addr) (ch : Addr) (kc : ClassId) (h0 : Heap) (n0 : Nat) (O0 : Old Z n0 h0) (E_a : Exa Z h0 a "java/lang/String") (F_value_a : Fld Z h0 a "java/lang/String" "value" "[B" .null) (F_coder_a : Fld Z h0 a "java/lang/String" "coder" "B" (.int (0 : Int32))) (g_a : n0 ≤ a) (Vc : Arv Z h0 ch kc .char (0 : Int32) [] (.int (0 : Int32))) :
    MetFree l (⟨"java/lang/String", "<init>", "([C)V"⟩ : MethodName) (head1 (Jvm.Cond.code (⟨"java/lang/String", "<init>", "([C)V"⟩ : MethodName) jdk_42_method_3_code 2 none :: ws) ({ frames := 2, cells := 4, slots := 8, locals := 29 } : Room)) (fun a_ U_ => a_ = #[(.ref a), (.ref ch)] ∧ Z.Warmed39 U_.vm ∧ U_.heap = h0 ∧ CHv Z own_EL U_.vm h0) (fun _ _ _ _ _ => True) (fun _ U_ o_ U'_ => ∃ v_ L_, o_ = .returned v_ ∧ QrmC0 Z a ch kc h0 n0 v_ U'_.heap L_ ∧ CHr Z own_EL U_.vm U_.heap U'_.vm U'_.heap ∧ ReturnedEndW U_ o_ U'_ L_ ({ frames := 2, cells := 4, slots := 8, locals := 29 } : Room).cells ({ frames := 2, cells := 4, slots := 8, locals := 29 } : Room).slots) := by
  refine MetFree.of_bodySF (plainFor_of_name pn_6) hisR ?_
  intro pg ee s mm args below meth cc s₁ Bd hml0 hP hK
  obtain ⟨rfl, hZ, hh, HC0⟩ := hP
  have hx := Bd.exec
  have hby := Bd.bytes
  have hml : cc.maxLocals = 2 := hml0
  have hown : s.vm.findClass "java/lang/String" = some mm.cls := findClass_of_methodNamed Bd.named
  have hnm := (name_of_methodNamed Bd.named Bd.method).1
  have X0 : Stand pg l ee ({ frames := 2, cells := 4, slots := 8, locals := 29 } : Room) s mm #[(.ref a), (.ref ch)] below meth cc s₁ [] 0 0 := Stand.of_body Bd
  have e0 : s₁.heap = h0 := by rw [← hh, Bd.state]; rfl
  have N0 := Fr.nil n0
  have K0 : Keep h0 h0 ([a] : List Addr) := Keep.refl _ _
  have XW : Stand pg l ee ({ frames := 2, cells := 4, slots := 8, locals := 29 } : Room) (s.setVm s.vm) mm #[(.ref a), (.ref ch)] below meth cc s₁ [] 0 0 := X0
  have hS0 : s.Since s.vm 0 := (State.WarmedH.refl s).since 0
  have CR0 : CHr Z own_EL s.vm h0 s.vm h0 := CHr.refl HC0
  have hEL := own_hEL hw
  have pre0 : ∀ tg_, Steps pg.tables ee below (s₁.setTop (mkF mm 0 #[.val (.ref a), .val (.ref ch)] [])) tg_ → Steps pg.tables ee below (s₁.setTop (entryFrame mm #[(.ref a), (.ref ch)] 2)) tg_ := fun tg_ k_ => castTop (ef_2_265 mm a ch) k_
  obtain ⟨cl1, Ar1, qk1, Sz1, Nn1, Hh1, Gg1⟩ := id Vc
  have pre2 : ∀ tg_, Steps pg.tables ee below (s₁.setTop (mkF mm 6 #[.val (.ref a), .val (.ref ch)] [.null, (.int (0 : Int32)), (.int (0 : Int32)), (.ref ch), (.ref a)])) tg_ → Steps pg.tables ee below (s₁.setTop (entryFrame mm #[(.ref a), (.ref ch)] 2)) tg_ := fun tg_ k_ => pre0 tg_ (by
      show Steps pg.tables ee below (s₁.setTop (mkF mm 0 #[.val (.ref a), .val (.ref ch)] [])) _
      refine XS.aloadN XW.here hx rfl (hb hby d2_0) rfl rfl ?_
      show Steps pg.tables ee below (s₁.setTop (mkF mm 1 #[.val (.ref a), .val (.ref ch)] [(.ref a)])) _
      refine XS.aloadN XW.here hx rfl (hb hby d2_1) rfl rfl ?_
      show Steps pg.tables ee below (s₁.setTop (mkF mm 2 #[.val (.ref a), .val (.ref ch)] [(.ref ch), (.ref a)])) _
      refine XS.iconst XW.here hx rfl (hb hby d2_2) ?_
      show Steps pg.tables ee below (s₁.setTop (mkF mm 3 #[.val (.ref a), .val (.ref ch)] [(.int (0 : Int32)), (.ref ch), (.ref a)])) _
      refine XS.aloadN XW.here hx rfl (hb hby d2_3) rfl rfl ?_
      show Steps pg.tables ee below (s₁.setTop (mkF mm 4 #[.val (.ref a), .val (.ref ch)] [(.ref ch), (.int (0 : Int32)), (.ref ch), (.ref a)])) _
      refine XW.arraylength hx (by rw [e0]; exact Ar1.1) (State.isArrayOf_alike hZ.alike Ar1.2.1) (g := (mkF mm 4 #[.val (.ref a), .val (.ref ch)] [(.ref ch), (.int (0 : Int32)), (.ref ch), (.ref a)])) rfl rfl (hb hby d2_4) _ ?_
      rw [len_of Sz1 Nn1]
      show Steps pg.tables ee below (s₁.setTop (mkF mm 5 #[.val (.ref a), .val (.ref ch)] [(.int (0 : Int32)), (.int (0 : Int32)), (.ref ch), (.ref a)])) _
      refine XS.aconstNull XW.here hx rfl (hb hby d2_5) ?_
      show Steps pg.tables ee below (s₁.setTop (mkF mm 6 #[.val (.ref a), .val (.ref ch)] [.null, (.int (0 : Int32)), (.int (0 : Int32)), (.ref ch), (.ref a)])) _
      exact k_)
  obtain ⟨_, _, ⟨T3, L3, k3, n3⟩, -, X3, hs3, hgr3, ⟨Lc3, hQ3, l3, y3, z3, CQ3⟩, st3⟩ := XW.specialBackS hx (y := (⟨"java/lang/String", "<init>", "([CIILjava/lang/Void;)V"⟩ : MethodName)) rfl hown (mvT hZ (hw _ (List.mem_of_getElem? (i := 11) rfl))) (mvT hZ (hw _ (List.mem_of_getElem? (i := 12) rfl))) (mvT hZ (hw _ (List.mem_of_getElem? (i := 14) rfl))) (by decide) (backOfSH (W := 0) (rmV0 l Z a0 hw [] a ch h0 n0 O0 E_a F_value_a F_coder_a g_a) hZ (hw _ (List.mem_of_getElem? (i := 14) rfl)) (hw _ (List.mem_of_getElem? (i := 6) rfl)) (by decide) (by decide) hEL CR0.1) (g := (mkF mm 6 #[.val (.ref a), .val (.ref ch)] [.null, (.int (0 : Int32)), (.int (0 : Int32)), (.ref ch), (.ref a)])) rfl (by rw [hml]; rfl) (Steps.refl _) (a := a) (argsL := [(.ref ch), (.int (0 : Int32)), (.int (0 : Int32)), .null]) (rest := []) (lenOf pd_263 rfl) rfl (by show 2 * 0 + _ ≤ _; exact Nat.le_of_eq rfl) (hb hby d2_6) (fun _ _ => ⟨rfl, e0, (by decide : 0 + 4 ≤ _), (by decide : 0 + 8 ≤ _)⟩)
  dsimp only [Pt.U, Pt.locs, Pt.cells, Pt.slots] at X3 l3 y3 z3 st3 hQ3 hs3 hgr3 CQ3
  subst l3 y3 z3
  replace X3 := own_rebase (s := s) X3
  obtain ⟨rfl, N3q, K3, sb3, kb3, vs3, Ex3, Fc3, Fv3, Va3⟩ := hQ3
  have hS3 : s.Since T3.vm T3.heap.size := State.Since.trans hS0 hs3 (Nat.le_trans (by rw [e0]; exact (Nat.zero_le _)) hgr3)
  have hown : (s.setVm T3.vm).vm.findClass "java/lang/String" = some mm.cls := by rw [show (s.setVm T3.vm).vm = T3.vm from rfl, hs3.1.alike.findClass]; exact hown
  have hZ : Z.Warmed39 (s.setVm T3.vm).vm := State.Warmed39.trans hZ hs3.1
  have CR3 := CR0.trans CQ3
  have O3 := O0.keep K3 (allS g_a all0)
  have KK3 := K0.trans K3 (allS (Or.inl (by simp)) all0)
  have N3 := Fr.app N0 N3q
  obtain ⟨fs, hr, hrun, hended, hRW⟩ := X3.leaveW hS3 (Nat.le_refl _) (v := none) (fun _ => rfl)
  refine ⟨_, _, pre2 _ ?_, hrun, hended, _, _, rfl, ?_, ?_, (own_rmono hRW (by decide) (by decide))⟩
  · refine st3.trans ?_
    show Steps pg.tables ee below (T3.setTop (mkF mm 9 #[.val (.ref a), .val (.ref ch)] [])) _
    exact X3.returnOut hx Bd.returns (hb hby d2_9) hr
  · show QrmC0 Z a ch kc h0 n0 _ T3.heap _
    exact ⟨rfl, N3, KK3, _, _, _, Ex3, Fc3, Fv3, Va3⟩
  · show CHr Z own_EL s.vm s.heap T3.vm T3.heap
    rw [hh]
    exact CR3.trans (CHv.at X3 hZ hEL CR3.1)
theorem d1_32 : decode method_3_code 32 = .ok (.new 24, 3) := by decide +kernel
theorem d1_35 : decode method_3_code 35 = .ok (.dup, 1) := by decide +kernel
theorem d1_36 : decode method_3_code 36 = .ok (.iconst 0, 1) := by decide +kernel
theorem d1_37 : decode method_3_code 37 = .ok (.newarray .char, 2) := by decide +kernel
theorem d1_39 : decode method_3_code 39 = .ok (.invokespecial 51, 3) := by decide +kernel
theorem d1_42 : decode method_3_code 42 = .ok (.areturn, 1) := by decide +kernel
set_option maxRecDepth 65536 in
set_option maxHeartbeats 40000000 in
theorem rmD0 (l : Launch) (Z : State) (a0 : Array Value) (hw : ∀ d ∈ tables_1, d.before a0 Z = true) (ws : List Jvm.Cond) (bits : Int32) (h0 : Heap) (n0 : Nat) (O0 : Old Z n0 h0)  :
    MetFree l (⟨"com/example/orders_into_outcomes/ordersintooutcomes/model/TextLimitOptionalPinLaw", "draw", "(II)Ljava/lang/String;"⟩ : MethodName) (head1 (Jvm.Cond.code (⟨"com/example/orders_into_outcomes/ordersintooutcomes/model/TextLimitOptionalPinLaw", "draw", "(II)Ljava/lang/String;"⟩ : MethodName) method_3_code 5 (some (.object "java/lang/String")) :: ws) ({ frames := 4, cells := 6, slots := 12, locals := 66 } : Room)) (fun a_ U_ => a_ = #[(.int (0 : Int32)), (.int bits)] ∧ Z.Warmed39 U_.vm ∧ U_.heap = h0 ∧ CHv Z own_EL U_.vm h0) (fun _ _ _ _ _ => True) (fun _ U_ o_ U'_ => ∃ v_ L_, o_ = .returned v_ ∧ QD Z (0 : Int32) h0 n0 v_ U'_.heap L_ ∧ CHr Z own_EL U_.vm U_.heap U'_.vm U'_.heap ∧ ReturnedEndW U_ o_ U'_ L_ ({ frames := 4, cells := 6, slots := 12, locals := 66 } : Room).cells ({ frames := 4, cells := 6, slots := 12, locals := 66 } : Room).slots) := by
  refine MetFree.of_bodySF (plainFor_of_name pn_77) hisR ?_
  intro pg ee s mm args below meth cc s₁ Bd hml0 hP hK
  obtain ⟨rfl, hZ, hh, HC0⟩ := hP
  have hx := Bd.exec
  have hby := Bd.bytes
  have hml : cc.maxLocals = 5 := hml0
  have hown : s.vm.findClass "com/example/orders_into_outcomes/ordersintooutcomes/model/TextLimitOptionalPinLaw" = some mm.cls := findClass_of_methodNamed Bd.named
  have hnm := (name_of_methodNamed Bd.named Bd.method).1
  have X0 : Stand pg l ee ({ frames := 4, cells := 6, slots := 12, locals := 66 } : Room) s mm #[(.int (0 : Int32)), (.int bits)] below meth cc s₁ [] 0 0 := Stand.of_body Bd
  have e0 : s₁.heap = h0 := by rw [← hh, Bd.state]; rfl
  have N0 := Fr.nil n0
  have K0 : Keep h0 h0 ([] : List Addr) := Keep.refl _ _
  have XW : Stand pg l ee ({ frames := 4, cells := 6, slots := 12, locals := 66 } : Room) (s.setVm s.vm) mm #[(.int (0 : Int32)), (.int bits)] below meth cc s₁ [] 0 0 := X0
  have hS0 : s.Since s.vm 0 := (State.WarmedH.refl s).since 0
  have CR0 : CHr Z own_EL s.vm h0 s.vm h0 := CHr.refl HC0
  have hEL := own_hEL hw
  have pre0 : ∀ tg_, Steps pg.tables ee below (s₁.setTop (mkF mm 0 #[.val (.int (0 : Int32)), .val (.int bits), .unset, .unset, .unset] [])) tg_ → Steps pg.tables ee below (s₁.setTop (entryFrame mm #[(.int (0 : Int32)), (.int bits)] 5)) tg_ := fun tg_ k_ => castTop (ef_1_301 mm (0 : Int32) bits) k_
  obtain ⟨T1, h1, X1, e1, E1, A1, D1, -, st1⟩ := newO XW hx hZ hown (hw _ (List.mem_of_getElem? (i := 4) rfl)) (hw _ (List.mem_of_getElem? (i := 5) rfl)) (hw _ (List.mem_of_getElem? (i := 6) rfl)) e0 (g := (mkF mm 32 #[.val (.int (0 : Int32)), .val (.int bits), .val (.int ((bits &&& (255 : Int32)).toUInt32.toUInt16.toUInt32.toInt32)), .val (.int ((((bits.toUInt32 >>> ((8 : Int32) &&& 31).toUInt32).toInt32) &&& (255 : Int32)).toUInt32.toUInt16.toUInt32.toInt32)), .val (.int ((((bits.toUInt32 >>> ((16 : Int32) &&& 31).toUInt32).toInt32) &&& (255 : Int32)).toUInt32.toUInt16.toUInt32.toInt32))] [])) rfl (hb hby d1_32) (by decide) (by decide)
  obtain ⟨b1, g1⟩ : ∃ z, z = h0.size := ⟨_, rfl⟩
  rw [← g1] at A1 D1 st1
  have g_b1 : n0 ≤ b1 := Nat.le_trans (O0.1 ▸ O0.2.1) (Nat.le_of_eq g1.symm)
  have sz_b1 : h0.size ≤ b1 := Nat.le_trans K0.1 (Nat.le_of_eq g1.symm)
  have O1 := O0.ext E1
  have KK1 := K0.ext E1
  have hk1 := Nat.le_trans (Nat.zero_le _) E1.1
  have CR1 := CR0.trans (CHr.ext E1 CR0.1)
  have F_value_b1 : Fld Z h1 b1 "java/lang/String" "value" "[B" .null := D1 (Or.inr (hw _ (List.mem_of_getElem? (i := 20) rfl))) (ty := (.array .byte)) (by decide)
  have F_coder_b1 : Fld Z h1 b1 "java/lang/String" "coder" "B" (.int (0 : Int32)) := D1 (Or.inr (hw _ (List.mem_of_getElem? (i := 21) rfl))) (ty := .byte) (by decide)
  obtain ⟨T2, h2, k2, X2, e2, E2, A2, st2⟩ := newP X1 hx hZ (hw _ (List.mem_of_getElem? (i := 7) rfl)) e1 (g := (mkF mm 37 #[.val (.int (0 : Int32)), .val (.int bits), .val (.int ((bits &&& (255 : Int32)).toUInt32.toUInt16.toUInt32.toInt32)), .val (.int ((((bits.toUInt32 >>> ((8 : Int32) &&& 31).toUInt32).toInt32) &&& (255 : Int32)).toUInt32.toUInt16.toUInt32.toInt32)), .val (.int ((((bits.toUInt32 >>> ((16 : Int32) &&& 31).toUInt32).toInt32) &&& (255 : Int32)).toUInt32.toUInt16.toUInt32.toInt32))] [(.int (0 : Int32)), (.ref b1), (.ref b1)])) rfl (hb hby d1_37) rfl (by decide) (cap := 0) (by decide) (by decide) (by decide) (by decide)
  obtain ⟨b2, g2⟩ : ∃ z, z = h1.size := ⟨_, rfl⟩
  rw [← g2] at A2 st2
  have g_b2 : n0 ≤ b2 := Nat.le_trans (O1.1 ▸ O1.2.1) (Nat.le_of_eq g2.symm)
  have sz_b2 : h0.size ≤ b2 := Nat.le_trans KK1.1 (Nat.le_of_eq g2.symm)
  have O2 := O1.ext E2
  have KK2 := KK1.ext E2
  have hk2 := Nat.le_trans hk1 E2.1
  have CR2 := CR1.trans (CHr.ext E2 CR1.1)
  have V2 : Arv Z h2 b2 k2 .char (0 : Int32) [] (.int (0 : Int32)) := Arv.new A2 (by decide)
  obtain ⟨LL3, XL3, NL3⟩ := own_loose X2 N0
  have pre4 : ∀ tg_, Steps pg.tables ee below (T2.setTop (mkF mm 39 #[.val (.int (0 : Int32)), .val (.int bits), .val (.int ((bits &&& (255 : Int32)).toUInt32.toUInt16.toUInt32.toInt32)), .val (.int ((((bits.toUInt32 >>> ((8 : Int32) &&& 31).toUInt32).toInt32) &&& (255 : Int32)).toUInt32.toUInt16.toUInt32.toInt32)), .val (.int ((((bits.toUInt32 >>> ((16 : Int32) &&& 31).toUInt32).toInt32) &&& (255 : Int32)).toUInt32.toUInt16.toUInt32.toInt32))] [(.ref b2), (.ref b1), (.ref b1)])) tg_ → Steps pg.tables ee below (s₁.setTop (entryFrame mm #[(.int (0 : Int32)), (.int bits)] 5)) tg_ := fun tg_ k_ => pre0 tg_ (by
      show Steps pg.tables ee below (s₁.setTop (mkF mm 0 #[.val (.int (0 : Int32)), .val (.int bits), .unset, .unset, .unset] [])) _
      refine XS.iloadN XW.here hx rfl (hb hby d1_0) rfl ?_
      show Steps pg.tables ee below (s₁.setTop (mkF mm 1 #[.val (.int (0 : Int32)), .val (.int bits), .unset, .unset, .unset] [(.int bits)])) _
      refine XS.sipush XW.here hx rfl (hb hby d1_1) ?_
      show Steps pg.tables ee below (s₁.setTop (mkF mm 4 #[.val (.int (0 : Int32)), .val (.int bits), .unset, .unset, .unset] [(.int (255 : Int32)), (.int bits)])) _
      refine XS.iand XW.here hx rfl (hb hby d1_4) rfl ?_
      show Steps pg.tables ee below (s₁.setTop (mkF mm 5 #[.val (.int (0 : Int32)), .val (.int bits), .unset, .unset, .unset] [(.int (bits &&& (255 : Int32)))])) _
      refine XS.i2c XW.here hx rfl (hb hby d1_5) rfl ?_
      show Steps pg.tables ee below (s₁.setTop (mkF mm 6 #[.val (.int (0 : Int32)), .val (.int bits), .unset, .unset, .unset] [(.int ((bits &&& (255 : Int32)).toUInt32.toUInt16.toUInt32.toInt32))])) _
      refine XS.istoreN XW.here hx rfl (hb hby d1_6) rfl (l' := #[.val (.int (0 : Int32)), .val (.int bits), .val (.int ((bits &&& (255 : Int32)).toUInt32.toUInt16.toUInt32.toInt32)), .unset, .unset]) rfl ?_
      show Steps pg.tables ee below (s₁.setTop (mkF mm 7 #[.val (.int (0 : Int32)), .val (.int bits), .val (.int ((bits &&& (255 : Int32)).toUInt32.toUInt16.toUInt32.toInt32)), .unset, .unset] [])) _
      refine XS.iloadN XW.here hx rfl (hb hby d1_7) rfl ?_
      show Steps pg.tables ee below (s₁.setTop (mkF mm 8 #[.val (.int (0 : Int32)), .val (.int bits), .val (.int ((bits &&& (255 : Int32)).toUInt32.toUInt16.toUInt32.toInt32)), .unset, .unset] [(.int bits)])) _
      refine XS.bipush XW.here hx rfl (hb hby d1_8) ?_
      show Steps pg.tables ee below (s₁.setTop (mkF mm 10 #[.val (.int (0 : Int32)), .val (.int bits), .val (.int ((bits &&& (255 : Int32)).toUInt32.toUInt16.toUInt32.toInt32)), .unset, .unset] [(.int (8 : Int32)), (.int bits)])) _
      refine XS.iushr XW.here hx rfl (hb hby d1_10) rfl ?_
      show Steps pg.tables ee below (s₁.setTop (mkF mm 11 #[.val (.int (0 : Int32)), .val (.int bits), .val (.int ((bits &&& (255 : Int32)).toUInt32.toUInt16.toUInt32.toInt32)), .unset, .unset] [(.int ((bits.toUInt32 >>> ((8 : Int32) &&& 31).toUInt32).toInt32))])) _
      refine XS.sipush XW.here hx rfl (hb hby d1_11) ?_
      show Steps pg.tables ee below (s₁.setTop (mkF mm 14 #[.val (.int (0 : Int32)), .val (.int bits), .val (.int ((bits &&& (255 : Int32)).toUInt32.toUInt16.toUInt32.toInt32)), .unset, .unset] [(.int (255 : Int32)), (.int ((bits.toUInt32 >>> ((8 : Int32) &&& 31).toUInt32).toInt32))])) _
      refine XS.iand XW.here hx rfl (hb hby d1_14) rfl ?_
      show Steps pg.tables ee below (s₁.setTop (mkF mm 15 #[.val (.int (0 : Int32)), .val (.int bits), .val (.int ((bits &&& (255 : Int32)).toUInt32.toUInt16.toUInt32.toInt32)), .unset, .unset] [(.int (((bits.toUInt32 >>> ((8 : Int32) &&& 31).toUInt32).toInt32) &&& (255 : Int32)))])) _
      refine XS.i2c XW.here hx rfl (hb hby d1_15) rfl ?_
      show Steps pg.tables ee below (s₁.setTop (mkF mm 16 #[.val (.int (0 : Int32)), .val (.int bits), .val (.int ((bits &&& (255 : Int32)).toUInt32.toUInt16.toUInt32.toInt32)), .unset, .unset] [(.int ((((bits.toUInt32 >>> ((8 : Int32) &&& 31).toUInt32).toInt32) &&& (255 : Int32)).toUInt32.toUInt16.toUInt32.toInt32))])) _
      refine XS.istoreN XW.here hx rfl (hb hby d1_16) rfl (l' := #[.val (.int (0 : Int32)), .val (.int bits), .val (.int ((bits &&& (255 : Int32)).toUInt32.toUInt16.toUInt32.toInt32)), .val (.int ((((bits.toUInt32 >>> ((8 : Int32) &&& 31).toUInt32).toInt32) &&& (255 : Int32)).toUInt32.toUInt16.toUInt32.toInt32)), .unset]) rfl ?_
      show Steps pg.tables ee below (s₁.setTop (mkF mm 17 #[.val (.int (0 : Int32)), .val (.int bits), .val (.int ((bits &&& (255 : Int32)).toUInt32.toUInt16.toUInt32.toInt32)), .val (.int ((((bits.toUInt32 >>> ((8 : Int32) &&& 31).toUInt32).toInt32) &&& (255 : Int32)).toUInt32.toUInt16.toUInt32.toInt32)), .unset] [])) _
      refine XS.iloadN XW.here hx rfl (hb hby d1_17) rfl ?_
      show Steps pg.tables ee below (s₁.setTop (mkF mm 18 #[.val (.int (0 : Int32)), .val (.int bits), .val (.int ((bits &&& (255 : Int32)).toUInt32.toUInt16.toUInt32.toInt32)), .val (.int ((((bits.toUInt32 >>> ((8 : Int32) &&& 31).toUInt32).toInt32) &&& (255 : Int32)).toUInt32.toUInt16.toUInt32.toInt32)), .unset] [(.int bits)])) _
      refine XS.bipush XW.here hx rfl (hb hby d1_18) ?_
      show Steps pg.tables ee below (s₁.setTop (mkF mm 20 #[.val (.int (0 : Int32)), .val (.int bits), .val (.int ((bits &&& (255 : Int32)).toUInt32.toUInt16.toUInt32.toInt32)), .val (.int ((((bits.toUInt32 >>> ((8 : Int32) &&& 31).toUInt32).toInt32) &&& (255 : Int32)).toUInt32.toUInt16.toUInt32.toInt32)), .unset] [(.int (16 : Int32)), (.int bits)])) _
      refine XS.iushr XW.here hx rfl (hb hby d1_20) rfl ?_
      show Steps pg.tables ee below (s₁.setTop (mkF mm 21 #[.val (.int (0 : Int32)), .val (.int bits), .val (.int ((bits &&& (255 : Int32)).toUInt32.toUInt16.toUInt32.toInt32)), .val (.int ((((bits.toUInt32 >>> ((8 : Int32) &&& 31).toUInt32).toInt32) &&& (255 : Int32)).toUInt32.toUInt16.toUInt32.toInt32)), .unset] [(.int ((bits.toUInt32 >>> ((16 : Int32) &&& 31).toUInt32).toInt32))])) _
      refine XS.sipush XW.here hx rfl (hb hby d1_21) ?_
      show Steps pg.tables ee below (s₁.setTop (mkF mm 24 #[.val (.int (0 : Int32)), .val (.int bits), .val (.int ((bits &&& (255 : Int32)).toUInt32.toUInt16.toUInt32.toInt32)), .val (.int ((((bits.toUInt32 >>> ((8 : Int32) &&& 31).toUInt32).toInt32) &&& (255 : Int32)).toUInt32.toUInt16.toUInt32.toInt32)), .unset] [(.int (255 : Int32)), (.int ((bits.toUInt32 >>> ((16 : Int32) &&& 31).toUInt32).toInt32))])) _
      refine XS.iand XW.here hx rfl (hb hby d1_24) rfl ?_
      show Steps pg.tables ee below (s₁.setTop (mkF mm 25 #[.val (.int (0 : Int32)), .val (.int bits), .val (.int ((bits &&& (255 : Int32)).toUInt32.toUInt16.toUInt32.toInt32)), .val (.int ((((bits.toUInt32 >>> ((8 : Int32) &&& 31).toUInt32).toInt32) &&& (255 : Int32)).toUInt32.toUInt16.toUInt32.toInt32)), .unset] [(.int (((bits.toUInt32 >>> ((16 : Int32) &&& 31).toUInt32).toInt32) &&& (255 : Int32)))])) _
      refine XS.i2c XW.here hx rfl (hb hby d1_25) rfl ?_
      show Steps pg.tables ee below (s₁.setTop (mkF mm 26 #[.val (.int (0 : Int32)), .val (.int bits), .val (.int ((bits &&& (255 : Int32)).toUInt32.toUInt16.toUInt32.toInt32)), .val (.int ((((bits.toUInt32 >>> ((8 : Int32) &&& 31).toUInt32).toInt32) &&& (255 : Int32)).toUInt32.toUInt16.toUInt32.toInt32)), .unset] [(.int ((((bits.toUInt32 >>> ((16 : Int32) &&& 31).toUInt32).toInt32) &&& (255 : Int32)).toUInt32.toUInt16.toUInt32.toInt32))])) _
      refine XS.istore XW.here hx rfl (hb hby d1_26) rfl (l' := #[.val (.int (0 : Int32)), .val (.int bits), .val (.int ((bits &&& (255 : Int32)).toUInt32.toUInt16.toUInt32.toInt32)), .val (.int ((((bits.toUInt32 >>> ((8 : Int32) &&& 31).toUInt32).toInt32) &&& (255 : Int32)).toUInt32.toUInt16.toUInt32.toInt32)), .val (.int ((((bits.toUInt32 >>> ((16 : Int32) &&& 31).toUInt32).toInt32) &&& (255 : Int32)).toUInt32.toUInt16.toUInt32.toInt32))]) rfl ?_
      show Steps pg.tables ee below (s₁.setTop (mkF mm 28 #[.val (.int (0 : Int32)), .val (.int bits), .val (.int ((bits &&& (255 : Int32)).toUInt32.toUInt16.toUInt32.toInt32)), .val (.int ((((bits.toUInt32 >>> ((8 : Int32) &&& 31).toUInt32).toInt32) &&& (255 : Int32)).toUInt32.toUInt16.toUInt32.toInt32)), .val (.int ((((bits.toUInt32 >>> ((16 : Int32) &&& 31).toUInt32).toInt32) &&& (255 : Int32)).toUInt32.toUInt16.toUInt32.toInt32))] [])) _
      refine XS.iloadN XW.here hx rfl (hb hby d1_28) rfl ?_
      show Steps pg.tables ee below (s₁.setTop (mkF mm 29 #[.val (.int (0 : Int32)), .val (.int bits), .val (.int ((bits &&& (255 : Int32)).toUInt32.toUInt16.toUInt32.toInt32)), .val (.int ((((bits.toUInt32 >>> ((8 : Int32) &&& 31).toUInt32).toInt32) &&& (255 : Int32)).toUInt32.toUInt16.toUInt32.toInt32)), .val (.int ((((bits.toUInt32 >>> ((16 : Int32) &&& 31).toUInt32).toInt32) &&& (255 : Int32)).toUInt32.toUInt16.toUInt32.toInt32))] [(.int (0 : Int32))])) _
      refine XS.ifNo XW.here hx rfl (hb hby d1_29) rfl ((if0 _ _).trans (teq (by decide : (0 : Int32) = (0 : Int32))).2) ?_
      show Steps pg.tables ee below (s₁.setTop (mkF mm 32 #[.val (.int (0 : Int32)), .val (.int bits), .val (.int ((bits &&& (255 : Int32)).toUInt32.toUInt16.toUInt32.toInt32)), .val (.int ((((bits.toUInt32 >>> ((8 : Int32) &&& 31).toUInt32).toInt32) &&& (255 : Int32)).toUInt32.toUInt16.toUInt32.toInt32)), .val (.int ((((bits.toUInt32 >>> ((16 : Int32) &&& 31).toUInt32).toInt32) &&& (255 : Int32)).toUInt32.toUInt16.toUInt32.toInt32))] [])) _
      refine st1 _ ?_
      show Steps pg.tables ee below (T1.setTop (mkF mm 35 #[.val (.int (0 : Int32)), .val (.int bits), .val (.int ((bits &&& (255 : Int32)).toUInt32.toUInt16.toUInt32.toInt32)), .val (.int ((((bits.toUInt32 >>> ((8 : Int32) &&& 31).toUInt32).toInt32) &&& (255 : Int32)).toUInt32.toUInt16.toUInt32.toInt32)), .val (.int ((((bits.toUInt32 >>> ((16 : Int32) &&& 31).toUInt32).toInt32) &&& (255 : Int32)).toUInt32.toUInt16.toUInt32.toInt32))] [(.ref b1)])) _
      refine XS.dup X1.here hx rfl (hb hby d1_35) rfl rfl ?_
      show Steps pg.tables ee below (T1.setTop (mkF mm 36 #[.val (.int (0 : Int32)), .val (.int bits), .val (.int ((bits &&& (255 : Int32)).toUInt32.toUInt16.toUInt32.toInt32)), .val (.int ((((bits.toUInt32 >>> ((8 : Int32) &&& 31).toUInt32).toInt32) &&& (255 : Int32)).toUInt32.toUInt16.toUInt32.toInt32)), .val (.int ((((bits.toUInt32 >>> ((16 : Int32) &&& 31).toUInt32).toInt32) &&& (255 : Int32)).toUInt32.toUInt16.toUInt32.toInt32))] [(.ref b1), (.ref b1)])) _
      refine XS.iconst X1.here hx rfl (hb hby d1_36) ?_
      show Steps pg.tables ee below (T1.setTop (mkF mm 37 #[.val (.int (0 : Int32)), .val (.int bits), .val (.int ((bits &&& (255 : Int32)).toUInt32.toUInt16.toUInt32.toInt32)), .val (.int ((((bits.toUInt32 >>> ((8 : Int32) &&& 31).toUInt32).toInt32) &&& (255 : Int32)).toUInt32.toUInt16.toUInt32.toInt32)), .val (.int ((((bits.toUInt32 >>> ((16 : Int32) &&& 31).toUInt32).toInt32) &&& (255 : Int32)).toUInt32.toUInt16.toUInt32.toInt32))] [(.int (0 : Int32)), (.ref b1), (.ref b1)])) _
      refine st2 _ ?_
      show Steps pg.tables ee below (T2.setTop (mkF mm 39 #[.val (.int (0 : Int32)), .val (.int bits), .val (.int ((bits &&& (255 : Int32)).toUInt32.toUInt16.toUInt32.toInt32)), .val (.int ((((bits.toUInt32 >>> ((8 : Int32) &&& 31).toUInt32).toInt32) &&& (255 : Int32)).toUInt32.toUInt16.toUInt32.toInt32)), .val (.int ((((bits.toUInt32 >>> ((16 : Int32) &&& 31).toUInt32).toInt32) &&& (255 : Int32)).toUInt32.toUInt16.toUInt32.toInt32))] [(.ref b2), (.ref b1), (.ref b1)])) _
      exact k_)
  obtain ⟨_, _, ⟨T5, L5, k5, n5⟩, -, X5, hs5, hgr5, ⟨Lc5, hQ5, l5, y5, z5, CQ5⟩, st5⟩ := XL3.specialBackS hx (y := (⟨"java/lang/String", "<init>", "([C)V"⟩ : MethodName)) rfl hown (mvT hZ (hw _ (List.mem_of_getElem? (i := 8) rfl))) (mvT hZ (hw _ (List.mem_of_getElem? (i := 9) rfl))) (mvT hZ (hw _ (List.mem_of_getElem? (i := 10) rfl))) (by decide) (backOfSH (W := 1) (rmC0 l Z a0 hw [] b1 b2 k2 h2 n0 O2 (A1.ext E2) (F_value_b1.ext E2) (F_coder_b1.ext E2) g_b1 V2) hZ (hw _ (List.mem_of_getElem? (i := 10) rfl)) (hw _ (List.mem_of_getElem? (i := 6) rfl)) (by decide) (by decide) hEL CR2.1) (g := (mkF mm 39 #[.val (.int (0 : Int32)), .val (.int bits), .val (.int ((bits &&& (255 : Int32)).toUInt32.toUInt16.toUInt32.toInt32)), .val (.int ((((bits.toUInt32 >>> ((8 : Int32) &&& 31).toUInt32).toInt32) &&& (255 : Int32)).toUInt32.toUInt16.toUInt32.toInt32)), .val (.int ((((bits.toUInt32 >>> ((16 : Int32) &&& 31).toUInt32).toInt32) &&& (255 : Int32)).toUInt32.toUInt16.toUInt32.toInt32))] [(.ref b2), (.ref b1), (.ref b1)])) rfl (by rw [hml]; rfl) (Steps.refl _) (a := b1) (argsL := [(.ref b2)]) (rest := [(.ref b1)]) (lenOf pd_299 rfl) rfl (by show 2 * 0 + _ ≤ _; exact Nat.le_of_eq rfl) (hb hby d1_39) (fun _ _ => ⟨rfl, e2, (by decide : 2 + 4 ≤ _), (by decide : 4 + 8 ≤ _)⟩)
  dsimp only [Pt.U, Pt.locs, Pt.cells, Pt.slots] at X5 l5 y5 z5 st5 hQ5 hs5 hgr5 CQ5
  subst l5 y5 z5
  replace X5 := own_rebase (s := s) X5
  obtain ⟨rfl, N5q, K5, sb5, kb5, vs5, Ex5, Fc5, Fv5, Va5⟩ := hQ5
  have hS5 : s.Since T5.vm T5.heap.size := State.Since.trans hS0 hs5 (Nat.le_trans (by rw [e2]; exact hk2) hgr5)
  have hown : (s.setVm T5.vm).vm.findClass "com/example/orders_into_outcomes/ordersintooutcomes/model/TextLimitOptionalPinLaw" = some mm.cls := by rw [show (s.setVm T5.vm).vm = T5.vm from rfl, hs5.1.alike.findClass]; exact hown
  have hZ : Z.Warmed39 (s.setVm T5.vm).vm := State.Warmed39.trans hZ hs5.1
  have CR5 := CR2.trans CQ5
  have O5 := O2.keep K5 (allS g_b1 all0)
  have KK5 := KK2.trans K5 (allS (Or.inr sz_b1) all0)
  have N5 := Fr.app NL3 N5q
  obtain ⟨fs, hr, hrun, hended, hRW⟩ := X5.leaveW hS5 (Nat.le_refl _) (v := some (.ref b1)) (fun h => by rw [Bd.returns] at h; cases h)
  refine ⟨_, _, pre4 _ ?_, hrun, hended, _, _, rfl, ?_, ?_, (own_rmono hRW (by decide) (by decide))⟩
  · refine st5.trans ?_
    show Steps pg.tables ee below (T5.setTop (mkF mm 42 #[.val (.int (0 : Int32)), .val (.int bits), .val (.int ((bits &&& (255 : Int32)).toUInt32.toUInt16.toUInt32.toInt32)), .val (.int ((((bits.toUInt32 >>> ((8 : Int32) &&& 31).toUInt32).toInt32) &&& (255 : Int32)).toUInt32.toUInt16.toUInt32.toInt32)), .val (.int ((((bits.toUInt32 >>> ((16 : Int32) &&& 31).toUInt32).toInt32) &&& (255 : Int32)).toUInt32.toUInt16.toUInt32.toInt32))] [(.ref b1)])) _
    exact retOut X5 hx Bd.returns rfl (Or.inr (Or.inr (Or.inr (Or.inr ⟨rfl, rfl, rfl⟩)))) (hb hby d1_42) hr
  · show QD Z (0 : Int32) h0 n0 _ T5.heap _
    exact ⟨_, _, _, _, rfl, N5, KK5, Ex5, Fc5, Fv5, Va5⟩
  · show CHr Z own_EL s.vm s.heap T5.vm T5.heap
    rw [hh]
    exact CR5.trans (CHv.at X5 hZ hEL CR5.1)
set_option maxRecDepth 65536 in
theorem rmDraw (l : Launch) (Z : State) (a0 : Array Value) (hw : ∀ d ∈ tables_1, d.before a0 Z = true) (ws : List Jvm.Cond) (p : Int32) (bits : Int32) (cs : Int32) (h0 : Heap) (n0 : Nat) (O0 : Old Z n0 h0) (hp : p = (0 : Int32) ∨ p = (1 : Int32) ∨ p = (2 : Int32) ∨ p = (3 : Int32)) (S_CS : Sta Z Z.heap "java/lang/String" "COMPACT_STRINGS" "Z" (.int cs)) (hcs : ¬ (cs = (0 : Int32))) :
    MetFree l (⟨"com/example/orders_into_outcomes/ordersintooutcomes/model/TextLimitOptionalPinLaw", "draw", "(II)Ljava/lang/String;"⟩ : MethodName) (head1 (Jvm.Cond.code (⟨"com/example/orders_into_outcomes/ordersintooutcomes/model/TextLimitOptionalPinLaw", "draw", "(II)Ljava/lang/String;"⟩ : MethodName) method_3_code 5 (some (.object "java/lang/String")) :: ws) ({ frames := 4, cells := 6, slots := 12, locals := 66 } : Room)) (fun a_ U_ => a_ = #[(.int p), (.int bits)] ∧ Z.Warmed39 U_.vm ∧ U_.heap = h0 ∧ CHv Z own_EL U_.vm h0) (fun _ _ _ _ _ => True) (fun _ U_ o_ U'_ => ∃ v_ L_, o_ = .returned v_ ∧ QD Z p h0 n0 v_ U'_.heap L_ ∧ CHr Z own_EL U_.vm U_.heap U'_.vm U'_.heap ∧ ReturnedEndW U_ o_ U'_ L_ ({ frames := 4, cells := 6, slots := 12, locals := 66 } : Room).cells ({ frames := 4, cells := 6, slots := 12, locals := 66 } : Room).slots) := by
  rcases hp with rfl | rfl | rfl | rfl
  · exact rmD0 l Z a0 hw ws bits h0 n0 O0
  · exact own_widen (own_hEL hw) (fun v h' L q => by obtain ⟨b, d, kd, vs, -, -, K, -⟩ := q; exact K) (rmD1 l Z a0 hw ws bits cs h0 n0 O0 S_CS hcs)
  · exact own_widen (own_hEL hw) (fun v h' L q => by obtain ⟨b, d, kd, vs, -, -, K, -⟩ := q; exact K) (rmD2 l Z a0 hw ws bits cs h0 n0 O0 S_CS hcs)
  · exact own_widen (own_hEL hw) (fun v h' L q => by obtain ⟨b, d, kd, vs, -, -, K, -⟩ := q; exact K) (rmD3 l Z a0 hw ws bits cs h0 n0 O0 S_CS hcs)
theorem pd_355 : parseMethodDescriptor "(II)Ljava/lang/String;" = some ⟨[.int, .int], some (.object "java/lang/String")⟩ := by decide +kernel
theorem pd_356 : parseMethodDescriptor "(Ljava/lang/String;IILjava/lang/String;)Lcom/example/orders_into_outcomes/ordersintooutcomes/model/TextLimit;" = some ⟨[(.object "java/lang/String"), .int, .int, (.object "java/lang/String")], some (.object "com/example/orders_into_outcomes/ordersintooutcomes/model/TextLimit")⟩ := by decide +kernel
theorem pd_357 : parseMethodDescriptor "()Ljava/lang/String;" = some ⟨[], some (.object "java/lang/String")⟩ := by decide +kernel
theorem pd_358 : parseMethodDescriptor "(Ljava/lang/String;Ljava/lang/String;)Z" = some ⟨[(.object "java/lang/String"), (.object "java/lang/String")], some .boolean⟩ := by decide +kernel
theorem pd_359 : parseMethodDescriptor "(Ljava/lang/String;)Ljava/lang/String;" = some ⟨[(.object "java/lang/String")], some (.object "java/lang/String")⟩ := by decide +kernel
theorem ef_0_360 (m : MethodId) (x0 : Int32) (x1 : Int32) (x2 : Int32) (x3 : Int32) (x4 : Int32) (x5 : Int32) : entryFrame m #[(.int x0), (.int x1), (.int x2), (.int x3), (.int x4), (.int x5)] maxLocals = mkF m 0 #[.val (.int x0), .val (.int x1), .val (.int x2), .val (.int x3), .val (.int x4), .val (.int x5), .unset, .unset, .unset, .unset, .unset, .unset] [] := by first | (simp [entryFrame, mkF, argsToLocals, Value.category, maxLocals]; done) | rfl
def Qrm0 (Z : State) (p0 : Int32) (p1 : Int32) (p2 : Int32) (p3 : Int32) (p4 : Int32) (p5 : Int32) (cs : Int32) (h0 : Heap) (n0 : Nat) (v : Option Value) (h : Heap) (L : List Loc) : Prop := v = some (.int (1 : Int32)) ∧ Fr n0 L
set_option maxRecDepth 65536 in
set_option maxHeartbeats 40000000 in
theorem rm0 (l : Launch) (Z : State) (a0 : Array Value) (hw : ∀ d ∈ tables_1, d.before a0 Z = true) (ws : List Jvm.Cond) (p0 : Int32) (p1 : Int32) (p2 : Int32) (p3 : Int32) (p4 : Int32) (p5 : Int32) (cs : Int32) (h0 : Heap) (n0 : Nat) (O0 : Old Z n0 h0) (S_CS : Sta Z Z.heap "java/lang/String" "COMPACT_STRINGS" "Z" (.int cs)) (hcs : ¬ (cs = (0 : Int32))) :
    MetFree l x (head1 (Jvm.Cond.code x code maxLocals ret :: ws) room_1) (fun a_ U_ => a_ = #[(.int p0), (.int p1), (.int p2), (.int p3), (.int p4), (.int p5)] ∧ Z.Warmed39 U_.vm ∧ U_.heap = h0 ∧ CHv Z own_EL U_.vm h0) (fun _ _ _ _ _ => True) (fun _ U_ o_ U'_ => ∃ v_ L_, o_ = .returned v_ ∧ Qrm0 Z p0 p1 p2 p3 p4 p5 cs h0 n0 v_ U'_.heap L_ ∧ ReturnedEndW U_ o_ U'_ L_ 19 41) := by
  refine MetFree.of_bodySF (plainFor_of_name pn_77) hisR ?_
  intro pg ee s mm args below meth cc s₁ Bd hml0 hP hK
  obtain ⟨rfl, hZ, hh, HC0⟩ := hP
  have hx := Bd.exec
  have hby := Bd.bytes
  have hml : cc.maxLocals = 12 := hml0
  have hown : s.vm.findClass "com/example/orders_into_outcomes/ordersintooutcomes/model/TextLimitOptionalPinLaw" = some mm.cls := findClass_of_methodNamed Bd.named
  have hnm := (name_of_methodNamed Bd.named Bd.method).1
  have X0 : Stand pg l ee room_1 s mm #[(.int p0), (.int p1), (.int p2), (.int p3), (.int p4), (.int p5)] below meth cc s₁ [] 0 0 := Stand.of_body Bd
  have e0 : s₁.heap = h0 := by rw [← hh, Bd.state]; rfl
  have N0 := Fr.nil n0
  have K0 : Keep h0 h0 ([] : List Addr) := Keep.refl _ _
  have XW : Stand pg l ee room_1 (s.setVm s.vm) mm #[(.int p0), (.int p1), (.int p2), (.int p3), (.int p4), (.int p5)] below meth cc s₁ [] 0 0 := X0
  have hS0 : s.Since s.vm 0 := (State.WarmedH.refl s).since 0
  have CR0 : CHr Z own_EL s.vm h0 s.vm h0 := CHr.refl HC0
  have hEL := own_hEL hw
  have pre0 : ∀ tg_, Steps pg.tables ee below (s₁.setTop (mkF mm 0 #[.val (.int p0), .val (.int p1), .val (.int p2), .val (.int p3), .val (.int p4), .val (.int p5), .unset, .unset, .unset, .unset, .unset, .unset] [])) tg_ → Steps pg.tables ee below (s₁.setTop (entryFrame mm #[(.int p0), (.int p1), (.int p2), (.int p3), (.int p4), (.int p5)] maxLocals)) tg_ := fun tg_ k_ => castTop (ef_0_360 mm p0 p1 p2 p3 p4 p5) k_
  have pre1 : ∀ tg_, Steps pg.tables ee below (s₁.setTop (mkF mm 7 #[.val (.int p0), .val (.int p1), .val (.int p2), .val (.int p3), .val (.int p4), .val (.int p5), .unset, .unset, .unset, .unset, .unset, .unset] [(.int p2), (.int (((p5.toUInt32 >>> ((2 : Int32) &&& 31).toUInt32).toInt32) &&& (3 : Int32)))])) tg_ → Steps pg.tables ee below (s₁.setTop (entryFrame mm #[(.int p0), (.int p1), (.int p2), (.int p3), (.int p4), (.int p5)] maxLocals)) tg_ := fun tg_ k_ => pre0 tg_ (by
      show Steps pg.tables ee below (s₁.setTop (mkF mm 0 #[.val (.int p0), .val (.int p1), .val (.int p2), .val (.int p3), .val (.int p4), .val (.int p5), .unset, .unset, .unset, .unset, .unset, .unset] [])) _
      refine XS.iload XW.here hx rfl (hb hby at_0) rfl ?_
      show Steps pg.tables ee below (s₁.setTop (mkF mm 2 #[.val (.int p0), .val (.int p1), .val (.int p2), .val (.int p3), .val (.int p4), .val (.int p5), .unset, .unset, .unset, .unset, .unset, .unset] [(.int p5)])) _
      refine XS.iconst XW.here hx rfl (hb hby at_2) ?_
      show Steps pg.tables ee below (s₁.setTop (mkF mm 3 #[.val (.int p0), .val (.int p1), .val (.int p2), .val (.int p3), .val (.int p4), .val (.int p5), .unset, .unset, .unset, .unset, .unset, .unset] [(.int (2 : Int32)), (.int p5)])) _
      refine XS.iushr XW.here hx rfl (hb hby at_3) rfl ?_
      show Steps pg.tables ee below (s₁.setTop (mkF mm 4 #[.val (.int p0), .val (.int p1), .val (.int p2), .val (.int p3), .val (.int p4), .val (.int p5), .unset, .unset, .unset, .unset, .unset, .unset] [(.int ((p5.toUInt32 >>> ((2 : Int32) &&& 31).toUInt32).toInt32))])) _
      refine XS.iconst XW.here hx rfl (hb hby at_4) ?_
      show Steps pg.tables ee below (s₁.setTop (mkF mm 5 #[.val (.int p0), .val (.int p1), .val (.int p2), .val (.int p3), .val (.int p4), .val (.int p5), .unset, .unset, .unset, .unset, .unset, .unset] [(.int (3 : Int32)), (.int ((p5.toUInt32 >>> ((2 : Int32) &&& 31).toUInt32).toInt32))])) _
      refine XS.iand XW.here hx rfl (hb hby at_5) rfl ?_
      show Steps pg.tables ee below (s₁.setTop (mkF mm 6 #[.val (.int p0), .val (.int p1), .val (.int p2), .val (.int p3), .val (.int p4), .val (.int p5), .unset, .unset, .unset, .unset, .unset, .unset] [(.int (((p5.toUInt32 >>> ((2 : Int32) &&& 31).toUInt32).toInt32) &&& (3 : Int32)))])) _
      refine XS.iloadN XW.here hx rfl (hb hby at_6) rfl ?_
      show Steps pg.tables ee below (s₁.setTop (mkF mm 7 #[.val (.int p0), .val (.int p1), .val (.int p2), .val (.int p3), .val (.int p4), .val (.int p5), .unset, .unset, .unset, .unset, .unset, .unset] [(.int p2), (.int (((p5.toUInt32 >>> ((2 : Int32) &&& 31).toUInt32).toInt32) &&& (3 : Int32)))])) _
      exact k_)
  obtain ⟨_, _, ⟨T2, L2, k2, n2⟩, -, X2, hs2, hgr2, ⟨Lc2, hQ2, l2, y2, z2, CQ2⟩, st2⟩ := callSS XW hx (y := (⟨"com/example/orders_into_outcomes/ordersintooutcomes/model/TextLimitOptionalPinLaw", "draw", "(II)Ljava/lang/String;"⟩ : MethodName)) hown (mvT hZ (hw _ (List.mem_of_getElem? (i := 0) rfl))) (mvT hZ (hw _ (List.mem_of_getElem? (i := 1) rfl))) (mvT hZ (hw _ (List.mem_of_getElem? (i := 2) rfl))) (mvT hZ (hw _ (List.mem_of_getElem? (i := 3) rfl))) (by decide) (backOfSH (W := 0) (rmDraw l Z a0 hw [] (((p5.toUInt32 >>> ((2 : Int32) &&& 31).toUInt32).toInt32) &&& (3 : Int32)) p2 cs h0 n0 O0 (own_r _) S_CS hcs) hZ (hw _ (List.mem_of_getElem? (i := 3) rfl)) (hw _ (List.mem_of_getElem? (i := 2) rfl)) (by decide) (by decide) hEL CR0.1) (g := (mkF mm 7 #[.val (.int p0), .val (.int p1), .val (.int p2), .val (.int p3), .val (.int p4), .val (.int p5), .unset, .unset, .unset, .unset, .unset, .unset] [(.int p2), (.int (((p5.toUInt32 >>> ((2 : Int32) &&& 31).toUInt32).toInt32) &&& (3 : Int32)))])) rfl (by rw [hml]; rfl) (argsL := [(.int (((p5.toUInt32 >>> ((2 : Int32) &&& 31).toUInt32).toInt32) &&& (3 : Int32))), (.int p2)]) (rest := []) (lenOf pd_355 rfl) rfl (by show 2 * 0 + _ ≤ _; exact Nat.le_of_eq rfl) (hb hby at_7) (fun _ _ => ⟨rfl, e0, (by decide : 0 + 6 ≤ _), (by decide : 0 + 12 ≤ _)⟩)
  dsimp only [Pt.U, Pt.locs, Pt.cells, Pt.slots] at X2 l2 y2 z2 st2 hQ2 hs2 hgr2 CQ2
  subst l2 y2 z2
  replace X2 := own_rebase (s := s) X2
  obtain ⟨sx2, sd2, kd2, vs2, rfl, N2q, K2, Ex2, Fc2, Fv2, Va2⟩ := hQ2
  have hS2 : s.Since T2.vm T2.heap.size := State.Since.trans hS0 hs2 (Nat.le_trans (by rw [e0]; exact (Nat.zero_le _)) hgr2)
  have hown : (s.setVm T2.vm).vm.findClass "com/example/orders_into_outcomes/ordersintooutcomes/model/TextLimitOptionalPinLaw" = some mm.cls := by rw [show (s.setVm T2.vm).vm = T2.vm from rfl, hs2.1.alike.findClass]; exact hown
  have hZ : Z.Warmed39 (s.setVm T2.vm).vm := State.Warmed39.trans hZ hs2.1
  have CR2 := CR0.trans CQ2
  have O2 := O0.keep K2 all0
  have KK2 := K0.trans K2 all0
  have N2 := Fr.app N0 N2q
  have pre3 : ∀ tg_, Steps pg.tables ee below (T2.setTop (mkF mm 16 #[.val (.int p0), .val (.int p1), .val (.int p2), .val (.int p3), .val (.int p4), .val (.int p5), .val (.ref sx2), .unset, .unset, .unset, .unset, .unset] [(.int (p5 &&& (1 : Int32)))])) tg_ → Steps pg.tables ee below (s₁.setTop (entryFrame mm #[(.int p0), (.int p1), (.int p2), (.int p3), (.int p4), (.int p5)] maxLocals)) tg_ := fun tg_ k_ => pre1 tg_ (by
      refine st2.trans ?_
      show Steps pg.tables ee below (T2.setTop (mkF mm 10 #[.val (.int p0), .val (.int p1), .val (.int p2), .val (.int p3), .val (.int p4), .val (.int p5), .unset, .unset, .unset, .unset, .unset, .unset] [(.ref sx2)])) _
      refine XS.astore X2.here hx rfl (hb hby at_10) rfl rfl (l' := #[.val (.int p0), .val (.int p1), .val (.int p2), .val (.int p3), .val (.int p4), .val (.int p5), .val (.ref sx2), .unset, .unset, .unset, .unset, .unset]) rfl ?_
      show Steps pg.tables ee below (T2.setTop (mkF mm 12 #[.val (.int p0), .val (.int p1), .val (.int p2), .val (.int p3), .val (.int p4), .val (.int p5), .val (.ref sx2), .unset, .unset, .unset, .unset, .unset] [])) _
      refine XS.iload X2.here hx rfl (hb hby at_12) rfl ?_
      show Steps pg.tables ee below (T2.setTop (mkF mm 14 #[.val (.int p0), .val (.int p1), .val (.int p2), .val (.int p3), .val (.int p4), .val (.int p5), .val (.ref sx2), .unset, .unset, .unset, .unset, .unset] [(.int p5)])) _
      refine XS.iconst X2.here hx rfl (hb hby at_14) ?_
      show Steps pg.tables ee below (T2.setTop (mkF mm 15 #[.val (.int p0), .val (.int p1), .val (.int p2), .val (.int p3), .val (.int p4), .val (.int p5), .val (.ref sx2), .unset, .unset, .unset, .unset, .unset] [(.int (1 : Int32)), (.int p5)])) _
      refine XS.iand X2.here hx rfl (hb hby at_15) rfl ?_
      exact k_)
  by_cases hc4 : (p5 &&& (1 : Int32)) = (0 : Int32)
  · obtain ⟨LL5, XL5, NL5⟩ := own_loose X2 N2
    have pre6 : ∀ tg_, Steps pg.tables ee below (T2.setTop (mkF mm 30 #[.val (.int p0), .val (.int p1), .val (.int p2), .val (.int p3), .val (.int p4), .val (.int p5), .val (.ref sx2), .unset, .unset, .unset, .unset, .unset] [(.int p3), (.int (((p5.toUInt32 >>> ((4 : Int32) &&& 31).toUInt32).toInt32) &&& (3 : Int32)))])) tg_ → Steps pg.tables ee below (s₁.setTop (entryFrame mm #[(.int p0), (.int p1), (.int p2), (.int p3), (.int p4), (.int p5)] maxLocals)) tg_ := fun tg_ k_ => pre3 tg_ (by
        show Steps pg.tables ee below (T2.setTop (mkF mm 16 #[.val (.int p0), .val (.int p1), .val (.int p2), .val (.int p3), .val (.int p4), .val (.int p5), .val (.ref sx2), .unset, .unset, .unset, .unset, .unset] [(.int (p5 &&& (1 : Int32)))])) _
        refine XS.ifYes X2.here hx rfl (pc0 := 16) (pc' := 23) rfl (hb hby at_16) rfl ((if0 _ _).trans (teq hc4).1) (by decide) (by decide) ?_
        show Steps pg.tables ee below (T2.setTop (mkF mm 23 #[.val (.int p0), .val (.int p1), .val (.int p2), .val (.int p3), .val (.int p4), .val (.int p5), .val (.ref sx2), .unset, .unset, .unset, .unset, .unset] [])) _
        refine XS.iload X2.here hx rfl (hb hby at_23) rfl ?_
        show Steps pg.tables ee below (T2.setTop (mkF mm 25 #[.val (.int p0), .val (.int p1), .val (.int p2), .val (.int p3), .val (.int p4), .val (.int p5), .val (.ref sx2), .unset, .unset, .unset, .unset, .unset] [(.int p5)])) _
        refine XS.iconst X2.here hx rfl (hb hby at_25) ?_
        show Steps pg.tables ee below (T2.setTop (mkF mm 26 #[.val (.int p0), .val (.int p1), .val (.int p2), .val (.int p3), .val (.int p4), .val (.int p5), .val (.ref sx2), .unset, .unset, .unset, .unset, .unset] [(.int (4 : Int32)), (.int p5)])) _
        refine XS.iushr X2.here hx rfl (hb hby at_26) rfl ?_
        show Steps pg.tables ee below (T2.setTop (mkF mm 27 #[.val (.int p0), .val (.int p1), .val (.int p2), .val (.int p3), .val (.int p4), .val (.int p5), .val (.ref sx2), .unset, .unset, .unset, .unset, .unset] [(.int ((p5.toUInt32 >>> ((4 : Int32) &&& 31).toUInt32).toInt32))])) _
        refine XS.iconst X2.here hx rfl (hb hby at_27) ?_
        show Steps pg.tables ee below (T2.setTop (mkF mm 28 #[.val (.int p0), .val (.int p1), .val (.int p2), .val (.int p3), .val (.int p4), .val (.int p5), .val (.ref sx2), .unset, .unset, .unset, .unset, .unset] [(.int (3 : Int32)), (.int ((p5.toUInt32 >>> ((4 : Int32) &&& 31).toUInt32).toInt32))])) _
        refine XS.iand X2.here hx rfl (hb hby at_28) rfl ?_
        show Steps pg.tables ee below (T2.setTop (mkF mm 29 #[.val (.int p0), .val (.int p1), .val (.int p2), .val (.int p3), .val (.int p4), .val (.int p5), .val (.ref sx2), .unset, .unset, .unset, .unset, .unset] [(.int (((p5.toUInt32 >>> ((4 : Int32) &&& 31).toUInt32).toInt32) &&& (3 : Int32)))])) _
        refine XS.iloadN X2.here hx rfl (hb hby at_29) rfl ?_
        show Steps pg.tables ee below (T2.setTop (mkF mm 30 #[.val (.int p0), .val (.int p1), .val (.int p2), .val (.int p3), .val (.int p4), .val (.int p5), .val (.ref sx2), .unset, .unset, .unset, .unset, .unset] [(.int p3), (.int (((p5.toUInt32 >>> ((4 : Int32) &&& 31).toUInt32).toInt32) &&& (3 : Int32)))])) _
        exact k_)
    obtain ⟨_, _, ⟨T7, L7, k7, n7⟩, -, X7, hs7, hgr7, ⟨Lc7, hQ7, l7, y7, z7, CQ7⟩, st7⟩ := callSS XL5 hx (y := (⟨"com/example/orders_into_outcomes/ordersintooutcomes/model/TextLimitOptionalPinLaw", "draw", "(II)Ljava/lang/String;"⟩ : MethodName)) hown (mvT hZ (hw _ (List.mem_of_getElem? (i := 0) rfl))) (mvT hZ (hw _ (List.mem_of_getElem? (i := 1) rfl))) (mvT hZ (hw _ (List.mem_of_getElem? (i := 2) rfl))) (mvT hZ (hw _ (List.mem_of_getElem? (i := 3) rfl))) (by decide) (backOfSH (W := 0) (rmDraw l Z a0 hw [] (((p5.toUInt32 >>> ((4 : Int32) &&& 31).toUInt32).toInt32) &&& (3 : Int32)) p3 cs T2.heap n0 O2 (own_r _) S_CS hcs) hZ (hw _ (List.mem_of_getElem? (i := 3) rfl)) (hw _ (List.mem_of_getElem? (i := 2) rfl)) (by decide) (by decide) hEL CR2.1) (g := (mkF mm 30 #[.val (.int p0), .val (.int p1), .val (.int p2), .val (.int p3), .val (.int p4), .val (.int p5), .val (.ref sx2), .unset, .unset, .unset, .unset, .unset] [(.int p3), (.int (((p5.toUInt32 >>> ((4 : Int32) &&& 31).toUInt32).toInt32) &&& (3 : Int32)))])) rfl (by rw [hml]; rfl) (argsL := [(.int (((p5.toUInt32 >>> ((4 : Int32) &&& 31).toUInt32).toInt32) &&& (3 : Int32))), (.int p3)]) (rest := []) (lenOf pd_355 rfl) rfl (by show 2 * 0 + _ ≤ _; exact Nat.le_of_eq rfl) (hb hby at_30) (fun _ _ => ⟨rfl, rfl, (by decide : 6 + 6 ≤ _), (by decide : 12 + 12 ≤ _)⟩)
    dsimp only [Pt.U, Pt.locs, Pt.cells, Pt.slots] at X7 l7 y7 z7 st7 hQ7 hs7 hgr7 CQ7
    subst l7 y7 z7
    replace X7 := own_rebase (s := s) X7
    obtain ⟨sx7, sd7, kd7, vs7, rfl, N7q, K7, Ex7, Fc7, Fv7, Va7⟩ := hQ7
    have hS7 : s.Since T7.vm T7.heap.size := State.Since.trans hS2 hs7 (Nat.le_trans (Nat.le_refl _) hgr7)
    have hown : (s.setVm T7.vm).vm.findClass "com/example/orders_into_outcomes/ordersintooutcomes/model/TextLimitOptionalPinLaw" = some mm.cls := by rw [show (s.setVm T7.vm).vm = T7.vm from rfl, hs7.1.alike.findClass]; exact hown
    have hZ : Z.Warmed39 (s.setVm T7.vm).vm := State.Warmed39.trans hZ hs7.1
    have CR7 := CR2.trans CQ7
    have O7 := O2.keep K7 all0
    have KK7 := KK2.trans K7 all0
    have N7 := Fr.app NL5 N7q
    obtain ⟨LL8, XL8, NL8⟩ := own_loose X7 N7
    have pre9 : ∀ tg_, Steps pg.tables ee below (T7.setTop (mkF mm 48 #[.val (.int p0), .val (.int p1), .val (.int p2), .val (.int p3), .val (.int p4), .val (.int p5), .val (.ref sx2), .val (.ref sx7), .val (.int (((p5.toUInt32 >>> ((6 : Int32) &&& 31).toUInt32).toInt32) &&& (3 : Int32))), .unset, .unset, .unset] [(.int p4), (.int (((p5.toUInt32 >>> ((6 : Int32) &&& 31).toUInt32).toInt32) &&& (3 : Int32)))])) tg_ → Steps pg.tables ee below (s₁.setTop (entryFrame mm #[(.int p0), (.int p1), (.int p2), (.int p3), (.int p4), (.int p5)] maxLocals)) tg_ := fun tg_ k_ => pre6 tg_ (by
        refine st7.trans ?_
        show Steps pg.tables ee below (T7.setTop (mkF mm 33 #[.val (.int p0), .val (.int p1), .val (.int p2), .val (.int p3), .val (.int p4), .val (.int p5), .val (.ref sx2), .unset, .unset, .unset, .unset, .unset] [(.ref sx7)])) _
        refine XS.astore X7.here hx rfl (hb hby at_33) rfl rfl (l' := #[.val (.int p0), .val (.int p1), .val (.int p2), .val (.int p3), .val (.int p4), .val (.int p5), .val (.ref sx2), .val (.ref sx7), .unset, .unset, .unset, .unset]) rfl ?_
        show Steps pg.tables ee below (T7.setTop (mkF mm 35 #[.val (.int p0), .val (.int p1), .val (.int p2), .val (.int p3), .val (.int p4), .val (.int p5), .val (.ref sx2), .val (.ref sx7), .unset, .unset, .unset, .unset] [])) _
        refine XS.iload X7.here hx rfl (hb hby at_35) rfl ?_
        show Steps pg.tables ee below (T7.setTop (mkF mm 37 #[.val (.int p0), .val (.int p1), .val (.int p2), .val (.int p3), .val (.int p4), .val (.int p5), .val (.ref sx2), .val (.ref sx7), .unset, .unset, .unset, .unset] [(.int p5)])) _
        refine XS.bipush X7.here hx rfl (hb hby at_37) ?_
        show Steps pg.tables ee below (T7.setTop (mkF mm 39 #[.val (.int p0), .val (.int p1), .val (.int p2), .val (.int p3), .val (.int p4), .val (.int p5), .val (.ref sx2), .val (.ref sx7), .unset, .unset, .unset, .unset] [(.int (6 : Int32)), (.int p5)])) _
        refine XS.iushr X7.here hx rfl (hb hby at_39) rfl ?_
        show Steps pg.tables ee below (T7.setTop (mkF mm 40 #[.val (.int p0), .val (.int p1), .val (.int p2), .val (.int p3), .val (.int p4), .val (.int p5), .val (.ref sx2), .val (.ref sx7), .unset, .unset, .unset, .unset] [(.int ((p5.toUInt32 >>> ((6 : Int32) &&& 31).toUInt32).toInt32))])) _
        refine XS.iconst X7.here hx rfl (hb hby at_40) ?_
        show Steps pg.tables ee below (T7.setTop (mkF mm 41 #[.val (.int p0), .val (.int p1), .val (.int p2), .val (.int p3), .val (.int p4), .val (.int p5), .val (.ref sx2), .val (.ref sx7), .unset, .unset, .unset, .unset] [(.int (3 : Int32)), (.int ((p5.toUInt32 >>> ((6 : Int32) &&& 31).toUInt32).toInt32))])) _
        refine XS.iand X7.here hx rfl (hb hby at_41) rfl ?_
        show Steps pg.tables ee below (T7.setTop (mkF mm 42 #[.val (.int p0), .val (.int p1), .val (.int p2), .val (.int p3), .val (.int p4), .val (.int p5), .val (.ref sx2), .val (.ref sx7), .unset, .unset, .unset, .unset] [(.int (((p5.toUInt32 >>> ((6 : Int32) &&& 31).toUInt32).toInt32) &&& (3 : Int32)))])) _
        refine XS.istore X7.here hx rfl (hb hby at_42) rfl (l' := #[.val (.int p0), .val (.int p1), .val (.int p2), .val (.int p3), .val (.int p4), .val (.int p5), .val (.ref sx2), .val (.ref sx7), .val (.int (((p5.toUInt32 >>> ((6 : Int32) &&& 31).toUInt32).toInt32) &&& (3 : Int32))), .unset, .unset, .unset]) rfl ?_
        show Steps pg.tables ee below (T7.setTop (mkF mm 44 #[.val (.int p0), .val (.int p1), .val (.int p2), .val (.int p3), .val (.int p4), .val (.int p5), .val (.ref sx2), .val (.ref sx7), .val (.int (((p5.toUInt32 >>> ((6 : Int32) &&& 31).toUInt32).toInt32) &&& (3 : Int32))), .unset, .unset, .unset] [])) _
        refine XS.iload X7.here hx rfl (hb hby at_44) rfl ?_
        show Steps pg.tables ee below (T7.setTop (mkF mm 46 #[.val (.int p0), .val (.int p1), .val (.int p2), .val (.int p3), .val (.int p4), .val (.int p5), .val (.ref sx2), .val (.ref sx7), .val (.int (((p5.toUInt32 >>> ((6 : Int32) &&& 31).toUInt32).toInt32) &&& (3 : Int32))), .unset, .unset, .unset] [(.int (((p5.toUInt32 >>> ((6 : Int32) &&& 31).toUInt32).toInt32) &&& (3 : Int32)))])) _
        refine XS.iload X7.here hx rfl (hb hby at_46) rfl ?_
        show Steps pg.tables ee below (T7.setTop (mkF mm 48 #[.val (.int p0), .val (.int p1), .val (.int p2), .val (.int p3), .val (.int p4), .val (.int p5), .val (.ref sx2), .val (.ref sx7), .val (.int (((p5.toUInt32 >>> ((6 : Int32) &&& 31).toUInt32).toInt32) &&& (3 : Int32))), .unset, .unset, .unset] [(.int p4), (.int (((p5.toUInt32 >>> ((6 : Int32) &&& 31).toUInt32).toInt32) &&& (3 : Int32)))])) _
        exact k_)
    obtain ⟨_, _, ⟨T10, L10, k10, n10⟩, -, X10, hs10, hgr10, ⟨Lc10, hQ10, l10, y10, z10, CQ10⟩, st10⟩ := callSS XL8 hx (y := (⟨"com/example/orders_into_outcomes/ordersintooutcomes/model/TextLimitOptionalPinLaw", "draw", "(II)Ljava/lang/String;"⟩ : MethodName)) hown (mvT hZ (hw _ (List.mem_of_getElem? (i := 0) rfl))) (mvT hZ (hw _ (List.mem_of_getElem? (i := 1) rfl))) (mvT hZ (hw _ (List.mem_of_getElem? (i := 2) rfl))) (mvT hZ (hw _ (List.mem_of_getElem? (i := 3) rfl))) (by decide) (backOfSH (W := 0) (rmDraw l Z a0 hw [] (((p5.toUInt32 >>> ((6 : Int32) &&& 31).toUInt32).toInt32) &&& (3 : Int32)) p4 cs T7.heap n0 O7 (own_r _) S_CS hcs) hZ (hw _ (List.mem_of_getElem? (i := 3) rfl)) (hw _ (List.mem_of_getElem? (i := 2) rfl)) (by decide) (by decide) hEL CR7.1) (g := (mkF mm 48 #[.val (.int p0), .val (.int p1), .val (.int p2), .val (.int p3), .val (.int p4), .val (.int p5), .val (.ref sx2), .val (.ref sx7), .val (.int (((p5.toUInt32 >>> ((6 : Int32) &&& 31).toUInt32).toInt32) &&& (3 : Int32))), .unset, .unset, .unset] [(.int p4), (.int (((p5.toUInt32 >>> ((6 : Int32) &&& 31).toUInt32).toInt32) &&& (3 : Int32)))])) rfl (by rw [hml]; rfl) (argsL := [(.int (((p5.toUInt32 >>> ((6 : Int32) &&& 31).toUInt32).toInt32) &&& (3 : Int32))), (.int p4)]) (rest := []) (lenOf pd_355 rfl) rfl (by show 2 * 0 + _ ≤ _; exact Nat.le_of_eq rfl) (hb hby at_48) (fun _ _ => ⟨rfl, rfl, (by decide : 12 + 6 ≤ _), (by decide : 24 + 12 ≤ _)⟩)
    dsimp only [Pt.U, Pt.locs, Pt.cells, Pt.slots] at X10 l10 y10 z10 st10 hQ10 hs10 hgr10 CQ10
    subst l10 y10 z10
    replace X10 := own_rebase (s := s) X10
    obtain ⟨sx10, sd10, kd10, vs10, rfl, N10q, K10, Ex10, Fc10, Fv10, Va10⟩ := hQ10
    have hS10 : s.Since T10.vm T10.heap.size := State.Since.trans hS7 hs10 (Nat.le_trans (Nat.le_refl _) hgr10)
    have hown : (s.setVm T10.vm).vm.findClass "com/example/orders_into_outcomes/ordersintooutcomes/model/TextLimitOptionalPinLaw" = some mm.cls := by rw [show (s.setVm T10.vm).vm = T10.vm from rfl, hs10.1.alike.findClass]; exact hown
    have hZ : Z.Warmed39 (s.setVm T10.vm).vm := State.Warmed39.trans hZ hs10.1
    have CR10 := CR7.trans CQ10
    have O10 := O7.keep K10 all0
    have KK10 := KK7.trans K10 all0
    have N10 := Fr.app NL8 N10q
    obtain ⟨_, _, ⟨T11, L11, k11, n11⟩, -, X11, ⟨Lc11, hQ11, l11, y11, z11⟩, st11⟩ := Jvm.LawKit.callS X10 hx (y := (⟨"com/example/orders_into_outcomes/ordersintooutcomes/model/TextLimit", "optional", "(Ljava/lang/String;IILjava/lang/String;)Lcom/example/orders_into_outcomes/ordersintooutcomes/model/TextLimit;"⟩ : MethodName)) hown (mvT hZ (hw _ (List.mem_of_getElem? (i := 26) rfl))) (mvT hZ (hw _ (List.mem_of_getElem? (i := 27) rfl))) (mvT hZ (hw _ (List.mem_of_getElem? (i := 28) rfl))) (mvT hZ (hw _ (List.mem_of_getElem? (i := 29) rfl))) (by decide) (backOf (W := 0) (rmTOR l Z a0 hw [] sx2 p0 p1 sx7 T10.heap n0 O10) hZ (hw _ (List.mem_of_getElem? (i := 29) rfl)) (hw _ (List.mem_of_getElem? (i := 28) rfl)) (by decide) (by decide)) (g := (mkF mm 59 #[.val (.int p0), .val (.int p1), .val (.int p2), .val (.int p3), .val (.int p4), .val (.int p5), .val (.ref sx2), .val (.ref sx7), .val (.int (((p5.toUInt32 >>> ((6 : Int32) &&& 31).toUInt32).toInt32) &&& (3 : Int32))), .val (.ref sx10), .unset, .unset] [(.ref sx7), (.int p1), (.int p0), (.ref sx2)])) rfl (by rw [hml]; rfl) (argsL := [(.ref sx2), (.int p0), (.int p1), (.ref sx7)]) (rest := []) (lenOf pd_356 rfl) rfl (by show 2 * 0 + _ ≤ _; exact Nat.le_of_eq rfl) (hb hby at_59) (fun _ _ => ⟨rfl, rfl, (by decide : 18 + 1 ≤ _), (by decide : 36 + 5 ≤ _)⟩)
    dsimp only [Pt.U, Pt.locs, Pt.cells, Pt.slots] at X11 l11 y11 z11 st11 hQ11
    subst l11 y11 z11
    obtain ⟨tl11, rfl, N11q, K11, Ex11, Ft0_11, Ft1_11, Ft2_11, Ft3_11, Ft4_11⟩ := hQ11
    have O11 := O10.keep K11 all0
    have KK11 := KK10.trans K11 all0
    have N11 := Fr.app N10 N11q
    have hk11 := Nat.le_trans (Nat.le_refl _) K11.1
    have CR11 := CR10.trans (CHr.keep K11 all0 CR10.1)
    obtain ⟨LL12, XL12, NL12⟩ := own_loose X11 N11
    obtain ⟨cq13, kq13, q13a, q13b, q13c⟩ := isOf hZ rfl Ex11
    obtain ⟨_, _, ⟨T13, L13, k13, n13⟩, -, X13, ⟨Lc13, hQ13, l13, y13, z13⟩, st13⟩ := XL12.virtualBack hx (y := (⟨"com/example/orders_into_outcomes/ordersintooutcomes/model/TextLimit", "name", "()Ljava/lang/String;"⟩ : MethodName)) (z := (⟨"com/example/orders_into_outcomes/ordersintooutcomes/model/TextLimit", "name", "()Ljava/lang/String;"⟩ : MethodName)) hown (mvT hZ (hw _ (List.mem_of_getElem? (i := 46) rfl))) (mvT hZ (hw _ (List.mem_of_getElem? (i := 47) rfl))) (notFace_of_selects (args := #[]) (mvT hZ (hw _ (List.mem_of_getElem? (i := 49) rfl)))) (mvT hZ (hw _ (List.mem_of_getElem? (i := 49) rfl))) (mvT hZ (hw _ (List.mem_of_getElem? (i := 48) rfl))) (by decide) (backOf (W := 1) (rmGR_name l Z a0 hw [] tl11 sx2 p0 p1 sx7 T11.heap n0 O11 Ft0_11 Ft1_11 Ft2_11 Ft3_11 Ft4_11 Ex11) hZ (hw _ (List.mem_of_getElem? (i := 50) rfl)) (hw _ (List.mem_of_getElem? (i := 28) rfl)) (by decide) (by decide)) q13a q13c (g := (mkF mm 68 #[.val (.int p0), .val (.int p1), .val (.int p2), .val (.int p3), .val (.int p4), .val (.int p5), .val (.ref sx2), .val (.ref sx7), .val (.int (((p5.toUInt32 >>> ((6 : Int32) &&& 31).toUInt32).toInt32) &&& (3 : Int32))), .val (.ref sx10), .val (.ref tl11), .unset] [(.ref tl11), (.ref sx2)])) rfl (by rw [hml]; rfl) (Steps.refl _) (argsL := []) (rest := [(.ref sx2)]) (lenOf pd_357 rfl) rfl (by show 2 * 0 + _ ≤ _; exact Nat.le_of_eq rfl) (hb hby at_68) (fun _ _ => ⟨rfl, rfl, (by decide : 19 + 0 ≤ _), (by decide : 41 + 0 ≤ _)⟩)
    dsimp only [Pt.U, Pt.locs, Pt.cells, Pt.slots] at X13 l13 y13 z13 st13 hQ13
    subst l13 y13 z13
    obtain ⟨rfl, N13q, e13⟩ := hQ13
    have N13 := Fr.app NL12 N13q
    obtain ⟨LL14, XL14, NL14⟩ := own_loose X13 N13
    obtain ⟨cq15, kq15, q15a, q15b, q15c⟩ := isOf hZ e13 (((Ex2.keep K7).keep K10).keep K11)
    obtain ⟨_, _, ⟨T15, L15, k15, n15⟩, -, X15, ⟨Lc15, hQ15, l15, y15, z15⟩, st15⟩ := XL14.virtualBack hx (y := (⟨"java/lang/String", "equals", "(Ljava/lang/Object;)Z"⟩ : MethodName)) (z := (⟨"java/lang/String", "equals", "(Ljava/lang/Object;)Z"⟩ : MethodName)) hown (mvT hZ (hw _ (List.mem_of_getElem? (i := 51) rfl))) (mvT hZ (hw _ (List.mem_of_getElem? (i := 52) rfl))) (notFace_of_selects (args := #[]) (mvT hZ (hw _ (List.mem_of_getElem? (i := 54) rfl)))) (mvT hZ (hw _ (List.mem_of_getElem? (i := 54) rfl))) (mvT hZ (hw _ (List.mem_of_getElem? (i := 53) rfl))) (by decide) (backOf (W := 0) (rmEq l Z a0 hw [] sx2 T11.heap n0 O11) hZ (hw _ (List.mem_of_getElem? (i := 55) rfl)) (hw _ (List.mem_of_getElem? (i := 6) rfl)) (by decide) (by decide)) q15a q15c (g := (mkF mm 71 #[.val (.int p0), .val (.int p1), .val (.int p2), .val (.int p3), .val (.int p4), .val (.int p5), .val (.ref sx2), .val (.ref sx7), .val (.int (((p5.toUInt32 >>> ((6 : Int32) &&& 31).toUInt32).toInt32) &&& (3 : Int32))), .val (.ref sx10), .val (.ref tl11), .unset] [(.ref sx2), (.ref sx2)])) rfl (by rw [hml]; rfl) (Steps.refl _) (argsL := [(.ref sx2)]) (rest := []) (lenOf pd_82 rfl) rfl (by show 2 * 0 + _ ≤ _; exact Nat.le_of_eq rfl) (hb hby at_71) (fun _ _ => ⟨rfl, e13, (by decide : 19 + 0 ≤ _), (by decide : 41 + 0 ≤ _)⟩)
    dsimp only [Pt.U, Pt.locs, Pt.cells, Pt.slots] at X15 l15 y15 z15 st15 hQ15
    subst l15 y15 z15
    obtain ⟨rfl, N15q, e15⟩ := hQ15
    have N15 := Fr.app NL14 N15q
    obtain ⟨LL16, XL16, NL16⟩ := own_loose X15 N15
    obtain ⟨cq17, kq17, q17a, q17b, q17c⟩ := isOf hZ e15 Ex11
    obtain ⟨_, _, ⟨T17, L17, k17, n17⟩, -, X17, ⟨Lc17, hQ17, l17, y17, z17⟩, st17⟩ := XL16.virtualBack hx (y := (⟨"com/example/orders_into_outcomes/ordersintooutcomes/model/TextLimit", "shortest", "()I"⟩ : MethodName)) (z := (⟨"com/example/orders_into_outcomes/ordersintooutcomes/model/TextLimit", "shortest", "()I"⟩ : MethodName)) hown (mvT hZ (hw _ (List.mem_of_getElem? (i := 56) rfl))) (mvT hZ (hw _ (List.mem_of_getElem? (i := 57) rfl))) (notFace_of_selects (args := #[]) (mvT hZ (hw _ (List.mem_of_getElem? (i := 59) rfl)))) (mvT hZ (hw _ (List.mem_of_getElem? (i := 59) rfl))) (mvT hZ (hw _ (List.mem_of_getElem? (i := 58) rfl))) (by decide) (backOf (W := 0) (rmGR_shortest l Z a0 hw [] tl11 sx2 p0 p1 sx7 T11.heap n0 O11 Ft0_11 Ft1_11 Ft2_11 Ft3_11 Ft4_11 Ex11) hZ (hw _ (List.mem_of_getElem? (i := 60) rfl)) (hw _ (List.mem_of_getElem? (i := 28) rfl)) (by decide) (by decide)) q17a q17c (g := (mkF mm 79 #[.val (.int p0), .val (.int p1), .val (.int p2), .val (.int p3), .val (.int p4), .val (.int p5), .val (.ref sx2), .val (.ref sx7), .val (.int (((p5.toUInt32 >>> ((6 : Int32) &&& 31).toUInt32).toInt32) &&& (3 : Int32))), .val (.ref sx10), .val (.ref tl11), .unset] [(.ref tl11)])) rfl (by rw [hml]; rfl) (Steps.refl _) (argsL := []) (rest := []) (lenOf pd_51 rfl) rfl (by show 2 * 0 + _ ≤ _; exact Nat.le_of_eq rfl) (hb hby at_79) (fun _ _ => ⟨rfl, e15, (by decide : 19 + 0 ≤ _), (by decide : 41 + 0 ≤ _)⟩)
    dsimp only [Pt.U, Pt.locs, Pt.cells, Pt.slots] at X17 l17 y17 z17 st17 hQ17
    subst l17 y17 z17
    obtain ⟨rfl, N17q, e17⟩ := hQ17
    have N17 := Fr.app NL16 N17q
    obtain ⟨LL18, XL18, NL18⟩ := own_loose X17 N17
    obtain ⟨cq19, kq19, q19a, q19b, q19c⟩ := isOf hZ e17 Ex11
    obtain ⟨_, _, ⟨T19, L19, k19, n19⟩, -, X19, ⟨Lc19, hQ19, l19, y19, z19⟩, st19⟩ := XL18.virtualBack hx (y := (⟨"com/example/orders_into_outcomes/ordersintooutcomes/model/TextLimit", "longest", "()I"⟩ : MethodName)) (z := (⟨"com/example/orders_into_outcomes/ordersintooutcomes/model/TextLimit", "longest", "()I"⟩ : MethodName)) hown (mvT hZ (hw _ (List.mem_of_getElem? (i := 61) rfl))) (mvT hZ (hw _ (List.mem_of_getElem? (i := 62) rfl))) (notFace_of_selects (args := #[]) (mvT hZ (hw _ (List.mem_of_getElem? (i := 64) rfl)))) (mvT hZ (hw _ (List.mem_of_getElem? (i := 64) rfl))) (mvT hZ (hw _ (List.mem_of_getElem? (i := 63) rfl))) (by decide) (backOf (W := 0) (rmGR_longest l Z a0 hw [] tl11 sx2 p0 p1 sx7 T11.heap n0 O11 Ft0_11 Ft1_11 Ft2_11 Ft3_11 Ft4_11 Ex11) hZ (hw _ (List.mem_of_getElem? (i := 65) rfl)) (hw _ (List.mem_of_getElem? (i := 28) rfl)) (by decide) (by decide)) q19a q19c (g := (mkF mm 88 #[.val (.int p0), .val (.int p1), .val (.int p2), .val (.int p3), .val (.int p4), .val (.int p5), .val (.ref sx2), .val (.ref sx7), .val (.int (((p5.toUInt32 >>> ((6 : Int32) &&& 31).toUInt32).toInt32) &&& (3 : Int32))), .val (.ref sx10), .val (.ref tl11), .unset] [(.ref tl11)])) rfl (by rw [hml]; rfl) (Steps.refl _) (argsL := []) (rest := []) (lenOf pd_51 rfl) rfl (by show 2 * 0 + _ ≤ _; exact Nat.le_of_eq rfl) (hb hby at_88) (fun _ _ => ⟨rfl, e17, (by decide : 19 + 0 ≤ _), (by decide : 41 + 0 ≤ _)⟩)
    dsimp only [Pt.U, Pt.locs, Pt.cells, Pt.slots] at X19 l19 y19 z19 st19 hQ19
    subst l19 y19 z19
    obtain ⟨rfl, N19q, e19⟩ := hQ19
    have N19 := Fr.app NL18 N19q
    obtain ⟨LL20, XL20, NL20⟩ := own_loose X19 N19
    obtain ⟨cq21, kq21, q21a, q21b, q21c⟩ := isOf hZ e19 Ex11
    obtain ⟨_, _, ⟨T21, L21, k21, n21⟩, -, X21, ⟨Lc21, hQ21, l21, y21, z21⟩, st21⟩ := XL20.virtualBack hx (y := (⟨"com/example/orders_into_outcomes/ordersintooutcomes/model/TextLimit", "isRequired", "()Z"⟩ : MethodName)) (z := (⟨"com/example/orders_into_outcomes/ordersintooutcomes/model/TextLimit", "isRequired", "()Z"⟩ : MethodName)) hown (mvT hZ (hw _ (List.mem_of_getElem? (i := 66) rfl))) (mvT hZ (hw _ (List.mem_of_getElem? (i := 67) rfl))) (notFace_of_selects (args := #[]) (mvT hZ (hw _ (List.mem_of_getElem? (i := 69) rfl)))) (mvT hZ (hw _ (List.mem_of_getElem? (i := 69) rfl))) (mvT hZ (hw _ (List.mem_of_getElem? (i := 68) rfl))) (by decide) (backOf (W := 0) (rmGR_isRequired l Z a0 hw [] tl11 sx2 p0 p1 sx7 T11.heap n0 O11 Ft0_11 Ft1_11 Ft2_11 Ft3_11 Ft4_11 Ex11) hZ (hw _ (List.mem_of_getElem? (i := 70) rfl)) (hw _ (List.mem_of_getElem? (i := 28) rfl)) (by decide) (by decide)) q21a q21c (g := (mkF mm 97 #[.val (.int p0), .val (.int p1), .val (.int p2), .val (.int p3), .val (.int p4), .val (.int p5), .val (.ref sx2), .val (.ref sx7), .val (.int (((p5.toUInt32 >>> ((6 : Int32) &&& 31).toUInt32).toInt32) &&& (3 : Int32))), .val (.ref sx10), .val (.ref tl11), .unset] [(.ref tl11)])) rfl (by rw [hml]; rfl) (Steps.refl _) (argsL := []) (rest := []) (lenOf pd_57 rfl) rfl (by show 2 * 0 + _ ≤ _; exact Nat.le_of_eq rfl) (hb hby at_97) (fun _ _ => ⟨rfl, e19, (by decide : 19 + 0 ≤ _), (by decide : 41 + 0 ≤ _)⟩)
    dsimp only [Pt.U, Pt.locs, Pt.cells, Pt.slots] at X21 l21 y21 z21 st21 hQ21
    subst l21 y21 z21
    obtain ⟨rfl, N21q, e21⟩ := hQ21
    have N21 := Fr.app NL20 N21q
    obtain ⟨LL22, XL22, NL22⟩ := own_loose X21 N21
    obtain ⟨cq23, kq23, q23a, q23b, q23c⟩ := isOf hZ e21 Ex11
    obtain ⟨_, _, ⟨T23, L23, k23, n23⟩, -, X23, ⟨Lc23, hQ23, l23, y23, z23⟩, st23⟩ := XL22.virtualBack hx (y := (⟨"com/example/orders_into_outcomes/ordersintooutcomes/model/TextLimit", "byDefault", "()Ljava/lang/String;"⟩ : MethodName)) (z := (⟨"com/example/orders_into_outcomes/ordersintooutcomes/model/TextLimit", "byDefault", "()Ljava/lang/String;"⟩ : MethodName)) hown (mvT hZ (hw _ (List.mem_of_getElem? (i := 71) rfl))) (mvT hZ (hw _ (List.mem_of_getElem? (i := 72) rfl))) (notFace_of_selects (args := #[]) (mvT hZ (hw _ (List.mem_of_getElem? (i := 74) rfl)))) (mvT hZ (hw _ (List.mem_of_getElem? (i := 74) rfl))) (mvT hZ (hw _ (List.mem_of_getElem? (i := 73) rfl))) (by decide) (backOf (W := 1) (rmGR_byDefault l Z a0 hw [] tl11 sx2 p0 p1 sx7 T11.heap n0 O11 Ft0_11 Ft1_11 Ft2_11 Ft3_11 Ft4_11 Ex11) hZ (hw _ (List.mem_of_getElem? (i := 75) rfl)) (hw _ (List.mem_of_getElem? (i := 28) rfl)) (by decide) (by decide)) q23a q23c (g := (mkF mm 107 #[.val (.int p0), .val (.int p1), .val (.int p2), .val (.int p3), .val (.int p4), .val (.int p5), .val (.ref sx2), .val (.ref sx7), .val (.int (((p5.toUInt32 >>> ((6 : Int32) &&& 31).toUInt32).toInt32) &&& (3 : Int32))), .val (.ref sx10), .val (.ref tl11), .unset] [(.ref tl11), (.ref sx7)])) rfl (by rw [hml]; rfl) (Steps.refl _) (argsL := []) (rest := [(.ref sx7)]) (lenOf pd_357 rfl) rfl (by show 2 * 0 + _ ≤ _; exact Nat.le_of_eq rfl) (hb hby at_107) (fun _ _ => ⟨rfl, e21, (by decide : 19 + 0 ≤ _), (by decide : 41 + 0 ≤ _)⟩)
    dsimp only [Pt.U, Pt.locs, Pt.cells, Pt.slots] at X23 l23 y23 z23 st23 hQ23
    subst l23 y23 z23
    obtain ⟨rfl, N23q, e23⟩ := hQ23
    have N23 := Fr.app NL22 N23q
    obtain ⟨LL24, XL24, NL24⟩ := own_loose X23 N23
    obtain ⟨_, _, ⟨T25, L25, k25, n25⟩, -, X25, ⟨Lc25, hQ25, l25, y25, z25⟩, st25⟩ := Jvm.LawKit.callS XL24 hx (y := (⟨"com/example/orders_into_outcomes/ordersintooutcomes/model/TextLimitOptionalPinLaw", "same", "(Ljava/lang/String;Ljava/lang/String;)Z"⟩ : MethodName)) hown (mvT hZ (hw _ (List.mem_of_getElem? (i := 76) rfl))) (mvT hZ (hw _ (List.mem_of_getElem? (i := 77) rfl))) (mvT hZ (hw _ (List.mem_of_getElem? (i := 2) rfl))) (mvT hZ (hw _ (List.mem_of_getElem? (i := 78) rfl))) (by decide) (backOf (W := 0) (rmSr l Z a0 hw [] sx7 T11.heap n0 O11 ((Ex7.keep K10).keep K11)) hZ (hw _ (List.mem_of_getElem? (i := 78) rfl)) (hw _ (List.mem_of_getElem? (i := 2) rfl)) (by decide) (by decide)) (g := (mkF mm 110 #[.val (.int p0), .val (.int p1), .val (.int p2), .val (.int p3), .val (.int p4), .val (.int p5), .val (.ref sx2), .val (.ref sx7), .val (.int (((p5.toUInt32 >>> ((6 : Int32) &&& 31).toUInt32).toInt32) &&& (3 : Int32))), .val (.ref sx10), .val (.ref tl11), .unset] [(.ref sx7), (.ref sx7)])) rfl (by rw [hml]; rfl) (argsL := [(.ref sx7), (.ref sx7)]) (rest := []) (lenOf pd_358 rfl) rfl (by show 2 * 0 + _ ≤ _; exact Nat.le_of_eq rfl) (hb hby at_110) (fun _ _ => ⟨rfl, e23, (by decide : 19 + 0 ≤ _), (by decide : 41 + 0 ≤ _)⟩)
    dsimp only [Pt.U, Pt.locs, Pt.cells, Pt.slots] at X25 l25 y25 z25 st25 hQ25
    subst l25 y25 z25
    obtain ⟨rfl, N25q, e25⟩ := hQ25
    have N25 := Fr.app NL24 N25q
    obtain ⟨LL26, XL26, NL26⟩ := own_loose X25 N25
    obtain ⟨cq27, kq27, q27a, q27b, q27c⟩ := isOf hZ e25 Ex11
    obtain ⟨_, _, ⟨T27, L27, k27, n27⟩, -, X27, ⟨Lc27, hQ27, l27, y27, z27⟩, st27⟩ := XL26.virtualBack hx (y := (⟨"com/example/orders_into_outcomes/ordersintooutcomes/model/TextLimit", "check", "(Ljava/lang/String;)Ljava/lang/String;"⟩ : MethodName)) (z := (⟨"com/example/orders_into_outcomes/ordersintooutcomes/model/TextLimit", "check", "(Ljava/lang/String;)Ljava/lang/String;"⟩ : MethodName)) hown (mvT hZ (hw _ (List.mem_of_getElem? (i := 79) rfl))) (mvT hZ (hw _ (List.mem_of_getElem? (i := 80) rfl))) (notFace_of_selects (args := #[]) (mvT hZ (hw _ (List.mem_of_getElem? (i := 82) rfl)))) (mvT hZ (hw _ (List.mem_of_getElem? (i := 82) rfl))) (mvT hZ (hw _ (List.mem_of_getElem? (i := 81) rfl))) (by decide) (backOf (W := 1) (rmK1nR l Z a0 hw [] tl11 sx2 p0 p1 sx7 T11.heap n0 O11 Ft0_11 Ft1_11 Ft2_11 Ft3_11 Ft4_11 Ex11) hZ (hw _ (List.mem_of_getElem? (i := 83) rfl)) (hw _ (List.mem_of_getElem? (i := 28) rfl)) (by decide) (by decide)) q27a q27c (g := (mkF mm 121 #[.val (.int p0), .val (.int p1), .val (.int p2), .val (.int p3), .val (.int p4), .val (.int p5), .val (.ref sx2), .val (.ref sx7), .val (.int (((p5.toUInt32 >>> ((6 : Int32) &&& 31).toUInt32).toInt32) &&& (3 : Int32))), .val (.ref sx10), .val (.ref tl11), .unset] [.null, (.ref tl11), (.ref sx7)])) rfl (by rw [hml]; rfl) (Steps.refl _) (argsL := [.null]) (rest := [(.ref sx7)]) (lenOf pd_359 rfl) rfl (by show 2 * 0 + _ ≤ _; exact Nat.le_of_eq rfl) (hb hby at_121) (fun _ _ => ⟨rfl, e25, (by decide : 19 + 0 ≤ _), (by decide : 41 + 0 ≤ _)⟩)
    dsimp only [Pt.U, Pt.locs, Pt.cells, Pt.slots] at X27 l27 y27 z27 st27 hQ27
    subst l27 y27 z27
    obtain ⟨rfl, N27q, e27⟩ := hQ27
    have N27 := Fr.app NL26 N27q
    obtain ⟨LL28, XL28, NL28⟩ := own_loose X27 N27
    obtain ⟨_, _, ⟨T29, L29, k29, n29⟩, -, X29, ⟨Lc29, hQ29, l29, y29, z29⟩, st29⟩ := Jvm.LawKit.callS XL28 hx (y := (⟨"com/example/orders_into_outcomes/ordersintooutcomes/model/TextLimitOptionalPinLaw", "same", "(Ljava/lang/String;Ljava/lang/String;)Z"⟩ : MethodName)) hown (mvT hZ (hw _ (List.mem_of_getElem? (i := 76) rfl))) (mvT hZ (hw _ (List.mem_of_getElem? (i := 77) rfl))) (mvT hZ (hw _ (List.mem_of_getElem? (i := 2) rfl))) (mvT hZ (hw _ (List.mem_of_getElem? (i := 78) rfl))) (by decide) (backOf (W := 0) (rmSr l Z a0 hw [] sx7 T11.heap n0 O11 ((Ex7.keep K10).keep K11)) hZ (hw _ (List.mem_of_getElem? (i := 78) rfl)) (hw _ (List.mem_of_getElem? (i := 2) rfl)) (by decide) (by decide)) (g := (mkF mm 124 #[.val (.int p0), .val (.int p1), .val (.int p2), .val (.int p3), .val (.int p4), .val (.int p5), .val (.ref sx2), .val (.ref sx7), .val (.int (((p5.toUInt32 >>> ((6 : Int32) &&& 31).toUInt32).toInt32) &&& (3 : Int32))), .val (.ref sx10), .val (.ref tl11), .unset] [(.ref sx7), (.ref sx7)])) rfl (by rw [hml]; rfl) (argsL := [(.ref sx7), (.ref sx7)]) (rest := []) (lenOf pd_358 rfl) rfl (by show 2 * 0 + _ ≤ _; exact Nat.le_of_eq rfl) (hb hby at_124) (fun _ _ => ⟨rfl, e27, (by decide : 19 + 0 ≤ _), (by decide : 41 + 0 ≤ _)⟩)
    dsimp only [Pt.U, Pt.locs, Pt.cells, Pt.slots] at X29 l29 y29 z29 st29 hQ29
    subst l29 y29 z29
    obtain ⟨rfl, N29q, e29⟩ := hQ29
    have N29 := Fr.app NL28 N29q
    have pre30 : ∀ tg_, Steps pg.tables ee below (T29.setTop (mkF mm 145 #[.val (.int p0), .val (.int p1), .val (.int p2), .val (.int p3), .val (.int p4), .val (.int p5), .val (.ref sx2), .val (.ref sx7), .val (.int (((p5.toUInt32 >>> ((6 : Int32) &&& 31).toUInt32).toInt32) &&& (3 : Int32))), .val (.ref sx10), .val (.ref tl11), .val (.int (1 : Int32))] [(.int (((p5.toUInt32 >>> ((6 : Int32) &&& 31).toUInt32).toInt32) &&& (3 : Int32))), (.int p0)])) tg_ → Steps pg.tables ee below (s₁.setTop (entryFrame mm #[(.int p0), (.int p1), (.int p2), (.int p3), (.int p4), (.int p5)] maxLocals)) tg_ := fun tg_ k_ => pre9 tg_ (by
        refine st10.trans ?_
        show Steps pg.tables ee below (T10.setTop (mkF mm 51 #[.val (.int p0), .val (.int p1), .val (.int p2), .val (.int p3), .val (.int p4), .val (.int p5), .val (.ref sx2), .val (.ref sx7), .val (.int (((p5.toUInt32 >>> ((6 : Int32) &&& 31).toUInt32).toInt32) &&& (3 : Int32))), .unset, .unset, .unset] [(.ref sx10)])) _
        refine XS.astore X10.here hx rfl (hb hby at_51) rfl rfl (l' := #[.val (.int p0), .val (.int p1), .val (.int p2), .val (.int p3), .val (.int p4), .val (.int p5), .val (.ref sx2), .val (.ref sx7), .val (.int (((p5.toUInt32 >>> ((6 : Int32) &&& 31).toUInt32).toInt32) &&& (3 : Int32))), .val (.ref sx10), .unset, .unset]) rfl ?_
        show Steps pg.tables ee below (T10.setTop (mkF mm 53 #[.val (.int p0), .val (.int p1), .val (.int p2), .val (.int p3), .val (.int p4), .val (.int p5), .val (.ref sx2), .val (.ref sx7), .val (.int (((p5.toUInt32 >>> ((6 : Int32) &&& 31).toUInt32).toInt32) &&& (3 : Int32))), .val (.ref sx10), .unset, .unset] [])) _
        refine XS.aload X10.here hx rfl (hb hby at_53) rfl rfl ?_
        show Steps pg.tables ee below (T10.setTop (mkF mm 55 #[.val (.int p0), .val (.int p1), .val (.int p2), .val (.int p3), .val (.int p4), .val (.int p5), .val (.ref sx2), .val (.ref sx7), .val (.int (((p5.toUInt32 >>> ((6 : Int32) &&& 31).toUInt32).toInt32) &&& (3 : Int32))), .val (.ref sx10), .unset, .unset] [(.ref sx2)])) _
        refine XS.iloadN X10.here hx rfl (hb hby at_55) rfl ?_
        show Steps pg.tables ee below (T10.setTop (mkF mm 56 #[.val (.int p0), .val (.int p1), .val (.int p2), .val (.int p3), .val (.int p4), .val (.int p5), .val (.ref sx2), .val (.ref sx7), .val (.int (((p5.toUInt32 >>> ((6 : Int32) &&& 31).toUInt32).toInt32) &&& (3 : Int32))), .val (.ref sx10), .unset, .unset] [(.int p0), (.ref sx2)])) _
        refine XS.iloadN X10.here hx rfl (hb hby at_56) rfl ?_
        show Steps pg.tables ee below (T10.setTop (mkF mm 57 #[.val (.int p0), .val (.int p1), .val (.int p2), .val (.int p3), .val (.int p4), .val (.int p5), .val (.ref sx2), .val (.ref sx7), .val (.int (((p5.toUInt32 >>> ((6 : Int32) &&& 31).toUInt32).toInt32) &&& (3 : Int32))), .val (.ref sx10), .unset, .unset] [(.int p1), (.int p0), (.ref sx2)])) _
        refine XS.aload X10.here hx rfl (hb hby at_57) rfl rfl ?_
        show Steps pg.tables ee below (T10.setTop (mkF mm 59 #[.val (.int p0), .val (.int p1), .val (.int p2), .val (.int p3), .val (.int p4), .val (.int p5), .val (.ref sx2), .val (.ref sx7), .val (.int (((p5.toUInt32 >>> ((6 : Int32) &&& 31).toUInt32).toInt32) &&& (3 : Int32))), .val (.ref sx10), .unset, .unset] [(.ref sx7), (.int p1), (.int p0), (.ref sx2)])) _
        refine st11 _ ?_
        show Steps pg.tables ee below (T11.setTop (mkF mm 62 #[.val (.int p0), .val (.int p1), .val (.int p2), .val (.int p3), .val (.int p4), .val (.int p5), .val (.ref sx2), .val (.ref sx7), .val (.int (((p5.toUInt32 >>> ((6 : Int32) &&& 31).toUInt32).toInt32) &&& (3 : Int32))), .val (.ref sx10), .unset, .unset] [(.ref tl11)])) _
        refine XS.astore X11.here hx rfl (hb hby at_62) rfl rfl (l' := #[.val (.int p0), .val (.int p1), .val (.int p2), .val (.int p3), .val (.int p4), .val (.int p5), .val (.ref sx2), .val (.ref sx7), .val (.int (((p5.toUInt32 >>> ((6 : Int32) &&& 31).toUInt32).toInt32) &&& (3 : Int32))), .val (.ref sx10), .val (.ref tl11), .unset]) rfl ?_
        show Steps pg.tables ee below (T11.setTop (mkF mm 64 #[.val (.int p0), .val (.int p1), .val (.int p2), .val (.int p3), .val (.int p4), .val (.int p5), .val (.ref sx2), .val (.ref sx7), .val (.int (((p5.toUInt32 >>> ((6 : Int32) &&& 31).toUInt32).toInt32) &&& (3 : Int32))), .val (.ref sx10), .val (.ref tl11), .unset] [])) _
        refine XS.aload X11.here hx rfl (hb hby at_64) rfl rfl ?_
        show Steps pg.tables ee below (T11.setTop (mkF mm 66 #[.val (.int p0), .val (.int p1), .val (.int p2), .val (.int p3), .val (.int p4), .val (.int p5), .val (.ref sx2), .val (.ref sx7), .val (.int (((p5.toUInt32 >>> ((6 : Int32) &&& 31).toUInt32).toInt32) &&& (3 : Int32))), .val (.ref sx10), .val (.ref tl11), .unset] [(.ref sx2)])) _
        refine XS.aload X11.here hx rfl (hb hby at_66) rfl rfl ?_
        show Steps pg.tables ee below (T11.setTop (mkF mm 68 #[.val (.int p0), .val (.int p1), .val (.int p2), .val (.int p3), .val (.int p4), .val (.int p5), .val (.ref sx2), .val (.ref sx7), .val (.int (((p5.toUInt32 >>> ((6 : Int32) &&& 31).toUInt32).toInt32) &&& (3 : Int32))), .val (.ref sx10), .val (.ref tl11), .unset] [(.ref tl11), (.ref sx2)])) _
        refine st13.trans ?_
        show Steps pg.tables ee below (T13.setTop (mkF mm 71 #[.val (.int p0), .val (.int p1), .val (.int p2), .val (.int p3), .val (.int p4), .val (.int p5), .val (.ref sx2), .val (.ref sx7), .val (.int (((p5.toUInt32 >>> ((6 : Int32) &&& 31).toUInt32).toInt32) &&& (3 : Int32))), .val (.ref sx10), .val (.ref tl11), .unset] [(.ref sx2), (.ref sx2)])) _
        refine st15.trans ?_
        show Steps pg.tables ee below (T15.setTop (mkF mm 74 #[.val (.int p0), .val (.int p1), .val (.int p2), .val (.int p3), .val (.int p4), .val (.int p5), .val (.ref sx2), .val (.ref sx7), .val (.int (((p5.toUInt32 >>> ((6 : Int32) &&& 31).toUInt32).toInt32) &&& (3 : Int32))), .val (.ref sx10), .val (.ref tl11), .unset] [(.int (1 : Int32))])) _
        refine XS.ifNo X15.here hx rfl (hb hby at_74) rfl ((if0 _ _).trans (feq (by decide : ¬ ((1 : Int32) = (0 : Int32)))).1) ?_
        show Steps pg.tables ee below (T15.setTop (mkF mm 77 #[.val (.int p0), .val (.int p1), .val (.int p2), .val (.int p3), .val (.int p4), .val (.int p5), .val (.ref sx2), .val (.ref sx7), .val (.int (((p5.toUInt32 >>> ((6 : Int32) &&& 31).toUInt32).toInt32) &&& (3 : Int32))), .val (.ref sx10), .val (.ref tl11), .unset] [])) _
        refine XS.aload X15.here hx rfl (hb hby at_77) rfl rfl ?_
        show Steps pg.tables ee below (T15.setTop (mkF mm 79 #[.val (.int p0), .val (.int p1), .val (.int p2), .val (.int p3), .val (.int p4), .val (.int p5), .val (.ref sx2), .val (.ref sx7), .val (.int (((p5.toUInt32 >>> ((6 : Int32) &&& 31).toUInt32).toInt32) &&& (3 : Int32))), .val (.ref sx10), .val (.ref tl11), .unset] [(.ref tl11)])) _
        refine st17.trans ?_
        show Steps pg.tables ee below (T17.setTop (mkF mm 82 #[.val (.int p0), .val (.int p1), .val (.int p2), .val (.int p3), .val (.int p4), .val (.int p5), .val (.ref sx2), .val (.ref sx7), .val (.int (((p5.toUInt32 >>> ((6 : Int32) &&& 31).toUInt32).toInt32) &&& (3 : Int32))), .val (.ref sx10), .val (.ref tl11), .unset] [(.int p0)])) _
        refine XS.iloadN X17.here hx rfl (hb hby at_82) rfl ?_
        show Steps pg.tables ee below (T17.setTop (mkF mm 83 #[.val (.int p0), .val (.int p1), .val (.int p2), .val (.int p3), .val (.int p4), .val (.int p5), .val (.ref sx2), .val (.ref sx7), .val (.int (((p5.toUInt32 >>> ((6 : Int32) &&& 31).toUInt32).toInt32) &&& (3 : Int32))), .val (.ref sx10), .val (.ref tl11), .unset] [(.int p0), (.int p0)])) _
        refine XS.icmpNo X17.here hx rfl (hb hby at_83) rfl (teq (rfl : p0 = p0)).2 ?_
        show Steps pg.tables ee below (T17.setTop (mkF mm 86 #[.val (.int p0), .val (.int p1), .val (.int p2), .val (.int p3), .val (.int p4), .val (.int p5), .val (.ref sx2), .val (.ref sx7), .val (.int (((p5.toUInt32 >>> ((6 : Int32) &&& 31).toUInt32).toInt32) &&& (3 : Int32))), .val (.ref sx10), .val (.ref tl11), .unset] [])) _
        refine XS.aload X17.here hx rfl (hb hby at_86) rfl rfl ?_
        show Steps pg.tables ee below (T17.setTop (mkF mm 88 #[.val (.int p0), .val (.int p1), .val (.int p2), .val (.int p3), .val (.int p4), .val (.int p5), .val (.ref sx2), .val (.ref sx7), .val (.int (((p5.toUInt32 >>> ((6 : Int32) &&& 31).toUInt32).toInt32) &&& (3 : Int32))), .val (.ref sx10), .val (.ref tl11), .unset] [(.ref tl11)])) _
        refine st19.trans ?_
        show Steps pg.tables ee below (T19.setTop (mkF mm 91 #[.val (.int p0), .val (.int p1), .val (.int p2), .val (.int p3), .val (.int p4), .val (.int p5), .val (.ref sx2), .val (.ref sx7), .val (.int (((p5.toUInt32 >>> ((6 : Int32) &&& 31).toUInt32).toInt32) &&& (3 : Int32))), .val (.ref sx10), .val (.ref tl11), .unset] [(.int p1)])) _
        refine XS.iloadN X19.here hx rfl (hb hby at_91) rfl ?_
        show Steps pg.tables ee below (T19.setTop (mkF mm 92 #[.val (.int p0), .val (.int p1), .val (.int p2), .val (.int p3), .val (.int p4), .val (.int p5), .val (.ref sx2), .val (.ref sx7), .val (.int (((p5.toUInt32 >>> ((6 : Int32) &&& 31).toUInt32).toInt32) &&& (3 : Int32))), .val (.ref sx10), .val (.ref tl11), .unset] [(.int p1), (.int p1)])) _
        refine XS.icmpNo X19.here hx rfl (hb hby at_92) rfl (teq (rfl : p1 = p1)).2 ?_
        show Steps pg.tables ee below (T19.setTop (mkF mm 95 #[.val (.int p0), .val (.int p1), .val (.int p2), .val (.int p3), .val (.int p4), .val (.int p5), .val (.ref sx2), .val (.ref sx7), .val (.int (((p5.toUInt32 >>> ((6 : Int32) &&& 31).toUInt32).toInt32) &&& (3 : Int32))), .val (.ref sx10), .val (.ref tl11), .unset] [])) _
        refine XS.aload X19.here hx rfl (hb hby at_95) rfl rfl ?_
        show Steps pg.tables ee below (T19.setTop (mkF mm 97 #[.val (.int p0), .val (.int p1), .val (.int p2), .val (.int p3), .val (.int p4), .val (.int p5), .val (.ref sx2), .val (.ref sx7), .val (.int (((p5.toUInt32 >>> ((6 : Int32) &&& 31).toUInt32).toInt32) &&& (3 : Int32))), .val (.ref sx10), .val (.ref tl11), .unset] [(.ref tl11)])) _
        refine st21.trans ?_
        show Steps pg.tables ee below (T21.setTop (mkF mm 100 #[.val (.int p0), .val (.int p1), .val (.int p2), .val (.int p3), .val (.int p4), .val (.int p5), .val (.ref sx2), .val (.ref sx7), .val (.int (((p5.toUInt32 >>> ((6 : Int32) &&& 31).toUInt32).toInt32) &&& (3 : Int32))), .val (.ref sx10), .val (.ref tl11), .unset] [(.int (0 : Int32))])) _
        refine XS.ifNo X21.here hx rfl (hb hby at_100) rfl ((if0 _ _).trans (teq (by decide : (0 : Int32) = (0 : Int32))).2) ?_
        show Steps pg.tables ee below (T21.setTop (mkF mm 103 #[.val (.int p0), .val (.int p1), .val (.int p2), .val (.int p3), .val (.int p4), .val (.int p5), .val (.ref sx2), .val (.ref sx7), .val (.int (((p5.toUInt32 >>> ((6 : Int32) &&& 31).toUInt32).toInt32) &&& (3 : Int32))), .val (.ref sx10), .val (.ref tl11), .unset] [])) _
        refine XS.aload X21.here hx rfl (hb hby at_103) rfl rfl ?_
        show Steps pg.tables ee below (T21.setTop (mkF mm 105 #[.val (.int p0), .val (.int p1), .val (.int p2), .val (.int p3), .val (.int p4), .val (.int p5), .val (.ref sx2), .val (.ref sx7), .val (.int (((p5.toUInt32 >>> ((6 : Int32) &&& 31).toUInt32).toInt32) &&& (3 : Int32))), .val (.ref sx10), .val (.ref tl11), .unset] [(.ref sx7)])) _
        refine XS.aload X21.here hx rfl (hb hby at_105) rfl rfl ?_
        show Steps pg.tables ee below (T21.setTop (mkF mm 107 #[.val (.int p0), .val (.int p1), .val (.int p2), .val (.int p3), .val (.int p4), .val (.int p5), .val (.ref sx2), .val (.ref sx7), .val (.int (((p5.toUInt32 >>> ((6 : Int32) &&& 31).toUInt32).toInt32) &&& (3 : Int32))), .val (.ref sx10), .val (.ref tl11), .unset] [(.ref tl11), (.ref sx7)])) _
        refine st23.trans ?_
        show Steps pg.tables ee below (T23.setTop (mkF mm 110 #[.val (.int p0), .val (.int p1), .val (.int p2), .val (.int p3), .val (.int p4), .val (.int p5), .val (.ref sx2), .val (.ref sx7), .val (.int (((p5.toUInt32 >>> ((6 : Int32) &&& 31).toUInt32).toInt32) &&& (3 : Int32))), .val (.ref sx10), .val (.ref tl11), .unset] [(.ref sx7), (.ref sx7)])) _
        refine st25 _ ?_
        show Steps pg.tables ee below (T25.setTop (mkF mm 113 #[.val (.int p0), .val (.int p1), .val (.int p2), .val (.int p3), .val (.int p4), .val (.int p5), .val (.ref sx2), .val (.ref sx7), .val (.int (((p5.toUInt32 >>> ((6 : Int32) &&& 31).toUInt32).toInt32) &&& (3 : Int32))), .val (.ref sx10), .val (.ref tl11), .unset] [(.int (1 : Int32))])) _
        refine XS.ifNo X25.here hx rfl (hb hby at_113) rfl ((if0 _ _).trans (feq (by decide : ¬ ((1 : Int32) = (0 : Int32)))).1) ?_
        show Steps pg.tables ee below (T25.setTop (mkF mm 116 #[.val (.int p0), .val (.int p1), .val (.int p2), .val (.int p3), .val (.int p4), .val (.int p5), .val (.ref sx2), .val (.ref sx7), .val (.int (((p5.toUInt32 >>> ((6 : Int32) &&& 31).toUInt32).toInt32) &&& (3 : Int32))), .val (.ref sx10), .val (.ref tl11), .unset] [])) _
        refine XS.aload X25.here hx rfl (hb hby at_116) rfl rfl ?_
        show Steps pg.tables ee below (T25.setTop (mkF mm 118 #[.val (.int p0), .val (.int p1), .val (.int p2), .val (.int p3), .val (.int p4), .val (.int p5), .val (.ref sx2), .val (.ref sx7), .val (.int (((p5.toUInt32 >>> ((6 : Int32) &&& 31).toUInt32).toInt32) &&& (3 : Int32))), .val (.ref sx10), .val (.ref tl11), .unset] [(.ref sx7)])) _
        refine XS.aload X25.here hx rfl (hb hby at_118) rfl rfl ?_
        show Steps pg.tables ee below (T25.setTop (mkF mm 120 #[.val (.int p0), .val (.int p1), .val (.int p2), .val (.int p3), .val (.int p4), .val (.int p5), .val (.ref sx2), .val (.ref sx7), .val (.int (((p5.toUInt32 >>> ((6 : Int32) &&& 31).toUInt32).toInt32) &&& (3 : Int32))), .val (.ref sx10), .val (.ref tl11), .unset] [(.ref tl11), (.ref sx7)])) _
        refine XS.aconstNull X25.here hx rfl (hb hby at_120) ?_
        show Steps pg.tables ee below (T25.setTop (mkF mm 121 #[.val (.int p0), .val (.int p1), .val (.int p2), .val (.int p3), .val (.int p4), .val (.int p5), .val (.ref sx2), .val (.ref sx7), .val (.int (((p5.toUInt32 >>> ((6 : Int32) &&& 31).toUInt32).toInt32) &&& (3 : Int32))), .val (.ref sx10), .val (.ref tl11), .unset] [.null, (.ref tl11), (.ref sx7)])) _
        refine st27.trans ?_
        show Steps pg.tables ee below (T27.setTop (mkF mm 124 #[.val (.int p0), .val (.int p1), .val (.int p2), .val (.int p3), .val (.int p4), .val (.int p5), .val (.ref sx2), .val (.ref sx7), .val (.int (((p5.toUInt32 >>> ((6 : Int32) &&& 31).toUInt32).toInt32) &&& (3 : Int32))), .val (.ref sx10), .val (.ref tl11), .unset] [(.ref sx7), (.ref sx7)])) _
        refine st29 _ ?_
        show Steps pg.tables ee below (T29.setTop (mkF mm 127 #[.val (.int p0), .val (.int p1), .val (.int p2), .val (.int p3), .val (.int p4), .val (.int p5), .val (.ref sx2), .val (.ref sx7), .val (.int (((p5.toUInt32 >>> ((6 : Int32) &&& 31).toUInt32).toInt32) &&& (3 : Int32))), .val (.ref sx10), .val (.ref tl11), .unset] [(.int (1 : Int32))])) _
        refine XS.ifNo X29.here hx rfl (hb hby at_127) rfl ((if0 _ _).trans (feq (by decide : ¬ ((1 : Int32) = (0 : Int32)))).1) ?_
        show Steps pg.tables ee below (T29.setTop (mkF mm 130 #[.val (.int p0), .val (.int p1), .val (.int p2), .val (.int p3), .val (.int p4), .val (.int p5), .val (.ref sx2), .val (.ref sx7), .val (.int (((p5.toUInt32 >>> ((6 : Int32) &&& 31).toUInt32).toInt32) &&& (3 : Int32))), .val (.ref sx10), .val (.ref tl11), .unset] [])) _
        refine XS.iconst X29.here hx rfl (hb hby at_130) ?_
        show Steps pg.tables ee below (T29.setTop (mkF mm 131 #[.val (.int p0), .val (.int p1), .val (.int p2), .val (.int p3), .val (.int p4), .val (.int p5), .val (.ref sx2), .val (.ref sx7), .val (.int (((p5.toUInt32 >>> ((6 : Int32) &&& 31).toUInt32).toInt32) &&& (3 : Int32))), .val (.ref sx10), .val (.ref tl11), .unset] [(.int (1 : Int32))])) _
        refine XS.goto X29.here hx rfl (pc0 := 131) (pc' := 135) rfl (hb hby at_131) (by decide) (by decide) ?_
        show Steps pg.tables ee below (T29.setTop (mkF mm 135 #[.val (.int p0), .val (.int p1), .val (.int p2), .val (.int p3), .val (.int p4), .val (.int p5), .val (.ref sx2), .val (.ref sx7), .val (.int (((p5.toUInt32 >>> ((6 : Int32) &&& 31).toUInt32).toInt32) &&& (3 : Int32))), .val (.ref sx10), .val (.ref tl11), .unset] [(.int (1 : Int32))])) _
        refine XS.istore X29.here hx rfl (hb hby at_135) rfl (l' := #[.val (.int p0), .val (.int p1), .val (.int p2), .val (.int p3), .val (.int p4), .val (.int p5), .val (.ref sx2), .val (.ref sx7), .val (.int (((p5.toUInt32 >>> ((6 : Int32) &&& 31).toUInt32).toInt32) &&& (3 : Int32))), .val (.ref sx10), .val (.ref tl11), .val (.int (1 : Int32))]) rfl ?_
        show Steps pg.tables ee below (T29.setTop (mkF mm 137 #[.val (.int p0), .val (.int p1), .val (.int p2), .val (.int p3), .val (.int p4), .val (.int p5), .val (.ref sx2), .val (.ref sx7), .val (.int (((p5.toUInt32 >>> ((6 : Int32) &&& 31).toUInt32).toInt32) &&& (3 : Int32))), .val (.ref sx10), .val (.ref tl11), .val (.int (1 : Int32))] [])) _
        refine XS.iload X29.here hx rfl (hb hby at_137) rfl ?_
        show Steps pg.tables ee below (T29.setTop (mkF mm 139 #[.val (.int p0), .val (.int p1), .val (.int p2), .val (.int p3), .val (.int p4), .val (.int p5), .val (.ref sx2), .val (.ref sx7), .val (.int (((p5.toUInt32 >>> ((6 : Int32) &&& 31).toUInt32).toInt32) &&& (3 : Int32))), .val (.ref sx10), .val (.ref tl11), .val (.int (1 : Int32))] [(.int (1 : Int32))])) _
        refine XS.ifNo X29.here hx rfl (hb hby at_139) rfl ((if0 _ _).trans (feq (by decide : ¬ ((1 : Int32) = (0 : Int32)))).1) ?_
        show Steps pg.tables ee below (T29.setTop (mkF mm 142 #[.val (.int p0), .val (.int p1), .val (.int p2), .val (.int p3), .val (.int p4), .val (.int p5), .val (.ref sx2), .val (.ref sx7), .val (.int (((p5.toUInt32 >>> ((6 : Int32) &&& 31).toUInt32).toInt32) &&& (3 : Int32))), .val (.ref sx10), .val (.ref tl11), .val (.int (1 : Int32))] [])) _
        refine XS.iloadN X29.here hx rfl (hb hby at_142) rfl ?_
        show Steps pg.tables ee below (T29.setTop (mkF mm 143 #[.val (.int p0), .val (.int p1), .val (.int p2), .val (.int p3), .val (.int p4), .val (.int p5), .val (.ref sx2), .val (.ref sx7), .val (.int (((p5.toUInt32 >>> ((6 : Int32) &&& 31).toUInt32).toInt32) &&& (3 : Int32))), .val (.ref sx10), .val (.ref tl11), .val (.int (1 : Int32))] [(.int p0)])) _
        refine XS.iload X29.here hx rfl (hb hby at_143) rfl ?_
        exact k_)
    by_cases hc31 : (((p5.toUInt32 >>> ((6 : Int32) &&& 31).toUInt32).toInt32) &&& (3 : Int32)) < p0
    · obtain ⟨fs, hr, hrun, hended, hRW⟩ := X29.leaveW hS10 (by rw [e29]; exact hk11) (v := some (.int (1 : Int32))) (fun h => by rw [Bd.returns] at h; cases h)
      refine ⟨_, _, pre30 _ ?_, hrun, hended, _, _, rfl, ?_, (own_rmono hRW (by decide) (by decide))⟩
      · show Steps pg.tables ee below (T29.setTop (mkF mm 145 #[.val (.int p0), .val (.int p1), .val (.int p2), .val (.int p3), .val (.int p4), .val (.int p5), .val (.ref sx2), .val (.ref sx7), .val (.int (((p5.toUInt32 >>> ((6 : Int32) &&& 31).toUInt32).toInt32) &&& (3 : Int32))), .val (.ref sx10), .val (.ref tl11), .val (.int (1 : Int32))] [(.int (((p5.toUInt32 >>> ((6 : Int32) &&& 31).toUInt32).toInt32) &&& (3 : Int32))), (.int p0)])) _
        refine XS.icmpYes X29.here hx rfl (pc0 := 145) (pc' := 168) rfl (hb hby at_145) rfl (tlt hc31).2.2.1 (by decide) (by decide) ?_
        show Steps pg.tables ee below (T29.setTop (mkF mm 168 #[.val (.int p0), .val (.int p1), .val (.int p2), .val (.int p3), .val (.int p4), .val (.int p5), .val (.ref sx2), .val (.ref sx7), .val (.int (((p5.toUInt32 >>> ((6 : Int32) &&& 31).toUInt32).toInt32) &&& (3 : Int32))), .val (.ref sx10), .val (.ref tl11), .val (.int (1 : Int32))] [])) _
        refine XS.iload X29.here hx rfl (hb hby at_168) rfl ?_
        show Steps pg.tables ee below (T29.setTop (mkF mm 170 #[.val (.int p0), .val (.int p1), .val (.int p2), .val (.int p3), .val (.int p4), .val (.int p5), .val (.ref sx2), .val (.ref sx7), .val (.int (((p5.toUInt32 >>> ((6 : Int32) &&& 31).toUInt32).toInt32) &&& (3 : Int32))), .val (.ref sx10), .val (.ref tl11), .val (.int (1 : Int32))] [(.int (1 : Int32))])) _
        exact retN X29 hx (t := .boolean) Bd.returns (by simp) (hb hby at_170) hr
      · show Qrm0 Z p0 p1 p2 p3 p4 p5 cs h0 n0 _ T29.heap _
        rw [e29]
        exact ⟨rfl, N29⟩
    · have pre32 : ∀ tg_, Steps pg.tables ee below (T29.setTop (mkF mm 151 #[.val (.int p0), .val (.int p1), .val (.int p2), .val (.int p3), .val (.int p4), .val (.int p5), .val (.ref sx2), .val (.ref sx7), .val (.int (((p5.toUInt32 >>> ((6 : Int32) &&& 31).toUInt32).toInt32) &&& (3 : Int32))), .val (.ref sx10), .val (.ref tl11), .val (.int (1 : Int32))] [(.int p1), (.int (((p5.toUInt32 >>> ((6 : Int32) &&& 31).toUInt32).toInt32) &&& (3 : Int32)))])) tg_ → Steps pg.tables ee below (s₁.setTop (entryFrame mm #[(.int p0), (.int p1), (.int p2), (.int p3), (.int p4), (.int p5)] maxLocals)) tg_ := fun tg_ k_ => pre30 tg_ (by
          show Steps pg.tables ee below (T29.setTop (mkF mm 145 #[.val (.int p0), .val (.int p1), .val (.int p2), .val (.int p3), .val (.int p4), .val (.int p5), .val (.ref sx2), .val (.ref sx7), .val (.int (((p5.toUInt32 >>> ((6 : Int32) &&& 31).toUInt32).toInt32) &&& (3 : Int32))), .val (.ref sx10), .val (.ref tl11), .val (.int (1 : Int32))] [(.int (((p5.toUInt32 >>> ((6 : Int32) &&& 31).toUInt32).toInt32) &&& (3 : Int32))), (.int p0)])) _
          refine XS.icmpNo X29.here hx rfl (hb hby at_145) rfl (flt hc31).2.2.1 ?_
          show Steps pg.tables ee below (T29.setTop (mkF mm 148 #[.val (.int p0), .val (.int p1), .val (.int p2), .val (.int p3), .val (.int p4), .val (.int p5), .val (.ref sx2), .val (.ref sx7), .val (.int (((p5.toUInt32 >>> ((6 : Int32) &&& 31).toUInt32).toInt32) &&& (3 : Int32))), .val (.ref sx10), .val (.ref tl11), .val (.int (1 : Int32))] [])) _
          refine XS.iload X29.here hx rfl (hb hby at_148) rfl ?_
          show Steps pg.tables ee below (T29.setTop (mkF mm 150 #[.val (.int p0), .val (.int p1), .val (.int p2), .val (.int p3), .val (.int p4), .val (.int p5), .val (.ref sx2), .val (.ref sx7), .val (.int (((p5.toUInt32 >>> ((6 : Int32) &&& 31).toUInt32).toInt32) &&& (3 : Int32))), .val (.ref sx10), .val (.ref tl11), .val (.int (1 : Int32))] [(.int (((p5.toUInt32 >>> ((6 : Int32) &&& 31).toUInt32).toInt32) &&& (3 : Int32)))])) _
          refine XS.iloadN X29.here hx rfl (hb hby at_150) rfl ?_
          exact k_)
      by_cases hc33 : p1 < (((p5.toUInt32 >>> ((6 : Int32) &&& 31).toUInt32).toInt32) &&& (3 : Int32))
      · obtain ⟨fs, hr, hrun, hended, hRW⟩ := X29.leaveW hS10 (by rw [e29]; exact hk11) (v := some (.int (1 : Int32))) (fun h => by rw [Bd.returns] at h; cases h)
        refine ⟨_, _, pre32 _ ?_, hrun, hended, _, _, rfl, ?_, (own_rmono hRW (by decide) (by decide))⟩
        · show Steps pg.tables ee below (T29.setTop (mkF mm 151 #[.val (.int p0), .val (.int p1), .val (.int p2), .val (.int p3), .val (.int p4), .val (.int p5), .val (.ref sx2), .val (.ref sx7), .val (.int (((p5.toUInt32 >>> ((6 : Int32) &&& 31).toUInt32).toInt32) &&& (3 : Int32))), .val (.ref sx10), .val (.ref tl11), .val (.int (1 : Int32))] [(.int p1), (.int (((p5.toUInt32 >>> ((6 : Int32) &&& 31).toUInt32).toInt32) &&& (3 : Int32)))])) _
          refine XS.icmpYes X29.here hx rfl (pc0 := 151) (pc' := 168) rfl (hb hby at_151) rfl (tlt hc33).2.2.1 (by decide) (by decide) ?_
          show Steps pg.tables ee below (T29.setTop (mkF mm 168 #[.val (.int p0), .val (.int p1), .val (.int p2), .val (.int p3), .val (.int p4), .val (.int p5), .val (.ref sx2), .val (.ref sx7), .val (.int (((p5.toUInt32 >>> ((6 : Int32) &&& 31).toUInt32).toInt32) &&& (3 : Int32))), .val (.ref sx10), .val (.ref tl11), .val (.int (1 : Int32))] [])) _
          refine XS.iload X29.here hx rfl (hb hby at_168) rfl ?_
          show Steps pg.tables ee below (T29.setTop (mkF mm 170 #[.val (.int p0), .val (.int p1), .val (.int p2), .val (.int p3), .val (.int p4), .val (.int p5), .val (.ref sx2), .val (.ref sx7), .val (.int (((p5.toUInt32 >>> ((6 : Int32) &&& 31).toUInt32).toInt32) &&& (3 : Int32))), .val (.ref sx10), .val (.ref tl11), .val (.int (1 : Int32))] [(.int (1 : Int32))])) _
          exact retN X29 hx (t := .boolean) Bd.returns (by simp) (hb hby at_170) hr
        · show Qrm0 Z p0 p1 p2 p3 p4 p5 cs h0 n0 _ T29.heap _
          rw [e29]
          exact ⟨rfl, N29⟩
      · obtain ⟨LL34, XL34, NL34⟩ := own_loose X29 N29
        obtain ⟨cq35, kq35, q35a, q35b, q35c⟩ := isOf hZ e29 Ex11
        obtain ⟨_, _, ⟨T35, L35, k35, n35⟩, -, X35, ⟨Lc35, hQ35, l35, y35, z35⟩, st35⟩ := XL34.virtualBack hx (y := (⟨"com/example/orders_into_outcomes/ordersintooutcomes/model/TextLimit", "check", "(Ljava/lang/String;)Ljava/lang/String;"⟩ : MethodName)) (z := (⟨"com/example/orders_into_outcomes/ordersintooutcomes/model/TextLimit", "check", "(Ljava/lang/String;)Ljava/lang/String;"⟩ : MethodName)) hown (mvT hZ (hw _ (List.mem_of_getElem? (i := 79) rfl))) (mvT hZ (hw _ (List.mem_of_getElem? (i := 80) rfl))) (notFace_of_selects (args := #[]) (mvT hZ (hw _ (List.mem_of_getElem? (i := 82) rfl)))) (mvT hZ (hw _ (List.mem_of_getElem? (i := 82) rfl))) (mvT hZ (hw _ (List.mem_of_getElem? (i := 81) rfl))) (by decide) (backOf (W := 1) (rmK1R l Z a0 hw [] tl11 sx2 p0 p1 sx7 sx10 sd10 kd10 (((p5.toUInt32 >>> ((6 : Int32) &&& 31).toUInt32).toInt32) &&& (3 : Int32)) vs10 cs T11.heap n0 O11 Ft0_11 Ft1_11 Ft2_11 Ft3_11 Ft4_11 Ex11 (Fc10.keep K11 nin0) (Fv10.keep K11 nin0) (Va10.keep K11 nin0) (Ex10.keep K11) S_CS hcs (own_nn3 _) hc31 hc33) hZ (hw _ (List.mem_of_getElem? (i := 83) rfl)) (hw _ (List.mem_of_getElem? (i := 28) rfl)) (by decide) (by decide)) q35a q35c (g := (mkF mm 160 #[.val (.int p0), .val (.int p1), .val (.int p2), .val (.int p3), .val (.int p4), .val (.int p5), .val (.ref sx2), .val (.ref sx7), .val (.int (((p5.toUInt32 >>> ((6 : Int32) &&& 31).toUInt32).toInt32) &&& (3 : Int32))), .val (.ref sx10), .val (.ref tl11), .val (.int (1 : Int32))] [(.ref sx10), (.ref tl11), (.ref sx10)])) rfl (by rw [hml]; rfl) (Steps.refl _) (argsL := [(.ref sx10)]) (rest := [(.ref sx10)]) (lenOf pd_359 rfl) rfl (by show 2 * 0 + _ ≤ _; exact Nat.le_of_eq rfl) (hb hby at_160) (fun _ _ => ⟨rfl, e29, (by decide : 19 + 0 ≤ _), (by decide : 41 + 0 ≤ _)⟩)
        dsimp only [Pt.U, Pt.locs, Pt.cells, Pt.slots] at X35 l35 y35 z35 st35 hQ35
        subst l35 y35 z35
        obtain ⟨rfl, N35q, e35⟩ := hQ35
        have N35 := Fr.app NL34 N35q
        obtain ⟨LL36, XL36, NL36⟩ := own_loose X35 N35
        obtain ⟨cq37, kq37, q37a, q37b, q37c⟩ := isOf hZ e35 (Ex10.keep K11)
        obtain ⟨_, _, ⟨T37, L37, k37, n37⟩, -, X37, ⟨Lc37, hQ37, l37, y37, z37⟩, st37⟩ := XL36.virtualBack hx (y := (⟨"java/lang/String", "equals", "(Ljava/lang/Object;)Z"⟩ : MethodName)) (z := (⟨"java/lang/String", "equals", "(Ljava/lang/Object;)Z"⟩ : MethodName)) hown (mvT hZ (hw _ (List.mem_of_getElem? (i := 51) rfl))) (mvT hZ (hw _ (List.mem_of_getElem? (i := 52) rfl))) (notFace_of_selects (args := #[]) (mvT hZ (hw _ (List.mem_of_getElem? (i := 54) rfl)))) (mvT hZ (hw _ (List.mem_of_getElem? (i := 54) rfl))) (mvT hZ (hw _ (List.mem_of_getElem? (i := 53) rfl))) (by decide) (backOf (W := 0) (rmEq l Z a0 hw [] sx10 T11.heap n0 O11) hZ (hw _ (List.mem_of_getElem? (i := 55) rfl)) (hw _ (List.mem_of_getElem? (i := 6) rfl)) (by decide) (by decide)) q37a q37c (g := (mkF mm 163 #[.val (.int p0), .val (.int p1), .val (.int p2), .val (.int p3), .val (.int p4), .val (.int p5), .val (.ref sx2), .val (.ref sx7), .val (.int (((p5.toUInt32 >>> ((6 : Int32) &&& 31).toUInt32).toInt32) &&& (3 : Int32))), .val (.ref sx10), .val (.ref tl11), .val (.int (1 : Int32))] [(.ref sx10), (.ref sx10)])) rfl (by rw [hml]; rfl) (Steps.refl _) (argsL := [(.ref sx10)]) (rest := []) (lenOf pd_82 rfl) rfl (by show 2 * 0 + _ ≤ _; exact Nat.le_of_eq rfl) (hb hby at_163) (fun _ _ => ⟨rfl, e35, (by decide : 19 + 0 ≤ _), (by decide : 41 + 0 ≤ _)⟩)
        dsimp only [Pt.U, Pt.locs, Pt.cells, Pt.slots] at X37 l37 y37 z37 st37 hQ37
        subst l37 y37 z37
        obtain ⟨rfl, N37q, e37⟩ := hQ37
        have N37 := Fr.app NL36 N37q
        obtain ⟨fs, hr, hrun, hended, hRW⟩ := X37.leaveW hS10 (by rw [e37]; exact hk11) (v := some (.int (1 : Int32))) (fun h => by rw [Bd.returns] at h; cases h)
        refine ⟨_, _, pre32 _ ?_, hrun, hended, _, _, rfl, ?_, (own_rmono hRW (by decide) (by decide))⟩
        · show Steps pg.tables ee below (T29.setTop (mkF mm 151 #[.val (.int p0), .val (.int p1), .val (.int p2), .val (.int p3), .val (.int p4), .val (.int p5), .val (.ref sx2), .val (.ref sx7), .val (.int (((p5.toUInt32 >>> ((6 : Int32) &&& 31).toUInt32).toInt32) &&& (3 : Int32))), .val (.ref sx10), .val (.ref tl11), .val (.int (1 : Int32))] [(.int p1), (.int (((p5.toUInt32 >>> ((6 : Int32) &&& 31).toUInt32).toInt32) &&& (3 : Int32)))])) _
          refine XS.icmpNo X29.here hx rfl (hb hby at_151) rfl (flt hc33).2.2.1 ?_
          show Steps pg.tables ee below (T29.setTop (mkF mm 154 #[.val (.int p0), .val (.int p1), .val (.int p2), .val (.int p3), .val (.int p4), .val (.int p5), .val (.ref sx2), .val (.ref sx7), .val (.int (((p5.toUInt32 >>> ((6 : Int32) &&& 31).toUInt32).toInt32) &&& (3 : Int32))), .val (.ref sx10), .val (.ref tl11), .val (.int (1 : Int32))] [])) _
          refine XS.aload X29.here hx rfl (hb hby at_154) rfl rfl ?_
          show Steps pg.tables ee below (T29.setTop (mkF mm 156 #[.val (.int p0), .val (.int p1), .val (.int p2), .val (.int p3), .val (.int p4), .val (.int p5), .val (.ref sx2), .val (.ref sx7), .val (.int (((p5.toUInt32 >>> ((6 : Int32) &&& 31).toUInt32).toInt32) &&& (3 : Int32))), .val (.ref sx10), .val (.ref tl11), .val (.int (1 : Int32))] [(.ref sx10)])) _
          refine XS.aload X29.here hx rfl (hb hby at_156) rfl rfl ?_
          show Steps pg.tables ee below (T29.setTop (mkF mm 158 #[.val (.int p0), .val (.int p1), .val (.int p2), .val (.int p3), .val (.int p4), .val (.int p5), .val (.ref sx2), .val (.ref sx7), .val (.int (((p5.toUInt32 >>> ((6 : Int32) &&& 31).toUInt32).toInt32) &&& (3 : Int32))), .val (.ref sx10), .val (.ref tl11), .val (.int (1 : Int32))] [(.ref tl11), (.ref sx10)])) _
          refine XS.aload X29.here hx rfl (hb hby at_158) rfl rfl ?_
          show Steps pg.tables ee below (T29.setTop (mkF mm 160 #[.val (.int p0), .val (.int p1), .val (.int p2), .val (.int p3), .val (.int p4), .val (.int p5), .val (.ref sx2), .val (.ref sx7), .val (.int (((p5.toUInt32 >>> ((6 : Int32) &&& 31).toUInt32).toInt32) &&& (3 : Int32))), .val (.ref sx10), .val (.ref tl11), .val (.int (1 : Int32))] [(.ref sx10), (.ref tl11), (.ref sx10)])) _
          refine st35.trans ?_
          show Steps pg.tables ee below (T35.setTop (mkF mm 163 #[.val (.int p0), .val (.int p1), .val (.int p2), .val (.int p3), .val (.int p4), .val (.int p5), .val (.ref sx2), .val (.ref sx7), .val (.int (((p5.toUInt32 >>> ((6 : Int32) &&& 31).toUInt32).toInt32) &&& (3 : Int32))), .val (.ref sx10), .val (.ref tl11), .val (.int (1 : Int32))] [(.ref sx10), (.ref sx10)])) _
          refine st37.trans ?_
          show Steps pg.tables ee below (T37.setTop (mkF mm 166 #[.val (.int p0), .val (.int p1), .val (.int p2), .val (.int p3), .val (.int p4), .val (.int p5), .val (.ref sx2), .val (.ref sx7), .val (.int (((p5.toUInt32 >>> ((6 : Int32) &&& 31).toUInt32).toInt32) &&& (3 : Int32))), .val (.ref sx10), .val (.ref tl11), .val (.int (1 : Int32))] [(.int (1 : Int32))])) _
          refine XS.istore X37.here hx rfl (hb hby at_166) rfl (l' := #[.val (.int p0), .val (.int p1), .val (.int p2), .val (.int p3), .val (.int p4), .val (.int p5), .val (.ref sx2), .val (.ref sx7), .val (.int (((p5.toUInt32 >>> ((6 : Int32) &&& 31).toUInt32).toInt32) &&& (3 : Int32))), .val (.ref sx10), .val (.ref tl11), .val (.int (1 : Int32))]) rfl ?_
          show Steps pg.tables ee below (T37.setTop (mkF mm 168 #[.val (.int p0), .val (.int p1), .val (.int p2), .val (.int p3), .val (.int p4), .val (.int p5), .val (.ref sx2), .val (.ref sx7), .val (.int (((p5.toUInt32 >>> ((6 : Int32) &&& 31).toUInt32).toInt32) &&& (3 : Int32))), .val (.ref sx10), .val (.ref tl11), .val (.int (1 : Int32))] [])) _
          refine XS.iload X37.here hx rfl (hb hby at_168) rfl ?_
          show Steps pg.tables ee below (T37.setTop (mkF mm 170 #[.val (.int p0), .val (.int p1), .val (.int p2), .val (.int p3), .val (.int p4), .val (.int p5), .val (.ref sx2), .val (.ref sx7), .val (.int (((p5.toUInt32 >>> ((6 : Int32) &&& 31).toUInt32).toInt32) &&& (3 : Int32))), .val (.ref sx10), .val (.ref tl11), .val (.int (1 : Int32))] [(.int (1 : Int32))])) _
          exact retN X37 hx (t := .boolean) Bd.returns (by simp) (hb hby at_170) hr
        · show Qrm0 Z p0 p1 p2 p3 p4 p5 cs h0 n0 _ T37.heap _
          rw [e37]
          exact ⟨rfl, N37⟩
  · obtain ⟨LL38, XL38, NL38⟩ := own_loose X2 N2
    have pre39 : ∀ tg_, Steps pg.tables ee below (T2.setTop (mkF mm 48 #[.val (.int p0), .val (.int p1), .val (.int p2), .val (.int p3), .val (.int p4), .val (.int p5), .val (.ref sx2), .val .null, .val (.int (((p5.toUInt32 >>> ((6 : Int32) &&& 31).toUInt32).toInt32) &&& (3 : Int32))), .unset, .unset, .unset] [(.int p4), (.int (((p5.toUInt32 >>> ((6 : Int32) &&& 31).toUInt32).toInt32) &&& (3 : Int32)))])) tg_ → Steps pg.tables ee below (s₁.setTop (entryFrame mm #[(.int p0), (.int p1), (.int p2), (.int p3), (.int p4), (.int p5)] maxLocals)) tg_ := fun tg_ k_ => pre3 tg_ (by
        show Steps pg.tables ee below (T2.setTop (mkF mm 16 #[.val (.int p0), .val (.int p1), .val (.int p2), .val (.int p3), .val (.int p4), .val (.int p5), .val (.ref sx2), .unset, .unset, .unset, .unset, .unset] [(.int (p5 &&& (1 : Int32)))])) _
        refine XS.ifNo X2.here hx rfl (hb hby at_16) rfl ((if0 _ _).trans (feq hc4).1) ?_
        show Steps pg.tables ee below (T2.setTop (mkF mm 19 #[.val (.int p0), .val (.int p1), .val (.int p2), .val (.int p3), .val (.int p4), .val (.int p5), .val (.ref sx2), .unset, .unset, .unset, .unset, .unset] [])) _
        refine XS.aconstNull X2.here hx rfl (hb hby at_19) ?_
        show Steps pg.tables ee below (T2.setTop (mkF mm 20 #[.val (.int p0), .val (.int p1), .val (.int p2), .val (.int p3), .val (.int p4), .val (.int p5), .val (.ref sx2), .unset, .unset, .unset, .unset, .unset] [.null])) _
        refine XS.goto X2.here hx rfl (pc0 := 20) (pc' := 33) rfl (hb hby at_20) (by decide) (by decide) ?_
        show Steps pg.tables ee below (T2.setTop (mkF mm 33 #[.val (.int p0), .val (.int p1), .val (.int p2), .val (.int p3), .val (.int p4), .val (.int p5), .val (.ref sx2), .unset, .unset, .unset, .unset, .unset] [.null])) _
        refine XS.astore X2.here hx rfl (hb hby at_33) rfl rfl (l' := #[.val (.int p0), .val (.int p1), .val (.int p2), .val (.int p3), .val (.int p4), .val (.int p5), .val (.ref sx2), .val .null, .unset, .unset, .unset, .unset]) rfl ?_
        show Steps pg.tables ee below (T2.setTop (mkF mm 35 #[.val (.int p0), .val (.int p1), .val (.int p2), .val (.int p3), .val (.int p4), .val (.int p5), .val (.ref sx2), .val .null, .unset, .unset, .unset, .unset] [])) _
        refine XS.iload X2.here hx rfl (hb hby at_35) rfl ?_
        show Steps pg.tables ee below (T2.setTop (mkF mm 37 #[.val (.int p0), .val (.int p1), .val (.int p2), .val (.int p3), .val (.int p4), .val (.int p5), .val (.ref sx2), .val .null, .unset, .unset, .unset, .unset] [(.int p5)])) _
        refine XS.bipush X2.here hx rfl (hb hby at_37) ?_
        show Steps pg.tables ee below (T2.setTop (mkF mm 39 #[.val (.int p0), .val (.int p1), .val (.int p2), .val (.int p3), .val (.int p4), .val (.int p5), .val (.ref sx2), .val .null, .unset, .unset, .unset, .unset] [(.int (6 : Int32)), (.int p5)])) _
        refine XS.iushr X2.here hx rfl (hb hby at_39) rfl ?_
        show Steps pg.tables ee below (T2.setTop (mkF mm 40 #[.val (.int p0), .val (.int p1), .val (.int p2), .val (.int p3), .val (.int p4), .val (.int p5), .val (.ref sx2), .val .null, .unset, .unset, .unset, .unset] [(.int ((p5.toUInt32 >>> ((6 : Int32) &&& 31).toUInt32).toInt32))])) _
        refine XS.iconst X2.here hx rfl (hb hby at_40) ?_
        show Steps pg.tables ee below (T2.setTop (mkF mm 41 #[.val (.int p0), .val (.int p1), .val (.int p2), .val (.int p3), .val (.int p4), .val (.int p5), .val (.ref sx2), .val .null, .unset, .unset, .unset, .unset] [(.int (3 : Int32)), (.int ((p5.toUInt32 >>> ((6 : Int32) &&& 31).toUInt32).toInt32))])) _
        refine XS.iand X2.here hx rfl (hb hby at_41) rfl ?_
        show Steps pg.tables ee below (T2.setTop (mkF mm 42 #[.val (.int p0), .val (.int p1), .val (.int p2), .val (.int p3), .val (.int p4), .val (.int p5), .val (.ref sx2), .val .null, .unset, .unset, .unset, .unset] [(.int (((p5.toUInt32 >>> ((6 : Int32) &&& 31).toUInt32).toInt32) &&& (3 : Int32)))])) _
        refine XS.istore X2.here hx rfl (hb hby at_42) rfl (l' := #[.val (.int p0), .val (.int p1), .val (.int p2), .val (.int p3), .val (.int p4), .val (.int p5), .val (.ref sx2), .val .null, .val (.int (((p5.toUInt32 >>> ((6 : Int32) &&& 31).toUInt32).toInt32) &&& (3 : Int32))), .unset, .unset, .unset]) rfl ?_
        show Steps pg.tables ee below (T2.setTop (mkF mm 44 #[.val (.int p0), .val (.int p1), .val (.int p2), .val (.int p3), .val (.int p4), .val (.int p5), .val (.ref sx2), .val .null, .val (.int (((p5.toUInt32 >>> ((6 : Int32) &&& 31).toUInt32).toInt32) &&& (3 : Int32))), .unset, .unset, .unset] [])) _
        refine XS.iload X2.here hx rfl (hb hby at_44) rfl ?_
        show Steps pg.tables ee below (T2.setTop (mkF mm 46 #[.val (.int p0), .val (.int p1), .val (.int p2), .val (.int p3), .val (.int p4), .val (.int p5), .val (.ref sx2), .val .null, .val (.int (((p5.toUInt32 >>> ((6 : Int32) &&& 31).toUInt32).toInt32) &&& (3 : Int32))), .unset, .unset, .unset] [(.int (((p5.toUInt32 >>> ((6 : Int32) &&& 31).toUInt32).toInt32) &&& (3 : Int32)))])) _
        refine XS.iload X2.here hx rfl (hb hby at_46) rfl ?_
        show Steps pg.tables ee below (T2.setTop (mkF mm 48 #[.val (.int p0), .val (.int p1), .val (.int p2), .val (.int p3), .val (.int p4), .val (.int p5), .val (.ref sx2), .val .null, .val (.int (((p5.toUInt32 >>> ((6 : Int32) &&& 31).toUInt32).toInt32) &&& (3 : Int32))), .unset, .unset, .unset] [(.int p4), (.int (((p5.toUInt32 >>> ((6 : Int32) &&& 31).toUInt32).toInt32) &&& (3 : Int32)))])) _
        exact k_)
    obtain ⟨_, _, ⟨T40, L40, k40, n40⟩, -, X40, hs40, hgr40, ⟨Lc40, hQ40, l40, y40, z40, CQ40⟩, st40⟩ := callSS XL38 hx (y := (⟨"com/example/orders_into_outcomes/ordersintooutcomes/model/TextLimitOptionalPinLaw", "draw", "(II)Ljava/lang/String;"⟩ : MethodName)) hown (mvT hZ (hw _ (List.mem_of_getElem? (i := 0) rfl))) (mvT hZ (hw _ (List.mem_of_getElem? (i := 1) rfl))) (mvT hZ (hw _ (List.mem_of_getElem? (i := 2) rfl))) (mvT hZ (hw _ (List.mem_of_getElem? (i := 3) rfl))) (by decide) (backOfSH (W := 0) (rmDraw l Z a0 hw [] (((p5.toUInt32 >>> ((6 : Int32) &&& 31).toUInt32).toInt32) &&& (3 : Int32)) p4 cs T2.heap n0 O2 (own_r _) S_CS hcs) hZ (hw _ (List.mem_of_getElem? (i := 3) rfl)) (hw _ (List.mem_of_getElem? (i := 2) rfl)) (by decide) (by decide) hEL CR2.1) (g := (mkF mm 48 #[.val (.int p0), .val (.int p1), .val (.int p2), .val (.int p3), .val (.int p4), .val (.int p5), .val (.ref sx2), .val .null, .val (.int (((p5.toUInt32 >>> ((6 : Int32) &&& 31).toUInt32).toInt32) &&& (3 : Int32))), .unset, .unset, .unset] [(.int p4), (.int (((p5.toUInt32 >>> ((6 : Int32) &&& 31).toUInt32).toInt32) &&& (3 : Int32)))])) rfl (by rw [hml]; rfl) (argsL := [(.int (((p5.toUInt32 >>> ((6 : Int32) &&& 31).toUInt32).toInt32) &&& (3 : Int32))), (.int p4)]) (rest := []) (lenOf pd_355 rfl) rfl (by show 2 * 0 + _ ≤ _; exact Nat.le_of_eq rfl) (hb hby at_48) (fun _ _ => ⟨rfl, rfl, (by decide : 6 + 6 ≤ _), (by decide : 12 + 12 ≤ _)⟩)
    dsimp only [Pt.U, Pt.locs, Pt.cells, Pt.slots] at X40 l40 y40 z40 st40 hQ40 hs40 hgr40 CQ40
    subst l40 y40 z40
    replace X40 := own_rebase (s := s) X40
    obtain ⟨sx40, sd40, kd40, vs40, rfl, N40q, K40, Ex40, Fc40, Fv40, Va40⟩ := hQ40
    have hS40 : s.Since T40.vm T40.heap.size := State.Since.trans hS2 hs40 (Nat.le_trans (Nat.le_refl _) hgr40)
    have hown : (s.setVm T40.vm).vm.findClass "com/example/orders_into_outcomes/ordersintooutcomes/model/TextLimitOptionalPinLaw" = some mm.cls := by rw [show (s.setVm T40.vm).vm = T40.vm from rfl, hs40.1.alike.findClass]; exact hown
    have hZ : Z.Warmed39 (s.setVm T40.vm).vm := State.Warmed39.trans hZ hs40.1
    have CR40 := CR2.trans CQ40
    have O40 := O2.keep K40 all0
    have KK40 := KK2.trans K40 all0
    have N40 := Fr.app NL38 N40q
    obtain ⟨_, _, ⟨T41, L41, k41, n41⟩, -, X41, ⟨Lc41, hQ41, l41, y41, z41⟩, st41⟩ := Jvm.LawKit.callS X40 hx (y := (⟨"com/example/orders_into_outcomes/ordersintooutcomes/model/TextLimit", "optional", "(Ljava/lang/String;IILjava/lang/String;)Lcom/example/orders_into_outcomes/ordersintooutcomes/model/TextLimit;"⟩ : MethodName)) hown (mvT hZ (hw _ (List.mem_of_getElem? (i := 26) rfl))) (mvT hZ (hw _ (List.mem_of_getElem? (i := 27) rfl))) (mvT hZ (hw _ (List.mem_of_getElem? (i := 28) rfl))) (mvT hZ (hw _ (List.mem_of_getElem? (i := 29) rfl))) (by decide) (backOf (W := 0) (rmTON l Z a0 hw [] sx2 p0 p1 T40.heap n0 O40) hZ (hw _ (List.mem_of_getElem? (i := 29) rfl)) (hw _ (List.mem_of_getElem? (i := 28) rfl)) (by decide) (by decide)) (g := (mkF mm 59 #[.val (.int p0), .val (.int p1), .val (.int p2), .val (.int p3), .val (.int p4), .val (.int p5), .val (.ref sx2), .val .null, .val (.int (((p5.toUInt32 >>> ((6 : Int32) &&& 31).toUInt32).toInt32) &&& (3 : Int32))), .val (.ref sx40), .unset, .unset] [.null, (.int p1), (.int p0), (.ref sx2)])) rfl (by rw [hml]; rfl) (argsL := [(.ref sx2), (.int p0), (.int p1), .null]) (rest := []) (lenOf pd_356 rfl) rfl (by show 2 * 0 + _ ≤ _; exact Nat.le_of_eq rfl) (hb hby at_59) (fun _ _ => ⟨rfl, rfl, (by decide : 12 + 1 ≤ _), (by decide : 24 + 5 ≤ _)⟩)
    dsimp only [Pt.U, Pt.locs, Pt.cells, Pt.slots] at X41 l41 y41 z41 st41 hQ41
    subst l41 y41 z41
    obtain ⟨tl41, rfl, N41q, K41, Ex41, Ft0_41, Ft1_41, Ft2_41, Ft3_41, Ft4_41⟩ := hQ41
    have O41 := O40.keep K41 all0
    have KK41 := KK40.trans K41 all0
    have N41 := Fr.app N40 N41q
    have hk41 := Nat.le_trans (Nat.le_refl _) K41.1
    have CR41 := CR40.trans (CHr.keep K41 all0 CR40.1)
    obtain ⟨LL42, XL42, NL42⟩ := own_loose X41 N41
    obtain ⟨cq43, kq43, q43a, q43b, q43c⟩ := isOf hZ rfl Ex41
    obtain ⟨_, _, ⟨T43, L43, k43, n43⟩, -, X43, ⟨Lc43, hQ43, l43, y43, z43⟩, st43⟩ := XL42.virtualBack hx (y := (⟨"com/example/orders_into_outcomes/ordersintooutcomes/model/TextLimit", "name", "()Ljava/lang/String;"⟩ : MethodName)) (z := (⟨"com/example/orders_into_outcomes/ordersintooutcomes/model/TextLimit", "name", "()Ljava/lang/String;"⟩ : MethodName)) hown (mvT hZ (hw _ (List.mem_of_getElem? (i := 46) rfl))) (mvT hZ (hw _ (List.mem_of_getElem? (i := 47) rfl))) (notFace_of_selects (args := #[]) (mvT hZ (hw _ (List.mem_of_getElem? (i := 49) rfl)))) (mvT hZ (hw _ (List.mem_of_getElem? (i := 49) rfl))) (mvT hZ (hw _ (List.mem_of_getElem? (i := 48) rfl))) (by decide) (backOf (W := 1) (rmGN_name l Z a0 hw [] tl41 sx2 p0 p1 T41.heap n0 O41 Ft0_41 Ft1_41 Ft2_41 Ft3_41 Ft4_41 Ex41) hZ (hw _ (List.mem_of_getElem? (i := 50) rfl)) (hw _ (List.mem_of_getElem? (i := 28) rfl)) (by decide) (by decide)) q43a q43c (g := (mkF mm 68 #[.val (.int p0), .val (.int p1), .val (.int p2), .val (.int p3), .val (.int p4), .val (.int p5), .val (.ref sx2), .val .null, .val (.int (((p5.toUInt32 >>> ((6 : Int32) &&& 31).toUInt32).toInt32) &&& (3 : Int32))), .val (.ref sx40), .val (.ref tl41), .unset] [(.ref tl41), (.ref sx2)])) rfl (by rw [hml]; rfl) (Steps.refl _) (argsL := []) (rest := [(.ref sx2)]) (lenOf pd_357 rfl) rfl (by show 2 * 0 + _ ≤ _; exact Nat.le_of_eq rfl) (hb hby at_68) (fun _ _ => ⟨rfl, rfl, (by decide : 13 + 0 ≤ _), (by decide : 29 + 0 ≤ _)⟩)
    dsimp only [Pt.U, Pt.locs, Pt.cells, Pt.slots] at X43 l43 y43 z43 st43 hQ43
    subst l43 y43 z43
    obtain ⟨rfl, N43q, e43⟩ := hQ43
    have N43 := Fr.app NL42 N43q
    obtain ⟨LL44, XL44, NL44⟩ := own_loose X43 N43
    obtain ⟨cq45, kq45, q45a, q45b, q45c⟩ := isOf hZ e43 ((Ex2.keep K40).keep K41)
    obtain ⟨_, _, ⟨T45, L45, k45, n45⟩, -, X45, ⟨Lc45, hQ45, l45, y45, z45⟩, st45⟩ := XL44.virtualBack hx (y := (⟨"java/lang/String", "equals", "(Ljava/lang/Object;)Z"⟩ : MethodName)) (z := (⟨"java/lang/String", "equals", "(Ljava/lang/Object;)Z"⟩ : MethodName)) hown (mvT hZ (hw _ (List.mem_of_getElem? (i := 51) rfl))) (mvT hZ (hw _ (List.mem_of_getElem? (i := 52) rfl))) (notFace_of_selects (args := #[]) (mvT hZ (hw _ (List.mem_of_getElem? (i := 54) rfl)))) (mvT hZ (hw _ (List.mem_of_getElem? (i := 54) rfl))) (mvT hZ (hw _ (List.mem_of_getElem? (i := 53) rfl))) (by decide) (backOf (W := 0) (rmEq l Z a0 hw [] sx2 T41.heap n0 O41) hZ (hw _ (List.mem_of_getElem? (i := 55) rfl)) (hw _ (List.mem_of_getElem? (i := 6) rfl)) (by decide) (by decide)) q45a q45c (g := (mkF mm 71 #[.val (.int p0), .val (.int p1), .val (.int p2), .val (.int p3), .val (.int p4), .val (.int p5), .val (.ref sx2), .val .null, .val (.int (((p5.toUInt32 >>> ((6 : Int32) &&& 31).toUInt32).toInt32) &&& (3 : Int32))), .val (.ref sx40), .val (.ref tl41), .unset] [(.ref sx2), (.ref sx2)])) rfl (by rw [hml]; rfl) (Steps.refl _) (argsL := [(.ref sx2)]) (rest := []) (lenOf pd_82 rfl) rfl (by show 2 * 0 + _ ≤ _; exact Nat.le_of_eq rfl) (hb hby at_71) (fun _ _ => ⟨rfl, e43, (by decide : 13 + 0 ≤ _), (by decide : 29 + 0 ≤ _)⟩)
    dsimp only [Pt.U, Pt.locs, Pt.cells, Pt.slots] at X45 l45 y45 z45 st45 hQ45
    subst l45 y45 z45
    obtain ⟨rfl, N45q, e45⟩ := hQ45
    have N45 := Fr.app NL44 N45q
    obtain ⟨LL46, XL46, NL46⟩ := own_loose X45 N45
    obtain ⟨cq47, kq47, q47a, q47b, q47c⟩ := isOf hZ e45 Ex41
    obtain ⟨_, _, ⟨T47, L47, k47, n47⟩, -, X47, ⟨Lc47, hQ47, l47, y47, z47⟩, st47⟩ := XL46.virtualBack hx (y := (⟨"com/example/orders_into_outcomes/ordersintooutcomes/model/TextLimit", "shortest", "()I"⟩ : MethodName)) (z := (⟨"com/example/orders_into_outcomes/ordersintooutcomes/model/TextLimit", "shortest", "()I"⟩ : MethodName)) hown (mvT hZ (hw _ (List.mem_of_getElem? (i := 56) rfl))) (mvT hZ (hw _ (List.mem_of_getElem? (i := 57) rfl))) (notFace_of_selects (args := #[]) (mvT hZ (hw _ (List.mem_of_getElem? (i := 59) rfl)))) (mvT hZ (hw _ (List.mem_of_getElem? (i := 59) rfl))) (mvT hZ (hw _ (List.mem_of_getElem? (i := 58) rfl))) (by decide) (backOf (W := 0) (rmGN_shortest l Z a0 hw [] tl41 sx2 p0 p1 T41.heap n0 O41 Ft0_41 Ft1_41 Ft2_41 Ft3_41 Ft4_41 Ex41) hZ (hw _ (List.mem_of_getElem? (i := 60) rfl)) (hw _ (List.mem_of_getElem? (i := 28) rfl)) (by decide) (by decide)) q47a q47c (g := (mkF mm 79 #[.val (.int p0), .val (.int p1), .val (.int p2), .val (.int p3), .val (.int p4), .val (.int p5), .val (.ref sx2), .val .null, .val (.int (((p5.toUInt32 >>> ((6 : Int32) &&& 31).toUInt32).toInt32) &&& (3 : Int32))), .val (.ref sx40), .val (.ref tl41), .unset] [(.ref tl41)])) rfl (by rw [hml]; rfl) (Steps.refl _) (argsL := []) (rest := []) (lenOf pd_51 rfl) rfl (by show 2 * 0 + _ ≤ _; exact Nat.le_of_eq rfl) (hb hby at_79) (fun _ _ => ⟨rfl, e45, (by decide : 13 + 0 ≤ _), (by decide : 29 + 0 ≤ _)⟩)
    dsimp only [Pt.U, Pt.locs, Pt.cells, Pt.slots] at X47 l47 y47 z47 st47 hQ47
    subst l47 y47 z47
    obtain ⟨rfl, N47q, e47⟩ := hQ47
    have N47 := Fr.app NL46 N47q
    obtain ⟨LL48, XL48, NL48⟩ := own_loose X47 N47
    obtain ⟨cq49, kq49, q49a, q49b, q49c⟩ := isOf hZ e47 Ex41
    obtain ⟨_, _, ⟨T49, L49, k49, n49⟩, -, X49, ⟨Lc49, hQ49, l49, y49, z49⟩, st49⟩ := XL48.virtualBack hx (y := (⟨"com/example/orders_into_outcomes/ordersintooutcomes/model/TextLimit", "longest", "()I"⟩ : MethodName)) (z := (⟨"com/example/orders_into_outcomes/ordersintooutcomes/model/TextLimit", "longest", "()I"⟩ : MethodName)) hown (mvT hZ (hw _ (List.mem_of_getElem? (i := 61) rfl))) (mvT hZ (hw _ (List.mem_of_getElem? (i := 62) rfl))) (notFace_of_selects (args := #[]) (mvT hZ (hw _ (List.mem_of_getElem? (i := 64) rfl)))) (mvT hZ (hw _ (List.mem_of_getElem? (i := 64) rfl))) (mvT hZ (hw _ (List.mem_of_getElem? (i := 63) rfl))) (by decide) (backOf (W := 0) (rmGN_longest l Z a0 hw [] tl41 sx2 p0 p1 T41.heap n0 O41 Ft0_41 Ft1_41 Ft2_41 Ft3_41 Ft4_41 Ex41) hZ (hw _ (List.mem_of_getElem? (i := 65) rfl)) (hw _ (List.mem_of_getElem? (i := 28) rfl)) (by decide) (by decide)) q49a q49c (g := (mkF mm 88 #[.val (.int p0), .val (.int p1), .val (.int p2), .val (.int p3), .val (.int p4), .val (.int p5), .val (.ref sx2), .val .null, .val (.int (((p5.toUInt32 >>> ((6 : Int32) &&& 31).toUInt32).toInt32) &&& (3 : Int32))), .val (.ref sx40), .val (.ref tl41), .unset] [(.ref tl41)])) rfl (by rw [hml]; rfl) (Steps.refl _) (argsL := []) (rest := []) (lenOf pd_51 rfl) rfl (by show 2 * 0 + _ ≤ _; exact Nat.le_of_eq rfl) (hb hby at_88) (fun _ _ => ⟨rfl, e47, (by decide : 13 + 0 ≤ _), (by decide : 29 + 0 ≤ _)⟩)
    dsimp only [Pt.U, Pt.locs, Pt.cells, Pt.slots] at X49 l49 y49 z49 st49 hQ49
    subst l49 y49 z49
    obtain ⟨rfl, N49q, e49⟩ := hQ49
    have N49 := Fr.app NL48 N49q
    obtain ⟨LL50, XL50, NL50⟩ := own_loose X49 N49
    obtain ⟨cq51, kq51, q51a, q51b, q51c⟩ := isOf hZ e49 Ex41
    obtain ⟨_, _, ⟨T51, L51, k51, n51⟩, -, X51, ⟨Lc51, hQ51, l51, y51, z51⟩, st51⟩ := XL50.virtualBack hx (y := (⟨"com/example/orders_into_outcomes/ordersintooutcomes/model/TextLimit", "isRequired", "()Z"⟩ : MethodName)) (z := (⟨"com/example/orders_into_outcomes/ordersintooutcomes/model/TextLimit", "isRequired", "()Z"⟩ : MethodName)) hown (mvT hZ (hw _ (List.mem_of_getElem? (i := 66) rfl))) (mvT hZ (hw _ (List.mem_of_getElem? (i := 67) rfl))) (notFace_of_selects (args := #[]) (mvT hZ (hw _ (List.mem_of_getElem? (i := 69) rfl)))) (mvT hZ (hw _ (List.mem_of_getElem? (i := 69) rfl))) (mvT hZ (hw _ (List.mem_of_getElem? (i := 68) rfl))) (by decide) (backOf (W := 0) (rmGN_isRequired l Z a0 hw [] tl41 sx2 p0 p1 T41.heap n0 O41 Ft0_41 Ft1_41 Ft2_41 Ft3_41 Ft4_41 Ex41) hZ (hw _ (List.mem_of_getElem? (i := 70) rfl)) (hw _ (List.mem_of_getElem? (i := 28) rfl)) (by decide) (by decide)) q51a q51c (g := (mkF mm 97 #[.val (.int p0), .val (.int p1), .val (.int p2), .val (.int p3), .val (.int p4), .val (.int p5), .val (.ref sx2), .val .null, .val (.int (((p5.toUInt32 >>> ((6 : Int32) &&& 31).toUInt32).toInt32) &&& (3 : Int32))), .val (.ref sx40), .val (.ref tl41), .unset] [(.ref tl41)])) rfl (by rw [hml]; rfl) (Steps.refl _) (argsL := []) (rest := []) (lenOf pd_57 rfl) rfl (by show 2 * 0 + _ ≤ _; exact Nat.le_of_eq rfl) (hb hby at_97) (fun _ _ => ⟨rfl, e49, (by decide : 13 + 0 ≤ _), (by decide : 29 + 0 ≤ _)⟩)
    dsimp only [Pt.U, Pt.locs, Pt.cells, Pt.slots] at X51 l51 y51 z51 st51 hQ51
    subst l51 y51 z51
    obtain ⟨rfl, N51q, e51⟩ := hQ51
    have N51 := Fr.app NL50 N51q
    obtain ⟨LL52, XL52, NL52⟩ := own_loose X51 N51
    obtain ⟨cq53, kq53, q53a, q53b, q53c⟩ := isOf hZ e51 Ex41
    obtain ⟨_, _, ⟨T53, L53, k53, n53⟩, -, X53, ⟨Lc53, hQ53, l53, y53, z53⟩, st53⟩ := XL52.virtualBack hx (y := (⟨"com/example/orders_into_outcomes/ordersintooutcomes/model/TextLimit", "byDefault", "()Ljava/lang/String;"⟩ : MethodName)) (z := (⟨"com/example/orders_into_outcomes/ordersintooutcomes/model/TextLimit", "byDefault", "()Ljava/lang/String;"⟩ : MethodName)) hown (mvT hZ (hw _ (List.mem_of_getElem? (i := 71) rfl))) (mvT hZ (hw _ (List.mem_of_getElem? (i := 72) rfl))) (notFace_of_selects (args := #[]) (mvT hZ (hw _ (List.mem_of_getElem? (i := 74) rfl)))) (mvT hZ (hw _ (List.mem_of_getElem? (i := 74) rfl))) (mvT hZ (hw _ (List.mem_of_getElem? (i := 73) rfl))) (by decide) (backOf (W := 1) (rmGN_byDefault l Z a0 hw [] tl41 sx2 p0 p1 T41.heap n0 O41 Ft0_41 Ft1_41 Ft2_41 Ft3_41 Ft4_41 Ex41) hZ (hw _ (List.mem_of_getElem? (i := 75) rfl)) (hw _ (List.mem_of_getElem? (i := 28) rfl)) (by decide) (by decide)) q53a q53c (g := (mkF mm 107 #[.val (.int p0), .val (.int p1), .val (.int p2), .val (.int p3), .val (.int p4), .val (.int p5), .val (.ref sx2), .val .null, .val (.int (((p5.toUInt32 >>> ((6 : Int32) &&& 31).toUInt32).toInt32) &&& (3 : Int32))), .val (.ref sx40), .val (.ref tl41), .unset] [(.ref tl41), .null])) rfl (by rw [hml]; rfl) (Steps.refl _) (argsL := []) (rest := [.null]) (lenOf pd_357 rfl) rfl (by show 2 * 0 + _ ≤ _; exact Nat.le_of_eq rfl) (hb hby at_107) (fun _ _ => ⟨rfl, e51, (by decide : 13 + 0 ≤ _), (by decide : 29 + 0 ≤ _)⟩)
    dsimp only [Pt.U, Pt.locs, Pt.cells, Pt.slots] at X53 l53 y53 z53 st53 hQ53
    subst l53 y53 z53
    obtain ⟨rfl, N53q, e53⟩ := hQ53
    have N53 := Fr.app NL52 N53q
    obtain ⟨LL54, XL54, NL54⟩ := own_loose X53 N53
    obtain ⟨_, _, ⟨T55, L55, k55, n55⟩, -, X55, ⟨Lc55, hQ55, l55, y55, z55⟩, st55⟩ := Jvm.LawKit.callS XL54 hx (y := (⟨"com/example/orders_into_outcomes/ordersintooutcomes/model/TextLimitOptionalPinLaw", "same", "(Ljava/lang/String;Ljava/lang/String;)Z"⟩ : MethodName)) hown (mvT hZ (hw _ (List.mem_of_getElem? (i := 76) rfl))) (mvT hZ (hw _ (List.mem_of_getElem? (i := 77) rfl))) (mvT hZ (hw _ (List.mem_of_getElem? (i := 2) rfl))) (mvT hZ (hw _ (List.mem_of_getElem? (i := 78) rfl))) (by decide) (backOf (W := 0) (rmSn l Z a0 hw [] T41.heap n0 O41) hZ (hw _ (List.mem_of_getElem? (i := 78) rfl)) (hw _ (List.mem_of_getElem? (i := 2) rfl)) (by decide) (by decide)) (g := (mkF mm 110 #[.val (.int p0), .val (.int p1), .val (.int p2), .val (.int p3), .val (.int p4), .val (.int p5), .val (.ref sx2), .val .null, .val (.int (((p5.toUInt32 >>> ((6 : Int32) &&& 31).toUInt32).toInt32) &&& (3 : Int32))), .val (.ref sx40), .val (.ref tl41), .unset] [.null, .null])) rfl (by rw [hml]; rfl) (argsL := [.null, .null]) (rest := []) (lenOf pd_358 rfl) rfl (by show 2 * 0 + _ ≤ _; exact Nat.le_of_eq rfl) (hb hby at_110) (fun _ _ => ⟨rfl, e53, (by decide : 13 + 0 ≤ _), (by decide : 29 + 0 ≤ _)⟩)
    dsimp only [Pt.U, Pt.locs, Pt.cells, Pt.slots] at X55 l55 y55 z55 st55 hQ55
    subst l55 y55 z55
    obtain ⟨rfl, N55q, e55⟩ := hQ55
    have N55 := Fr.app NL54 N55q
    obtain ⟨LL56, XL56, NL56⟩ := own_loose X55 N55
    obtain ⟨cq57, kq57, q57a, q57b, q57c⟩ := isOf hZ e55 Ex41
    obtain ⟨_, _, ⟨T57, L57, k57, n57⟩, -, X57, ⟨Lc57, hQ57, l57, y57, z57⟩, st57⟩ := XL56.virtualBack hx (y := (⟨"com/example/orders_into_outcomes/ordersintooutcomes/model/TextLimit", "check", "(Ljava/lang/String;)Ljava/lang/String;"⟩ : MethodName)) (z := (⟨"com/example/orders_into_outcomes/ordersintooutcomes/model/TextLimit", "check", "(Ljava/lang/String;)Ljava/lang/String;"⟩ : MethodName)) hown (mvT hZ (hw _ (List.mem_of_getElem? (i := 79) rfl))) (mvT hZ (hw _ (List.mem_of_getElem? (i := 80) rfl))) (notFace_of_selects (args := #[]) (mvT hZ (hw _ (List.mem_of_getElem? (i := 82) rfl)))) (mvT hZ (hw _ (List.mem_of_getElem? (i := 82) rfl))) (mvT hZ (hw _ (List.mem_of_getElem? (i := 81) rfl))) (by decide) (backOf (W := 1) (rmK1nN l Z a0 hw [] tl41 sx2 p0 p1 T41.heap n0 O41 Ft0_41 Ft1_41 Ft2_41 Ft3_41 Ft4_41 Ex41) hZ (hw _ (List.mem_of_getElem? (i := 83) rfl)) (hw _ (List.mem_of_getElem? (i := 28) rfl)) (by decide) (by decide)) q57a q57c (g := (mkF mm 121 #[.val (.int p0), .val (.int p1), .val (.int p2), .val (.int p3), .val (.int p4), .val (.int p5), .val (.ref sx2), .val .null, .val (.int (((p5.toUInt32 >>> ((6 : Int32) &&& 31).toUInt32).toInt32) &&& (3 : Int32))), .val (.ref sx40), .val (.ref tl41), .unset] [.null, (.ref tl41), .null])) rfl (by rw [hml]; rfl) (Steps.refl _) (argsL := [.null]) (rest := [.null]) (lenOf pd_359 rfl) rfl (by show 2 * 0 + _ ≤ _; exact Nat.le_of_eq rfl) (hb hby at_121) (fun _ _ => ⟨rfl, e55, (by decide : 13 + 0 ≤ _), (by decide : 29 + 0 ≤ _)⟩)
    dsimp only [Pt.U, Pt.locs, Pt.cells, Pt.slots] at X57 l57 y57 z57 st57 hQ57
    subst l57 y57 z57
    obtain ⟨rfl, N57q, e57⟩ := hQ57
    have N57 := Fr.app NL56 N57q
    obtain ⟨LL58, XL58, NL58⟩ := own_loose X57 N57
    obtain ⟨_, _, ⟨T59, L59, k59, n59⟩, -, X59, ⟨Lc59, hQ59, l59, y59, z59⟩, st59⟩ := Jvm.LawKit.callS XL58 hx (y := (⟨"com/example/orders_into_outcomes/ordersintooutcomes/model/TextLimitOptionalPinLaw", "same", "(Ljava/lang/String;Ljava/lang/String;)Z"⟩ : MethodName)) hown (mvT hZ (hw _ (List.mem_of_getElem? (i := 76) rfl))) (mvT hZ (hw _ (List.mem_of_getElem? (i := 77) rfl))) (mvT hZ (hw _ (List.mem_of_getElem? (i := 2) rfl))) (mvT hZ (hw _ (List.mem_of_getElem? (i := 78) rfl))) (by decide) (backOf (W := 0) (rmSn l Z a0 hw [] T41.heap n0 O41) hZ (hw _ (List.mem_of_getElem? (i := 78) rfl)) (hw _ (List.mem_of_getElem? (i := 2) rfl)) (by decide) (by decide)) (g := (mkF mm 124 #[.val (.int p0), .val (.int p1), .val (.int p2), .val (.int p3), .val (.int p4), .val (.int p5), .val (.ref sx2), .val .null, .val (.int (((p5.toUInt32 >>> ((6 : Int32) &&& 31).toUInt32).toInt32) &&& (3 : Int32))), .val (.ref sx40), .val (.ref tl41), .unset] [.null, .null])) rfl (by rw [hml]; rfl) (argsL := [.null, .null]) (rest := []) (lenOf pd_358 rfl) rfl (by show 2 * 0 + _ ≤ _; exact Nat.le_of_eq rfl) (hb hby at_124) (fun _ _ => ⟨rfl, e57, (by decide : 13 + 0 ≤ _), (by decide : 29 + 0 ≤ _)⟩)
    dsimp only [Pt.U, Pt.locs, Pt.cells, Pt.slots] at X59 l59 y59 z59 st59 hQ59
    subst l59 y59 z59
    obtain ⟨rfl, N59q, e59⟩ := hQ59
    have N59 := Fr.app NL58 N59q
    have pre60 : ∀ tg_, Steps pg.tables ee below (T59.setTop (mkF mm 145 #[.val (.int p0), .val (.int p1), .val (.int p2), .val (.int p3), .val (.int p4), .val (.int p5), .val (.ref sx2), .val .null, .val (.int (((p5.toUInt32 >>> ((6 : Int32) &&& 31).toUInt32).toInt32) &&& (3 : Int32))), .val (.ref sx40), .val (.ref tl41), .val (.int (1 : Int32))] [(.int (((p5.toUInt32 >>> ((6 : Int32) &&& 31).toUInt32).toInt32) &&& (3 : Int32))), (.int p0)])) tg_ → Steps pg.tables ee below (s₁.setTop (entryFrame mm #[(.int p0), (.int p1), (.int p2), (.int p3), (.int p4), (.int p5)] maxLocals)) tg_ := fun tg_ k_ => pre39 tg_ (by
        refine st40.trans ?_
        show Steps pg.tables ee below (T40.setTop (mkF mm 51 #[.val (.int p0), .val (.int p1), .val (.int p2), .val (.int p3), .val (.int p4), .val (.int p5), .val (.ref sx2), .val .null, .val (.int (((p5.toUInt32 >>> ((6 : Int32) &&& 31).toUInt32).toInt32) &&& (3 : Int32))), .unset, .unset, .unset] [(.ref sx40)])) _
        refine XS.astore X40.here hx rfl (hb hby at_51) rfl rfl (l' := #[.val (.int p0), .val (.int p1), .val (.int p2), .val (.int p3), .val (.int p4), .val (.int p5), .val (.ref sx2), .val .null, .val (.int (((p5.toUInt32 >>> ((6 : Int32) &&& 31).toUInt32).toInt32) &&& (3 : Int32))), .val (.ref sx40), .unset, .unset]) rfl ?_
        show Steps pg.tables ee below (T40.setTop (mkF mm 53 #[.val (.int p0), .val (.int p1), .val (.int p2), .val (.int p3), .val (.int p4), .val (.int p5), .val (.ref sx2), .val .null, .val (.int (((p5.toUInt32 >>> ((6 : Int32) &&& 31).toUInt32).toInt32) &&& (3 : Int32))), .val (.ref sx40), .unset, .unset] [])) _
        refine XS.aload X40.here hx rfl (hb hby at_53) rfl rfl ?_
        show Steps pg.tables ee below (T40.setTop (mkF mm 55 #[.val (.int p0), .val (.int p1), .val (.int p2), .val (.int p3), .val (.int p4), .val (.int p5), .val (.ref sx2), .val .null, .val (.int (((p5.toUInt32 >>> ((6 : Int32) &&& 31).toUInt32).toInt32) &&& (3 : Int32))), .val (.ref sx40), .unset, .unset] [(.ref sx2)])) _
        refine XS.iloadN X40.here hx rfl (hb hby at_55) rfl ?_
        show Steps pg.tables ee below (T40.setTop (mkF mm 56 #[.val (.int p0), .val (.int p1), .val (.int p2), .val (.int p3), .val (.int p4), .val (.int p5), .val (.ref sx2), .val .null, .val (.int (((p5.toUInt32 >>> ((6 : Int32) &&& 31).toUInt32).toInt32) &&& (3 : Int32))), .val (.ref sx40), .unset, .unset] [(.int p0), (.ref sx2)])) _
        refine XS.iloadN X40.here hx rfl (hb hby at_56) rfl ?_
        show Steps pg.tables ee below (T40.setTop (mkF mm 57 #[.val (.int p0), .val (.int p1), .val (.int p2), .val (.int p3), .val (.int p4), .val (.int p5), .val (.ref sx2), .val .null, .val (.int (((p5.toUInt32 >>> ((6 : Int32) &&& 31).toUInt32).toInt32) &&& (3 : Int32))), .val (.ref sx40), .unset, .unset] [(.int p1), (.int p0), (.ref sx2)])) _
        refine XS.aload X40.here hx rfl (hb hby at_57) rfl rfl ?_
        show Steps pg.tables ee below (T40.setTop (mkF mm 59 #[.val (.int p0), .val (.int p1), .val (.int p2), .val (.int p3), .val (.int p4), .val (.int p5), .val (.ref sx2), .val .null, .val (.int (((p5.toUInt32 >>> ((6 : Int32) &&& 31).toUInt32).toInt32) &&& (3 : Int32))), .val (.ref sx40), .unset, .unset] [.null, (.int p1), (.int p0), (.ref sx2)])) _
        refine st41 _ ?_
        show Steps pg.tables ee below (T41.setTop (mkF mm 62 #[.val (.int p0), .val (.int p1), .val (.int p2), .val (.int p3), .val (.int p4), .val (.int p5), .val (.ref sx2), .val .null, .val (.int (((p5.toUInt32 >>> ((6 : Int32) &&& 31).toUInt32).toInt32) &&& (3 : Int32))), .val (.ref sx40), .unset, .unset] [(.ref tl41)])) _
        refine XS.astore X41.here hx rfl (hb hby at_62) rfl rfl (l' := #[.val (.int p0), .val (.int p1), .val (.int p2), .val (.int p3), .val (.int p4), .val (.int p5), .val (.ref sx2), .val .null, .val (.int (((p5.toUInt32 >>> ((6 : Int32) &&& 31).toUInt32).toInt32) &&& (3 : Int32))), .val (.ref sx40), .val (.ref tl41), .unset]) rfl ?_
        show Steps pg.tables ee below (T41.setTop (mkF mm 64 #[.val (.int p0), .val (.int p1), .val (.int p2), .val (.int p3), .val (.int p4), .val (.int p5), .val (.ref sx2), .val .null, .val (.int (((p5.toUInt32 >>> ((6 : Int32) &&& 31).toUInt32).toInt32) &&& (3 : Int32))), .val (.ref sx40), .val (.ref tl41), .unset] [])) _
        refine XS.aload X41.here hx rfl (hb hby at_64) rfl rfl ?_
        show Steps pg.tables ee below (T41.setTop (mkF mm 66 #[.val (.int p0), .val (.int p1), .val (.int p2), .val (.int p3), .val (.int p4), .val (.int p5), .val (.ref sx2), .val .null, .val (.int (((p5.toUInt32 >>> ((6 : Int32) &&& 31).toUInt32).toInt32) &&& (3 : Int32))), .val (.ref sx40), .val (.ref tl41), .unset] [(.ref sx2)])) _
        refine XS.aload X41.here hx rfl (hb hby at_66) rfl rfl ?_
        show Steps pg.tables ee below (T41.setTop (mkF mm 68 #[.val (.int p0), .val (.int p1), .val (.int p2), .val (.int p3), .val (.int p4), .val (.int p5), .val (.ref sx2), .val .null, .val (.int (((p5.toUInt32 >>> ((6 : Int32) &&& 31).toUInt32).toInt32) &&& (3 : Int32))), .val (.ref sx40), .val (.ref tl41), .unset] [(.ref tl41), (.ref sx2)])) _
        refine st43.trans ?_
        show Steps pg.tables ee below (T43.setTop (mkF mm 71 #[.val (.int p0), .val (.int p1), .val (.int p2), .val (.int p3), .val (.int p4), .val (.int p5), .val (.ref sx2), .val .null, .val (.int (((p5.toUInt32 >>> ((6 : Int32) &&& 31).toUInt32).toInt32) &&& (3 : Int32))), .val (.ref sx40), .val (.ref tl41), .unset] [(.ref sx2), (.ref sx2)])) _
        refine st45.trans ?_
        show Steps pg.tables ee below (T45.setTop (mkF mm 74 #[.val (.int p0), .val (.int p1), .val (.int p2), .val (.int p3), .val (.int p4), .val (.int p5), .val (.ref sx2), .val .null, .val (.int (((p5.toUInt32 >>> ((6 : Int32) &&& 31).toUInt32).toInt32) &&& (3 : Int32))), .val (.ref sx40), .val (.ref tl41), .unset] [(.int (1 : Int32))])) _
        refine XS.ifNo X45.here hx rfl (hb hby at_74) rfl ((if0 _ _).trans (feq (by decide : ¬ ((1 : Int32) = (0 : Int32)))).1) ?_
        show Steps pg.tables ee below (T45.setTop (mkF mm 77 #[.val (.int p0), .val (.int p1), .val (.int p2), .val (.int p3), .val (.int p4), .val (.int p5), .val (.ref sx2), .val .null, .val (.int (((p5.toUInt32 >>> ((6 : Int32) &&& 31).toUInt32).toInt32) &&& (3 : Int32))), .val (.ref sx40), .val (.ref tl41), .unset] [])) _
        refine XS.aload X45.here hx rfl (hb hby at_77) rfl rfl ?_
        show Steps pg.tables ee below (T45.setTop (mkF mm 79 #[.val (.int p0), .val (.int p1), .val (.int p2), .val (.int p3), .val (.int p4), .val (.int p5), .val (.ref sx2), .val .null, .val (.int (((p5.toUInt32 >>> ((6 : Int32) &&& 31).toUInt32).toInt32) &&& (3 : Int32))), .val (.ref sx40), .val (.ref tl41), .unset] [(.ref tl41)])) _
        refine st47.trans ?_
        show Steps pg.tables ee below (T47.setTop (mkF mm 82 #[.val (.int p0), .val (.int p1), .val (.int p2), .val (.int p3), .val (.int p4), .val (.int p5), .val (.ref sx2), .val .null, .val (.int (((p5.toUInt32 >>> ((6 : Int32) &&& 31).toUInt32).toInt32) &&& (3 : Int32))), .val (.ref sx40), .val (.ref tl41), .unset] [(.int p0)])) _
        refine XS.iloadN X47.here hx rfl (hb hby at_82) rfl ?_
        show Steps pg.tables ee below (T47.setTop (mkF mm 83 #[.val (.int p0), .val (.int p1), .val (.int p2), .val (.int p3), .val (.int p4), .val (.int p5), .val (.ref sx2), .val .null, .val (.int (((p5.toUInt32 >>> ((6 : Int32) &&& 31).toUInt32).toInt32) &&& (3 : Int32))), .val (.ref sx40), .val (.ref tl41), .unset] [(.int p0), (.int p0)])) _
        refine XS.icmpNo X47.here hx rfl (hb hby at_83) rfl (teq (rfl : p0 = p0)).2 ?_
        show Steps pg.tables ee below (T47.setTop (mkF mm 86 #[.val (.int p0), .val (.int p1), .val (.int p2), .val (.int p3), .val (.int p4), .val (.int p5), .val (.ref sx2), .val .null, .val (.int (((p5.toUInt32 >>> ((6 : Int32) &&& 31).toUInt32).toInt32) &&& (3 : Int32))), .val (.ref sx40), .val (.ref tl41), .unset] [])) _
        refine XS.aload X47.here hx rfl (hb hby at_86) rfl rfl ?_
        show Steps pg.tables ee below (T47.setTop (mkF mm 88 #[.val (.int p0), .val (.int p1), .val (.int p2), .val (.int p3), .val (.int p4), .val (.int p5), .val (.ref sx2), .val .null, .val (.int (((p5.toUInt32 >>> ((6 : Int32) &&& 31).toUInt32).toInt32) &&& (3 : Int32))), .val (.ref sx40), .val (.ref tl41), .unset] [(.ref tl41)])) _
        refine st49.trans ?_
        show Steps pg.tables ee below (T49.setTop (mkF mm 91 #[.val (.int p0), .val (.int p1), .val (.int p2), .val (.int p3), .val (.int p4), .val (.int p5), .val (.ref sx2), .val .null, .val (.int (((p5.toUInt32 >>> ((6 : Int32) &&& 31).toUInt32).toInt32) &&& (3 : Int32))), .val (.ref sx40), .val (.ref tl41), .unset] [(.int p1)])) _
        refine XS.iloadN X49.here hx rfl (hb hby at_91) rfl ?_
        show Steps pg.tables ee below (T49.setTop (mkF mm 92 #[.val (.int p0), .val (.int p1), .val (.int p2), .val (.int p3), .val (.int p4), .val (.int p5), .val (.ref sx2), .val .null, .val (.int (((p5.toUInt32 >>> ((6 : Int32) &&& 31).toUInt32).toInt32) &&& (3 : Int32))), .val (.ref sx40), .val (.ref tl41), .unset] [(.int p1), (.int p1)])) _
        refine XS.icmpNo X49.here hx rfl (hb hby at_92) rfl (teq (rfl : p1 = p1)).2 ?_
        show Steps pg.tables ee below (T49.setTop (mkF mm 95 #[.val (.int p0), .val (.int p1), .val (.int p2), .val (.int p3), .val (.int p4), .val (.int p5), .val (.ref sx2), .val .null, .val (.int (((p5.toUInt32 >>> ((6 : Int32) &&& 31).toUInt32).toInt32) &&& (3 : Int32))), .val (.ref sx40), .val (.ref tl41), .unset] [])) _
        refine XS.aload X49.here hx rfl (hb hby at_95) rfl rfl ?_
        show Steps pg.tables ee below (T49.setTop (mkF mm 97 #[.val (.int p0), .val (.int p1), .val (.int p2), .val (.int p3), .val (.int p4), .val (.int p5), .val (.ref sx2), .val .null, .val (.int (((p5.toUInt32 >>> ((6 : Int32) &&& 31).toUInt32).toInt32) &&& (3 : Int32))), .val (.ref sx40), .val (.ref tl41), .unset] [(.ref tl41)])) _
        refine st51.trans ?_
        show Steps pg.tables ee below (T51.setTop (mkF mm 100 #[.val (.int p0), .val (.int p1), .val (.int p2), .val (.int p3), .val (.int p4), .val (.int p5), .val (.ref sx2), .val .null, .val (.int (((p5.toUInt32 >>> ((6 : Int32) &&& 31).toUInt32).toInt32) &&& (3 : Int32))), .val (.ref sx40), .val (.ref tl41), .unset] [(.int (0 : Int32))])) _
        refine XS.ifNo X51.here hx rfl (hb hby at_100) rfl ((if0 _ _).trans (teq (by decide : (0 : Int32) = (0 : Int32))).2) ?_
        show Steps pg.tables ee below (T51.setTop (mkF mm 103 #[.val (.int p0), .val (.int p1), .val (.int p2), .val (.int p3), .val (.int p4), .val (.int p5), .val (.ref sx2), .val .null, .val (.int (((p5.toUInt32 >>> ((6 : Int32) &&& 31).toUInt32).toInt32) &&& (3 : Int32))), .val (.ref sx40), .val (.ref tl41), .unset] [])) _
        refine XS.aload X51.here hx rfl (hb hby at_103) rfl rfl ?_
        show Steps pg.tables ee below (T51.setTop (mkF mm 105 #[.val (.int p0), .val (.int p1), .val (.int p2), .val (.int p3), .val (.int p4), .val (.int p5), .val (.ref sx2), .val .null, .val (.int (((p5.toUInt32 >>> ((6 : Int32) &&& 31).toUInt32).toInt32) &&& (3 : Int32))), .val (.ref sx40), .val (.ref tl41), .unset] [.null])) _
        refine XS.aload X51.here hx rfl (hb hby at_105) rfl rfl ?_
        show Steps pg.tables ee below (T51.setTop (mkF mm 107 #[.val (.int p0), .val (.int p1), .val (.int p2), .val (.int p3), .val (.int p4), .val (.int p5), .val (.ref sx2), .val .null, .val (.int (((p5.toUInt32 >>> ((6 : Int32) &&& 31).toUInt32).toInt32) &&& (3 : Int32))), .val (.ref sx40), .val (.ref tl41), .unset] [(.ref tl41), .null])) _
        refine st53.trans ?_
        show Steps pg.tables ee below (T53.setTop (mkF mm 110 #[.val (.int p0), .val (.int p1), .val (.int p2), .val (.int p3), .val (.int p4), .val (.int p5), .val (.ref sx2), .val .null, .val (.int (((p5.toUInt32 >>> ((6 : Int32) &&& 31).toUInt32).toInt32) &&& (3 : Int32))), .val (.ref sx40), .val (.ref tl41), .unset] [.null, .null])) _
        refine st55 _ ?_
        show Steps pg.tables ee below (T55.setTop (mkF mm 113 #[.val (.int p0), .val (.int p1), .val (.int p2), .val (.int p3), .val (.int p4), .val (.int p5), .val (.ref sx2), .val .null, .val (.int (((p5.toUInt32 >>> ((6 : Int32) &&& 31).toUInt32).toInt32) &&& (3 : Int32))), .val (.ref sx40), .val (.ref tl41), .unset] [(.int (1 : Int32))])) _
        refine XS.ifNo X55.here hx rfl (hb hby at_113) rfl ((if0 _ _).trans (feq (by decide : ¬ ((1 : Int32) = (0 : Int32)))).1) ?_
        show Steps pg.tables ee below (T55.setTop (mkF mm 116 #[.val (.int p0), .val (.int p1), .val (.int p2), .val (.int p3), .val (.int p4), .val (.int p5), .val (.ref sx2), .val .null, .val (.int (((p5.toUInt32 >>> ((6 : Int32) &&& 31).toUInt32).toInt32) &&& (3 : Int32))), .val (.ref sx40), .val (.ref tl41), .unset] [])) _
        refine XS.aload X55.here hx rfl (hb hby at_116) rfl rfl ?_
        show Steps pg.tables ee below (T55.setTop (mkF mm 118 #[.val (.int p0), .val (.int p1), .val (.int p2), .val (.int p3), .val (.int p4), .val (.int p5), .val (.ref sx2), .val .null, .val (.int (((p5.toUInt32 >>> ((6 : Int32) &&& 31).toUInt32).toInt32) &&& (3 : Int32))), .val (.ref sx40), .val (.ref tl41), .unset] [.null])) _
        refine XS.aload X55.here hx rfl (hb hby at_118) rfl rfl ?_
        show Steps pg.tables ee below (T55.setTop (mkF mm 120 #[.val (.int p0), .val (.int p1), .val (.int p2), .val (.int p3), .val (.int p4), .val (.int p5), .val (.ref sx2), .val .null, .val (.int (((p5.toUInt32 >>> ((6 : Int32) &&& 31).toUInt32).toInt32) &&& (3 : Int32))), .val (.ref sx40), .val (.ref tl41), .unset] [(.ref tl41), .null])) _
        refine XS.aconstNull X55.here hx rfl (hb hby at_120) ?_
        show Steps pg.tables ee below (T55.setTop (mkF mm 121 #[.val (.int p0), .val (.int p1), .val (.int p2), .val (.int p3), .val (.int p4), .val (.int p5), .val (.ref sx2), .val .null, .val (.int (((p5.toUInt32 >>> ((6 : Int32) &&& 31).toUInt32).toInt32) &&& (3 : Int32))), .val (.ref sx40), .val (.ref tl41), .unset] [.null, (.ref tl41), .null])) _
        refine st57.trans ?_
        show Steps pg.tables ee below (T57.setTop (mkF mm 124 #[.val (.int p0), .val (.int p1), .val (.int p2), .val (.int p3), .val (.int p4), .val (.int p5), .val (.ref sx2), .val .null, .val (.int (((p5.toUInt32 >>> ((6 : Int32) &&& 31).toUInt32).toInt32) &&& (3 : Int32))), .val (.ref sx40), .val (.ref tl41), .unset] [.null, .null])) _
        refine st59 _ ?_
        show Steps pg.tables ee below (T59.setTop (mkF mm 127 #[.val (.int p0), .val (.int p1), .val (.int p2), .val (.int p3), .val (.int p4), .val (.int p5), .val (.ref sx2), .val .null, .val (.int (((p5.toUInt32 >>> ((6 : Int32) &&& 31).toUInt32).toInt32) &&& (3 : Int32))), .val (.ref sx40), .val (.ref tl41), .unset] [(.int (1 : Int32))])) _
        refine XS.ifNo X59.here hx rfl (hb hby at_127) rfl ((if0 _ _).trans (feq (by decide : ¬ ((1 : Int32) = (0 : Int32)))).1) ?_
        show Steps pg.tables ee below (T59.setTop (mkF mm 130 #[.val (.int p0), .val (.int p1), .val (.int p2), .val (.int p3), .val (.int p4), .val (.int p5), .val (.ref sx2), .val .null, .val (.int (((p5.toUInt32 >>> ((6 : Int32) &&& 31).toUInt32).toInt32) &&& (3 : Int32))), .val (.ref sx40), .val (.ref tl41), .unset] [])) _
        refine XS.iconst X59.here hx rfl (hb hby at_130) ?_
        show Steps pg.tables ee below (T59.setTop (mkF mm 131 #[.val (.int p0), .val (.int p1), .val (.int p2), .val (.int p3), .val (.int p4), .val (.int p5), .val (.ref sx2), .val .null, .val (.int (((p5.toUInt32 >>> ((6 : Int32) &&& 31).toUInt32).toInt32) &&& (3 : Int32))), .val (.ref sx40), .val (.ref tl41), .unset] [(.int (1 : Int32))])) _
        refine XS.goto X59.here hx rfl (pc0 := 131) (pc' := 135) rfl (hb hby at_131) (by decide) (by decide) ?_
        show Steps pg.tables ee below (T59.setTop (mkF mm 135 #[.val (.int p0), .val (.int p1), .val (.int p2), .val (.int p3), .val (.int p4), .val (.int p5), .val (.ref sx2), .val .null, .val (.int (((p5.toUInt32 >>> ((6 : Int32) &&& 31).toUInt32).toInt32) &&& (3 : Int32))), .val (.ref sx40), .val (.ref tl41), .unset] [(.int (1 : Int32))])) _
        refine XS.istore X59.here hx rfl (hb hby at_135) rfl (l' := #[.val (.int p0), .val (.int p1), .val (.int p2), .val (.int p3), .val (.int p4), .val (.int p5), .val (.ref sx2), .val .null, .val (.int (((p5.toUInt32 >>> ((6 : Int32) &&& 31).toUInt32).toInt32) &&& (3 : Int32))), .val (.ref sx40), .val (.ref tl41), .val (.int (1 : Int32))]) rfl ?_
        show Steps pg.tables ee below (T59.setTop (mkF mm 137 #[.val (.int p0), .val (.int p1), .val (.int p2), .val (.int p3), .val (.int p4), .val (.int p5), .val (.ref sx2), .val .null, .val (.int (((p5.toUInt32 >>> ((6 : Int32) &&& 31).toUInt32).toInt32) &&& (3 : Int32))), .val (.ref sx40), .val (.ref tl41), .val (.int (1 : Int32))] [])) _
        refine XS.iload X59.here hx rfl (hb hby at_137) rfl ?_
        show Steps pg.tables ee below (T59.setTop (mkF mm 139 #[.val (.int p0), .val (.int p1), .val (.int p2), .val (.int p3), .val (.int p4), .val (.int p5), .val (.ref sx2), .val .null, .val (.int (((p5.toUInt32 >>> ((6 : Int32) &&& 31).toUInt32).toInt32) &&& (3 : Int32))), .val (.ref sx40), .val (.ref tl41), .val (.int (1 : Int32))] [(.int (1 : Int32))])) _
        refine XS.ifNo X59.here hx rfl (hb hby at_139) rfl ((if0 _ _).trans (feq (by decide : ¬ ((1 : Int32) = (0 : Int32)))).1) ?_
        show Steps pg.tables ee below (T59.setTop (mkF mm 142 #[.val (.int p0), .val (.int p1), .val (.int p2), .val (.int p3), .val (.int p4), .val (.int p5), .val (.ref sx2), .val .null, .val (.int (((p5.toUInt32 >>> ((6 : Int32) &&& 31).toUInt32).toInt32) &&& (3 : Int32))), .val (.ref sx40), .val (.ref tl41), .val (.int (1 : Int32))] [])) _
        refine XS.iloadN X59.here hx rfl (hb hby at_142) rfl ?_
        show Steps pg.tables ee below (T59.setTop (mkF mm 143 #[.val (.int p0), .val (.int p1), .val (.int p2), .val (.int p3), .val (.int p4), .val (.int p5), .val (.ref sx2), .val .null, .val (.int (((p5.toUInt32 >>> ((6 : Int32) &&& 31).toUInt32).toInt32) &&& (3 : Int32))), .val (.ref sx40), .val (.ref tl41), .val (.int (1 : Int32))] [(.int p0)])) _
        refine XS.iload X59.here hx rfl (hb hby at_143) rfl ?_
        exact k_)
    by_cases hc61 : (((p5.toUInt32 >>> ((6 : Int32) &&& 31).toUInt32).toInt32) &&& (3 : Int32)) < p0
    · obtain ⟨fs, hr, hrun, hended, hRW⟩ := X59.leaveW hS40 (by rw [e59]; exact hk41) (v := some (.int (1 : Int32))) (fun h => by rw [Bd.returns] at h; cases h)
      refine ⟨_, _, pre60 _ ?_, hrun, hended, _, _, rfl, ?_, (own_rmono hRW (by decide) (by decide))⟩
      · show Steps pg.tables ee below (T59.setTop (mkF mm 145 #[.val (.int p0), .val (.int p1), .val (.int p2), .val (.int p3), .val (.int p4), .val (.int p5), .val (.ref sx2), .val .null, .val (.int (((p5.toUInt32 >>> ((6 : Int32) &&& 31).toUInt32).toInt32) &&& (3 : Int32))), .val (.ref sx40), .val (.ref tl41), .val (.int (1 : Int32))] [(.int (((p5.toUInt32 >>> ((6 : Int32) &&& 31).toUInt32).toInt32) &&& (3 : Int32))), (.int p0)])) _
        refine XS.icmpYes X59.here hx rfl (pc0 := 145) (pc' := 168) rfl (hb hby at_145) rfl (tlt hc61).2.2.1 (by decide) (by decide) ?_
        show Steps pg.tables ee below (T59.setTop (mkF mm 168 #[.val (.int p0), .val (.int p1), .val (.int p2), .val (.int p3), .val (.int p4), .val (.int p5), .val (.ref sx2), .val .null, .val (.int (((p5.toUInt32 >>> ((6 : Int32) &&& 31).toUInt32).toInt32) &&& (3 : Int32))), .val (.ref sx40), .val (.ref tl41), .val (.int (1 : Int32))] [])) _
        refine XS.iload X59.here hx rfl (hb hby at_168) rfl ?_
        show Steps pg.tables ee below (T59.setTop (mkF mm 170 #[.val (.int p0), .val (.int p1), .val (.int p2), .val (.int p3), .val (.int p4), .val (.int p5), .val (.ref sx2), .val .null, .val (.int (((p5.toUInt32 >>> ((6 : Int32) &&& 31).toUInt32).toInt32) &&& (3 : Int32))), .val (.ref sx40), .val (.ref tl41), .val (.int (1 : Int32))] [(.int (1 : Int32))])) _
        exact retN X59 hx (t := .boolean) Bd.returns (by simp) (hb hby at_170) hr
      · show Qrm0 Z p0 p1 p2 p3 p4 p5 cs h0 n0 _ T59.heap _
        rw [e59]
        exact ⟨rfl, N59⟩
    · have pre62 : ∀ tg_, Steps pg.tables ee below (T59.setTop (mkF mm 151 #[.val (.int p0), .val (.int p1), .val (.int p2), .val (.int p3), .val (.int p4), .val (.int p5), .val (.ref sx2), .val .null, .val (.int (((p5.toUInt32 >>> ((6 : Int32) &&& 31).toUInt32).toInt32) &&& (3 : Int32))), .val (.ref sx40), .val (.ref tl41), .val (.int (1 : Int32))] [(.int p1), (.int (((p5.toUInt32 >>> ((6 : Int32) &&& 31).toUInt32).toInt32) &&& (3 : Int32)))])) tg_ → Steps pg.tables ee below (s₁.setTop (entryFrame mm #[(.int p0), (.int p1), (.int p2), (.int p3), (.int p4), (.int p5)] maxLocals)) tg_ := fun tg_ k_ => pre60 tg_ (by
          show Steps pg.tables ee below (T59.setTop (mkF mm 145 #[.val (.int p0), .val (.int p1), .val (.int p2), .val (.int p3), .val (.int p4), .val (.int p5), .val (.ref sx2), .val .null, .val (.int (((p5.toUInt32 >>> ((6 : Int32) &&& 31).toUInt32).toInt32) &&& (3 : Int32))), .val (.ref sx40), .val (.ref tl41), .val (.int (1 : Int32))] [(.int (((p5.toUInt32 >>> ((6 : Int32) &&& 31).toUInt32).toInt32) &&& (3 : Int32))), (.int p0)])) _
          refine XS.icmpNo X59.here hx rfl (hb hby at_145) rfl (flt hc61).2.2.1 ?_
          show Steps pg.tables ee below (T59.setTop (mkF mm 148 #[.val (.int p0), .val (.int p1), .val (.int p2), .val (.int p3), .val (.int p4), .val (.int p5), .val (.ref sx2), .val .null, .val (.int (((p5.toUInt32 >>> ((6 : Int32) &&& 31).toUInt32).toInt32) &&& (3 : Int32))), .val (.ref sx40), .val (.ref tl41), .val (.int (1 : Int32))] [])) _
          refine XS.iload X59.here hx rfl (hb hby at_148) rfl ?_
          show Steps pg.tables ee below (T59.setTop (mkF mm 150 #[.val (.int p0), .val (.int p1), .val (.int p2), .val (.int p3), .val (.int p4), .val (.int p5), .val (.ref sx2), .val .null, .val (.int (((p5.toUInt32 >>> ((6 : Int32) &&& 31).toUInt32).toInt32) &&& (3 : Int32))), .val (.ref sx40), .val (.ref tl41), .val (.int (1 : Int32))] [(.int (((p5.toUInt32 >>> ((6 : Int32) &&& 31).toUInt32).toInt32) &&& (3 : Int32)))])) _
          refine XS.iloadN X59.here hx rfl (hb hby at_150) rfl ?_
          exact k_)
      by_cases hc63 : p1 < (((p5.toUInt32 >>> ((6 : Int32) &&& 31).toUInt32).toInt32) &&& (3 : Int32))
      · obtain ⟨fs, hr, hrun, hended, hRW⟩ := X59.leaveW hS40 (by rw [e59]; exact hk41) (v := some (.int (1 : Int32))) (fun h => by rw [Bd.returns] at h; cases h)
        refine ⟨_, _, pre62 _ ?_, hrun, hended, _, _, rfl, ?_, (own_rmono hRW (by decide) (by decide))⟩
        · show Steps pg.tables ee below (T59.setTop (mkF mm 151 #[.val (.int p0), .val (.int p1), .val (.int p2), .val (.int p3), .val (.int p4), .val (.int p5), .val (.ref sx2), .val .null, .val (.int (((p5.toUInt32 >>> ((6 : Int32) &&& 31).toUInt32).toInt32) &&& (3 : Int32))), .val (.ref sx40), .val (.ref tl41), .val (.int (1 : Int32))] [(.int p1), (.int (((p5.toUInt32 >>> ((6 : Int32) &&& 31).toUInt32).toInt32) &&& (3 : Int32)))])) _
          refine XS.icmpYes X59.here hx rfl (pc0 := 151) (pc' := 168) rfl (hb hby at_151) rfl (tlt hc63).2.2.1 (by decide) (by decide) ?_
          show Steps pg.tables ee below (T59.setTop (mkF mm 168 #[.val (.int p0), .val (.int p1), .val (.int p2), .val (.int p3), .val (.int p4), .val (.int p5), .val (.ref sx2), .val .null, .val (.int (((p5.toUInt32 >>> ((6 : Int32) &&& 31).toUInt32).toInt32) &&& (3 : Int32))), .val (.ref sx40), .val (.ref tl41), .val (.int (1 : Int32))] [])) _
          refine XS.iload X59.here hx rfl (hb hby at_168) rfl ?_
          show Steps pg.tables ee below (T59.setTop (mkF mm 170 #[.val (.int p0), .val (.int p1), .val (.int p2), .val (.int p3), .val (.int p4), .val (.int p5), .val (.ref sx2), .val .null, .val (.int (((p5.toUInt32 >>> ((6 : Int32) &&& 31).toUInt32).toInt32) &&& (3 : Int32))), .val (.ref sx40), .val (.ref tl41), .val (.int (1 : Int32))] [(.int (1 : Int32))])) _
          exact retN X59 hx (t := .boolean) Bd.returns (by simp) (hb hby at_170) hr
        · show Qrm0 Z p0 p1 p2 p3 p4 p5 cs h0 n0 _ T59.heap _
          rw [e59]
          exact ⟨rfl, N59⟩
      · obtain ⟨LL64, XL64, NL64⟩ := own_loose X59 N59
        obtain ⟨cq65, kq65, q65a, q65b, q65c⟩ := isOf hZ e59 Ex41
        obtain ⟨_, _, ⟨T65, L65, k65, n65⟩, -, X65, ⟨Lc65, hQ65, l65, y65, z65⟩, st65⟩ := XL64.virtualBack hx (y := (⟨"com/example/orders_into_outcomes/ordersintooutcomes/model/TextLimit", "check", "(Ljava/lang/String;)Ljava/lang/String;"⟩ : MethodName)) (z := (⟨"com/example/orders_into_outcomes/ordersintooutcomes/model/TextLimit", "check", "(Ljava/lang/String;)Ljava/lang/String;"⟩ : MethodName)) hown (mvT hZ (hw _ (List.mem_of_getElem? (i := 79) rfl))) (mvT hZ (hw _ (List.mem_of_getElem? (i := 80) rfl))) (notFace_of_selects (args := #[]) (mvT hZ (hw _ (List.mem_of_getElem? (i := 82) rfl)))) (mvT hZ (hw _ (List.mem_of_getElem? (i := 82) rfl))) (mvT hZ (hw _ (List.mem_of_getElem? (i := 81) rfl))) (by decide) (backOf (W := 1) (rmK1N l Z a0 hw [] tl41 sx2 p0 p1 sx40 sd40 kd40 (((p5.toUInt32 >>> ((6 : Int32) &&& 31).toUInt32).toInt32) &&& (3 : Int32)) vs40 cs T41.heap n0 O41 Ft0_41 Ft1_41 Ft2_41 Ft3_41 Ft4_41 Ex41 (Fc40.keep K41 nin0) (Fv40.keep K41 nin0) (Va40.keep K41 nin0) (Ex40.keep K41) S_CS hcs (own_nn3 _) hc61 hc63) hZ (hw _ (List.mem_of_getElem? (i := 83) rfl)) (hw _ (List.mem_of_getElem? (i := 28) rfl)) (by decide) (by decide)) q65a q65c (g := (mkF mm 160 #[.val (.int p0), .val (.int p1), .val (.int p2), .val (.int p3), .val (.int p4), .val (.int p5), .val (.ref sx2), .val .null, .val (.int (((p5.toUInt32 >>> ((6 : Int32) &&& 31).toUInt32).toInt32) &&& (3 : Int32))), .val (.ref sx40), .val (.ref tl41), .val (.int (1 : Int32))] [(.ref sx40), (.ref tl41), (.ref sx40)])) rfl (by rw [hml]; rfl) (Steps.refl _) (argsL := [(.ref sx40)]) (rest := [(.ref sx40)]) (lenOf pd_359 rfl) rfl (by show 2 * 0 + _ ≤ _; exact Nat.le_of_eq rfl) (hb hby at_160) (fun _ _ => ⟨rfl, e59, (by decide : 13 + 0 ≤ _), (by decide : 29 + 0 ≤ _)⟩)
        dsimp only [Pt.U, Pt.locs, Pt.cells, Pt.slots] at X65 l65 y65 z65 st65 hQ65
        subst l65 y65 z65
        obtain ⟨rfl, N65q, e65⟩ := hQ65
        have N65 := Fr.app NL64 N65q
        obtain ⟨LL66, XL66, NL66⟩ := own_loose X65 N65
        obtain ⟨cq67, kq67, q67a, q67b, q67c⟩ := isOf hZ e65 (Ex40.keep K41)
        obtain ⟨_, _, ⟨T67, L67, k67, n67⟩, -, X67, ⟨Lc67, hQ67, l67, y67, z67⟩, st67⟩ := XL66.virtualBack hx (y := (⟨"java/lang/String", "equals", "(Ljava/lang/Object;)Z"⟩ : MethodName)) (z := (⟨"java/lang/String", "equals", "(Ljava/lang/Object;)Z"⟩ : MethodName)) hown (mvT hZ (hw _ (List.mem_of_getElem? (i := 51) rfl))) (mvT hZ (hw _ (List.mem_of_getElem? (i := 52) rfl))) (notFace_of_selects (args := #[]) (mvT hZ (hw _ (List.mem_of_getElem? (i := 54) rfl)))) (mvT hZ (hw _ (List.mem_of_getElem? (i := 54) rfl))) (mvT hZ (hw _ (List.mem_of_getElem? (i := 53) rfl))) (by decide) (backOf (W := 0) (rmEq l Z a0 hw [] sx40 T41.heap n0 O41) hZ (hw _ (List.mem_of_getElem? (i := 55) rfl)) (hw _ (List.mem_of_getElem? (i := 6) rfl)) (by decide) (by decide)) q67a q67c (g := (mkF mm 163 #[.val (.int p0), .val (.int p1), .val (.int p2), .val (.int p3), .val (.int p4), .val (.int p5), .val (.ref sx2), .val .null, .val (.int (((p5.toUInt32 >>> ((6 : Int32) &&& 31).toUInt32).toInt32) &&& (3 : Int32))), .val (.ref sx40), .val (.ref tl41), .val (.int (1 : Int32))] [(.ref sx40), (.ref sx40)])) rfl (by rw [hml]; rfl) (Steps.refl _) (argsL := [(.ref sx40)]) (rest := []) (lenOf pd_82 rfl) rfl (by show 2 * 0 + _ ≤ _; exact Nat.le_of_eq rfl) (hb hby at_163) (fun _ _ => ⟨rfl, e65, (by decide : 13 + 0 ≤ _), (by decide : 29 + 0 ≤ _)⟩)
        dsimp only [Pt.U, Pt.locs, Pt.cells, Pt.slots] at X67 l67 y67 z67 st67 hQ67
        subst l67 y67 z67
        obtain ⟨rfl, N67q, e67⟩ := hQ67
        have N67 := Fr.app NL66 N67q
        obtain ⟨fs, hr, hrun, hended, hRW⟩ := X67.leaveW hS40 (by rw [e67]; exact hk41) (v := some (.int (1 : Int32))) (fun h => by rw [Bd.returns] at h; cases h)
        refine ⟨_, _, pre62 _ ?_, hrun, hended, _, _, rfl, ?_, (own_rmono hRW (by decide) (by decide))⟩
        · show Steps pg.tables ee below (T59.setTop (mkF mm 151 #[.val (.int p0), .val (.int p1), .val (.int p2), .val (.int p3), .val (.int p4), .val (.int p5), .val (.ref sx2), .val .null, .val (.int (((p5.toUInt32 >>> ((6 : Int32) &&& 31).toUInt32).toInt32) &&& (3 : Int32))), .val (.ref sx40), .val (.ref tl41), .val (.int (1 : Int32))] [(.int p1), (.int (((p5.toUInt32 >>> ((6 : Int32) &&& 31).toUInt32).toInt32) &&& (3 : Int32)))])) _
          refine XS.icmpNo X59.here hx rfl (hb hby at_151) rfl (flt hc63).2.2.1 ?_
          show Steps pg.tables ee below (T59.setTop (mkF mm 154 #[.val (.int p0), .val (.int p1), .val (.int p2), .val (.int p3), .val (.int p4), .val (.int p5), .val (.ref sx2), .val .null, .val (.int (((p5.toUInt32 >>> ((6 : Int32) &&& 31).toUInt32).toInt32) &&& (3 : Int32))), .val (.ref sx40), .val (.ref tl41), .val (.int (1 : Int32))] [])) _
          refine XS.aload X59.here hx rfl (hb hby at_154) rfl rfl ?_
          show Steps pg.tables ee below (T59.setTop (mkF mm 156 #[.val (.int p0), .val (.int p1), .val (.int p2), .val (.int p3), .val (.int p4), .val (.int p5), .val (.ref sx2), .val .null, .val (.int (((p5.toUInt32 >>> ((6 : Int32) &&& 31).toUInt32).toInt32) &&& (3 : Int32))), .val (.ref sx40), .val (.ref tl41), .val (.int (1 : Int32))] [(.ref sx40)])) _
          refine XS.aload X59.here hx rfl (hb hby at_156) rfl rfl ?_
          show Steps pg.tables ee below (T59.setTop (mkF mm 158 #[.val (.int p0), .val (.int p1), .val (.int p2), .val (.int p3), .val (.int p4), .val (.int p5), .val (.ref sx2), .val .null, .val (.int (((p5.toUInt32 >>> ((6 : Int32) &&& 31).toUInt32).toInt32) &&& (3 : Int32))), .val (.ref sx40), .val (.ref tl41), .val (.int (1 : Int32))] [(.ref tl41), (.ref sx40)])) _
          refine XS.aload X59.here hx rfl (hb hby at_158) rfl rfl ?_
          show Steps pg.tables ee below (T59.setTop (mkF mm 160 #[.val (.int p0), .val (.int p1), .val (.int p2), .val (.int p3), .val (.int p4), .val (.int p5), .val (.ref sx2), .val .null, .val (.int (((p5.toUInt32 >>> ((6 : Int32) &&& 31).toUInt32).toInt32) &&& (3 : Int32))), .val (.ref sx40), .val (.ref tl41), .val (.int (1 : Int32))] [(.ref sx40), (.ref tl41), (.ref sx40)])) _
          refine st65.trans ?_
          show Steps pg.tables ee below (T65.setTop (mkF mm 163 #[.val (.int p0), .val (.int p1), .val (.int p2), .val (.int p3), .val (.int p4), .val (.int p5), .val (.ref sx2), .val .null, .val (.int (((p5.toUInt32 >>> ((6 : Int32) &&& 31).toUInt32).toInt32) &&& (3 : Int32))), .val (.ref sx40), .val (.ref tl41), .val (.int (1 : Int32))] [(.ref sx40), (.ref sx40)])) _
          refine st67.trans ?_
          show Steps pg.tables ee below (T67.setTop (mkF mm 166 #[.val (.int p0), .val (.int p1), .val (.int p2), .val (.int p3), .val (.int p4), .val (.int p5), .val (.ref sx2), .val .null, .val (.int (((p5.toUInt32 >>> ((6 : Int32) &&& 31).toUInt32).toInt32) &&& (3 : Int32))), .val (.ref sx40), .val (.ref tl41), .val (.int (1 : Int32))] [(.int (1 : Int32))])) _
          refine XS.istore X67.here hx rfl (hb hby at_166) rfl (l' := #[.val (.int p0), .val (.int p1), .val (.int p2), .val (.int p3), .val (.int p4), .val (.int p5), .val (.ref sx2), .val .null, .val (.int (((p5.toUInt32 >>> ((6 : Int32) &&& 31).toUInt32).toInt32) &&& (3 : Int32))), .val (.ref sx40), .val (.ref tl41), .val (.int (1 : Int32))]) rfl ?_
          show Steps pg.tables ee below (T67.setTop (mkF mm 168 #[.val (.int p0), .val (.int p1), .val (.int p2), .val (.int p3), .val (.int p4), .val (.int p5), .val (.ref sx2), .val .null, .val (.int (((p5.toUInt32 >>> ((6 : Int32) &&& 31).toUInt32).toInt32) &&& (3 : Int32))), .val (.ref sx40), .val (.ref tl41), .val (.int (1 : Int32))] [])) _
          refine XS.iload X67.here hx rfl (hb hby at_168) rfl ?_
          show Steps pg.tables ee below (T67.setTop (mkF mm 170 #[.val (.int p0), .val (.int p1), .val (.int p2), .val (.int p3), .val (.int p4), .val (.int p5), .val (.ref sx2), .val .null, .val (.int (((p5.toUInt32 >>> ((6 : Int32) &&& 31).toUInt32).toInt32) &&& (3 : Int32))), .val (.ref sx40), .val (.ref tl41), .val (.int (1 : Int32))] [(.int (1 : Int32))])) _
          exact retN X67 hx (t := .boolean) Bd.returns (by simp) (hb hby at_170) hr
        · show Qrm0 Z p0 p1 p2 p3 p4 p5 cs h0 n0 _ T67.heap _
          rw [e67]
          exact ⟨rfl, N67⟩
set_option maxRecDepth 65536 in
set_option maxHeartbeats 40000000 in
theorem comes_1 {Post : Tables → Env → Array Value → State → Outcome → State → Prop} (hpost : ∀ tb e args s v u, (limb_1_1.after args s (.returned v) u = true ∧ limb_1_2.after args s (.returned v) u = true ∧ True) → FramedW s (.returned v) u (Jvm.fieldLocs frame_1_writes args s ++ Jvm.arrayLocs frame_1_arrays args s ++ Jvm.staticLocs frame_1_statics s) 32 1216 → Post tb e args s (.returned v) u) :
    ArmFor flags0 classFile x code maxLocals ret World_1 tables_1 room_1 Calls_1 rest_1 Pre_1 Post := by
  intro l hfl _ _ p e ha hc hk s m args below hf hA hF happ hP
  obtain ⟨hcalls, hrest, hpre⟩ := hP
  obtain ⟨-, -, -, hnamed, -, -, -, hat⟩ := (Spec.applies_iff hf).mp happ
  obtain ⟨hg, hn⟩ := and_e (Cond.before_iff.mp (show (Jvm.Cond.and given_1 narrow_1).before args s = true from hpre))
  obtain ⟨gg1, gg2⟩ := and_e hg
  obtain ⟨gg3, gg4⟩ := and_e gg2
  obtain ⟨gg5, gg6⟩ := and_e gg4
  obtain ⟨gg7, gg8⟩ := and_e gg6
  obtain ⟨gg9, gg10⟩ := and_e gg8
  obtain ⟨gg11, gg12⟩ := and_e gg10
  obtain ⟨w0, w1, w2, w3, w4, w5, rfl⟩ : ∃ w0 w1 w2 w3 w4 w5 : Value, args = #[w0, w1, w2, w3, w4, w5] := by
    have hs : args.size = 6 := by simpa [Cond.value, given_1] using gg1
    obtain ⟨L⟩ := args
    match L, hs with
    | [w0, w1, w2, w3, w4, w5], _ => exact ⟨w0, w1, w2, w3, w4, w5, rfl⟩
  have hw := fun d (hd : d ∈ tables_1) => atoms_spec (ws := Jvm.Cond.code x code maxLocals ret :: tables_1) hat d (List.mem_cons_of_mem _ hd)
  have hfit : Fit s := fun {y c} hc i hi => by
    obtain ⟨ha, rfl⟩ := Array.getElem?_eq_some_iff.mp hc
    have q := List.all_eq_true.mp ((Array.all_eq_true_iff_forall_mem.mp hF) _ (Array.getElem_mem ha)) i (List.mem_range.mpr hi)
    simpa [Array.getElem?_eq_getElem hi] using q
  obtain ⟨hsets, hown0⟩ := atoms_of _ (rest_1_c_eq ▸ (show rest_1_c.before _ s = true from hrest))
  have hr0 := Cond.before_iff.mp hown0
  obtain ⟨i0, ei0⟩ := is_v gg3
  obtain rfl : w0 = (.int i0) := Option.some.inj ei0
  obtain ⟨i1, ei1⟩ := is_v gg5
  obtain rfl : w1 = (.int i1) := Option.some.inj ei1
  obtain ⟨i2, ei2⟩ := is_v gg7
  obtain rfl : w2 = (.int i2) := Option.some.inj ei2
  obtain ⟨i3, ei3⟩ := is_v gg9
  obtain rfl : w3 = (.int i3) := Option.some.inj ei3
  obtain ⟨i4, ei4⟩ := is_v gg11
  obtain rfl : w4 = (.int i4) := Option.some.inj ei4
  obtain ⟨i5, ei5⟩ := is_v gg12
  obtain rfl : w5 = (.int i5) := Option.some.inj ei5
  obtain ⟨cs, evc⟩ := is_v (Cond.before_iff.mp (hsets _ (List.mem_of_getElem? (i := 1) rfl)))
  have S_CS := Sta.start evc (Or.inl (hsets _ (List.mem_of_getElem? (i := 0) rfl)))
  have hcs : ¬ (cs = (0 : Int32)) := gotF (Cond.eq_ints evc (Term.int_eval 0)) (not_v (Cond.before_iff.mp (hsets _ (List.mem_of_getElem? (i := 2) rfl))))
  have HC : CHv s own_EL s.vm s.heap := CHv.start (own_hEL hw) (fun p hp => hcalls.1 p hp) (hsets _ (List.mem_of_getElem? (i := 2) rfl)) (hw _ (List.mem_of_getElem? (i := 19) rfl)) (hw _ (List.mem_of_getElem? (i := 5) rfl))
  obtain ⟨n, o, h1, h2, h3, _, L, rfl, ⟨rfl, N⟩, hq⟩ := rm0 l s _ hw tables_1 i0 i1 i2 i3 i4 i5 cs s.heap s.heap.size (Old.start s) S_CS hcs p e ha hc hk s m _ below hf ((Spec.applies_iff_loose hf).mp happ).1 ⟨rfl, State.Warmed39.refl s, rfl, HC⟩ trivial
  refine ⟨n, _, h1, h2, h3, hpost _ _ _ _ _ _ ⟨Cond.after_iff.mpr rfl, Cond.after_iff.mpr (eq_i res_at (Term.int_eval (1)) rfl), trivial⟩ ⟨hq.1, hq.2.1, hq.2.2.1, (hq.2.2.2.sift fun y hy => Or.inr (N y hy)).mono (by decide) (by decide)⟩⟩
theorem main_1_1 : Claimed_1_1 := comes_1 fun _ _ _ _ _ _ h hF => ⟨h.1, hF⟩
theorem main_1_2 : Claimed_1_2 := comes_1 fun _ _ _ _ _ _ h hF => ⟨h.2.1, hF⟩
end Jvm.Pilot.@@N@@
namespace Jvm.Pilot.@@N@@
open Jvm Jvm.ClassFile Sem Op Lib Jvm.Free Jvm.Stand Jvm.Pilot.@@N@@.Jvm.D
/-! MADE BY PROGRAM (witnessworld.py) out of the Statement's table words and the real class files: 21 classes; the members and pool entries that the words name. The judged class is class 1, her method 1. -/
namespace start1
open Jvm.ClassFile
def u (s : String) : CpInfo := .utf8 (stringToUtf16 s)
/-- a pool by its gaps: so many unusable entries, then the entry; so many at the end -/
def gap : Nat → List CpInfo → List CpInfo
  | 0, r => r
  | n + 1, r => .unusable :: gap n r
def poolList (es : List (Nat × CpInfo)) (last : Nat) : List CpInfo := es.foldr (fun e r => gap e.1 (e.2 :: r)) (gap last [])
def pool (es : List (Nat × CpInfo)) (last : Nat) : Array CpInfo := ⟨poolList es last⟩
def fileOf (pool : Array CpInfo) (this : Nat) (attrs : Array Attribute := #[]) (ms : Array MethodInfo := #[]) (fl : Nat := 33) (sup : Nat := 0) (ifs : Array Nat := #[]) (fds : Array FieldInfo := #[]) : ClassFile where
  minorVersion := 0
  majorVersion := 65
  constantPool := pool
  accessFlags := fl
  thisClass := this
  superClass := sup
  interfaces := ifs
  fields := fds
  methods := ms
  attributes := attrs
def plain (name : String) (sup : Option ClassId) : Class where
  name := name
  kind := .ordinary
  loader := none
  accessFlags := 33
  super := sup
  interfaces := #[]
  cf := none
  fields := #[]
  methods := #[]
  instanceTypes := #[]
  staticTypes := #[]
  resolved := #[]
  callSites := []
  init := .initialized
  statics := none
  mirror := none

def pool0 : Array CpInfo := pool [(5, u "<init>"), (0, u "()V"), (1, .class_ 10), (1, u "java/lang/Object")] 113

def k0c0 : Code := { maxStack := 0, maxLocals := 1, code := object_method_1_code, exceptionTable := #[], attributes := #[] }
def k0m0 : Method := { name := "<init>", desc := "()V", sig := { parameters := [], returnType := none }, accessFlags := 1, code := some k0c0 }
/-- java/lang/Object -/
def k0 : Class := { plain "java/lang/Object" none with
  accessFlags := 33
  interfaces := #[]
  cf := some (fileOf pool0 8 #[] #[{ accessFlags := 1, nameIndex := 5, descriptorIndex := 6, attributes := #[] }] 33 0 #[] #[])
  fields := #[]
  methods := #[k0m0]
  instanceTypes := #[]
  staticTypes := #[]
  resolved := Array.replicate 124 none
  statics := none }

def pool1 : Array CpInfo := pool [(2, .class_ 4), (1, u "java/lang/Object"), (0, u "<init>"), (0, u "()V"), (0, .methodref 8 9), (0, .class_ 10), (0, .nameAndType 11 12), (0, u "com/example/orders_into_outcomes/ordersintooutcomes/model/TextLimitOptionalPinLaw"), (0, u "draw"), (0, u "(II)Ljava/lang/String;"), (0, .methodref 14 15), (0, .class_ 16), (0, .nameAndType 17 18), (0, u "com/example/orders_into_outcomes/ordersintooutcomes/model/TextLimit"), (0, u "optional"), (0, u "(Ljava/lang/String;IILjava/lang/String;)Lcom/example/orders_into_outcomes/ordersintooutcomes/model/TextLimit;"), (0, .methodref 14 20), (0, .nameAndType 21 22), (0, u "name"), (0, u "()Ljava/lang/String;"), (0, .methodref 24 25), (0, .class_ 26), (0, .nameAndType 27 28), (0, u "java/lang/String"), (0, u "equals"), (0, u "(Ljava/lang/Object;)Z"), (0, .methodref 14 30), (0, .nameAndType 31 32), (0, u "shortest"), (0, u "()I"), (0, .methodref 14 34), (0, .nameAndType 35 32), (0, u "longest"), (0, .methodref 14 37), (0, .nameAndType 38 39), (0, u "isRequired"), (0, u "()Z"), (0, .methodref 14 41), (0, .nameAndType 42 22), (0, u "byDefault"), (0, .methodref 8 44), (0, .nameAndType 45 46), (0, u "same"), (0, u "(Ljava/lang/String;Ljava/lang/String;)Z"), (0, .methodref 14 48), (0, .nameAndType 49 50), (0, u "check"), (0, u "(Ljava/lang/String;)Ljava/lang/String;"), (0, .methodref 24 52), (0, .nameAndType 5 53), (0, u "([C)V"), (2, u "law"), (0, u "(IIIIII)Z")] 3

def k1m0 : Method := { name := "<init>", desc := "()V", sig := { parameters := [], returnType := none }, accessFlags := 1, code := none }
def k1c1 : Code := { maxStack := 4, maxLocals := 12, code := code, exceptionTable := #[], attributes := #[] }
def k1m1 : Method := { name := "law", desc := "(IIIIII)Z", sig := { parameters := [.int, .int, .int, .int, .int, .int], returnType := some .boolean }, accessFlags := 9, code := some k1c1 }
def k1c2 : Code := { maxStack := 6, maxLocals := 5, code := method_3_code, exceptionTable := #[], attributes := #[] }
def k1m2 : Method := { name := "draw", desc := "(II)Ljava/lang/String;", sig := { parameters := [.int, .int], returnType := some (.object "java/lang/String") }, accessFlags := 10, code := some k1c2 }
def k1c3 : Code := { maxStack := 2, maxLocals := 2, code := method_4_code, exceptionTable := #[], attributes := #[] }
def k1m3 : Method := { name := "same", desc := "(Ljava/lang/String;Ljava/lang/String;)Z", sig := { parameters := [(.object "java/lang/String"), (.object "java/lang/String")], returnType := some .boolean }, accessFlags := 10, code := some k1c3 }
/-- com/example/orders_into_outcomes/ordersintooutcomes/model/TextLimitOptionalPinLaw -/
def k1 : Class := { plain "com/example/orders_into_outcomes/ordersintooutcomes/model/TextLimitOptionalPinLaw" (some 0) with
  accessFlags := 49
  interfaces := #[]
  cf := some (fileOf pool1 8 #[] #[{ accessFlags := 1, nameIndex := 5, descriptorIndex := 6, attributes := #[] }, { accessFlags := 9, nameIndex := 56, descriptorIndex := 57, attributes := #[] }, { accessFlags := 10, nameIndex := 11, descriptorIndex := 12, attributes := #[] }, { accessFlags := 10, nameIndex := 45, descriptorIndex := 46, attributes := #[] }] 49 2 #[] #[])
  fields := #[]
  methods := #[k1m0, k1m1, k1m2, k1m3]
  instanceTypes := #[]
  staticTypes := #[]
  resolved := Array.replicate 61 none
  statics := none }

def pool2 : Array CpInfo := pool [(1, .class_ 2), (0, u "java/io/Serializable"), (0, .class_ 4), (0, u "java/lang/Object")] 2

/-- java/io/Serializable -/
def k2 : Class := { plain "java/io/Serializable" (some 0) with
  accessFlags := 1537
  interfaces := #[]
  cf := some (fileOf pool2 1 #[] #[] 1537 3 #[] #[])
  fields := #[]
  methods := #[]
  instanceTypes := #[]
  staticTypes := #[]
  resolved := Array.replicate 7 none
  statics := none }

def pool3 : Array CpInfo := pool [(1, .class_ 2), (0, u "java/lang/Comparable"), (0, .class_ 4), (0, u "java/lang/Object")] 7

/-- java/lang/Comparable -/
def k3 : Class := { plain "java/lang/Comparable" (some 0) with
  accessFlags := 1537
  interfaces := #[]
  cf := some (fileOf pool3 1 #[] #[] 1537 3 #[] #[])
  fields := #[]
  methods := #[]
  instanceTypes := #[]
  staticTypes := #[]
  resolved := Array.replicate 12 none
  statics := none }

def pool4 : Array CpInfo := pool [(2, .class_ 4), (1, u "java/lang/CharSequence"), (42, .class_ 48), (0, u "java/lang/CharSequence$1CodePointIterator"), (10, .class_ 60), (0, u "java/lang/CharSequence$1CharIterator"), (5, .class_ 67), (0, u "java/lang/Object")] 63

/-- java/lang/CharSequence -/
def k4 : Class := { plain "java/lang/CharSequence" (some 0) with
  accessFlags := 1537
  interfaces := #[]
  cf := some (fileOf pool4 2 #[.nestMembers #[47, 59]] #[] 1537 66 #[] #[])
  fields := #[]
  methods := #[]
  instanceTypes := #[]
  staticTypes := #[]
  resolved := Array.replicate 131 none
  statics := none }

def pool5 : Array CpInfo := pool [(1, .class_ 2), (0, u "java/lang/constant/Constable"), (0, .class_ 4), (0, u "java/lang/Object")] 6

/-- java/lang/constant/Constable -/
def k5 : Class := { plain "java/lang/constant/Constable" (some 0) with
  accessFlags := 1537
  interfaces := #[]
  cf := some (fileOf pool5 1 #[] #[] 1537 3 #[] #[])
  fields := #[]
  methods := #[]
  instanceTypes := #[]
  staticTypes := #[]
  resolved := Array.replicate 11 none
  statics := none }

def pool6 : Array CpInfo := pool [(1, .class_ 2), (0, u "java/lang/constant/ConstantDesc"), (0, .class_ 4), (0, u "java/lang/Object")] 32

/-- java/lang/constant/ConstantDesc -/
def k6 : Class := { plain "java/lang/constant/ConstantDesc" (some 0) with
  accessFlags := 1537
  interfaces := #[]
  cf := some (fileOf pool6 1 #[] #[] 1537 3 #[] #[])
  fields := #[]
  methods := #[]
  instanceTypes := #[]
  staticTypes := #[]
  resolved := Array.replicate 37 none
  statics := none }

def pool7 : Array CpInfo := pool [(1, .methodref 2 3), (0, .class_ 4), (0, .nameAndType 5 6), (0, u "java/lang/Object"), (0, u "<init>"), (0, u "()V"), (0, .string 8), (0, u ""), (0, .fieldref 10 11), (0, .class_ 12), (0, .nameAndType 13 14), (0, u "java/lang/String"), (0, u "value"), (0, u "[B"), (0, .fieldref 10 16), (0, .nameAndType 17 18), (0, u "coder"), (0, u "B"), (2, u "hash"), (0, u "I"), (2, u "hashIsZero"), (0, u "Z"), (0, .methodref 10 28), (0, .nameAndType 5 29), (0, u "([CIILjava/lang/Void;)V"), (7, u "(III)I"), (0, .fieldref 10 39), (0, .nameAndType 40 26), (0, u "COMPACT_STRINGS"), (1, .class_ 44), (1, u "java/lang/StringUTF16"), (0, u "compress"), (1, .methodref 42 48), (0, .nameAndType 49 50), (0, u "coderFromArrayLen"), (0, u "([BI)B"), (28, .class_ 81), (1, u "java/util/Objects"), (60, u "()Z"), (34, .methodref 42 178), (0, .nameAndType 45 179), (0, u "([CII)[B"), (154, u "()I"), (0, .methodref 10 336), (0, .nameAndType 17 337), (0, u "()B"), (154, .methodref 10 493), (0, .nameAndType 494 142), (0, u "isLatin1"), (10, .methodref 10 506), (0, .nameAndType 507 334), (0, u "length"), (3, .methodref 79 512), (0, .nameAndType 513 37), (0, u "checkFromToIndex"), (2, u "codePointCount"), (26, u "equals"), (29, u "(Ljava/lang/Object;)Z"), (1, .class_ 576), (0, u "java/lang/CharSequence"), (22, u "CASE_INSENSITIVE_ORDER"), (0, u "Ljava/util/Comparator;"), (35, u "(II)I"), (373, u "([C)V"), (90, u "serialPersistentFields"), (0, u "[Ljava/io/ObjectStreamField;"), (0, .class_ 1104), (0, u "java/lang/String$CaseInsensitiveComparator"), (1, .class_ 1107), (0, u "java/io/Serializable"), (0, .class_ 1109), (0, u "java/lang/Comparable"), (0, .class_ 1111), (0, u "java/lang/constant/Constable"), (0, .class_ 1113), (0, u "java/lang/constant/ConstantDesc"), (2, u "serialVersionUID"), (0, u "J"), (3, u "REPL"), (0, u "C"), (2, u "LATIN1"), (1, u "UTF16")] 323

def k7m0 : Method := { name := "<init>", desc := "()V", sig := { parameters := [], returnType := none }, accessFlags := 1, code := none }
def k7c1 : Code := { maxStack := 5, maxLocals := 2, code := jdk_42_method_3_code, exceptionTable := #[], attributes := #[] }
def k7m1 : Method := { name := "<init>", desc := "([C)V", sig := { parameters := [(.array .char)], returnType := none }, accessFlags := 1, code := some k7c1 }
def k7c2 : Code := { maxStack := 2, maxLocals := 1, code := jdk_42_method_54_code, exceptionTable := #[], attributes := #[] }
def k7m2 : Method := { name := "length", desc := "()I", sig := { parameters := [], returnType := some .int }, accessFlags := 1, code := some k7c2 }
def k7c3 : Code := { maxStack := 3, maxLocals := 3, code := jdk_42_method_59_code, exceptionTable := #[], attributes := #[] }
def k7m3 : Method := { name := "codePointCount", desc := "(II)I", sig := { parameters := [.int, .int], returnType := some .int }, accessFlags := 1, code := some k7c3 }
def k7c4 : Code := { maxStack := 2, maxLocals := 3, code := jdk_42_method_66_code, exceptionTable := #[], attributes := #[] }
def k7m4 : Method := { name := "equals", desc := "(Ljava/lang/Object;)Z", sig := { parameters := [(.object "java/lang/Object")], returnType := some .boolean }, accessFlags := 1, code := some k7c4 }
def k7c5 : Code := { maxStack := 4, maxLocals := 6, code := jdk_42_method_149_code, exceptionTable := #[], attributes := #[] }
def k7m5 : Method := { name := "<init>", desc := "([CIILjava/lang/Void;)V", sig := { parameters := [(.array .char), .int, .int, (.object "java/lang/Void")], returnType := none }, accessFlags := 2, code := some k7c5 }
def k7c6 : Code := { maxStack := 1, maxLocals := 1, code := jdk_42_method_152_code, exceptionTable := #[], attributes := #[] }
def k7m6 : Method := { name := "coder", desc := "()B", sig := { parameters := [], returnType := some .byte }, accessFlags := 0, code := some k7c6 }
def k7c7 : Code := { maxStack := 1, maxLocals := 1, code := jdk_42_method_154_code, exceptionTable := #[], attributes := #[] }
def k7m7 : Method := { name := "isLatin1", desc := "()Z", sig := { parameters := [], returnType := some .boolean }, accessFlags := 0, code := some k7c7 }
/-- java/lang/String -/
def k7 : Class := { plain "java/lang/String" (some 0) with
  accessFlags := 49
  interfaces := #[2, 3, 4, 5, 6]
  cf := some (fileOf pool7 10 #[.nestMembers #[1103]] #[{ accessFlags := 1, nameIndex := 5, descriptorIndex := 6, attributes := #[] }, { accessFlags := 1, nameIndex := 5, descriptorIndex := 1010, attributes := #[] }, { accessFlags := 1, nameIndex := 507, descriptorIndex := 334, attributes := #[] }, { accessFlags := 1, nameIndex := 516, descriptorIndex := 636, attributes := #[] }, { accessFlags := 1, nameIndex := 543, descriptorIndex := 573, attributes := #[] }, { accessFlags := 2, nameIndex := 5, descriptorIndex := 29, attributes := #[] }, { accessFlags := 0, nameIndex := 17, descriptorIndex := 337, attributes := #[] }, { accessFlags := 0, nameIndex := 494, descriptorIndex := 142, attributes := #[] }] 49 2 #[1106, 1108, 575, 1110, 1112] #[{ accessFlags := 18, nameIndex := 13, descriptorIndex := 14, attributes := #[] }, { accessFlags := 18, nameIndex := 17, descriptorIndex := 18, attributes := #[] }, { accessFlags := 2, nameIndex := 21, descriptorIndex := 22, attributes := #[] }, { accessFlags := 2, nameIndex := 25, descriptorIndex := 26, attributes := #[] }, { accessFlags := 26, nameIndex := 1116, descriptorIndex := 1117, attributes := #[] }, { accessFlags := 24, nameIndex := 40, descriptorIndex := 26, attributes := #[] }, { accessFlags := 26, nameIndex := 1101, descriptorIndex := 1102, attributes := #[] }, { accessFlags := 26, nameIndex := 1121, descriptorIndex := 1122, attributes := #[] }, { accessFlags := 25, nameIndex := 599, descriptorIndex := 600, attributes := #[] }, { accessFlags := 24, nameIndex := 1125, descriptorIndex := 18, attributes := #[] }, { accessFlags := 24, nameIndex := 1127, descriptorIndex := 18, attributes := #[] }])
  fields := #[{ name := "value", type := (.array .byte), accessFlags := 18, slot := 0, constantValue := 0 }, { name := "coder", type := .byte, accessFlags := 18, slot := 1, constantValue := 0 }, { name := "hash", type := .int, accessFlags := 2, slot := 2, constantValue := 0 }, { name := "hashIsZero", type := .boolean, accessFlags := 2, slot := 3, constantValue := 0 }, { name := "serialVersionUID", type := .long, accessFlags := 26, slot := 0, constantValue := 0 }, { name := "COMPACT_STRINGS", type := .boolean, accessFlags := 24, slot := 1, constantValue := 0 }, { name := "serialPersistentFields", type := (.array (.object "java/io/ObjectStreamField")), accessFlags := 26, slot := 2, constantValue := 0 }, { name := "REPL", type := .char, accessFlags := 26, slot := 3, constantValue := 0 }, { name := "CASE_INSENSITIVE_ORDER", type := (.object "java/util/Comparator"), accessFlags := 25, slot := 4, constantValue := 0 }, { name := "LATIN1", type := .byte, accessFlags := 24, slot := 5, constantValue := 0 }, { name := "UTF16", type := .byte, accessFlags := 24, slot := 6, constantValue := 0 }]
  methods := #[k7m0, k7m1, k7m2, k7m3, k7m4, k7m5, k7m6, k7m7]
  instanceTypes := #[(.array .byte), .byte, .int, .boolean]
  staticTypes := #[.long, .boolean, (.array (.object "java/io/ObjectStreamField")), .char, (.object "java/util/Comparator"), .byte, .byte]
  resolved := Array.replicate 1451 none
  statics := some 0 }

def pool8 : Array CpInfo := pool [(1, .methodref 2 3), (0, .class_ 4), (0, .nameAndType 5 6), (0, u "java/lang/Object"), (0, u "<init>"), (0, u "()V"), (0, .fieldref 8 9), (0, .class_ 10), (0, .nameAndType 11 12), (0, u "com/example/orders_into_outcomes/ordersintooutcomes/model/TextLimit"), (0, u "name"), (0, u "Ljava/lang/String;"), (0, .fieldref 8 14), (0, .nameAndType 15 16), (0, u "shortest"), (0, u "I"), (0, .fieldref 8 18), (0, .nameAndType 19 16), (0, u "longest"), (0, .fieldref 8 21), (0, .nameAndType 22 23), (0, u "required"), (0, u "Z"), (0, .fieldref 8 25), (0, .nameAndType 26 12), (0, u "byDefault"), (0, .methodref 8 28), (0, .nameAndType 5 29), (0, u "(Ljava/lang/String;IIZLjava/lang/String;)V"), (0, .methodref 8 31), (0, .nameAndType 32 33), (0, u "check"), (0, u "(Ljava/lang/String;Ljava/lang/String;)Ljava/lang/String;"), (3, u "(Ljava/lang/String;)Ljava/lang/String;"), (6, .methodref 45 46), (0, .class_ 47), (0, .nameAndType 48 49), (0, u "java/lang/String"), (0, u "length"), (0, u "()I"), (0, .methodref 45 51), (0, .nameAndType 52 53), (0, u "codePointCount"), (0, u "(II)I"), (6, u "optional"), (0, u "(Ljava/lang/String;IILjava/lang/String;)Lcom/example/orders_into_outcomes/ordersintooutcomes/model/TextLimit;"), (0, u "()Ljava/lang/String;"), (0, u "isRequired"), (0, u "()Z")] 20

def k8c0 : Code := { maxStack := 2, maxLocals := 6, code := prog_49_method_1_code, exceptionTable := #[], attributes := #[] }
def k8m0 : Method := { name := "<init>", desc := "(Ljava/lang/String;IIZLjava/lang/String;)V", sig := { parameters := [(.object "java/lang/String"), .int, .int, .boolean, (.object "java/lang/String")], returnType := none }, accessFlags := 2, code := some k8c0 }
def k8c1 : Code := { maxStack := 7, maxLocals := 4, code := prog_49_method_3_code, exceptionTable := #[], attributes := #[] }
def k8m1 : Method := { name := "optional", desc := "(Ljava/lang/String;IILjava/lang/String;)Lcom/example/orders_into_outcomes/ordersintooutcomes/model/TextLimit;", sig := { parameters := [(.object "java/lang/String"), .int, .int, (.object "java/lang/String")], returnType := some (.object "com/example/orders_into_outcomes/ordersintooutcomes/model/TextLimit") }, accessFlags := 9, code := some k8c1 }
def k8c2 : Code := { maxStack := 1, maxLocals := 1, code := prog_49_method_4_code, exceptionTable := #[], attributes := #[] }
def k8m2 : Method := { name := "name", desc := "()Ljava/lang/String;", sig := { parameters := [], returnType := some (.object "java/lang/String") }, accessFlags := 1, code := some k8c2 }
def k8c3 : Code := { maxStack := 1, maxLocals := 1, code := prog_49_method_5_code, exceptionTable := #[], attributes := #[] }
def k8m3 : Method := { name := "shortest", desc := "()I", sig := { parameters := [], returnType := some .int }, accessFlags := 1, code := some k8c3 }
def k8c4 : Code := { maxStack := 1, maxLocals := 1, code := prog_49_method_6_code, exceptionTable := #[], attributes := #[] }
def k8m4 : Method := { name := "longest", desc := "()I", sig := { parameters := [], returnType := some .int }, accessFlags := 1, code := some k8c4 }
def k8c5 : Code := { maxStack := 1, maxLocals := 1, code := prog_49_method_7_code, exceptionTable := #[], attributes := #[] }
def k8m5 : Method := { name := "isRequired", desc := "()Z", sig := { parameters := [], returnType := some .boolean }, accessFlags := 1, code := some k8c5 }
def k8c6 : Code := { maxStack := 1, maxLocals := 1, code := prog_49_method_8_code, exceptionTable := #[], attributes := #[] }
def k8m6 : Method := { name := "byDefault", desc := "()Ljava/lang/String;", sig := { parameters := [], returnType := some (.object "java/lang/String") }, accessFlags := 1, code := some k8c6 }
def k8c7 : Code := { maxStack := 3, maxLocals := 2, code := prog_49_method_9_code, exceptionTable := #[], attributes := #[] }
def k8m7 : Method := { name := "check", desc := "(Ljava/lang/String;)Ljava/lang/String;", sig := { parameters := [(.object "java/lang/String")], returnType := some (.object "java/lang/String") }, accessFlags := 1, code := some k8c7 }
def k8c8 : Code := { maxStack := 4, maxLocals := 4, code := prog_49_method_10_code, exceptionTable := #[], attributes := #[] }
def k8m8 : Method := { name := "check", desc := "(Ljava/lang/String;Ljava/lang/String;)Ljava/lang/String;", sig := { parameters := [(.object "java/lang/String"), (.object "java/lang/String")], returnType := some (.object "java/lang/String") }, accessFlags := 1, code := some k8c8 }
/-- com/example/orders_into_outcomes/ordersintooutcomes/model/TextLimit -/
def k8 : Class := { plain "com/example/orders_into_outcomes/ordersintooutcomes/model/TextLimit" (some 0) with
  accessFlags := 49
  interfaces := #[]
  cf := some (fileOf pool8 8 #[] #[{ accessFlags := 2, nameIndex := 5, descriptorIndex := 29, attributes := #[] }, { accessFlags := 9, nameIndex := 60, descriptorIndex := 61, attributes := #[] }, { accessFlags := 1, nameIndex := 11, descriptorIndex := 62, attributes := #[] }, { accessFlags := 1, nameIndex := 15, descriptorIndex := 49, attributes := #[] }, { accessFlags := 1, nameIndex := 19, descriptorIndex := 49, attributes := #[] }, { accessFlags := 1, nameIndex := 63, descriptorIndex := 64, attributes := #[] }, { accessFlags := 1, nameIndex := 26, descriptorIndex := 62, attributes := #[] }, { accessFlags := 1, nameIndex := 32, descriptorIndex := 37, attributes := #[] }, { accessFlags := 1, nameIndex := 32, descriptorIndex := 33, attributes := #[] }] 49 2 #[] #[{ accessFlags := 18, nameIndex := 11, descriptorIndex := 12, attributes := #[] }, { accessFlags := 18, nameIndex := 15, descriptorIndex := 16, attributes := #[] }, { accessFlags := 18, nameIndex := 19, descriptorIndex := 16, attributes := #[] }, { accessFlags := 18, nameIndex := 22, descriptorIndex := 23, attributes := #[] }, { accessFlags := 18, nameIndex := 26, descriptorIndex := 12, attributes := #[] }])
  fields := #[{ name := "name", type := (.object "java/lang/String"), accessFlags := 18, slot := 0, constantValue := 0 }, { name := "shortest", type := .int, accessFlags := 18, slot := 1, constantValue := 0 }, { name := "longest", type := .int, accessFlags := 18, slot := 2, constantValue := 0 }, { name := "required", type := .boolean, accessFlags := 18, slot := 3, constantValue := 0 }, { name := "byDefault", type := (.object "java/lang/String"), accessFlags := 18, slot := 4, constantValue := 0 }]
  methods := #[k8m0, k8m1, k8m2, k8m3, k8m4, k8m5, k8m6, k8m7, k8m8]
  instanceTypes := #[(.object "java/lang/String"), .int, .int, .boolean, (.object "java/lang/String")]
  staticTypes := #[]
  resolved := Array.replicate 85 none
  statics := none }

def pool9 : Array CpInfo := pool [(2, .class_ 4), (1, u "java/lang/Object"), (0, u "<init>"), (0, u "()V"), (35, .class_ 44), (1, u "java/util/Objects"), (61, .class_ 108), (1, u "jdk/internal/util/Preconditions"), (2, .methodref 106 112), (0, .nameAndType 113 114), (0, u "checkFromToIndex"), (0, u "(IIILjava/util/function/BiFunction;)I"), (60, u "(III)I")] 8

def k9m0 : Method := { name := "<init>", desc := "()V", sig := { parameters := [], returnType := none }, accessFlags := 2, code := none }
def k9c1 : Code := { maxStack := 4, maxLocals := 3, code := jdk_31_method_18_code, exceptionTable := #[], attributes := #[] }
def k9m1 : Method := { name := "checkFromToIndex", desc := "(III)I", sig := { parameters := [.int, .int, .int], returnType := some .int }, accessFlags := 9, code := some k9c1 }
/-- java/util/Objects -/
def k9 : Class := { plain "java/util/Objects" (some 0) with
  accessFlags := 49
  interfaces := #[]
  cf := some (fileOf pool9 42 #[] #[{ accessFlags := 2, nameIndex := 5, descriptorIndex := 6, attributes := #[] }, { accessFlags := 9, nameIndex := 113, descriptorIndex := 175, attributes := #[] }] 49 2 #[] #[])
  fields := #[]
  methods := #[k9m0, k9m1]
  instanceTypes := #[]
  staticTypes := #[]
  resolved := Array.replicate 184 none
  statics := none }

def pool10 : Array CpInfo := pool [(2, .class_ 4), (1, u "java/lang/Object"), (0, u "<init>"), (0, u "()V"), (17, .class_ 26), (1, u "jdk/internal/util/Preconditions"), (20, u "checkFromToIndex"), (7, .class_ 56), (0, u "jdk/internal/util/Preconditions$4"), (57, .class_ 115), (0, u "jdk/internal/util/Preconditions$1"), (7, u "SIOOBE_FORMATTER"), (0, u "Ljava/util/function/BiFunction;"), (0, .class_ 126), (0, u "jdk/internal/util/Preconditions$2"), (3, u "AIOOBE_FORMATTER"), (0, .class_ 132), (0, u "jdk/internal/util/Preconditions$3"), (3, u "IOOBE_FORMATTER"), (46, u "(IIILjava/util/function/BiFunction;)I")] 10

def k10m0 : Method := { name := "<init>", desc := "()V", sig := { parameters := [], returnType := none }, accessFlags := 1, code := none }
def k10c1 : Code := { maxStack := 4, maxLocals := 4, code := jdk_41_method_12_code, exceptionTable := #[], attributes := #[] }
def k10m1 : Method := { name := "checkFromToIndex", desc := "(IIILjava/util/function/BiFunction;)I", sig := { parameters := [.int, .int, .int, (.object "java/util/function/BiFunction")], returnType := some .int }, accessFlags := 9, code := some k10c1 }
/-- jdk/internal/util/Preconditions -/
def k10 : Class := { plain "jdk/internal/util/Preconditions" (some 0) with
  accessFlags := 33
  interfaces := #[]
  cf := some (fileOf pool10 24 #[.nestMembers #[55, 131, 125, 114]] #[{ accessFlags := 1, nameIndex := 5, descriptorIndex := 6, attributes := #[] }, { accessFlags := 9, nameIndex := 47, descriptorIndex := 183, attributes := #[] }] 33 2 #[] #[{ accessFlags := 25, nameIndex := 123, descriptorIndex := 124, attributes := #[] }, { accessFlags := 25, nameIndex := 130, descriptorIndex := 124, attributes := #[] }, { accessFlags := 25, nameIndex := 136, descriptorIndex := 124, attributes := #[] }])
  fields := #[{ name := "SIOOBE_FORMATTER", type := (.object "java/util/function/BiFunction"), accessFlags := 25, slot := 0, constantValue := 0 }, { name := "AIOOBE_FORMATTER", type := (.object "java/util/function/BiFunction"), accessFlags := 25, slot := 1, constantValue := 0 }, { name := "IOOBE_FORMATTER", type := (.object "java/util/function/BiFunction"), accessFlags := 25, slot := 2, constantValue := 0 }]
  methods := #[k10m0, k10m1]
  instanceTypes := #[]
  staticTypes := #[(.object "java/util/function/BiFunction"), (.object "java/util/function/BiFunction"), (.object "java/util/function/BiFunction")]
  resolved := Array.replicate 194 none
  statics := some 1 }

def pool11 : Array CpInfo := pool [(6, .class_ 8), (1, u "java/lang/Object"), (0, u "<init>"), (0, u "()V"), (1, .class_ 14), (1, u "java/lang/StringUTF16"), (31, u "$assertionsDisabled"), (0, u "Z"), (13, u "HI_BYTE_SHIFT"), (0, u "I"), (2, u "LO_BYTE_SHIFT"), (49, .methodref 12 116), (0, .nameAndType 117 118), (0, u "compress"), (0, u "([CI[BII)I"), (3, u "([CII)[B"), (138, u "coderFromArrayLen"), (0, u "([BI)B"), (106, .class_ 371), (1, u "java/lang/StringUTF16$LinesSpliterator"), (58, u "MAX_LENGTH"), (196, .class_ 628), (0, u "java/lang/StringUTF16$CodePointsSpliterator"), (0, .class_ 630), (0, u "java/lang/StringUTF16$CharsSpliterator")] 4

def k11m0 : Method := { name := "<init>", desc := "()V", sig := { parameters := [], returnType := none }, accessFlags := 0, code := none }
def k11c1 : Code := { maxStack := 2, maxLocals := 2, code := jdk_52_method_15_code, exceptionTable := #[], attributes := #[] }
def k11m1 : Method := { name := "coderFromArrayLen", desc := "([BI)B", sig := { parameters := [(.array .byte), .int], returnType := some .byte }, accessFlags := 8, code := some k11c1 }
def k11c2 : Code := { maxStack := 5, maxLocals := 6, code := jdk_52_method_16_code, exceptionTable := #[], attributes := #[] }
def k11m2 : Method := { name := "compress", desc := "([CII)[B", sig := { parameters := [(.array .char), .int, .int], returnType := some (.array .byte) }, accessFlags := 9, code := some k11c2 }
def k11c3 : Code := { maxStack := 3, maxLocals := 7, code := jdk_52_method_21_code, exceptionTable := #[], attributes := #[] }
def k11m3 : Method := { name := "compress", desc := "([CI[BII)I", sig := { parameters := [(.array .char), .int, (.array .byte), .int, .int], returnType := some .int }, accessFlags := 9, code := some k11c3 }
/-- java/lang/StringUTF16 -/
def k11 : Class := { plain "java/lang/StringUTF16" (some 0) with
  accessFlags := 48
  interfaces := #[]
  cf := some (fileOf pool11 12 #[.nestMembers #[627, 629, 369]] #[{ accessFlags := 0, nameIndex := 9, descriptorIndex := 10, attributes := #[] }, { accessFlags := 8, nameIndex := 261, descriptorIndex := 262, attributes := #[] }, { accessFlags := 9, nameIndex := 117, descriptorIndex := 122, attributes := #[] }, { accessFlags := 9, nameIndex := 117, descriptorIndex := 118, attributes := #[] }] 48 6 #[] #[{ accessFlags := 26, nameIndex := 61, descriptorIndex := 62, attributes := #[] }, { accessFlags := 26, nameIndex := 65, descriptorIndex := 62, attributes := #[] }, { accessFlags := 24, nameIndex := 430, descriptorIndex := 62, attributes := #[] }, { accessFlags := 4120, nameIndex := 46, descriptorIndex := 47, attributes := #[] }])
  fields := #[{ name := "HI_BYTE_SHIFT", type := .int, accessFlags := 26, slot := 0, constantValue := 0 }, { name := "LO_BYTE_SHIFT", type := .int, accessFlags := 26, slot := 1, constantValue := 0 }, { name := "MAX_LENGTH", type := .int, accessFlags := 24, slot := 2, constantValue := 0 }, { name := "$assertionsDisabled", type := .boolean, accessFlags := 4120, slot := 3, constantValue := 0 }]
  methods := #[k11m0, k11m1, k11m2, k11m3]
  instanceTypes := #[]
  staticTypes := #[.int, .int, .int, .boolean]
  resolved := Array.replicate 635 none
  statics := none }

def pool12 : Array CpInfo := pool [(4, .class_ 6), (1, u "java/lang/Object"), (0, u "<init>"), (0, u "()V"), (5, .class_ 16), (1, u "java/lang/StringLatin1"), (104, u "$assertionsDisabled"), (0, u "Z"), (98, .class_ 223), (1, u "java/lang/StringLatin1$LinesSpliterator"), (166, .class_ 391), (0, u "java/lang/StringLatin1$CharsSpliterator")] 3

def k12m0 : Method := { name := "<init>", desc := "()V", sig := { parameters := [], returnType := none }, accessFlags := 0, code := none }
/-- java/lang/StringLatin1 -/
def k12 : Class := { plain "java/lang/StringLatin1" (some 0) with
  accessFlags := 48
  interfaces := #[]
  cf := some (fileOf pool12 14 #[.nestMembers #[390, 221]] #[{ accessFlags := 0, nameIndex := 7, descriptorIndex := 8, attributes := #[] }] 48 4 #[] #[{ accessFlags := 4120, nameIndex := 121, descriptorIndex := 122, attributes := #[] }])
  fields := #[{ name := "$assertionsDisabled", type := .boolean, accessFlags := 4120, slot := 0, constantValue := 0 }]
  methods := #[k12m0]
  instanceTypes := #[]
  staticTypes := #[.boolean]
  resolved := Array.replicate 395 none
  statics := none }

def pool13 : Array CpInfo := pool [(9, u "<init>"), (6, .class_ 18), (1, u "java/lang/Object"), (0, u "()V"), (1, .class_ 23), (1, u "jdk/internal/util/ArraysSupport"), (0, u "LOG2_ARRAY_LONG_INDEX_SCALE"), (0, u "I"), (2, u "U"), (0, u "Ljdk/internal/misc/Unsafe;"), (8, u "BIG_ENDIAN"), (0, u "Z"), (8, u "LOG2_BYTE_BIT_SIZE"), (4, u "LOG2_ARRAY_INT_INDEX_SCALE"), (54, u "JLA"), (0, u "Ljdk/internal/access/JavaLangAccess;"), (11, u "LOG2_ARRAY_BOOLEAN_INDEX_SCALE"), (9, u "LOG2_ARRAY_BYTE_INDEX_SCALE"), (5, u "LOG2_ARRAY_CHAR_INDEX_SCALE"), (5, u "LOG2_ARRAY_SHORT_INDEX_SCALE"), (18, u "LOG2_ARRAY_FLOAT_INDEX_SCALE"), (24, u "LOG2_ARRAY_DOUBLE_INDEX_SCALE"), (89, u "T_BOOLEAN"), (2, u "T_CHAR"), (1, u "T_FLOAT"), (1, u "T_DOUBLE"), (1, u "T_BYTE"), (1, u "T_SHORT"), (1, u "T_INT"), (1, u "T_LONG"), (1, u "SOFT_MAX_ARRAY_LENGTH")] 83

def k13m0 : Method := { name := "<init>", desc := "()V", sig := { parameters := [], returnType := none }, accessFlags := 2, code := none }
/-- jdk/internal/util/ArraysSupport -/
def k13 : Class := { plain "jdk/internal/util/ArraysSupport" (some 0) with
  accessFlags := 33
  interfaces := #[]
  cf := some (fileOf pool13 21 #[] #[{ accessFlags := 2, nameIndex := 9, descriptorIndex := 19, attributes := #[] }] 33 16 #[] #[{ accessFlags := 24, nameIndex := 28, descriptorIndex := 29, attributes := #[] }, { accessFlags := 26, nameIndex := 38, descriptorIndex := 39, attributes := #[] }, { accessFlags := 25, nameIndex := 121, descriptorIndex := 25, attributes := #[] }, { accessFlags := 25, nameIndex := 131, descriptorIndex := 25, attributes := #[] }, { accessFlags := 25, nameIndex := 137, descriptorIndex := 25, attributes := #[] }, { accessFlags := 25, nameIndex := 143, descriptorIndex := 25, attributes := #[] }, { accessFlags := 25, nameIndex := 53, descriptorIndex := 25, attributes := #[] }, { accessFlags := 25, nameIndex := 24, descriptorIndex := 25, attributes := #[] }, { accessFlags := 25, nameIndex := 162, descriptorIndex := 25, attributes := #[] }, { accessFlags := 25, nameIndex := 187, descriptorIndex := 25, attributes := #[] }, { accessFlags := 26, nameIndex := 48, descriptorIndex := 25, attributes := #[] }, { accessFlags := 25, nameIndex := 277, descriptorIndex := 25, attributes := #[] }, { accessFlags := 25, nameIndex := 280, descriptorIndex := 25, attributes := #[] }, { accessFlags := 25, nameIndex := 282, descriptorIndex := 25, attributes := #[] }, { accessFlags := 25, nameIndex := 284, descriptorIndex := 25, attributes := #[] }, { accessFlags := 25, nameIndex := 286, descriptorIndex := 25, attributes := #[] }, { accessFlags := 25, nameIndex := 288, descriptorIndex := 25, attributes := #[] }, { accessFlags := 25, nameIndex := 290, descriptorIndex := 25, attributes := #[] }, { accessFlags := 25, nameIndex := 292, descriptorIndex := 25, attributes := #[] }, { accessFlags := 26, nameIndex := 108, descriptorIndex := 109, attributes := #[] }, { accessFlags := 25, nameIndex := 294, descriptorIndex := 25, attributes := #[] }])
  fields := #[{ name := "U", type := (.object "jdk/internal/misc/Unsafe"), accessFlags := 24, slot := 0, constantValue := 0 }, { name := "BIG_ENDIAN", type := .boolean, accessFlags := 26, slot := 1, constantValue := 0 }, { name := "LOG2_ARRAY_BOOLEAN_INDEX_SCALE", type := .int, accessFlags := 25, slot := 2, constantValue := 0 }, { name := "LOG2_ARRAY_BYTE_INDEX_SCALE", type := .int, accessFlags := 25, slot := 3, constantValue := 0 }, { name := "LOG2_ARRAY_CHAR_INDEX_SCALE", type := .int, accessFlags := 25, slot := 4, constantValue := 0 }, { name := "LOG2_ARRAY_SHORT_INDEX_SCALE", type := .int, accessFlags := 25, slot := 5, constantValue := 0 }, { name := "LOG2_ARRAY_INT_INDEX_SCALE", type := .int, accessFlags := 25, slot := 6, constantValue := 0 }, { name := "LOG2_ARRAY_LONG_INDEX_SCALE", type := .int, accessFlags := 25, slot := 7, constantValue := 0 }, { name := "LOG2_ARRAY_FLOAT_INDEX_SCALE", type := .int, accessFlags := 25, slot := 8, constantValue := 0 }, { name := "LOG2_ARRAY_DOUBLE_INDEX_SCALE", type := .int, accessFlags := 25, slot := 9, constantValue := 0 }, { name := "LOG2_BYTE_BIT_SIZE", type := .int, accessFlags := 26, slot := 10, constantValue := 0 }, { name := "T_BOOLEAN", type := .int, accessFlags := 25, slot := 11, constantValue := 0 }, { name := "T_CHAR", type := .int, accessFlags := 25, slot := 12, constantValue := 0 }, { name := "T_FLOAT", type := .int, accessFlags := 25, slot := 13, constantValue := 0 }, { name := "T_DOUBLE", type := .int, accessFlags := 25, slot := 14, constantValue := 0 }, { name := "T_BYTE", type := .int, accessFlags := 25, slot := 15, constantValue := 0 }, { name := "T_SHORT", type := .int, accessFlags := 25, slot := 16, constantValue := 0 }, { name := "T_INT", type := .int, accessFlags := 25, slot := 17, constantValue := 0 }, { name := "T_LONG", type := .int, accessFlags := 25, slot := 18, constantValue := 0 }, { name := "JLA", type := (.object "jdk/internal/access/JavaLangAccess"), accessFlags := 26, slot := 19, constantValue := 0 }, { name := "SOFT_MAX_ARRAY_LENGTH", type := .int, accessFlags := 25, slot := 20, constantValue := 0 }]
  methods := #[k13m0]
  instanceTypes := #[]
  staticTypes := #[(.object "jdk/internal/misc/Unsafe"), .boolean, .int, .int, .int, .int, .int, .int, .int, .int, .int, .int, .int, .int, .int, .int, .int, .int, .int, (.object "jdk/internal/access/JavaLangAccess"), .int]
  resolved := Array.replicate 378 none
  statics := none }

def pool14 : Array CpInfo := pool [(1, u "java/lang/Cloneable"), (0, .class_ 1), (0, u "java/lang/Object"), (0, .class_ 3)] 3

/-- java/lang/Cloneable -/
def k14 : Class := { plain "java/lang/Cloneable" (some 0) with
  accessFlags := 1537
  interfaces := #[]
  cf := some (fileOf pool14 2 #[] #[] 1537 4 #[] #[])
  fields := #[]
  methods := #[]
  instanceTypes := #[]
  staticTypes := #[]
  resolved := Array.replicate 8 none
  statics := none }

/-- the primitive byte -/
def k15 : Class := { plain "byte" none with kind := .primitive 'B', accessFlags := 0x411 }
/-- [B -/
def k16 : Class := { plain "[B" (some 0) with kind := .array 15 .byte, interfaces := #[14, 2], accessFlags := 1041 }

/-- the primitive char -/
def k17 : Class := { plain "char" none with kind := .primitive 'C', accessFlags := 0x411 }
/-- [C -/
def k18 : Class := { plain "[C" (some 0) with kind := .array 17 .char, interfaces := #[14, 2], accessFlags := 1041 }

/-- the primitive int -/
def k19 : Class := { plain "int" none with kind := .primitive 'I', accessFlags := 0x411 }
/-- [I -/
def k20 : Class := { plain "[I" (some 0) with kind := .array 19 .int, interfaces := #[14, 2], accessFlags := 1041 }

def heap : Heap := #[{ cls := 7, slots := #[.long 0, .int 1, .null, .int 0, .null, .int 0, .int 0], vm := .statics 7 },
  { cls := 10, slots := #[.null, .null, .null], vm := .statics 10 }]
def classes : Array Class := #[k0, k1, k2, k3, k4, k5, k6, k7, k8, k9, k10, k11, k12, k13, k14, k15, k16, k17, k18, k19, k20]
def interned : List (Array UInt16 × Addr) := []
def slotsUsed : Nat := 10
def theMethod : MethodId := ⟨1, 1⟩
def args0 : Array Value := #[.int 0, .int 1, .int 2, .int 3, .int 4, .int 5]
def aboutOver (below : List Frame) : State where
  vm := { classes := classes, interned := interned.toArray }
  heap := heap
  slotsUsed := slotsUsed
  threads := #[{ frames := .invoking theMethod args0 :: below }]
def below0 : List Frame := [.native { method := ⟨0, 0⟩, args := #[] }]
def about1 : State := aboutOver below0
def p0 : Program := .bare "" "" ""
def e0 : Env := launch0.env 0 0 0
theorem w_frames : about1.frames = Frame.invoking theMethod args0 :: below0 := rfl
set_option maxRecDepth 65536 in
theorem w_args : argsFit about1.vm theMethod args0 = true := by decide +kernel
set_option maxRecDepth 65536 in
theorem w_heap : heapFits about1 = true := by decide +kernel
set_option maxRecDepth 65536 in
theorem w_runnable : about1.curStatus? = some .runnable := by decide +kernel
set_option maxRecDepth 65536 in
theorem w_alone : about1.alone = true := by decide +kernel
set_option maxRecDepth 65536 in
theorem w_named : about1.methodNamed? x = some theMethod := by decide +kernel
set_option maxRecDepth 65536 in
theorem w_hears : about1.hears theMethod below0 = true := by decide +kernel
set_option maxRecDepth 65536 in
theorem w_ripe : about1.ripe theMethod args0 below0 = true := by decide +kernel
theorem w_running : about1.status = .running := rfl
set_option maxRecDepth 65536 in
theorem w_room : about1.hasRoom e0.platform room_1 = true :=
  launch0.hasRoom_least _ room_1 (by decide +kernel) (by decide +kernel) (by decide +kernel) (by decide +kernel) (by decide +kernel) (by decide +kernel)
theorem allAtoms_all (ts : List Jvm.Cond) (a : Array Jvm.Value) (st : Jvm.State) : (allAtoms ts).before a st = ts.all (fun c => c.before a st) := by
  induction ts with
  | nil => rfl
  | cons c t ih =>
    show (Jvm.Cond.and c (allAtoms t)).before a st = _
    rw [Jvm.Cond.before_and, ih, List.all_cons]
def words1 : List Jvm.Cond := Jvm.Cond.code x code maxLocals ret :: tables_1
/-- a 'code' word, met by the world's own term for the bytes: nothing is compared byte by byte -/
theorem code_word {y : MethodName} {bytes : ByteArray} {mx : Nat} {rt : Option FieldType} {a : Array Value} {s : State} {m : MethodId} {meth : Method} {c : Code} (h1 : s.methodNamed? y = some m) (h2 : s.vm.method? m = some meth) (h3 : meth.code = some c) (h4 : c.code = bytes)
    (h5 : (c.maxLocals == mx && c.exceptionTable.isEmpty && decide (c.maxStack ≤ mostOperands) && decide (meth.sig.returnType = rt) && !meth.locks && decide (parseMethodDescriptor y.desc = some meth.sig)) = true) : (Jvm.Cond.code y bytes mx rt).before a s = true := by
  simp only [Bool.and_eq_true, beq_iff_eq, Bool.not_eq_true', decide_eq_true_eq] at h5
  obtain ⟨⟨⟨⟨⟨g1, g2⟩, g3⟩, g4⟩, g5⟩, g6⟩ := h5
  simp [Cond.before, Cond.holds, Cond.value, h1, h2, h3, h4, g1, g2, g3, g4, g5, g6]
def isCode : Jvm.Cond → Bool
  | .code _ _ _ _ => true
  | _ => false
theorem all_split {L : List Jvm.Cond} {P : Jvm.Cond → Bool} (h1 : L.all (fun c => isCode c || P c) = true) (h2 : ∀ c ∈ L.filter isCode, P c = true) : L.all P = true := by
  refine List.all_eq_true.mpr fun c hc => ?_
  have h := List.all_eq_true.mp h1 c hc
  rcases Bool.eq_false_or_eq_true (isCode c) with hi | hi
  · exact h2 c (List.mem_filter.mpr ⟨hc, hi⟩)
  · simpa [hi] using h
set_option maxRecDepth 65536 in
theorem w_c0 : (Jvm.Cond.code x code maxLocals ret).before args0 about1 = true := code_word (m := ⟨1, 1⟩) (meth := k1m1) (c := k1c1) (by decide +kernel) rfl rfl rfl (by decide +kernel)
set_option maxRecDepth 65536 in
theorem w_c1 : (Jvm.Cond.code ({ cls := "com/example/orders_into_outcomes/ordersintooutcomes/model/TextLimitOptionalPinLaw", name := "draw", desc := "(II)Ljava/lang/String;" } : Jvm.MethodName) method_3_code (5 : Nat) (Option.some (Jvm.ClassFile.FieldType.object "java/lang/String"))).before args0 about1 = true := code_word (m := ⟨1, 2⟩) (meth := k1m2) (c := k1c2) (by decide +kernel) rfl rfl rfl (by decide +kernel)
set_option maxRecDepth 65536 in
theorem w_c2 : (Jvm.Cond.code ({ cls := "java/lang/String", name := "<init>", desc := "([C)V" } : Jvm.MethodName) jdk_42_method_3_code (2 : Nat) (Option.none : Option Jvm.ClassFile.FieldType)).before args0 about1 = true := code_word (m := ⟨7, 1⟩) (meth := k7m1) (c := k7c1) (by decide +kernel) rfl rfl rfl (by decide +kernel)
set_option maxRecDepth 65536 in
theorem w_c3 : (Jvm.Cond.code ({ cls := "java/lang/String", name := "<init>", desc := "([CIILjava/lang/Void;)V" } : Jvm.MethodName) jdk_42_method_149_code (6 : Nat) (Option.none : Option Jvm.ClassFile.FieldType)).before args0 about1 = true := code_word (m := ⟨7, 5⟩) (meth := k7m5) (c := k7c5) (by decide +kernel) rfl rfl rfl (by decide +kernel)
set_option maxRecDepth 65536 in
theorem w_c4 : (Jvm.Cond.code ({ cls := "java/lang/Object", name := "<init>", desc := "()V" } : Jvm.MethodName) object_method_1_code (1 : Nat) (Option.none : Option Jvm.ClassFile.FieldType)).before args0 about1 = true := code_word (m := ⟨0, 0⟩) (meth := k0m0) (c := k0c0) (by decide +kernel) rfl rfl rfl (by decide +kernel)
set_option maxRecDepth 65536 in
theorem w_c5 : (Jvm.Cond.code ({ cls := "com/example/orders_into_outcomes/ordersintooutcomes/model/TextLimit", name := "optional", desc := "(Ljava/lang/String;IILjava/lang/String;)Lcom/example/orders_into_outcomes/ordersintooutcomes/model/TextLimit;" } : Jvm.MethodName) prog_49_method_3_code (4 : Nat) (Option.some (Jvm.ClassFile.FieldType.object "com/example/orders_into_outcomes/ordersintooutcomes/model/TextLimit"))).before args0 about1 = true := code_word (m := ⟨8, 1⟩) (meth := k8m1) (c := k8c1) (by decide +kernel) rfl rfl rfl (by decide +kernel)
set_option maxRecDepth 65536 in
theorem w_c6 : (Jvm.Cond.code ({ cls := "com/example/orders_into_outcomes/ordersintooutcomes/model/TextLimit", name := "<init>", desc := "(Ljava/lang/String;IIZLjava/lang/String;)V" } : Jvm.MethodName) prog_49_method_1_code (6 : Nat) (Option.none : Option Jvm.ClassFile.FieldType)).before args0 about1 = true := code_word (m := ⟨8, 0⟩) (meth := k8m0) (c := k8c0) (by decide +kernel) rfl rfl rfl (by decide +kernel)
set_option maxRecDepth 65536 in
theorem w_c7 : (Jvm.Cond.code ({ cls := "com/example/orders_into_outcomes/ordersintooutcomes/model/TextLimit", name := "name", desc := "()Ljava/lang/String;" } : Jvm.MethodName) prog_49_method_4_code (1 : Nat) (Option.some (Jvm.ClassFile.FieldType.object "java/lang/String"))).before args0 about1 = true := code_word (m := ⟨8, 2⟩) (meth := k8m2) (c := k8c2) (by decide +kernel) rfl rfl rfl (by decide +kernel)
set_option maxRecDepth 65536 in
theorem w_c8 : (Jvm.Cond.code ({ cls := "java/lang/String", name := "equals", desc := "(Ljava/lang/Object;)Z" } : Jvm.MethodName) jdk_42_method_66_code (3 : Nat) (Option.some Jvm.ClassFile.FieldType.boolean)).before args0 about1 = true := code_word (m := ⟨7, 4⟩) (meth := k7m4) (c := k7c4) (by decide +kernel) rfl rfl rfl (by decide +kernel)
set_option maxRecDepth 65536 in
theorem w_c9 : (Jvm.Cond.code ({ cls := "com/example/orders_into_outcomes/ordersintooutcomes/model/TextLimit", name := "shortest", desc := "()I" } : Jvm.MethodName) prog_49_method_5_code (1 : Nat) (Option.some Jvm.ClassFile.FieldType.int)).before args0 about1 = true := code_word (m := ⟨8, 3⟩) (meth := k8m3) (c := k8c3) (by decide +kernel) rfl rfl rfl (by decide +kernel)
set_option maxRecDepth 65536 in
theorem w_c10 : (Jvm.Cond.code ({ cls := "com/example/orders_into_outcomes/ordersintooutcomes/model/TextLimit", name := "longest", desc := "()I" } : Jvm.MethodName) prog_49_method_6_code (1 : Nat) (Option.some Jvm.ClassFile.FieldType.int)).before args0 about1 = true := code_word (m := ⟨8, 4⟩) (meth := k8m4) (c := k8c4) (by decide +kernel) rfl rfl rfl (by decide +kernel)
set_option maxRecDepth 65536 in
theorem w_c11 : (Jvm.Cond.code ({ cls := "com/example/orders_into_outcomes/ordersintooutcomes/model/TextLimit", name := "isRequired", desc := "()Z" } : Jvm.MethodName) prog_49_method_7_code (1 : Nat) (Option.some Jvm.ClassFile.FieldType.boolean)).before args0 about1 = true := code_word (m := ⟨8, 5⟩) (meth := k8m5) (c := k8c5) (by decide +kernel) rfl rfl rfl (by decide +kernel)
set_option maxRecDepth 65536 in
theorem w_c12 : (Jvm.Cond.code ({ cls := "com/example/orders_into_outcomes/ordersintooutcomes/model/TextLimit", name := "byDefault", desc := "()Ljava/lang/String;" } : Jvm.MethodName) prog_49_method_8_code (1 : Nat) (Option.some (Jvm.ClassFile.FieldType.object "java/lang/String"))).before args0 about1 = true := code_word (m := ⟨8, 6⟩) (meth := k8m6) (c := k8c6) (by decide +kernel) rfl rfl rfl (by decide +kernel)
set_option maxRecDepth 65536 in
theorem w_c13 : (Jvm.Cond.code ({ cls := "com/example/orders_into_outcomes/ordersintooutcomes/model/TextLimitOptionalPinLaw", name := "same", desc := "(Ljava/lang/String;Ljava/lang/String;)Z" } : Jvm.MethodName) method_4_code (2 : Nat) (Option.some Jvm.ClassFile.FieldType.boolean)).before args0 about1 = true := code_word (m := ⟨1, 3⟩) (meth := k1m3) (c := k1c3) (by decide +kernel) rfl rfl rfl (by decide +kernel)
set_option maxRecDepth 65536 in
theorem w_c14 : (Jvm.Cond.code ({ cls := "com/example/orders_into_outcomes/ordersintooutcomes/model/TextLimit", name := "check", desc := "(Ljava/lang/String;)Ljava/lang/String;" } : Jvm.MethodName) prog_49_method_9_code (2 : Nat) (Option.some (Jvm.ClassFile.FieldType.object "java/lang/String"))).before args0 about1 = true := code_word (m := ⟨8, 7⟩) (meth := k8m7) (c := k8c7) (by decide +kernel) rfl rfl rfl (by decide +kernel)
set_option maxRecDepth 65536 in
theorem w_c15 : (Jvm.Cond.code ({ cls := "com/example/orders_into_outcomes/ordersintooutcomes/model/TextLimit", name := "check", desc := "(Ljava/lang/String;Ljava/lang/String;)Ljava/lang/String;" } : Jvm.MethodName) prog_49_method_10_code (4 : Nat) (Option.some (Jvm.ClassFile.FieldType.object "java/lang/String"))).before args0 about1 = true := code_word (m := ⟨8, 8⟩) (meth := k8m8) (c := k8c8) (by decide +kernel) rfl rfl rfl (by decide +kernel)
set_option maxRecDepth 65536 in
theorem w_c16 : (Jvm.Cond.code ({ cls := "java/lang/String", name := "length", desc := "()I" } : Jvm.MethodName) jdk_42_method_54_code (1 : Nat) (Option.some Jvm.ClassFile.FieldType.int)).before args0 about1 = true := code_word (m := ⟨7, 2⟩) (meth := k7m2) (c := k7c2) (by decide +kernel) rfl rfl rfl (by decide +kernel)
set_option maxRecDepth 65536 in
theorem w_c17 : (Jvm.Cond.code ({ cls := "java/lang/String", name := "coder", desc := "()B" } : Jvm.MethodName) jdk_42_method_152_code (1 : Nat) (Option.some Jvm.ClassFile.FieldType.byte)).before args0 about1 = true := code_word (m := ⟨7, 6⟩) (meth := k7m6) (c := k7c6) (by decide +kernel) rfl rfl rfl (by decide +kernel)
set_option maxRecDepth 65536 in
theorem w_c18 : (Jvm.Cond.code ({ cls := "java/lang/String", name := "codePointCount", desc := "(II)I" } : Jvm.MethodName) jdk_42_method_59_code (3 : Nat) (Option.some Jvm.ClassFile.FieldType.int)).before args0 about1 = true := code_word (m := ⟨7, 3⟩) (meth := k7m3) (c := k7c3) (by decide +kernel) rfl rfl rfl (by decide +kernel)
set_option maxRecDepth 65536 in
theorem w_c19 : (Jvm.Cond.code ({ cls := "java/util/Objects", name := "checkFromToIndex", desc := "(III)I" } : Jvm.MethodName) jdk_31_method_18_code (3 : Nat) (Option.some Jvm.ClassFile.FieldType.int)).before args0 about1 = true := code_word (m := ⟨9, 1⟩) (meth := k9m1) (c := k9c1) (by decide +kernel) rfl rfl rfl (by decide +kernel)
set_option maxRecDepth 65536 in
theorem w_c20 : (Jvm.Cond.code ({ cls := "jdk/internal/util/Preconditions", name := "checkFromToIndex", desc := "(IIILjava/util/function/BiFunction;)I" } : Jvm.MethodName) jdk_41_method_12_code (4 : Nat) (Option.some Jvm.ClassFile.FieldType.int)).before args0 about1 = true := code_word (m := ⟨10, 1⟩) (meth := k10m1) (c := k10c1) (by decide +kernel) rfl rfl rfl (by decide +kernel)
set_option maxRecDepth 65536 in
theorem w_c21 : (Jvm.Cond.code ({ cls := "java/lang/String", name := "isLatin1", desc := "()Z" } : Jvm.MethodName) jdk_42_method_154_code (1 : Nat) (Option.some Jvm.ClassFile.FieldType.boolean)).before args0 about1 = true := code_word (m := ⟨7, 7⟩) (meth := k7m7) (c := k7c7) (by decide +kernel) rfl rfl rfl (by decide +kernel)
set_option maxRecDepth 65536 in
theorem w_c22 : (Jvm.Cond.code ({ cls := "java/lang/StringUTF16", name := "compress", desc := "([CII)[B" } : Jvm.MethodName) jdk_52_method_16_code (6 : Nat) (Option.some (Jvm.ClassFile.FieldType.array Jvm.ClassFile.FieldType.byte))).before args0 about1 = true := code_word (m := ⟨11, 2⟩) (meth := k11m2) (c := k11c2) (by decide +kernel) rfl rfl rfl (by decide +kernel)
set_option maxRecDepth 65536 in
theorem w_c23 : (Jvm.Cond.code ({ cls := "java/lang/StringUTF16", name := "compress", desc := "([CI[BII)I" } : Jvm.MethodName) jdk_52_method_21_code (7 : Nat) (Option.some Jvm.ClassFile.FieldType.int)).before args0 about1 = true := code_word (m := ⟨11, 3⟩) (meth := k11m3) (c := k11c3) (by decide +kernel) rfl rfl rfl (by decide +kernel)
set_option maxRecDepth 65536 in
theorem w_c24 : (Jvm.Cond.code ({ cls := "java/lang/StringUTF16", name := "coderFromArrayLen", desc := "([BI)B" } : Jvm.MethodName) jdk_52_method_15_code (2 : Nat) (Option.some Jvm.ClassFile.FieldType.byte)).before args0 about1 = true := code_word (m := ⟨11, 1⟩) (meth := k11m1) (c := k11c1) (by decide +kernel) rfl rfl rfl (by decide +kernel)
def codes1 : List Jvm.Cond := [Jvm.Cond.code x code maxLocals ret, Jvm.Cond.code ({ cls := "com/example/orders_into_outcomes/ordersintooutcomes/model/TextLimitOptionalPinLaw", name := "draw", desc := "(II)Ljava/lang/String;" } : Jvm.MethodName) method_3_code (5 : Nat) (Option.some (Jvm.ClassFile.FieldType.object "java/lang/String")), Jvm.Cond.code ({ cls := "java/lang/String", name := "<init>", desc := "([C)V" } : Jvm.MethodName) jdk_42_method_3_code (2 : Nat) (Option.none : Option Jvm.ClassFile.FieldType), Jvm.Cond.code ({ cls := "java/lang/String", name := "<init>", desc := "([CIILjava/lang/Void;)V" } : Jvm.MethodName) jdk_42_method_149_code (6 : Nat) (Option.none : Option Jvm.ClassFile.FieldType), Jvm.Cond.code ({ cls := "java/lang/Object", name := "<init>", desc := "()V" } : Jvm.MethodName) object_method_1_code (1 : Nat) (Option.none : Option Jvm.ClassFile.FieldType), Jvm.Cond.code ({ cls := "com/example/orders_into_outcomes/ordersintooutcomes/model/TextLimit", name := "optional", desc := "(Ljava/lang/String;IILjava/lang/String;)Lcom/example/orders_into_outcomes/ordersintooutcomes/model/TextLimit;" } : Jvm.MethodName) prog_49_method_3_code (4 : Nat) (Option.some (Jvm.ClassFile.FieldType.object "com/example/orders_into_outcomes/ordersintooutcomes/model/TextLimit")), Jvm.Cond.code ({ cls := "com/example/orders_into_outcomes/ordersintooutcomes/model/TextLimit", name := "<init>", desc := "(Ljava/lang/String;IIZLjava/lang/String;)V" } : Jvm.MethodName) prog_49_method_1_code (6 : Nat) (Option.none : Option Jvm.ClassFile.FieldType), Jvm.Cond.code ({ cls := "com/example/orders_into_outcomes/ordersintooutcomes/model/TextLimit", name := "name", desc := "()Ljava/lang/String;" } : Jvm.MethodName) prog_49_method_4_code (1 : Nat) (Option.some (Jvm.ClassFile.FieldType.object "java/lang/String")), Jvm.Cond.code ({ cls := "java/lang/String", name := "equals", desc := "(Ljava/lang/Object;)Z" } : Jvm.MethodName) jdk_42_method_66_code (3 : Nat) (Option.some Jvm.ClassFile.FieldType.boolean), Jvm.Cond.code ({ cls := "com/example/orders_into_outcomes/ordersintooutcomes/model/TextLimit", name := "shortest", desc := "()I" } : Jvm.MethodName) prog_49_method_5_code (1 : Nat) (Option.some Jvm.ClassFile.FieldType.int), Jvm.Cond.code ({ cls := "com/example/orders_into_outcomes/ordersintooutcomes/model/TextLimit", name := "longest", desc := "()I" } : Jvm.MethodName) prog_49_method_6_code (1 : Nat) (Option.some Jvm.ClassFile.FieldType.int), Jvm.Cond.code ({ cls := "com/example/orders_into_outcomes/ordersintooutcomes/model/TextLimit", name := "isRequired", desc := "()Z" } : Jvm.MethodName) prog_49_method_7_code (1 : Nat) (Option.some Jvm.ClassFile.FieldType.boolean), Jvm.Cond.code ({ cls := "com/example/orders_into_outcomes/ordersintooutcomes/model/TextLimit", name := "byDefault", desc := "()Ljava/lang/String;" } : Jvm.MethodName) prog_49_method_8_code (1 : Nat) (Option.some (Jvm.ClassFile.FieldType.object "java/lang/String")), Jvm.Cond.code ({ cls := "com/example/orders_into_outcomes/ordersintooutcomes/model/TextLimitOptionalPinLaw", name := "same", desc := "(Ljava/lang/String;Ljava/lang/String;)Z" } : Jvm.MethodName) method_4_code (2 : Nat) (Option.some Jvm.ClassFile.FieldType.boolean), Jvm.Cond.code ({ cls := "com/example/orders_into_outcomes/ordersintooutcomes/model/TextLimit", name := "check", desc := "(Ljava/lang/String;)Ljava/lang/String;" } : Jvm.MethodName) prog_49_method_9_code (2 : Nat) (Option.some (Jvm.ClassFile.FieldType.object "java/lang/String")), Jvm.Cond.code ({ cls := "com/example/orders_into_outcomes/ordersintooutcomes/model/TextLimit", name := "check", desc := "(Ljava/lang/String;Ljava/lang/String;)Ljava/lang/String;" } : Jvm.MethodName) prog_49_method_10_code (4 : Nat) (Option.some (Jvm.ClassFile.FieldType.object "java/lang/String")), Jvm.Cond.code ({ cls := "java/lang/String", name := "length", desc := "()I" } : Jvm.MethodName) jdk_42_method_54_code (1 : Nat) (Option.some Jvm.ClassFile.FieldType.int), Jvm.Cond.code ({ cls := "java/lang/String", name := "coder", desc := "()B" } : Jvm.MethodName) jdk_42_method_152_code (1 : Nat) (Option.some Jvm.ClassFile.FieldType.byte), Jvm.Cond.code ({ cls := "java/lang/String", name := "codePointCount", desc := "(II)I" } : Jvm.MethodName) jdk_42_method_59_code (3 : Nat) (Option.some Jvm.ClassFile.FieldType.int), Jvm.Cond.code ({ cls := "java/util/Objects", name := "checkFromToIndex", desc := "(III)I" } : Jvm.MethodName) jdk_31_method_18_code (3 : Nat) (Option.some Jvm.ClassFile.FieldType.int), Jvm.Cond.code ({ cls := "jdk/internal/util/Preconditions", name := "checkFromToIndex", desc := "(IIILjava/util/function/BiFunction;)I" } : Jvm.MethodName) jdk_41_method_12_code (4 : Nat) (Option.some Jvm.ClassFile.FieldType.int), Jvm.Cond.code ({ cls := "java/lang/String", name := "isLatin1", desc := "()Z" } : Jvm.MethodName) jdk_42_method_154_code (1 : Nat) (Option.some Jvm.ClassFile.FieldType.boolean), Jvm.Cond.code ({ cls := "java/lang/StringUTF16", name := "compress", desc := "([CII)[B" } : Jvm.MethodName) jdk_52_method_16_code (6 : Nat) (Option.some (Jvm.ClassFile.FieldType.array Jvm.ClassFile.FieldType.byte)), Jvm.Cond.code ({ cls := "java/lang/StringUTF16", name := "compress", desc := "([CI[BII)I" } : Jvm.MethodName) jdk_52_method_21_code (7 : Nat) (Option.some Jvm.ClassFile.FieldType.int), Jvm.Cond.code ({ cls := "java/lang/StringUTF16", name := "coderFromArrayLen", desc := "([BI)B" } : Jvm.MethodName) jdk_52_method_15_code (2 : Nat) (Option.some Jvm.ClassFile.FieldType.byte)]
set_option maxRecDepth 65536 in
theorem codes_eq : words1.filter isCode = codes1 := rfl
theorem w_codes : ∀ c ∈ words1.filter isCode, c.before args0 about1 = true := by
  rw [codes_eq]
  intro c hc
  simp only [codes1, List.mem_cons, List.not_mem_nil, or_false] at hc
  rcases hc with rfl | rfl | rfl | rfl | rfl | rfl | rfl | rfl | rfl | rfl | rfl | rfl | rfl | rfl | rfl | rfl | rfl | rfl | rfl | rfl | rfl | rfl | rfl | rfl | rfl
  · exact w_c0
  · exact w_c1
  · exact w_c2
  · exact w_c3
  · exact w_c4
  · exact w_c5
  · exact w_c6
  · exact w_c7
  · exact w_c8
  · exact w_c9
  · exact w_c10
  · exact w_c11
  · exact w_c12
  · exact w_c13
  · exact w_c14
  · exact w_c15
  · exact w_c16
  · exact w_c17
  · exact w_c18
  · exact w_c19
  · exact w_c20
  · exact w_c21
  · exact w_c22
  · exact w_c23
  · exact w_c24
set_option maxRecDepth 65536 in
theorem w_t1 : (words1.take 24).all (fun c => isCode c || c.before args0 about1) = true := by decide +kernel
set_option maxRecDepth 65536 in
theorem w_t2 : ((words1.drop 24).take 24).all (fun c => isCode c || c.before args0 about1) = true := by decide +kernel
set_option maxRecDepth 65536 in
theorem w_t3 : (((words1.drop 24).drop 24).take 24).all (fun c => isCode c || c.before args0 about1) = true := by decide +kernel
set_option maxRecDepth 65536 in
theorem w_t4 : ((((words1.drop 24).drop 24).drop 24).take 24).all (fun c => isCode c || c.before args0 about1) = true := by decide +kernel
set_option maxRecDepth 65536 in
theorem w_t5 : (((((words1.drop 24).drop 24).drop 24).drop 24).take 24).all (fun c => isCode c || c.before args0 about1) = true := by decide +kernel
set_option maxRecDepth 65536 in
theorem w_t6 : (((((words1.drop 24).drop 24).drop 24).drop 24).drop 24).all (fun c => isCode c || c.before args0 about1) = true := by decide +kernel
theorem w_tables : (allAtoms (Jvm.Cond.code x code maxLocals ret :: tables_1)).before args0 about1 = true := by
  rw [allAtoms_all]
  show words1.all (fun c => c.before args0 about1) = true
  refine all_split ?_ w_codes
  rw [← List.take_append_drop 24 words1, List.all_append, w_t1, ← List.take_append_drop 24 (words1.drop 24), List.all_append, w_t2, ← List.take_append_drop 24 ((words1.drop 24).drop 24), List.all_append, w_t3, ← List.take_append_drop 24 (((words1.drop 24).drop 24).drop 24), List.all_append, w_t4, ← List.take_append_drop 24 ((((words1.drop 24).drop 24).drop 24).drop 24), List.all_append, w_t5, w_t6]
  rfl
set_option maxRecDepth 65536 in
theorem w_rest : rest_1_c.before args0 about1 = true := by decide +kernel
set_option maxRecDepth 65536 in
theorem w_case : (Jvm.Cond.and given_1 narrow_1).before args0 about1 = true := by decide +kernel
set_option maxRecDepth 65536 in
theorem w_consts : constsHeld consts_1 about1 := Jvm.Lit.constsHeldB_iff.mp (by decide +kernel)
theorem w_applies : (headSpec (Jvm.Cond.code x code maxLocals ret :: tables_1) room_1).applies x e0.platform about1 = true :=
  (Spec.applies_iff w_frames).mpr ⟨w_running, w_runnable, w_alone, w_named, w_hears, w_ripe, w_room, w_tables⟩
theorem atStart : AtStart classFile x code maxLocals ret World_1 tables_1 room_1 Calls_1 rest_1 Pre_1 launch0 p0 e0 about1 theMethod args0 below0 :=
  ⟨lists_1, trivial, launch0.admits_env _ _ _, launch0.least_env, fairChoices_fair.cas, fairChoices_fair.clock, w_frames, w_args, w_heap, w_applies, ⟨w_consts, trivial⟩, w_rest, w_case⟩
end start1
theorem witness_1 : WitnessClaimed_1 := ⟨start1.p0, start1.e0, start1.about1, start1.theMethod, start1.args0, start1.below0, start1.atStart⟩
end Jvm.Pilot.@@N@@
