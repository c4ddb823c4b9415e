import JvmDerived
import JvmDerived.Pilot.@@N@@Statement
import JvmDerived.Pilot.@@N@@Code
set_option linter.unusedVariables false
set_option linter.unusedSimpArgs false
namespace Jvm.Pilot.@@N@@
open Jvm Jvm.ClassFile Sem Op Lib Jvm.Free Jvm.Stand Jvm.LawKit Jvm.RoadKit Bundle Jvm.Pilot.@@N@@.Jvm.D
theorem own_eqi {s : State} {args : Array Value} {t : Term} {k : Int32} (h : (Jvm.Cond.eq t (Term.int k)).value args s none s [] = some true) : t.eval args s none [] s = some (.int k) := by
  obtain ⟨u, v, hu, hv, k1, k2⟩ := cmp_v (Or.inl h)
  obtain rfl : v = .int k := Option.some.inj (hv.symm.trans (Term.int_eval k))
  obtain ⟨z, rfl⟩ := k2
  rw [hu]
  simp [Cond.value, hu, hv] at h
  rw [h]
theorem own_fld {s : State} {args : Array Value} {t : Term} {C n d : String} {k : Int32} {x : Addr} (ev : t.eval args s none [] s = some (.ref x)) (h : (Jvm.Cond.eq (Term.field t C n d) (Term.int k)).value args s none s [] = some true) : Fld s s.heap x C n d (.int k) := by
  have hu := own_eqi h
  rw [fld_at ev] at hu
  exact Fld.start hu
theorem d1_0 : decode prog_39_method_4_code 0 = .ok (.iload_n 0, 1) := by decide +kernel
theorem d1_1 : decode prog_39_method_4_code 1 = .ok (.ifCond .eq 9, 3) := by decide +kernel
theorem d1_10 : decode prog_39_method_4_code 10 = .ok (.getstatic 7, 3) := by decide +kernel
theorem d1_13 : decode prog_39_method_4_code 13 = .ok (.areturn, 1) := by decide +kernel
theorem pn_4 : plainName "com/example/ladon/ladon/Truth" = true := by first | (simp [plainName, overriddenIn]; done) | decide +kernel
theorem ef_1_5 (m : MethodId) (x0 : Int32) : entryFrame m #[(.int x0)] 1 = mkF m 0 #[.val (.int x0)] [] := by first | (simp [entryFrame, mkF, argsToLocals, Value.category]; done) | rfl
def QrmOf0 (Z : State) (aT : Addr) (aF : Addr) (aI : Addr) (h0 : Heap) (n0 : Nat) (v : Option Value) (h : Heap) (L : List Loc) : Prop := v = some (.ref aF) ∧ Fr n0 L ∧ h = h0
set_option maxRecDepth 65536 in
set_option maxHeartbeats 40000000 in
theorem rmOf0 (l : Launch) (Z : State) (a0 : Array Value) (hw : ∀ d ∈ tables_1, d.before a0 Z = true) (ws : List Jvm.Cond) (aT : Addr) (aF : Addr) (aI : Addr) (h0 : Heap) (n0 : Nat) (O0 : Old Z n0 h0) (S_TRUE : Sta Z Z.heap "com/example/ladon/ladon/Truth" "TRUE" "Lcom/example/ladon/ladon/Truth;" (.ref aT)) (S_FALSE : Sta Z Z.heap "com/example/ladon/ladon/Truth" "FALSE" "Lcom/example/ladon/ladon/Truth;" (.ref aF)) (S_INDETERMINATE : Sta Z Z.heap "com/example/ladon/ladon/Truth" "INDETERMINATE" "Lcom/example/ladon/ladon/Truth;" (.ref aI)) (E_TRUE : Exa Z Z.heap aT "com/example/ladon/ladon/Truth") (E_FALSE : Exa Z Z.heap aF "com/example/ladon/ladon/Truth") (E_INDETERMINATE : Exa Z Z.heap aI "com/example/ladon/ladon/Truth") (hTF : ¬ (aT = aF)) (hTI : ¬ (aT = aI)) (hFI : ¬ (aF = aI)) :
    MetFree l (⟨"com/example/ladon/ladon/Truth", "of", "(Z)Lcom/example/ladon/ladon/Truth;"⟩ : MethodName) (head1 (Jvm.Cond.code (⟨"com/example/ladon/ladon/Truth", "of", "(Z)Lcom/example/ladon/ladon/Truth;"⟩ : MethodName) prog_39_method_4_code 1 (some (.object "com/example/ladon/ladon/Truth")) :: ws) ({ frames := 0, cells := 0, slots := 0, locals := 0 } : Room)) (fun a_ U_ => a_ = #[(.int (0 : Int32))] ∧ Z.Warmed39 U_.vm ∧ U_.heap = h0) (fun _ _ _ _ _ => True) (fun _ U_ o_ U'_ => ∃ v_ L_, o_ = .returned v_ ∧ QrmOf0 Z aT aF aI h0 n0 v_ U'_.heap L_ ∧ FrameEnd U_ o_ U'_ L_ ({ frames := 0, cells := 0, slots := 0, locals := 0 } : Room).cells ({ frames := 0, cells := 0, slots := 0, locals := 0 } : Room).slots) := by
  refine MetFree.of_bodySF (plainFor_of_name pn_4) hisR ?_
  intro pg ee s mm args below meth cc s₁ Bd hml0 hP hK
  obtain ⟨rfl, hZ, hh⟩ := hP
  have hx := Bd.exec
  have hby := Bd.bytes
  have hml : cc.maxLocals = 1 := hml0
  have hown : s.vm.findClass "com/example/ladon/ladon/Truth" = some mm.cls := findClass_of_methodNamed Bd.named
  have hnm := (name_of_methodNamed Bd.named Bd.method).1
  have X0 : Stand pg l ee ({ frames := 0, cells := 0, slots := 0, locals := 0 } : Room) s mm #[(.int (0 : Int32))] below meth cc s₁ [] 0 0 := Stand.of_body Bd
  have e0 : s₁.heap = h0 := by rw [← hh, Bd.state]; rfl
  have N0 := Fr.nil n0
  have K0 : Keep h0 h0 ([] : List Addr) := Keep.refl _ _
  have pre0 : ∀ t, Steps pg.tables ee below (s₁.setTop (mkF mm 0 #[.val (.int (0 : Int32))] [])) t → Steps pg.tables ee below (s₁.setTop (entryFrame mm #[(.int (0 : Int32))] 1)) t := fun t k => castTop (ef_1_5 mm (0 : Int32)) k
  obtain ⟨T1, X1, e1, st1⟩ := getS2 X0 hx hZ hown (host := "") (Or.inl (hw _ (List.mem_of_getElem? (i := 4) rfl))) Via.refl e0 (S_FALSE.ext O0.2) (g := (mkF mm 10 #[.val (.int (0 : Int32))] [])) rfl (hb hby d1_10)
  obtain ⟨fs, hr, hrun, hended, hW, hsame⟩ := X1.leave (v := some (.ref aF)) (fun h => by rw [Bd.returns] at h; cases h)
  refine ⟨_, _, pre0 _ ?_, hrun, hended, _, _, rfl, ?_, ⟨_, rfl⟩, hW, hsame.mono (by decide) (by decide)⟩
  · show Steps pg.tables ee below (s₁.setTop (mkF mm 0 #[.val (.int (0 : Int32))] [])) _
    refine XS.iloadN X0.here hx rfl (hb hby d1_0) rfl ?_
    show Steps pg.tables ee below (s₁.setTop (mkF mm 1 #[.val (.int (0 : Int32))] [(.int (0 : Int32))])) _
    refine XS.ifYes X0.here hx rfl (pc0 := 1) (pc' := 10) rfl (hb hby d1_1) rfl ((if0 _ _).trans (teq (by decide : (0 : Int32) = (0 : Int32))).1) (by decide) (by decide) ?_
    show Steps pg.tables ee below (s₁.setTop (mkF mm 10 #[.val (.int (0 : Int32))] [])) _
    refine st1 _ ?_
    show Steps pg.tables ee below (T1.setTop (mkF mm 13 #[.val (.int (0 : Int32))] [(.ref aF)])) _
    exact retOut X1 hx Bd.returns rfl (Or.inr (Or.inr (Or.inr (Or.inr ⟨rfl, rfl, rfl⟩)))) (hb hby d1_13) hr
  · show QrmOf0 Z aT aF aI h0 n0 _ T1.heap _
    rw [e1]
    exact ⟨rfl, N0, rfl⟩
theorem d1_4 : decode prog_39_method_4_code 4 = .ok (.getstatic 3, 3) := by decide +kernel
theorem d1_7 : decode prog_39_method_4_code 7 = .ok (.goto 6, 3) := by decide +kernel
def QrmOf1 (Z : State) (aT : Addr) (aF : Addr) (aI : Addr) (h0 : Heap) (n0 : Nat) (v : Option Value) (h : Heap) (L : List Loc) : Prop := v = some (.ref aT) ∧ Fr n0 L ∧ h = h0
set_option maxRecDepth 65536 in
set_option maxHeartbeats 40000000 in
theorem rmOf1 (l : Launch) (Z : State) (a0 : Array Value) (hw : ∀ d ∈ tables_1, d.before a0 Z = true) (ws : List Jvm.Cond) (aT : Addr) (aF : Addr) (aI : Addr) (h0 : Heap) (n0 : Nat) (O0 : Old Z n0 h0) (S_TRUE : Sta Z Z.heap "com/example/ladon/ladon/Truth" "TRUE" "Lcom/example/ladon/ladon/Truth;" (.ref aT)) (S_FALSE : Sta Z Z.heap "com/example/ladon/ladon/Truth" "FALSE" "Lcom/example/ladon/ladon/Truth;" (.ref aF)) (S_INDETERMINATE : Sta Z Z.heap "com/example/ladon/ladon/Truth" "INDETERMINATE" "Lcom/example/ladon/ladon/Truth;" (.ref aI)) (E_TRUE : Exa Z Z.heap aT "com/example/ladon/ladon/Truth") (E_FALSE : Exa Z Z.heap aF "com/example/ladon/ladon/Truth") (E_INDETERMINATE : Exa Z Z.heap aI "com/example/ladon/ladon/Truth") (hTF : ¬ (aT = aF)) (hTI : ¬ (aT = aI)) (hFI : ¬ (aF = aI)) :
    MetFree l (⟨"com/example/ladon/ladon/Truth", "of", "(Z)Lcom/example/ladon/ladon/Truth;"⟩ : MethodName) (head1 (Jvm.Cond.code (⟨"com/example/ladon/ladon/Truth", "of", "(Z)Lcom/example/ladon/ladon/Truth;"⟩ : MethodName) prog_39_method_4_code 1 (some (.object "com/example/ladon/ladon/Truth")) :: ws) ({ frames := 0, cells := 0, slots := 0, locals := 0 } : Room)) (fun a_ U_ => a_ = #[(.int (1 : Int32))] ∧ Z.Warmed39 U_.vm ∧ U_.heap = h0) (fun _ _ _ _ _ => True) (fun _ U_ o_ U'_ => ∃ v_ L_, o_ = .returned v_ ∧ QrmOf1 Z aT aF aI h0 n0 v_ U'_.heap L_ ∧ FrameEnd U_ o_ U'_ L_ ({ frames := 0, cells := 0, slots := 0, locals := 0 } : Room).cells ({ frames := 0, cells := 0, slots := 0, locals := 0 } : Room).slots) := by
  refine MetFree.of_bodySF (plainFor_of_name pn_4) hisR ?_
  intro pg ee s mm args below meth cc s₁ Bd hml0 hP hK
  obtain ⟨rfl, hZ, hh⟩ := hP
  have hx := Bd.exec
  have hby := Bd.bytes
  have hml : cc.maxLocals = 1 := hml0
  have hown : s.vm.findClass "com/example/ladon/ladon/Truth" = some mm.cls := findClass_of_methodNamed Bd.named
  have hnm := (name_of_methodNamed Bd.named Bd.method).1
  have X0 : Stand pg l ee ({ frames := 0, cells := 0, slots := 0, locals := 0 } : Room) s mm #[(.int (1 : Int32))] below meth cc s₁ [] 0 0 := Stand.of_body Bd
  have e0 : s₁.heap = h0 := by rw [← hh, Bd.state]; rfl
  have N0 := Fr.nil n0
  have K0 : Keep h0 h0 ([] : List Addr) := Keep.refl _ _
  have pre0 : ∀ t, Steps pg.tables ee below (s₁.setTop (mkF mm 0 #[.val (.int (1 : Int32))] [])) t → Steps pg.tables ee below (s₁.setTop (entryFrame mm #[(.int (1 : Int32))] 1)) t := fun t k => castTop (ef_1_5 mm (1 : Int32)) k
  obtain ⟨T1, X1, e1, st1⟩ := getS2 X0 hx hZ hown (host := "") (Or.inl (hw _ (List.mem_of_getElem? (i := 6) rfl))) Via.refl e0 (S_TRUE.ext O0.2) (g := (mkF mm 4 #[.val (.int (1 : Int32))] [])) rfl (hb hby d1_4)
  obtain ⟨fs, hr, hrun, hended, hW, hsame⟩ := X1.leave (v := some (.ref aT)) (fun h => by rw [Bd.returns] at h; cases h)
  refine ⟨_, _, pre0 _ ?_, hrun, hended, _, _, rfl, ?_, ⟨_, rfl⟩, hW, hsame.mono (by decide) (by decide)⟩
  · show Steps pg.tables ee below (s₁.setTop (mkF mm 0 #[.val (.int (1 : Int32))] [])) _
    refine XS.iloadN X0.here hx rfl (hb hby d1_0) rfl ?_
    show Steps pg.tables ee below (s₁.setTop (mkF mm 1 #[.val (.int (1 : Int32))] [(.int (1 : Int32))])) _
    refine XS.ifNo X0.here hx rfl (hb hby d1_1) rfl ((if0 _ _).trans (feq (by decide : ¬ ((1 : Int32) = (0 : Int32)))).1) ?_
    show Steps pg.tables ee below (s₁.setTop (mkF mm 4 #[.val (.int (1 : Int32))] [])) _
    refine st1 _ ?_
    show Steps pg.tables ee below (T1.setTop (mkF mm 7 #[.val (.int (1 : Int32))] [(.ref aT)])) _
    refine XS.goto X1.here hx rfl (pc0 := 7) (pc' := 13) rfl (hb hby d1_7) (by decide) (by decide) ?_
    show Steps pg.tables ee below (T1.setTop (mkF mm 13 #[.val (.int (1 : Int32))] [(.ref aT)])) _
    exact retOut X1 hx Bd.returns rfl (Or.inr (Or.inr (Or.inr (Or.inr ⟨rfl, rfl, rfl⟩)))) (hb hby d1_13) hr
  · show QrmOf1 Z aT aF aI h0 n0 _ T1.heap _
    rw [e1]
    exact ⟨rfl, N0, rfl⟩
theorem d2_0 : decode prog_39_method_6_code 0 = .ok (.aload_n 0, 1) := by decide +kernel
theorem d2_1 : decode prog_39_method_6_code 1 = .ok (.getstatic 3, 3) := by decide +kernel
theorem d2_4 : decode prog_39_method_6_code 4 = .ok (.if_acmp .ne 10, 3) := by decide +kernel
theorem d2_7 : decode prog_39_method_6_code 7 = .ok (.getstatic 7, 3) := by decide +kernel
theorem d2_10 : decode prog_39_method_6_code 10 = .ok (.astore_n 1, 1) := by decide +kernel
theorem d2_11 : decode prog_39_method_6_code 11 = .ok (.goto 21, 3) := by decide +kernel
theorem d2_32 : decode prog_39_method_6_code 32 = .ok (.aload_n 1, 1) := by decide +kernel
theorem d2_33 : decode prog_39_method_6_code 33 = .ok (.areturn, 1) := by decide +kernel
theorem ef_2_16 (m : MethodId) (x0 : Addr) : entryFrame m #[(.ref x0)] 2 = mkF m 0 #[.val (.ref x0), .unset] [] := by first | (simp [entryFrame, mkF, argsToLocals, Value.category]; done) | rfl
def QrmNot_aT (Z : State) (aT : Addr) (aF : Addr) (aI : Addr) (h0 : Heap) (n0 : Nat) (v : Option Value) (h : Heap) (L : List Loc) : Prop := v = some (.ref aF) ∧ Fr n0 L ∧ h = h0
set_option maxRecDepth 65536 in
set_option maxHeartbeats 40000000 in
theorem rmNot_aT (l : Launch) (Z : State) (a0 : Array Value) (hw : ∀ d ∈ tables_1, d.before a0 Z = true) (ws : List Jvm.Cond) (aT : Addr) (aF : Addr) (aI : Addr) (h0 : Heap) (n0 : Nat) (O0 : Old Z n0 h0) (S_TRUE : Sta Z Z.heap "com/example/ladon/ladon/Truth" "TRUE" "Lcom/example/ladon/ladon/Truth;" (.ref aT)) (S_FALSE : Sta Z Z.heap "com/example/ladon/ladon/Truth" "FALSE" "Lcom/example/ladon/ladon/Truth;" (.ref aF)) (S_INDETERMINATE : Sta Z Z.heap "com/example/ladon/ladon/Truth" "INDETERMINATE" "Lcom/example/ladon/ladon/Truth;" (.ref aI)) (E_TRUE : Exa Z Z.heap aT "com/example/ladon/ladon/Truth") (E_FALSE : Exa Z Z.heap aF "com/example/ladon/ladon/Truth") (E_INDETERMINATE : Exa Z Z.heap aI "com/example/ladon/ladon/Truth") (hTF : ¬ (aT = aF)) (hTI : ¬ (aT = aI)) (hFI : ¬ (aF = aI)) :
    MetFree l (⟨"com/example/ladon/ladon/Truth", "not", "()Lcom/example/ladon/ladon/Truth;"⟩ : MethodName) (head1 (Jvm.Cond.code (⟨"com/example/ladon/ladon/Truth", "not", "()Lcom/example/ladon/ladon/Truth;"⟩ : MethodName) prog_39_method_6_code 2 (some (.object "com/example/ladon/ladon/Truth")) :: ws) ({ frames := 0, cells := 0, slots := 0, locals := 0 } : Room)) (fun a_ U_ => a_ = #[(.ref aT)] ∧ Z.Warmed39 U_.vm ∧ U_.heap = h0) (fun _ _ _ _ _ => True) (fun _ U_ o_ U'_ => ∃ v_ L_, o_ = .returned v_ ∧ QrmNot_aT Z aT aF aI h0 n0 v_ U'_.heap L_ ∧ FrameEnd U_ o_ U'_ L_ ({ frames := 0, cells := 0, slots := 0, locals := 0 } : Room).cells ({ frames := 0, cells := 0, slots := 0, locals := 0 } : Room).slots) := by
  refine MetFree.of_bodySF (plainFor_of_name pn_4) hisR ?_
  intro pg ee s mm args below meth cc s₁ Bd hml0 hP hK
  obtain ⟨rfl, hZ, hh⟩ := hP
  have hx := Bd.exec
  have hby := Bd.bytes
  have hml : cc.maxLocals = 2 := hml0
  have hown : s.vm.findClass "com/example/ladon/ladon/Truth" = some mm.cls := findClass_of_methodNamed Bd.named
  have hnm := (name_of_methodNamed Bd.named Bd.method).1
  have X0 : Stand pg l ee ({ frames := 0, cells := 0, slots := 0, locals := 0 } : Room) s mm #[(.ref aT)] below meth cc s₁ [] 0 0 := Stand.of_body Bd
  have e0 : s₁.heap = h0 := by rw [← hh, Bd.state]; rfl
  have N0 := Fr.nil n0
  have K0 : Keep h0 h0 ([] : List Addr) := Keep.refl _ _
  have pre0 : ∀ t, Steps pg.tables ee below (s₁.setTop (mkF mm 0 #[.val (.ref aT), .unset] [])) t → Steps pg.tables ee below (s₁.setTop (entryFrame mm #[(.ref aT)] 2)) t := fun t k => castTop (ef_2_16 mm aT) k
  obtain ⟨T1, X1, e1, st1⟩ := getS2 X0 hx hZ hown (host := "") (Or.inl (hw _ (List.mem_of_getElem? (i := 6) rfl))) Via.refl e0 (S_TRUE.ext O0.2) (g := (mkF mm 1 #[.val (.ref aT), .unset] [(.ref aT)])) rfl (hb hby d2_1)
  obtain ⟨T2, X2, e2, st2⟩ := getS2 X1 hx hZ hown (host := "") (Or.inl (hw _ (List.mem_of_getElem? (i := 4) rfl))) Via.refl e1 (S_FALSE.ext O0.2) (g := (mkF mm 7 #[.val (.ref aT), .unset] [])) rfl (hb hby d2_7)
  obtain ⟨fs, hr, hrun, hended, hW, hsame⟩ := X2.leave (v := some (.ref aF)) (fun h => by rw [Bd.returns] at h; cases h)
  refine ⟨_, _, pre0 _ ?_, hrun, hended, _, _, rfl, ?_, ⟨_, rfl⟩, hW, hsame.mono (by decide) (by decide)⟩
  · show Steps pg.tables ee below (s₁.setTop (mkF mm 0 #[.val (.ref aT), .unset] [])) _
    refine XS.aloadN X0.here hx rfl (hb hby d2_0) rfl rfl ?_
    show Steps pg.tables ee below (s₁.setTop (mkF mm 1 #[.val (.ref aT), .unset] [(.ref aT)])) _
    refine st1 _ ?_
    show Steps pg.tables ee below (T1.setTop (mkF mm 4 #[.val (.ref aT), .unset] [(.ref aT), (.ref aT)])) _
    refine Jvm.RoadKit.acmp (g := (mkF mm 4 #[.val (.ref aT), .unset] [(.ref aT), (.ref aT)])) X1 hx rfl rfl rfl (pc0 := 4) (pc' := 7) (same := true) rfl (hb hby d2_4) rfl (decide_eq_true rfl) (by decide) (by decide) ?_
    show Steps pg.tables ee below (T1.setTop (mkF mm 7 #[.val (.ref aT), .unset] [])) _
    refine st2 _ ?_
    show Steps pg.tables ee below (T2.setTop (mkF mm 10 #[.val (.ref aT), .unset] [(.ref aF)])) _
    refine XS.astoreN X2.here hx rfl (hb hby d2_10) rfl rfl (l' := #[.val (.ref aT), .val (.ref aF)]) rfl ?_
    show Steps pg.tables ee below (T2.setTop (mkF mm 11 #[.val (.ref aT), .val (.ref aF)] [])) _
    refine XS.goto X2.here hx rfl (pc0 := 11) (pc' := 32) rfl (hb hby d2_11) (by decide) (by decide) ?_
    show Steps pg.tables ee below (T2.setTop (mkF mm 32 #[.val (.ref aT), .val (.ref aF)] [])) _
    refine XS.aloadN X2.here hx rfl (hb hby d2_32) rfl rfl ?_
    show Steps pg.tables ee below (T2.setTop (mkF mm 33 #[.val (.ref aT), .val (.ref aF)] [(.ref aF)])) _
    exact retOut X2 hx Bd.returns rfl (Or.inr (Or.inr (Or.inr (Or.inr ⟨rfl, rfl, rfl⟩)))) (hb hby d2_33) hr
  · show QrmNot_aT Z aT aF aI h0 n0 _ T2.heap _
    rw [e2]
    exact ⟨rfl, N0, rfl⟩
theorem d2_14 : decode prog_39_method_6_code 14 = .ok (.aload_n 0, 1) := by decide +kernel
theorem d2_15 : decode prog_39_method_6_code 15 = .ok (.getstatic 7, 3) := by decide +kernel
theorem d2_18 : decode prog_39_method_6_code 18 = .ok (.if_acmp .ne 10, 3) := by decide +kernel
theorem d2_21 : decode prog_39_method_6_code 21 = .ok (.getstatic 3, 3) := by decide +kernel
theorem d2_24 : decode prog_39_method_6_code 24 = .ok (.astore_n 1, 1) := by decide +kernel
theorem d2_25 : decode prog_39_method_6_code 25 = .ok (.goto 7, 3) := by decide +kernel
def QrmNot_aF (Z : State) (aT : Addr) (aF : Addr) (aI : Addr) (h0 : Heap) (n0 : Nat) (v : Option Value) (h : Heap) (L : List Loc) : Prop := v = some (.ref aT) ∧ Fr n0 L ∧ h = h0
set_option maxRecDepth 65536 in
set_option maxHeartbeats 40000000 in
theorem rmNot_aF (l : Launch) (Z : State) (a0 : Array Value) (hw : ∀ d ∈ tables_1, d.before a0 Z = true) (ws : List Jvm.Cond) (aT : Addr) (aF : Addr) (aI : Addr) (h0 : Heap) (n0 : Nat) (O0 : Old Z n0 h0) (S_TRUE : Sta Z Z.heap "com/example/ladon/ladon/Truth" "TRUE" "Lcom/example/ladon/ladon/Truth;" (.ref aT)) (S_FALSE : Sta Z Z.heap "com/example/ladon/ladon/Truth" "FALSE" "Lcom/example/ladon/ladon/Truth;" (.ref aF)) (S_INDETERMINATE : Sta Z Z.heap "com/example/ladon/ladon/Truth" "INDETERMINATE" "Lcom/example/ladon/ladon/Truth;" (.ref aI)) (E_TRUE : Exa Z Z.heap aT "com/example/ladon/ladon/Truth") (E_FALSE : Exa Z Z.heap aF "com/example/ladon/ladon/Truth") (E_INDETERMINATE : Exa Z Z.heap aI "com/example/ladon/ladon/Truth") (hTF : ¬ (aT = aF)) (hTI : ¬ (aT = aI)) (hFI : ¬ (aF = aI)) :
    MetFree l (⟨"com/example/ladon/ladon/Truth", "not", "()Lcom/example/ladon/ladon/Truth;"⟩ : MethodName) (head1 (Jvm.Cond.code (⟨"com/example/ladon/ladon/Truth", "not", "()Lcom/example/ladon/ladon/Truth;"⟩ : MethodName) prog_39_method_6_code 2 (some (.object "com/example/ladon/ladon/Truth")) :: ws) ({ frames := 0, cells := 0, slots := 0, locals := 0 } : Room)) (fun a_ U_ => a_ = #[(.ref aF)] ∧ Z.Warmed39 U_.vm ∧ U_.heap = h0) (fun _ _ _ _ _ => True) (fun _ U_ o_ U'_ => ∃ v_ L_, o_ = .returned v_ ∧ QrmNot_aF Z aT aF aI h0 n0 v_ U'_.heap L_ ∧ FrameEnd U_ o_ U'_ L_ ({ frames := 0, cells := 0, slots := 0, locals := 0 } : Room).cells ({ frames := 0, cells := 0, slots := 0, locals := 0 } : Room).slots) := by
  refine MetFree.of_bodySF (plainFor_of_name pn_4) hisR ?_
  intro pg ee s mm args below meth cc s₁ Bd hml0 hP hK
  obtain ⟨rfl, hZ, hh⟩ := hP
  have hx := Bd.exec
  have hby := Bd.bytes
  have hml : cc.maxLocals = 2 := hml0
  have hown : s.vm.findClass "com/example/ladon/ladon/Truth" = some mm.cls := findClass_of_methodNamed Bd.named
  have hnm := (name_of_methodNamed Bd.named Bd.method).1
  have X0 : Stand pg l ee ({ frames := 0, cells := 0, slots := 0, locals := 0 } : Room) s mm #[(.ref aF)] below meth cc s₁ [] 0 0 := Stand.of_body Bd
  have e0 : s₁.heap = h0 := by rw [← hh, Bd.state]; rfl
  have N0 := Fr.nil n0
  have K0 : Keep h0 h0 ([] : List Addr) := Keep.refl _ _
  have pre0 : ∀ t, Steps pg.tables ee below (s₁.setTop (mkF mm 0 #[.val (.ref aF), .unset] [])) t → Steps pg.tables ee below (s₁.setTop (entryFrame mm #[(.ref aF)] 2)) t := fun t k => castTop (ef_2_16 mm aF) k
  obtain ⟨T1, X1, e1, st1⟩ := getS2 X0 hx hZ hown (host := "") (Or.inl (hw _ (List.mem_of_getElem? (i := 6) rfl))) Via.refl e0 (S_TRUE.ext O0.2) (g := (mkF mm 1 #[.val (.ref aF), .unset] [(.ref aF)])) rfl (hb hby d2_1)
  obtain ⟨T2, X2, e2, st2⟩ := getS2 X1 hx hZ hown (host := "") (Or.inl (hw _ (List.mem_of_getElem? (i := 4) rfl))) Via.refl e1 (S_FALSE.ext O0.2) (g := (mkF mm 15 #[.val (.ref aF), .unset] [(.ref aF)])) rfl (hb hby d2_15)
  obtain ⟨T3, X3, e3, st3⟩ := getS2 X2 hx hZ hown (host := "") (Or.inl (hw _ (List.mem_of_getElem? (i := 6) rfl))) Via.refl e2 (S_TRUE.ext O0.2) (g := (mkF mm 21 #[.val (.ref aF), .unset] [])) rfl (hb hby d2_21)
  obtain ⟨fs, hr, hrun, hended, hW, hsame⟩ := X3.leave (v := some (.ref aT)) (fun h => by rw [Bd.returns] at h; cases h)
  refine ⟨_, _, pre0 _ ?_, hrun, hended, _, _, rfl, ?_, ⟨_, rfl⟩, hW, hsame.mono (by decide) (by decide)⟩
  · show Steps pg.tables ee below (s₁.setTop (mkF mm 0 #[.val (.ref aF), .unset] [])) _
    refine XS.aloadN X0.here hx rfl (hb hby d2_0) rfl rfl ?_
    show Steps pg.tables ee below (s₁.setTop (mkF mm 1 #[.val (.ref aF), .unset] [(.ref aF)])) _
    refine st1 _ ?_
    show Steps pg.tables ee below (T1.setTop (mkF mm 4 #[.val (.ref aF), .unset] [(.ref aT), (.ref aF)])) _
    refine Jvm.RoadKit.acmp (g := (mkF mm 4 #[.val (.ref aF), .unset] [(.ref aT), (.ref aF)])) X1 hx rfl rfl rfl (pc0 := 4) (pc' := 14) (same := false) rfl (hb hby d2_4) rfl (decide_eq_false fun q => hTF (Value.ref.inj q).symm) (by decide) (by decide) ?_
    show Steps pg.tables ee below (T1.setTop (mkF mm 14 #[.val (.ref aF), .unset] [])) _
    refine XS.aloadN X1.here hx rfl (hb hby d2_14) rfl rfl ?_
    show Steps pg.tables ee below (T1.setTop (mkF mm 15 #[.val (.ref aF), .unset] [(.ref aF)])) _
    refine st2 _ ?_
    show Steps pg.tables ee below (T2.setTop (mkF mm 18 #[.val (.ref aF), .unset] [(.ref aF), (.ref aF)])) _
    refine Jvm.RoadKit.acmp (g := (mkF mm 18 #[.val (.ref aF), .unset] [(.ref aF), (.ref aF)])) X2 hx rfl rfl rfl (pc0 := 18) (pc' := 21) (same := true) rfl (hb hby d2_18) rfl (decide_eq_true rfl) (by decide) (by decide) ?_
    show Steps pg.tables ee below (T2.setTop (mkF mm 21 #[.val (.ref aF), .unset] [])) _
    refine st3 _ ?_
    show Steps pg.tables ee below (T3.setTop (mkF mm 24 #[.val (.ref aF), .unset] [(.ref aT)])) _
    refine XS.astoreN X3.here hx rfl (hb hby d2_24) rfl rfl (l' := #[.val (.ref aF), .val (.ref aT)]) rfl ?_
    show Steps pg.tables ee below (T3.setTop (mkF mm 25 #[.val (.ref aF), .val (.ref aT)] [])) _
    refine XS.goto X3.here hx rfl (pc0 := 25) (pc' := 32) rfl (hb hby d2_25) (by decide) (by decide) ?_
    show Steps pg.tables ee below (T3.setTop (mkF mm 32 #[.val (.ref aF), .val (.ref aT)] [])) _
    refine XS.aloadN X3.here hx rfl (hb hby d2_32) rfl rfl ?_
    show Steps pg.tables ee below (T3.setTop (mkF mm 33 #[.val (.ref aF), .val (.ref aT)] [(.ref aT)])) _
    exact retOut X3 hx Bd.returns rfl (Or.inr (Or.inr (Or.inr (Or.inr ⟨rfl, rfl, rfl⟩)))) (hb hby d2_33) hr
  · show QrmNot_aF Z aT aF aI h0 n0 _ T3.heap _
    rw [e3]
    exact ⟨rfl, N0, rfl⟩
theorem d3_0 : decode prog_39_method_5_code 0 = .ok (.aload_n 0, 1) := by decide +kernel
theorem d3_1 : decode prog_39_method_5_code 1 = .ok (.aload_n 2, 1) := by decide +kernel
theorem d3_2 : decode prog_39_method_5_code 2 = .ok (.if_acmp .eq 8, 3) := by decide +kernel
theorem d3_10 : decode prog_39_method_5_code 10 = .ok (.aload_n 2, 1) := by decide +kernel
theorem d3_11 : decode prog_39_method_5_code 11 = .ok (.astore_n 3, 1) := by decide +kernel
theorem d3_12 : decode prog_39_method_5_code 12 = .ok (.goto 29, 3) := by decide +kernel
theorem d3_41 : decode prog_39_method_5_code 41 = .ok (.aload_n 3, 1) := by decide +kernel
theorem d3_42 : decode prog_39_method_5_code 42 = .ok (.areturn, 1) := by decide +kernel
theorem ef_3_31 (m : MethodId) (x0 : Addr) (x1 : Addr) (x2 : Addr) : entryFrame m #[(.ref x0), (.ref x1), (.ref x2)] 4 = mkF m 0 #[.val (.ref x0), .val (.ref x1), .val (.ref x2), .unset] [] := by first | (simp [entryFrame, mkF, argsToLocals, Value.category]; done) | rfl
def QrmJ_aT_aT_aT (Z : State) (aT : Addr) (aF : Addr) (aI : Addr) (h0 : Heap) (n0 : Nat) (v : Option Value) (h : Heap) (L : List Loc) : Prop := v = some (.ref aT) ∧ Fr n0 L ∧ h = h0
set_option maxRecDepth 65536 in
set_option maxHeartbeats 40000000 in
theorem rmJ_aT_aT_aT (l : Launch) (Z : State) (a0 : Array Value) (hw : ∀ d ∈ tables_1, d.before a0 Z = true) (ws : List Jvm.Cond) (aT : Addr) (aF : Addr) (aI : Addr) (h0 : Heap) (n0 : Nat) (O0 : Old Z n0 h0) (S_TRUE : Sta Z Z.heap "com/example/ladon/ladon/Truth" "TRUE" "Lcom/example/ladon/ladon/Truth;" (.ref aT)) (S_FALSE : Sta Z Z.heap "com/example/ladon/ladon/Truth" "FALSE" "Lcom/example/ladon/ladon/Truth;" (.ref aF)) (S_INDETERMINATE : Sta Z Z.heap "com/example/ladon/ladon/Truth" "INDETERMINATE" "Lcom/example/ladon/ladon/Truth;" (.ref aI)) (E_TRUE : Exa Z Z.heap aT "com/example/ladon/ladon/Truth") (E_FALSE : Exa Z Z.heap aF "com/example/ladon/ladon/Truth") (E_INDETERMINATE : Exa Z Z.heap aI "com/example/ladon/ladon/Truth") (hTF : ¬ (aT = aF)) (hTI : ¬ (aT = aI)) (hFI : ¬ (aF = aI)) :
    MetFree l (⟨"com/example/ladon/ladon/Truth", "join", "(Lcom/example/ladon/ladon/Truth;Lcom/example/ladon/ladon/Truth;)Lcom/example/ladon/ladon/Truth;"⟩ : MethodName) (head1 (Jvm.Cond.code (⟨"com/example/ladon/ladon/Truth", "join", "(Lcom/example/ladon/ladon/Truth;Lcom/example/ladon/ladon/Truth;)Lcom/example/ladon/ladon/Truth;"⟩ : MethodName) prog_39_method_5_code 4 (some (.object "com/example/ladon/ladon/Truth")) :: ws) ({ frames := 0, cells := 0, slots := 0, locals := 0 } : Room)) (fun a_ U_ => a_ = #[(.ref aT), (.ref aT), (.ref aT)] ∧ Z.Warmed39 U_.vm ∧ U_.heap = h0) (fun _ _ _ _ _ => True) (fun _ U_ o_ U'_ => ∃ v_ L_, o_ = .returned v_ ∧ QrmJ_aT_aT_aT Z aT aF aI h0 n0 v_ U'_.heap L_ ∧ FrameEnd U_ o_ U'_ L_ ({ frames := 0, cells := 0, slots := 0, locals := 0 } : Room).cells ({ frames := 0, cells := 0, slots := 0, locals := 0 } : Room).slots) := by
  refine MetFree.of_bodySF (plainFor_of_name pn_4) hisR ?_
  intro pg ee s mm args below meth cc s₁ Bd hml0 hP hK
  obtain ⟨rfl, hZ, hh⟩ := hP
  have hx := Bd.exec
  have hby := Bd.bytes
  have hml : cc.maxLocals = 4 := hml0
  have hown : s.vm.findClass "com/example/ladon/ladon/Truth" = some mm.cls := findClass_of_methodNamed Bd.named
  have hnm := (name_of_methodNamed Bd.named Bd.method).1
  have X0 : Stand pg l ee ({ frames := 0, cells := 0, slots := 0, locals := 0 } : Room) s mm #[(.ref aT), (.ref aT), (.ref aT)] below meth cc s₁ [] 0 0 := Stand.of_body Bd
  have e0 : s₁.heap = h0 := by rw [← hh, Bd.state]; rfl
  have N0 := Fr.nil n0
  have K0 : Keep h0 h0 ([] : List Addr) := Keep.refl _ _
  have pre0 : ∀ t, Steps pg.tables ee below (s₁.setTop (mkF mm 0 #[.val (.ref aT), .val (.ref aT), .val (.ref aT), .unset] [])) t → Steps pg.tables ee below (s₁.setTop (entryFrame mm #[(.ref aT), (.ref aT), (.ref aT)] 4)) t := fun t k => castTop (ef_3_31 mm aT aT aT) k
  obtain ⟨fs, hr, hrun, hended, hW, hsame⟩ := X0.leave (v := some (.ref aT)) (fun h => by rw [Bd.returns] at h; cases h)
  refine ⟨_, _, pre0 _ ?_, hrun, hended, _, _, rfl, ?_, ⟨_, rfl⟩, hW, hsame.mono (by decide) (by decide)⟩
  · show Steps pg.tables ee below (s₁.setTop (mkF mm 0 #[.val (.ref aT), .val (.ref aT), .val (.ref aT), .unset] [])) _
    refine XS.aloadN X0.here hx rfl (hb hby d3_0) rfl rfl ?_
    show Steps pg.tables ee below (s₁.setTop (mkF mm 1 #[.val (.ref aT), .val (.ref aT), .val (.ref aT), .unset] [(.ref aT)])) _
    refine XS.aloadN X0.here hx rfl (hb hby d3_1) rfl rfl ?_
    show Steps pg.tables ee below (s₁.setTop (mkF mm 2 #[.val (.ref aT), .val (.ref aT), .val (.ref aT), .unset] [(.ref aT), (.ref aT)])) _
    refine Jvm.RoadKit.acmp (g := (mkF mm 2 #[.val (.ref aT), .val (.ref aT), .val (.ref aT), .unset] [(.ref aT), (.ref aT)])) X0 hx rfl rfl rfl (pc0 := 2) (pc' := 10) (same := true) rfl (hb hby d3_2) rfl (decide_eq_true rfl) (by decide) (by decide) ?_
    show Steps pg.tables ee below (s₁.setTop (mkF mm 10 #[.val (.ref aT), .val (.ref aT), .val (.ref aT), .unset] [])) _
    refine XS.aloadN X0.here hx rfl (hb hby d3_10) rfl rfl ?_
    show Steps pg.tables ee below (s₁.setTop (mkF mm 11 #[.val (.ref aT), .val (.ref aT), .val (.ref aT), .unset] [(.ref aT)])) _
    refine XS.astoreN X0.here hx rfl (hb hby d3_11) rfl rfl (l' := #[.val (.ref aT), .val (.ref aT), .val (.ref aT), .val (.ref aT)]) rfl ?_
    show Steps pg.tables ee below (s₁.setTop (mkF mm 12 #[.val (.ref aT), .val (.ref aT), .val (.ref aT), .val (.ref aT)] [])) _
    refine XS.goto X0.here hx rfl (pc0 := 12) (pc' := 41) rfl (hb hby d3_12) (by decide) (by decide) ?_
    show Steps pg.tables ee below (s₁.setTop (mkF mm 41 #[.val (.ref aT), .val (.ref aT), .val (.ref aT), .val (.ref aT)] [])) _
    refine XS.aloadN X0.here hx rfl (hb hby d3_41) rfl rfl ?_
    show Steps pg.tables ee below (s₁.setTop (mkF mm 42 #[.val (.ref aT), .val (.ref aT), .val (.ref aT), .val (.ref aT)] [(.ref aT)])) _
    exact retOut X0 hx Bd.returns rfl (Or.inr (Or.inr (Or.inr (Or.inr ⟨rfl, rfl, rfl⟩)))) (hb hby d3_42) hr
  · show QrmJ_aT_aT_aT Z aT aF aI h0 n0 _ s₁.heap _
    rw [e0]
    exact ⟨rfl, N0, rfl⟩
theorem d3_5 : decode prog_39_method_5_code 5 = .ok (.aload_n 1, 1) := by decide +kernel
theorem d3_6 : decode prog_39_method_5_code 6 = .ok (.aload_n 2, 1) := by decide +kernel
theorem d3_7 : decode prog_39_method_5_code 7 = .ok (.if_acmp .ne 8, 3) := by decide +kernel
theorem d3_15 : decode prog_39_method_5_code 15 = .ok (.aload_n 0, 1) := by decide +kernel
theorem d3_16 : decode prog_39_method_5_code 16 = .ok (.getstatic 10, 3) := by decide +kernel
theorem d3_19 : decode prog_39_method_5_code 19 = .ok (.if_acmp .eq 10, 3) := by decide +kernel
theorem d3_22 : decode prog_39_method_5_code 22 = .ok (.aload_n 1, 1) := by decide +kernel
theorem d3_23 : decode prog_39_method_5_code 23 = .ok (.getstatic 10, 3) := by decide +kernel
theorem d3_26 : decode prog_39_method_5_code 26 = .ok (.if_acmp .ne 10, 3) := by decide +kernel
theorem d3_36 : decode prog_39_method_5_code 36 = .ok (.aload_n 2, 1) := by decide +kernel
theorem d3_37 : decode prog_39_method_5_code 37 = .ok (.invokevirtual 32, 3) := by decide +kernel
theorem pd_43 : parseMethodDescriptor "()Lcom/example/ladon/ladon/Truth;" = some ⟨[], some (.object "com/example/ladon/ladon/Truth")⟩ := by decide +kernel
theorem d3_40 : decode prog_39_method_5_code 40 = .ok (.astore_n 3, 1) := by decide +kernel
def QrmJ_aT_aT_aF (Z : State) (aT : Addr) (aF : Addr) (aI : Addr) (h0 : Heap) (n0 : Nat) (v : Option Value) (h : Heap) (L : List Loc) : Prop := v = some (.ref aT) ∧ Fr n0 L ∧ h = h0
set_option maxRecDepth 65536 in
set_option maxHeartbeats 40000000 in
theorem rmJ_aT_aT_aF (l : Launch) (Z : State) (a0 : Array Value) (hw : ∀ d ∈ tables_1, d.before a0 Z = true) (ws : List Jvm.Cond) (aT : Addr) (aF : Addr) (aI : Addr) (h0 : Heap) (n0 : Nat) (O0 : Old Z n0 h0) (S_TRUE : Sta Z Z.heap "com/example/ladon/ladon/Truth" "TRUE" "Lcom/example/ladon/ladon/Truth;" (.ref aT)) (S_FALSE : Sta Z Z.heap "com/example/ladon/ladon/Truth" "FALSE" "Lcom/example/ladon/ladon/Truth;" (.ref aF)) (S_INDETERMINATE : Sta Z Z.heap "com/example/ladon/ladon/Truth" "INDETERMINATE" "Lcom/example/ladon/ladon/Truth;" (.ref aI)) (E_TRUE : Exa Z Z.heap aT "com/example/ladon/ladon/Truth") (E_FALSE : Exa Z Z.heap aF "com/example/ladon/ladon/Truth") (E_INDETERMINATE : Exa Z Z.heap aI "com/example/ladon/ladon/Truth") (hTF : ¬ (aT = aF)) (hTI : ¬ (aT = aI)) (hFI : ¬ (aF = aI)) :
    MetFree l (⟨"com/example/ladon/ladon/Truth", "join", "(Lcom/example/ladon/ladon/Truth;Lcom/example/ladon/ladon/Truth;)Lcom/example/ladon/ladon/Truth;"⟩ : MethodName) (head1 (Jvm.Cond.code (⟨"com/example/ladon/ladon/Truth", "join", "(Lcom/example/ladon/ladon/Truth;Lcom/example/ladon/ladon/Truth;)Lcom/example/ladon/ladon/Truth;"⟩ : MethodName) prog_39_method_5_code 4 (some (.object "com/example/ladon/ladon/Truth")) :: ws) ({ frames := 1, cells := 0, slots := 0, locals := 13 } : Room)) (fun a_ U_ => a_ = #[(.ref aT), (.ref aT), (.ref aF)] ∧ Z.Warmed39 U_.vm ∧ U_.heap = h0) (fun _ _ _ _ _ => True) (fun _ U_ o_ U'_ => ∃ v_ L_, o_ = .returned v_ ∧ QrmJ_aT_aT_aF Z aT aF aI h0 n0 v_ U'_.heap L_ ∧ FrameEnd U_ o_ U'_ L_ ({ frames := 1, cells := 0, slots := 0, locals := 13 } : Room).cells ({ frames := 1, cells := 0, slots := 0, locals := 13 } : Room).slots) := by
  refine MetFree.of_bodySF (plainFor_of_name pn_4) hisR ?_
  intro pg ee s mm args below meth cc s₁ Bd hml0 hP hK
  obtain ⟨rfl, hZ, hh⟩ := hP
  have hx := Bd.exec
  have hby := Bd.bytes
  have hml : cc.maxLocals = 4 := hml0
  have hown : s.vm.findClass "com/example/ladon/ladon/Truth" = some mm.cls := findClass_of_methodNamed Bd.named
  have hnm := (name_of_methodNamed Bd.named Bd.method).1
  have X0 : Stand pg l ee ({ frames := 1, cells := 0, slots := 0, locals := 13 } : Room) s mm #[(.ref aT), (.ref aT), (.ref aF)] below meth cc s₁ [] 0 0 := Stand.of_body Bd
  have e0 : s₁.heap = h0 := by rw [← hh, Bd.state]; rfl
  have N0 := Fr.nil n0
  have K0 : Keep h0 h0 ([] : List Addr) := Keep.refl _ _
  have pre0 : ∀ t, Steps pg.tables ee below (s₁.setTop (mkF mm 0 #[.val (.ref aT), .val (.ref aT), .val (.ref aF), .unset] [])) t → Steps pg.tables ee below (s₁.setTop (entryFrame mm #[(.ref aT), (.ref aT), (.ref aF)] 4)) t := fun t k => castTop (ef_3_31 mm aT aT aF) k
  obtain ⟨T1, X1, e1, st1⟩ := getS2 X0 hx hZ hown (host := "") (Or.inl (hw _ (List.mem_of_getElem? (i := 20) rfl))) Via.refl e0 (S_INDETERMINATE.ext O0.2) (g := (mkF mm 16 #[.val (.ref aT), .val (.ref aT), .val (.ref aF), .unset] [(.ref aT)])) rfl (hb hby d3_16)
  obtain ⟨T2, X2, e2, st2⟩ := getS2 X1 hx hZ hown (host := "") (Or.inl (hw _ (List.mem_of_getElem? (i := 20) rfl))) Via.refl e1 (S_INDETERMINATE.ext O0.2) (g := (mkF mm 23 #[.val (.ref aT), .val (.ref aT), .val (.ref aF), .unset] [(.ref aT)])) rfl (hb hby d3_23)
  obtain ⟨cq3, kq3, q3a, q3b, q3c⟩ := isOf hZ e2 (E_FALSE.ext O0.2)
  obtain ⟨_, _, ⟨T3, L3, k3, n3⟩, -, X3, ⟨Lc3, hQ3, l3, y3, z3⟩, st3⟩ := X2.virtualBack hx (y := (⟨"com/example/ladon/ladon/Truth", "not", "()Lcom/example/ladon/ladon/Truth;"⟩ : MethodName)) (z := (⟨"com/example/ladon/ladon/Truth", "not", "()Lcom/example/ladon/ladon/Truth;"⟩ : MethodName)) hown (mvT hZ (hw _ (List.mem_of_getElem? (i := 22) rfl))) (mvT hZ (hw _ (List.mem_of_getElem? (i := 10) rfl))) (notFace_of_selects (args := #[]) (mvT hZ (hw _ (List.mem_of_getElem? (i := 12) rfl)))) (mvT hZ (hw _ (List.mem_of_getElem? (i := 12) rfl))) (mvT hZ (hw _ (List.mem_of_getElem? (i := 11) rfl))) (by decide) (backOf (W := 0) (rmNot_aF l Z a0 hw [] aT aF aI h0 n0 O0 S_TRUE S_FALSE S_INDETERMINATE E_TRUE E_FALSE E_INDETERMINATE hTF hTI hFI) hZ (hw _ (List.mem_of_getElem? (i := 13) rfl)) (hw _ (List.mem_of_getElem? (i := 2) rfl)) (by decide) (by decide)) q3a q3c (g := (mkF mm 37 #[.val (.ref aT), .val (.ref aT), .val (.ref aF), .unset] [(.ref aF)])) rfl (by rw [hml]; rfl) (Steps.refl _) (argsL := []) (rest := []) (lenOf pd_43 rfl) rfl (by show 2 * 0 + _ ≤ _; exact Nat.le_of_eq rfl) (hb hby d3_37) (fun _ _ => ⟨rfl, e2, (by decide : 0 + 0 ≤ _), (by decide : 0 + 0 ≤ _)⟩)
  dsimp only [Pt.U, Pt.locs, Pt.cells, Pt.slots] at X3 l3 y3 z3 st3 hQ3
  subst l3 y3 z3
  obtain ⟨rfl, N3q, e3⟩ := hQ3
  have N3 := Fr.app N0 N3q
  obtain ⟨fs, hr, hrun, hended, hW, hsame⟩ := X3.leave (v := some (.ref aT)) (fun h => by rw [Bd.returns] at h; cases h)
  refine ⟨_, _, pre0 _ ?_, hrun, hended, _, _, rfl, ?_, ⟨_, rfl⟩, hW, hsame.mono (by decide) (by decide)⟩
  · show Steps pg.tables ee below (s₁.setTop (mkF mm 0 #[.val (.ref aT), .val (.ref aT), .val (.ref aF), .unset] [])) _
    refine XS.aloadN X0.here hx rfl (hb hby d3_0) rfl rfl ?_
    show Steps pg.tables ee below (s₁.setTop (mkF mm 1 #[.val (.ref aT), .val (.ref aT), .val (.ref aF), .unset] [(.ref aT)])) _
    refine XS.aloadN X0.here hx rfl (hb hby d3_1) rfl rfl ?_
    show Steps pg.tables ee below (s₁.setTop (mkF mm 2 #[.val (.ref aT), .val (.ref aT), .val (.ref aF), .unset] [(.ref aF), (.ref aT)])) _
    refine Jvm.RoadKit.acmp (g := (mkF mm 2 #[.val (.ref aT), .val (.ref aT), .val (.ref aF), .unset] [(.ref aF), (.ref aT)])) X0 hx rfl rfl rfl (pc0 := 2) (pc' := 5) (same := false) rfl (hb hby d3_2) rfl (decide_eq_false fun q => hTF (Value.ref.inj q)) (by decide) (by decide) ?_
    show Steps pg.tables ee below (s₁.setTop (mkF mm 5 #[.val (.ref aT), .val (.ref aT), .val (.ref aF), .unset] [])) _
    refine XS.aloadN X0.here hx rfl (hb hby d3_5) rfl rfl ?_
    show Steps pg.tables ee below (s₁.setTop (mkF mm 6 #[.val (.ref aT), .val (.ref aT), .val (.ref aF), .unset] [(.ref aT)])) _
    refine XS.aloadN X0.here hx rfl (hb hby d3_6) rfl rfl ?_
    show Steps pg.tables ee below (s₁.setTop (mkF mm 7 #[.val (.ref aT), .val (.ref aT), .val (.ref aF), .unset] [(.ref aF), (.ref aT)])) _
    refine Jvm.RoadKit.acmp (g := (mkF mm 7 #[.val (.ref aT), .val (.ref aT), .val (.ref aF), .unset] [(.ref aF), (.ref aT)])) X0 hx rfl rfl rfl (pc0 := 7) (pc' := 15) (same := false) rfl (hb hby d3_7) rfl (decide_eq_false fun q => hTF (Value.ref.inj q)) (by decide) (by decide) ?_
    show Steps pg.tables ee below (s₁.setTop (mkF mm 15 #[.val (.ref aT), .val (.ref aT), .val (.ref aF), .unset] [])) _
    refine XS.aloadN X0.here hx rfl (hb hby d3_15) rfl rfl ?_
    show Steps pg.tables ee below (s₁.setTop (mkF mm 16 #[.val (.ref aT), .val (.ref aT), .val (.ref aF), .unset] [(.ref aT)])) _
    refine st1 _ ?_
    show Steps pg.tables ee below (T1.setTop (mkF mm 19 #[.val (.ref aT), .val (.ref aT), .val (.ref aF), .unset] [(.ref aI), (.ref aT)])) _
    refine Jvm.RoadKit.acmp (g := (mkF mm 19 #[.val (.ref aT), .val (.ref aT), .val (.ref aF), .unset] [(.ref aI), (.ref aT)])) X1 hx rfl rfl rfl (pc0 := 19) (pc' := 22) (same := false) rfl (hb hby d3_19) rfl (decide_eq_false fun q => hTI (Value.ref.inj q)) (by decide) (by decide) ?_
    show Steps pg.tables ee below (T1.setTop (mkF mm 22 #[.val (.ref aT), .val (.ref aT), .val (.ref aF), .unset] [])) _
    refine XS.aloadN X1.here hx rfl (hb hby d3_22) rfl rfl ?_
    show Steps pg.tables ee below (T1.setTop (mkF mm 23 #[.val (.ref aT), .val (.ref aT), .val (.ref aF), .unset] [(.ref aT)])) _
    refine st2 _ ?_
    show Steps pg.tables ee below (T2.setTop (mkF mm 26 #[.val (.ref aT), .val (.ref aT), .val (.ref aF), .unset] [(.ref aI), (.ref aT)])) _
    refine Jvm.RoadKit.acmp (g := (mkF mm 26 #[.val (.ref aT), .val (.ref aT), .val (.ref aF), .unset] [(.ref aI), (.ref aT)])) X2 hx rfl rfl rfl (pc0 := 26) (pc' := 36) (same := false) rfl (hb hby d3_26) rfl (decide_eq_false fun q => hTI (Value.ref.inj q)) (by decide) (by decide) ?_
    show Steps pg.tables ee below (T2.setTop (mkF mm 36 #[.val (.ref aT), .val (.ref aT), .val (.ref aF), .unset] [])) _
    refine XS.aloadN X2.here hx rfl (hb hby d3_36) rfl rfl ?_
    show Steps pg.tables ee below (T2.setTop (mkF mm 37 #[.val (.ref aT), .val (.ref aT), .val (.ref aF), .unset] [(.ref aF)])) _
    refine st3.trans ?_
    show Steps pg.tables ee below (T3.setTop (mkF mm 40 #[.val (.ref aT), .val (.ref aT), .val (.ref aF), .unset] [(.ref aT)])) _
    refine XS.astoreN X3.here hx rfl (hb hby d3_40) rfl rfl (l' := #[.val (.ref aT), .val (.ref aT), .val (.ref aF), .val (.ref aT)]) rfl ?_
    show Steps pg.tables ee below (T3.setTop (mkF mm 41 #[.val (.ref aT), .val (.ref aT), .val (.ref aF), .val (.ref aT)] [])) _
    refine XS.aloadN X3.here hx rfl (hb hby d3_41) rfl rfl ?_
    show Steps pg.tables ee below (T3.setTop (mkF mm 42 #[.val (.ref aT), .val (.ref aT), .val (.ref aF), .val (.ref aT)] [(.ref aT)])) _
    exact retOut X3 hx Bd.returns rfl (Or.inr (Or.inr (Or.inr (Or.inr ⟨rfl, rfl, rfl⟩)))) (hb hby d3_42) hr
  · show QrmJ_aT_aT_aF Z aT aF aI h0 n0 _ T3.heap _
    rw [e3]
    exact ⟨rfl, N3, rfl⟩
def QrmJ_aT_aF_aT (Z : State) (aT : Addr) (aF : Addr) (aI : Addr) (h0 : Heap) (n0 : Nat) (v : Option Value) (h : Heap) (L : List Loc) : Prop := v = some (.ref aT) ∧ Fr n0 L ∧ h = h0
set_option maxRecDepth 65536 in
set_option maxHeartbeats 40000000 in
theorem rmJ_aT_aF_aT (l : Launch) (Z : State) (a0 : Array Value) (hw : ∀ d ∈ tables_1, d.before a0 Z = true) (ws : List Jvm.Cond) (aT : Addr) (aF : Addr) (aI : Addr) (h0 : Heap) (n0 : Nat) (O0 : Old Z n0 h0) (S_TRUE : Sta Z Z.heap "com/example/ladon/ladon/Truth" "TRUE" "Lcom/example/ladon/ladon/Truth;" (.ref aT)) (S_FALSE : Sta Z Z.heap "com/example/ladon/ladon/Truth" "FALSE" "Lcom/example/ladon/ladon/Truth;" (.ref aF)) (S_INDETERMINATE : Sta Z Z.heap "com/example/ladon/ladon/Truth" "INDETERMINATE" "Lcom/example/ladon/ladon/Truth;" (.ref aI)) (E_TRUE : Exa Z Z.heap aT "com/example/ladon/ladon/Truth") (E_FALSE : Exa Z Z.heap aF "com/example/ladon/ladon/Truth") (E_INDETERMINATE : Exa Z Z.heap aI "com/example/ladon/ladon/Truth") (hTF : ¬ (aT = aF)) (hTI : ¬ (aT = aI)) (hFI : ¬ (aF = aI)) :
    MetFree l (⟨"com/example/ladon/ladon/Truth", "join", "(Lcom/example/ladon/ladon/Truth;Lcom/example/ladon/ladon/Truth;)Lcom/example/ladon/ladon/Truth;"⟩ : MethodName) (head1 (Jvm.Cond.code (⟨"com/example/ladon/ladon/Truth", "join", "(Lcom/example/ladon/ladon/Truth;Lcom/example/ladon/ladon/Truth;)Lcom/example/ladon/ladon/Truth;"⟩ : MethodName) prog_39_method_5_code 4 (some (.object "com/example/ladon/ladon/Truth")) :: ws) ({ frames := 0, cells := 0, slots := 0, locals := 0 } : Room)) (fun a_ U_ => a_ = #[(.ref aT), (.ref aF), (.ref aT)] ∧ Z.Warmed39 U_.vm ∧ U_.heap = h0) (fun _ _ _ _ _ => True) (fun _ U_ o_ U'_ => ∃ v_ L_, o_ = .returned v_ ∧ QrmJ_aT_aF_aT Z aT aF aI h0 n0 v_ U'_.heap L_ ∧ FrameEnd U_ o_ U'_ L_ ({ frames := 0, cells := 0, slots := 0, locals := 0 } : Room).cells ({ frames := 0, cells := 0, slots := 0, locals := 0 } : Room).slots) := by
  refine MetFree.of_bodySF (plainFor_of_name pn_4) hisR ?_
  intro pg ee s mm args below meth cc s₁ Bd hml0 hP hK
  obtain ⟨rfl, hZ, hh⟩ := hP
  have hx := Bd.exec
  have hby := Bd.bytes
  have hml : cc.maxLocals = 4 := hml0
  have hown : s.vm.findClass "com/example/ladon/ladon/Truth" = some mm.cls := findClass_of_methodNamed Bd.named
  have hnm := (name_of_methodNamed Bd.named Bd.method).1
  have X0 : Stand pg l ee ({ frames := 0, cells := 0, slots := 0, locals := 0 } : Room) s mm #[(.ref aT), (.ref aF), (.ref aT)] below meth cc s₁ [] 0 0 := Stand.of_body Bd
  have e0 : s₁.heap = h0 := by rw [← hh, Bd.state]; rfl
  have N0 := Fr.nil n0
  have K0 : Keep h0 h0 ([] : List Addr) := Keep.refl _ _
  have pre0 : ∀ t, Steps pg.tables ee below (s₁.setTop (mkF mm 0 #[.val (.ref aT), .val (.ref aF), .val (.ref aT), .unset] [])) t → Steps pg.tables ee below (s₁.setTop (entryFrame mm #[(.ref aT), (.ref aF), (.ref aT)] 4)) t := fun t k => castTop (ef_3_31 mm aT aF aT) k
  obtain ⟨fs, hr, hrun, hended, hW, hsame⟩ := X0.leave (v := some (.ref aT)) (fun h => by rw [Bd.returns] at h; cases h)
  refine ⟨_, _, pre0 _ ?_, hrun, hended, _, _, rfl, ?_, ⟨_, rfl⟩, hW, hsame.mono (by decide) (by decide)⟩
  · show Steps pg.tables ee below (s₁.setTop (mkF mm 0 #[.val (.ref aT), .val (.ref aF), .val (.ref aT), .unset] [])) _
    refine XS.aloadN X0.here hx rfl (hb hby d3_0) rfl rfl ?_
    show Steps pg.tables ee below (s₁.setTop (mkF mm 1 #[.val (.ref aT), .val (.ref aF), .val (.ref aT), .unset] [(.ref aT)])) _
    refine XS.aloadN X0.here hx rfl (hb hby d3_1) rfl rfl ?_
    show Steps pg.tables ee below (s₁.setTop (mkF mm 2 #[.val (.ref aT), .val (.ref aF), .val (.ref aT), .unset] [(.ref aT), (.ref aT)])) _
    refine Jvm.RoadKit.acmp (g := (mkF mm 2 #[.val (.ref aT), .val (.ref aF), .val (.ref aT), .unset] [(.ref aT), (.ref aT)])) X0 hx rfl rfl rfl (pc0 := 2) (pc' := 10) (same := true) rfl (hb hby d3_2) rfl (decide_eq_true rfl) (by decide) (by decide) ?_
    show Steps pg.tables ee below (s₁.setTop (mkF mm 10 #[.val (.ref aT), .val (.ref aF), .val (.ref aT), .unset] [])) _
    refine XS.aloadN X0.here hx rfl (hb hby d3_10) rfl rfl ?_
    show Steps pg.tables ee below (s₁.setTop (mkF mm 11 #[.val (.ref aT), .val (.ref aF), .val (.ref aT), .unset] [(.ref aT)])) _
    refine XS.astoreN X0.here hx rfl (hb hby d3_11) rfl rfl (l' := #[.val (.ref aT), .val (.ref aF), .val (.ref aT), .val (.ref aT)]) rfl ?_
    show Steps pg.tables ee below (s₁.setTop (mkF mm 12 #[.val (.ref aT), .val (.ref aF), .val (.ref aT), .val (.ref aT)] [])) _
    refine XS.goto X0.here hx rfl (pc0 := 12) (pc' := 41) rfl (hb hby d3_12) (by decide) (by decide) ?_
    show Steps pg.tables ee below (s₁.setTop (mkF mm 41 #[.val (.ref aT), .val (.ref aF), .val (.ref aT), .val (.ref aT)] [])) _
    refine XS.aloadN X0.here hx rfl (hb hby d3_41) rfl rfl ?_
    show Steps pg.tables ee below (s₁.setTop (mkF mm 42 #[.val (.ref aT), .val (.ref aF), .val (.ref aT), .val (.ref aT)] [(.ref aT)])) _
    exact retOut X0 hx Bd.returns rfl (Or.inr (Or.inr (Or.inr (Or.inr ⟨rfl, rfl, rfl⟩)))) (hb hby d3_42) hr
  · show QrmJ_aT_aF_aT Z aT aF aI h0 n0 _ s₁.heap _
    rw [e0]
    exact ⟨rfl, N0, rfl⟩
def QrmJ_aT_aF_aF (Z : State) (aT : Addr) (aF : Addr) (aI : Addr) (h0 : Heap) (n0 : Nat) (v : Option Value) (h : Heap) (L : List Loc) : Prop := v = some (.ref aF) ∧ Fr n0 L ∧ h = h0
set_option maxRecDepth 65536 in
set_option maxHeartbeats 40000000 in
theorem rmJ_aT_aF_aF (l : Launch) (Z : State) (a0 : Array Value) (hw : ∀ d ∈ tables_1, d.before a0 Z = true) (ws : List Jvm.Cond) (aT : Addr) (aF : Addr) (aI : Addr) (h0 : Heap) (n0 : Nat) (O0 : Old Z n0 h0) (S_TRUE : Sta Z Z.heap "com/example/ladon/ladon/Truth" "TRUE" "Lcom/example/ladon/ladon/Truth;" (.ref aT)) (S_FALSE : Sta Z Z.heap "com/example/ladon/ladon/Truth" "FALSE" "Lcom/example/ladon/ladon/Truth;" (.ref aF)) (S_INDETERMINATE : Sta Z Z.heap "com/example/ladon/ladon/Truth" "INDETERMINATE" "Lcom/example/ladon/ladon/Truth;" (.ref aI)) (E_TRUE : Exa Z Z.heap aT "com/example/ladon/ladon/Truth") (E_FALSE : Exa Z Z.heap aF "com/example/ladon/ladon/Truth") (E_INDETERMINATE : Exa Z Z.heap aI "com/example/ladon/ladon/Truth") (hTF : ¬ (aT = aF)) (hTI : ¬ (aT = aI)) (hFI : ¬ (aF = aI)) :
    MetFree l (⟨"com/example/ladon/ladon/Truth", "join", "(Lcom/example/ladon/ladon/Truth;Lcom/example/ladon/ladon/Truth;)Lcom/example/ladon/ladon/Truth;"⟩ : MethodName) (head1 (Jvm.Cond.code (⟨"com/example/ladon/ladon/Truth", "join", "(Lcom/example/ladon/ladon/Truth;Lcom/example/ladon/ladon/Truth;)Lcom/example/ladon/ladon/Truth;"⟩ : MethodName) prog_39_method_5_code 4 (some (.object "com/example/ladon/ladon/Truth")) :: ws) ({ frames := 0, cells := 0, slots := 0, locals := 0 } : Room)) (fun a_ U_ => a_ = #[(.ref aT), (.ref aF), (.ref aF)] ∧ Z.Warmed39 U_.vm ∧ U_.heap = h0) (fun _ _ _ _ _ => True) (fun _ U_ o_ U'_ => ∃ v_ L_, o_ = .returned v_ ∧ QrmJ_aT_aF_aF Z aT aF aI h0 n0 v_ U'_.heap L_ ∧ FrameEnd U_ o_ U'_ L_ ({ frames := 0, cells := 0, slots := 0, locals := 0 } : Room).cells ({ frames := 0, cells := 0, slots := 0, locals := 0 } : Room).slots) := by
  refine MetFree.of_bodySF (plainFor_of_name pn_4) hisR ?_
  intro pg ee s mm args below meth cc s₁ Bd hml0 hP hK
  obtain ⟨rfl, hZ, hh⟩ := hP
  have hx := Bd.exec
  have hby := Bd.bytes
  have hml : cc.maxLocals = 4 := hml0
  have hown : s.vm.findClass "com/example/ladon/ladon/Truth" = some mm.cls := findClass_of_methodNamed Bd.named
  have hnm := (name_of_methodNamed Bd.named Bd.method).1
  have X0 : Stand pg l ee ({ frames := 0, cells := 0, slots := 0, locals := 0 } : Room) s mm #[(.ref aT), (.ref aF), (.ref aF)] below meth cc s₁ [] 0 0 := Stand.of_body Bd
  have e0 : s₁.heap = h0 := by rw [← hh, Bd.state]; rfl
  have N0 := Fr.nil n0
  have K0 : Keep h0 h0 ([] : List Addr) := Keep.refl _ _
  have pre0 : ∀ t, Steps pg.tables ee below (s₁.setTop (mkF mm 0 #[.val (.ref aT), .val (.ref aF), .val (.ref aF), .unset] [])) t → Steps pg.tables ee below (s₁.setTop (entryFrame mm #[(.ref aT), (.ref aF), (.ref aF)] 4)) t := fun t k => castTop (ef_3_31 mm aT aF aF) k
  obtain ⟨fs, hr, hrun, hended, hW, hsame⟩ := X0.leave (v := some (.ref aF)) (fun h => by rw [Bd.returns] at h; cases h)
  refine ⟨_, _, pre0 _ ?_, hrun, hended, _, _, rfl, ?_, ⟨_, rfl⟩, hW, hsame.mono (by decide) (by decide)⟩
  · show Steps pg.tables ee below (s₁.setTop (mkF mm 0 #[.val (.ref aT), .val (.ref aF), .val (.ref aF), .unset] [])) _
    refine XS.aloadN X0.here hx rfl (hb hby d3_0) rfl rfl ?_
    show Steps pg.tables ee below (s₁.setTop (mkF mm 1 #[.val (.ref aT), .val (.ref aF), .val (.ref aF), .unset] [(.ref aT)])) _
    refine XS.aloadN X0.here hx rfl (hb hby d3_1) rfl rfl ?_
    show Steps pg.tables ee below (s₁.setTop (mkF mm 2 #[.val (.ref aT), .val (.ref aF), .val (.ref aF), .unset] [(.ref aF), (.ref aT)])) _
    refine Jvm.RoadKit.acmp (g := (mkF mm 2 #[.val (.ref aT), .val (.ref aF), .val (.ref aF), .unset] [(.ref aF), (.ref aT)])) X0 hx rfl rfl rfl (pc0 := 2) (pc' := 5) (same := false) rfl (hb hby d3_2) rfl (decide_eq_false fun q => hTF (Value.ref.inj q)) (by decide) (by decide) ?_
    show Steps pg.tables ee below (s₁.setTop (mkF mm 5 #[.val (.ref aT), .val (.ref aF), .val (.ref aF), .unset] [])) _
    refine XS.aloadN X0.here hx rfl (hb hby d3_5) rfl rfl ?_
    show Steps pg.tables ee below (s₁.setTop (mkF mm 6 #[.val (.ref aT), .val (.ref aF), .val (.ref aF), .unset] [(.ref aF)])) _
    refine XS.aloadN X0.here hx rfl (hb hby d3_6) rfl rfl ?_
    show Steps pg.tables ee below (s₁.setTop (mkF mm 7 #[.val (.ref aT), .val (.ref aF), .val (.ref aF), .unset] [(.ref aF), (.ref aF)])) _
    refine Jvm.RoadKit.acmp (g := (mkF mm 7 #[.val (.ref aT), .val (.ref aF), .val (.ref aF), .unset] [(.ref aF), (.ref aF)])) X0 hx rfl rfl rfl (pc0 := 7) (pc' := 10) (same := true) rfl (hb hby d3_7) rfl (decide_eq_true rfl) (by decide) (by decide) ?_
    show Steps pg.tables ee below (s₁.setTop (mkF mm 10 #[.val (.ref aT), .val (.ref aF), .val (.ref aF), .unset] [])) _
    refine XS.aloadN X0.here hx rfl (hb hby d3_10) rfl rfl ?_
    show Steps pg.tables ee below (s₁.setTop (mkF mm 11 #[.val (.ref aT), .val (.ref aF), .val (.ref aF), .unset] [(.ref aF)])) _
    refine XS.astoreN X0.here hx rfl (hb hby d3_11) rfl rfl (l' := #[.val (.ref aT), .val (.ref aF), .val (.ref aF), .val (.ref aF)]) rfl ?_
    show Steps pg.tables ee below (s₁.setTop (mkF mm 12 #[.val (.ref aT), .val (.ref aF), .val (.ref aF), .val (.ref aF)] [])) _
    refine XS.goto X0.here hx rfl (pc0 := 12) (pc' := 41) rfl (hb hby d3_12) (by decide) (by decide) ?_
    show Steps pg.tables ee below (s₁.setTop (mkF mm 41 #[.val (.ref aT), .val (.ref aF), .val (.ref aF), .val (.ref aF)] [])) _
    refine XS.aloadN X0.here hx rfl (hb hby d3_41) rfl rfl ?_
    show Steps pg.tables ee below (s₁.setTop (mkF mm 42 #[.val (.ref aT), .val (.ref aF), .val (.ref aF), .val (.ref aF)] [(.ref aF)])) _
    exact retOut X0 hx Bd.returns rfl (Or.inr (Or.inr (Or.inr (Or.inr ⟨rfl, rfl, rfl⟩)))) (hb hby d3_42) hr
  · show QrmJ_aT_aF_aF Z aT aF aI h0 n0 _ s₁.heap _
    rw [e0]
    exact ⟨rfl, N0, rfl⟩
def QrmJ_aF_aT_aT (Z : State) (aT : Addr) (aF : Addr) (aI : Addr) (h0 : Heap) (n0 : Nat) (v : Option Value) (h : Heap) (L : List Loc) : Prop := v = some (.ref aT) ∧ Fr n0 L ∧ h = h0
set_option maxRecDepth 65536 in
set_option maxHeartbeats 40000000 in
theorem rmJ_aF_aT_aT (l : Launch) (Z : State) (a0 : Array Value) (hw : ∀ d ∈ tables_1, d.before a0 Z = true) (ws : List Jvm.Cond) (aT : Addr) (aF : Addr) (aI : Addr) (h0 : Heap) (n0 : Nat) (O0 : Old Z n0 h0) (S_TRUE : Sta Z Z.heap "com/example/ladon/ladon/Truth" "TRUE" "Lcom/example/ladon/ladon/Truth;" (.ref aT)) (S_FALSE : Sta Z Z.heap "com/example/ladon/ladon/Truth" "FALSE" "Lcom/example/ladon/ladon/Truth;" (.ref aF)) (S_INDETERMINATE : Sta Z Z.heap "com/example/ladon/ladon/Truth" "INDETERMINATE" "Lcom/example/ladon/ladon/Truth;" (.ref aI)) (E_TRUE : Exa Z Z.heap aT "com/example/ladon/ladon/Truth") (E_FALSE : Exa Z Z.heap aF "com/example/ladon/ladon/Truth") (E_INDETERMINATE : Exa Z Z.heap aI "com/example/ladon/ladon/Truth") (hTF : ¬ (aT = aF)) (hTI : ¬ (aT = aI)) (hFI : ¬ (aF = aI)) :
    MetFree l (⟨"com/example/ladon/ladon/Truth", "join", "(Lcom/example/ladon/ladon/Truth;Lcom/example/ladon/ladon/Truth;)Lcom/example/ladon/ladon/Truth;"⟩ : MethodName) (head1 (Jvm.Cond.code (⟨"com/example/ladon/ladon/Truth", "join", "(Lcom/example/ladon/ladon/Truth;Lcom/example/ladon/ladon/Truth;)Lcom/example/ladon/ladon/Truth;"⟩ : MethodName) prog_39_method_5_code 4 (some (.object "com/example/ladon/ladon/Truth")) :: ws) ({ frames := 0, cells := 0, slots := 0, locals := 0 } : Room)) (fun a_ U_ => a_ = #[(.ref aF), (.ref aT), (.ref aT)] ∧ Z.Warmed39 U_.vm ∧ U_.heap = h0) (fun _ _ _ _ _ => True) (fun _ U_ o_ U'_ => ∃ v_ L_, o_ = .returned v_ ∧ QrmJ_aF_aT_aT Z aT aF aI h0 n0 v_ U'_.heap L_ ∧ FrameEnd U_ o_ U'_ L_ ({ frames := 0, cells := 0, slots := 0, locals := 0 } : Room).cells ({ frames := 0, cells := 0, slots := 0, locals := 0 } : Room).slots) := by
  refine MetFree.of_bodySF (plainFor_of_name pn_4) hisR ?_
  intro pg ee s mm args below meth cc s₁ Bd hml0 hP hK
  obtain ⟨rfl, hZ, hh⟩ := hP
  have hx := Bd.exec
  have hby := Bd.bytes
  have hml : cc.maxLocals = 4 := hml0
  have hown : s.vm.findClass "com/example/ladon/ladon/Truth" = some mm.cls := findClass_of_methodNamed Bd.named
  have hnm := (name_of_methodNamed Bd.named Bd.method).1
  have X0 : Stand pg l ee ({ frames := 0, cells := 0, slots := 0, locals := 0 } : Room) s mm #[(.ref aF), (.ref aT), (.ref aT)] below meth cc s₁ [] 0 0 := Stand.of_body Bd
  have e0 : s₁.heap = h0 := by rw [← hh, Bd.state]; rfl
  have N0 := Fr.nil n0
  have K0 : Keep h0 h0 ([] : List Addr) := Keep.refl _ _
  have pre0 : ∀ t, Steps pg.tables ee below (s₁.setTop (mkF mm 0 #[.val (.ref aF), .val (.ref aT), .val (.ref aT), .unset] [])) t → Steps pg.tables ee below (s₁.setTop (entryFrame mm #[(.ref aF), (.ref aT), (.ref aT)] 4)) t := fun t k => castTop (ef_3_31 mm aF aT aT) k
  obtain ⟨fs, hr, hrun, hended, hW, hsame⟩ := X0.leave (v := some (.ref aT)) (fun h => by rw [Bd.returns] at h; cases h)
  refine ⟨_, _, pre0 _ ?_, hrun, hended, _, _, rfl, ?_, ⟨_, rfl⟩, hW, hsame.mono (by decide) (by decide)⟩
  · show Steps pg.tables ee below (s₁.setTop (mkF mm 0 #[.val (.ref aF), .val (.ref aT), .val (.ref aT), .unset] [])) _
    refine XS.aloadN X0.here hx rfl (hb hby d3_0) rfl rfl ?_
    show Steps pg.tables ee below (s₁.setTop (mkF mm 1 #[.val (.ref aF), .val (.ref aT), .val (.ref aT), .unset] [(.ref aF)])) _
    refine XS.aloadN X0.here hx rfl (hb hby d3_1) rfl rfl ?_
    show Steps pg.tables ee below (s₁.setTop (mkF mm 2 #[.val (.ref aF), .val (.ref aT), .val (.ref aT), .unset] [(.ref aT), (.ref aF)])) _
    refine Jvm.RoadKit.acmp (g := (mkF mm 2 #[.val (.ref aF), .val (.ref aT), .val (.ref aT), .unset] [(.ref aT), (.ref aF)])) X0 hx rfl rfl rfl (pc0 := 2) (pc' := 5) (same := false) rfl (hb hby d3_2) rfl (decide_eq_false fun q => hTF (Value.ref.inj q).symm) (by decide) (by decide) ?_
    show Steps pg.tables ee below (s₁.setTop (mkF mm 5 #[.val (.ref aF), .val (.ref aT), .val (.ref aT), .unset] [])) _
    refine XS.aloadN X0.here hx rfl (hb hby d3_5) rfl rfl ?_
    show Steps pg.tables ee below (s₁.setTop (mkF mm 6 #[.val (.ref aF), .val (.ref aT), .val (.ref aT), .unset] [(.ref aT)])) _
    refine XS.aloadN X0.here hx rfl (hb hby d3_6) rfl rfl ?_
    show Steps pg.tables ee below (s₁.setTop (mkF mm 7 #[.val (.ref aF), .val (.ref aT), .val (.ref aT), .unset] [(.ref aT), (.ref aT)])) _
    refine Jvm.RoadKit.acmp (g := (mkF mm 7 #[.val (.ref aF), .val (.ref aT), .val (.ref aT), .unset] [(.ref aT), (.ref aT)])) X0 hx rfl rfl rfl (pc0 := 7) (pc' := 10) (same := true) rfl (hb hby d3_7) rfl (decide_eq_true rfl) (by decide) (by decide) ?_
    show Steps pg.tables ee below (s₁.setTop (mkF mm 10 #[.val (.ref aF), .val (.ref aT), .val (.ref aT), .unset] [])) _
    refine XS.aloadN X0.here hx rfl (hb hby d3_10) rfl rfl ?_
    show Steps pg.tables ee below (s₁.setTop (mkF mm 11 #[.val (.ref aF), .val (.ref aT), .val (.ref aT), .unset] [(.ref aT)])) _
    refine XS.astoreN X0.here hx rfl (hb hby d3_11) rfl rfl (l' := #[.val (.ref aF), .val (.ref aT), .val (.ref aT), .val (.ref aT)]) rfl ?_
    show Steps pg.tables ee below (s₁.setTop (mkF mm 12 #[.val (.ref aF), .val (.ref aT), .val (.ref aT), .val (.ref aT)] [])) _
    refine XS.goto X0.here hx rfl (pc0 := 12) (pc' := 41) rfl (hb hby d3_12) (by decide) (by decide) ?_
    show Steps pg.tables ee below (s₁.setTop (mkF mm 41 #[.val (.ref aF), .val (.ref aT), .val (.ref aT), .val (.ref aT)] [])) _
    refine XS.aloadN X0.here hx rfl (hb hby d3_41) rfl rfl ?_
    show Steps pg.tables ee below (s₁.setTop (mkF mm 42 #[.val (.ref aF), .val (.ref aT), .val (.ref aT), .val (.ref aT)] [(.ref aT)])) _
    exact retOut X0 hx Bd.returns rfl (Or.inr (Or.inr (Or.inr (Or.inr ⟨rfl, rfl, rfl⟩)))) (hb hby d3_42) hr
  · show QrmJ_aF_aT_aT Z aT aF aI h0 n0 _ s₁.heap _
    rw [e0]
    exact ⟨rfl, N0, rfl⟩
def QrmJ_aF_aT_aF (Z : State) (aT : Addr) (aF : Addr) (aI : Addr) (h0 : Heap) (n0 : Nat) (v : Option Value) (h : Heap) (L : List Loc) : Prop := v = some (.ref aF) ∧ Fr n0 L ∧ h = h0
set_option maxRecDepth 65536 in
set_option maxHeartbeats 40000000 in
theorem rmJ_aF_aT_aF (l : Launch) (Z : State) (a0 : Array Value) (hw : ∀ d ∈ tables_1, d.before a0 Z = true) (ws : List Jvm.Cond) (aT : Addr) (aF : Addr) (aI : Addr) (h0 : Heap) (n0 : Nat) (O0 : Old Z n0 h0) (S_TRUE : Sta Z Z.heap "com/example/ladon/ladon/Truth" "TRUE" "Lcom/example/ladon/ladon/Truth;" (.ref aT)) (S_FALSE : Sta Z Z.heap "com/example/ladon/ladon/Truth" "FALSE" "Lcom/example/ladon/ladon/Truth;" (.ref aF)) (S_INDETERMINATE : Sta Z Z.heap "com/example/ladon/ladon/Truth" "INDETERMINATE" "Lcom/example/ladon/ladon/Truth;" (.ref aI)) (E_TRUE : Exa Z Z.heap aT "com/example/ladon/ladon/Truth") (E_FALSE : Exa Z Z.heap aF "com/example/ladon/ladon/Truth") (E_INDETERMINATE : Exa Z Z.heap aI "com/example/ladon/ladon/Truth") (hTF : ¬ (aT = aF)) (hTI : ¬ (aT = aI)) (hFI : ¬ (aF = aI)) :
    MetFree l (⟨"com/example/ladon/ladon/Truth", "join", "(Lcom/example/ladon/ladon/Truth;Lcom/example/ladon/ladon/Truth;)Lcom/example/ladon/ladon/Truth;"⟩ : MethodName) (head1 (Jvm.Cond.code (⟨"com/example/ladon/ladon/Truth", "join", "(Lcom/example/ladon/ladon/Truth;Lcom/example/ladon/ladon/Truth;)Lcom/example/ladon/ladon/Truth;"⟩ : MethodName) prog_39_method_5_code 4 (some (.object "com/example/ladon/ladon/Truth")) :: ws) ({ frames := 0, cells := 0, slots := 0, locals := 0 } : Room)) (fun a_ U_ => a_ = #[(.ref aF), (.ref aT), (.ref aF)] ∧ Z.Warmed39 U_.vm ∧ U_.heap = h0) (fun _ _ _ _ _ => True) (fun _ U_ o_ U'_ => ∃ v_ L_, o_ = .returned v_ ∧ QrmJ_aF_aT_aF Z aT aF aI h0 n0 v_ U'_.heap L_ ∧ FrameEnd U_ o_ U'_ L_ ({ frames := 0, cells := 0, slots := 0, locals := 0 } : Room).cells ({ frames := 0, cells := 0, slots := 0, locals := 0 } : Room).slots) := by
  refine MetFree.of_bodySF (plainFor_of_name pn_4) hisR ?_
  intro pg ee s mm args below meth cc s₁ Bd hml0 hP hK
  obtain ⟨rfl, hZ, hh⟩ := hP
  have hx := Bd.exec
  have hby := Bd.bytes
  have hml : cc.maxLocals = 4 := hml0
  have hown : s.vm.findClass "com/example/ladon/ladon/Truth" = some mm.cls := findClass_of_methodNamed Bd.named
  have hnm := (name_of_methodNamed Bd.named Bd.method).1
  have X0 : Stand pg l ee ({ frames := 0, cells := 0, slots := 0, locals := 0 } : Room) s mm #[(.ref aF), (.ref aT), (.ref aF)] below meth cc s₁ [] 0 0 := Stand.of_body Bd
  have e0 : s₁.heap = h0 := by rw [← hh, Bd.state]; rfl
  have N0 := Fr.nil n0
  have K0 : Keep h0 h0 ([] : List Addr) := Keep.refl _ _
  have pre0 : ∀ t, Steps pg.tables ee below (s₁.setTop (mkF mm 0 #[.val (.ref aF), .val (.ref aT), .val (.ref aF), .unset] [])) t → Steps pg.tables ee below (s₁.setTop (entryFrame mm #[(.ref aF), (.ref aT), (.ref aF)] 4)) t := fun t k => castTop (ef_3_31 mm aF aT aF) k
  obtain ⟨fs, hr, hrun, hended, hW, hsame⟩ := X0.leave (v := some (.ref aF)) (fun h => by rw [Bd.returns] at h; cases h)
  refine ⟨_, _, pre0 _ ?_, hrun, hended, _, _, rfl, ?_, ⟨_, rfl⟩, hW, hsame.mono (by decide) (by decide)⟩
  · show Steps pg.tables ee below (s₁.setTop (mkF mm 0 #[.val (.ref aF), .val (.ref aT), .val (.ref aF), .unset] [])) _
    refine XS.aloadN X0.here hx rfl (hb hby d3_0) rfl rfl ?_
    show Steps pg.tables ee below (s₁.setTop (mkF mm 1 #[.val (.ref aF), .val (.ref aT), .val (.ref aF), .unset] [(.ref aF)])) _
    refine XS.aloadN X0.here hx rfl (hb hby d3_1) rfl rfl ?_
    show Steps pg.tables ee below (s₁.setTop (mkF mm 2 #[.val (.ref aF), .val (.ref aT), .val (.ref aF), .unset] [(.ref aF), (.ref aF)])) _
    refine Jvm.RoadKit.acmp (g := (mkF mm 2 #[.val (.ref aF), .val (.ref aT), .val (.ref aF), .unset] [(.ref aF), (.ref aF)])) X0 hx rfl rfl rfl (pc0 := 2) (pc' := 10) (same := true) rfl (hb hby d3_2) rfl (decide_eq_true rfl) (by decide) (by decide) ?_
    show Steps pg.tables ee below (s₁.setTop (mkF mm 10 #[.val (.ref aF), .val (.ref aT), .val (.ref aF), .unset] [])) _
    refine XS.aloadN X0.here hx rfl (hb hby d3_10) rfl rfl ?_
    show Steps pg.tables ee below (s₁.setTop (mkF mm 11 #[.val (.ref aF), .val (.ref aT), .val (.ref aF), .unset] [(.ref aF)])) _
    refine XS.astoreN X0.here hx rfl (hb hby d3_11) rfl rfl (l' := #[.val (.ref aF), .val (.ref aT), .val (.ref aF), .val (.ref aF)]) rfl ?_
    show Steps pg.tables ee below (s₁.setTop (mkF mm 12 #[.val (.ref aF), .val (.ref aT), .val (.ref aF), .val (.ref aF)] [])) _
    refine XS.goto X0.here hx rfl (pc0 := 12) (pc' := 41) rfl (hb hby d3_12) (by decide) (by decide) ?_
    show Steps pg.tables ee below (s₁.setTop (mkF mm 41 #[.val (.ref aF), .val (.ref aT), .val (.ref aF), .val (.ref aF)] [])) _
    refine XS.aloadN X0.here hx rfl (hb hby d3_41) rfl rfl ?_
    show Steps pg.tables ee below (s₁.setTop (mkF mm 42 #[.val (.ref aF), .val (.ref aT), .val (.ref aF), .val (.ref aF)] [(.ref aF)])) _
    exact retOut X0 hx Bd.returns rfl (Or.inr (Or.inr (Or.inr (Or.inr ⟨rfl, rfl, rfl⟩)))) (hb hby d3_42) hr
  · show QrmJ_aF_aT_aF Z aT aF aI h0 n0 _ s₁.heap _
    rw [e0]
    exact ⟨rfl, N0, rfl⟩
def QrmJ_aF_aF_aT (Z : State) (aT : Addr) (aF : Addr) (aI : Addr) (h0 : Heap) (n0 : Nat) (v : Option Value) (h : Heap) (L : List Loc) : Prop := v = some (.ref aF) ∧ Fr n0 L ∧ h = h0
set_option maxRecDepth 65536 in
set_option maxHeartbeats 40000000 in
theorem rmJ_aF_aF_aT (l : Launch) (Z : State) (a0 : Array Value) (hw : ∀ d ∈ tables_1, d.before a0 Z = true) (ws : List Jvm.Cond) (aT : Addr) (aF : Addr) (aI : Addr) (h0 : Heap) (n0 : Nat) (O0 : Old Z n0 h0) (S_TRUE : Sta Z Z.heap "com/example/ladon/ladon/Truth" "TRUE" "Lcom/example/ladon/ladon/Truth;" (.ref aT)) (S_FALSE : Sta Z Z.heap "com/example/ladon/ladon/Truth" "FALSE" "Lcom/example/ladon/ladon/Truth;" (.ref aF)) (S_INDETERMINATE : Sta Z Z.heap "com/example/ladon/ladon/Truth" "INDETERMINATE" "Lcom/example/ladon/ladon/Truth;" (.ref aI)) (E_TRUE : Exa Z Z.heap aT "com/example/ladon/ladon/Truth") (E_FALSE : Exa Z Z.heap aF "com/example/ladon/ladon/Truth") (E_INDETERMINATE : Exa Z Z.heap aI "com/example/ladon/ladon/Truth") (hTF : ¬ (aT = aF)) (hTI : ¬ (aT = aI)) (hFI : ¬ (aF = aI)) :
    MetFree l (⟨"com/example/ladon/ladon/Truth", "join", "(Lcom/example/ladon/ladon/Truth;Lcom/example/ladon/ladon/Truth;)Lcom/example/ladon/ladon/Truth;"⟩ : MethodName) (head1 (Jvm.Cond.code (⟨"com/example/ladon/ladon/Truth", "join", "(Lcom/example/ladon/ladon/Truth;Lcom/example/ladon/ladon/Truth;)Lcom/example/ladon/ladon/Truth;"⟩ : MethodName) prog_39_method_5_code 4 (some (.object "com/example/ladon/ladon/Truth")) :: ws) ({ frames := 1, cells := 0, slots := 0, locals := 13 } : Room)) (fun a_ U_ => a_ = #[(.ref aF), (.ref aF), (.ref aT)] ∧ Z.Warmed39 U_.vm ∧ U_.heap = h0) (fun _ _ _ _ _ => True) (fun _ U_ o_ U'_ => ∃ v_ L_, o_ = .returned v_ ∧ QrmJ_aF_aF_aT Z aT aF aI h0 n0 v_ U'_.heap L_ ∧ FrameEnd U_ o_ U'_ L_ ({ frames := 1, cells := 0, slots := 0, locals := 13 } : Room).cells ({ frames := 1, cells := 0, slots := 0, locals := 13 } : Room).slots) := by
  refine MetFree.of_bodySF (plainFor_of_name pn_4) hisR ?_
  intro pg ee s mm args below meth cc s₁ Bd hml0 hP hK
  obtain ⟨rfl, hZ, hh⟩ := hP
  have hx := Bd.exec
  have hby := Bd.bytes
  have hml : cc.maxLocals = 4 := hml0
  have hown : s.vm.findClass "com/example/ladon/ladon/Truth" = some mm.cls := findClass_of_methodNamed Bd.named
  have hnm := (name_of_methodNamed Bd.named Bd.method).1
  have X0 : Stand pg l ee ({ frames := 1, cells := 0, slots := 0, locals := 13 } : Room) s mm #[(.ref aF), (.ref aF), (.ref aT)] below meth cc s₁ [] 0 0 := Stand.of_body Bd
  have e0 : s₁.heap = h0 := by rw [← hh, Bd.state]; rfl
  have N0 := Fr.nil n0
  have K0 : Keep h0 h0 ([] : List Addr) := Keep.refl _ _
  have pre0 : ∀ t, Steps pg.tables ee below (s₁.setTop (mkF mm 0 #[.val (.ref aF), .val (.ref aF), .val (.ref aT), .unset] [])) t → Steps pg.tables ee below (s₁.setTop (entryFrame mm #[(.ref aF), (.ref aF), (.ref aT)] 4)) t := fun t k => castTop (ef_3_31 mm aF aF aT) k
  obtain ⟨T1, X1, e1, st1⟩ := getS2 X0 hx hZ hown (host := "") (Or.inl (hw _ (List.mem_of_getElem? (i := 20) rfl))) Via.refl e0 (S_INDETERMINATE.ext O0.2) (g := (mkF mm 16 #[.val (.ref aF), .val (.ref aF), .val (.ref aT), .unset] [(.ref aF)])) rfl (hb hby d3_16)
  obtain ⟨T2, X2, e2, st2⟩ := getS2 X1 hx hZ hown (host := "") (Or.inl (hw _ (List.mem_of_getElem? (i := 20) rfl))) Via.refl e1 (S_INDETERMINATE.ext O0.2) (g := (mkF mm 23 #[.val (.ref aF), .val (.ref aF), .val (.ref aT), .unset] [(.ref aF)])) rfl (hb hby d3_23)
  obtain ⟨cq3, kq3, q3a, q3b, q3c⟩ := isOf hZ e2 (E_TRUE.ext O0.2)
  obtain ⟨_, _, ⟨T3, L3, k3, n3⟩, -, X3, ⟨Lc3, hQ3, l3, y3, z3⟩, st3⟩ := X2.virtualBack hx (y := (⟨"com/example/ladon/ladon/Truth", "not", "()Lcom/example/ladon/ladon/Truth;"⟩ : MethodName)) (z := (⟨"com/example/ladon/ladon/Truth", "not", "()Lcom/example/ladon/ladon/Truth;"⟩ : MethodName)) hown (mvT hZ (hw _ (List.mem_of_getElem? (i := 22) rfl))) (mvT hZ (hw _ (List.mem_of_getElem? (i := 10) rfl))) (notFace_of_selects (args := #[]) (mvT hZ (hw _ (List.mem_of_getElem? (i := 12) rfl)))) (mvT hZ (hw _ (List.mem_of_getElem? (i := 12) rfl))) (mvT hZ (hw _ (List.mem_of_getElem? (i := 11) rfl))) (by decide) (backOf (W := 0) (rmNot_aT l Z a0 hw [] aT aF aI h0 n0 O0 S_TRUE S_FALSE S_INDETERMINATE E_TRUE E_FALSE E_INDETERMINATE hTF hTI hFI) hZ (hw _ (List.mem_of_getElem? (i := 13) rfl)) (hw _ (List.mem_of_getElem? (i := 2) rfl)) (by decide) (by decide)) q3a q3c (g := (mkF mm 37 #[.val (.ref aF), .val (.ref aF), .val (.ref aT), .unset] [(.ref aT)])) rfl (by rw [hml]; rfl) (Steps.refl _) (argsL := []) (rest := []) (lenOf pd_43 rfl) rfl (by show 2 * 0 + _ ≤ _; exact Nat.le_of_eq rfl) (hb hby d3_37) (fun _ _ => ⟨rfl, e2, (by decide : 0 + 0 ≤ _), (by decide : 0 + 0 ≤ _)⟩)
  dsimp only [Pt.U, Pt.locs, Pt.cells, Pt.slots] at X3 l3 y3 z3 st3 hQ3
  subst l3 y3 z3
  obtain ⟨rfl, N3q, e3⟩ := hQ3
  have N3 := Fr.app N0 N3q
  obtain ⟨fs, hr, hrun, hended, hW, hsame⟩ := X3.leave (v := some (.ref aF)) (fun h => by rw [Bd.returns] at h; cases h)
  refine ⟨_, _, pre0 _ ?_, hrun, hended, _, _, rfl, ?_, ⟨_, rfl⟩, hW, hsame.mono (by decide) (by decide)⟩
  · show Steps pg.tables ee below (s₁.setTop (mkF mm 0 #[.val (.ref aF), .val (.ref aF), .val (.ref aT), .unset] [])) _
    refine XS.aloadN X0.here hx rfl (hb hby d3_0) rfl rfl ?_
    show Steps pg.tables ee below (s₁.setTop (mkF mm 1 #[.val (.ref aF), .val (.ref aF), .val (.ref aT), .unset] [(.ref aF)])) _
    refine XS.aloadN X0.here hx rfl (hb hby d3_1) rfl rfl ?_
    show Steps pg.tables ee below (s₁.setTop (mkF mm 2 #[.val (.ref aF), .val (.ref aF), .val (.ref aT), .unset] [(.ref aT), (.ref aF)])) _
    refine Jvm.RoadKit.acmp (g := (mkF mm 2 #[.val (.ref aF), .val (.ref aF), .val (.ref aT), .unset] [(.ref aT), (.ref aF)])) X0 hx rfl rfl rfl (pc0 := 2) (pc' := 5) (same := false) rfl (hb hby d3_2) rfl (decide_eq_false fun q => hTF (Value.ref.inj q).symm) (by decide) (by decide) ?_
    show Steps pg.tables ee below (s₁.setTop (mkF mm 5 #[.val (.ref aF), .val (.ref aF), .val (.ref aT), .unset] [])) _
    refine XS.aloadN X0.here hx rfl (hb hby d3_5) rfl rfl ?_
    show Steps pg.tables ee below (s₁.setTop (mkF mm 6 #[.val (.ref aF), .val (.ref aF), .val (.ref aT), .unset] [(.ref aF)])) _
    refine XS.aloadN X0.here hx rfl (hb hby d3_6) rfl rfl ?_
    show Steps pg.tables ee below (s₁.setTop (mkF mm 7 #[.val (.ref aF), .val (.ref aF), .val (.ref aT), .unset] [(.ref aT), (.ref aF)])) _
    refine Jvm.RoadKit.acmp (g := (mkF mm 7 #[.val (.ref aF), .val (.ref aF), .val (.ref aT), .unset] [(.ref aT), (.ref aF)])) X0 hx rfl rfl rfl (pc0 := 7) (pc' := 15) (same := false) rfl (hb hby d3_7) rfl (decide_eq_false fun q => hTF (Value.ref.inj q).symm) (by decide) (by decide) ?_
    show Steps pg.tables ee below (s₁.setTop (mkF mm 15 #[.val (.ref aF), .val (.ref aF), .val (.ref aT), .unset] [])) _
    refine XS.aloadN X0.here hx rfl (hb hby d3_15) rfl rfl ?_
    show Steps pg.tables ee below (s₁.setTop (mkF mm 16 #[.val (.ref aF), .val (.ref aF), .val (.ref aT), .unset] [(.ref aF)])) _
    refine st1 _ ?_
    show Steps pg.tables ee below (T1.setTop (mkF mm 19 #[.val (.ref aF), .val (.ref aF), .val (.ref aT), .unset] [(.ref aI), (.ref aF)])) _
    refine Jvm.RoadKit.acmp (g := (mkF mm 19 #[.val (.ref aF), .val (.ref aF), .val (.ref aT), .unset] [(.ref aI), (.ref aF)])) X1 hx rfl rfl rfl (pc0 := 19) (pc' := 22) (same := false) rfl (hb hby d3_19) rfl (decide_eq_false fun q => hFI (Value.ref.inj q)) (by decide) (by decide) ?_
    show Steps pg.tables ee below (T1.setTop (mkF mm 22 #[.val (.ref aF), .val (.ref aF), .val (.ref aT), .unset] [])) _
    refine XS.aloadN X1.here hx rfl (hb hby d3_22) rfl rfl ?_
    show Steps pg.tables ee below (T1.setTop (mkF mm 23 #[.val (.ref aF), .val (.ref aF), .val (.ref aT), .unset] [(.ref aF)])) _
    refine st2 _ ?_
    show Steps pg.tables ee below (T2.setTop (mkF mm 26 #[.val (.ref aF), .val (.ref aF), .val (.ref aT), .unset] [(.ref aI), (.ref aF)])) _
    refine Jvm.RoadKit.acmp (g := (mkF mm 26 #[.val (.ref aF), .val (.ref aF), .val (.ref aT), .unset] [(.ref aI), (.ref aF)])) X2 hx rfl rfl rfl (pc0 := 26) (pc' := 36) (same := false) rfl (hb hby d3_26) rfl (decide_eq_false fun q => hFI (Value.ref.inj q)) (by decide) (by decide) ?_
    show Steps pg.tables ee below (T2.setTop (mkF mm 36 #[.val (.ref aF), .val (.ref aF), .val (.ref aT), .unset] [])) _
    refine XS.aloadN X2.here hx rfl (hb hby d3_36) rfl rfl ?_
    show Steps pg.tables ee below (T2.setTop (mkF mm 37 #[.val (.ref aF), .val (.ref aF), .val (.ref aT), .unset] [(.ref aT)])) _
    refine st3.trans ?_
    show Steps pg.tables ee below (T3.setTop (mkF mm 40 #[.val (.ref aF), .val (.ref aF), .val (.ref aT), .unset] [(.ref aF)])) _
    refine XS.astoreN X3.here hx rfl (hb hby d3_40) rfl rfl (l' := #[.val (.ref aF), .val (.ref aF), .val (.ref aT), .val (.ref aF)]) rfl ?_
    show Steps pg.tables ee below (T3.setTop (mkF mm 41 #[.val (.ref aF), .val (.ref aF), .val (.ref aT), .val (.ref aF)] [])) _
    refine XS.aloadN X3.here hx rfl (hb hby d3_41) rfl rfl ?_
    show Steps pg.tables ee below (T3.setTop (mkF mm 42 #[.val (.ref aF), .val (.ref aF), .val (.ref aT), .val (.ref aF)] [(.ref aF)])) _
    exact retOut X3 hx Bd.returns rfl (Or.inr (Or.inr (Or.inr (Or.inr ⟨rfl, rfl, rfl⟩)))) (hb hby d3_42) hr
  · show QrmJ_aF_aF_aT Z aT aF aI h0 n0 _ T3.heap _
    rw [e3]
    exact ⟨rfl, N3, rfl⟩
def QrmJ_aF_aF_aF (Z : State) (aT : Addr) (aF : Addr) (aI : Addr) (h0 : Heap) (n0 : Nat) (v : Option Value) (h : Heap) (L : List Loc) : Prop := v = some (.ref aF) ∧ Fr n0 L ∧ h = h0
set_option maxRecDepth 65536 in
set_option maxHeartbeats 40000000 in
theorem rmJ_aF_aF_aF (l : Launch) (Z : State) (a0 : Array Value) (hw : ∀ d ∈ tables_1, d.before a0 Z = true) (ws : List Jvm.Cond) (aT : Addr) (aF : Addr) (aI : Addr) (h0 : Heap) (n0 : Nat) (O0 : Old Z n0 h0) (S_TRUE : Sta Z Z.heap "com/example/ladon/ladon/Truth" "TRUE" "Lcom/example/ladon/ladon/Truth;" (.ref aT)) (S_FALSE : Sta Z Z.heap "com/example/ladon/ladon/Truth" "FALSE" "Lcom/example/ladon/ladon/Truth;" (.ref aF)) (S_INDETERMINATE : Sta Z Z.heap "com/example/ladon/ladon/Truth" "INDETERMINATE" "Lcom/example/ladon/ladon/Truth;" (.ref aI)) (E_TRUE : Exa Z Z.heap aT "com/example/ladon/ladon/Truth") (E_FALSE : Exa Z Z.heap aF "com/example/ladon/ladon/Truth") (E_INDETERMINATE : Exa Z Z.heap aI "com/example/ladon/ladon/Truth") (hTF : ¬ (aT = aF)) (hTI : ¬ (aT = aI)) (hFI : ¬ (aF = aI)) :
    MetFree l (⟨"com/example/ladon/ladon/Truth", "join", "(Lcom/example/ladon/ladon/Truth;Lcom/example/ladon/ladon/Truth;)Lcom/example/ladon/ladon/Truth;"⟩ : MethodName) (head1 (Jvm.Cond.code (⟨"com/example/ladon/ladon/Truth", "join", "(Lcom/example/ladon/ladon/Truth;Lcom/example/ladon/ladon/Truth;)Lcom/example/ladon/ladon/Truth;"⟩ : MethodName) prog_39_method_5_code 4 (some (.object "com/example/ladon/ladon/Truth")) :: ws) ({ frames := 0, cells := 0, slots := 0, locals := 0 } : Room)) (fun a_ U_ => a_ = #[(.ref aF), (.ref aF), (.ref aF)] ∧ Z.Warmed39 U_.vm ∧ U_.heap = h0) (fun _ _ _ _ _ => True) (fun _ U_ o_ U'_ => ∃ v_ L_, o_ = .returned v_ ∧ QrmJ_aF_aF_aF Z aT aF aI h0 n0 v_ U'_.heap L_ ∧ FrameEnd U_ o_ U'_ L_ ({ frames := 0, cells := 0, slots := 0, locals := 0 } : Room).cells ({ frames := 0, cells := 0, slots := 0, locals := 0 } : Room).slots) := by
  refine MetFree.of_bodySF (plainFor_of_name pn_4) hisR ?_
  intro pg ee s mm args below meth cc s₁ Bd hml0 hP hK
  obtain ⟨rfl, hZ, hh⟩ := hP
  have hx := Bd.exec
  have hby := Bd.bytes
  have hml : cc.maxLocals = 4 := hml0
  have hown : s.vm.findClass "com/example/ladon/ladon/Truth" = some mm.cls := findClass_of_methodNamed Bd.named
  have hnm := (name_of_methodNamed Bd.named Bd.method).1
  have X0 : Stand pg l ee ({ frames := 0, cells := 0, slots := 0, locals := 0 } : Room) s mm #[(.ref aF), (.ref aF), (.ref aF)] below meth cc s₁ [] 0 0 := Stand.of_body Bd
  have e0 : s₁.heap = h0 := by rw [← hh, Bd.state]; rfl
  have N0 := Fr.nil n0
  have K0 : Keep h0 h0 ([] : List Addr) := Keep.refl _ _
  have pre0 : ∀ t, Steps pg.tables ee below (s₁.setTop (mkF mm 0 #[.val (.ref aF), .val (.ref aF), .val (.ref aF), .unset] [])) t → Steps pg.tables ee below (s₁.setTop (entryFrame mm #[(.ref aF), (.ref aF), (.ref aF)] 4)) t := fun t k => castTop (ef_3_31 mm aF aF aF) k
  obtain ⟨fs, hr, hrun, hended, hW, hsame⟩ := X0.leave (v := some (.ref aF)) (fun h => by rw [Bd.returns] at h; cases h)
  refine ⟨_, _, pre0 _ ?_, hrun, hended, _, _, rfl, ?_, ⟨_, rfl⟩, hW, hsame.mono (by decide) (by decide)⟩
  · show Steps pg.tables ee below (s₁.setTop (mkF mm 0 #[.val (.ref aF), .val (.ref aF), .val (.ref aF), .unset] [])) _
    refine XS.aloadN X0.here hx rfl (hb hby d3_0) rfl rfl ?_
    show Steps pg.tables ee below (s₁.setTop (mkF mm 1 #[.val (.ref aF), .val (.ref aF), .val (.ref aF), .unset] [(.ref aF)])) _
    refine XS.aloadN X0.here hx rfl (hb hby d3_1) rfl rfl ?_
    show Steps pg.tables ee below (s₁.setTop (mkF mm 2 #[.val (.ref aF), .val (.ref aF), .val (.ref aF), .unset] [(.ref aF), (.ref aF)])) _
    refine Jvm.RoadKit.acmp (g := (mkF mm 2 #[.val (.ref aF), .val (.ref aF), .val (.ref aF), .unset] [(.ref aF), (.ref aF)])) X0 hx rfl rfl rfl (pc0 := 2) (pc' := 10) (same := true) rfl (hb hby d3_2) rfl (decide_eq_true rfl) (by decide) (by decide) ?_
    show Steps pg.tables ee below (s₁.setTop (mkF mm 10 #[.val (.ref aF), .val (.ref aF), .val (.ref aF), .unset] [])) _
    refine XS.aloadN X0.here hx rfl (hb hby d3_10) rfl rfl ?_
    show Steps pg.tables ee below (s₁.setTop (mkF mm 11 #[.val (.ref aF), .val (.ref aF), .val (.ref aF), .unset] [(.ref aF)])) _
    refine XS.astoreN X0.here hx rfl (hb hby d3_11) rfl rfl (l' := #[.val (.ref aF), .val (.ref aF), .val (.ref aF), .val (.ref aF)]) rfl ?_
    show Steps pg.tables ee below (s₁.setTop (mkF mm 12 #[.val (.ref aF), .val (.ref aF), .val (.ref aF), .val (.ref aF)] [])) _
    refine XS.goto X0.here hx rfl (pc0 := 12) (pc' := 41) rfl (hb hby d3_12) (by decide) (by decide) ?_
    show Steps pg.tables ee below (s₁.setTop (mkF mm 41 #[.val (.ref aF), .val (.ref aF), .val (.ref aF), .val (.ref aF)] [])) _
    refine XS.aloadN X0.here hx rfl (hb hby d3_41) rfl rfl ?_
    show Steps pg.tables ee below (s₁.setTop (mkF mm 42 #[.val (.ref aF), .val (.ref aF), .val (.ref aF), .val (.ref aF)] [(.ref aF)])) _
    exact retOut X0 hx Bd.returns rfl (Or.inr (Or.inr (Or.inr (Or.inr ⟨rfl, rfl, rfl⟩)))) (hb hby d3_42) hr
  · show QrmJ_aF_aF_aF Z aT aF aI h0 n0 _ s₁.heap _
    rw [e0]
    exact ⟨rfl, N0, rfl⟩
theorem pd_45 : parseMethodDescriptor "(Z)Lcom/example/ladon/ladon/Truth;" = some ⟨[.boolean], some (.object "com/example/ladon/ladon/Truth")⟩ := by decide +kernel
theorem pd_46 : parseMethodDescriptor "(Lcom/example/ladon/ladon/Truth;Lcom/example/ladon/ladon/Truth;)Lcom/example/ladon/ladon/Truth;" = some ⟨[(.object "com/example/ladon/ladon/Truth"), (.object "com/example/ladon/ladon/Truth")], some (.object "com/example/ladon/ladon/Truth")⟩ := by decide +kernel
theorem pn_47 : plainName "com/example/ladon/ladon/TruthOfPinLaw" = true := by first | (simp [plainName, overriddenIn]; done) | decide +kernel
theorem ef_0_48 (m : MethodId) (x0 : Int32) (x1 : Int32) : entryFrame m #[(.int x0), (.int x1)] maxLocals = mkF m 0 #[.val (.int x0), .val (.int x1), .unset, .unset, .unset, .unset, .unset, .unset, .unset, .unset] [] := by first | (simp [entryFrame, mkF, argsToLocals, Value.category, maxLocals]; done) | rfl
def Qrm0 (Z : State) (p0 : Int32) (p1 : Int32) (aT : Addr) (aF : Addr) (aI : Addr) (h0 : Heap) (n0 : Nat) (v : Option Value) (h : Heap) (L : List Loc) : Prop := v = some (.int (1 : Int32)) ∧ Fr n0 L
set_option maxRecDepth 65536 in
set_option maxHeartbeats 40000000 in
theorem rm0 (l : Launch) (Z : State) (a0 : Array Value) (hw : ∀ d ∈ tables_1, d.before a0 Z = true) (ws : List Jvm.Cond) (p0 : Int32) (p1 : Int32) (aT : Addr) (aF : Addr) (aI : Addr) (h0 : Heap) (n0 : Nat) (O0 : Old Z n0 h0) (S_TRUE : Sta Z Z.heap "com/example/ladon/ladon/Truth" "TRUE" "Lcom/example/ladon/ladon/Truth;" (.ref aT)) (S_FALSE : Sta Z Z.heap "com/example/ladon/ladon/Truth" "FALSE" "Lcom/example/ladon/ladon/Truth;" (.ref aF)) (S_INDETERMINATE : Sta Z Z.heap "com/example/ladon/ladon/Truth" "INDETERMINATE" "Lcom/example/ladon/ladon/Truth;" (.ref aI)) (E_TRUE : Exa Z Z.heap aT "com/example/ladon/ladon/Truth") (E_FALSE : Exa Z Z.heap aF "com/example/ladon/ladon/Truth") (E_INDETERMINATE : Exa Z Z.heap aI "com/example/ladon/ladon/Truth") (hTF : ¬ (aT = aF)) (hTI : ¬ (aT = aI)) (hFI : ¬ (aF = aI)) :
    MetFree l x (head1 (Jvm.Cond.code x code maxLocals ret :: ws) room_1) (fun a_ U_ => a_ = #[(.int p0), (.int p1)] ∧ Z.Warmed39 U_.vm ∧ U_.heap = h0) (fun _ _ _ _ _ => True) (fun _ U_ o_ U'_ => ∃ v_ L_, o_ = .returned v_ ∧ Qrm0 Z p0 p1 aT aF aI h0 n0 v_ U'_.heap L_ ∧ FrameEnd U_ o_ U'_ L_ 0 0) := by
  refine MetFree.of_bodySF (plainFor_of_name pn_47) hisR ?_
  intro pg ee s mm args below meth cc s₁ Bd hml0 hP hK
  obtain ⟨rfl, hZ, hh⟩ := hP
  have hx := Bd.exec
  have hby := Bd.bytes
  have hml : cc.maxLocals = 10 := hml0
  have hown : s.vm.findClass "com/example/ladon/ladon/TruthOfPinLaw" = some mm.cls := findClass_of_methodNamed Bd.named
  have hnm := (name_of_methodNamed Bd.named Bd.method).1
  have X0 : Stand pg l ee room_1 s mm #[(.int p0), (.int p1)] below meth cc s₁ [] 0 0 := Stand.of_body Bd
  have e0 : s₁.heap = h0 := by rw [← hh, Bd.state]; rfl
  have N0 := Fr.nil n0
  have K0 : Keep h0 h0 ([] : List Addr) := Keep.refl _ _
  have pre0 : ∀ t, Steps pg.tables ee below (s₁.setTop (mkF mm 0 #[.val (.int p0), .val (.int p1), .unset, .unset, .unset, .unset, .unset, .unset, .unset, .unset] [])) t → Steps pg.tables ee below (s₁.setTop (entryFrame mm #[(.int p0), (.int p1)] maxLocals)) t := fun t k => castTop (ef_0_48 mm p0 p1) k
  have pre1 : ∀ t, Steps pg.tables ee below (s₁.setTop (mkF mm 3 #[.val (.int p0), .val (.int p1), .unset, .unset, .unset, .unset, .unset, .unset, .unset, .unset] [(.int (p0 &&& (1 : Int32)))])) t → Steps pg.tables ee below (s₁.setTop (entryFrame mm #[(.int p0), (.int p1)] maxLocals)) t := fun t k => pre0 t (by
      show Steps pg.tables ee below (s₁.setTop (mkF mm 0 #[.val (.int p0), .val (.int p1), .unset, .unset, .unset, .unset, .unset, .unset, .unset, .unset] [])) _
      refine XS.iloadN X0.here hx rfl (hb hby at_0) rfl ?_
      show Steps pg.tables ee below (s₁.setTop (mkF mm 1 #[.val (.int p0), .val (.int p1), .unset, .unset, .unset, .unset, .unset, .unset, .unset, .unset] [(.int p0)])) _
      refine XS.iconst X0.here hx rfl (hb hby at_1) ?_
      show Steps pg.tables ee below (s₁.setTop (mkF mm 2 #[.val (.int p0), .val (.int p1), .unset, .unset, .unset, .unset, .unset, .unset, .unset, .unset] [(.int (1 : Int32)), (.int p0)])) _
      refine XS.iand X0.here hx rfl (hb hby at_2) rfl ?_
      exact k)
  by_cases hc2 : (p0 &&& (1 : Int32)) = (0 : Int32)
  · have pre3 : ∀ t, Steps pg.tables ee below (s₁.setTop (mkF mm 15 #[.val (.int p0), .val (.int p1), .val (.int (0 : Int32)), .unset, .unset, .unset, .unset, .unset, .unset, .unset] [(.int (p1 &&& (1 : Int32)))])) t → Steps pg.tables ee below (s₁.setTop (entryFrame mm #[(.int p0), (.int p1)] maxLocals)) t := fun t k => pre1 t (by
        show Steps pg.tables ee below (s₁.setTop (mkF mm 3 #[.val (.int p0), .val (.int p1), .unset, .unset, .unset, .unset, .unset, .unset, .unset, .unset] [(.int (p0 &&& (1 : Int32)))])) _
        refine XS.ifYes X0.here hx rfl (pc0 := 3) (pc' := 10) rfl (hb hby at_3) rfl ((if0 _ _).trans (teq hc2).1) (by decide) (by decide) ?_
        show Steps pg.tables ee below (s₁.setTop (mkF mm 10 #[.val (.int p0), .val (.int p1), .unset, .unset, .unset, .unset, .unset, .unset, .unset, .unset] [])) _
        refine XS.iconst X0.here hx rfl (hb hby at_10) ?_
        show Steps pg.tables ee below (s₁.setTop (mkF mm 11 #[.val (.int p0), .val (.int p1), .unset, .unset, .unset, .unset, .unset, .unset, .unset, .unset] [(.int (0 : Int32))])) _
        refine XS.istoreN X0.here hx rfl (hb hby at_11) rfl (l' := #[.val (.int p0), .val (.int p1), .val (.int (0 : Int32)), .unset, .unset, .unset, .unset, .unset, .unset, .unset]) rfl ?_
        show Steps pg.tables ee below (s₁.setTop (mkF mm 12 #[.val (.int p0), .val (.int p1), .val (.int (0 : Int32)), .unset, .unset, .unset, .unset, .unset, .unset, .unset] [])) _
        refine XS.iloadN X0.here hx rfl (hb hby at_12) rfl ?_
        show Steps pg.tables ee below (s₁.setTop (mkF mm 13 #[.val (.int p0), .val (.int p1), .val (.int (0 : Int32)), .unset, .unset, .unset, .unset, .unset, .unset, .unset] [(.int p1)])) _
        refine XS.iconst X0.here hx rfl (hb hby at_13) ?_
        show Steps pg.tables ee below (s₁.setTop (mkF mm 14 #[.val (.int p0), .val (.int p1), .val (.int (0 : Int32)), .unset, .unset, .unset, .unset, .unset, .unset, .unset] [(.int (1 : Int32)), (.int p1)])) _
        refine XS.iand X0.here hx rfl (hb hby at_14) rfl ?_
        exact k)
    by_cases hc4 : (p1 &&& (1 : Int32)) = (0 : Int32)
    · obtain ⟨_, _, ⟨T5, L5, k5, n5⟩, -, X5, ⟨Lc5, hQ5, l5, y5, z5⟩, st5⟩ := Jvm.LawKit.callS X0 hx (y := (⟨"com/example/ladon/ladon/Truth", "of", "(Z)Lcom/example/ladon/ladon/Truth;"⟩ : MethodName)) hown (mvT hZ (hw _ (List.mem_of_getElem? (i := 0) rfl))) (mvT hZ (hw _ (List.mem_of_getElem? (i := 1) rfl))) (mvT hZ (hw _ (List.mem_of_getElem? (i := 2) rfl))) (mvT hZ (hw _ (List.mem_of_getElem? (i := 3) rfl))) (by decide) (backOf (W := 0) (rmOf0 l Z a0 hw [] aT aF aI h0 n0 O0 S_TRUE S_FALSE S_INDETERMINATE E_TRUE E_FALSE E_INDETERMINATE hTF hTI hFI) hZ (hw _ (List.mem_of_getElem? (i := 3) rfl)) (hw _ (List.mem_of_getElem? (i := 2) rfl)) (by decide) (by decide)) (g := (mkF mm 25 #[.val (.int p0), .val (.int p1), .val (.int (0 : Int32)), .val (.int (0 : Int32)), .unset, .unset, .unset, .unset, .unset, .unset] [(.int (0 : Int32))])) rfl (by rw [hml]; rfl) (argsL := [(.int (0 : Int32))]) (rest := []) (lenOf pd_45 rfl) rfl (by show 2 * 0 + _ ≤ _; exact Nat.le_of_eq rfl) (hb hby at_25) (fun _ _ => ⟨rfl, e0, (by decide : 0 + 0 ≤ _), (by decide : 0 + 0 ≤ _)⟩)
      dsimp only [Pt.U, Pt.locs, Pt.cells, Pt.slots] at X5 l5 y5 z5 st5 hQ5
      subst l5 y5 z5
      obtain ⟨rfl, N5q, e5⟩ := hQ5
      have N5 := Fr.app N0 N5q
      obtain ⟨_, _, ⟨T6, L6, k6, n6⟩, -, X6, ⟨Lc6, hQ6, l6, y6, z6⟩, st6⟩ := Jvm.LawKit.callS X5 hx (y := (⟨"com/example/ladon/ladon/Truth", "of", "(Z)Lcom/example/ladon/ladon/Truth;"⟩ : MethodName)) hown (mvT hZ (hw _ (List.mem_of_getElem? (i := 0) rfl))) (mvT hZ (hw _ (List.mem_of_getElem? (i := 1) rfl))) (mvT hZ (hw _ (List.mem_of_getElem? (i := 2) rfl))) (mvT hZ (hw _ (List.mem_of_getElem? (i := 3) rfl))) (by decide) (backOf (W := 0) (rmOf0 l Z a0 hw [] aT aF aI h0 n0 O0 S_TRUE S_FALSE S_INDETERMINATE E_TRUE E_FALSE E_INDETERMINATE hTF hTI hFI) hZ (hw _ (List.mem_of_getElem? (i := 3) rfl)) (hw _ (List.mem_of_getElem? (i := 2) rfl)) (by decide) (by decide)) (g := (mkF mm 31 #[.val (.int p0), .val (.int p1), .val (.int (0 : Int32)), .val (.int (0 : Int32)), .val (.ref aF), .unset, .unset, .unset, .unset, .unset] [(.int (0 : Int32))])) rfl (by rw [hml]; rfl) (argsL := [(.int (0 : Int32))]) (rest := []) (lenOf pd_45 rfl) rfl (by show 2 * 0 + _ ≤ _; exact Nat.le_of_eq rfl) (hb hby at_31) (fun _ _ => ⟨rfl, e5, (by decide : 0 + 0 ≤ _), (by decide : 0 + 0 ≤ _)⟩)
      dsimp only [Pt.U, Pt.locs, Pt.cells, Pt.slots] at X6 l6 y6 z6 st6 hQ6
      subst l6 y6 z6
      obtain ⟨rfl, N6q, e6⟩ := hQ6
      have N6 := Fr.app N5 N6q
      obtain ⟨T7, X7, e7, st7⟩ := getS2 X6 hx hZ hown (host := "") (Or.inl (hw _ (List.mem_of_getElem? (i := 8) rfl))) Via.refl e6 (S_FALSE.ext O0.2) (g := (mkF mm 58 #[.val (.int p0), .val (.int p1), .val (.int (0 : Int32)), .val (.int (0 : Int32)), .val (.ref aF), .val (.ref aF), .unset, .unset, .unset, .unset] [(.ref aF)])) rfl (hb hby at_58)
      obtain ⟨_, _, ⟨T8, L8, k8, n8⟩, -, X8, ⟨Lc8, hQ8, l8, y8, z8⟩, st8⟩ := Jvm.LawKit.callS X7 hx (y := (⟨"com/example/ladon/ladon/Truth", "of", "(Z)Lcom/example/ladon/ladon/Truth;"⟩ : MethodName)) hown (mvT hZ (hw _ (List.mem_of_getElem? (i := 0) rfl))) (mvT hZ (hw _ (List.mem_of_getElem? (i := 1) rfl))) (mvT hZ (hw _ (List.mem_of_getElem? (i := 2) rfl))) (mvT hZ (hw _ (List.mem_of_getElem? (i := 3) rfl))) (by decide) (backOf (W := 0) (rmOf1 l Z a0 hw [] aT aF aI h0 n0 O0 S_TRUE S_FALSE S_INDETERMINATE E_TRUE E_FALSE E_INDETERMINATE hTF hTI hFI) hZ (hw _ (List.mem_of_getElem? (i := 3) rfl)) (hw _ (List.mem_of_getElem? (i := 2) rfl)) (by decide) (by decide)) (g := (mkF mm 80 #[.val (.int p0), .val (.int p1), .val (.int (0 : Int32)), .val (.int (0 : Int32)), .val (.ref aF), .val (.ref aF), .val (.int (1 : Int32)), .unset, .unset, .unset] [(.int (1 : Int32))])) rfl (by rw [hml]; rfl) (argsL := [(.int (1 : Int32))]) (rest := []) (lenOf pd_45 rfl) rfl (by show 2 * 0 + _ ≤ _; exact Nat.le_of_eq rfl) (hb hby at_80) (fun _ _ => ⟨rfl, e7, (by decide : 0 + 0 ≤ _), (by decide : 0 + 0 ≤ _)⟩)
      dsimp only [Pt.U, Pt.locs, Pt.cells, Pt.slots] at X8 l8 y8 z8 st8 hQ8
      subst l8 y8 z8
      obtain ⟨rfl, N8q, e8⟩ := hQ8
      have N8 := Fr.app N6 N8q
      obtain ⟨cq9, kq9, q9a, q9b, q9c⟩ := isOf hZ e8 (E_FALSE.ext O0.2)
      obtain ⟨_, _, ⟨T9, L9, k9, n9⟩, -, X9, ⟨Lc9, hQ9, l9, y9, z9⟩, st9⟩ := X8.virtualBack hx (y := (⟨"com/example/ladon/ladon/Truth", "not", "()Lcom/example/ladon/ladon/Truth;"⟩ : MethodName)) (z := (⟨"com/example/ladon/ladon/Truth", "not", "()Lcom/example/ladon/ladon/Truth;"⟩ : MethodName)) hown (mvT hZ (hw _ (List.mem_of_getElem? (i := 9) rfl))) (mvT hZ (hw _ (List.mem_of_getElem? (i := 10) rfl))) (notFace_of_selects (args := #[]) (mvT hZ (hw _ (List.mem_of_getElem? (i := 12) rfl)))) (mvT hZ (hw _ (List.mem_of_getElem? (i := 12) rfl))) (mvT hZ (hw _ (List.mem_of_getElem? (i := 11) rfl))) (by decide) (backOf (W := 1) (rmNot_aF l Z a0 hw [] aT aF aI h0 n0 O0 S_TRUE S_FALSE S_INDETERMINATE E_TRUE E_FALSE E_INDETERMINATE hTF hTI hFI) hZ (hw _ (List.mem_of_getElem? (i := 13) rfl)) (hw _ (List.mem_of_getElem? (i := 2) rfl)) (by decide) (by decide)) q9a q9c (g := (mkF mm 85 #[.val (.int p0), .val (.int p1), .val (.int (0 : Int32)), .val (.int (0 : Int32)), .val (.ref aF), .val (.ref aF), .val (.int (1 : Int32)), .unset, .unset, .unset] [(.ref aF), (.ref aT)])) rfl (by rw [hml]; rfl) (Steps.refl _) (argsL := []) (rest := [(.ref aT)]) (lenOf pd_43 rfl) rfl (by show 2 * 0 + _ ≤ _; exact Nat.le_of_eq rfl) (hb hby at_85) (fun _ _ => ⟨rfl, e8, (by decide : 0 + 0 ≤ _), (by decide : 0 + 0 ≤ _)⟩)
      dsimp only [Pt.U, Pt.locs, Pt.cells, Pt.slots] at X9 l9 y9 z9 st9 hQ9
      subst l9 y9 z9
      obtain ⟨rfl, N9q, e9⟩ := hQ9
      have N9 := Fr.app N8 N9q
      obtain ⟨_, _, ⟨T10, L10, k10, n10⟩, -, X10, ⟨Lc10, hQ10, l10, y10, z10⟩, st10⟩ := Jvm.LawKit.callS X9 hx (y := (⟨"com/example/ladon/ladon/Truth", "of", "(Z)Lcom/example/ladon/ladon/Truth;"⟩ : MethodName)) hown (mvT hZ (hw _ (List.mem_of_getElem? (i := 0) rfl))) (mvT hZ (hw _ (List.mem_of_getElem? (i := 1) rfl))) (mvT hZ (hw _ (List.mem_of_getElem? (i := 2) rfl))) (mvT hZ (hw _ (List.mem_of_getElem? (i := 3) rfl))) (by decide) (backOf (W := 0) (rmOf0 l Z a0 hw [] aT aF aI h0 n0 O0 S_TRUE S_FALSE S_INDETERMINATE E_TRUE E_FALSE E_INDETERMINATE hTF hTI hFI) hZ (hw _ (List.mem_of_getElem? (i := 3) rfl)) (hw _ (List.mem_of_getElem? (i := 2) rfl)) (by decide) (by decide)) (g := (mkF mm 111 #[.val (.int p0), .val (.int p1), .val (.int (0 : Int32)), .val (.int (0 : Int32)), .val (.ref aF), .val (.ref aF), .val (.int (1 : Int32)), .val (.int (1 : Int32)), .unset, .unset] [(.int (0 : Int32))])) rfl (by rw [hml]; rfl) (argsL := [(.int (0 : Int32))]) (rest := []) (lenOf pd_45 rfl) rfl (by show 2 * 0 + _ ≤ _; exact Nat.le_of_eq rfl) (hb hby at_111) (fun _ _ => ⟨rfl, e9, (by decide : 0 + 0 ≤ _), (by decide : 0 + 0 ≤ _)⟩)
      dsimp only [Pt.U, Pt.locs, Pt.cells, Pt.slots] at X10 l10 y10 z10 st10 hQ10
      subst l10 y10 z10
      obtain ⟨rfl, N10q, e10⟩ := hQ10
      have N10 := Fr.app N9 N10q
      obtain ⟨T11, X11, e11, st11⟩ := getS2 X10 hx hZ hown (host := "") (Or.inl (hw _ (List.mem_of_getElem? (i := 8) rfl))) Via.refl e10 (S_FALSE.ext O0.2) (g := (mkF mm 118 #[.val (.int p0), .val (.int p1), .val (.int (0 : Int32)), .val (.int (0 : Int32)), .val (.ref aF), .val (.ref aF), .val (.int (1 : Int32)), .val (.int (1 : Int32)), .unset, .unset] [(.ref aF), (.ref aF), (.ref aF)])) rfl (hb hby at_118)
      obtain ⟨cq12, kq12, q12a, q12b, q12c⟩ := isOf hZ e11 (E_FALSE.ext O0.2)
      obtain ⟨_, _, ⟨T12, L12, k12, n12⟩, -, X12, ⟨Lc12, hQ12, l12, y12, z12⟩, st12⟩ := X11.virtualBack hx (y := (⟨"com/example/ladon/ladon/Truth", "join", "(Lcom/example/ladon/ladon/Truth;Lcom/example/ladon/ladon/Truth;)Lcom/example/ladon/ladon/Truth;"⟩ : MethodName)) (z := (⟨"com/example/ladon/ladon/Truth", "join", "(Lcom/example/ladon/ladon/Truth;Lcom/example/ladon/ladon/Truth;)Lcom/example/ladon/ladon/Truth;"⟩ : MethodName)) hown (mvT hZ (hw _ (List.mem_of_getElem? (i := 14) rfl))) (mvT hZ (hw _ (List.mem_of_getElem? (i := 15) rfl))) (notFace_of_selects (args := #[]) (mvT hZ (hw _ (List.mem_of_getElem? (i := 17) rfl)))) (mvT hZ (hw _ (List.mem_of_getElem? (i := 17) rfl))) (mvT hZ (hw _ (List.mem_of_getElem? (i := 16) rfl))) (by decide) (backOf (W := 1) (rmJ_aF_aF_aF l Z a0 hw [] aT aF aI h0 n0 O0 S_TRUE S_FALSE S_INDETERMINATE E_TRUE E_FALSE E_INDETERMINATE hTF hTI hFI) hZ (hw _ (List.mem_of_getElem? (i := 18) rfl)) (hw _ (List.mem_of_getElem? (i := 2) rfl)) (by decide) (by decide)) q12a q12c (g := (mkF mm 121 #[.val (.int p0), .val (.int p1), .val (.int (0 : Int32)), .val (.int (0 : Int32)), .val (.ref aF), .val (.ref aF), .val (.int (1 : Int32)), .val (.int (1 : Int32)), .unset, .unset] [(.ref aF), (.ref aF), (.ref aF), (.ref aF)])) rfl (by rw [hml]; rfl) (Steps.refl _) (argsL := [(.ref aF), (.ref aF)]) (rest := [(.ref aF)]) (lenOf pd_46 rfl) rfl (by show 2 * 0 + _ ≤ _; exact Nat.le_of_eq rfl) (hb hby at_121) (fun _ _ => ⟨rfl, e11, (by decide : 0 + 0 ≤ _), (by decide : 0 + 0 ≤ _)⟩)
      dsimp only [Pt.U, Pt.locs, Pt.cells, Pt.slots] at X12 l12 y12 z12 st12 hQ12
      subst l12 y12 z12
      obtain ⟨rfl, N12q, e12⟩ := hQ12
      have N12 := Fr.app N10 N12q
      obtain ⟨_, _, ⟨T13, L13, k13, n13⟩, -, X13, ⟨Lc13, hQ13, l13, y13, z13⟩, st13⟩ := Jvm.LawKit.callS X12 hx (y := (⟨"com/example/ladon/ladon/Truth", "of", "(Z)Lcom/example/ladon/ladon/Truth;"⟩ : MethodName)) hown (mvT hZ (hw _ (List.mem_of_getElem? (i := 0) rfl))) (mvT hZ (hw _ (List.mem_of_getElem? (i := 1) rfl))) (mvT hZ (hw _ (List.mem_of_getElem? (i := 2) rfl))) (mvT hZ (hw _ (List.mem_of_getElem? (i := 3) rfl))) (by decide) (backOf (W := 0) (rmOf0 l Z a0 hw [] aT aF aI h0 n0 O0 S_TRUE S_FALSE S_INDETERMINATE E_TRUE E_FALSE E_INDETERMINATE hTF hTI hFI) hZ (hw _ (List.mem_of_getElem? (i := 3) rfl)) (hw _ (List.mem_of_getElem? (i := 2) rfl)) (by decide) (by decide)) (g := (mkF mm 147 #[.val (.int p0), .val (.int p1), .val (.int (0 : Int32)), .val (.int (0 : Int32)), .val (.ref aF), .val (.ref aF), .val (.int (1 : Int32)), .val (.int (1 : Int32)), .val (.int (1 : Int32)), .unset] [(.int (0 : Int32))])) rfl (by rw [hml]; rfl) (argsL := [(.int (0 : Int32))]) (rest := []) (lenOf pd_45 rfl) rfl (by show 2 * 0 + _ ≤ _; exact Nat.le_of_eq rfl) (hb hby at_147) (fun _ _ => ⟨rfl, e12, (by decide : 0 + 0 ≤ _), (by decide : 0 + 0 ≤ _)⟩)
      dsimp only [Pt.U, Pt.locs, Pt.cells, Pt.slots] at X13 l13 y13 z13 st13 hQ13
      subst l13 y13 z13
      obtain ⟨rfl, N13q, e13⟩ := hQ13
      have N13 := Fr.app N12 N13q
      obtain ⟨T14, X14, e14, st14⟩ := getS2 X13 hx hZ hown (host := "") (Or.inl (hw _ (List.mem_of_getElem? (i := 19) rfl))) Via.refl e13 (S_TRUE.ext O0.2) (g := (mkF mm 154 #[.val (.int p0), .val (.int p1), .val (.int (0 : Int32)), .val (.int (0 : Int32)), .val (.ref aF), .val (.ref aF), .val (.int (1 : Int32)), .val (.int (1 : Int32)), .val (.int (1 : Int32)), .unset] [(.ref aF), (.ref aF), (.ref aF)])) rfl (hb hby at_154)
      obtain ⟨cq15, kq15, q15a, q15b, q15c⟩ := isOf hZ e14 (E_FALSE.ext O0.2)
      obtain ⟨_, _, ⟨T15, L15, k15, n15⟩, -, X15, ⟨Lc15, hQ15, l15, y15, z15⟩, st15⟩ := X14.virtualBack hx (y := (⟨"com/example/ladon/ladon/Truth", "join", "(Lcom/example/ladon/ladon/Truth;Lcom/example/ladon/ladon/Truth;)Lcom/example/ladon/ladon/Truth;"⟩ : MethodName)) (z := (⟨"com/example/ladon/ladon/Truth", "join", "(Lcom/example/ladon/ladon/Truth;Lcom/example/ladon/ladon/Truth;)Lcom/example/ladon/ladon/Truth;"⟩ : MethodName)) hown (mvT hZ (hw _ (List.mem_of_getElem? (i := 14) rfl))) (mvT hZ (hw _ (List.mem_of_getElem? (i := 15) rfl))) (notFace_of_selects (args := #[]) (mvT hZ (hw _ (List.mem_of_getElem? (i := 17) rfl)))) (mvT hZ (hw _ (List.mem_of_getElem? (i := 17) rfl))) (mvT hZ (hw _ (List.mem_of_getElem? (i := 16) rfl))) (by decide) (backOf (W := 1) (rmJ_aF_aF_aT l Z a0 hw [] aT aF aI h0 n0 O0 S_TRUE S_FALSE S_INDETERMINATE E_TRUE E_FALSE E_INDETERMINATE hTF hTI hFI) hZ (hw _ (List.mem_of_getElem? (i := 18) rfl)) (hw _ (List.mem_of_getElem? (i := 2) rfl)) (by decide) (by decide)) q15a q15c (g := (mkF mm 157 #[.val (.int p0), .val (.int p1), .val (.int (0 : Int32)), .val (.int (0 : Int32)), .val (.ref aF), .val (.ref aF), .val (.int (1 : Int32)), .val (.int (1 : Int32)), .val (.int (1 : Int32)), .unset] [(.ref aT), (.ref aF), (.ref aF), (.ref aF)])) rfl (by rw [hml]; rfl) (Steps.refl _) (argsL := [(.ref aF), (.ref aT)]) (rest := [(.ref aF)]) (lenOf pd_46 rfl) rfl (by show 2 * 0 + _ ≤ _; exact Nat.le_of_eq rfl) (hb hby at_157) (fun _ _ => ⟨rfl, e14, (by decide : 0 + 0 ≤ _), (by decide : 0 + 0 ≤ _)⟩)
      dsimp only [Pt.U, Pt.locs, Pt.cells, Pt.slots] at X15 l15 y15 z15 st15 hQ15
      subst l15 y15 z15
      obtain ⟨rfl, N15q, e15⟩ := hQ15
      have N15 := Fr.app N13 N15q
      obtain ⟨fs, hr, hrun, hended, hW, hsame⟩ := X15.leave (v := some (.int (1 : Int32))) (fun h => by rw [Bd.returns] at h; cases h)
      refine ⟨_, _, pre3 _ ?_, hrun, hended, _, _, rfl, ?_, ⟨_, rfl⟩, hW, hsame.mono (by decide) (by decide)⟩
      · show Steps pg.tables ee below (s₁.setTop (mkF mm 15 #[.val (.int p0), .val (.int p1), .val (.int (0 : Int32)), .unset, .unset, .unset, .unset, .unset, .unset, .unset] [(.int (p1 &&& (1 : Int32)))])) _
        refine XS.ifYes X0.here hx rfl (pc0 := 15) (pc' := 22) rfl (hb hby at_15) rfl ((if0 _ _).trans (teq hc4).1) (by decide) (by decide) ?_
        show Steps pg.tables ee below (s₁.setTop (mkF mm 22 #[.val (.int p0), .val (.int p1), .val (.int (0 : Int32)), .unset, .unset, .unset, .unset, .unset, .unset, .unset] [])) _
        refine XS.iconst X0.here hx rfl (hb hby at_22) ?_
        show Steps pg.tables ee below (s₁.setTop (mkF mm 23 #[.val (.int p0), .val (.int p1), .val (.int (0 : Int32)), .unset, .unset, .unset, .unset, .unset, .unset, .unset] [(.int (0 : Int32))])) _
        refine XS.istoreN X0.here hx rfl (hb hby at_23) rfl (l' := #[.val (.int p0), .val (.int p1), .val (.int (0 : Int32)), .val (.int (0 : Int32)), .unset, .unset, .unset, .unset, .unset, .unset]) rfl ?_
        show Steps pg.tables ee below (s₁.setTop (mkF mm 24 #[.val (.int p0), .val (.int p1), .val (.int (0 : Int32)), .val (.int (0 : Int32)), .unset, .unset, .unset, .unset, .unset, .unset] [])) _
        refine XS.iloadN X0.here hx rfl (hb hby at_24) rfl ?_
        show Steps pg.tables ee below (s₁.setTop (mkF mm 25 #[.val (.int p0), .val (.int p1), .val (.int (0 : Int32)), .val (.int (0 : Int32)), .unset, .unset, .unset, .unset, .unset, .unset] [(.int (0 : Int32))])) _
        refine st5 _ ?_
        show Steps pg.tables ee below (T5.setTop (mkF mm 28 #[.val (.int p0), .val (.int p1), .val (.int (0 : Int32)), .val (.int (0 : Int32)), .unset, .unset, .unset, .unset, .unset, .unset] [(.ref aF)])) _
        refine XS.astore X5.here hx rfl (hb hby at_28) rfl rfl (l' := #[.val (.int p0), .val (.int p1), .val (.int (0 : Int32)), .val (.int (0 : Int32)), .val (.ref aF), .unset, .unset, .unset, .unset, .unset]) rfl ?_
        show Steps pg.tables ee below (T5.setTop (mkF mm 30 #[.val (.int p0), .val (.int p1), .val (.int (0 : Int32)), .val (.int (0 : Int32)), .val (.ref aF), .unset, .unset, .unset, .unset, .unset] [])) _
        refine XS.iloadN X5.here hx rfl (hb hby at_30) rfl ?_
        show Steps pg.tables ee below (T5.setTop (mkF mm 31 #[.val (.int p0), .val (.int p1), .val (.int (0 : Int32)), .val (.int (0 : Int32)), .val (.ref aF), .unset, .unset, .unset, .unset, .unset] [(.int (0 : Int32))])) _
        refine st6 _ ?_
        show Steps pg.tables ee below (T6.setTop (mkF mm 34 #[.val (.int p0), .val (.int p1), .val (.int (0 : Int32)), .val (.int (0 : Int32)), .val (.ref aF), .unset, .unset, .unset, .unset, .unset] [(.ref aF)])) _
        refine XS.astore X6.here hx rfl (hb hby at_34) rfl rfl (l' := #[.val (.int p0), .val (.int p1), .val (.int (0 : Int32)), .val (.int (0 : Int32)), .val (.ref aF), .val (.ref aF), .unset, .unset, .unset, .unset]) rfl ?_
        show Steps pg.tables ee below (T6.setTop (mkF mm 36 #[.val (.int p0), .val (.int p1), .val (.int (0 : Int32)), .val (.int (0 : Int32)), .val (.ref aF), .val (.ref aF), .unset, .unset, .unset, .unset] [])) _
        refine XS.iloadN X6.here hx rfl (hb hby at_36) rfl ?_
        show Steps pg.tables ee below (T6.setTop (mkF mm 37 #[.val (.int p0), .val (.int p1), .val (.int (0 : Int32)), .val (.int (0 : Int32)), .val (.ref aF), .val (.ref aF), .unset, .unset, .unset, .unset] [(.int (0 : Int32))])) _
        refine XS.ifYes X6.here hx rfl (pc0 := 37) (pc' := 56) rfl (hb hby at_37) rfl ((if0 _ _).trans (teq (by decide : (0 : Int32) = (0 : Int32))).1) (by decide) (by decide) ?_
        show Steps pg.tables ee below (T6.setTop (mkF mm 56 #[.val (.int p0), .val (.int p1), .val (.int (0 : Int32)), .val (.int (0 : Int32)), .val (.ref aF), .val (.ref aF), .unset, .unset, .unset, .unset] [])) _
        refine XS.aload X6.here hx rfl (hb hby at_56) rfl rfl ?_
        show Steps pg.tables ee below (T6.setTop (mkF mm 58 #[.val (.int p0), .val (.int p1), .val (.int (0 : Int32)), .val (.int (0 : Int32)), .val (.ref aF), .val (.ref aF), .unset, .unset, .unset, .unset] [(.ref aF)])) _
        refine st7 _ ?_
        show Steps pg.tables ee below (T7.setTop (mkF mm 61 #[.val (.int p0), .val (.int p1), .val (.int (0 : Int32)), .val (.int (0 : Int32)), .val (.ref aF), .val (.ref aF), .unset, .unset, .unset, .unset] [(.ref aF), (.ref aF)])) _
        refine Jvm.RoadKit.acmp (g := (mkF mm 61 #[.val (.int p0), .val (.int p1), .val (.int (0 : Int32)), .val (.int (0 : Int32)), .val (.ref aF), .val (.ref aF), .unset, .unset, .unset, .unset] [(.ref aF), (.ref aF)])) X7 hx rfl rfl rfl (pc0 := 61) (pc' := 64) (same := true) rfl (hb hby at_61) rfl (decide_eq_true rfl) (by decide) (by decide) ?_
        show Steps pg.tables ee below (T7.setTop (mkF mm 64 #[.val (.int p0), .val (.int p1), .val (.int (0 : Int32)), .val (.int (0 : Int32)), .val (.ref aF), .val (.ref aF), .unset, .unset, .unset, .unset] [])) _
        refine XS.iconst X7.here hx rfl (hb hby at_64) ?_
        show Steps pg.tables ee below (T7.setTop (mkF mm 65 #[.val (.int p0), .val (.int p1), .val (.int (0 : Int32)), .val (.int (0 : Int32)), .val (.ref aF), .val (.ref aF), .unset, .unset, .unset, .unset] [(.int (1 : Int32))])) _
        refine XS.goto X7.here hx rfl (pc0 := 65) (pc' := 69) rfl (hb hby at_65) (by decide) (by decide) ?_
        show Steps pg.tables ee below (T7.setTop (mkF mm 69 #[.val (.int p0), .val (.int p1), .val (.int (0 : Int32)), .val (.int (0 : Int32)), .val (.ref aF), .val (.ref aF), .unset, .unset, .unset, .unset] [(.int (1 : Int32))])) _
        refine XS.istore X7.here hx rfl (hb hby at_69) rfl (l' := #[.val (.int p0), .val (.int p1), .val (.int (0 : Int32)), .val (.int (0 : Int32)), .val (.ref aF), .val (.ref aF), .val (.int (1 : Int32)), .unset, .unset, .unset]) rfl ?_
        show Steps pg.tables ee below (T7.setTop (mkF mm 71 #[.val (.int p0), .val (.int p1), .val (.int (0 : Int32)), .val (.int (0 : Int32)), .val (.ref aF), .val (.ref aF), .val (.int (1 : Int32)), .unset, .unset, .unset] [])) _
        refine XS.iloadN X7.here hx rfl (hb hby at_71) rfl ?_
        show Steps pg.tables ee below (T7.setTop (mkF mm 72 #[.val (.int p0), .val (.int p1), .val (.int (0 : Int32)), .val (.int (0 : Int32)), .val (.ref aF), .val (.ref aF), .val (.int (1 : Int32)), .unset, .unset, .unset] [(.int (0 : Int32))])) _
        refine XS.ifNo X7.here hx rfl (hb hby at_72) rfl ((if0 _ _).trans (teq (by decide : (0 : Int32) = (0 : Int32))).2) ?_
        show Steps pg.tables ee below (T7.setTop (mkF mm 75 #[.val (.int p0), .val (.int p1), .val (.int (0 : Int32)), .val (.int (0 : Int32)), .val (.ref aF), .val (.ref aF), .val (.int (1 : Int32)), .unset, .unset, .unset] [])) _
        refine XS.iconst X7.here hx rfl (hb hby at_75) ?_
        show Steps pg.tables ee below (T7.setTop (mkF mm 76 #[.val (.int p0), .val (.int p1), .val (.int (0 : Int32)), .val (.int (0 : Int32)), .val (.ref aF), .val (.ref aF), .val (.int (1 : Int32)), .unset, .unset, .unset] [(.int (1 : Int32))])) _
        refine XS.goto X7.here hx rfl (pc0 := 76) (pc' := 80) rfl (hb hby at_76) (by decide) (by decide) ?_
        show Steps pg.tables ee below (T7.setTop (mkF mm 80 #[.val (.int p0), .val (.int p1), .val (.int (0 : Int32)), .val (.int (0 : Int32)), .val (.ref aF), .val (.ref aF), .val (.int (1 : Int32)), .unset, .unset, .unset] [(.int (1 : Int32))])) _
        refine st8 _ ?_
        show Steps pg.tables ee below (T8.setTop (mkF mm 83 #[.val (.int p0), .val (.int p1), .val (.int (0 : Int32)), .val (.int (0 : Int32)), .val (.ref aF), .val (.ref aF), .val (.int (1 : Int32)), .unset, .unset, .unset] [(.ref aT)])) _
        refine XS.aload X8.here hx rfl (hb hby at_83) rfl rfl ?_
        show Steps pg.tables ee below (T8.setTop (mkF mm 85 #[.val (.int p0), .val (.int p1), .val (.int (0 : Int32)), .val (.int (0 : Int32)), .val (.ref aF), .val (.ref aF), .val (.int (1 : Int32)), .unset, .unset, .unset] [(.ref aF), (.ref aT)])) _
        refine st9.trans ?_
        show Steps pg.tables ee below (T9.setTop (mkF mm 88 #[.val (.int p0), .val (.int p1), .val (.int (0 : Int32)), .val (.int (0 : Int32)), .val (.ref aF), .val (.ref aF), .val (.int (1 : Int32)), .unset, .unset, .unset] [(.ref aT), (.ref aT)])) _
        refine Jvm.RoadKit.acmp (g := (mkF mm 88 #[.val (.int p0), .val (.int p1), .val (.int (0 : Int32)), .val (.int (0 : Int32)), .val (.ref aF), .val (.ref aF), .val (.int (1 : Int32)), .unset, .unset, .unset] [(.ref aT), (.ref aT)])) X9 hx rfl rfl rfl (pc0 := 88) (pc' := 91) (same := true) rfl (hb hby at_88) rfl (decide_eq_true rfl) (by decide) (by decide) ?_
        show Steps pg.tables ee below (T9.setTop (mkF mm 91 #[.val (.int p0), .val (.int p1), .val (.int (0 : Int32)), .val (.int (0 : Int32)), .val (.ref aF), .val (.ref aF), .val (.int (1 : Int32)), .unset, .unset, .unset] [])) _
        refine XS.iconst X9.here hx rfl (hb hby at_91) ?_
        show Steps pg.tables ee below (T9.setTop (mkF mm 92 #[.val (.int p0), .val (.int p1), .val (.int (0 : Int32)), .val (.int (0 : Int32)), .val (.ref aF), .val (.ref aF), .val (.int (1 : Int32)), .unset, .unset, .unset] [(.int (1 : Int32))])) _
        refine XS.goto X9.here hx rfl (pc0 := 92) (pc' := 96) rfl (hb hby at_92) (by decide) (by decide) ?_
        show Steps pg.tables ee below (T9.setTop (mkF mm 96 #[.val (.int p0), .val (.int p1), .val (.int (0 : Int32)), .val (.int (0 : Int32)), .val (.ref aF), .val (.ref aF), .val (.int (1 : Int32)), .unset, .unset, .unset] [(.int (1 : Int32))])) _
        refine XS.istore X9.here hx rfl (hb hby at_96) rfl (l' := #[.val (.int p0), .val (.int p1), .val (.int (0 : Int32)), .val (.int (0 : Int32)), .val (.ref aF), .val (.ref aF), .val (.int (1 : Int32)), .val (.int (1 : Int32)), .unset, .unset]) rfl ?_
        show Steps pg.tables ee below (T9.setTop (mkF mm 98 #[.val (.int p0), .val (.int p1), .val (.int (0 : Int32)), .val (.int (0 : Int32)), .val (.ref aF), .val (.ref aF), .val (.int (1 : Int32)), .val (.int (1 : Int32)), .unset, .unset] [])) _
        refine XS.iloadN X9.here hx rfl (hb hby at_98) rfl ?_
        show Steps pg.tables ee below (T9.setTop (mkF mm 99 #[.val (.int p0), .val (.int p1), .val (.int (0 : Int32)), .val (.int (0 : Int32)), .val (.ref aF), .val (.ref aF), .val (.int (1 : Int32)), .val (.int (1 : Int32)), .unset, .unset] [(.int (0 : Int32))])) _
        refine XS.ifYes X9.here hx rfl (pc0 := 99) (pc' := 110) rfl (hb hby at_99) rfl ((if0 _ _).trans (teq (by decide : (0 : Int32) = (0 : Int32))).1) (by decide) (by decide) ?_
        show Steps pg.tables ee below (T9.setTop (mkF mm 110 #[.val (.int p0), .val (.int p1), .val (.int (0 : Int32)), .val (.int (0 : Int32)), .val (.ref aF), .val (.ref aF), .val (.int (1 : Int32)), .val (.int (1 : Int32)), .unset, .unset] [])) _
        refine XS.iconst X9.here hx rfl (hb hby at_110) ?_
        show Steps pg.tables ee below (T9.setTop (mkF mm 111 #[.val (.int p0), .val (.int p1), .val (.int (0 : Int32)), .val (.int (0 : Int32)), .val (.ref aF), .val (.ref aF), .val (.int (1 : Int32)), .val (.int (1 : Int32)), .unset, .unset] [(.int (0 : Int32))])) _
        refine st10 _ ?_
        show Steps pg.tables ee below (T10.setTop (mkF mm 114 #[.val (.int p0), .val (.int p1), .val (.int (0 : Int32)), .val (.int (0 : Int32)), .val (.ref aF), .val (.ref aF), .val (.int (1 : Int32)), .val (.int (1 : Int32)), .unset, .unset] [(.ref aF)])) _
        refine XS.aload X10.here hx rfl (hb hby at_114) rfl rfl ?_
        show Steps pg.tables ee below (T10.setTop (mkF mm 116 #[.val (.int p0), .val (.int p1), .val (.int (0 : Int32)), .val (.int (0 : Int32)), .val (.ref aF), .val (.ref aF), .val (.int (1 : Int32)), .val (.int (1 : Int32)), .unset, .unset] [(.ref aF), (.ref aF)])) _
        refine XS.aload X10.here hx rfl (hb hby at_116) rfl rfl ?_
        show Steps pg.tables ee below (T10.setTop (mkF mm 118 #[.val (.int p0), .val (.int p1), .val (.int (0 : Int32)), .val (.int (0 : Int32)), .val (.ref aF), .val (.ref aF), .val (.int (1 : Int32)), .val (.int (1 : Int32)), .unset, .unset] [(.ref aF), (.ref aF), (.ref aF)])) _
        refine st11 _ ?_
        show Steps pg.tables ee below (T11.setTop (mkF mm 121 #[.val (.int p0), .val (.int p1), .val (.int (0 : Int32)), .val (.int (0 : Int32)), .val (.ref aF), .val (.ref aF), .val (.int (1 : Int32)), .val (.int (1 : Int32)), .unset, .unset] [(.ref aF), (.ref aF), (.ref aF), (.ref aF)])) _
        refine st12.trans ?_
        show Steps pg.tables ee below (T12.setTop (mkF mm 124 #[.val (.int p0), .val (.int p1), .val (.int (0 : Int32)), .val (.int (0 : Int32)), .val (.ref aF), .val (.ref aF), .val (.int (1 : Int32)), .val (.int (1 : Int32)), .unset, .unset] [(.ref aF), (.ref aF)])) _
        refine Jvm.RoadKit.acmp (g := (mkF mm 124 #[.val (.int p0), .val (.int p1), .val (.int (0 : Int32)), .val (.int (0 : Int32)), .val (.ref aF), .val (.ref aF), .val (.int (1 : Int32)), .val (.int (1 : Int32)), .unset, .unset] [(.ref aF), (.ref aF)])) X12 hx rfl rfl rfl (pc0 := 124) (pc' := 127) (same := true) rfl (hb hby at_124) rfl (decide_eq_true rfl) (by decide) (by decide) ?_
        show Steps pg.tables ee below (T12.setTop (mkF mm 127 #[.val (.int p0), .val (.int p1), .val (.int (0 : Int32)), .val (.int (0 : Int32)), .val (.ref aF), .val (.ref aF), .val (.int (1 : Int32)), .val (.int (1 : Int32)), .unset, .unset] [])) _
        refine XS.iconst X12.here hx rfl (hb hby at_127) ?_
        show Steps pg.tables ee below (T12.setTop (mkF mm 128 #[.val (.int p0), .val (.int p1), .val (.int (0 : Int32)), .val (.int (0 : Int32)), .val (.ref aF), .val (.ref aF), .val (.int (1 : Int32)), .val (.int (1 : Int32)), .unset, .unset] [(.int (1 : Int32))])) _
        refine XS.goto X12.here hx rfl (pc0 := 128) (pc' := 132) rfl (hb hby at_128) (by decide) (by decide) ?_
        show Steps pg.tables ee below (T12.setTop (mkF mm 132 #[.val (.int p0), .val (.int p1), .val (.int (0 : Int32)), .val (.int (0 : Int32)), .val (.ref aF), .val (.ref aF), .val (.int (1 : Int32)), .val (.int (1 : Int32)), .unset, .unset] [(.int (1 : Int32))])) _
        refine XS.istore X12.here hx rfl (hb hby at_132) rfl (l' := #[.val (.int p0), .val (.int p1), .val (.int (0 : Int32)), .val (.int (0 : Int32)), .val (.ref aF), .val (.ref aF), .val (.int (1 : Int32)), .val (.int (1 : Int32)), .val (.int (1 : Int32)), .unset]) rfl ?_
        show Steps pg.tables ee below (T12.setTop (mkF mm 134 #[.val (.int p0), .val (.int p1), .val (.int (0 : Int32)), .val (.int (0 : Int32)), .val (.ref aF), .val (.ref aF), .val (.int (1 : Int32)), .val (.int (1 : Int32)), .val (.int (1 : Int32)), .unset] [])) _
        refine XS.iloadN X12.here hx rfl (hb hby at_134) rfl ?_
        show Steps pg.tables ee below (T12.setTop (mkF mm 135 #[.val (.int p0), .val (.int p1), .val (.int (0 : Int32)), .val (.int (0 : Int32)), .val (.ref aF), .val (.ref aF), .val (.int (1 : Int32)), .val (.int (1 : Int32)), .val (.int (1 : Int32)), .unset] [(.int (0 : Int32))])) _
        refine XS.ifNo X12.here hx rfl (hb hby at_135) rfl ((if0 _ _).trans (teq (by decide : (0 : Int32) = (0 : Int32))).2) ?_
        show Steps pg.tables ee below (T12.setTop (mkF mm 138 #[.val (.int p0), .val (.int p1), .val (.int (0 : Int32)), .val (.int (0 : Int32)), .val (.ref aF), .val (.ref aF), .val (.int (1 : Int32)), .val (.int (1 : Int32)), .val (.int (1 : Int32)), .unset] [])) _
        refine XS.iloadN X12.here hx rfl (hb hby at_138) rfl ?_
        show Steps pg.tables ee below (T12.setTop (mkF mm 139 #[.val (.int p0), .val (.int p1), .val (.int (0 : Int32)), .val (.int (0 : Int32)), .val (.ref aF), .val (.ref aF), .val (.int (1 : Int32)), .val (.int (1 : Int32)), .val (.int (1 : Int32)), .unset] [(.int (0 : Int32))])) _
        refine XS.ifYes X12.here hx rfl (pc0 := 139) (pc' := 146) rfl (hb hby at_139) rfl ((if0 _ _).trans (teq (by decide : (0 : Int32) = (0 : Int32))).1) (by decide) (by decide) ?_
        show Steps pg.tables ee below (T12.setTop (mkF mm 146 #[.val (.int p0), .val (.int p1), .val (.int (0 : Int32)), .val (.int (0 : Int32)), .val (.ref aF), .val (.ref aF), .val (.int (1 : Int32)), .val (.int (1 : Int32)), .val (.int (1 : Int32)), .unset] [])) _
        refine XS.iconst X12.here hx rfl (hb hby at_146) ?_
        show Steps pg.tables ee below (T12.setTop (mkF mm 147 #[.val (.int p0), .val (.int p1), .val (.int (0 : Int32)), .val (.int (0 : Int32)), .val (.ref aF), .val (.ref aF), .val (.int (1 : Int32)), .val (.int (1 : Int32)), .val (.int (1 : Int32)), .unset] [(.int (0 : Int32))])) _
        refine st13 _ ?_
        show Steps pg.tables ee below (T13.setTop (mkF mm 150 #[.val (.int p0), .val (.int p1), .val (.int (0 : Int32)), .val (.int (0 : Int32)), .val (.ref aF), .val (.ref aF), .val (.int (1 : Int32)), .val (.int (1 : Int32)), .val (.int (1 : Int32)), .unset] [(.ref aF)])) _
        refine XS.aload X13.here hx rfl (hb hby at_150) rfl rfl ?_
        show Steps pg.tables ee below (T13.setTop (mkF mm 152 #[.val (.int p0), .val (.int p1), .val (.int (0 : Int32)), .val (.int (0 : Int32)), .val (.ref aF), .val (.ref aF), .val (.int (1 : Int32)), .val (.int (1 : Int32)), .val (.int (1 : Int32)), .unset] [(.ref aF), (.ref aF)])) _
        refine XS.aload X13.here hx rfl (hb hby at_152) rfl rfl ?_
        show Steps pg.tables ee below (T13.setTop (mkF mm 154 #[.val (.int p0), .val (.int p1), .val (.int (0 : Int32)), .val (.int (0 : Int32)), .val (.ref aF), .val (.ref aF), .val (.int (1 : Int32)), .val (.int (1 : Int32)), .val (.int (1 : Int32)), .unset] [(.ref aF), (.ref aF), (.ref aF)])) _
        refine st14 _ ?_
        show Steps pg.tables ee below (T14.setTop (mkF mm 157 #[.val (.int p0), .val (.int p1), .val (.int (0 : Int32)), .val (.int (0 : Int32)), .val (.ref aF), .val (.ref aF), .val (.int (1 : Int32)), .val (.int (1 : Int32)), .val (.int (1 : Int32)), .unset] [(.ref aT), (.ref aF), (.ref aF), (.ref aF)])) _
        refine st15.trans ?_
        show Steps pg.tables ee below (T15.setTop (mkF mm 160 #[.val (.int p0), .val (.int p1), .val (.int (0 : Int32)), .val (.int (0 : Int32)), .val (.ref aF), .val (.ref aF), .val (.int (1 : Int32)), .val (.int (1 : Int32)), .val (.int (1 : Int32)), .unset] [(.ref aF), (.ref aF)])) _
        refine Jvm.RoadKit.acmp (g := (mkF mm 160 #[.val (.int p0), .val (.int p1), .val (.int (0 : Int32)), .val (.int (0 : Int32)), .val (.ref aF), .val (.ref aF), .val (.int (1 : Int32)), .val (.int (1 : Int32)), .val (.int (1 : Int32)), .unset] [(.ref aF), (.ref aF)])) X15 hx rfl rfl rfl (pc0 := 160) (pc' := 163) (same := true) rfl (hb hby at_160) rfl (decide_eq_true rfl) (by decide) (by decide) ?_
        show Steps pg.tables ee below (T15.setTop (mkF mm 163 #[.val (.int p0), .val (.int p1), .val (.int (0 : Int32)), .val (.int (0 : Int32)), .val (.ref aF), .val (.ref aF), .val (.int (1 : Int32)), .val (.int (1 : Int32)), .val (.int (1 : Int32)), .unset] [])) _
        refine XS.iconst X15.here hx rfl (hb hby at_163) ?_
        show Steps pg.tables ee below (T15.setTop (mkF mm 164 #[.val (.int p0), .val (.int p1), .val (.int (0 : Int32)), .val (.int (0 : Int32)), .val (.ref aF), .val (.ref aF), .val (.int (1 : Int32)), .val (.int (1 : Int32)), .val (.int (1 : Int32)), .unset] [(.int (1 : Int32))])) _
        refine XS.goto X15.here hx rfl (pc0 := 164) (pc' := 168) rfl (hb hby at_164) (by decide) (by decide) ?_
        show Steps pg.tables ee below (T15.setTop (mkF mm 168 #[.val (.int p0), .val (.int p1), .val (.int (0 : Int32)), .val (.int (0 : Int32)), .val (.ref aF), .val (.ref aF), .val (.int (1 : Int32)), .val (.int (1 : Int32)), .val (.int (1 : Int32)), .unset] [(.int (1 : Int32))])) _
        refine XS.istore X15.here hx rfl (hb hby at_168) rfl (l' := #[.val (.int p0), .val (.int p1), .val (.int (0 : Int32)), .val (.int (0 : Int32)), .val (.ref aF), .val (.ref aF), .val (.int (1 : Int32)), .val (.int (1 : Int32)), .val (.int (1 : Int32)), .val (.int (1 : Int32))]) rfl ?_
        show Steps pg.tables ee below (T15.setTop (mkF mm 170 #[.val (.int p0), .val (.int p1), .val (.int (0 : Int32)), .val (.int (0 : Int32)), .val (.ref aF), .val (.ref aF), .val (.int (1 : Int32)), .val (.int (1 : Int32)), .val (.int (1 : Int32)), .val (.int (1 : Int32))] [])) _
        refine XS.iload X15.here hx rfl (hb hby at_170) rfl ?_
        show Steps pg.tables ee below (T15.setTop (mkF mm 172 #[.val (.int p0), .val (.int p1), .val (.int (0 : Int32)), .val (.int (0 : Int32)), .val (.ref aF), .val (.ref aF), .val (.int (1 : Int32)), .val (.int (1 : Int32)), .val (.int (1 : Int32)), .val (.int (1 : Int32))] [(.int (1 : Int32))])) _
        refine XS.ifNo X15.here hx rfl (hb hby at_172) rfl ((if0 _ _).trans (feq (by decide : ¬ ((1 : Int32) = (0 : Int32)))).1) ?_
        show Steps pg.tables ee below (T15.setTop (mkF mm 175 #[.val (.int p0), .val (.int p1), .val (.int (0 : Int32)), .val (.int (0 : Int32)), .val (.ref aF), .val (.ref aF), .val (.int (1 : Int32)), .val (.int (1 : Int32)), .val (.int (1 : Int32)), .val (.int (1 : Int32))] [])) _
        refine XS.iload X15.here hx rfl (hb hby at_175) rfl ?_
        show Steps pg.tables ee below (T15.setTop (mkF mm 177 #[.val (.int p0), .val (.int p1), .val (.int (0 : Int32)), .val (.int (0 : Int32)), .val (.ref aF), .val (.ref aF), .val (.int (1 : Int32)), .val (.int (1 : Int32)), .val (.int (1 : Int32)), .val (.int (1 : Int32))] [(.int (1 : Int32))])) _
        refine XS.ifNo X15.here hx rfl (hb hby at_177) rfl ((if0 _ _).trans (feq (by decide : ¬ ((1 : Int32) = (0 : Int32)))).1) ?_
        show Steps pg.tables ee below (T15.setTop (mkF mm 180 #[.val (.int p0), .val (.int p1), .val (.int (0 : Int32)), .val (.int (0 : Int32)), .val (.ref aF), .val (.ref aF), .val (.int (1 : Int32)), .val (.int (1 : Int32)), .val (.int (1 : Int32)), .val (.int (1 : Int32))] [])) _
        refine XS.iload X15.here hx rfl (hb hby at_180) rfl ?_
        show Steps pg.tables ee below (T15.setTop (mkF mm 182 #[.val (.int p0), .val (.int p1), .val (.int (0 : Int32)), .val (.int (0 : Int32)), .val (.ref aF), .val (.ref aF), .val (.int (1 : Int32)), .val (.int (1 : Int32)), .val (.int (1 : Int32)), .val (.int (1 : Int32))] [(.int (1 : Int32))])) _
        refine XS.ifNo X15.here hx rfl (hb hby at_182) rfl ((if0 _ _).trans (feq (by decide : ¬ ((1 : Int32) = (0 : Int32)))).1) ?_
        show Steps pg.tables ee below (T15.setTop (mkF mm 185 #[.val (.int p0), .val (.int p1), .val (.int (0 : Int32)), .val (.int (0 : Int32)), .val (.ref aF), .val (.ref aF), .val (.int (1 : Int32)), .val (.int (1 : Int32)), .val (.int (1 : Int32)), .val (.int (1 : Int32))] [])) _
        refine XS.iload X15.here hx rfl (hb hby at_185) rfl ?_
        show Steps pg.tables ee below (T15.setTop (mkF mm 187 #[.val (.int p0), .val (.int p1), .val (.int (0 : Int32)), .val (.int (0 : Int32)), .val (.ref aF), .val (.ref aF), .val (.int (1 : Int32)), .val (.int (1 : Int32)), .val (.int (1 : Int32)), .val (.int (1 : Int32))] [(.int (1 : Int32))])) _
        refine XS.ifNo X15.here hx rfl (hb hby at_187) rfl ((if0 _ _).trans (feq (by decide : ¬ ((1 : Int32) = (0 : Int32)))).1) ?_
        show Steps pg.tables ee below (T15.setTop (mkF mm 190 #[.val (.int p0), .val (.int p1), .val (.int (0 : Int32)), .val (.int (0 : Int32)), .val (.ref aF), .val (.ref aF), .val (.int (1 : Int32)), .val (.int (1 : Int32)), .val (.int (1 : Int32)), .val (.int (1 : Int32))] [])) _
        refine XS.iconst X15.here hx rfl (hb hby at_190) ?_
        show Steps pg.tables ee below (T15.setTop (mkF mm 191 #[.val (.int p0), .val (.int p1), .val (.int (0 : Int32)), .val (.int (0 : Int32)), .val (.ref aF), .val (.ref aF), .val (.int (1 : Int32)), .val (.int (1 : Int32)), .val (.int (1 : Int32)), .val (.int (1 : Int32))] [(.int (1 : Int32))])) _
        refine XS.goto X15.here hx rfl (pc0 := 191) (pc' := 195) rfl (hb hby at_191) (by decide) (by decide) ?_
        show Steps pg.tables ee below (T15.setTop (mkF mm 195 #[.val (.int p0), .val (.int p1), .val (.int (0 : Int32)), .val (.int (0 : Int32)), .val (.ref aF), .val (.ref aF), .val (.int (1 : Int32)), .val (.int (1 : Int32)), .val (.int (1 : Int32)), .val (.int (1 : Int32))] [(.int (1 : Int32))])) _
        exact retN X15 hx (t := .boolean) Bd.returns (by simp) (hb hby at_195) hr
      · show Qrm0 Z p0 p1 aT aF aI h0 n0 _ T15.heap _
        rw [e15]
        exact ⟨rfl, N15⟩
    · obtain ⟨_, _, ⟨T16, L16, k16, n16⟩, -, X16, ⟨Lc16, hQ16, l16, y16, z16⟩, st16⟩ := Jvm.LawKit.callS X0 hx (y := (⟨"com/example/ladon/ladon/Truth", "of", "(Z)Lcom/example/ladon/ladon/Truth;"⟩ : MethodName)) hown (mvT hZ (hw _ (List.mem_of_getElem? (i := 0) rfl))) (mvT hZ (hw _ (List.mem_of_getElem? (i := 1) rfl))) (mvT hZ (hw _ (List.mem_of_getElem? (i := 2) rfl))) (mvT hZ (hw _ (List.mem_of_getElem? (i := 3) rfl))) (by decide) (backOf (W := 0) (rmOf0 l Z a0 hw [] aT aF aI h0 n0 O0 S_TRUE S_FALSE S_INDETERMINATE E_TRUE E_FALSE E_INDETERMINATE hTF hTI hFI) hZ (hw _ (List.mem_of_getElem? (i := 3) rfl)) (hw _ (List.mem_of_getElem? (i := 2) rfl)) (by decide) (by decide)) (g := (mkF mm 25 #[.val (.int p0), .val (.int p1), .val (.int (0 : Int32)), .val (.int (1 : Int32)), .unset, .unset, .unset, .unset, .unset, .unset] [(.int (0 : Int32))])) rfl (by rw [hml]; rfl) (argsL := [(.int (0 : Int32))]) (rest := []) (lenOf pd_45 rfl) rfl (by show 2 * 0 + _ ≤ _; exact Nat.le_of_eq rfl) (hb hby at_25) (fun _ _ => ⟨rfl, e0, (by decide : 0 + 0 ≤ _), (by decide : 0 + 0 ≤ _)⟩)
      dsimp only [Pt.U, Pt.locs, Pt.cells, Pt.slots] at X16 l16 y16 z16 st16 hQ16
      subst l16 y16 z16
      obtain ⟨rfl, N16q, e16⟩ := hQ16
      have N16 := Fr.app N0 N16q
      obtain ⟨_, _, ⟨T17, L17, k17, n17⟩, -, X17, ⟨Lc17, hQ17, l17, y17, z17⟩, st17⟩ := Jvm.LawKit.callS X16 hx (y := (⟨"com/example/ladon/ladon/Truth", "of", "(Z)Lcom/example/ladon/ladon/Truth;"⟩ : MethodName)) hown (mvT hZ (hw _ (List.mem_of_getElem? (i := 0) rfl))) (mvT hZ (hw _ (List.mem_of_getElem? (i := 1) rfl))) (mvT hZ (hw _ (List.mem_of_getElem? (i := 2) rfl))) (mvT hZ (hw _ (List.mem_of_getElem? (i := 3) rfl))) (by decide) (backOf (W := 0) (rmOf1 l Z a0 hw [] aT aF aI h0 n0 O0 S_TRUE S_FALSE S_INDETERMINATE E_TRUE E_FALSE E_INDETERMINATE hTF hTI hFI) hZ (hw _ (List.mem_of_getElem? (i := 3) rfl)) (hw _ (List.mem_of_getElem? (i := 2) rfl)) (by decide) (by decide)) (g := (mkF mm 31 #[.val (.int p0), .val (.int p1), .val (.int (0 : Int32)), .val (.int (1 : Int32)), .val (.ref aF), .unset, .unset, .unset, .unset, .unset] [(.int (1 : Int32))])) rfl (by rw [hml]; rfl) (argsL := [(.int (1 : Int32))]) (rest := []) (lenOf pd_45 rfl) rfl (by show 2 * 0 + _ ≤ _; exact Nat.le_of_eq rfl) (hb hby at_31) (fun _ _ => ⟨rfl, e16, (by decide : 0 + 0 ≤ _), (by decide : 0 + 0 ≤ _)⟩)
      dsimp only [Pt.U, Pt.locs, Pt.cells, Pt.slots] at X17 l17 y17 z17 st17 hQ17
      subst l17 y17 z17
      obtain ⟨rfl, N17q, e17⟩ := hQ17
      have N17 := Fr.app N16 N17q
      obtain ⟨T18, X18, e18, st18⟩ := getS2 X17 hx hZ hown (host := "") (Or.inl (hw _ (List.mem_of_getElem? (i := 8) rfl))) Via.refl e17 (S_FALSE.ext O0.2) (g := (mkF mm 58 #[.val (.int p0), .val (.int p1), .val (.int (0 : Int32)), .val (.int (1 : Int32)), .val (.ref aF), .val (.ref aT), .unset, .unset, .unset, .unset] [(.ref aF)])) rfl (hb hby at_58)
      obtain ⟨_, _, ⟨T19, L19, k19, n19⟩, -, X19, ⟨Lc19, hQ19, l19, y19, z19⟩, st19⟩ := Jvm.LawKit.callS X18 hx (y := (⟨"com/example/ladon/ladon/Truth", "of", "(Z)Lcom/example/ladon/ladon/Truth;"⟩ : MethodName)) hown (mvT hZ (hw _ (List.mem_of_getElem? (i := 0) rfl))) (mvT hZ (hw _ (List.mem_of_getElem? (i := 1) rfl))) (mvT hZ (hw _ (List.mem_of_getElem? (i := 2) rfl))) (mvT hZ (hw _ (List.mem_of_getElem? (i := 3) rfl))) (by decide) (backOf (W := 0) (rmOf1 l Z a0 hw [] aT aF aI h0 n0 O0 S_TRUE S_FALSE S_INDETERMINATE E_TRUE E_FALSE E_INDETERMINATE hTF hTI hFI) hZ (hw _ (List.mem_of_getElem? (i := 3) rfl)) (hw _ (List.mem_of_getElem? (i := 2) rfl)) (by decide) (by decide)) (g := (mkF mm 80 #[.val (.int p0), .val (.int p1), .val (.int (0 : Int32)), .val (.int (1 : Int32)), .val (.ref aF), .val (.ref aT), .val (.int (1 : Int32)), .unset, .unset, .unset] [(.int (1 : Int32))])) rfl (by rw [hml]; rfl) (argsL := [(.int (1 : Int32))]) (rest := []) (lenOf pd_45 rfl) rfl (by show 2 * 0 + _ ≤ _; exact Nat.le_of_eq rfl) (hb hby at_80) (fun _ _ => ⟨rfl, e18, (by decide : 0 + 0 ≤ _), (by decide : 0 + 0 ≤ _)⟩)
      dsimp only [Pt.U, Pt.locs, Pt.cells, Pt.slots] at X19 l19 y19 z19 st19 hQ19
      subst l19 y19 z19
      obtain ⟨rfl, N19q, e19⟩ := hQ19
      have N19 := Fr.app N17 N19q
      obtain ⟨cq20, kq20, q20a, q20b, q20c⟩ := isOf hZ e19 (E_FALSE.ext O0.2)
      obtain ⟨_, _, ⟨T20, L20, k20, n20⟩, -, X20, ⟨Lc20, hQ20, l20, y20, z20⟩, st20⟩ := X19.virtualBack hx (y := (⟨"com/example/ladon/ladon/Truth", "not", "()Lcom/example/ladon/ladon/Truth;"⟩ : MethodName)) (z := (⟨"com/example/ladon/ladon/Truth", "not", "()Lcom/example/ladon/ladon/Truth;"⟩ : MethodName)) hown (mvT hZ (hw _ (List.mem_of_getElem? (i := 9) rfl))) (mvT hZ (hw _ (List.mem_of_getElem? (i := 10) rfl))) (notFace_of_selects (args := #[]) (mvT hZ (hw _ (List.mem_of_getElem? (i := 12) rfl)))) (mvT hZ (hw _ (List.mem_of_getElem? (i := 12) rfl))) (mvT hZ (hw _ (List.mem_of_getElem? (i := 11) rfl))) (by decide) (backOf (W := 1) (rmNot_aF l Z a0 hw [] aT aF aI h0 n0 O0 S_TRUE S_FALSE S_INDETERMINATE E_TRUE E_FALSE E_INDETERMINATE hTF hTI hFI) hZ (hw _ (List.mem_of_getElem? (i := 13) rfl)) (hw _ (List.mem_of_getElem? (i := 2) rfl)) (by decide) (by decide)) q20a q20c (g := (mkF mm 85 #[.val (.int p0), .val (.int p1), .val (.int (0 : Int32)), .val (.int (1 : Int32)), .val (.ref aF), .val (.ref aT), .val (.int (1 : Int32)), .unset, .unset, .unset] [(.ref aF), (.ref aT)])) rfl (by rw [hml]; rfl) (Steps.refl _) (argsL := []) (rest := [(.ref aT)]) (lenOf pd_43 rfl) rfl (by show 2 * 0 + _ ≤ _; exact Nat.le_of_eq rfl) (hb hby at_85) (fun _ _ => ⟨rfl, e19, (by decide : 0 + 0 ≤ _), (by decide : 0 + 0 ≤ _)⟩)
      dsimp only [Pt.U, Pt.locs, Pt.cells, Pt.slots] at X20 l20 y20 z20 st20 hQ20
      subst l20 y20 z20
      obtain ⟨rfl, N20q, e20⟩ := hQ20
      have N20 := Fr.app N19 N20q
      obtain ⟨_, _, ⟨T21, L21, k21, n21⟩, -, X21, ⟨Lc21, hQ21, l21, y21, z21⟩, st21⟩ := Jvm.LawKit.callS X20 hx (y := (⟨"com/example/ladon/ladon/Truth", "of", "(Z)Lcom/example/ladon/ladon/Truth;"⟩ : MethodName)) hown (mvT hZ (hw _ (List.mem_of_getElem? (i := 0) rfl))) (mvT hZ (hw _ (List.mem_of_getElem? (i := 1) rfl))) (mvT hZ (hw _ (List.mem_of_getElem? (i := 2) rfl))) (mvT hZ (hw _ (List.mem_of_getElem? (i := 3) rfl))) (by decide) (backOf (W := 0) (rmOf0 l Z a0 hw [] aT aF aI h0 n0 O0 S_TRUE S_FALSE S_INDETERMINATE E_TRUE E_FALSE E_INDETERMINATE hTF hTI hFI) hZ (hw _ (List.mem_of_getElem? (i := 3) rfl)) (hw _ (List.mem_of_getElem? (i := 2) rfl)) (by decide) (by decide)) (g := (mkF mm 111 #[.val (.int p0), .val (.int p1), .val (.int (0 : Int32)), .val (.int (1 : Int32)), .val (.ref aF), .val (.ref aT), .val (.int (1 : Int32)), .val (.int (1 : Int32)), .unset, .unset] [(.int (0 : Int32))])) rfl (by rw [hml]; rfl) (argsL := [(.int (0 : Int32))]) (rest := []) (lenOf pd_45 rfl) rfl (by show 2 * 0 + _ ≤ _; exact Nat.le_of_eq rfl) (hb hby at_111) (fun _ _ => ⟨rfl, e20, (by decide : 0 + 0 ≤ _), (by decide : 0 + 0 ≤ _)⟩)
      dsimp only [Pt.U, Pt.locs, Pt.cells, Pt.slots] at X21 l21 y21 z21 st21 hQ21
      subst l21 y21 z21
      obtain ⟨rfl, N21q, e21⟩ := hQ21
      have N21 := Fr.app N20 N21q
      obtain ⟨T22, X22, e22, st22⟩ := getS2 X21 hx hZ hown (host := "") (Or.inl (hw _ (List.mem_of_getElem? (i := 8) rfl))) Via.refl e21 (S_FALSE.ext O0.2) (g := (mkF mm 118 #[.val (.int p0), .val (.int p1), .val (.int (0 : Int32)), .val (.int (1 : Int32)), .val (.ref aF), .val (.ref aT), .val (.int (1 : Int32)), .val (.int (1 : Int32)), .unset, .unset] [(.ref aT), (.ref aF), (.ref aF)])) rfl (hb hby at_118)
      obtain ⟨cq23, kq23, q23a, q23b, q23c⟩ := isOf hZ e22 (E_FALSE.ext O0.2)
      obtain ⟨_, _, ⟨T23, L23, k23, n23⟩, -, X23, ⟨Lc23, hQ23, l23, y23, z23⟩, st23⟩ := X22.virtualBack hx (y := (⟨"com/example/ladon/ladon/Truth", "join", "(Lcom/example/ladon/ladon/Truth;Lcom/example/ladon/ladon/Truth;)Lcom/example/ladon/ladon/Truth;"⟩ : MethodName)) (z := (⟨"com/example/ladon/ladon/Truth", "join", "(Lcom/example/ladon/ladon/Truth;Lcom/example/ladon/ladon/Truth;)Lcom/example/ladon/ladon/Truth;"⟩ : MethodName)) hown (mvT hZ (hw _ (List.mem_of_getElem? (i := 14) rfl))) (mvT hZ (hw _ (List.mem_of_getElem? (i := 15) rfl))) (notFace_of_selects (args := #[]) (mvT hZ (hw _ (List.mem_of_getElem? (i := 17) rfl)))) (mvT hZ (hw _ (List.mem_of_getElem? (i := 17) rfl))) (mvT hZ (hw _ (List.mem_of_getElem? (i := 16) rfl))) (by decide) (backOf (W := 1) (rmJ_aF_aT_aF l Z a0 hw [] aT aF aI h0 n0 O0 S_TRUE S_FALSE S_INDETERMINATE E_TRUE E_FALSE E_INDETERMINATE hTF hTI hFI) hZ (hw _ (List.mem_of_getElem? (i := 18) rfl)) (hw _ (List.mem_of_getElem? (i := 2) rfl)) (by decide) (by decide)) q23a q23c (g := (mkF mm 121 #[.val (.int p0), .val (.int p1), .val (.int (0 : Int32)), .val (.int (1 : Int32)), .val (.ref aF), .val (.ref aT), .val (.int (1 : Int32)), .val (.int (1 : Int32)), .unset, .unset] [(.ref aF), (.ref aT), (.ref aF), (.ref aF)])) rfl (by rw [hml]; rfl) (Steps.refl _) (argsL := [(.ref aT), (.ref aF)]) (rest := [(.ref aF)]) (lenOf pd_46 rfl) rfl (by show 2 * 0 + _ ≤ _; exact Nat.le_of_eq rfl) (hb hby at_121) (fun _ _ => ⟨rfl, e22, (by decide : 0 + 0 ≤ _), (by decide : 0 + 0 ≤ _)⟩)
      dsimp only [Pt.U, Pt.locs, Pt.cells, Pt.slots] at X23 l23 y23 z23 st23 hQ23
      subst l23 y23 z23
      obtain ⟨rfl, N23q, e23⟩ := hQ23
      have N23 := Fr.app N21 N23q
      obtain ⟨_, _, ⟨T24, L24, k24, n24⟩, -, X24, ⟨Lc24, hQ24, l24, y24, z24⟩, st24⟩ := Jvm.LawKit.callS X23 hx (y := (⟨"com/example/ladon/ladon/Truth", "of", "(Z)Lcom/example/ladon/ladon/Truth;"⟩ : MethodName)) hown (mvT hZ (hw _ (List.mem_of_getElem? (i := 0) rfl))) (mvT hZ (hw _ (List.mem_of_getElem? (i := 1) rfl))) (mvT hZ (hw _ (List.mem_of_getElem? (i := 2) rfl))) (mvT hZ (hw _ (List.mem_of_getElem? (i := 3) rfl))) (by decide) (backOf (W := 0) (rmOf1 l Z a0 hw [] aT aF aI h0 n0 O0 S_TRUE S_FALSE S_INDETERMINATE E_TRUE E_FALSE E_INDETERMINATE hTF hTI hFI) hZ (hw _ (List.mem_of_getElem? (i := 3) rfl)) (hw _ (List.mem_of_getElem? (i := 2) rfl)) (by decide) (by decide)) (g := (mkF mm 147 #[.val (.int p0), .val (.int p1), .val (.int (0 : Int32)), .val (.int (1 : Int32)), .val (.ref aF), .val (.ref aT), .val (.int (1 : Int32)), .val (.int (1 : Int32)), .val (.int (1 : Int32)), .unset] [(.int (1 : Int32))])) rfl (by rw [hml]; rfl) (argsL := [(.int (1 : Int32))]) (rest := []) (lenOf pd_45 rfl) rfl (by show 2 * 0 + _ ≤ _; exact Nat.le_of_eq rfl) (hb hby at_147) (fun _ _ => ⟨rfl, e23, (by decide : 0 + 0 ≤ _), (by decide : 0 + 0 ≤ _)⟩)
      dsimp only [Pt.U, Pt.locs, Pt.cells, Pt.slots] at X24 l24 y24 z24 st24 hQ24
      subst l24 y24 z24
      obtain ⟨rfl, N24q, e24⟩ := hQ24
      have N24 := Fr.app N23 N24q
      obtain ⟨T25, X25, e25, st25⟩ := getS2 X24 hx hZ hown (host := "") (Or.inl (hw _ (List.mem_of_getElem? (i := 19) rfl))) Via.refl e24 (S_TRUE.ext O0.2) (g := (mkF mm 154 #[.val (.int p0), .val (.int p1), .val (.int (0 : Int32)), .val (.int (1 : Int32)), .val (.ref aF), .val (.ref aT), .val (.int (1 : Int32)), .val (.int (1 : Int32)), .val (.int (1 : Int32)), .unset] [(.ref aT), (.ref aF), (.ref aT)])) rfl (hb hby at_154)
      obtain ⟨cq26, kq26, q26a, q26b, q26c⟩ := isOf hZ e25 (E_FALSE.ext O0.2)
      obtain ⟨_, _, ⟨T26, L26, k26, n26⟩, -, X26, ⟨Lc26, hQ26, l26, y26, z26⟩, st26⟩ := X25.virtualBack hx (y := (⟨"com/example/ladon/ladon/Truth", "join", "(Lcom/example/ladon/ladon/Truth;Lcom/example/ladon/ladon/Truth;)Lcom/example/ladon/ladon/Truth;"⟩ : MethodName)) (z := (⟨"com/example/ladon/ladon/Truth", "join", "(Lcom/example/ladon/ladon/Truth;Lcom/example/ladon/ladon/Truth;)Lcom/example/ladon/ladon/Truth;"⟩ : MethodName)) hown (mvT hZ (hw _ (List.mem_of_getElem? (i := 14) rfl))) (mvT hZ (hw _ (List.mem_of_getElem? (i := 15) rfl))) (notFace_of_selects (args := #[]) (mvT hZ (hw _ (List.mem_of_getElem? (i := 17) rfl)))) (mvT hZ (hw _ (List.mem_of_getElem? (i := 17) rfl))) (mvT hZ (hw _ (List.mem_of_getElem? (i := 16) rfl))) (by decide) (backOf (W := 1) (rmJ_aF_aT_aT l Z a0 hw [] aT aF aI h0 n0 O0 S_TRUE S_FALSE S_INDETERMINATE E_TRUE E_FALSE E_INDETERMINATE hTF hTI hFI) hZ (hw _ (List.mem_of_getElem? (i := 18) rfl)) (hw _ (List.mem_of_getElem? (i := 2) rfl)) (by decide) (by decide)) q26a q26c (g := (mkF mm 157 #[.val (.int p0), .val (.int p1), .val (.int (0 : Int32)), .val (.int (1 : Int32)), .val (.ref aF), .val (.ref aT), .val (.int (1 : Int32)), .val (.int (1 : Int32)), .val (.int (1 : Int32)), .unset] [(.ref aT), (.ref aT), (.ref aF), (.ref aT)])) rfl (by rw [hml]; rfl) (Steps.refl _) (argsL := [(.ref aT), (.ref aT)]) (rest := [(.ref aT)]) (lenOf pd_46 rfl) rfl (by show 2 * 0 + _ ≤ _; exact Nat.le_of_eq rfl) (hb hby at_157) (fun _ _ => ⟨rfl, e25, (by decide : 0 + 0 ≤ _), (by decide : 0 + 0 ≤ _)⟩)
      dsimp only [Pt.U, Pt.locs, Pt.cells, Pt.slots] at X26 l26 y26 z26 st26 hQ26
      subst l26 y26 z26
      obtain ⟨rfl, N26q, e26⟩ := hQ26
      have N26 := Fr.app N24 N26q
      obtain ⟨fs, hr, hrun, hended, hW, hsame⟩ := X26.leave (v := some (.int (1 : Int32))) (fun h => by rw [Bd.returns] at h; cases h)
      refine ⟨_, _, pre3 _ ?_, hrun, hended, _, _, rfl, ?_, ⟨_, rfl⟩, hW, hsame.mono (by decide) (by decide)⟩
      · show Steps pg.tables ee below (s₁.setTop (mkF mm 15 #[.val (.int p0), .val (.int p1), .val (.int (0 : Int32)), .unset, .unset, .unset, .unset, .unset, .unset, .unset] [(.int (p1 &&& (1 : Int32)))])) _
        refine XS.ifNo X0.here hx rfl (hb hby at_15) rfl ((if0 _ _).trans (feq hc4).1) ?_
        show Steps pg.tables ee below (s₁.setTop (mkF mm 18 #[.val (.int p0), .val (.int p1), .val (.int (0 : Int32)), .unset, .unset, .unset, .unset, .unset, .unset, .unset] [])) _
        refine XS.iconst X0.here hx rfl (hb hby at_18) ?_
        show Steps pg.tables ee below (s₁.setTop (mkF mm 19 #[.val (.int p0), .val (.int p1), .val (.int (0 : Int32)), .unset, .unset, .unset, .unset, .unset, .unset, .unset] [(.int (1 : Int32))])) _
        refine XS.goto X0.here hx rfl (pc0 := 19) (pc' := 23) rfl (hb hby at_19) (by decide) (by decide) ?_
        show Steps pg.tables ee below (s₁.setTop (mkF mm 23 #[.val (.int p0), .val (.int p1), .val (.int (0 : Int32)), .unset, .unset, .unset, .unset, .unset, .unset, .unset] [(.int (1 : Int32))])) _
        refine XS.istoreN X0.here hx rfl (hb hby at_23) rfl (l' := #[.val (.int p0), .val (.int p1), .val (.int (0 : Int32)), .val (.int (1 : Int32)), .unset, .unset, .unset, .unset, .unset, .unset]) rfl ?_
        show Steps pg.tables ee below (s₁.setTop (mkF mm 24 #[.val (.int p0), .val (.int p1), .val (.int (0 : Int32)), .val (.int (1 : Int32)), .unset, .unset, .unset, .unset, .unset, .unset] [])) _
        refine XS.iloadN X0.here hx rfl (hb hby at_24) rfl ?_
        show Steps pg.tables ee below (s₁.setTop (mkF mm 25 #[.val (.int p0), .val (.int p1), .val (.int (0 : Int32)), .val (.int (1 : Int32)), .unset, .unset, .unset, .unset, .unset, .unset] [(.int (0 : Int32))])) _
        refine st16 _ ?_
        show Steps pg.tables ee below (T16.setTop (mkF mm 28 #[.val (.int p0), .val (.int p1), .val (.int (0 : Int32)), .val (.int (1 : Int32)), .unset, .unset, .unset, .unset, .unset, .unset] [(.ref aF)])) _
        refine XS.astore X16.here hx rfl (hb hby at_28) rfl rfl (l' := #[.val (.int p0), .val (.int p1), .val (.int (0 : Int32)), .val (.int (1 : Int32)), .val (.ref aF), .unset, .unset, .unset, .unset, .unset]) rfl ?_
        show Steps pg.tables ee below (T16.setTop (mkF mm 30 #[.val (.int p0), .val (.int p1), .val (.int (0 : Int32)), .val (.int (1 : Int32)), .val (.ref aF), .unset, .unset, .unset, .unset, .unset] [])) _
        refine XS.iloadN X16.here hx rfl (hb hby at_30) rfl ?_
        show Steps pg.tables ee below (T16.setTop (mkF mm 31 #[.val (.int p0), .val (.int p1), .val (.int (0 : Int32)), .val (.int (1 : Int32)), .val (.ref aF), .unset, .unset, .unset, .unset, .unset] [(.int (1 : Int32))])) _
        refine st17 _ ?_
        show Steps pg.tables ee below (T17.setTop (mkF mm 34 #[.val (.int p0), .val (.int p1), .val (.int (0 : Int32)), .val (.int (1 : Int32)), .val (.ref aF), .unset, .unset, .unset, .unset, .unset] [(.ref aT)])) _
        refine XS.astore X17.here hx rfl (hb hby at_34) rfl rfl (l' := #[.val (.int p0), .val (.int p1), .val (.int (0 : Int32)), .val (.int (1 : Int32)), .val (.ref aF), .val (.ref aT), .unset, .unset, .unset, .unset]) rfl ?_
        show Steps pg.tables ee below (T17.setTop (mkF mm 36 #[.val (.int p0), .val (.int p1), .val (.int (0 : Int32)), .val (.int (1 : Int32)), .val (.ref aF), .val (.ref aT), .unset, .unset, .unset, .unset] [])) _
        refine XS.iloadN X17.here hx rfl (hb hby at_36) rfl ?_
        show Steps pg.tables ee below (T17.setTop (mkF mm 37 #[.val (.int p0), .val (.int p1), .val (.int (0 : Int32)), .val (.int (1 : Int32)), .val (.ref aF), .val (.ref aT), .unset, .unset, .unset, .unset] [(.int (0 : Int32))])) _
        refine XS.ifYes X17.here hx rfl (pc0 := 37) (pc' := 56) rfl (hb hby at_37) rfl ((if0 _ _).trans (teq (by decide : (0 : Int32) = (0 : Int32))).1) (by decide) (by decide) ?_
        show Steps pg.tables ee below (T17.setTop (mkF mm 56 #[.val (.int p0), .val (.int p1), .val (.int (0 : Int32)), .val (.int (1 : Int32)), .val (.ref aF), .val (.ref aT), .unset, .unset, .unset, .unset] [])) _
        refine XS.aload X17.here hx rfl (hb hby at_56) rfl rfl ?_
        show Steps pg.tables ee below (T17.setTop (mkF mm 58 #[.val (.int p0), .val (.int p1), .val (.int (0 : Int32)), .val (.int (1 : Int32)), .val (.ref aF), .val (.ref aT), .unset, .unset, .unset, .unset] [(.ref aF)])) _
        refine st18 _ ?_
        show Steps pg.tables ee below (T18.setTop (mkF mm 61 #[.val (.int p0), .val (.int p1), .val (.int (0 : Int32)), .val (.int (1 : Int32)), .val (.ref aF), .val (.ref aT), .unset, .unset, .unset, .unset] [(.ref aF), (.ref aF)])) _
        refine Jvm.RoadKit.acmp (g := (mkF mm 61 #[.val (.int p0), .val (.int p1), .val (.int (0 : Int32)), .val (.int (1 : Int32)), .val (.ref aF), .val (.ref aT), .unset, .unset, .unset, .unset] [(.ref aF), (.ref aF)])) X18 hx rfl rfl rfl (pc0 := 61) (pc' := 64) (same := true) rfl (hb hby at_61) rfl (decide_eq_true rfl) (by decide) (by decide) ?_
        show Steps pg.tables ee below (T18.setTop (mkF mm 64 #[.val (.int p0), .val (.int p1), .val (.int (0 : Int32)), .val (.int (1 : Int32)), .val (.ref aF), .val (.ref aT), .unset, .unset, .unset, .unset] [])) _
        refine XS.iconst X18.here hx rfl (hb hby at_64) ?_
        show Steps pg.tables ee below (T18.setTop (mkF mm 65 #[.val (.int p0), .val (.int p1), .val (.int (0 : Int32)), .val (.int (1 : Int32)), .val (.ref aF), .val (.ref aT), .unset, .unset, .unset, .unset] [(.int (1 : Int32))])) _
        refine XS.goto X18.here hx rfl (pc0 := 65) (pc' := 69) rfl (hb hby at_65) (by decide) (by decide) ?_
        show Steps pg.tables ee below (T18.setTop (mkF mm 69 #[.val (.int p0), .val (.int p1), .val (.int (0 : Int32)), .val (.int (1 : Int32)), .val (.ref aF), .val (.ref aT), .unset, .unset, .unset, .unset] [(.int (1 : Int32))])) _
        refine XS.istore X18.here hx rfl (hb hby at_69) rfl (l' := #[.val (.int p0), .val (.int p1), .val (.int (0 : Int32)), .val (.int (1 : Int32)), .val (.ref aF), .val (.ref aT), .val (.int (1 : Int32)), .unset, .unset, .unset]) rfl ?_
        show Steps pg.tables ee below (T18.setTop (mkF mm 71 #[.val (.int p0), .val (.int p1), .val (.int (0 : Int32)), .val (.int (1 : Int32)), .val (.ref aF), .val (.ref aT), .val (.int (1 : Int32)), .unset, .unset, .unset] [])) _
        refine XS.iloadN X18.here hx rfl (hb hby at_71) rfl ?_
        show Steps pg.tables ee below (T18.setTop (mkF mm 72 #[.val (.int p0), .val (.int p1), .val (.int (0 : Int32)), .val (.int (1 : Int32)), .val (.ref aF), .val (.ref aT), .val (.int (1 : Int32)), .unset, .unset, .unset] [(.int (0 : Int32))])) _
        refine XS.ifNo X18.here hx rfl (hb hby at_72) rfl ((if0 _ _).trans (teq (by decide : (0 : Int32) = (0 : Int32))).2) ?_
        show Steps pg.tables ee below (T18.setTop (mkF mm 75 #[.val (.int p0), .val (.int p1), .val (.int (0 : Int32)), .val (.int (1 : Int32)), .val (.ref aF), .val (.ref aT), .val (.int (1 : Int32)), .unset, .unset, .unset] [])) _
        refine XS.iconst X18.here hx rfl (hb hby at_75) ?_
        show Steps pg.tables ee below (T18.setTop (mkF mm 76 #[.val (.int p0), .val (.int p1), .val (.int (0 : Int32)), .val (.int (1 : Int32)), .val (.ref aF), .val (.ref aT), .val (.int (1 : Int32)), .unset, .unset, .unset] [(.int (1 : Int32))])) _
        refine XS.goto X18.here hx rfl (pc0 := 76) (pc' := 80) rfl (hb hby at_76) (by decide) (by decide) ?_
        show Steps pg.tables ee below (T18.setTop (mkF mm 80 #[.val (.int p0), .val (.int p1), .val (.int (0 : Int32)), .val (.int (1 : Int32)), .val (.ref aF), .val (.ref aT), .val (.int (1 : Int32)), .unset, .unset, .unset] [(.int (1 : Int32))])) _
        refine st19 _ ?_
        show Steps pg.tables ee below (T19.setTop (mkF mm 83 #[.val (.int p0), .val (.int p1), .val (.int (0 : Int32)), .val (.int (1 : Int32)), .val (.ref aF), .val (.ref aT), .val (.int (1 : Int32)), .unset, .unset, .unset] [(.ref aT)])) _
        refine XS.aload X19.here hx rfl (hb hby at_83) rfl rfl ?_
        show Steps pg.tables ee below (T19.setTop (mkF mm 85 #[.val (.int p0), .val (.int p1), .val (.int (0 : Int32)), .val (.int (1 : Int32)), .val (.ref aF), .val (.ref aT), .val (.int (1 : Int32)), .unset, .unset, .unset] [(.ref aF), (.ref aT)])) _
        refine st20.trans ?_
        show Steps pg.tables ee below (T20.setTop (mkF mm 88 #[.val (.int p0), .val (.int p1), .val (.int (0 : Int32)), .val (.int (1 : Int32)), .val (.ref aF), .val (.ref aT), .val (.int (1 : Int32)), .unset, .unset, .unset] [(.ref aT), (.ref aT)])) _
        refine Jvm.RoadKit.acmp (g := (mkF mm 88 #[.val (.int p0), .val (.int p1), .val (.int (0 : Int32)), .val (.int (1 : Int32)), .val (.ref aF), .val (.ref aT), .val (.int (1 : Int32)), .unset, .unset, .unset] [(.ref aT), (.ref aT)])) X20 hx rfl rfl rfl (pc0 := 88) (pc' := 91) (same := true) rfl (hb hby at_88) rfl (decide_eq_true rfl) (by decide) (by decide) ?_
        show Steps pg.tables ee below (T20.setTop (mkF mm 91 #[.val (.int p0), .val (.int p1), .val (.int (0 : Int32)), .val (.int (1 : Int32)), .val (.ref aF), .val (.ref aT), .val (.int (1 : Int32)), .unset, .unset, .unset] [])) _
        refine XS.iconst X20.here hx rfl (hb hby at_91) ?_
        show Steps pg.tables ee below (T20.setTop (mkF mm 92 #[.val (.int p0), .val (.int p1), .val (.int (0 : Int32)), .val (.int (1 : Int32)), .val (.ref aF), .val (.ref aT), .val (.int (1 : Int32)), .unset, .unset, .unset] [(.int (1 : Int32))])) _
        refine XS.goto X20.here hx rfl (pc0 := 92) (pc' := 96) rfl (hb hby at_92) (by decide) (by decide) ?_
        show Steps pg.tables ee below (T20.setTop (mkF mm 96 #[.val (.int p0), .val (.int p1), .val (.int (0 : Int32)), .val (.int (1 : Int32)), .val (.ref aF), .val (.ref aT), .val (.int (1 : Int32)), .unset, .unset, .unset] [(.int (1 : Int32))])) _
        refine XS.istore X20.here hx rfl (hb hby at_96) rfl (l' := #[.val (.int p0), .val (.int p1), .val (.int (0 : Int32)), .val (.int (1 : Int32)), .val (.ref aF), .val (.ref aT), .val (.int (1 : Int32)), .val (.int (1 : Int32)), .unset, .unset]) rfl ?_
        show Steps pg.tables ee below (T20.setTop (mkF mm 98 #[.val (.int p0), .val (.int p1), .val (.int (0 : Int32)), .val (.int (1 : Int32)), .val (.ref aF), .val (.ref aT), .val (.int (1 : Int32)), .val (.int (1 : Int32)), .unset, .unset] [])) _
        refine XS.iloadN X20.here hx rfl (hb hby at_98) rfl ?_
        show Steps pg.tables ee below (T20.setTop (mkF mm 99 #[.val (.int p0), .val (.int p1), .val (.int (0 : Int32)), .val (.int (1 : Int32)), .val (.ref aF), .val (.ref aT), .val (.int (1 : Int32)), .val (.int (1 : Int32)), .unset, .unset] [(.int (0 : Int32))])) _
        refine XS.ifYes X20.here hx rfl (pc0 := 99) (pc' := 110) rfl (hb hby at_99) rfl ((if0 _ _).trans (teq (by decide : (0 : Int32) = (0 : Int32))).1) (by decide) (by decide) ?_
        show Steps pg.tables ee below (T20.setTop (mkF mm 110 #[.val (.int p0), .val (.int p1), .val (.int (0 : Int32)), .val (.int (1 : Int32)), .val (.ref aF), .val (.ref aT), .val (.int (1 : Int32)), .val (.int (1 : Int32)), .unset, .unset] [])) _
        refine XS.iconst X20.here hx rfl (hb hby at_110) ?_
        show Steps pg.tables ee below (T20.setTop (mkF mm 111 #[.val (.int p0), .val (.int p1), .val (.int (0 : Int32)), .val (.int (1 : Int32)), .val (.ref aF), .val (.ref aT), .val (.int (1 : Int32)), .val (.int (1 : Int32)), .unset, .unset] [(.int (0 : Int32))])) _
        refine st21 _ ?_
        show Steps pg.tables ee below (T21.setTop (mkF mm 114 #[.val (.int p0), .val (.int p1), .val (.int (0 : Int32)), .val (.int (1 : Int32)), .val (.ref aF), .val (.ref aT), .val (.int (1 : Int32)), .val (.int (1 : Int32)), .unset, .unset] [(.ref aF)])) _
        refine XS.aload X21.here hx rfl (hb hby at_114) rfl rfl ?_
        show Steps pg.tables ee below (T21.setTop (mkF mm 116 #[.val (.int p0), .val (.int p1), .val (.int (0 : Int32)), .val (.int (1 : Int32)), .val (.ref aF), .val (.ref aT), .val (.int (1 : Int32)), .val (.int (1 : Int32)), .unset, .unset] [(.ref aF), (.ref aF)])) _
        refine XS.aload X21.here hx rfl (hb hby at_116) rfl rfl ?_
        show Steps pg.tables ee below (T21.setTop (mkF mm 118 #[.val (.int p0), .val (.int p1), .val (.int (0 : Int32)), .val (.int (1 : Int32)), .val (.ref aF), .val (.ref aT), .val (.int (1 : Int32)), .val (.int (1 : Int32)), .unset, .unset] [(.ref aT), (.ref aF), (.ref aF)])) _
        refine st22 _ ?_
        show Steps pg.tables ee below (T22.setTop (mkF mm 121 #[.val (.int p0), .val (.int p1), .val (.int (0 : Int32)), .val (.int (1 : Int32)), .val (.ref aF), .val (.ref aT), .val (.int (1 : Int32)), .val (.int (1 : Int32)), .unset, .unset] [(.ref aF), (.ref aT), (.ref aF), (.ref aF)])) _
        refine st23.trans ?_
        show Steps pg.tables ee below (T23.setTop (mkF mm 124 #[.val (.int p0), .val (.int p1), .val (.int (0 : Int32)), .val (.int (1 : Int32)), .val (.ref aF), .val (.ref aT), .val (.int (1 : Int32)), .val (.int (1 : Int32)), .unset, .unset] [(.ref aF), (.ref aF)])) _
        refine Jvm.RoadKit.acmp (g := (mkF mm 124 #[.val (.int p0), .val (.int p1), .val (.int (0 : Int32)), .val (.int (1 : Int32)), .val (.ref aF), .val (.ref aT), .val (.int (1 : Int32)), .val (.int (1 : Int32)), .unset, .unset] [(.ref aF), (.ref aF)])) X23 hx rfl rfl rfl (pc0 := 124) (pc' := 127) (same := true) rfl (hb hby at_124) rfl (decide_eq_true rfl) (by decide) (by decide) ?_
        show Steps pg.tables ee below (T23.setTop (mkF mm 127 #[.val (.int p0), .val (.int p1), .val (.int (0 : Int32)), .val (.int (1 : Int32)), .val (.ref aF), .val (.ref aT), .val (.int (1 : Int32)), .val (.int (1 : Int32)), .unset, .unset] [])) _
        refine XS.iconst X23.here hx rfl (hb hby at_127) ?_
        show Steps pg.tables ee below (T23.setTop (mkF mm 128 #[.val (.int p0), .val (.int p1), .val (.int (0 : Int32)), .val (.int (1 : Int32)), .val (.ref aF), .val (.ref aT), .val (.int (1 : Int32)), .val (.int (1 : Int32)), .unset, .unset] [(.int (1 : Int32))])) _
        refine XS.goto X23.here hx rfl (pc0 := 128) (pc' := 132) rfl (hb hby at_128) (by decide) (by decide) ?_
        show Steps pg.tables ee below (T23.setTop (mkF mm 132 #[.val (.int p0), .val (.int p1), .val (.int (0 : Int32)), .val (.int (1 : Int32)), .val (.ref aF), .val (.ref aT), .val (.int (1 : Int32)), .val (.int (1 : Int32)), .unset, .unset] [(.int (1 : Int32))])) _
        refine XS.istore X23.here hx rfl (hb hby at_132) rfl (l' := #[.val (.int p0), .val (.int p1), .val (.int (0 : Int32)), .val (.int (1 : Int32)), .val (.ref aF), .val (.ref aT), .val (.int (1 : Int32)), .val (.int (1 : Int32)), .val (.int (1 : Int32)), .unset]) rfl ?_
        show Steps pg.tables ee below (T23.setTop (mkF mm 134 #[.val (.int p0), .val (.int p1), .val (.int (0 : Int32)), .val (.int (1 : Int32)), .val (.ref aF), .val (.ref aT), .val (.int (1 : Int32)), .val (.int (1 : Int32)), .val (.int (1 : Int32)), .unset] [])) _
        refine XS.iloadN X23.here hx rfl (hb hby at_134) rfl ?_
        show Steps pg.tables ee below (T23.setTop (mkF mm 135 #[.val (.int p0), .val (.int p1), .val (.int (0 : Int32)), .val (.int (1 : Int32)), .val (.ref aF), .val (.ref aT), .val (.int (1 : Int32)), .val (.int (1 : Int32)), .val (.int (1 : Int32)), .unset] [(.int (0 : Int32))])) _
        refine XS.ifNo X23.here hx rfl (hb hby at_135) rfl ((if0 _ _).trans (teq (by decide : (0 : Int32) = (0 : Int32))).2) ?_
        show Steps pg.tables ee below (T23.setTop (mkF mm 138 #[.val (.int p0), .val (.int p1), .val (.int (0 : Int32)), .val (.int (1 : Int32)), .val (.ref aF), .val (.ref aT), .val (.int (1 : Int32)), .val (.int (1 : Int32)), .val (.int (1 : Int32)), .unset] [])) _
        refine XS.iloadN X23.here hx rfl (hb hby at_138) rfl ?_
        show Steps pg.tables ee below (T23.setTop (mkF mm 139 #[.val (.int p0), .val (.int p1), .val (.int (0 : Int32)), .val (.int (1 : Int32)), .val (.ref aF), .val (.ref aT), .val (.int (1 : Int32)), .val (.int (1 : Int32)), .val (.int (1 : Int32)), .unset] [(.int (1 : Int32))])) _
        refine XS.ifNo X23.here hx rfl (hb hby at_139) rfl ((if0 _ _).trans (feq (by decide : ¬ ((1 : Int32) = (0 : Int32)))).1) ?_
        show Steps pg.tables ee below (T23.setTop (mkF mm 142 #[.val (.int p0), .val (.int p1), .val (.int (0 : Int32)), .val (.int (1 : Int32)), .val (.ref aF), .val (.ref aT), .val (.int (1 : Int32)), .val (.int (1 : Int32)), .val (.int (1 : Int32)), .unset] [])) _
        refine XS.iconst X23.here hx rfl (hb hby at_142) ?_
        show Steps pg.tables ee below (T23.setTop (mkF mm 143 #[.val (.int p0), .val (.int p1), .val (.int (0 : Int32)), .val (.int (1 : Int32)), .val (.ref aF), .val (.ref aT), .val (.int (1 : Int32)), .val (.int (1 : Int32)), .val (.int (1 : Int32)), .unset] [(.int (1 : Int32))])) _
        refine XS.goto X23.here hx rfl (pc0 := 143) (pc' := 147) rfl (hb hby at_143) (by decide) (by decide) ?_
        show Steps pg.tables ee below (T23.setTop (mkF mm 147 #[.val (.int p0), .val (.int p1), .val (.int (0 : Int32)), .val (.int (1 : Int32)), .val (.ref aF), .val (.ref aT), .val (.int (1 : Int32)), .val (.int (1 : Int32)), .val (.int (1 : Int32)), .unset] [(.int (1 : Int32))])) _
        refine st24 _ ?_
        show Steps pg.tables ee below (T24.setTop (mkF mm 150 #[.val (.int p0), .val (.int p1), .val (.int (0 : Int32)), .val (.int (1 : Int32)), .val (.ref aF), .val (.ref aT), .val (.int (1 : Int32)), .val (.int (1 : Int32)), .val (.int (1 : Int32)), .unset] [(.ref aT)])) _
        refine XS.aload X24.here hx rfl (hb hby at_150) rfl rfl ?_
        show Steps pg.tables ee below (T24.setTop (mkF mm 152 #[.val (.int p0), .val (.int p1), .val (.int (0 : Int32)), .val (.int (1 : Int32)), .val (.ref aF), .val (.ref aT), .val (.int (1 : Int32)), .val (.int (1 : Int32)), .val (.int (1 : Int32)), .unset] [(.ref aF), (.ref aT)])) _
        refine XS.aload X24.here hx rfl (hb hby at_152) rfl rfl ?_
        show Steps pg.tables ee below (T24.setTop (mkF mm 154 #[.val (.int p0), .val (.int p1), .val (.int (0 : Int32)), .val (.int (1 : Int32)), .val (.ref aF), .val (.ref aT), .val (.int (1 : Int32)), .val (.int (1 : Int32)), .val (.int (1 : Int32)), .unset] [(.ref aT), (.ref aF), (.ref aT)])) _
        refine st25 _ ?_
        show Steps pg.tables ee below (T25.setTop (mkF mm 157 #[.val (.int p0), .val (.int p1), .val (.int (0 : Int32)), .val (.int (1 : Int32)), .val (.ref aF), .val (.ref aT), .val (.int (1 : Int32)), .val (.int (1 : Int32)), .val (.int (1 : Int32)), .unset] [(.ref aT), (.ref aT), (.ref aF), (.ref aT)])) _
        refine st26.trans ?_
        show Steps pg.tables ee below (T26.setTop (mkF mm 160 #[.val (.int p0), .val (.int p1), .val (.int (0 : Int32)), .val (.int (1 : Int32)), .val (.ref aF), .val (.ref aT), .val (.int (1 : Int32)), .val (.int (1 : Int32)), .val (.int (1 : Int32)), .unset] [(.ref aT), (.ref aT)])) _
        refine Jvm.RoadKit.acmp (g := (mkF mm 160 #[.val (.int p0), .val (.int p1), .val (.int (0 : Int32)), .val (.int (1 : Int32)), .val (.ref aF), .val (.ref aT), .val (.int (1 : Int32)), .val (.int (1 : Int32)), .val (.int (1 : Int32)), .unset] [(.ref aT), (.ref aT)])) X26 hx rfl rfl rfl (pc0 := 160) (pc' := 163) (same := true) rfl (hb hby at_160) rfl (decide_eq_true rfl) (by decide) (by decide) ?_
        show Steps pg.tables ee below (T26.setTop (mkF mm 163 #[.val (.int p0), .val (.int p1), .val (.int (0 : Int32)), .val (.int (1 : Int32)), .val (.ref aF), .val (.ref aT), .val (.int (1 : Int32)), .val (.int (1 : Int32)), .val (.int (1 : Int32)), .unset] [])) _
        refine XS.iconst X26.here hx rfl (hb hby at_163) ?_
        show Steps pg.tables ee below (T26.setTop (mkF mm 164 #[.val (.int p0), .val (.int p1), .val (.int (0 : Int32)), .val (.int (1 : Int32)), .val (.ref aF), .val (.ref aT), .val (.int (1 : Int32)), .val (.int (1 : Int32)), .val (.int (1 : Int32)), .unset] [(.int (1 : Int32))])) _
        refine XS.goto X26.here hx rfl (pc0 := 164) (pc' := 168) rfl (hb hby at_164) (by decide) (by decide) ?_
        show Steps pg.tables ee below (T26.setTop (mkF mm 168 #[.val (.int p0), .val (.int p1), .val (.int (0 : Int32)), .val (.int (1 : Int32)), .val (.ref aF), .val (.ref aT), .val (.int (1 : Int32)), .val (.int (1 : Int32)), .val (.int (1 : Int32)), .unset] [(.int (1 : Int32))])) _
        refine XS.istore X26.here hx rfl (hb hby at_168) rfl (l' := #[.val (.int p0), .val (.int p1), .val (.int (0 : Int32)), .val (.int (1 : Int32)), .val (.ref aF), .val (.ref aT), .val (.int (1 : Int32)), .val (.int (1 : Int32)), .val (.int (1 : Int32)), .val (.int (1 : Int32))]) rfl ?_
        show Steps pg.tables ee below (T26.setTop (mkF mm 170 #[.val (.int p0), .val (.int p1), .val (.int (0 : Int32)), .val (.int (1 : Int32)), .val (.ref aF), .val (.ref aT), .val (.int (1 : Int32)), .val (.int (1 : Int32)), .val (.int (1 : Int32)), .val (.int (1 : Int32))] [])) _
        refine XS.iload X26.here hx rfl (hb hby at_170) rfl ?_
        show Steps pg.tables ee below (T26.setTop (mkF mm 172 #[.val (.int p0), .val (.int p1), .val (.int (0 : Int32)), .val (.int (1 : Int32)), .val (.ref aF), .val (.ref aT), .val (.int (1 : Int32)), .val (.int (1 : Int32)), .val (.int (1 : Int32)), .val (.int (1 : Int32))] [(.int (1 : Int32))])) _
        refine XS.ifNo X26.here hx rfl (hb hby at_172) rfl ((if0 _ _).trans (feq (by decide : ¬ ((1 : Int32) = (0 : Int32)))).1) ?_
        show Steps pg.tables ee below (T26.setTop (mkF mm 175 #[.val (.int p0), .val (.int p1), .val (.int (0 : Int32)), .val (.int (1 : Int32)), .val (.ref aF), .val (.ref aT), .val (.int (1 : Int32)), .val (.int (1 : Int32)), .val (.int (1 : Int32)), .val (.int (1 : Int32))] [])) _
        refine XS.iload X26.here hx rfl (hb hby at_175) rfl ?_
        show Steps pg.tables ee below (T26.setTop (mkF mm 177 #[.val (.int p0), .val (.int p1), .val (.int (0 : Int32)), .val (.int (1 : Int32)), .val (.ref aF), .val (.ref aT), .val (.int (1 : Int32)), .val (.int (1 : Int32)), .val (.int (1 : Int32)), .val (.int (1 : Int32))] [(.int (1 : Int32))])) _
        refine XS.ifNo X26.here hx rfl (hb hby at_177) rfl ((if0 _ _).trans (feq (by decide : ¬ ((1 : Int32) = (0 : Int32)))).1) ?_
        show Steps pg.tables ee below (T26.setTop (mkF mm 180 #[.val (.int p0), .val (.int p1), .val (.int (0 : Int32)), .val (.int (1 : Int32)), .val (.ref aF), .val (.ref aT), .val (.int (1 : Int32)), .val (.int (1 : Int32)), .val (.int (1 : Int32)), .val (.int (1 : Int32))] [])) _
        refine XS.iload X26.here hx rfl (hb hby at_180) rfl ?_
        show Steps pg.tables ee below (T26.setTop (mkF mm 182 #[.val (.int p0), .val (.int p1), .val (.int (0 : Int32)), .val (.int (1 : Int32)), .val (.ref aF), .val (.ref aT), .val (.int (1 : Int32)), .val (.int (1 : Int32)), .val (.int (1 : Int32)), .val (.int (1 : Int32))] [(.int (1 : Int32))])) _
        refine XS.ifNo X26.here hx rfl (hb hby at_182) rfl ((if0 _ _).trans (feq (by decide : ¬ ((1 : Int32) = (0 : Int32)))).1) ?_
        show Steps pg.tables ee below (T26.setTop (mkF mm 185 #[.val (.int p0), .val (.int p1), .val (.int (0 : Int32)), .val (.int (1 : Int32)), .val (.ref aF), .val (.ref aT), .val (.int (1 : Int32)), .val (.int (1 : Int32)), .val (.int (1 : Int32)), .val (.int (1 : Int32))] [])) _
        refine XS.iload X26.here hx rfl (hb hby at_185) rfl ?_
        show Steps pg.tables ee below (T26.setTop (mkF mm 187 #[.val (.int p0), .val (.int p1), .val (.int (0 : Int32)), .val (.int (1 : Int32)), .val (.ref aF), .val (.ref aT), .val (.int (1 : Int32)), .val (.int (1 : Int32)), .val (.int (1 : Int32)), .val (.int (1 : Int32))] [(.int (1 : Int32))])) _
        refine XS.ifNo X26.here hx rfl (hb hby at_187) rfl ((if0 _ _).trans (feq (by decide : ¬ ((1 : Int32) = (0 : Int32)))).1) ?_
        show Steps pg.tables ee below (T26.setTop (mkF mm 190 #[.val (.int p0), .val (.int p1), .val (.int (0 : Int32)), .val (.int (1 : Int32)), .val (.ref aF), .val (.ref aT), .val (.int (1 : Int32)), .val (.int (1 : Int32)), .val (.int (1 : Int32)), .val (.int (1 : Int32))] [])) _
        refine XS.iconst X26.here hx rfl (hb hby at_190) ?_
        show Steps pg.tables ee below (T26.setTop (mkF mm 191 #[.val (.int p0), .val (.int p1), .val (.int (0 : Int32)), .val (.int (1 : Int32)), .val (.ref aF), .val (.ref aT), .val (.int (1 : Int32)), .val (.int (1 : Int32)), .val (.int (1 : Int32)), .val (.int (1 : Int32))] [(.int (1 : Int32))])) _
        refine XS.goto X26.here hx rfl (pc0 := 191) (pc' := 195) rfl (hb hby at_191) (by decide) (by decide) ?_
        show Steps pg.tables ee below (T26.setTop (mkF mm 195 #[.val (.int p0), .val (.int p1), .val (.int (0 : Int32)), .val (.int (1 : Int32)), .val (.ref aF), .val (.ref aT), .val (.int (1 : Int32)), .val (.int (1 : Int32)), .val (.int (1 : Int32)), .val (.int (1 : Int32))] [(.int (1 : Int32))])) _
        exact retN X26 hx (t := .boolean) Bd.returns (by simp) (hb hby at_195) hr
      · show Qrm0 Z p0 p1 aT aF aI h0 n0 _ T26.heap _
        rw [e26]
        exact ⟨rfl, N26⟩
  · have pre27 : ∀ t, Steps pg.tables ee below (s₁.setTop (mkF mm 15 #[.val (.int p0), .val (.int p1), .val (.int (1 : Int32)), .unset, .unset, .unset, .unset, .unset, .unset, .unset] [(.int (p1 &&& (1 : Int32)))])) t → Steps pg.tables ee below (s₁.setTop (entryFrame mm #[(.int p0), (.int p1)] maxLocals)) t := fun t k => pre1 t (by
        show Steps pg.tables ee below (s₁.setTop (mkF mm 3 #[.val (.int p0), .val (.int p1), .unset, .unset, .unset, .unset, .unset, .unset, .unset, .unset] [(.int (p0 &&& (1 : Int32)))])) _
        refine XS.ifNo X0.here hx rfl (hb hby at_3) rfl ((if0 _ _).trans (feq hc2).1) ?_
        show Steps pg.tables ee below (s₁.setTop (mkF mm 6 #[.val (.int p0), .val (.int p1), .unset, .unset, .unset, .unset, .unset, .unset, .unset, .unset] [])) _
        refine XS.iconst X0.here hx rfl (hb hby at_6) ?_
        show Steps pg.tables ee below (s₁.setTop (mkF mm 7 #[.val (.int p0), .val (.int p1), .unset, .unset, .unset, .unset, .unset, .unset, .unset, .unset] [(.int (1 : Int32))])) _
        refine XS.goto X0.here hx rfl (pc0 := 7) (pc' := 11) rfl (hb hby at_7) (by decide) (by decide) ?_
        show Steps pg.tables ee below (s₁.setTop (mkF mm 11 #[.val (.int p0), .val (.int p1), .unset, .unset, .unset, .unset, .unset, .unset, .unset, .unset] [(.int (1 : Int32))])) _
        refine XS.istoreN X0.here hx rfl (hb hby at_11) rfl (l' := #[.val (.int p0), .val (.int p1), .val (.int (1 : Int32)), .unset, .unset, .unset, .unset, .unset, .unset, .unset]) rfl ?_
        show Steps pg.tables ee below (s₁.setTop (mkF mm 12 #[.val (.int p0), .val (.int p1), .val (.int (1 : Int32)), .unset, .unset, .unset, .unset, .unset, .unset, .unset] [])) _
        refine XS.iloadN X0.here hx rfl (hb hby at_12) rfl ?_
        show Steps pg.tables ee below (s₁.setTop (mkF mm 13 #[.val (.int p0), .val (.int p1), .val (.int (1 : Int32)), .unset, .unset, .unset, .unset, .unset, .unset, .unset] [(.int p1)])) _
        refine XS.iconst X0.here hx rfl (hb hby at_13) ?_
        show Steps pg.tables ee below (s₁.setTop (mkF mm 14 #[.val (.int p0), .val (.int p1), .val (.int (1 : Int32)), .unset, .unset, .unset, .unset, .unset, .unset, .unset] [(.int (1 : Int32)), (.int p1)])) _
        refine XS.iand X0.here hx rfl (hb hby at_14) rfl ?_
        exact k)
    by_cases hc28 : (p1 &&& (1 : Int32)) = (0 : Int32)
    · obtain ⟨_, _, ⟨T29, L29, k29, n29⟩, -, X29, ⟨Lc29, hQ29, l29, y29, z29⟩, st29⟩ := Jvm.LawKit.callS X0 hx (y := (⟨"com/example/ladon/ladon/Truth", "of", "(Z)Lcom/example/ladon/ladon/Truth;"⟩ : MethodName)) hown (mvT hZ (hw _ (List.mem_of_getElem? (i := 0) rfl))) (mvT hZ (hw _ (List.mem_of_getElem? (i := 1) rfl))) (mvT hZ (hw _ (List.mem_of_getElem? (i := 2) rfl))) (mvT hZ (hw _ (List.mem_of_getElem? (i := 3) rfl))) (by decide) (backOf (W := 0) (rmOf1 l Z a0 hw [] aT aF aI h0 n0 O0 S_TRUE S_FALSE S_INDETERMINATE E_TRUE E_FALSE E_INDETERMINATE hTF hTI hFI) hZ (hw _ (List.mem_of_getElem? (i := 3) rfl)) (hw _ (List.mem_of_getElem? (i := 2) rfl)) (by decide) (by decide)) (g := (mkF mm 25 #[.val (.int p0), .val (.int p1), .val (.int (1 : Int32)), .val (.int (0 : Int32)), .unset, .unset, .unset, .unset, .unset, .unset] [(.int (1 : Int32))])) rfl (by rw [hml]; rfl) (argsL := [(.int (1 : Int32))]) (rest := []) (lenOf pd_45 rfl) rfl (by show 2 * 0 + _ ≤ _; exact Nat.le_of_eq rfl) (hb hby at_25) (fun _ _ => ⟨rfl, e0, (by decide : 0 + 0 ≤ _), (by decide : 0 + 0 ≤ _)⟩)
      dsimp only [Pt.U, Pt.locs, Pt.cells, Pt.slots] at X29 l29 y29 z29 st29 hQ29
      subst l29 y29 z29
      obtain ⟨rfl, N29q, e29⟩ := hQ29
      have N29 := Fr.app N0 N29q
      obtain ⟨_, _, ⟨T30, L30, k30, n30⟩, -, X30, ⟨Lc30, hQ30, l30, y30, z30⟩, st30⟩ := Jvm.LawKit.callS X29 hx (y := (⟨"com/example/ladon/ladon/Truth", "of", "(Z)Lcom/example/ladon/ladon/Truth;"⟩ : MethodName)) hown (mvT hZ (hw _ (List.mem_of_getElem? (i := 0) rfl))) (mvT hZ (hw _ (List.mem_of_getElem? (i := 1) rfl))) (mvT hZ (hw _ (List.mem_of_getElem? (i := 2) rfl))) (mvT hZ (hw _ (List.mem_of_getElem? (i := 3) rfl))) (by decide) (backOf (W := 0) (rmOf0 l Z a0 hw [] aT aF aI h0 n0 O0 S_TRUE S_FALSE S_INDETERMINATE E_TRUE E_FALSE E_INDETERMINATE hTF hTI hFI) hZ (hw _ (List.mem_of_getElem? (i := 3) rfl)) (hw _ (List.mem_of_getElem? (i := 2) rfl)) (by decide) (by decide)) (g := (mkF mm 31 #[.val (.int p0), .val (.int p1), .val (.int (1 : Int32)), .val (.int (0 : Int32)), .val (.ref aT), .unset, .unset, .unset, .unset, .unset] [(.int (0 : Int32))])) rfl (by rw [hml]; rfl) (argsL := [(.int (0 : Int32))]) (rest := []) (lenOf pd_45 rfl) rfl (by show 2 * 0 + _ ≤ _; exact Nat.le_of_eq rfl) (hb hby at_31) (fun _ _ => ⟨rfl, e29, (by decide : 0 + 0 ≤ _), (by decide : 0 + 0 ≤ _)⟩)
      dsimp only [Pt.U, Pt.locs, Pt.cells, Pt.slots] at X30 l30 y30 z30 st30 hQ30
      subst l30 y30 z30
      obtain ⟨rfl, N30q, e30⟩ := hQ30
      have N30 := Fr.app N29 N30q
      obtain ⟨T31, X31, e31, st31⟩ := getS2 X30 hx hZ hown (host := "") (Or.inl (hw _ (List.mem_of_getElem? (i := 19) rfl))) Via.refl e30 (S_TRUE.ext O0.2) (g := (mkF mm 42 #[.val (.int p0), .val (.int p1), .val (.int (1 : Int32)), .val (.int (0 : Int32)), .val (.ref aT), .val (.ref aF), .unset, .unset, .unset, .unset] [(.ref aT)])) rfl (hb hby at_42)
      obtain ⟨_, _, ⟨T32, L32, k32, n32⟩, -, X32, ⟨Lc32, hQ32, l32, y32, z32⟩, st32⟩ := Jvm.LawKit.callS X31 hx (y := (⟨"com/example/ladon/ladon/Truth", "of", "(Z)Lcom/example/ladon/ladon/Truth;"⟩ : MethodName)) hown (mvT hZ (hw _ (List.mem_of_getElem? (i := 0) rfl))) (mvT hZ (hw _ (List.mem_of_getElem? (i := 1) rfl))) (mvT hZ (hw _ (List.mem_of_getElem? (i := 2) rfl))) (mvT hZ (hw _ (List.mem_of_getElem? (i := 3) rfl))) (by decide) (backOf (W := 0) (rmOf0 l Z a0 hw [] aT aF aI h0 n0 O0 S_TRUE S_FALSE S_INDETERMINATE E_TRUE E_FALSE E_INDETERMINATE hTF hTI hFI) hZ (hw _ (List.mem_of_getElem? (i := 3) rfl)) (hw _ (List.mem_of_getElem? (i := 2) rfl)) (by decide) (by decide)) (g := (mkF mm 80 #[.val (.int p0), .val (.int p1), .val (.int (1 : Int32)), .val (.int (0 : Int32)), .val (.ref aT), .val (.ref aF), .val (.int (1 : Int32)), .unset, .unset, .unset] [(.int (0 : Int32))])) rfl (by rw [hml]; rfl) (argsL := [(.int (0 : Int32))]) (rest := []) (lenOf pd_45 rfl) rfl (by show 2 * 0 + _ ≤ _; exact Nat.le_of_eq rfl) (hb hby at_80) (fun _ _ => ⟨rfl, e31, (by decide : 0 + 0 ≤ _), (by decide : 0 + 0 ≤ _)⟩)
      dsimp only [Pt.U, Pt.locs, Pt.cells, Pt.slots] at X32 l32 y32 z32 st32 hQ32
      subst l32 y32 z32
      obtain ⟨rfl, N32q, e32⟩ := hQ32
      have N32 := Fr.app N30 N32q
      obtain ⟨cq33, kq33, q33a, q33b, q33c⟩ := isOf hZ e32 (E_TRUE.ext O0.2)
      obtain ⟨_, _, ⟨T33, L33, k33, n33⟩, -, X33, ⟨Lc33, hQ33, l33, y33, z33⟩, st33⟩ := X32.virtualBack hx (y := (⟨"com/example/ladon/ladon/Truth", "not", "()Lcom/example/ladon/ladon/Truth;"⟩ : MethodName)) (z := (⟨"com/example/ladon/ladon/Truth", "not", "()Lcom/example/ladon/ladon/Truth;"⟩ : MethodName)) hown (mvT hZ (hw _ (List.mem_of_getElem? (i := 9) rfl))) (mvT hZ (hw _ (List.mem_of_getElem? (i := 10) rfl))) (notFace_of_selects (args := #[]) (mvT hZ (hw _ (List.mem_of_getElem? (i := 12) rfl)))) (mvT hZ (hw _ (List.mem_of_getElem? (i := 12) rfl))) (mvT hZ (hw _ (List.mem_of_getElem? (i := 11) rfl))) (by decide) (backOf (W := 1) (rmNot_aT l Z a0 hw [] aT aF aI h0 n0 O0 S_TRUE S_FALSE S_INDETERMINATE E_TRUE E_FALSE E_INDETERMINATE hTF hTI hFI) hZ (hw _ (List.mem_of_getElem? (i := 13) rfl)) (hw _ (List.mem_of_getElem? (i := 2) rfl)) (by decide) (by decide)) q33a q33c (g := (mkF mm 85 #[.val (.int p0), .val (.int p1), .val (.int (1 : Int32)), .val (.int (0 : Int32)), .val (.ref aT), .val (.ref aF), .val (.int (1 : Int32)), .unset, .unset, .unset] [(.ref aT), (.ref aF)])) rfl (by rw [hml]; rfl) (Steps.refl _) (argsL := []) (rest := [(.ref aF)]) (lenOf pd_43 rfl) rfl (by show 2 * 0 + _ ≤ _; exact Nat.le_of_eq rfl) (hb hby at_85) (fun _ _ => ⟨rfl, e32, (by decide : 0 + 0 ≤ _), (by decide : 0 + 0 ≤ _)⟩)
      dsimp only [Pt.U, Pt.locs, Pt.cells, Pt.slots] at X33 l33 y33 z33 st33 hQ33
      subst l33 y33 z33
      obtain ⟨rfl, N33q, e33⟩ := hQ33
      have N33 := Fr.app N32 N33q
      obtain ⟨_, _, ⟨T34, L34, k34, n34⟩, -, X34, ⟨Lc34, hQ34, l34, y34, z34⟩, st34⟩ := Jvm.LawKit.callS X33 hx (y := (⟨"com/example/ladon/ladon/Truth", "of", "(Z)Lcom/example/ladon/ladon/Truth;"⟩ : MethodName)) hown (mvT hZ (hw _ (List.mem_of_getElem? (i := 0) rfl))) (mvT hZ (hw _ (List.mem_of_getElem? (i := 1) rfl))) (mvT hZ (hw _ (List.mem_of_getElem? (i := 2) rfl))) (mvT hZ (hw _ (List.mem_of_getElem? (i := 3) rfl))) (by decide) (backOf (W := 0) (rmOf0 l Z a0 hw [] aT aF aI h0 n0 O0 S_TRUE S_FALSE S_INDETERMINATE E_TRUE E_FALSE E_INDETERMINATE hTF hTI hFI) hZ (hw _ (List.mem_of_getElem? (i := 3) rfl)) (hw _ (List.mem_of_getElem? (i := 2) rfl)) (by decide) (by decide)) (g := (mkF mm 111 #[.val (.int p0), .val (.int p1), .val (.int (1 : Int32)), .val (.int (0 : Int32)), .val (.ref aT), .val (.ref aF), .val (.int (1 : Int32)), .val (.int (1 : Int32)), .unset, .unset] [(.int (0 : Int32))])) rfl (by rw [hml]; rfl) (argsL := [(.int (0 : Int32))]) (rest := []) (lenOf pd_45 rfl) rfl (by show 2 * 0 + _ ≤ _; exact Nat.le_of_eq rfl) (hb hby at_111) (fun _ _ => ⟨rfl, e33, (by decide : 0 + 0 ≤ _), (by decide : 0 + 0 ≤ _)⟩)
      dsimp only [Pt.U, Pt.locs, Pt.cells, Pt.slots] at X34 l34 y34 z34 st34 hQ34
      subst l34 y34 z34
      obtain ⟨rfl, N34q, e34⟩ := hQ34
      have N34 := Fr.app N33 N34q
      obtain ⟨T35, X35, e35, st35⟩ := getS2 X34 hx hZ hown (host := "") (Or.inl (hw _ (List.mem_of_getElem? (i := 8) rfl))) Via.refl e34 (S_FALSE.ext O0.2) (g := (mkF mm 118 #[.val (.int p0), .val (.int p1), .val (.int (1 : Int32)), .val (.int (0 : Int32)), .val (.ref aT), .val (.ref aF), .val (.int (1 : Int32)), .val (.int (1 : Int32)), .unset, .unset] [(.ref aF), (.ref aT), (.ref aF)])) rfl (hb hby at_118)
      obtain ⟨cq36, kq36, q36a, q36b, q36c⟩ := isOf hZ e35 (E_TRUE.ext O0.2)
      obtain ⟨_, _, ⟨T36, L36, k36, n36⟩, -, X36, ⟨Lc36, hQ36, l36, y36, z36⟩, st36⟩ := X35.virtualBack hx (y := (⟨"com/example/ladon/ladon/Truth", "join", "(Lcom/example/ladon/ladon/Truth;Lcom/example/ladon/ladon/Truth;)Lcom/example/ladon/ladon/Truth;"⟩ : MethodName)) (z := (⟨"com/example/ladon/ladon/Truth", "join", "(Lcom/example/ladon/ladon/Truth;Lcom/example/ladon/ladon/Truth;)Lcom/example/ladon/ladon/Truth;"⟩ : MethodName)) hown (mvT hZ (hw _ (List.mem_of_getElem? (i := 14) rfl))) (mvT hZ (hw _ (List.mem_of_getElem? (i := 15) rfl))) (notFace_of_selects (args := #[]) (mvT hZ (hw _ (List.mem_of_getElem? (i := 17) rfl)))) (mvT hZ (hw _ (List.mem_of_getElem? (i := 17) rfl))) (mvT hZ (hw _ (List.mem_of_getElem? (i := 16) rfl))) (by decide) (backOf (W := 1) (rmJ_aT_aF_aF l Z a0 hw [] aT aF aI h0 n0 O0 S_TRUE S_FALSE S_INDETERMINATE E_TRUE E_FALSE E_INDETERMINATE hTF hTI hFI) hZ (hw _ (List.mem_of_getElem? (i := 18) rfl)) (hw _ (List.mem_of_getElem? (i := 2) rfl)) (by decide) (by decide)) q36a q36c (g := (mkF mm 121 #[.val (.int p0), .val (.int p1), .val (.int (1 : Int32)), .val (.int (0 : Int32)), .val (.ref aT), .val (.ref aF), .val (.int (1 : Int32)), .val (.int (1 : Int32)), .unset, .unset] [(.ref aF), (.ref aF), (.ref aT), (.ref aF)])) rfl (by rw [hml]; rfl) (Steps.refl _) (argsL := [(.ref aF), (.ref aF)]) (rest := [(.ref aF)]) (lenOf pd_46 rfl) rfl (by show 2 * 0 + _ ≤ _; exact Nat.le_of_eq rfl) (hb hby at_121) (fun _ _ => ⟨rfl, e35, (by decide : 0 + 0 ≤ _), (by decide : 0 + 0 ≤ _)⟩)
      dsimp only [Pt.U, Pt.locs, Pt.cells, Pt.slots] at X36 l36 y36 z36 st36 hQ36
      subst l36 y36 z36
      obtain ⟨rfl, N36q, e36⟩ := hQ36
      have N36 := Fr.app N34 N36q
      obtain ⟨_, _, ⟨T37, L37, k37, n37⟩, -, X37, ⟨Lc37, hQ37, l37, y37, z37⟩, st37⟩ := Jvm.LawKit.callS X36 hx (y := (⟨"com/example/ladon/ladon/Truth", "of", "(Z)Lcom/example/ladon/ladon/Truth;"⟩ : MethodName)) hown (mvT hZ (hw _ (List.mem_of_getElem? (i := 0) rfl))) (mvT hZ (hw _ (List.mem_of_getElem? (i := 1) rfl))) (mvT hZ (hw _ (List.mem_of_getElem? (i := 2) rfl))) (mvT hZ (hw _ (List.mem_of_getElem? (i := 3) rfl))) (by decide) (backOf (W := 0) (rmOf1 l Z a0 hw [] aT aF aI h0 n0 O0 S_TRUE S_FALSE S_INDETERMINATE E_TRUE E_FALSE E_INDETERMINATE hTF hTI hFI) hZ (hw _ (List.mem_of_getElem? (i := 3) rfl)) (hw _ (List.mem_of_getElem? (i := 2) rfl)) (by decide) (by decide)) (g := (mkF mm 147 #[.val (.int p0), .val (.int p1), .val (.int (1 : Int32)), .val (.int (0 : Int32)), .val (.ref aT), .val (.ref aF), .val (.int (1 : Int32)), .val (.int (1 : Int32)), .val (.int (1 : Int32)), .unset] [(.int (1 : Int32))])) rfl (by rw [hml]; rfl) (argsL := [(.int (1 : Int32))]) (rest := []) (lenOf pd_45 rfl) rfl (by show 2 * 0 + _ ≤ _; exact Nat.le_of_eq rfl) (hb hby at_147) (fun _ _ => ⟨rfl, e36, (by decide : 0 + 0 ≤ _), (by decide : 0 + 0 ≤ _)⟩)
      dsimp only [Pt.U, Pt.locs, Pt.cells, Pt.slots] at X37 l37 y37 z37 st37 hQ37
      subst l37 y37 z37
      obtain ⟨rfl, N37q, e37⟩ := hQ37
      have N37 := Fr.app N36 N37q
      obtain ⟨T38, X38, e38, st38⟩ := getS2 X37 hx hZ hown (host := "") (Or.inl (hw _ (List.mem_of_getElem? (i := 19) rfl))) Via.refl e37 (S_TRUE.ext O0.2) (g := (mkF mm 154 #[.val (.int p0), .val (.int p1), .val (.int (1 : Int32)), .val (.int (0 : Int32)), .val (.ref aT), .val (.ref aF), .val (.int (1 : Int32)), .val (.int (1 : Int32)), .val (.int (1 : Int32)), .unset] [(.ref aF), (.ref aT), (.ref aT)])) rfl (hb hby at_154)
      obtain ⟨cq39, kq39, q39a, q39b, q39c⟩ := isOf hZ e38 (E_TRUE.ext O0.2)
      obtain ⟨_, _, ⟨T39, L39, k39, n39⟩, -, X39, ⟨Lc39, hQ39, l39, y39, z39⟩, st39⟩ := X38.virtualBack hx (y := (⟨"com/example/ladon/ladon/Truth", "join", "(Lcom/example/ladon/ladon/Truth;Lcom/example/ladon/ladon/Truth;)Lcom/example/ladon/ladon/Truth;"⟩ : MethodName)) (z := (⟨"com/example/ladon/ladon/Truth", "join", "(Lcom/example/ladon/ladon/Truth;Lcom/example/ladon/ladon/Truth;)Lcom/example/ladon/ladon/Truth;"⟩ : MethodName)) hown (mvT hZ (hw _ (List.mem_of_getElem? (i := 14) rfl))) (mvT hZ (hw _ (List.mem_of_getElem? (i := 15) rfl))) (notFace_of_selects (args := #[]) (mvT hZ (hw _ (List.mem_of_getElem? (i := 17) rfl)))) (mvT hZ (hw _ (List.mem_of_getElem? (i := 17) rfl))) (mvT hZ (hw _ (List.mem_of_getElem? (i := 16) rfl))) (by decide) (backOf (W := 1) (rmJ_aT_aF_aT l Z a0 hw [] aT aF aI h0 n0 O0 S_TRUE S_FALSE S_INDETERMINATE E_TRUE E_FALSE E_INDETERMINATE hTF hTI hFI) hZ (hw _ (List.mem_of_getElem? (i := 18) rfl)) (hw _ (List.mem_of_getElem? (i := 2) rfl)) (by decide) (by decide)) q39a q39c (g := (mkF mm 157 #[.val (.int p0), .val (.int p1), .val (.int (1 : Int32)), .val (.int (0 : Int32)), .val (.ref aT), .val (.ref aF), .val (.int (1 : Int32)), .val (.int (1 : Int32)), .val (.int (1 : Int32)), .unset] [(.ref aT), (.ref aF), (.ref aT), (.ref aT)])) rfl (by rw [hml]; rfl) (Steps.refl _) (argsL := [(.ref aF), (.ref aT)]) (rest := [(.ref aT)]) (lenOf pd_46 rfl) rfl (by show 2 * 0 + _ ≤ _; exact Nat.le_of_eq rfl) (hb hby at_157) (fun _ _ => ⟨rfl, e38, (by decide : 0 + 0 ≤ _), (by decide : 0 + 0 ≤ _)⟩)
      dsimp only [Pt.U, Pt.locs, Pt.cells, Pt.slots] at X39 l39 y39 z39 st39 hQ39
      subst l39 y39 z39
      obtain ⟨rfl, N39q, e39⟩ := hQ39
      have N39 := Fr.app N37 N39q
      obtain ⟨fs, hr, hrun, hended, hW, hsame⟩ := X39.leave (v := some (.int (1 : Int32))) (fun h => by rw [Bd.returns] at h; cases h)
      refine ⟨_, _, pre27 _ ?_, hrun, hended, _, _, rfl, ?_, ⟨_, rfl⟩, hW, hsame.mono (by decide) (by decide)⟩
      · show Steps pg.tables ee below (s₁.setTop (mkF mm 15 #[.val (.int p0), .val (.int p1), .val (.int (1 : Int32)), .unset, .unset, .unset, .unset, .unset, .unset, .unset] [(.int (p1 &&& (1 : Int32)))])) _
        refine XS.ifYes X0.here hx rfl (pc0 := 15) (pc' := 22) rfl (hb hby at_15) rfl ((if0 _ _).trans (teq hc28).1) (by decide) (by decide) ?_
        show Steps pg.tables ee below (s₁.setTop (mkF mm 22 #[.val (.int p0), .val (.int p1), .val (.int (1 : Int32)), .unset, .unset, .unset, .unset, .unset, .unset, .unset] [])) _
        refine XS.iconst X0.here hx rfl (hb hby at_22) ?_
        show Steps pg.tables ee below (s₁.setTop (mkF mm 23 #[.val (.int p0), .val (.int p1), .val (.int (1 : Int32)), .unset, .unset, .unset, .unset, .unset, .unset, .unset] [(.int (0 : Int32))])) _
        refine XS.istoreN X0.here hx rfl (hb hby at_23) rfl (l' := #[.val (.int p0), .val (.int p1), .val (.int (1 : Int32)), .val (.int (0 : Int32)), .unset, .unset, .unset, .unset, .unset, .unset]) rfl ?_
        show Steps pg.tables ee below (s₁.setTop (mkF mm 24 #[.val (.int p0), .val (.int p1), .val (.int (1 : Int32)), .val (.int (0 : Int32)), .unset, .unset, .unset, .unset, .unset, .unset] [])) _
        refine XS.iloadN X0.here hx rfl (hb hby at_24) rfl ?_
        show Steps pg.tables ee below (s₁.setTop (mkF mm 25 #[.val (.int p0), .val (.int p1), .val (.int (1 : Int32)), .val (.int (0 : Int32)), .unset, .unset, .unset, .unset, .unset, .unset] [(.int (1 : Int32))])) _
        refine st29 _ ?_
        show Steps pg.tables ee below (T29.setTop (mkF mm 28 #[.val (.int p0), .val (.int p1), .val (.int (1 : Int32)), .val (.int (0 : Int32)), .unset, .unset, .unset, .unset, .unset, .unset] [(.ref aT)])) _
        refine XS.astore X29.here hx rfl (hb hby at_28) rfl rfl (l' := #[.val (.int p0), .val (.int p1), .val (.int (1 : Int32)), .val (.int (0 : Int32)), .val (.ref aT), .unset, .unset, .unset, .unset, .unset]) rfl ?_
        show Steps pg.tables ee below (T29.setTop (mkF mm 30 #[.val (.int p0), .val (.int p1), .val (.int (1 : Int32)), .val (.int (0 : Int32)), .val (.ref aT), .unset, .unset, .unset, .unset, .unset] [])) _
        refine XS.iloadN X29.here hx rfl (hb hby at_30) rfl ?_
        show Steps pg.tables ee below (T29.setTop (mkF mm 31 #[.val (.int p0), .val (.int p1), .val (.int (1 : Int32)), .val (.int (0 : Int32)), .val (.ref aT), .unset, .unset, .unset, .unset, .unset] [(.int (0 : Int32))])) _
        refine st30 _ ?_
        show Steps pg.tables ee below (T30.setTop (mkF mm 34 #[.val (.int p0), .val (.int p1), .val (.int (1 : Int32)), .val (.int (0 : Int32)), .val (.ref aT), .unset, .unset, .unset, .unset, .unset] [(.ref aF)])) _
        refine XS.astore X30.here hx rfl (hb hby at_34) rfl rfl (l' := #[.val (.int p0), .val (.int p1), .val (.int (1 : Int32)), .val (.int (0 : Int32)), .val (.ref aT), .val (.ref aF), .unset, .unset, .unset, .unset]) rfl ?_
        show Steps pg.tables ee below (T30.setTop (mkF mm 36 #[.val (.int p0), .val (.int p1), .val (.int (1 : Int32)), .val (.int (0 : Int32)), .val (.ref aT), .val (.ref aF), .unset, .unset, .unset, .unset] [])) _
        refine XS.iloadN X30.here hx rfl (hb hby at_36) rfl ?_
        show Steps pg.tables ee below (T30.setTop (mkF mm 37 #[.val (.int p0), .val (.int p1), .val (.int (1 : Int32)), .val (.int (0 : Int32)), .val (.ref aT), .val (.ref aF), .unset, .unset, .unset, .unset] [(.int (1 : Int32))])) _
        refine XS.ifNo X30.here hx rfl (hb hby at_37) rfl ((if0 _ _).trans (feq (by decide : ¬ ((1 : Int32) = (0 : Int32)))).1) ?_
        show Steps pg.tables ee below (T30.setTop (mkF mm 40 #[.val (.int p0), .val (.int p1), .val (.int (1 : Int32)), .val (.int (0 : Int32)), .val (.ref aT), .val (.ref aF), .unset, .unset, .unset, .unset] [])) _
        refine XS.aload X30.here hx rfl (hb hby at_40) rfl rfl ?_
        show Steps pg.tables ee below (T30.setTop (mkF mm 42 #[.val (.int p0), .val (.int p1), .val (.int (1 : Int32)), .val (.int (0 : Int32)), .val (.ref aT), .val (.ref aF), .unset, .unset, .unset, .unset] [(.ref aT)])) _
        refine st31 _ ?_
        show Steps pg.tables ee below (T31.setTop (mkF mm 45 #[.val (.int p0), .val (.int p1), .val (.int (1 : Int32)), .val (.int (0 : Int32)), .val (.ref aT), .val (.ref aF), .unset, .unset, .unset, .unset] [(.ref aT), (.ref aT)])) _
        refine Jvm.RoadKit.acmp (g := (mkF mm 45 #[.val (.int p0), .val (.int p1), .val (.int (1 : Int32)), .val (.int (0 : Int32)), .val (.ref aT), .val (.ref aF), .unset, .unset, .unset, .unset] [(.ref aT), (.ref aT)])) X31 hx rfl rfl rfl (pc0 := 45) (pc' := 48) (same := true) rfl (hb hby at_45) rfl (decide_eq_true rfl) (by decide) (by decide) ?_
        show Steps pg.tables ee below (T31.setTop (mkF mm 48 #[.val (.int p0), .val (.int p1), .val (.int (1 : Int32)), .val (.int (0 : Int32)), .val (.ref aT), .val (.ref aF), .unset, .unset, .unset, .unset] [])) _
        refine XS.iconst X31.here hx rfl (hb hby at_48) ?_
        show Steps pg.tables ee below (T31.setTop (mkF mm 49 #[.val (.int p0), .val (.int p1), .val (.int (1 : Int32)), .val (.int (0 : Int32)), .val (.ref aT), .val (.ref aF), .unset, .unset, .unset, .unset] [(.int (1 : Int32))])) _
        refine XS.goto X31.here hx rfl (pc0 := 49) (pc' := 69) rfl (hb hby at_49) (by decide) (by decide) ?_
        show Steps pg.tables ee below (T31.setTop (mkF mm 69 #[.val (.int p0), .val (.int p1), .val (.int (1 : Int32)), .val (.int (0 : Int32)), .val (.ref aT), .val (.ref aF), .unset, .unset, .unset, .unset] [(.int (1 : Int32))])) _
        refine XS.istore X31.here hx rfl (hb hby at_69) rfl (l' := #[.val (.int p0), .val (.int p1), .val (.int (1 : Int32)), .val (.int (0 : Int32)), .val (.ref aT), .val (.ref aF), .val (.int (1 : Int32)), .unset, .unset, .unset]) rfl ?_
        show Steps pg.tables ee below (T31.setTop (mkF mm 71 #[.val (.int p0), .val (.int p1), .val (.int (1 : Int32)), .val (.int (0 : Int32)), .val (.ref aT), .val (.ref aF), .val (.int (1 : Int32)), .unset, .unset, .unset] [])) _
        refine XS.iloadN X31.here hx rfl (hb hby at_71) rfl ?_
        show Steps pg.tables ee below (T31.setTop (mkF mm 72 #[.val (.int p0), .val (.int p1), .val (.int (1 : Int32)), .val (.int (0 : Int32)), .val (.ref aT), .val (.ref aF), .val (.int (1 : Int32)), .unset, .unset, .unset] [(.int (1 : Int32))])) _
        refine XS.ifYes X31.here hx rfl (pc0 := 72) (pc' := 79) rfl (hb hby at_72) rfl ((if0 _ _).trans (feq (by decide : ¬ ((1 : Int32) = (0 : Int32)))).2) (by decide) (by decide) ?_
        show Steps pg.tables ee below (T31.setTop (mkF mm 79 #[.val (.int p0), .val (.int p1), .val (.int (1 : Int32)), .val (.int (0 : Int32)), .val (.ref aT), .val (.ref aF), .val (.int (1 : Int32)), .unset, .unset, .unset] [])) _
        refine XS.iconst X31.here hx rfl (hb hby at_79) ?_
        show Steps pg.tables ee below (T31.setTop (mkF mm 80 #[.val (.int p0), .val (.int p1), .val (.int (1 : Int32)), .val (.int (0 : Int32)), .val (.ref aT), .val (.ref aF), .val (.int (1 : Int32)), .unset, .unset, .unset] [(.int (0 : Int32))])) _
        refine st32 _ ?_
        show Steps pg.tables ee below (T32.setTop (mkF mm 83 #[.val (.int p0), .val (.int p1), .val (.int (1 : Int32)), .val (.int (0 : Int32)), .val (.ref aT), .val (.ref aF), .val (.int (1 : Int32)), .unset, .unset, .unset] [(.ref aF)])) _
        refine XS.aload X32.here hx rfl (hb hby at_83) rfl rfl ?_
        show Steps pg.tables ee below (T32.setTop (mkF mm 85 #[.val (.int p0), .val (.int p1), .val (.int (1 : Int32)), .val (.int (0 : Int32)), .val (.ref aT), .val (.ref aF), .val (.int (1 : Int32)), .unset, .unset, .unset] [(.ref aT), (.ref aF)])) _
        refine st33.trans ?_
        show Steps pg.tables ee below (T33.setTop (mkF mm 88 #[.val (.int p0), .val (.int p1), .val (.int (1 : Int32)), .val (.int (0 : Int32)), .val (.ref aT), .val (.ref aF), .val (.int (1 : Int32)), .unset, .unset, .unset] [(.ref aF), (.ref aF)])) _
        refine Jvm.RoadKit.acmp (g := (mkF mm 88 #[.val (.int p0), .val (.int p1), .val (.int (1 : Int32)), .val (.int (0 : Int32)), .val (.ref aT), .val (.ref aF), .val (.int (1 : Int32)), .unset, .unset, .unset] [(.ref aF), (.ref aF)])) X33 hx rfl rfl rfl (pc0 := 88) (pc' := 91) (same := true) rfl (hb hby at_88) rfl (decide_eq_true rfl) (by decide) (by decide) ?_
        show Steps pg.tables ee below (T33.setTop (mkF mm 91 #[.val (.int p0), .val (.int p1), .val (.int (1 : Int32)), .val (.int (0 : Int32)), .val (.ref aT), .val (.ref aF), .val (.int (1 : Int32)), .unset, .unset, .unset] [])) _
        refine XS.iconst X33.here hx rfl (hb hby at_91) ?_
        show Steps pg.tables ee below (T33.setTop (mkF mm 92 #[.val (.int p0), .val (.int p1), .val (.int (1 : Int32)), .val (.int (0 : Int32)), .val (.ref aT), .val (.ref aF), .val (.int (1 : Int32)), .unset, .unset, .unset] [(.int (1 : Int32))])) _
        refine XS.goto X33.here hx rfl (pc0 := 92) (pc' := 96) rfl (hb hby at_92) (by decide) (by decide) ?_
        show Steps pg.tables ee below (T33.setTop (mkF mm 96 #[.val (.int p0), .val (.int p1), .val (.int (1 : Int32)), .val (.int (0 : Int32)), .val (.ref aT), .val (.ref aF), .val (.int (1 : Int32)), .unset, .unset, .unset] [(.int (1 : Int32))])) _
        refine XS.istore X33.here hx rfl (hb hby at_96) rfl (l' := #[.val (.int p0), .val (.int p1), .val (.int (1 : Int32)), .val (.int (0 : Int32)), .val (.ref aT), .val (.ref aF), .val (.int (1 : Int32)), .val (.int (1 : Int32)), .unset, .unset]) rfl ?_
        show Steps pg.tables ee below (T33.setTop (mkF mm 98 #[.val (.int p0), .val (.int p1), .val (.int (1 : Int32)), .val (.int (0 : Int32)), .val (.ref aT), .val (.ref aF), .val (.int (1 : Int32)), .val (.int (1 : Int32)), .unset, .unset] [])) _
        refine XS.iloadN X33.here hx rfl (hb hby at_98) rfl ?_
        show Steps pg.tables ee below (T33.setTop (mkF mm 99 #[.val (.int p0), .val (.int p1), .val (.int (1 : Int32)), .val (.int (0 : Int32)), .val (.ref aT), .val (.ref aF), .val (.int (1 : Int32)), .val (.int (1 : Int32)), .unset, .unset] [(.int (1 : Int32))])) _
        refine XS.ifNo X33.here hx rfl (hb hby at_99) rfl ((if0 _ _).trans (feq (by decide : ¬ ((1 : Int32) = (0 : Int32)))).1) ?_
        show Steps pg.tables ee below (T33.setTop (mkF mm 102 #[.val (.int p0), .val (.int p1), .val (.int (1 : Int32)), .val (.int (0 : Int32)), .val (.ref aT), .val (.ref aF), .val (.int (1 : Int32)), .val (.int (1 : Int32)), .unset, .unset] [])) _
        refine XS.iloadN X33.here hx rfl (hb hby at_102) rfl ?_
        show Steps pg.tables ee below (T33.setTop (mkF mm 103 #[.val (.int p0), .val (.int p1), .val (.int (1 : Int32)), .val (.int (0 : Int32)), .val (.ref aT), .val (.ref aF), .val (.int (1 : Int32)), .val (.int (1 : Int32)), .unset, .unset] [(.int (0 : Int32))])) _
        refine XS.ifYes X33.here hx rfl (pc0 := 103) (pc' := 110) rfl (hb hby at_103) rfl ((if0 _ _).trans (teq (by decide : (0 : Int32) = (0 : Int32))).1) (by decide) (by decide) ?_
        show Steps pg.tables ee below (T33.setTop (mkF mm 110 #[.val (.int p0), .val (.int p1), .val (.int (1 : Int32)), .val (.int (0 : Int32)), .val (.ref aT), .val (.ref aF), .val (.int (1 : Int32)), .val (.int (1 : Int32)), .unset, .unset] [])) _
        refine XS.iconst X33.here hx rfl (hb hby at_110) ?_
        show Steps pg.tables ee below (T33.setTop (mkF mm 111 #[.val (.int p0), .val (.int p1), .val (.int (1 : Int32)), .val (.int (0 : Int32)), .val (.ref aT), .val (.ref aF), .val (.int (1 : Int32)), .val (.int (1 : Int32)), .unset, .unset] [(.int (0 : Int32))])) _
        refine st34 _ ?_
        show Steps pg.tables ee below (T34.setTop (mkF mm 114 #[.val (.int p0), .val (.int p1), .val (.int (1 : Int32)), .val (.int (0 : Int32)), .val (.ref aT), .val (.ref aF), .val (.int (1 : Int32)), .val (.int (1 : Int32)), .unset, .unset] [(.ref aF)])) _
        refine XS.aload X34.here hx rfl (hb hby at_114) rfl rfl ?_
        show Steps pg.tables ee below (T34.setTop (mkF mm 116 #[.val (.int p0), .val (.int p1), .val (.int (1 : Int32)), .val (.int (0 : Int32)), .val (.ref aT), .val (.ref aF), .val (.int (1 : Int32)), .val (.int (1 : Int32)), .unset, .unset] [(.ref aT), (.ref aF)])) _
        refine XS.aload X34.here hx rfl (hb hby at_116) rfl rfl ?_
        show Steps pg.tables ee below (T34.setTop (mkF mm 118 #[.val (.int p0), .val (.int p1), .val (.int (1 : Int32)), .val (.int (0 : Int32)), .val (.ref aT), .val (.ref aF), .val (.int (1 : Int32)), .val (.int (1 : Int32)), .unset, .unset] [(.ref aF), (.ref aT), (.ref aF)])) _
        refine st35 _ ?_
        show Steps pg.tables ee below (T35.setTop (mkF mm 121 #[.val (.int p0), .val (.int p1), .val (.int (1 : Int32)), .val (.int (0 : Int32)), .val (.ref aT), .val (.ref aF), .val (.int (1 : Int32)), .val (.int (1 : Int32)), .unset, .unset] [(.ref aF), (.ref aF), (.ref aT), (.ref aF)])) _
        refine st36.trans ?_
        show Steps pg.tables ee below (T36.setTop (mkF mm 124 #[.val (.int p0), .val (.int p1), .val (.int (1 : Int32)), .val (.int (0 : Int32)), .val (.ref aT), .val (.ref aF), .val (.int (1 : Int32)), .val (.int (1 : Int32)), .unset, .unset] [(.ref aF), (.ref aF)])) _
        refine Jvm.RoadKit.acmp (g := (mkF mm 124 #[.val (.int p0), .val (.int p1), .val (.int (1 : Int32)), .val (.int (0 : Int32)), .val (.ref aT), .val (.ref aF), .val (.int (1 : Int32)), .val (.int (1 : Int32)), .unset, .unset] [(.ref aF), (.ref aF)])) X36 hx rfl rfl rfl (pc0 := 124) (pc' := 127) (same := true) rfl (hb hby at_124) rfl (decide_eq_true rfl) (by decide) (by decide) ?_
        show Steps pg.tables ee below (T36.setTop (mkF mm 127 #[.val (.int p0), .val (.int p1), .val (.int (1 : Int32)), .val (.int (0 : Int32)), .val (.ref aT), .val (.ref aF), .val (.int (1 : Int32)), .val (.int (1 : Int32)), .unset, .unset] [])) _
        refine XS.iconst X36.here hx rfl (hb hby at_127) ?_
        show Steps pg.tables ee below (T36.setTop (mkF mm 128 #[.val (.int p0), .val (.int p1), .val (.int (1 : Int32)), .val (.int (0 : Int32)), .val (.ref aT), .val (.ref aF), .val (.int (1 : Int32)), .val (.int (1 : Int32)), .unset, .unset] [(.int (1 : Int32))])) _
        refine XS.goto X36.here hx rfl (pc0 := 128) (pc' := 132) rfl (hb hby at_128) (by decide) (by decide) ?_
        show Steps pg.tables ee below (T36.setTop (mkF mm 132 #[.val (.int p0), .val (.int p1), .val (.int (1 : Int32)), .val (.int (0 : Int32)), .val (.ref aT), .val (.ref aF), .val (.int (1 : Int32)), .val (.int (1 : Int32)), .unset, .unset] [(.int (1 : Int32))])) _
        refine XS.istore X36.here hx rfl (hb hby at_132) rfl (l' := #[.val (.int p0), .val (.int p1), .val (.int (1 : Int32)), .val (.int (0 : Int32)), .val (.ref aT), .val (.ref aF), .val (.int (1 : Int32)), .val (.int (1 : Int32)), .val (.int (1 : Int32)), .unset]) rfl ?_
        show Steps pg.tables ee below (T36.setTop (mkF mm 134 #[.val (.int p0), .val (.int p1), .val (.int (1 : Int32)), .val (.int (0 : Int32)), .val (.ref aT), .val (.ref aF), .val (.int (1 : Int32)), .val (.int (1 : Int32)), .val (.int (1 : Int32)), .unset] [])) _
        refine XS.iloadN X36.here hx rfl (hb hby at_134) rfl ?_
        show Steps pg.tables ee below (T36.setTop (mkF mm 135 #[.val (.int p0), .val (.int p1), .val (.int (1 : Int32)), .val (.int (0 : Int32)), .val (.ref aT), .val (.ref aF), .val (.int (1 : Int32)), .val (.int (1 : Int32)), .val (.int (1 : Int32)), .unset] [(.int (1 : Int32))])) _
        refine XS.ifYes X36.here hx rfl (pc0 := 135) (pc' := 142) rfl (hb hby at_135) rfl ((if0 _ _).trans (feq (by decide : ¬ ((1 : Int32) = (0 : Int32)))).2) (by decide) (by decide) ?_
        show Steps pg.tables ee below (T36.setTop (mkF mm 142 #[.val (.int p0), .val (.int p1), .val (.int (1 : Int32)), .val (.int (0 : Int32)), .val (.ref aT), .val (.ref aF), .val (.int (1 : Int32)), .val (.int (1 : Int32)), .val (.int (1 : Int32)), .unset] [])) _
        refine XS.iconst X36.here hx rfl (hb hby at_142) ?_
        show Steps pg.tables ee below (T36.setTop (mkF mm 143 #[.val (.int p0), .val (.int p1), .val (.int (1 : Int32)), .val (.int (0 : Int32)), .val (.ref aT), .val (.ref aF), .val (.int (1 : Int32)), .val (.int (1 : Int32)), .val (.int (1 : Int32)), .unset] [(.int (1 : Int32))])) _
        refine XS.goto X36.here hx rfl (pc0 := 143) (pc' := 147) rfl (hb hby at_143) (by decide) (by decide) ?_
        show Steps pg.tables ee below (T36.setTop (mkF mm 147 #[.val (.int p0), .val (.int p1), .val (.int (1 : Int32)), .val (.int (0 : Int32)), .val (.ref aT), .val (.ref aF), .val (.int (1 : Int32)), .val (.int (1 : Int32)), .val (.int (1 : Int32)), .unset] [(.int (1 : Int32))])) _
        refine st37 _ ?_
        show Steps pg.tables ee below (T37.setTop (mkF mm 150 #[.val (.int p0), .val (.int p1), .val (.int (1 : Int32)), .val (.int (0 : Int32)), .val (.ref aT), .val (.ref aF), .val (.int (1 : Int32)), .val (.int (1 : Int32)), .val (.int (1 : Int32)), .unset] [(.ref aT)])) _
        refine XS.aload X37.here hx rfl (hb hby at_150) rfl rfl ?_
        show Steps pg.tables ee below (T37.setTop (mkF mm 152 #[.val (.int p0), .val (.int p1), .val (.int (1 : Int32)), .val (.int (0 : Int32)), .val (.ref aT), .val (.ref aF), .val (.int (1 : Int32)), .val (.int (1 : Int32)), .val (.int (1 : Int32)), .unset] [(.ref aT), (.ref aT)])) _
        refine XS.aload X37.here hx rfl (hb hby at_152) rfl rfl ?_
        show Steps pg.tables ee below (T37.setTop (mkF mm 154 #[.val (.int p0), .val (.int p1), .val (.int (1 : Int32)), .val (.int (0 : Int32)), .val (.ref aT), .val (.ref aF), .val (.int (1 : Int32)), .val (.int (1 : Int32)), .val (.int (1 : Int32)), .unset] [(.ref aF), (.ref aT), (.ref aT)])) _
        refine st38 _ ?_
        show Steps pg.tables ee below (T38.setTop (mkF mm 157 #[.val (.int p0), .val (.int p1), .val (.int (1 : Int32)), .val (.int (0 : Int32)), .val (.ref aT), .val (.ref aF), .val (.int (1 : Int32)), .val (.int (1 : Int32)), .val (.int (1 : Int32)), .unset] [(.ref aT), (.ref aF), (.ref aT), (.ref aT)])) _
        refine st39.trans ?_
        show Steps pg.tables ee below (T39.setTop (mkF mm 160 #[.val (.int p0), .val (.int p1), .val (.int (1 : Int32)), .val (.int (0 : Int32)), .val (.ref aT), .val (.ref aF), .val (.int (1 : Int32)), .val (.int (1 : Int32)), .val (.int (1 : Int32)), .unset] [(.ref aT), (.ref aT)])) _
        refine Jvm.RoadKit.acmp (g := (mkF mm 160 #[.val (.int p0), .val (.int p1), .val (.int (1 : Int32)), .val (.int (0 : Int32)), .val (.ref aT), .val (.ref aF), .val (.int (1 : Int32)), .val (.int (1 : Int32)), .val (.int (1 : Int32)), .unset] [(.ref aT), (.ref aT)])) X39 hx rfl rfl rfl (pc0 := 160) (pc' := 163) (same := true) rfl (hb hby at_160) rfl (decide_eq_true rfl) (by decide) (by decide) ?_
        show Steps pg.tables ee below (T39.setTop (mkF mm 163 #[.val (.int p0), .val (.int p1), .val (.int (1 : Int32)), .val (.int (0 : Int32)), .val (.ref aT), .val (.ref aF), .val (.int (1 : Int32)), .val (.int (1 : Int32)), .val (.int (1 : Int32)), .unset] [])) _
        refine XS.iconst X39.here hx rfl (hb hby at_163) ?_
        show Steps pg.tables ee below (T39.setTop (mkF mm 164 #[.val (.int p0), .val (.int p1), .val (.int (1 : Int32)), .val (.int (0 : Int32)), .val (.ref aT), .val (.ref aF), .val (.int (1 : Int32)), .val (.int (1 : Int32)), .val (.int (1 : Int32)), .unset] [(.int (1 : Int32))])) _
        refine XS.goto X39.here hx rfl (pc0 := 164) (pc' := 168) rfl (hb hby at_164) (by decide) (by decide) ?_
        show Steps pg.tables ee below (T39.setTop (mkF mm 168 #[.val (.int p0), .val (.int p1), .val (.int (1 : Int32)), .val (.int (0 : Int32)), .val (.ref aT), .val (.ref aF), .val (.int (1 : Int32)), .val (.int (1 : Int32)), .val (.int (1 : Int32)), .unset] [(.int (1 : Int32))])) _
        refine XS.istore X39.here hx rfl (hb hby at_168) rfl (l' := #[.val (.int p0), .val (.int p1), .val (.int (1 : Int32)), .val (.int (0 : Int32)), .val (.ref aT), .val (.ref aF), .val (.int (1 : Int32)), .val (.int (1 : Int32)), .val (.int (1 : Int32)), .val (.int (1 : Int32))]) rfl ?_
        show Steps pg.tables ee below (T39.setTop (mkF mm 170 #[.val (.int p0), .val (.int p1), .val (.int (1 : Int32)), .val (.int (0 : Int32)), .val (.ref aT), .val (.ref aF), .val (.int (1 : Int32)), .val (.int (1 : Int32)), .val (.int (1 : Int32)), .val (.int (1 : Int32))] [])) _
        refine XS.iload X39.here hx rfl (hb hby at_170) rfl ?_
        show Steps pg.tables ee below (T39.setTop (mkF mm 172 #[.val (.int p0), .val (.int p1), .val (.int (1 : Int32)), .val (.int (0 : Int32)), .val (.ref aT), .val (.ref aF), .val (.int (1 : Int32)), .val (.int (1 : Int32)), .val (.int (1 : Int32)), .val (.int (1 : Int32))] [(.int (1 : Int32))])) _
        refine XS.ifNo X39.here hx rfl (hb hby at_172) rfl ((if0 _ _).trans (feq (by decide : ¬ ((1 : Int32) = (0 : Int32)))).1) ?_
        show Steps pg.tables ee below (T39.setTop (mkF mm 175 #[.val (.int p0), .val (.int p1), .val (.int (1 : Int32)), .val (.int (0 : Int32)), .val (.ref aT), .val (.ref aF), .val (.int (1 : Int32)), .val (.int (1 : Int32)), .val (.int (1 : Int32)), .val (.int (1 : Int32))] [])) _
        refine XS.iload X39.here hx rfl (hb hby at_175) rfl ?_
        show Steps pg.tables ee below (T39.setTop (mkF mm 177 #[.val (.int p0), .val (.int p1), .val (.int (1 : Int32)), .val (.int (0 : Int32)), .val (.ref aT), .val (.ref aF), .val (.int (1 : Int32)), .val (.int (1 : Int32)), .val (.int (1 : Int32)), .val (.int (1 : Int32))] [(.int (1 : Int32))])) _
        refine XS.ifNo X39.here hx rfl (hb hby at_177) rfl ((if0 _ _).trans (feq (by decide : ¬ ((1 : Int32) = (0 : Int32)))).1) ?_
        show Steps pg.tables ee below (T39.setTop (mkF mm 180 #[.val (.int p0), .val (.int p1), .val (.int (1 : Int32)), .val (.int (0 : Int32)), .val (.ref aT), .val (.ref aF), .val (.int (1 : Int32)), .val (.int (1 : Int32)), .val (.int (1 : Int32)), .val (.int (1 : Int32))] [])) _
        refine XS.iload X39.here hx rfl (hb hby at_180) rfl ?_
        show Steps pg.tables ee below (T39.setTop (mkF mm 182 #[.val (.int p0), .val (.int p1), .val (.int (1 : Int32)), .val (.int (0 : Int32)), .val (.ref aT), .val (.ref aF), .val (.int (1 : Int32)), .val (.int (1 : Int32)), .val (.int (1 : Int32)), .val (.int (1 : Int32))] [(.int (1 : Int32))])) _
        refine XS.ifNo X39.here hx rfl (hb hby at_182) rfl ((if0 _ _).trans (feq (by decide : ¬ ((1 : Int32) = (0 : Int32)))).1) ?_
        show Steps pg.tables ee below (T39.setTop (mkF mm 185 #[.val (.int p0), .val (.int p1), .val (.int (1 : Int32)), .val (.int (0 : Int32)), .val (.ref aT), .val (.ref aF), .val (.int (1 : Int32)), .val (.int (1 : Int32)), .val (.int (1 : Int32)), .val (.int (1 : Int32))] [])) _
        refine XS.iload X39.here hx rfl (hb hby at_185) rfl ?_
        show Steps pg.tables ee below (T39.setTop (mkF mm 187 #[.val (.int p0), .val (.int p1), .val (.int (1 : Int32)), .val (.int (0 : Int32)), .val (.ref aT), .val (.ref aF), .val (.int (1 : Int32)), .val (.int (1 : Int32)), .val (.int (1 : Int32)), .val (.int (1 : Int32))] [(.int (1 : Int32))])) _
        refine XS.ifNo X39.here hx rfl (hb hby at_187) rfl ((if0 _ _).trans (feq (by decide : ¬ ((1 : Int32) = (0 : Int32)))).1) ?_
        show Steps pg.tables ee below (T39.setTop (mkF mm 190 #[.val (.int p0), .val (.int p1), .val (.int (1 : Int32)), .val (.int (0 : Int32)), .val (.ref aT), .val (.ref aF), .val (.int (1 : Int32)), .val (.int (1 : Int32)), .val (.int (1 : Int32)), .val (.int (1 : Int32))] [])) _
        refine XS.iconst X39.here hx rfl (hb hby at_190) ?_
        show Steps pg.tables ee below (T39.setTop (mkF mm 191 #[.val (.int p0), .val (.int p1), .val (.int (1 : Int32)), .val (.int (0 : Int32)), .val (.ref aT), .val (.ref aF), .val (.int (1 : Int32)), .val (.int (1 : Int32)), .val (.int (1 : Int32)), .val (.int (1 : Int32))] [(.int (1 : Int32))])) _
        refine XS.goto X39.here hx rfl (pc0 := 191) (pc' := 195) rfl (hb hby at_191) (by decide) (by decide) ?_
        show Steps pg.tables ee below (T39.setTop (mkF mm 195 #[.val (.int p0), .val (.int p1), .val (.int (1 : Int32)), .val (.int (0 : Int32)), .val (.ref aT), .val (.ref aF), .val (.int (1 : Int32)), .val (.int (1 : Int32)), .val (.int (1 : Int32)), .val (.int (1 : Int32))] [(.int (1 : Int32))])) _
        exact retN X39 hx (t := .boolean) Bd.returns (by simp) (hb hby at_195) hr
      · show Qrm0 Z p0 p1 aT aF aI h0 n0 _ T39.heap _
        rw [e39]
        exact ⟨rfl, N39⟩
    · obtain ⟨_, _, ⟨T40, L40, k40, n40⟩, -, X40, ⟨Lc40, hQ40, l40, y40, z40⟩, st40⟩ := Jvm.LawKit.callS X0 hx (y := (⟨"com/example/ladon/ladon/Truth", "of", "(Z)Lcom/example/ladon/ladon/Truth;"⟩ : MethodName)) hown (mvT hZ (hw _ (List.mem_of_getElem? (i := 0) rfl))) (mvT hZ (hw _ (List.mem_of_getElem? (i := 1) rfl))) (mvT hZ (hw _ (List.mem_of_getElem? (i := 2) rfl))) (mvT hZ (hw _ (List.mem_of_getElem? (i := 3) rfl))) (by decide) (backOf (W := 0) (rmOf1 l Z a0 hw [] aT aF aI h0 n0 O0 S_TRUE S_FALSE S_INDETERMINATE E_TRUE E_FALSE E_INDETERMINATE hTF hTI hFI) hZ (hw _ (List.mem_of_getElem? (i := 3) rfl)) (hw _ (List.mem_of_getElem? (i := 2) rfl)) (by decide) (by decide)) (g := (mkF mm 25 #[.val (.int p0), .val (.int p1), .val (.int (1 : Int32)), .val (.int (1 : Int32)), .unset, .unset, .unset, .unset, .unset, .unset] [(.int (1 : Int32))])) rfl (by rw [hml]; rfl) (argsL := [(.int (1 : Int32))]) (rest := []) (lenOf pd_45 rfl) rfl (by show 2 * 0 + _ ≤ _; exact Nat.le_of_eq rfl) (hb hby at_25) (fun _ _ => ⟨rfl, e0, (by decide : 0 + 0 ≤ _), (by decide : 0 + 0 ≤ _)⟩)
      dsimp only [Pt.U, Pt.locs, Pt.cells, Pt.slots] at X40 l40 y40 z40 st40 hQ40
      subst l40 y40 z40
      obtain ⟨rfl, N40q, e40⟩ := hQ40
      have N40 := Fr.app N0 N40q
      obtain ⟨_, _, ⟨T41, L41, k41, n41⟩, -, X41, ⟨Lc41, hQ41, l41, y41, z41⟩, st41⟩ := Jvm.LawKit.callS X40 hx (y := (⟨"com/example/ladon/ladon/Truth", "of", "(Z)Lcom/example/ladon/ladon/Truth;"⟩ : MethodName)) hown (mvT hZ (hw _ (List.mem_of_getElem? (i := 0) rfl))) (mvT hZ (hw _ (List.mem_of_getElem? (i := 1) rfl))) (mvT hZ (hw _ (List.mem_of_getElem? (i := 2) rfl))) (mvT hZ (hw _ (List.mem_of_getElem? (i := 3) rfl))) (by decide) (backOf (W := 0) (rmOf1 l Z a0 hw [] aT aF aI h0 n0 O0 S_TRUE S_FALSE S_INDETERMINATE E_TRUE E_FALSE E_INDETERMINATE hTF hTI hFI) hZ (hw _ (List.mem_of_getElem? (i := 3) rfl)) (hw _ (List.mem_of_getElem? (i := 2) rfl)) (by decide) (by decide)) (g := (mkF mm 31 #[.val (.int p0), .val (.int p1), .val (.int (1 : Int32)), .val (.int (1 : Int32)), .val (.ref aT), .unset, .unset, .unset, .unset, .unset] [(.int (1 : Int32))])) rfl (by rw [hml]; rfl) (argsL := [(.int (1 : Int32))]) (rest := []) (lenOf pd_45 rfl) rfl (by show 2 * 0 + _ ≤ _; exact Nat.le_of_eq rfl) (hb hby at_31) (fun _ _ => ⟨rfl, e40, (by decide : 0 + 0 ≤ _), (by decide : 0 + 0 ≤ _)⟩)
      dsimp only [Pt.U, Pt.locs, Pt.cells, Pt.slots] at X41 l41 y41 z41 st41 hQ41
      subst l41 y41 z41
      obtain ⟨rfl, N41q, e41⟩ := hQ41
      have N41 := Fr.app N40 N41q
      obtain ⟨T42, X42, e42, st42⟩ := getS2 X41 hx hZ hown (host := "") (Or.inl (hw _ (List.mem_of_getElem? (i := 19) rfl))) Via.refl e41 (S_TRUE.ext O0.2) (g := (mkF mm 42 #[.val (.int p0), .val (.int p1), .val (.int (1 : Int32)), .val (.int (1 : Int32)), .val (.ref aT), .val (.ref aT), .unset, .unset, .unset, .unset] [(.ref aT)])) rfl (hb hby at_42)
      obtain ⟨_, _, ⟨T43, L43, k43, n43⟩, -, X43, ⟨Lc43, hQ43, l43, y43, z43⟩, st43⟩ := Jvm.LawKit.callS X42 hx (y := (⟨"com/example/ladon/ladon/Truth", "of", "(Z)Lcom/example/ladon/ladon/Truth;"⟩ : MethodName)) hown (mvT hZ (hw _ (List.mem_of_getElem? (i := 0) rfl))) (mvT hZ (hw _ (List.mem_of_getElem? (i := 1) rfl))) (mvT hZ (hw _ (List.mem_of_getElem? (i := 2) rfl))) (mvT hZ (hw _ (List.mem_of_getElem? (i := 3) rfl))) (by decide) (backOf (W := 0) (rmOf0 l Z a0 hw [] aT aF aI h0 n0 O0 S_TRUE S_FALSE S_INDETERMINATE E_TRUE E_FALSE E_INDETERMINATE hTF hTI hFI) hZ (hw _ (List.mem_of_getElem? (i := 3) rfl)) (hw _ (List.mem_of_getElem? (i := 2) rfl)) (by decide) (by decide)) (g := (mkF mm 80 #[.val (.int p0), .val (.int p1), .val (.int (1 : Int32)), .val (.int (1 : Int32)), .val (.ref aT), .val (.ref aT), .val (.int (1 : Int32)), .unset, .unset, .unset] [(.int (0 : Int32))])) rfl (by rw [hml]; rfl) (argsL := [(.int (0 : Int32))]) (rest := []) (lenOf pd_45 rfl) rfl (by show 2 * 0 + _ ≤ _; exact Nat.le_of_eq rfl) (hb hby at_80) (fun _ _ => ⟨rfl, e42, (by decide : 0 + 0 ≤ _), (by decide : 0 + 0 ≤ _)⟩)
      dsimp only [Pt.U, Pt.locs, Pt.cells, Pt.slots] at X43 l43 y43 z43 st43 hQ43
      subst l43 y43 z43
      obtain ⟨rfl, N43q, e43⟩ := hQ43
      have N43 := Fr.app N41 N43q
      obtain ⟨cq44, kq44, q44a, q44b, q44c⟩ := isOf hZ e43 (E_TRUE.ext O0.2)
      obtain ⟨_, _, ⟨T44, L44, k44, n44⟩, -, X44, ⟨Lc44, hQ44, l44, y44, z44⟩, st44⟩ := X43.virtualBack hx (y := (⟨"com/example/ladon/ladon/Truth", "not", "()Lcom/example/ladon/ladon/Truth;"⟩ : MethodName)) (z := (⟨"com/example/ladon/ladon/Truth", "not", "()Lcom/example/ladon/ladon/Truth;"⟩ : MethodName)) hown (mvT hZ (hw _ (List.mem_of_getElem? (i := 9) rfl))) (mvT hZ (hw _ (List.mem_of_getElem? (i := 10) rfl))) (notFace_of_selects (args := #[]) (mvT hZ (hw _ (List.mem_of_getElem? (i := 12) rfl)))) (mvT hZ (hw _ (List.mem_of_getElem? (i := 12) rfl))) (mvT hZ (hw _ (List.mem_of_getElem? (i := 11) rfl))) (by decide) (backOf (W := 1) (rmNot_aT l Z a0 hw [] aT aF aI h0 n0 O0 S_TRUE S_FALSE S_INDETERMINATE E_TRUE E_FALSE E_INDETERMINATE hTF hTI hFI) hZ (hw _ (List.mem_of_getElem? (i := 13) rfl)) (hw _ (List.mem_of_getElem? (i := 2) rfl)) (by decide) (by decide)) q44a q44c (g := (mkF mm 85 #[.val (.int p0), .val (.int p1), .val (.int (1 : Int32)), .val (.int (1 : Int32)), .val (.ref aT), .val (.ref aT), .val (.int (1 : Int32)), .unset, .unset, .unset] [(.ref aT), (.ref aF)])) rfl (by rw [hml]; rfl) (Steps.refl _) (argsL := []) (rest := [(.ref aF)]) (lenOf pd_43 rfl) rfl (by show 2 * 0 + _ ≤ _; exact Nat.le_of_eq rfl) (hb hby at_85) (fun _ _ => ⟨rfl, e43, (by decide : 0 + 0 ≤ _), (by decide : 0 + 0 ≤ _)⟩)
      dsimp only [Pt.U, Pt.locs, Pt.cells, Pt.slots] at X44 l44 y44 z44 st44 hQ44
      subst l44 y44 z44
      obtain ⟨rfl, N44q, e44⟩ := hQ44
      have N44 := Fr.app N43 N44q
      obtain ⟨_, _, ⟨T45, L45, k45, n45⟩, -, X45, ⟨Lc45, hQ45, l45, y45, z45⟩, st45⟩ := Jvm.LawKit.callS X44 hx (y := (⟨"com/example/ladon/ladon/Truth", "of", "(Z)Lcom/example/ladon/ladon/Truth;"⟩ : MethodName)) hown (mvT hZ (hw _ (List.mem_of_getElem? (i := 0) rfl))) (mvT hZ (hw _ (List.mem_of_getElem? (i := 1) rfl))) (mvT hZ (hw _ (List.mem_of_getElem? (i := 2) rfl))) (mvT hZ (hw _ (List.mem_of_getElem? (i := 3) rfl))) (by decide) (backOf (W := 0) (rmOf1 l Z a0 hw [] aT aF aI h0 n0 O0 S_TRUE S_FALSE S_INDETERMINATE E_TRUE E_FALSE E_INDETERMINATE hTF hTI hFI) hZ (hw _ (List.mem_of_getElem? (i := 3) rfl)) (hw _ (List.mem_of_getElem? (i := 2) rfl)) (by decide) (by decide)) (g := (mkF mm 111 #[.val (.int p0), .val (.int p1), .val (.int (1 : Int32)), .val (.int (1 : Int32)), .val (.ref aT), .val (.ref aT), .val (.int (1 : Int32)), .val (.int (1 : Int32)), .unset, .unset] [(.int (1 : Int32))])) rfl (by rw [hml]; rfl) (argsL := [(.int (1 : Int32))]) (rest := []) (lenOf pd_45 rfl) rfl (by show 2 * 0 + _ ≤ _; exact Nat.le_of_eq rfl) (hb hby at_111) (fun _ _ => ⟨rfl, e44, (by decide : 0 + 0 ≤ _), (by decide : 0 + 0 ≤ _)⟩)
      dsimp only [Pt.U, Pt.locs, Pt.cells, Pt.slots] at X45 l45 y45 z45 st45 hQ45
      subst l45 y45 z45
      obtain ⟨rfl, N45q, e45⟩ := hQ45
      have N45 := Fr.app N44 N45q
      obtain ⟨T46, X46, e46, st46⟩ := getS2 X45 hx hZ hown (host := "") (Or.inl (hw _ (List.mem_of_getElem? (i := 8) rfl))) Via.refl e45 (S_FALSE.ext O0.2) (g := (mkF mm 118 #[.val (.int p0), .val (.int p1), .val (.int (1 : Int32)), .val (.int (1 : Int32)), .val (.ref aT), .val (.ref aT), .val (.int (1 : Int32)), .val (.int (1 : Int32)), .unset, .unset] [(.ref aT), (.ref aT), (.ref aT)])) rfl (hb hby at_118)
      obtain ⟨cq47, kq47, q47a, q47b, q47c⟩ := isOf hZ e46 (E_TRUE.ext O0.2)
      obtain ⟨_, _, ⟨T47, L47, k47, n47⟩, -, X47, ⟨Lc47, hQ47, l47, y47, z47⟩, st47⟩ := X46.virtualBack hx (y := (⟨"com/example/ladon/ladon/Truth", "join", "(Lcom/example/ladon/ladon/Truth;Lcom/example/ladon/ladon/Truth;)Lcom/example/ladon/ladon/Truth;"⟩ : MethodName)) (z := (⟨"com/example/ladon/ladon/Truth", "join", "(Lcom/example/ladon/ladon/Truth;Lcom/example/ladon/ladon/Truth;)Lcom/example/ladon/ladon/Truth;"⟩ : MethodName)) hown (mvT hZ (hw _ (List.mem_of_getElem? (i := 14) rfl))) (mvT hZ (hw _ (List.mem_of_getElem? (i := 15) rfl))) (notFace_of_selects (args := #[]) (mvT hZ (hw _ (List.mem_of_getElem? (i := 17) rfl)))) (mvT hZ (hw _ (List.mem_of_getElem? (i := 17) rfl))) (mvT hZ (hw _ (List.mem_of_getElem? (i := 16) rfl))) (by decide) (backOf (W := 1) (rmJ_aT_aT_aF l Z a0 hw [] aT aF aI h0 n0 O0 S_TRUE S_FALSE S_INDETERMINATE E_TRUE E_FALSE E_INDETERMINATE hTF hTI hFI) hZ (hw _ (List.mem_of_getElem? (i := 18) rfl)) (hw _ (List.mem_of_getElem? (i := 2) rfl)) (by decide) (by decide)) q47a q47c (g := (mkF mm 121 #[.val (.int p0), .val (.int p1), .val (.int (1 : Int32)), .val (.int (1 : Int32)), .val (.ref aT), .val (.ref aT), .val (.int (1 : Int32)), .val (.int (1 : Int32)), .unset, .unset] [(.ref aF), (.ref aT), (.ref aT), (.ref aT)])) rfl (by rw [hml]; rfl) (Steps.refl _) (argsL := [(.ref aT), (.ref aF)]) (rest := [(.ref aT)]) (lenOf pd_46 rfl) rfl (by show 2 * 0 + _ ≤ _; exact Nat.le_of_eq rfl) (hb hby at_121) (fun _ _ => ⟨rfl, e46, (by decide : 0 + 0 ≤ _), (by decide : 0 + 0 ≤ _)⟩)
      dsimp only [Pt.U, Pt.locs, Pt.cells, Pt.slots] at X47 l47 y47 z47 st47 hQ47
      subst l47 y47 z47
      obtain ⟨rfl, N47q, e47⟩ := hQ47
      have N47 := Fr.app N45 N47q
      obtain ⟨_, _, ⟨T48, L48, k48, n48⟩, -, X48, ⟨Lc48, hQ48, l48, y48, z48⟩, st48⟩ := Jvm.LawKit.callS X47 hx (y := (⟨"com/example/ladon/ladon/Truth", "of", "(Z)Lcom/example/ladon/ladon/Truth;"⟩ : MethodName)) hown (mvT hZ (hw _ (List.mem_of_getElem? (i := 0) rfl))) (mvT hZ (hw _ (List.mem_of_getElem? (i := 1) rfl))) (mvT hZ (hw _ (List.mem_of_getElem? (i := 2) rfl))) (mvT hZ (hw _ (List.mem_of_getElem? (i := 3) rfl))) (by decide) (backOf (W := 0) (rmOf1 l Z a0 hw [] aT aF aI h0 n0 O0 S_TRUE S_FALSE S_INDETERMINATE E_TRUE E_FALSE E_INDETERMINATE hTF hTI hFI) hZ (hw _ (List.mem_of_getElem? (i := 3) rfl)) (hw _ (List.mem_of_getElem? (i := 2) rfl)) (by decide) (by decide)) (g := (mkF mm 147 #[.val (.int p0), .val (.int p1), .val (.int (1 : Int32)), .val (.int (1 : Int32)), .val (.ref aT), .val (.ref aT), .val (.int (1 : Int32)), .val (.int (1 : Int32)), .val (.int (1 : Int32)), .unset] [(.int (1 : Int32))])) rfl (by rw [hml]; rfl) (argsL := [(.int (1 : Int32))]) (rest := []) (lenOf pd_45 rfl) rfl (by show 2 * 0 + _ ≤ _; exact Nat.le_of_eq rfl) (hb hby at_147) (fun _ _ => ⟨rfl, e47, (by decide : 0 + 0 ≤ _), (by decide : 0 + 0 ≤ _)⟩)
      dsimp only [Pt.U, Pt.locs, Pt.cells, Pt.slots] at X48 l48 y48 z48 st48 hQ48
      subst l48 y48 z48
      obtain ⟨rfl, N48q, e48⟩ := hQ48
      have N48 := Fr.app N47 N48q
      obtain ⟨T49, X49, e49, st49⟩ := getS2 X48 hx hZ hown (host := "") (Or.inl (hw _ (List.mem_of_getElem? (i := 19) rfl))) Via.refl e48 (S_TRUE.ext O0.2) (g := (mkF mm 154 #[.val (.int p0), .val (.int p1), .val (.int (1 : Int32)), .val (.int (1 : Int32)), .val (.ref aT), .val (.ref aT), .val (.int (1 : Int32)), .val (.int (1 : Int32)), .val (.int (1 : Int32)), .unset] [(.ref aT), (.ref aT), (.ref aT)])) rfl (hb hby at_154)
      obtain ⟨cq50, kq50, q50a, q50b, q50c⟩ := isOf hZ e49 (E_TRUE.ext O0.2)
      obtain ⟨_, _, ⟨T50, L50, k50, n50⟩, -, X50, ⟨Lc50, hQ50, l50, y50, z50⟩, st50⟩ := X49.virtualBack hx (y := (⟨"com/example/ladon/ladon/Truth", "join", "(Lcom/example/ladon/ladon/Truth;Lcom/example/ladon/ladon/Truth;)Lcom/example/ladon/ladon/Truth;"⟩ : MethodName)) (z := (⟨"com/example/ladon/ladon/Truth", "join", "(Lcom/example/ladon/ladon/Truth;Lcom/example/ladon/ladon/Truth;)Lcom/example/ladon/ladon/Truth;"⟩ : MethodName)) hown (mvT hZ (hw _ (List.mem_of_getElem? (i := 14) rfl))) (mvT hZ (hw _ (List.mem_of_getElem? (i := 15) rfl))) (notFace_of_selects (args := #[]) (mvT hZ (hw _ (List.mem_of_getElem? (i := 17) rfl)))) (mvT hZ (hw _ (List.mem_of_getElem? (i := 17) rfl))) (mvT hZ (hw _ (List.mem_of_getElem? (i := 16) rfl))) (by decide) (backOf (W := 1) (rmJ_aT_aT_aT l Z a0 hw [] aT aF aI h0 n0 O0 S_TRUE S_FALSE S_INDETERMINATE E_TRUE E_FALSE E_INDETERMINATE hTF hTI hFI) hZ (hw _ (List.mem_of_getElem? (i := 18) rfl)) (hw _ (List.mem_of_getElem? (i := 2) rfl)) (by decide) (by decide)) q50a q50c (g := (mkF mm 157 #[.val (.int p0), .val (.int p1), .val (.int (1 : Int32)), .val (.int (1 : Int32)), .val (.ref aT), .val (.ref aT), .val (.int (1 : Int32)), .val (.int (1 : Int32)), .val (.int (1 : Int32)), .unset] [(.ref aT), (.ref aT), (.ref aT), (.ref aT)])) rfl (by rw [hml]; rfl) (Steps.refl _) (argsL := [(.ref aT), (.ref aT)]) (rest := [(.ref aT)]) (lenOf pd_46 rfl) rfl (by show 2 * 0 + _ ≤ _; exact Nat.le_of_eq rfl) (hb hby at_157) (fun _ _ => ⟨rfl, e49, (by decide : 0 + 0 ≤ _), (by decide : 0 + 0 ≤ _)⟩)
      dsimp only [Pt.U, Pt.locs, Pt.cells, Pt.slots] at X50 l50 y50 z50 st50 hQ50
      subst l50 y50 z50
      obtain ⟨rfl, N50q, e50⟩ := hQ50
      have N50 := Fr.app N48 N50q
      obtain ⟨fs, hr, hrun, hended, hW, hsame⟩ := X50.leave (v := some (.int (1 : Int32))) (fun h => by rw [Bd.returns] at h; cases h)
      refine ⟨_, _, pre27 _ ?_, hrun, hended, _, _, rfl, ?_, ⟨_, rfl⟩, hW, hsame.mono (by decide) (by decide)⟩
      · show Steps pg.tables ee below (s₁.setTop (mkF mm 15 #[.val (.int p0), .val (.int p1), .val (.int (1 : Int32)), .unset, .unset, .unset, .unset, .unset, .unset, .unset] [(.int (p1 &&& (1 : Int32)))])) _
        refine XS.ifNo X0.here hx rfl (hb hby at_15) rfl ((if0 _ _).trans (feq hc28).1) ?_
        show Steps pg.tables ee below (s₁.setTop (mkF mm 18 #[.val (.int p0), .val (.int p1), .val (.int (1 : Int32)), .unset, .unset, .unset, .unset, .unset, .unset, .unset] [])) _
        refine XS.iconst X0.here hx rfl (hb hby at_18) ?_
        show Steps pg.tables ee below (s₁.setTop (mkF mm 19 #[.val (.int p0), .val (.int p1), .val (.int (1 : Int32)), .unset, .unset, .unset, .unset, .unset, .unset, .unset] [(.int (1 : Int32))])) _
        refine XS.goto X0.here hx rfl (pc0 := 19) (pc' := 23) rfl (hb hby at_19) (by decide) (by decide) ?_
        show Steps pg.tables ee below (s₁.setTop (mkF mm 23 #[.val (.int p0), .val (.int p1), .val (.int (1 : Int32)), .unset, .unset, .unset, .unset, .unset, .unset, .unset] [(.int (1 : Int32))])) _
        refine XS.istoreN X0.here hx rfl (hb hby at_23) rfl (l' := #[.val (.int p0), .val (.int p1), .val (.int (1 : Int32)), .val (.int (1 : Int32)), .unset, .unset, .unset, .unset, .unset, .unset]) rfl ?_
        show Steps pg.tables ee below (s₁.setTop (mkF mm 24 #[.val (.int p0), .val (.int p1), .val (.int (1 : Int32)), .val (.int (1 : Int32)), .unset, .unset, .unset, .unset, .unset, .unset] [])) _
        refine XS.iloadN X0.here hx rfl (hb hby at_24) rfl ?_
        show Steps pg.tables ee below (s₁.setTop (mkF mm 25 #[.val (.int p0), .val (.int p1), .val (.int (1 : Int32)), .val (.int (1 : Int32)), .unset, .unset, .unset, .unset, .unset, .unset] [(.int (1 : Int32))])) _
        refine st40 _ ?_
        show Steps pg.tables ee below (T40.setTop (mkF mm 28 #[.val (.int p0), .val (.int p1), .val (.int (1 : Int32)), .val (.int (1 : Int32)), .unset, .unset, .unset, .unset, .unset, .unset] [(.ref aT)])) _
        refine XS.astore X40.here hx rfl (hb hby at_28) rfl rfl (l' := #[.val (.int p0), .val (.int p1), .val (.int (1 : Int32)), .val (.int (1 : Int32)), .val (.ref aT), .unset, .unset, .unset, .unset, .unset]) rfl ?_
        show Steps pg.tables ee below (T40.setTop (mkF mm 30 #[.val (.int p0), .val (.int p1), .val (.int (1 : Int32)), .val (.int (1 : Int32)), .val (.ref aT), .unset, .unset, .unset, .unset, .unset] [])) _
        refine XS.iloadN X40.here hx rfl (hb hby at_30) rfl ?_
        show Steps pg.tables ee below (T40.setTop (mkF mm 31 #[.val (.int p0), .val (.int p1), .val (.int (1 : Int32)), .val (.int (1 : Int32)), .val (.ref aT), .unset, .unset, .unset, .unset, .unset] [(.int (1 : Int32))])) _
        refine st41 _ ?_
        show Steps pg.tables ee below (T41.setTop (mkF mm 34 #[.val (.int p0), .val (.int p1), .val (.int (1 : Int32)), .val (.int (1 : Int32)), .val (.ref aT), .unset, .unset, .unset, .unset, .unset] [(.ref aT)])) _
        refine XS.astore X41.here hx rfl (hb hby at_34) rfl rfl (l' := #[.val (.int p0), .val (.int p1), .val (.int (1 : Int32)), .val (.int (1 : Int32)), .val (.ref aT), .val (.ref aT), .unset, .unset, .unset, .unset]) rfl ?_
        show Steps pg.tables ee below (T41.setTop (mkF mm 36 #[.val (.int p0), .val (.int p1), .val (.int (1 : Int32)), .val (.int (1 : Int32)), .val (.ref aT), .val (.ref aT), .unset, .unset, .unset, .unset] [])) _
        refine XS.iloadN X41.here hx rfl (hb hby at_36) rfl ?_
        show Steps pg.tables ee below (T41.setTop (mkF mm 37 #[.val (.int p0), .val (.int p1), .val (.int (1 : Int32)), .val (.int (1 : Int32)), .val (.ref aT), .val (.ref aT), .unset, .unset, .unset, .unset] [(.int (1 : Int32))])) _
        refine XS.ifNo X41.here hx rfl (hb hby at_37) rfl ((if0 _ _).trans (feq (by decide : ¬ ((1 : Int32) = (0 : Int32)))).1) ?_
        show Steps pg.tables ee below (T41.setTop (mkF mm 40 #[.val (.int p0), .val (.int p1), .val (.int (1 : Int32)), .val (.int (1 : Int32)), .val (.ref aT), .val (.ref aT), .unset, .unset, .unset, .unset] [])) _
        refine XS.aload X41.here hx rfl (hb hby at_40) rfl rfl ?_
        show Steps pg.tables ee below (T41.setTop (mkF mm 42 #[.val (.int p0), .val (.int p1), .val (.int (1 : Int32)), .val (.int (1 : Int32)), .val (.ref aT), .val (.ref aT), .unset, .unset, .unset, .unset] [(.ref aT)])) _
        refine st42 _ ?_
        show Steps pg.tables ee below (T42.setTop (mkF mm 45 #[.val (.int p0), .val (.int p1), .val (.int (1 : Int32)), .val (.int (1 : Int32)), .val (.ref aT), .val (.ref aT), .unset, .unset, .unset, .unset] [(.ref aT), (.ref aT)])) _
        refine Jvm.RoadKit.acmp (g := (mkF mm 45 #[.val (.int p0), .val (.int p1), .val (.int (1 : Int32)), .val (.int (1 : Int32)), .val (.ref aT), .val (.ref aT), .unset, .unset, .unset, .unset] [(.ref aT), (.ref aT)])) X42 hx rfl rfl rfl (pc0 := 45) (pc' := 48) (same := true) rfl (hb hby at_45) rfl (decide_eq_true rfl) (by decide) (by decide) ?_
        show Steps pg.tables ee below (T42.setTop (mkF mm 48 #[.val (.int p0), .val (.int p1), .val (.int (1 : Int32)), .val (.int (1 : Int32)), .val (.ref aT), .val (.ref aT), .unset, .unset, .unset, .unset] [])) _
        refine XS.iconst X42.here hx rfl (hb hby at_48) ?_
        show Steps pg.tables ee below (T42.setTop (mkF mm 49 #[.val (.int p0), .val (.int p1), .val (.int (1 : Int32)), .val (.int (1 : Int32)), .val (.ref aT), .val (.ref aT), .unset, .unset, .unset, .unset] [(.int (1 : Int32))])) _
        refine XS.goto X42.here hx rfl (pc0 := 49) (pc' := 69) rfl (hb hby at_49) (by decide) (by decide) ?_
        show Steps pg.tables ee below (T42.setTop (mkF mm 69 #[.val (.int p0), .val (.int p1), .val (.int (1 : Int32)), .val (.int (1 : Int32)), .val (.ref aT), .val (.ref aT), .unset, .unset, .unset, .unset] [(.int (1 : Int32))])) _
        refine XS.istore X42.here hx rfl (hb hby at_69) rfl (l' := #[.val (.int p0), .val (.int p1), .val (.int (1 : Int32)), .val (.int (1 : Int32)), .val (.ref aT), .val (.ref aT), .val (.int (1 : Int32)), .unset, .unset, .unset]) rfl ?_
        show Steps pg.tables ee below (T42.setTop (mkF mm 71 #[.val (.int p0), .val (.int p1), .val (.int (1 : Int32)), .val (.int (1 : Int32)), .val (.ref aT), .val (.ref aT), .val (.int (1 : Int32)), .unset, .unset, .unset] [])) _
        refine XS.iloadN X42.here hx rfl (hb hby at_71) rfl ?_
        show Steps pg.tables ee below (T42.setTop (mkF mm 72 #[.val (.int p0), .val (.int p1), .val (.int (1 : Int32)), .val (.int (1 : Int32)), .val (.ref aT), .val (.ref aT), .val (.int (1 : Int32)), .unset, .unset, .unset] [(.int (1 : Int32))])) _
        refine XS.ifYes X42.here hx rfl (pc0 := 72) (pc' := 79) rfl (hb hby at_72) rfl ((if0 _ _).trans (feq (by decide : ¬ ((1 : Int32) = (0 : Int32)))).2) (by decide) (by decide) ?_
        show Steps pg.tables ee below (T42.setTop (mkF mm 79 #[.val (.int p0), .val (.int p1), .val (.int (1 : Int32)), .val (.int (1 : Int32)), .val (.ref aT), .val (.ref aT), .val (.int (1 : Int32)), .unset, .unset, .unset] [])) _
        refine XS.iconst X42.here hx rfl (hb hby at_79) ?_
        show Steps pg.tables ee below (T42.setTop (mkF mm 80 #[.val (.int p0), .val (.int p1), .val (.int (1 : Int32)), .val (.int (1 : Int32)), .val (.ref aT), .val (.ref aT), .val (.int (1 : Int32)), .unset, .unset, .unset] [(.int (0 : Int32))])) _
        refine st43 _ ?_
        show Steps pg.tables ee below (T43.setTop (mkF mm 83 #[.val (.int p0), .val (.int p1), .val (.int (1 : Int32)), .val (.int (1 : Int32)), .val (.ref aT), .val (.ref aT), .val (.int (1 : Int32)), .unset, .unset, .unset] [(.ref aF)])) _
        refine XS.aload X43.here hx rfl (hb hby at_83) rfl rfl ?_
        show Steps pg.tables ee below (T43.setTop (mkF mm 85 #[.val (.int p0), .val (.int p1), .val (.int (1 : Int32)), .val (.int (1 : Int32)), .val (.ref aT), .val (.ref aT), .val (.int (1 : Int32)), .unset, .unset, .unset] [(.ref aT), (.ref aF)])) _
        refine st44.trans ?_
        show Steps pg.tables ee below (T44.setTop (mkF mm 88 #[.val (.int p0), .val (.int p1), .val (.int (1 : Int32)), .val (.int (1 : Int32)), .val (.ref aT), .val (.ref aT), .val (.int (1 : Int32)), .unset, .unset, .unset] [(.ref aF), (.ref aF)])) _
        refine Jvm.RoadKit.acmp (g := (mkF mm 88 #[.val (.int p0), .val (.int p1), .val (.int (1 : Int32)), .val (.int (1 : Int32)), .val (.ref aT), .val (.ref aT), .val (.int (1 : Int32)), .unset, .unset, .unset] [(.ref aF), (.ref aF)])) X44 hx rfl rfl rfl (pc0 := 88) (pc' := 91) (same := true) rfl (hb hby at_88) rfl (decide_eq_true rfl) (by decide) (by decide) ?_
        show Steps pg.tables ee below (T44.setTop (mkF mm 91 #[.val (.int p0), .val (.int p1), .val (.int (1 : Int32)), .val (.int (1 : Int32)), .val (.ref aT), .val (.ref aT), .val (.int (1 : Int32)), .unset, .unset, .unset] [])) _
        refine XS.iconst X44.here hx rfl (hb hby at_91) ?_
        show Steps pg.tables ee below (T44.setTop (mkF mm 92 #[.val (.int p0), .val (.int p1), .val (.int (1 : Int32)), .val (.int (1 : Int32)), .val (.ref aT), .val (.ref aT), .val (.int (1 : Int32)), .unset, .unset, .unset] [(.int (1 : Int32))])) _
        refine XS.goto X44.here hx rfl (pc0 := 92) (pc' := 96) rfl (hb hby at_92) (by decide) (by decide) ?_
        show Steps pg.tables ee below (T44.setTop (mkF mm 96 #[.val (.int p0), .val (.int p1), .val (.int (1 : Int32)), .val (.int (1 : Int32)), .val (.ref aT), .val (.ref aT), .val (.int (1 : Int32)), .unset, .unset, .unset] [(.int (1 : Int32))])) _
        refine XS.istore X44.here hx rfl (hb hby at_96) rfl (l' := #[.val (.int p0), .val (.int p1), .val (.int (1 : Int32)), .val (.int (1 : Int32)), .val (.ref aT), .val (.ref aT), .val (.int (1 : Int32)), .val (.int (1 : Int32)), .unset, .unset]) rfl ?_
        show Steps pg.tables ee below (T44.setTop (mkF mm 98 #[.val (.int p0), .val (.int p1), .val (.int (1 : Int32)), .val (.int (1 : Int32)), .val (.ref aT), .val (.ref aT), .val (.int (1 : Int32)), .val (.int (1 : Int32)), .unset, .unset] [])) _
        refine XS.iloadN X44.here hx rfl (hb hby at_98) rfl ?_
        show Steps pg.tables ee below (T44.setTop (mkF mm 99 #[.val (.int p0), .val (.int p1), .val (.int (1 : Int32)), .val (.int (1 : Int32)), .val (.ref aT), .val (.ref aT), .val (.int (1 : Int32)), .val (.int (1 : Int32)), .unset, .unset] [(.int (1 : Int32))])) _
        refine XS.ifNo X44.here hx rfl (hb hby at_99) rfl ((if0 _ _).trans (feq (by decide : ¬ ((1 : Int32) = (0 : Int32)))).1) ?_
        show Steps pg.tables ee below (T44.setTop (mkF mm 102 #[.val (.int p0), .val (.int p1), .val (.int (1 : Int32)), .val (.int (1 : Int32)), .val (.ref aT), .val (.ref aT), .val (.int (1 : Int32)), .val (.int (1 : Int32)), .unset, .unset] [])) _
        refine XS.iloadN X44.here hx rfl (hb hby at_102) rfl ?_
        show Steps pg.tables ee below (T44.setTop (mkF mm 103 #[.val (.int p0), .val (.int p1), .val (.int (1 : Int32)), .val (.int (1 : Int32)), .val (.ref aT), .val (.ref aT), .val (.int (1 : Int32)), .val (.int (1 : Int32)), .unset, .unset] [(.int (1 : Int32))])) _
        refine XS.ifNo X44.here hx rfl (hb hby at_103) rfl ((if0 _ _).trans (feq (by decide : ¬ ((1 : Int32) = (0 : Int32)))).1) ?_
        show Steps pg.tables ee below (T44.setTop (mkF mm 106 #[.val (.int p0), .val (.int p1), .val (.int (1 : Int32)), .val (.int (1 : Int32)), .val (.ref aT), .val (.ref aT), .val (.int (1 : Int32)), .val (.int (1 : Int32)), .unset, .unset] [])) _
        refine XS.iconst X44.here hx rfl (hb hby at_106) ?_
        show Steps pg.tables ee below (T44.setTop (mkF mm 107 #[.val (.int p0), .val (.int p1), .val (.int (1 : Int32)), .val (.int (1 : Int32)), .val (.ref aT), .val (.ref aT), .val (.int (1 : Int32)), .val (.int (1 : Int32)), .unset, .unset] [(.int (1 : Int32))])) _
        refine XS.goto X44.here hx rfl (pc0 := 107) (pc' := 111) rfl (hb hby at_107) (by decide) (by decide) ?_
        show Steps pg.tables ee below (T44.setTop (mkF mm 111 #[.val (.int p0), .val (.int p1), .val (.int (1 : Int32)), .val (.int (1 : Int32)), .val (.ref aT), .val (.ref aT), .val (.int (1 : Int32)), .val (.int (1 : Int32)), .unset, .unset] [(.int (1 : Int32))])) _
        refine st45 _ ?_
        show Steps pg.tables ee below (T45.setTop (mkF mm 114 #[.val (.int p0), .val (.int p1), .val (.int (1 : Int32)), .val (.int (1 : Int32)), .val (.ref aT), .val (.ref aT), .val (.int (1 : Int32)), .val (.int (1 : Int32)), .unset, .unset] [(.ref aT)])) _
        refine XS.aload X45.here hx rfl (hb hby at_114) rfl rfl ?_
        show Steps pg.tables ee below (T45.setTop (mkF mm 116 #[.val (.int p0), .val (.int p1), .val (.int (1 : Int32)), .val (.int (1 : Int32)), .val (.ref aT), .val (.ref aT), .val (.int (1 : Int32)), .val (.int (1 : Int32)), .unset, .unset] [(.ref aT), (.ref aT)])) _
        refine XS.aload X45.here hx rfl (hb hby at_116) rfl rfl ?_
        show Steps pg.tables ee below (T45.setTop (mkF mm 118 #[.val (.int p0), .val (.int p1), .val (.int (1 : Int32)), .val (.int (1 : Int32)), .val (.ref aT), .val (.ref aT), .val (.int (1 : Int32)), .val (.int (1 : Int32)), .unset, .unset] [(.ref aT), (.ref aT), (.ref aT)])) _
        refine st46 _ ?_
        show Steps pg.tables ee below (T46.setTop (mkF mm 121 #[.val (.int p0), .val (.int p1), .val (.int (1 : Int32)), .val (.int (1 : Int32)), .val (.ref aT), .val (.ref aT), .val (.int (1 : Int32)), .val (.int (1 : Int32)), .unset, .unset] [(.ref aF), (.ref aT), (.ref aT), (.ref aT)])) _
        refine st47.trans ?_
        show Steps pg.tables ee below (T47.setTop (mkF mm 124 #[.val (.int p0), .val (.int p1), .val (.int (1 : Int32)), .val (.int (1 : Int32)), .val (.ref aT), .val (.ref aT), .val (.int (1 : Int32)), .val (.int (1 : Int32)), .unset, .unset] [(.ref aT), (.ref aT)])) _
        refine Jvm.RoadKit.acmp (g := (mkF mm 124 #[.val (.int p0), .val (.int p1), .val (.int (1 : Int32)), .val (.int (1 : Int32)), .val (.ref aT), .val (.ref aT), .val (.int (1 : Int32)), .val (.int (1 : Int32)), .unset, .unset] [(.ref aT), (.ref aT)])) X47 hx rfl rfl rfl (pc0 := 124) (pc' := 127) (same := true) rfl (hb hby at_124) rfl (decide_eq_true rfl) (by decide) (by decide) ?_
        show Steps pg.tables ee below (T47.setTop (mkF mm 127 #[.val (.int p0), .val (.int p1), .val (.int (1 : Int32)), .val (.int (1 : Int32)), .val (.ref aT), .val (.ref aT), .val (.int (1 : Int32)), .val (.int (1 : Int32)), .unset, .unset] [])) _
        refine XS.iconst X47.here hx rfl (hb hby at_127) ?_
        show Steps pg.tables ee below (T47.setTop (mkF mm 128 #[.val (.int p0), .val (.int p1), .val (.int (1 : Int32)), .val (.int (1 : Int32)), .val (.ref aT), .val (.ref aT), .val (.int (1 : Int32)), .val (.int (1 : Int32)), .unset, .unset] [(.int (1 : Int32))])) _
        refine XS.goto X47.here hx rfl (pc0 := 128) (pc' := 132) rfl (hb hby at_128) (by decide) (by decide) ?_
        show Steps pg.tables ee below (T47.setTop (mkF mm 132 #[.val (.int p0), .val (.int p1), .val (.int (1 : Int32)), .val (.int (1 : Int32)), .val (.ref aT), .val (.ref aT), .val (.int (1 : Int32)), .val (.int (1 : Int32)), .unset, .unset] [(.int (1 : Int32))])) _
        refine XS.istore X47.here hx rfl (hb hby at_132) rfl (l' := #[.val (.int p0), .val (.int p1), .val (.int (1 : Int32)), .val (.int (1 : Int32)), .val (.ref aT), .val (.ref aT), .val (.int (1 : Int32)), .val (.int (1 : Int32)), .val (.int (1 : Int32)), .unset]) rfl ?_
        show Steps pg.tables ee below (T47.setTop (mkF mm 134 #[.val (.int p0), .val (.int p1), .val (.int (1 : Int32)), .val (.int (1 : Int32)), .val (.ref aT), .val (.ref aT), .val (.int (1 : Int32)), .val (.int (1 : Int32)), .val (.int (1 : Int32)), .unset] [])) _
        refine XS.iloadN X47.here hx rfl (hb hby at_134) rfl ?_
        show Steps pg.tables ee below (T47.setTop (mkF mm 135 #[.val (.int p0), .val (.int p1), .val (.int (1 : Int32)), .val (.int (1 : Int32)), .val (.ref aT), .val (.ref aT), .val (.int (1 : Int32)), .val (.int (1 : Int32)), .val (.int (1 : Int32)), .unset] [(.int (1 : Int32))])) _
        refine XS.ifYes X47.here hx rfl (pc0 := 135) (pc' := 142) rfl (hb hby at_135) rfl ((if0 _ _).trans (feq (by decide : ¬ ((1 : Int32) = (0 : Int32)))).2) (by decide) (by decide) ?_
        show Steps pg.tables ee below (T47.setTop (mkF mm 142 #[.val (.int p0), .val (.int p1), .val (.int (1 : Int32)), .val (.int (1 : Int32)), .val (.ref aT), .val (.ref aT), .val (.int (1 : Int32)), .val (.int (1 : Int32)), .val (.int (1 : Int32)), .unset] [])) _
        refine XS.iconst X47.here hx rfl (hb hby at_142) ?_
        show Steps pg.tables ee below (T47.setTop (mkF mm 143 #[.val (.int p0), .val (.int p1), .val (.int (1 : Int32)), .val (.int (1 : Int32)), .val (.ref aT), .val (.ref aT), .val (.int (1 : Int32)), .val (.int (1 : Int32)), .val (.int (1 : Int32)), .unset] [(.int (1 : Int32))])) _
        refine XS.goto X47.here hx rfl (pc0 := 143) (pc' := 147) rfl (hb hby at_143) (by decide) (by decide) ?_
        show Steps pg.tables ee below (T47.setTop (mkF mm 147 #[.val (.int p0), .val (.int p1), .val (.int (1 : Int32)), .val (.int (1 : Int32)), .val (.ref aT), .val (.ref aT), .val (.int (1 : Int32)), .val (.int (1 : Int32)), .val (.int (1 : Int32)), .unset] [(.int (1 : Int32))])) _
        refine st48 _ ?_
        show Steps pg.tables ee below (T48.setTop (mkF mm 150 #[.val (.int p0), .val (.int p1), .val (.int (1 : Int32)), .val (.int (1 : Int32)), .val (.ref aT), .val (.ref aT), .val (.int (1 : Int32)), .val (.int (1 : Int32)), .val (.int (1 : Int32)), .unset] [(.ref aT)])) _
        refine XS.aload X48.here hx rfl (hb hby at_150) rfl rfl ?_
        show Steps pg.tables ee below (T48.setTop (mkF mm 152 #[.val (.int p0), .val (.int p1), .val (.int (1 : Int32)), .val (.int (1 : Int32)), .val (.ref aT), .val (.ref aT), .val (.int (1 : Int32)), .val (.int (1 : Int32)), .val (.int (1 : Int32)), .unset] [(.ref aT), (.ref aT)])) _
        refine XS.aload X48.here hx rfl (hb hby at_152) rfl rfl ?_
        show Steps pg.tables ee below (T48.setTop (mkF mm 154 #[.val (.int p0), .val (.int p1), .val (.int (1 : Int32)), .val (.int (1 : Int32)), .val (.ref aT), .val (.ref aT), .val (.int (1 : Int32)), .val (.int (1 : Int32)), .val (.int (1 : Int32)), .unset] [(.ref aT), (.ref aT), (.ref aT)])) _
        refine st49 _ ?_
        show Steps pg.tables ee below (T49.setTop (mkF mm 157 #[.val (.int p0), .val (.int p1), .val (.int (1 : Int32)), .val (.int (1 : Int32)), .val (.ref aT), .val (.ref aT), .val (.int (1 : Int32)), .val (.int (1 : Int32)), .val (.int (1 : Int32)), .unset] [(.ref aT), (.ref aT), (.ref aT), (.ref aT)])) _
        refine st50.trans ?_
        show Steps pg.tables ee below (T50.setTop (mkF mm 160 #[.val (.int p0), .val (.int p1), .val (.int (1 : Int32)), .val (.int (1 : Int32)), .val (.ref aT), .val (.ref aT), .val (.int (1 : Int32)), .val (.int (1 : Int32)), .val (.int (1 : Int32)), .unset] [(.ref aT), (.ref aT)])) _
        refine Jvm.RoadKit.acmp (g := (mkF mm 160 #[.val (.int p0), .val (.int p1), .val (.int (1 : Int32)), .val (.int (1 : Int32)), .val (.ref aT), .val (.ref aT), .val (.int (1 : Int32)), .val (.int (1 : Int32)), .val (.int (1 : Int32)), .unset] [(.ref aT), (.ref aT)])) X50 hx rfl rfl rfl (pc0 := 160) (pc' := 163) (same := true) rfl (hb hby at_160) rfl (decide_eq_true rfl) (by decide) (by decide) ?_
        show Steps pg.tables ee below (T50.setTop (mkF mm 163 #[.val (.int p0), .val (.int p1), .val (.int (1 : Int32)), .val (.int (1 : Int32)), .val (.ref aT), .val (.ref aT), .val (.int (1 : Int32)), .val (.int (1 : Int32)), .val (.int (1 : Int32)), .unset] [])) _
        refine XS.iconst X50.here hx rfl (hb hby at_163) ?_
        show Steps pg.tables ee below (T50.setTop (mkF mm 164 #[.val (.int p0), .val (.int p1), .val (.int (1 : Int32)), .val (.int (1 : Int32)), .val (.ref aT), .val (.ref aT), .val (.int (1 : Int32)), .val (.int (1 : Int32)), .val (.int (1 : Int32)), .unset] [(.int (1 : Int32))])) _
        refine XS.goto X50.here hx rfl (pc0 := 164) (pc' := 168) rfl (hb hby at_164) (by decide) (by decide) ?_
        show Steps pg.tables ee below (T50.setTop (mkF mm 168 #[.val (.int p0), .val (.int p1), .val (.int (1 : Int32)), .val (.int (1 : Int32)), .val (.ref aT), .val (.ref aT), .val (.int (1 : Int32)), .val (.int (1 : Int32)), .val (.int (1 : Int32)), .unset] [(.int (1 : Int32))])) _
        refine XS.istore X50.here hx rfl (hb hby at_168) rfl (l' := #[.val (.int p0), .val (.int p1), .val (.int (1 : Int32)), .val (.int (1 : Int32)), .val (.ref aT), .val (.ref aT), .val (.int (1 : Int32)), .val (.int (1 : Int32)), .val (.int (1 : Int32)), .val (.int (1 : Int32))]) rfl ?_
        show Steps pg.tables ee below (T50.setTop (mkF mm 170 #[.val (.int p0), .val (.int p1), .val (.int (1 : Int32)), .val (.int (1 : Int32)), .val (.ref aT), .val (.ref aT), .val (.int (1 : Int32)), .val (.int (1 : Int32)), .val (.int (1 : Int32)), .val (.int (1 : Int32))] [])) _
        refine XS.iload X50.here hx rfl (hb hby at_170) rfl ?_
        show Steps pg.tables ee below (T50.setTop (mkF mm 172 #[.val (.int p0), .val (.int p1), .val (.int (1 : Int32)), .val (.int (1 : Int32)), .val (.ref aT), .val (.ref aT), .val (.int (1 : Int32)), .val (.int (1 : Int32)), .val (.int (1 : Int32)), .val (.int (1 : Int32))] [(.int (1 : Int32))])) _
        refine XS.ifNo X50.here hx rfl (hb hby at_172) rfl ((if0 _ _).trans (feq (by decide : ¬ ((1 : Int32) = (0 : Int32)))).1) ?_
        show Steps pg.tables ee below (T50.setTop (mkF mm 175 #[.val (.int p0), .val (.int p1), .val (.int (1 : Int32)), .val (.int (1 : Int32)), .val (.ref aT), .val (.ref aT), .val (.int (1 : Int32)), .val (.int (1 : Int32)), .val (.int (1 : Int32)), .val (.int (1 : Int32))] [])) _
        refine XS.iload X50.here hx rfl (hb hby at_175) rfl ?_
        show Steps pg.tables ee below (T50.setTop (mkF mm 177 #[.val (.int p0), .val (.int p1), .val (.int (1 : Int32)), .val (.int (1 : Int32)), .val (.ref aT), .val (.ref aT), .val (.int (1 : Int32)), .val (.int (1 : Int32)), .val (.int (1 : Int32)), .val (.int (1 : Int32))] [(.int (1 : Int32))])) _
        refine XS.ifNo X50.here hx rfl (hb hby at_177) rfl ((if0 _ _).trans (feq (by decide : ¬ ((1 : Int32) = (0 : Int32)))).1) ?_
        show Steps pg.tables ee below (T50.setTop (mkF mm 180 #[.val (.int p0), .val (.int p1), .val (.int (1 : Int32)), .val (.int (1 : Int32)), .val (.ref aT), .val (.ref aT), .val (.int (1 : Int32)), .val (.int (1 : Int32)), .val (.int (1 : Int32)), .val (.int (1 : Int32))] [])) _
        refine XS.iload X50.here hx rfl (hb hby at_180) rfl ?_
        show Steps pg.tables ee below (T50.setTop (mkF mm 182 #[.val (.int p0), .val (.int p1), .val (.int (1 : Int32)), .val (.int (1 : Int32)), .val (.ref aT), .val (.ref aT), .val (.int (1 : Int32)), .val (.int (1 : Int32)), .val (.int (1 : Int32)), .val (.int (1 : Int32))] [(.int (1 : Int32))])) _
        refine XS.ifNo X50.here hx rfl (hb hby at_182) rfl ((if0 _ _).trans (feq (by decide : ¬ ((1 : Int32) = (0 : Int32)))).1) ?_
        show Steps pg.tables ee below (T50.setTop (mkF mm 185 #[.val (.int p0), .val (.int p1), .val (.int (1 : Int32)), .val (.int (1 : Int32)), .val (.ref aT), .val (.ref aT), .val (.int (1 : Int32)), .val (.int (1 : Int32)), .val (.int (1 : Int32)), .val (.int (1 : Int32))] [])) _
        refine XS.iload X50.here hx rfl (hb hby at_185) rfl ?_
        show Steps pg.tables ee below (T50.setTop (mkF mm 187 #[.val (.int p0), .val (.int p1), .val (.int (1 : Int32)), .val (.int (1 : Int32)), .val (.ref aT), .val (.ref aT), .val (.int (1 : Int32)), .val (.int (1 : Int32)), .val (.int (1 : Int32)), .val (.int (1 : Int32))] [(.int (1 : Int32))])) _
        refine XS.ifNo X50.here hx rfl (hb hby at_187) rfl ((if0 _ _).trans (feq (by decide : ¬ ((1 : Int32) = (0 : Int32)))).1) ?_
        show Steps pg.tables ee below (T50.setTop (mkF mm 190 #[.val (.int p0), .val (.int p1), .val (.int (1 : Int32)), .val (.int (1 : Int32)), .val (.ref aT), .val (.ref aT), .val (.int (1 : Int32)), .val (.int (1 : Int32)), .val (.int (1 : Int32)), .val (.int (1 : Int32))] [])) _
        refine XS.iconst X50.here hx rfl (hb hby at_190) ?_
        show Steps pg.tables ee below (T50.setTop (mkF mm 191 #[.val (.int p0), .val (.int p1), .val (.int (1 : Int32)), .val (.int (1 : Int32)), .val (.ref aT), .val (.ref aT), .val (.int (1 : Int32)), .val (.int (1 : Int32)), .val (.int (1 : Int32)), .val (.int (1 : Int32))] [(.int (1 : Int32))])) _
        refine XS.goto X50.here hx rfl (pc0 := 191) (pc' := 195) rfl (hb hby at_191) (by decide) (by decide) ?_
        show Steps pg.tables ee below (T50.setTop (mkF mm 195 #[.val (.int p0), .val (.int p1), .val (.int (1 : Int32)), .val (.int (1 : Int32)), .val (.ref aT), .val (.ref aT), .val (.int (1 : Int32)), .val (.int (1 : Int32)), .val (.int (1 : Int32)), .val (.int (1 : Int32))] [(.int (1 : Int32))])) _
        exact retN X50 hx (t := .boolean) Bd.returns (by simp) (hb hby at_195) hr
      · show Qrm0 Z p0 p1 aT aF aI h0 n0 _ T50.heap _
        rw [e50]
        exact ⟨rfl, N50⟩
set_option maxRecDepth 65536 in
set_option maxHeartbeats 40000000 in
theorem comes_1 {Post : Tables → Env → Array Value → State → Outcome → State → Prop} (hpost : ∀ tb e args s v u, (limb_1_1.after args s (.returned v) u = true ∧ limb_1_2.after args s (.returned v) u = true ∧ True) → FrameEnd s (.returned v) u (Jvm.fieldLocs frame_1_writes args s ++ Jvm.arrayLocs frame_1_arrays args s ++ Jvm.staticLocs frame_1_statics s) 0 0 → Post tb e args s (.returned v) u) :
    ArmFor flags0 classFile x code maxLocals ret World_1 tables_1 room_1 Calls_1 rest_1 Pre_1 Post := by
  intro l hfl _ _ p e ha hc hk s m args below hf hA hF happ hP
  obtain ⟨hcalls, hrest, hpre⟩ := hP
  obtain ⟨-, -, -, hnamed, -, -, -, hat⟩ := (Spec.applies_iff hf).mp happ
  obtain ⟨hg, hn⟩ := and_e (Cond.before_iff.mp (show (Jvm.Cond.and given_1 narrow_1).before args s = true from hpre))
  obtain ⟨gg1, gg2⟩ := and_e hg
  obtain ⟨gg3, gg4⟩ := and_e gg2
  obtain ⟨w0, w1, rfl⟩ : ∃ w0 w1 : Value, args = #[w0, w1] := by
    have hs : args.size = 2 := by simpa [Cond.value, given_1] using gg1
    obtain ⟨L⟩ := args
    match L, hs with
    | [w0, w1], _ => exact ⟨w0, w1, rfl⟩
  have hw := fun d (hd : d ∈ tables_1) => atoms_spec (ws := Jvm.Cond.code x code maxLocals ret :: tables_1) hat d (List.mem_cons_of_mem _ hd)
  have hfit : Fit s := fun {y c} hc i hi => by
    obtain ⟨ha, rfl⟩ := Array.getElem?_eq_some_iff.mp hc
    have q := List.all_eq_true.mp ((Array.all_eq_true_iff_forall_mem.mp hF) _ (Array.getElem_mem ha)) i (List.mem_range.mpr hi)
    simpa [Array.getElem?_eq_getElem hi] using q
  obtain ⟨i0, ei0⟩ := is_v gg3
  obtain rfl : w0 = (.int i0) := Option.some.inj ei0
  obtain ⟨i1, ei1⟩ := is_v gg4
  obtain rfl : w1 = (.int i1) := Option.some.inj ei1
  obtain ⟨gg5, gg6⟩ := and_e hn
  obtain ⟨gg7, gg8⟩ := and_e gg6
  obtain ⟨gg9, gg10⟩ := and_e gg8
  obtain ⟨gg11, gg12⟩ := and_e gg10
  obtain ⟨gg13, gg14⟩ := and_e gg12
  obtain ⟨a_FALSE, ev_FALSE⟩ := exa_v gg5
  have E_FALSE := Exa.start ev_FALSE gg5
  have S_FALSE := Sta.start ev_FALSE (Or.inr ⟨(hw _ (List.mem_of_getElem? (i := 2) rfl)), (hw _ (List.mem_of_getElem? (i := 5) rfl))⟩)
  obtain ⟨a_TRUE, ev_TRUE⟩ := exa_v gg7
  have E_TRUE := Exa.start ev_TRUE gg7
  have S_TRUE := Sta.start ev_TRUE (Or.inr ⟨(hw _ (List.mem_of_getElem? (i := 2) rfl)), (hw _ (List.mem_of_getElem? (i := 7) rfl))⟩)
  obtain ⟨a_INDETERMINATE, ev_INDETERMINATE⟩ := exa_v gg13
  have E_INDETERMINATE := Exa.start ev_INDETERMINATE gg13
  have S_INDETERMINATE := Sta.start ev_INDETERMINATE (Or.inr ⟨(hw _ (List.mem_of_getElem? (i := 2) rfl)), (hw _ (List.mem_of_getElem? (i := 21) rfl))⟩)
  have F_FALSE_ordinal := own_fld ev_FALSE gg9
  have F_TRUE_ordinal := own_fld ev_TRUE gg11
  have F_INDETERMINATE_ordinal := own_fld ev_INDETERMINATE gg14
  obtain ⟨n, o, h1, h2, h3, _, L, rfl, ⟨rfl, N⟩, hq⟩ := rm0 l s _ hw tables_1 i0 i1 a_TRUE a_FALSE a_INDETERMINATE s.heap s.heap.size (Old.start s) S_TRUE S_FALSE S_INDETERMINATE E_TRUE E_FALSE E_INDETERMINATE (F_TRUE_ordinal.ne F_FALSE_ordinal (by decide)) (F_TRUE_ordinal.ne F_INDETERMINATE_ordinal (by decide)) (F_FALSE_ordinal.ne F_INDETERMINATE_ordinal (by decide)) p e ha hc hk s m _ below hf ((Spec.applies_iff_loose hf).mp happ).1 ⟨rfl, State.Warmed39.refl s, rfl⟩ trivial
  refine ⟨n, _, h1, h2, h3, hpost _ _ _ _ _ _ ⟨Cond.after_iff.mpr rfl, Cond.after_iff.mpr (eq_i res_at (Term.int_eval (1)) rfl), trivial⟩ ⟨hq.1, hq.2.1, (hq.2.2.sift fun y hy => Or.inr (N y hy)).mono (by decide) (by decide)⟩⟩
theorem main_1_1 : Claimed_1_1 := comes_1 fun _ _ _ _ _ _ h hF => ⟨h.1, hF⟩
theorem main_1_2 : Claimed_1_2 := comes_1 fun _ _ _ _ _ _ h hF => ⟨h.2.1, hF⟩
end Jvm.Pilot.@@N@@
namespace Jvm.Pilot.@@N@@
open Jvm Jvm.ClassFile Sem Op Lib Jvm.Free Jvm.Stand Jvm.Pilot.@@N@@.Jvm.D
/-! MADE BY PROGRAM (witnessworld.py) out of the Statement's table words and the real class files: 12 classes; the members and pool entries that the words name. The judged class is class 1, her method 1. -/
namespace start1
open Jvm.ClassFile
def u (s : String) : CpInfo := .utf8 (stringToUtf16 s)
/-- a pool by its gaps: so many unusable entries, then the entry; so many at the end -/
def gap : Nat → List CpInfo → List CpInfo
  | 0, r => r
  | n + 1, r => .unusable :: gap n r
def poolList (es : List (Nat × CpInfo)) (last : Nat) : List CpInfo := es.foldr (fun e r => gap e.1 (e.2 :: r)) (gap last [])
def pool (es : List (Nat × CpInfo)) (last : Nat) : Array CpInfo := ⟨poolList es last⟩
def fileOf (pool : Array CpInfo) (this : Nat) (attrs : Array Attribute := #[]) (ms : Array MethodInfo := #[]) (fl : Nat := 33) (sup : Nat := 0) (ifs : Array Nat := #[]) (fds : Array FieldInfo := #[]) : ClassFile where
  minorVersion := 0
  majorVersion := 65
  constantPool := pool
  accessFlags := fl
  thisClass := this
  superClass := sup
  interfaces := ifs
  fields := fds
  methods := ms
  attributes := attrs
def plain (name : String) (sup : Option ClassId) : Class where
  name := name
  kind := .ordinary
  loader := none
  accessFlags := 33
  super := sup
  interfaces := #[]
  cf := none
  fields := #[]
  methods := #[]
  instanceTypes := #[]
  staticTypes := #[]
  resolved := #[]
  callSites := []
  init := .initialized
  statics := none
  mirror := none

def pool0 : Array CpInfo := pool [(5, u "<init>"), (0, u "()V"), (1, .class_ 10), (1, u "java/lang/Object")] 113

def k0m0 : Method := { name := "<init>", desc := "()V", sig := { parameters := [], returnType := none }, accessFlags := 1, code := none }
/-- java/lang/Object -/
def k0 : Class := { plain "java/lang/Object" none with
  accessFlags := 33
  interfaces := #[]
  cf := some (fileOf pool0 8 #[] #[{ accessFlags := 1, nameIndex := 5, descriptorIndex := 6, attributes := #[] }] 33 0 #[] #[])
  fields := #[]
  methods := #[k0m0]
  instanceTypes := #[]
  staticTypes := #[]
  resolved := Array.replicate 124 none
  statics := none }

def pool1 : Array CpInfo := pool [(2, .class_ 4), (1, u "java/lang/Object"), (0, u "<init>"), (0, u "()V"), (0, .methodref 8 9), (0, .class_ 10), (0, .nameAndType 11 12), (0, u "com/example/ladon/ladon/Truth"), (0, u "of"), (0, u "(Z)Lcom/example/ladon/ladon/Truth;"), (0, .fieldref 8 14), (0, .nameAndType 15 16), (0, u "TRUE"), (0, u "Lcom/example/ladon/ladon/Truth;"), (0, .fieldref 8 18), (0, .nameAndType 19 16), (0, u "FALSE"), (0, .methodref 8 21), (0, .nameAndType 22 23), (0, u "not"), (0, u "()Lcom/example/ladon/ladon/Truth;"), (0, .methodref 8 25), (0, .nameAndType 26 27), (0, u "join"), (0, u "(Lcom/example/ladon/ladon/Truth;Lcom/example/ladon/ladon/Truth;)Lcom/example/ladon/ladon/Truth;"), (0, .class_ 29), (0, u "com/example/ladon/ladon/TruthOfPinLaw"), (2, u "law"), (0, u "(II)Z")] 3

def k1m0 : Method := { name := "<init>", desc := "()V", sig := { parameters := [], returnType := none }, accessFlags := 1, code := none }
def k1c1 : Code := { maxStack := 4, maxLocals := 10, code := code, exceptionTable := #[], attributes := #[] }
def k1m1 : Method := { name := "law", desc := "(II)Z", sig := { parameters := [.int, .int], returnType := some .boolean }, accessFlags := 9, code := some k1c1 }
/-- com/example/ladon/ladon/TruthOfPinLaw -/
def k1 : Class := { plain "com/example/ladon/ladon/TruthOfPinLaw" (some 0) with
  accessFlags := 49
  interfaces := #[]
  cf := some (fileOf pool1 28 #[] #[{ accessFlags := 1, nameIndex := 5, descriptorIndex := 6, attributes := #[] }, { accessFlags := 9, nameIndex := 32, descriptorIndex := 33, attributes := #[] }] 49 2 #[] #[])
  fields := #[]
  methods := #[k1m0, k1m1]
  instanceTypes := #[]
  staticTypes := #[]
  resolved := Array.replicate 37 none
  statics := none }

def pool2 : Array CpInfo := pool [(1, .class_ 2), (0, u "java/lang/constant/Constable"), (0, .class_ 4), (0, u "java/lang/Object")] 6

/-- java/lang/constant/Constable -/
def k2 : Class := { plain "java/lang/constant/Constable" (some 0) with
  accessFlags := 1537
  interfaces := #[]
  cf := some (fileOf pool2 1 #[] #[] 1537 3 #[] #[])
  fields := #[]
  methods := #[]
  instanceTypes := #[]
  staticTypes := #[]
  resolved := Array.replicate 11 none
  statics := none }

def pool3 : Array CpInfo := pool [(1, .class_ 2), (0, u "java/lang/Comparable"), (0, .class_ 4), (0, u "java/lang/Object")] 7

/-- java/lang/Comparable -/
def k3 : Class := { plain "java/lang/Comparable" (some 0) with
  accessFlags := 1537
  interfaces := #[]
  cf := some (fileOf pool3 1 #[] #[] 1537 3 #[] #[])
  fields := #[]
  methods := #[]
  instanceTypes := #[]
  staticTypes := #[]
  resolved := Array.replicate 12 none
  statics := none }

def pool4 : Array CpInfo := pool [(1, .class_ 2), (0, u "java/io/Serializable"), (0, .class_ 4), (0, u "java/lang/Object")] 2

/-- java/io/Serializable -/
def k4 : Class := { plain "java/io/Serializable" (some 0) with
  accessFlags := 1537
  interfaces := #[]
  cf := some (fileOf pool4 1 #[] #[] 1537 3 #[] #[])
  fields := #[]
  methods := #[]
  instanceTypes := #[]
  staticTypes := #[]
  resolved := Array.replicate 7 none
  statics := none }

def pool5 : Array CpInfo := pool [(2, .class_ 4), (1, u "java/lang/Enum"), (0, u "name"), (0, u "Ljava/lang/String;"), (2, u "ordinal"), (0, u "I"), (1, .class_ 14), (1, u "java/lang/Object"), (4, u "hash"), (86, .class_ 108), (1, u "java/lang/Enum$EnumDesc"), (2, .class_ 112), (0, u "java/lang/constant/Constable"), (0, .class_ 114), (0, u "java/lang/Comparable"), (0, .class_ 116), (0, u "java/io/Serializable")] 87

/-- java/lang/Enum -/
def k5 : Class := { plain "java/lang/Enum" (some 0) with
  accessFlags := 1057
  interfaces := #[2, 3, 4]
  cf := some (fileOf pool5 2 #[.nestMembers #[106]] #[] 1057 12 #[111, 113, 115] #[{ accessFlags := 18, nameIndex := 5, descriptorIndex := 6, attributes := #[] }, { accessFlags := 18, nameIndex := 9, descriptorIndex := 10, attributes := #[] }, { accessFlags := 2, nameIndex := 19, descriptorIndex := 10, attributes := #[] }])
  fields := #[{ name := "name", type := (.object "java/lang/String"), accessFlags := 18, slot := 0, constantValue := 0 }, { name := "ordinal", type := .int, accessFlags := 18, slot := 1, constantValue := 0 }, { name := "hash", type := .int, accessFlags := 2, slot := 2, constantValue := 0 }]
  methods := #[]
  instanceTypes := #[(.object "java/lang/String"), .int, .int]
  staticTypes := #[]
  resolved := Array.replicate 204 none
  statics := none }

def pool6 : Array CpInfo := pool [(1, .class_ 2), (0, u "com/example/ladon/ladon/Truth"), (0, .fieldref 1 4), (0, .nameAndType 5 6), (0, u "TRUE"), (0, u "Lcom/example/ladon/ladon/Truth;"), (0, .fieldref 1 8), (0, .nameAndType 9 6), (0, u "FALSE"), (0, .fieldref 1 11), (0, .nameAndType 12 6), (0, u "INDETERMINATE"), (2, u "$VALUES"), (0, u "[Lcom/example/ladon/ladon/Truth;"), (6, .class_ 25), (1, u "java/lang/Enum"), (6, .methodref 1 33), (0, .nameAndType 34 35), (0, u "not"), (0, u "()Lcom/example/ladon/ladon/Truth;"), (15, u "of"), (0, u "(Z)Lcom/example/ladon/ladon/Truth;"), (1, u "join"), (0, u "(Lcom/example/ladon/ladon/Truth;Lcom/example/ladon/ladon/Truth;)Lcom/example/ladon/ladon/Truth;")] 4

def k6c0 : Code := { maxStack := 1, maxLocals := 1, code := prog_39_method_4_code, exceptionTable := #[], attributes := #[] }
def k6m0 : Method := { name := "of", desc := "(Z)Lcom/example/ladon/ladon/Truth;", sig := { parameters := [.boolean], returnType := some (.object "com/example/ladon/ladon/Truth") }, accessFlags := 8, code := some k6c0 }
def k6c1 : Code := { maxStack := 2, maxLocals := 4, code := prog_39_method_5_code, exceptionTable := #[], attributes := #[] }
def k6m1 : Method := { name := "join", desc := "(Lcom/example/ladon/ladon/Truth;Lcom/example/ladon/ladon/Truth;)Lcom/example/ladon/ladon/Truth;", sig := { parameters := [(.object "com/example/ladon/ladon/Truth"), (.object "com/example/ladon/ladon/Truth")], returnType := some (.object "com/example/ladon/ladon/Truth") }, accessFlags := 0, code := some k6c1 }
def k6c2 : Code := { maxStack := 2, maxLocals := 2, code := prog_39_method_6_code, exceptionTable := #[], attributes := #[] }
def k6m2 : Method := { name := "not", desc := "()Lcom/example/ladon/ladon/Truth;", sig := { parameters := [], returnType := some (.object "com/example/ladon/ladon/Truth") }, accessFlags := 0, code := some k6c2 }
/-- com/example/ladon/ladon/Truth -/
def k6 : Class := { plain "com/example/ladon/ladon/Truth" (some 5) with
  accessFlags := 16432
  interfaces := #[]
  cf := some (fileOf pool6 1 #[] #[{ accessFlags := 8, nameIndex := 51, descriptorIndex := 52, attributes := #[] }, { accessFlags := 0, nameIndex := 54, descriptorIndex := 55, attributes := #[] }, { accessFlags := 0, nameIndex := 34, descriptorIndex := 35, attributes := #[] }] 16432 23 #[] #[{ accessFlags := 16409, nameIndex := 5, descriptorIndex := 6, attributes := #[] }, { accessFlags := 16409, nameIndex := 9, descriptorIndex := 6, attributes := #[] }, { accessFlags := 16409, nameIndex := 12, descriptorIndex := 6, attributes := #[] }, { accessFlags := 4122, nameIndex := 15, descriptorIndex := 16, attributes := #[] }])
  fields := #[{ name := "TRUE", type := (.object "com/example/ladon/ladon/Truth"), accessFlags := 16409, slot := 0, constantValue := 0 }, { name := "FALSE", type := (.object "com/example/ladon/ladon/Truth"), accessFlags := 16409, slot := 1, constantValue := 0 }, { name := "INDETERMINATE", type := (.object "com/example/ladon/ladon/Truth"), accessFlags := 16409, slot := 2, constantValue := 0 }, { name := "$VALUES", type := (.array (.object "com/example/ladon/ladon/Truth")), accessFlags := 4122, slot := 3, constantValue := 0 }]
  methods := #[k6m0, k6m1, k6m2]
  instanceTypes := #[(.object "java/lang/String"), .int, .int]
  staticTypes := #[(.object "com/example/ladon/ladon/Truth"), (.object "com/example/ladon/ladon/Truth"), (.object "com/example/ladon/ladon/Truth"), (.array (.object "com/example/ladon/ladon/Truth"))]
  resolved := Array.replicate 60 none
  statics := some 0 }

def pool7 : Array CpInfo := pool [(1, u "java/lang/Cloneable"), (0, .class_ 1), (0, u "java/lang/Object"), (0, .class_ 3)] 3

/-- java/lang/Cloneable -/
def k7 : Class := { plain "java/lang/Cloneable" (some 0) with
  accessFlags := 1537
  interfaces := #[]
  cf := some (fileOf pool7 2 #[] #[] 1537 4 #[] #[])
  fields := #[]
  methods := #[]
  instanceTypes := #[]
  staticTypes := #[]
  resolved := Array.replicate 8 none
  statics := none }

/-- the primitive byte -/
def k8 : Class := { plain "byte" none with kind := .primitive 'B', accessFlags := 0x411 }
/-- [B -/
def k9 : Class := { plain "[B" (some 0) with kind := .array 8 .byte, interfaces := #[7, 4], accessFlags := 1041 }

/-- the primitive int -/
def k10 : Class := { plain "int" none with kind := .primitive 'I', accessFlags := 0x411 }
/-- [I -/
def k11 : Class := { plain "[I" (some 0) with kind := .array 10 .int, interfaces := #[7, 4], accessFlags := 1041 }

def heap : Heap := #[{ cls := 6, slots := #[.ref 2, .ref 1, .ref 3, .null], vm := .statics 6 },
  { cls := 6, slots := #[.null, .int 1, .int 0], vm := .none },
  { cls := 6, slots := #[.null, .int 0, .int 0], vm := .none },
  { cls := 6, slots := #[.null, .int 2, .int 0], vm := .none }]
def classes : Array Class := #[k0, k1, k2, k3, k4, k5, k6, k7, k8, k9, k10, k11]
def interned : List (Array UInt16 × Addr) := []
def slotsUsed : Nat := 13
def theMethod : MethodId := ⟨1, 1⟩
def args0 : Array Value := #[.int 5, .int 6]
def aboutOver (below : List Frame) : State where
  vm := { classes := classes, interned := interned.toArray }
  heap := heap
  slotsUsed := slotsUsed
  threads := #[{ frames := .invoking theMethod args0 :: below }]
def below0 : List Frame := [.native { method := ⟨0, 0⟩, args := #[] }]
def about1 : State := aboutOver below0
def p0 : Program := .bare "" "" ""
def e0 : Env := launch0.env 0 0 0
theorem w_frames : about1.frames = Frame.invoking theMethod args0 :: below0 := rfl
set_option maxRecDepth 65536 in
theorem w_args : argsFit about1.vm theMethod args0 = true := by decide +kernel
set_option maxRecDepth 65536 in
theorem w_heap : heapFits about1 = true := by decide +kernel
set_option maxRecDepth 65536 in
theorem w_runnable : about1.curStatus? = some .runnable := by decide +kernel
set_option maxRecDepth 65536 in
theorem w_alone : about1.alone = true := by decide +kernel
set_option maxRecDepth 65536 in
theorem w_named : about1.methodNamed? x = some theMethod := by decide +kernel
set_option maxRecDepth 65536 in
theorem w_hears : about1.hears theMethod below0 = true := by decide +kernel
set_option maxRecDepth 65536 in
theorem w_ripe : about1.ripe theMethod args0 below0 = true := by decide +kernel
theorem w_running : about1.status = .running := rfl
set_option maxRecDepth 65536 in
theorem w_room : about1.hasRoom e0.platform room_1 = true :=
  launch0.hasRoom_least _ room_1 (by decide +kernel) (by decide +kernel) (by decide +kernel) (by decide +kernel) (by decide +kernel) (by decide +kernel)
theorem allAtoms_all (ts : List Jvm.Cond) (a : Array Jvm.Value) (st : Jvm.State) : (allAtoms ts).before a st = ts.all (fun c => c.before a st) := by
  induction ts with
  | nil => rfl
  | cons c t ih =>
    show (Jvm.Cond.and c (allAtoms t)).before a st = _
    rw [Jvm.Cond.before_and, ih, List.all_cons]
def words1 : List Jvm.Cond := Jvm.Cond.code x code maxLocals ret :: tables_1
/-- a 'code' word, met by the world's own term for the bytes: nothing is compared byte by byte -/
theorem code_word {y : MethodName} {bytes : ByteArray} {mx : Nat} {rt : Option FieldType} {a : Array Value} {s : State} {m : MethodId} {meth : Method} {c : Code} (h1 : s.methodNamed? y = some m) (h2 : s.vm.method? m = some meth) (h3 : meth.code = some c) (h4 : c.code = bytes)
    (h5 : (c.maxLocals == mx && c.exceptionTable.isEmpty && decide (c.maxStack ≤ mostOperands) && decide (meth.sig.returnType = rt) && !meth.locks && decide (parseMethodDescriptor y.desc = some meth.sig)) = true) : (Jvm.Cond.code y bytes mx rt).before a s = true := by
  simp only [Bool.and_eq_true, beq_iff_eq, Bool.not_eq_true', decide_eq_true_eq] at h5
  obtain ⟨⟨⟨⟨⟨g1, g2⟩, g3⟩, g4⟩, g5⟩, g6⟩ := h5
  simp [Cond.before, Cond.holds, Cond.value, h1, h2, h3, h4, g1, g2, g3, g4, g5, g6]
def isCode : Jvm.Cond → Bool
  | .code _ _ _ _ => true
  | _ => false
theorem all_split {L : List Jvm.Cond} {P : Jvm.Cond → Bool} (h1 : L.all (fun c => isCode c || P c) = true) (h2 : ∀ c ∈ L.filter isCode, P c = true) : L.all P = true := by
  refine List.all_eq_true.mpr fun c hc => ?_
  have h := List.all_eq_true.mp h1 c hc
  rcases Bool.eq_false_or_eq_true (isCode c) with hi | hi
  · exact h2 c (List.mem_filter.mpr ⟨hc, hi⟩)
  · simpa [hi] using h
set_option maxRecDepth 65536 in
theorem w_c0 : (Jvm.Cond.code x code maxLocals ret).before args0 about1 = true := code_word (m := ⟨1, 1⟩) (meth := k1m1) (c := k1c1) (by decide +kernel) rfl rfl rfl (by decide +kernel)
set_option maxRecDepth 65536 in
theorem w_c1 : (Jvm.Cond.code ({ cls := "com/example/ladon/ladon/Truth", name := "of", desc := "(Z)Lcom/example/ladon/ladon/Truth;" } : Jvm.MethodName) prog_39_method_4_code (1 : Nat) (Option.some (Jvm.ClassFile.FieldType.object "com/example/ladon/ladon/Truth"))).before args0 about1 = true := code_word (m := ⟨6, 0⟩) (meth := k6m0) (c := k6c0) (by decide +kernel) rfl rfl rfl (by decide +kernel)
set_option maxRecDepth 65536 in
theorem w_c2 : (Jvm.Cond.code ({ cls := "com/example/ladon/ladon/Truth", name := "not", desc := "()Lcom/example/ladon/ladon/Truth;" } : Jvm.MethodName) prog_39_method_6_code (2 : Nat) (Option.some (Jvm.ClassFile.FieldType.object "com/example/ladon/ladon/Truth"))).before args0 about1 = true := code_word (m := ⟨6, 2⟩) (meth := k6m2) (c := k6c2) (by decide +kernel) rfl rfl rfl (by decide +kernel)
set_option maxRecDepth 65536 in
theorem w_c3 : (Jvm.Cond.code ({ cls := "com/example/ladon/ladon/Truth", name := "join", desc := "(Lcom/example/ladon/ladon/Truth;Lcom/example/ladon/ladon/Truth;)Lcom/example/ladon/ladon/Truth;" } : Jvm.MethodName) prog_39_method_5_code (4 : Nat) (Option.some (Jvm.ClassFile.FieldType.object "com/example/ladon/ladon/Truth"))).before args0 about1 = true := code_word (m := ⟨6, 1⟩) (meth := k6m1) (c := k6c1) (by decide +kernel) rfl rfl rfl (by decide +kernel)
def codes1 : List Jvm.Cond := [Jvm.Cond.code x code maxLocals ret, Jvm.Cond.code ({ cls := "com/example/ladon/ladon/Truth", name := "of", desc := "(Z)Lcom/example/ladon/ladon/Truth;" } : Jvm.MethodName) prog_39_method_4_code (1 : Nat) (Option.some (Jvm.ClassFile.FieldType.object "com/example/ladon/ladon/Truth")), Jvm.Cond.code ({ cls := "com/example/ladon/ladon/Truth", name := "not", desc := "()Lcom/example/ladon/ladon/Truth;" } : Jvm.MethodName) prog_39_method_6_code (2 : Nat) (Option.some (Jvm.ClassFile.FieldType.object "com/example/ladon/ladon/Truth")), Jvm.Cond.code ({ cls := "com/example/ladon/ladon/Truth", name := "join", desc := "(Lcom/example/ladon/ladon/Truth;Lcom/example/ladon/ladon/Truth;)Lcom/example/ladon/ladon/Truth;" } : Jvm.MethodName) prog_39_method_5_code (4 : Nat) (Option.some (Jvm.ClassFile.FieldType.object "com/example/ladon/ladon/Truth"))]
set_option maxRecDepth 65536 in
theorem codes_eq : words1.filter isCode = codes1 := rfl
theorem w_codes : ∀ c ∈ words1.filter isCode, c.before args0 about1 = true := by
  rw [codes_eq]
  intro c hc
  simp only [codes1, List.mem_cons, List.not_mem_nil, or_false] at hc
  rcases hc with rfl | rfl | rfl | rfl
  · exact w_c0
  · exact w_c1
  · exact w_c2
  · exact w_c3
set_option maxRecDepth 65536 in
theorem w_t1 : words1.all (fun c => isCode c || c.before args0 about1) = true := by decide +kernel
theorem w_tables : (allAtoms (Jvm.Cond.code x code maxLocals ret :: tables_1)).before args0 about1 = true := by
  rw [allAtoms_all]
  show words1.all (fun c => c.before args0 about1) = true
  refine all_split ?_ w_codes
  rw [w_t1]
set_option maxRecDepth 65536 in
theorem w_case : (Jvm.Cond.and given_1 narrow_1).before args0 about1 = true := by decide +kernel
theorem w_applies : (headSpec (Jvm.Cond.code x code maxLocals ret :: tables_1) room_1).applies x e0.platform about1 = true :=
  (Spec.applies_iff w_frames).mpr ⟨w_running, w_runnable, w_alone, w_named, w_hears, w_ripe, w_room, w_tables⟩
theorem atStart : AtStart classFile x code maxLocals ret World_1 tables_1 room_1 Calls_1 rest_1 Pre_1 launch0 p0 e0 about1 theMethod args0 below0 :=
  ⟨lists_1, trivial, launch0.admits_env _ _ _, launch0.least_env, fairChoices_fair.cas, fairChoices_fair.clock, w_frames, w_args, w_heap, w_applies, trivial, trivial, w_case⟩
end start1
theorem witness_1 : WitnessClaimed_1 := ⟨start1.p0, start1.e0, start1.about1, start1.theMethod, start1.args0, start1.below0, start1.atStart⟩
end Jvm.Pilot.@@N@@
