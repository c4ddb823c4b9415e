import JvmDerived
import JvmDerived.Pilot.@@N@@Statement
import JvmDerived.Pilot.@@N@@Code
set_option linter.unusedVariables false
set_option linter.unusedSimpArgs false
namespace Jvm.Pilot.@@N@@
open Jvm Jvm.ClassFile Sem Op Lib Jvm.Free Jvm.Stand Jvm.LawKit Jvm.RoadKit Bundle Jvm.Pilot.@@N@@.Jvm.D
theorem own_eqi {s : State} {args : Array Value} {t : Term} {k : Int32} (h : (Jvm.Cond.eq t (Term.int k)).value args s none s [] = some true) : t.eval args s none [] s = some (.int k) := by
  obtain ⟨u, v, hu, hv, k1, k2⟩ := cmp_v (Or.inl h)
  obtain rfl : v = .int k := Option.some.inj (hv.symm.trans (Term.int_eval k))
  obtain ⟨z, rfl⟩ := k2
  rw [hu]
  simp [Cond.value, hu, hv] at h
  rw [h]
theorem own_fld {s : State} {args : Array Value} {t : Term} {C n d : String} {k : Int32} {x : Addr} (ev : t.eval args s none [] s = some (.ref x)) (h : (Jvm.Cond.eq (Term.field t C n d) (Term.int k)).value args s none s [] = some true) : Fld s s.heap x C n d (.int k) := by
  have hu := own_eqi h
  rw [fld_at ev] at hu
  exact Fld.start hu
theorem own_nn (k : Int32) : 0 ≤ (k &&& (2147483647 : Int32)).toInt := (c_and k 2147483647 (by decide)).1
theorem own_rem (x y : Int32) (d : Int) (h0 : 0 ≤ x.toInt) (hy : y.toInt = d) : (x % y).toInt = x.toInt % d := (c_irem x y d hy).1 h0
theorem own_mod3 (k : Int32) : ((k &&& (2147483647 : Int32)) % (3 : Int32)) = (0 : Int32) ∨ ((k &&& (2147483647 : Int32)) % (3 : Int32)) = (1 : Int32) ∨ ((k &&& (2147483647 : Int32)) % (3 : Int32)) = (2 : Int32) := by
  have h := own_rem (k &&& (2147483647 : Int32)) (3 : Int32) 3 (own_nn k) rfl
  have q : ((k &&& (2147483647 : Int32)) % (3 : Int32)).toInt = 0 ∨ ((k &&& (2147483647 : Int32)) % (3 : Int32)).toInt = 1 ∨ ((k &&& (2147483647 : Int32)) % (3 : Int32)).toInt = 2 := by omega
  rcases q with q | q | q
  · exact Or.inl (Int32.toInt_inj.mp (q.trans rfl))
  · exact Or.inr (Or.inl (Int32.toInt_inj.mp (q.trans rfl)))
  · exact Or.inr (Or.inr (Int32.toInt_inj.mp (q.trans rfl)))

theorem d1_0 : decode method_2_code 0 = .ok (.iload_n 0, 1) := by decide +kernel
theorem d1_1 : decode method_2_code 1 = .ok (.ifCond .ne 7, 3) := by decide +kernel
theorem d1_4 : decode method_2_code 4 = .ok (.getstatic 7, 3) := by decide +kernel
theorem d1_7 : decode method_2_code 7 = .ok (.areturn, 1) := by decide +kernel
theorem pn_4 : plainName "com/example/ladon/ladon/TruthNotPinLaw" = true := by first | (simp [plainName, overriddenIn]; done) | decide +kernel
theorem ef_1_5 (m : MethodId) (x0 : Int32) : entryFrame m #[(.int x0)] 1 = mkF m 0 #[.val (.int x0)] [] := by first | (simp [entryFrame, mkF, argsToLocals, Value.category]; done) | rfl
def QrmP0 (Z : State) (aT : Addr) (aF : Addr) (aI : Addr) (h0 : Heap) (n0 : Nat) (v : Option Value) (h : Heap) (L : List Loc) : Prop := v = some (.ref aT) ∧ Fr n0 L ∧ h = h0
set_option maxRecDepth 65536 in
set_option maxHeartbeats 40000000 in
theorem rmP0 (l : Launch) (Z : State) (a0 : Array Value) (hw : ∀ d ∈ tables_1, d.before a0 Z = true) (ws : List Jvm.Cond) (aT : Addr) (aF : Addr) (aI : Addr) (h0 : Heap) (n0 : Nat) (O0 : Old Z n0 h0) (S_TRUE : Sta Z Z.heap "com/example/ladon/ladon/Truth" "TRUE" "Lcom/example/ladon/ladon/Truth;" (.ref aT)) (S_FALSE : Sta Z Z.heap "com/example/ladon/ladon/Truth" "FALSE" "Lcom/example/ladon/ladon/Truth;" (.ref aF)) (S_INDETERMINATE : Sta Z Z.heap "com/example/ladon/ladon/Truth" "INDETERMINATE" "Lcom/example/ladon/ladon/Truth;" (.ref aI)) (E_TRUE : Exa Z Z.heap aT "com/example/ladon/ladon/Truth") (E_FALSE : Exa Z Z.heap aF "com/example/ladon/ladon/Truth") (E_INDETERMINATE : Exa Z Z.heap aI "com/example/ladon/ladon/Truth") (hTF : ¬ (aT = aF)) (hTI : ¬ (aT = aI)) (hFI : ¬ (aF = aI)) :
    MetFree l (⟨"com/example/ladon/ladon/TruthNotPinLaw", "pick", "(I)Lcom/example/ladon/ladon/Truth;"⟩ : MethodName) (head1 (Jvm.Cond.code (⟨"com/example/ladon/ladon/TruthNotPinLaw", "pick", "(I)Lcom/example/ladon/ladon/Truth;"⟩ : MethodName) method_2_code 1 (some (.object "com/example/ladon/ladon/Truth")) :: ws) ({ frames := 0, cells := 0, slots := 0, locals := 0 } : Room)) (fun a_ U_ => a_ = #[(.int (0 : Int32))] ∧ Z.Warmed39 U_.vm ∧ U_.heap = h0) (fun _ _ _ _ _ => True) (fun _ U_ o_ U'_ => ∃ v_ L_, o_ = .returned v_ ∧ QrmP0 Z aT aF aI h0 n0 v_ U'_.heap L_ ∧ FrameEnd U_ o_ U'_ L_ ({ frames := 0, cells := 0, slots := 0, locals := 0 } : Room).cells ({ frames := 0, cells := 0, slots := 0, locals := 0 } : Room).slots) := by
  refine MetFree.of_bodySF (plainFor_of_name pn_4) hisR ?_
  intro pg ee s mm args below meth cc s₁ Bd hml0 hP hK
  obtain ⟨rfl, hZ, hh⟩ := hP
  have hx := Bd.exec
  have hby := Bd.bytes
  have hml : cc.maxLocals = 1 := hml0
  have hown : s.vm.findClass "com/example/ladon/ladon/TruthNotPinLaw" = some mm.cls := findClass_of_methodNamed Bd.named
  have hnm := (name_of_methodNamed Bd.named Bd.method).1
  have X0 : Stand pg l ee ({ frames := 0, cells := 0, slots := 0, locals := 0 } : Room) s mm #[(.int (0 : Int32))] below meth cc s₁ [] 0 0 := Stand.of_body Bd
  have e0 : s₁.heap = h0 := by rw [← hh, Bd.state]; rfl
  have N0 := Fr.nil n0
  have K0 : Keep h0 h0 ([] : List Addr) := Keep.refl _ _
  have pre0 : ∀ t, Steps pg.tables ee below (s₁.setTop (mkF mm 0 #[.val (.int (0 : Int32))] [])) t → Steps pg.tables ee below (s₁.setTop (entryFrame mm #[(.int (0 : Int32))] 1)) t := fun t k => castTop (ef_1_5 mm (0 : Int32)) k
  obtain ⟨T1, X1, e1, st1⟩ := getS2 X0 hx hZ hown (host := "") (Or.inl (hw _ (List.mem_of_getElem? (i := 5) rfl))) Via.refl e0 (S_TRUE.ext O0.2) (g := (mkF mm 4 #[.val (.int (0 : Int32))] [])) rfl (hb hby d1_4)
  obtain ⟨fs, hr, hrun, hended, hW, hsame⟩ := X1.leave (v := some (.ref aT)) (fun h => by rw [Bd.returns] at h; cases h)
  refine ⟨_, _, pre0 _ ?_, hrun, hended, _, _, rfl, ?_, ⟨_, rfl⟩, hW, hsame.mono (by decide) (by decide)⟩
  · show Steps pg.tables ee below (s₁.setTop (mkF mm 0 #[.val (.int (0 : Int32))] [])) _
    refine XS.iloadN X0.here hx rfl (hb hby d1_0) rfl ?_
    show Steps pg.tables ee below (s₁.setTop (mkF mm 1 #[.val (.int (0 : Int32))] [(.int (0 : Int32))])) _
    refine XS.ifNo X0.here hx rfl (hb hby d1_1) rfl ((if0 _ _).trans (teq (by decide : (0 : Int32) = (0 : Int32))).2) ?_
    show Steps pg.tables ee below (s₁.setTop (mkF mm 4 #[.val (.int (0 : Int32))] [])) _
    refine st1 _ ?_
    show Steps pg.tables ee below (T1.setTop (mkF mm 7 #[.val (.int (0 : Int32))] [(.ref aT)])) _
    exact retOut X1 hx Bd.returns rfl (Or.inr (Or.inr (Or.inr (Or.inr ⟨rfl, rfl, rfl⟩)))) (hb hby d1_7) hr
  · show QrmP0 Z aT aF aI h0 n0 _ T1.heap _
    rw [e1]
    exact ⟨rfl, N0, rfl⟩
theorem d1_8 : decode method_2_code 8 = .ok (.iload_n 0, 1) := by decide +kernel
theorem d1_9 : decode method_2_code 9 = .ok (.iconst 1, 1) := by decide +kernel
theorem d1_10 : decode method_2_code 10 = .ok (.if_icmp .ne 7, 3) := by decide +kernel
theorem d1_13 : decode method_2_code 13 = .ok (.getstatic 13, 3) := by decide +kernel
theorem d1_16 : decode method_2_code 16 = .ok (.areturn, 1) := by decide +kernel
def QrmP1 (Z : State) (aT : Addr) (aF : Addr) (aI : Addr) (h0 : Heap) (n0 : Nat) (v : Option Value) (h : Heap) (L : List Loc) : Prop := v = some (.ref aF) ∧ Fr n0 L ∧ h = h0
set_option maxRecDepth 65536 in
set_option maxHeartbeats 40000000 in
theorem rmP1 (l : Launch) (Z : State) (a0 : Array Value) (hw : ∀ d ∈ tables_1, d.before a0 Z = true) (ws : List Jvm.Cond) (aT : Addr) (aF : Addr) (aI : Addr) (h0 : Heap) (n0 : Nat) (O0 : Old Z n0 h0) (S_TRUE : Sta Z Z.heap "com/example/ladon/ladon/Truth" "TRUE" "Lcom/example/ladon/ladon/Truth;" (.ref aT)) (S_FALSE : Sta Z Z.heap "com/example/ladon/ladon/Truth" "FALSE" "Lcom/example/ladon/ladon/Truth;" (.ref aF)) (S_INDETERMINATE : Sta Z Z.heap "com/example/ladon/ladon/Truth" "INDETERMINATE" "Lcom/example/ladon/ladon/Truth;" (.ref aI)) (E_TRUE : Exa Z Z.heap aT "com/example/ladon/ladon/Truth") (E_FALSE : Exa Z Z.heap aF "com/example/ladon/ladon/Truth") (E_INDETERMINATE : Exa Z Z.heap aI "com/example/ladon/ladon/Truth") (hTF : ¬ (aT = aF)) (hTI : ¬ (aT = aI)) (hFI : ¬ (aF = aI)) :
    MetFree l (⟨"com/example/ladon/ladon/TruthNotPinLaw", "pick", "(I)Lcom/example/ladon/ladon/Truth;"⟩ : MethodName) (head1 (Jvm.Cond.code (⟨"com/example/ladon/ladon/TruthNotPinLaw", "pick", "(I)Lcom/example/ladon/ladon/Truth;"⟩ : MethodName) method_2_code 1 (some (.object "com/example/ladon/ladon/Truth")) :: ws) ({ frames := 0, cells := 0, slots := 0, locals := 0 } : Room)) (fun a_ U_ => a_ = #[(.int (1 : Int32))] ∧ Z.Warmed39 U_.vm ∧ U_.heap = h0) (fun _ _ _ _ _ => True) (fun _ U_ o_ U'_ => ∃ v_ L_, o_ = .returned v_ ∧ QrmP1 Z aT aF aI h0 n0 v_ U'_.heap L_ ∧ FrameEnd U_ o_ U'_ L_ ({ frames := 0, cells := 0, slots := 0, locals := 0 } : Room).cells ({ frames := 0, cells := 0, slots := 0, locals := 0 } : Room).slots) := by
  refine MetFree.of_bodySF (plainFor_of_name pn_4) hisR ?_
  intro pg ee s mm args below meth cc s₁ Bd hml0 hP hK
  obtain ⟨rfl, hZ, hh⟩ := hP
  have hx := Bd.exec
  have hby := Bd.bytes
  have hml : cc.maxLocals = 1 := hml0
  have hown : s.vm.findClass "com/example/ladon/ladon/TruthNotPinLaw" = some mm.cls := findClass_of_methodNamed Bd.named
  have hnm := (name_of_methodNamed Bd.named Bd.method).1
  have X0 : Stand pg l ee ({ frames := 0, cells := 0, slots := 0, locals := 0 } : Room) s mm #[(.int (1 : Int32))] below meth cc s₁ [] 0 0 := Stand.of_body Bd
  have e0 : s₁.heap = h0 := by rw [← hh, Bd.state]; rfl
  have N0 := Fr.nil n0
  have K0 : Keep h0 h0 ([] : List Addr) := Keep.refl _ _
  have pre0 : ∀ t, Steps pg.tables ee below (s₁.setTop (mkF mm 0 #[.val (.int (1 : Int32))] [])) t → Steps pg.tables ee below (s₁.setTop (entryFrame mm #[(.int (1 : Int32))] 1)) t := fun t k => castTop (ef_1_5 mm (1 : Int32)) k
  obtain ⟨T1, X1, e1, st1⟩ := getS2 X0 hx hZ hown (host := "") (Or.inl (hw _ (List.mem_of_getElem? (i := 8) rfl))) Via.refl e0 (S_FALSE.ext O0.2) (g := (mkF mm 13 #[.val (.int (1 : Int32))] [])) rfl (hb hby d1_13)
  obtain ⟨fs, hr, hrun, hended, hW, hsame⟩ := X1.leave (v := some (.ref aF)) (fun h => by rw [Bd.returns] at h; cases h)
  refine ⟨_, _, pre0 _ ?_, hrun, hended, _, _, rfl, ?_, ⟨_, rfl⟩, hW, hsame.mono (by decide) (by decide)⟩
  · show Steps pg.tables ee below (s₁.setTop (mkF mm 0 #[.val (.int (1 : Int32))] [])) _
    refine XS.iloadN X0.here hx rfl (hb hby d1_0) rfl ?_
    show Steps pg.tables ee below (s₁.setTop (mkF mm 1 #[.val (.int (1 : Int32))] [(.int (1 : Int32))])) _
    refine XS.ifYes X0.here hx rfl (pc0 := 1) (pc' := 8) rfl (hb hby d1_1) rfl ((if0 _ _).trans (feq (by decide : ¬ ((1 : Int32) = (0 : Int32)))).2) (by decide) (by decide) ?_
    show Steps pg.tables ee below (s₁.setTop (mkF mm 8 #[.val (.int (1 : Int32))] [])) _
    refine XS.iloadN X0.here hx rfl (hb hby d1_8) rfl ?_
    show Steps pg.tables ee below (s₁.setTop (mkF mm 9 #[.val (.int (1 : Int32))] [(.int (1 : Int32))])) _
    refine XS.iconst X0.here hx rfl (hb hby d1_9) ?_
    show Steps pg.tables ee below (s₁.setTop (mkF mm 10 #[.val (.int (1 : Int32))] [(.int (1 : Int32)), (.int (1 : Int32))])) _
    refine XS.icmpNo X0.here hx rfl (hb hby d1_10) rfl (teq (by decide : (1 : Int32) = (1 : Int32))).2 ?_
    show Steps pg.tables ee below (s₁.setTop (mkF mm 13 #[.val (.int (1 : Int32))] [])) _
    refine st1 _ ?_
    show Steps pg.tables ee below (T1.setTop (mkF mm 16 #[.val (.int (1 : Int32))] [(.ref aF)])) _
    exact retOut X1 hx Bd.returns rfl (Or.inr (Or.inr (Or.inr (Or.inr ⟨rfl, rfl, rfl⟩)))) (hb hby d1_16) hr
  · show QrmP1 Z aT aF aI h0 n0 _ T1.heap _
    rw [e1]
    exact ⟨rfl, N0, rfl⟩
theorem d1_17 : decode method_2_code 17 = .ok (.getstatic 16, 3) := by decide +kernel
theorem d1_20 : decode method_2_code 20 = .ok (.areturn, 1) := by decide +kernel
def QrmP2 (Z : State) (aT : Addr) (aF : Addr) (aI : Addr) (h0 : Heap) (n0 : Nat) (v : Option Value) (h : Heap) (L : List Loc) : Prop := v = some (.ref aI) ∧ Fr n0 L ∧ h = h0
set_option maxRecDepth 65536 in
set_option maxHeartbeats 40000000 in
theorem rmP2 (l : Launch) (Z : State) (a0 : Array Value) (hw : ∀ d ∈ tables_1, d.before a0 Z = true) (ws : List Jvm.Cond) (aT : Addr) (aF : Addr) (aI : Addr) (h0 : Heap) (n0 : Nat) (O0 : Old Z n0 h0) (S_TRUE : Sta Z Z.heap "com/example/ladon/ladon/Truth" "TRUE" "Lcom/example/ladon/ladon/Truth;" (.ref aT)) (S_FALSE : Sta Z Z.heap "com/example/ladon/ladon/Truth" "FALSE" "Lcom/example/ladon/ladon/Truth;" (.ref aF)) (S_INDETERMINATE : Sta Z Z.heap "com/example/ladon/ladon/Truth" "INDETERMINATE" "Lcom/example/ladon/ladon/Truth;" (.ref aI)) (E_TRUE : Exa Z Z.heap aT "com/example/ladon/ladon/Truth") (E_FALSE : Exa Z Z.heap aF "com/example/ladon/ladon/Truth") (E_INDETERMINATE : Exa Z Z.heap aI "com/example/ladon/ladon/Truth") (hTF : ¬ (aT = aF)) (hTI : ¬ (aT = aI)) (hFI : ¬ (aF = aI)) :
    MetFree l (⟨"com/example/ladon/ladon/TruthNotPinLaw", "pick", "(I)Lcom/example/ladon/ladon/Truth;"⟩ : MethodName) (head1 (Jvm.Cond.code (⟨"com/example/ladon/ladon/TruthNotPinLaw", "pick", "(I)Lcom/example/ladon/ladon/Truth;"⟩ : MethodName) method_2_code 1 (some (.object "com/example/ladon/ladon/Truth")) :: ws) ({ frames := 0, cells := 0, slots := 0, locals := 0 } : Room)) (fun a_ U_ => a_ = #[(.int (2 : Int32))] ∧ Z.Warmed39 U_.vm ∧ U_.heap = h0) (fun _ _ _ _ _ => True) (fun _ U_ o_ U'_ => ∃ v_ L_, o_ = .returned v_ ∧ QrmP2 Z aT aF aI h0 n0 v_ U'_.heap L_ ∧ FrameEnd U_ o_ U'_ L_ ({ frames := 0, cells := 0, slots := 0, locals := 0 } : Room).cells ({ frames := 0, cells := 0, slots := 0, locals := 0 } : Room).slots) := by
  refine MetFree.of_bodySF (plainFor_of_name pn_4) hisR ?_
  intro pg ee s mm args below meth cc s₁ Bd hml0 hP hK
  obtain ⟨rfl, hZ, hh⟩ := hP
  have hx := Bd.exec
  have hby := Bd.bytes
  have hml : cc.maxLocals = 1 := hml0
  have hown : s.vm.findClass "com/example/ladon/ladon/TruthNotPinLaw" = some mm.cls := findClass_of_methodNamed Bd.named
  have hnm := (name_of_methodNamed Bd.named Bd.method).1
  have X0 : Stand pg l ee ({ frames := 0, cells := 0, slots := 0, locals := 0 } : Room) s mm #[(.int (2 : Int32))] below meth cc s₁ [] 0 0 := Stand.of_body Bd
  have e0 : s₁.heap = h0 := by rw [← hh, Bd.state]; rfl
  have N0 := Fr.nil n0
  have K0 : Keep h0 h0 ([] : List Addr) := Keep.refl _ _
  have pre0 : ∀ t, Steps pg.tables ee below (s₁.setTop (mkF mm 0 #[.val (.int (2 : Int32))] [])) t → Steps pg.tables ee below (s₁.setTop (entryFrame mm #[(.int (2 : Int32))] 1)) t := fun t k => castTop (ef_1_5 mm (2 : Int32)) k
  obtain ⟨T1, X1, e1, st1⟩ := getS2 X0 hx hZ hown (host := "") (Or.inl (hw _ (List.mem_of_getElem? (i := 17) rfl))) Via.refl e0 (S_INDETERMINATE.ext O0.2) (g := (mkF mm 17 #[.val (.int (2 : Int32))] [])) rfl (hb hby d1_17)
  obtain ⟨fs, hr, hrun, hended, hW, hsame⟩ := X1.leave (v := some (.ref aI)) (fun h => by rw [Bd.returns] at h; cases h)
  refine ⟨_, _, pre0 _ ?_, hrun, hended, _, _, rfl, ?_, ⟨_, rfl⟩, hW, hsame.mono (by decide) (by decide)⟩
  · show Steps pg.tables ee below (s₁.setTop (mkF mm 0 #[.val (.int (2 : Int32))] [])) _
    refine XS.iloadN X0.here hx rfl (hb hby d1_0) rfl ?_
    show Steps pg.tables ee below (s₁.setTop (mkF mm 1 #[.val (.int (2 : Int32))] [(.int (2 : Int32))])) _
    refine XS.ifYes X0.here hx rfl (pc0 := 1) (pc' := 8) rfl (hb hby d1_1) rfl ((if0 _ _).trans (feq (by decide : ¬ ((2 : Int32) = (0 : Int32)))).2) (by decide) (by decide) ?_
    show Steps pg.tables ee below (s₁.setTop (mkF mm 8 #[.val (.int (2 : Int32))] [])) _
    refine XS.iloadN X0.here hx rfl (hb hby d1_8) rfl ?_
    show Steps pg.tables ee below (s₁.setTop (mkF mm 9 #[.val (.int (2 : Int32))] [(.int (2 : Int32))])) _
    refine XS.iconst X0.here hx rfl (hb hby d1_9) ?_
    show Steps pg.tables ee below (s₁.setTop (mkF mm 10 #[.val (.int (2 : Int32))] [(.int (1 : Int32)), (.int (2 : Int32))])) _
    refine XS.icmpYes X0.here hx rfl (pc0 := 10) (pc' := 17) rfl (hb hby d1_10) rfl (feq (by decide : ¬ ((2 : Int32) = (1 : Int32)))).2 (by decide) (by decide) ?_
    show Steps pg.tables ee below (s₁.setTop (mkF mm 17 #[.val (.int (2 : Int32))] [])) _
    refine st1 _ ?_
    show Steps pg.tables ee below (T1.setTop (mkF mm 20 #[.val (.int (2 : Int32))] [(.ref aI)])) _
    exact retOut X1 hx Bd.returns rfl (Or.inr (Or.inr (Or.inr (Or.inr ⟨rfl, rfl, rfl⟩)))) (hb hby d1_20) hr
  · show QrmP2 Z aT aF aI h0 n0 _ T1.heap _
    rw [e1]
    exact ⟨rfl, N0, rfl⟩
theorem d2_0 : decode prog_39_method_6_code 0 = .ok (.aload_n 0, 1) := by decide +kernel
theorem d2_1 : decode prog_39_method_6_code 1 = .ok (.getstatic 3, 3) := by decide +kernel
theorem d2_4 : decode prog_39_method_6_code 4 = .ok (.if_acmp .ne 10, 3) := by decide +kernel
theorem d2_7 : decode prog_39_method_6_code 7 = .ok (.getstatic 7, 3) := by decide +kernel
theorem d2_10 : decode prog_39_method_6_code 10 = .ok (.astore_n 1, 1) := by decide +kernel
theorem d2_11 : decode prog_39_method_6_code 11 = .ok (.goto 21, 3) := by decide +kernel
theorem d2_32 : decode prog_39_method_6_code 32 = .ok (.aload_n 1, 1) := by decide +kernel
theorem d2_33 : decode prog_39_method_6_code 33 = .ok (.areturn, 1) := by decide +kernel
theorem pn_21 : plainName "com/example/ladon/ladon/Truth" = true := by first | (simp [plainName, overriddenIn]; done) | decide +kernel
theorem ef_2_22 (m : MethodId) (x0 : Addr) : entryFrame m #[(.ref x0)] 2 = mkF m 0 #[.val (.ref x0), .unset] [] := by first | (simp [entryFrame, mkF, argsToLocals, Value.category]; done) | rfl
def QrmNot_aT (Z : State) (aT : Addr) (aF : Addr) (aI : Addr) (h0 : Heap) (n0 : Nat) (v : Option Value) (h : Heap) (L : List Loc) : Prop := v = some (.ref aF) ∧ Fr n0 L ∧ h = h0
set_option maxRecDepth 65536 in
set_option maxHeartbeats 40000000 in
theorem rmNot_aT (l : Launch) (Z : State) (a0 : Array Value) (hw : ∀ d ∈ tables_1, d.before a0 Z = true) (ws : List Jvm.Cond) (aT : Addr) (aF : Addr) (aI : Addr) (h0 : Heap) (n0 : Nat) (O0 : Old Z n0 h0) (S_TRUE : Sta Z Z.heap "com/example/ladon/ladon/Truth" "TRUE" "Lcom/example/ladon/ladon/Truth;" (.ref aT)) (S_FALSE : Sta Z Z.heap "com/example/ladon/ladon/Truth" "FALSE" "Lcom/example/ladon/ladon/Truth;" (.ref aF)) (S_INDETERMINATE : Sta Z Z.heap "com/example/ladon/ladon/Truth" "INDETERMINATE" "Lcom/example/ladon/ladon/Truth;" (.ref aI)) (E_TRUE : Exa Z Z.heap aT "com/example/ladon/ladon/Truth") (E_FALSE : Exa Z Z.heap aF "com/example/ladon/ladon/Truth") (E_INDETERMINATE : Exa Z Z.heap aI "com/example/ladon/ladon/Truth") (hTF : ¬ (aT = aF)) (hTI : ¬ (aT = aI)) (hFI : ¬ (aF = aI)) :
    MetFree l (⟨"com/example/ladon/ladon/Truth", "not", "()Lcom/example/ladon/ladon/Truth;"⟩ : MethodName) (head1 (Jvm.Cond.code (⟨"com/example/ladon/ladon/Truth", "not", "()Lcom/example/ladon/ladon/Truth;"⟩ : MethodName) prog_39_method_6_code 2 (some (.object "com/example/ladon/ladon/Truth")) :: ws) ({ frames := 0, cells := 0, slots := 0, locals := 0 } : Room)) (fun a_ U_ => a_ = #[(.ref aT)] ∧ Z.Warmed39 U_.vm ∧ U_.heap = h0) (fun _ _ _ _ _ => True) (fun _ U_ o_ U'_ => ∃ v_ L_, o_ = .returned v_ ∧ QrmNot_aT Z aT aF aI h0 n0 v_ U'_.heap L_ ∧ FrameEnd U_ o_ U'_ L_ ({ frames := 0, cells := 0, slots := 0, locals := 0 } : Room).cells ({ frames := 0, cells := 0, slots := 0, locals := 0 } : Room).slots) := by
  refine MetFree.of_bodySF (plainFor_of_name pn_21) hisR ?_
  intro pg ee s mm args below meth cc s₁ Bd hml0 hP hK
  obtain ⟨rfl, hZ, hh⟩ := hP
  have hx := Bd.exec
  have hby := Bd.bytes
  have hml : cc.maxLocals = 2 := hml0
  have hown : s.vm.findClass "com/example/ladon/ladon/Truth" = some mm.cls := findClass_of_methodNamed Bd.named
  have hnm := (name_of_methodNamed Bd.named Bd.method).1
  have X0 : Stand pg l ee ({ frames := 0, cells := 0, slots := 0, locals := 0 } : Room) s mm #[(.ref aT)] below meth cc s₁ [] 0 0 := Stand.of_body Bd
  have e0 : s₁.heap = h0 := by rw [← hh, Bd.state]; rfl
  have N0 := Fr.nil n0
  have K0 : Keep h0 h0 ([] : List Addr) := Keep.refl _ _
  have pre0 : ∀ t, Steps pg.tables ee below (s₁.setTop (mkF mm 0 #[.val (.ref aT), .unset] [])) t → Steps pg.tables ee below (s₁.setTop (entryFrame mm #[(.ref aT)] 2)) t := fun t k => castTop (ef_2_22 mm aT) k
  obtain ⟨T1, X1, e1, st1⟩ := getS2 X0 hx hZ hown (host := "") (Or.inl (hw _ (List.mem_of_getElem? (i := 15) rfl))) Via.refl e0 (S_TRUE.ext O0.2) (g := (mkF mm 1 #[.val (.ref aT), .unset] [(.ref aT)])) rfl (hb hby d2_1)
  obtain ⟨T2, X2, e2, st2⟩ := getS2 X1 hx hZ hown (host := "") (Or.inl (hw _ (List.mem_of_getElem? (i := 16) rfl))) Via.refl e1 (S_FALSE.ext O0.2) (g := (mkF mm 7 #[.val (.ref aT), .unset] [])) rfl (hb hby d2_7)
  obtain ⟨fs, hr, hrun, hended, hW, hsame⟩ := X2.leave (v := some (.ref aF)) (fun h => by rw [Bd.returns] at h; cases h)
  refine ⟨_, _, pre0 _ ?_, hrun, hended, _, _, rfl, ?_, ⟨_, rfl⟩, hW, hsame.mono (by decide) (by decide)⟩
  · show Steps pg.tables ee below (s₁.setTop (mkF mm 0 #[.val (.ref aT), .unset] [])) _
    refine XS.aloadN X0.here hx rfl (hb hby d2_0) rfl rfl ?_
    show Steps pg.tables ee below (s₁.setTop (mkF mm 1 #[.val (.ref aT), .unset] [(.ref aT)])) _
    refine st1 _ ?_
    show Steps pg.tables ee below (T1.setTop (mkF mm 4 #[.val (.ref aT), .unset] [(.ref aT), (.ref aT)])) _
    refine Jvm.RoadKit.acmp (g := (mkF mm 4 #[.val (.ref aT), .unset] [(.ref aT), (.ref aT)])) X1 hx rfl rfl rfl (pc0 := 4) (pc' := 7) (same := true) rfl (hb hby d2_4) rfl (decide_eq_true rfl) (by decide) (by decide) ?_
    show Steps pg.tables ee below (T1.setTop (mkF mm 7 #[.val (.ref aT), .unset] [])) _
    refine st2 _ ?_
    show Steps pg.tables ee below (T2.setTop (mkF mm 10 #[.val (.ref aT), .unset] [(.ref aF)])) _
    refine XS.astoreN X2.here hx rfl (hb hby d2_10) rfl rfl (l' := #[.val (.ref aT), .val (.ref aF)]) rfl ?_
    show Steps pg.tables ee below (T2.setTop (mkF mm 11 #[.val (.ref aT), .val (.ref aF)] [])) _
    refine XS.goto X2.here hx rfl (pc0 := 11) (pc' := 32) rfl (hb hby d2_11) (by decide) (by decide) ?_
    show Steps pg.tables ee below (T2.setTop (mkF mm 32 #[.val (.ref aT), .val (.ref aF)] [])) _
    refine XS.aloadN X2.here hx rfl (hb hby d2_32) rfl rfl ?_
    show Steps pg.tables ee below (T2.setTop (mkF mm 33 #[.val (.ref aT), .val (.ref aF)] [(.ref aF)])) _
    exact retOut X2 hx Bd.returns rfl (Or.inr (Or.inr (Or.inr (Or.inr ⟨rfl, rfl, rfl⟩)))) (hb hby d2_33) hr
  · show QrmNot_aT Z aT aF aI h0 n0 _ T2.heap _
    rw [e2]
    exact ⟨rfl, N0, rfl⟩
theorem d2_14 : decode prog_39_method_6_code 14 = .ok (.aload_n 0, 1) := by decide +kernel
theorem d2_15 : decode prog_39_method_6_code 15 = .ok (.getstatic 7, 3) := by decide +kernel
theorem d2_18 : decode prog_39_method_6_code 18 = .ok (.if_acmp .ne 10, 3) := by decide +kernel
theorem d2_21 : decode prog_39_method_6_code 21 = .ok (.getstatic 3, 3) := by decide +kernel
theorem d2_24 : decode prog_39_method_6_code 24 = .ok (.astore_n 1, 1) := by decide +kernel
theorem d2_25 : decode prog_39_method_6_code 25 = .ok (.goto 7, 3) := by decide +kernel
def QrmNot_aF (Z : State) (aT : Addr) (aF : Addr) (aI : Addr) (h0 : Heap) (n0 : Nat) (v : Option Value) (h : Heap) (L : List Loc) : Prop := v = some (.ref aT) ∧ Fr n0 L ∧ h = h0
set_option maxRecDepth 65536 in
set_option maxHeartbeats 40000000 in
theorem rmNot_aF (l : Launch) (Z : State) (a0 : Array Value) (hw : ∀ d ∈ tables_1, d.before a0 Z = true) (ws : List Jvm.Cond) (aT : Addr) (aF : Addr) (aI : Addr) (h0 : Heap) (n0 : Nat) (O0 : Old Z n0 h0) (S_TRUE : Sta Z Z.heap "com/example/ladon/ladon/Truth" "TRUE" "Lcom/example/ladon/ladon/Truth;" (.ref aT)) (S_FALSE : Sta Z Z.heap "com/example/ladon/ladon/Truth" "FALSE" "Lcom/example/ladon/ladon/Truth;" (.ref aF)) (S_INDETERMINATE : Sta Z Z.heap "com/example/ladon/ladon/Truth" "INDETERMINATE" "Lcom/example/ladon/ladon/Truth;" (.ref aI)) (E_TRUE : Exa Z Z.heap aT "com/example/ladon/ladon/Truth") (E_FALSE : Exa Z Z.heap aF "com/example/ladon/ladon/Truth") (E_INDETERMINATE : Exa Z Z.heap aI "com/example/ladon/ladon/Truth") (hTF : ¬ (aT = aF)) (hTI : ¬ (aT = aI)) (hFI : ¬ (aF = aI)) :
    MetFree l (⟨"com/example/ladon/ladon/Truth", "not", "()Lcom/example/ladon/ladon/Truth;"⟩ : MethodName) (head1 (Jvm.Cond.code (⟨"com/example/ladon/ladon/Truth", "not", "()Lcom/example/ladon/ladon/Truth;"⟩ : MethodName) prog_39_method_6_code 2 (some (.object "com/example/ladon/ladon/Truth")) :: ws) ({ frames := 0, cells := 0, slots := 0, locals := 0 } : Room)) (fun a_ U_ => a_ = #[(.ref aF)] ∧ Z.Warmed39 U_.vm ∧ U_.heap = h0) (fun _ _ _ _ _ => True) (fun _ U_ o_ U'_ => ∃ v_ L_, o_ = .returned v_ ∧ QrmNot_aF Z aT aF aI h0 n0 v_ U'_.heap L_ ∧ FrameEnd U_ o_ U'_ L_ ({ frames := 0, cells := 0, slots := 0, locals := 0 } : Room).cells ({ frames := 0, cells := 0, slots := 0, locals := 0 } : Room).slots) := by
  refine MetFree.of_bodySF (plainFor_of_name pn_21) hisR ?_
  intro pg ee s mm args below meth cc s₁ Bd hml0 hP hK
  obtain ⟨rfl, hZ, hh⟩ := hP
  have hx := Bd.exec
  have hby := Bd.bytes
  have hml : cc.maxLocals = 2 := hml0
  have hown : s.vm.findClass "com/example/ladon/ladon/Truth" = some mm.cls := findClass_of_methodNamed Bd.named
  have hnm := (name_of_methodNamed Bd.named Bd.method).1
  have X0 : Stand pg l ee ({ frames := 0, cells := 0, slots := 0, locals := 0 } : Room) s mm #[(.ref aF)] below meth cc s₁ [] 0 0 := Stand.of_body Bd
  have e0 : s₁.heap = h0 := by rw [← hh, Bd.state]; rfl
  have N0 := Fr.nil n0
  have K0 : Keep h0 h0 ([] : List Addr) := Keep.refl _ _
  have pre0 : ∀ t, Steps pg.tables ee below (s₁.setTop (mkF mm 0 #[.val (.ref aF), .unset] [])) t → Steps pg.tables ee below (s₁.setTop (entryFrame mm #[(.ref aF)] 2)) t := fun t k => castTop (ef_2_22 mm aF) k
  obtain ⟨T1, X1, e1, st1⟩ := getS2 X0 hx hZ hown (host := "") (Or.inl (hw _ (List.mem_of_getElem? (i := 15) rfl))) Via.refl e0 (S_TRUE.ext O0.2) (g := (mkF mm 1 #[.val (.ref aF), .unset] [(.ref aF)])) rfl (hb hby d2_1)
  obtain ⟨T2, X2, e2, st2⟩ := getS2 X1 hx hZ hown (host := "") (Or.inl (hw _ (List.mem_of_getElem? (i := 16) rfl))) Via.refl e1 (S_FALSE.ext O0.2) (g := (mkF mm 15 #[.val (.ref aF), .unset] [(.ref aF)])) rfl (hb hby d2_15)
  obtain ⟨T3, X3, e3, st3⟩ := getS2 X2 hx hZ hown (host := "") (Or.inl (hw _ (List.mem_of_getElem? (i := 15) rfl))) Via.refl e2 (S_TRUE.ext O0.2) (g := (mkF mm 21 #[.val (.ref aF), .unset] [])) rfl (hb hby d2_21)
  obtain ⟨fs, hr, hrun, hended, hW, hsame⟩ := X3.leave (v := some (.ref aT)) (fun h => by rw [Bd.returns] at h; cases h)
  refine ⟨_, _, pre0 _ ?_, hrun, hended, _, _, rfl, ?_, ⟨_, rfl⟩, hW, hsame.mono (by decide) (by decide)⟩
  · show Steps pg.tables ee below (s₁.setTop (mkF mm 0 #[.val (.ref aF), .unset] [])) _
    refine XS.aloadN X0.here hx rfl (hb hby d2_0) rfl rfl ?_
    show Steps pg.tables ee below (s₁.setTop (mkF mm 1 #[.val (.ref aF), .unset] [(.ref aF)])) _
    refine st1 _ ?_
    show Steps pg.tables ee below (T1.setTop (mkF mm 4 #[.val (.ref aF), .unset] [(.ref aT), (.ref aF)])) _
    refine Jvm.RoadKit.acmp (g := (mkF mm 4 #[.val (.ref aF), .unset] [(.ref aT), (.ref aF)])) X1 hx rfl rfl rfl (pc0 := 4) (pc' := 14) (same := false) rfl (hb hby d2_4) rfl (decide_eq_false fun q => hTF (Value.ref.inj q).symm) (by decide) (by decide) ?_
    show Steps pg.tables ee below (T1.setTop (mkF mm 14 #[.val (.ref aF), .unset] [])) _
    refine XS.aloadN X1.here hx rfl (hb hby d2_14) rfl rfl ?_
    show Steps pg.tables ee below (T1.setTop (mkF mm 15 #[.val (.ref aF), .unset] [(.ref aF)])) _
    refine st2 _ ?_
    show Steps pg.tables ee below (T2.setTop (mkF mm 18 #[.val (.ref aF), .unset] [(.ref aF), (.ref aF)])) _
    refine Jvm.RoadKit.acmp (g := (mkF mm 18 #[.val (.ref aF), .unset] [(.ref aF), (.ref aF)])) X2 hx rfl rfl rfl (pc0 := 18) (pc' := 21) (same := true) rfl (hb hby d2_18) rfl (decide_eq_true rfl) (by decide) (by decide) ?_
    show Steps pg.tables ee below (T2.setTop (mkF mm 21 #[.val (.ref aF), .unset] [])) _
    refine st3 _ ?_
    show Steps pg.tables ee below (T3.setTop (mkF mm 24 #[.val (.ref aF), .unset] [(.ref aT)])) _
    refine XS.astoreN X3.here hx rfl (hb hby d2_24) rfl rfl (l' := #[.val (.ref aF), .val (.ref aT)]) rfl ?_
    show Steps pg.tables ee below (T3.setTop (mkF mm 25 #[.val (.ref aF), .val (.ref aT)] [])) _
    refine XS.goto X3.here hx rfl (pc0 := 25) (pc' := 32) rfl (hb hby d2_25) (by decide) (by decide) ?_
    show Steps pg.tables ee below (T3.setTop (mkF mm 32 #[.val (.ref aF), .val (.ref aT)] [])) _
    refine XS.aloadN X3.here hx rfl (hb hby d2_32) rfl rfl ?_
    show Steps pg.tables ee below (T3.setTop (mkF mm 33 #[.val (.ref aF), .val (.ref aT)] [(.ref aT)])) _
    exact retOut X3 hx Bd.returns rfl (Or.inr (Or.inr (Or.inr (Or.inr ⟨rfl, rfl, rfl⟩)))) (hb hby d2_33) hr
  · show QrmNot_aF Z aT aF aI h0 n0 _ T3.heap _
    rw [e3]
    exact ⟨rfl, N0, rfl⟩
theorem d2_28 : decode prog_39_method_6_code 28 = .ok (.getstatic 10, 3) := by decide +kernel
theorem d2_31 : decode prog_39_method_6_code 31 = .ok (.astore_n 1, 1) := by decide +kernel
def QrmNot_aI (Z : State) (aT : Addr) (aF : Addr) (aI : Addr) (h0 : Heap) (n0 : Nat) (v : Option Value) (h : Heap) (L : List Loc) : Prop := v = some (.ref aI) ∧ Fr n0 L ∧ h = h0
set_option maxRecDepth 65536 in
set_option maxHeartbeats 40000000 in
theorem rmNot_aI (l : Launch) (Z : State) (a0 : Array Value) (hw : ∀ d ∈ tables_1, d.before a0 Z = true) (ws : List Jvm.Cond) (aT : Addr) (aF : Addr) (aI : Addr) (h0 : Heap) (n0 : Nat) (O0 : Old Z n0 h0) (S_TRUE : Sta Z Z.heap "com/example/ladon/ladon/Truth" "TRUE" "Lcom/example/ladon/ladon/Truth;" (.ref aT)) (S_FALSE : Sta Z Z.heap "com/example/ladon/ladon/Truth" "FALSE" "Lcom/example/ladon/ladon/Truth;" (.ref aF)) (S_INDETERMINATE : Sta Z Z.heap "com/example/ladon/ladon/Truth" "INDETERMINATE" "Lcom/example/ladon/ladon/Truth;" (.ref aI)) (E_TRUE : Exa Z Z.heap aT "com/example/ladon/ladon/Truth") (E_FALSE : Exa Z Z.heap aF "com/example/ladon/ladon/Truth") (E_INDETERMINATE : Exa Z Z.heap aI "com/example/ladon/ladon/Truth") (hTF : ¬ (aT = aF)) (hTI : ¬ (aT = aI)) (hFI : ¬ (aF = aI)) :
    MetFree l (⟨"com/example/ladon/ladon/Truth", "not", "()Lcom/example/ladon/ladon/Truth;"⟩ : MethodName) (head1 (Jvm.Cond.code (⟨"com/example/ladon/ladon/Truth", "not", "()Lcom/example/ladon/ladon/Truth;"⟩ : MethodName) prog_39_method_6_code 2 (some (.object "com/example/ladon/ladon/Truth")) :: ws) ({ frames := 0, cells := 0, slots := 0, locals := 0 } : Room)) (fun a_ U_ => a_ = #[(.ref aI)] ∧ Z.Warmed39 U_.vm ∧ U_.heap = h0) (fun _ _ _ _ _ => True) (fun _ U_ o_ U'_ => ∃ v_ L_, o_ = .returned v_ ∧ QrmNot_aI Z aT aF aI h0 n0 v_ U'_.heap L_ ∧ FrameEnd U_ o_ U'_ L_ ({ frames := 0, cells := 0, slots := 0, locals := 0 } : Room).cells ({ frames := 0, cells := 0, slots := 0, locals := 0 } : Room).slots) := by
  refine MetFree.of_bodySF (plainFor_of_name pn_21) hisR ?_
  intro pg ee s mm args below meth cc s₁ Bd hml0 hP hK
  obtain ⟨rfl, hZ, hh⟩ := hP
  have hx := Bd.exec
  have hby := Bd.bytes
  have hml : cc.maxLocals = 2 := hml0
  have hown : s.vm.findClass "com/example/ladon/ladon/Truth" = some mm.cls := findClass_of_methodNamed Bd.named
  have hnm := (name_of_methodNamed Bd.named Bd.method).1
  have X0 : Stand pg l ee ({ frames := 0, cells := 0, slots := 0, locals := 0 } : Room) s mm #[(.ref aI)] below meth cc s₁ [] 0 0 := Stand.of_body Bd
  have e0 : s₁.heap = h0 := by rw [← hh, Bd.state]; rfl
  have N0 := Fr.nil n0
  have K0 : Keep h0 h0 ([] : List Addr) := Keep.refl _ _
  have pre0 : ∀ t, Steps pg.tables ee below (s₁.setTop (mkF mm 0 #[.val (.ref aI), .unset] [])) t → Steps pg.tables ee below (s₁.setTop (entryFrame mm #[(.ref aI)] 2)) t := fun t k => castTop (ef_2_22 mm aI) k
  obtain ⟨T1, X1, e1, st1⟩ := getS2 X0 hx hZ hown (host := "") (Or.inl (hw _ (List.mem_of_getElem? (i := 15) rfl))) Via.refl e0 (S_TRUE.ext O0.2) (g := (mkF mm 1 #[.val (.ref aI), .unset] [(.ref aI)])) rfl (hb hby d2_1)
  obtain ⟨T2, X2, e2, st2⟩ := getS2 X1 hx hZ hown (host := "") (Or.inl (hw _ (List.mem_of_getElem? (i := 16) rfl))) Via.refl e1 (S_FALSE.ext O0.2) (g := (mkF mm 15 #[.val (.ref aI), .unset] [(.ref aI)])) rfl (hb hby d2_15)
  obtain ⟨T3, X3, e3, st3⟩ := getS2 X2 hx hZ hown (host := "") (Or.inl (hw _ (List.mem_of_getElem? (i := 19) rfl))) Via.refl e2 (S_INDETERMINATE.ext O0.2) (g := (mkF mm 28 #[.val (.ref aI), .unset] [])) rfl (hb hby d2_28)
  obtain ⟨fs, hr, hrun, hended, hW, hsame⟩ := X3.leave (v := some (.ref aI)) (fun h => by rw [Bd.returns] at h; cases h)
  refine ⟨_, _, pre0 _ ?_, hrun, hended, _, _, rfl, ?_, ⟨_, rfl⟩, hW, hsame.mono (by decide) (by decide)⟩
  · show Steps pg.tables ee below (s₁.setTop (mkF mm 0 #[.val (.ref aI), .unset] [])) _
    refine XS.aloadN X0.here hx rfl (hb hby d2_0) rfl rfl ?_
    show Steps pg.tables ee below (s₁.setTop (mkF mm 1 #[.val (.ref aI), .unset] [(.ref aI)])) _
    refine st1 _ ?_
    show Steps pg.tables ee below (T1.setTop (mkF mm 4 #[.val (.ref aI), .unset] [(.ref aT), (.ref aI)])) _
    refine Jvm.RoadKit.acmp (g := (mkF mm 4 #[.val (.ref aI), .unset] [(.ref aT), (.ref aI)])) X1 hx rfl rfl rfl (pc0 := 4) (pc' := 14) (same := false) rfl (hb hby d2_4) rfl (decide_eq_false fun q => hTI (Value.ref.inj q).symm) (by decide) (by decide) ?_
    show Steps pg.tables ee below (T1.setTop (mkF mm 14 #[.val (.ref aI), .unset] [])) _
    refine XS.aloadN X1.here hx rfl (hb hby d2_14) rfl rfl ?_
    show Steps pg.tables ee below (T1.setTop (mkF mm 15 #[.val (.ref aI), .unset] [(.ref aI)])) _
    refine st2 _ ?_
    show Steps pg.tables ee below (T2.setTop (mkF mm 18 #[.val (.ref aI), .unset] [(.ref aF), (.ref aI)])) _
    refine Jvm.RoadKit.acmp (g := (mkF mm 18 #[.val (.ref aI), .unset] [(.ref aF), (.ref aI)])) X2 hx rfl rfl rfl (pc0 := 18) (pc' := 28) (same := false) rfl (hb hby d2_18) rfl (decide_eq_false fun q => hFI (Value.ref.inj q).symm) (by decide) (by decide) ?_
    show Steps pg.tables ee below (T2.setTop (mkF mm 28 #[.val (.ref aI), .unset] [])) _
    refine st3 _ ?_
    show Steps pg.tables ee below (T3.setTop (mkF mm 31 #[.val (.ref aI), .unset] [(.ref aI)])) _
    refine XS.astoreN X3.here hx rfl (hb hby d2_31) rfl rfl (l' := #[.val (.ref aI), .val (.ref aI)]) rfl ?_
    show Steps pg.tables ee below (T3.setTop (mkF mm 32 #[.val (.ref aI), .val (.ref aI)] [])) _
    refine XS.aloadN X3.here hx rfl (hb hby d2_32) rfl rfl ?_
    show Steps pg.tables ee below (T3.setTop (mkF mm 33 #[.val (.ref aI), .val (.ref aI)] [(.ref aI)])) _
    exact retOut X3 hx Bd.returns rfl (Or.inr (Or.inr (Or.inr (Or.inr ⟨rfl, rfl, rfl⟩)))) (hb hby d2_33) hr
  · show QrmNot_aI Z aT aF aI h0 n0 _ T3.heap _
    rw [e3]
    exact ⟨rfl, N0, rfl⟩
theorem pd_31 : parseMethodDescriptor "(I)Lcom/example/ladon/ladon/Truth;" = some ⟨[.int], some (.object "com/example/ladon/ladon/Truth")⟩ := by decide +kernel
theorem pd_32 : parseMethodDescriptor "()Lcom/example/ladon/ladon/Truth;" = some ⟨[], some (.object "com/example/ladon/ladon/Truth")⟩ := by decide +kernel
theorem ef_0_33 (m : MethodId) (x0 : Int32) : entryFrame m #[(.int x0)] maxLocals = mkF m 0 #[.val (.int x0), .unset, .unset, .unset, .unset, .unset, .unset] [] := by first | (simp [entryFrame, mkF, argsToLocals, Value.category, maxLocals]; done) | rfl
def Qrm0 (Z : State) (p0 : Int32) (aT : Addr) (aF : Addr) (aI : Addr) (h0 : Heap) (n0 : Nat) (v : Option Value) (h : Heap) (L : List Loc) : Prop := v = some (.int (1 : Int32)) ∧ Fr n0 L
set_option maxRecDepth 65536 in
set_option maxHeartbeats 40000000 in
theorem rm0 (l : Launch) (Z : State) (a0 : Array Value) (hw : ∀ d ∈ tables_1, d.before a0 Z = true) (ws : List Jvm.Cond) (p0 : Int32) (aT : Addr) (aF : Addr) (aI : Addr) (h0 : Heap) (n0 : Nat) (O0 : Old Z n0 h0) (S_TRUE : Sta Z Z.heap "com/example/ladon/ladon/Truth" "TRUE" "Lcom/example/ladon/ladon/Truth;" (.ref aT)) (S_FALSE : Sta Z Z.heap "com/example/ladon/ladon/Truth" "FALSE" "Lcom/example/ladon/ladon/Truth;" (.ref aF)) (S_INDETERMINATE : Sta Z Z.heap "com/example/ladon/ladon/Truth" "INDETERMINATE" "Lcom/example/ladon/ladon/Truth;" (.ref aI)) (E_TRUE : Exa Z Z.heap aT "com/example/ladon/ladon/Truth") (E_FALSE : Exa Z Z.heap aF "com/example/ladon/ladon/Truth") (E_INDETERMINATE : Exa Z Z.heap aI "com/example/ladon/ladon/Truth") (hTF : ¬ (aT = aF)) (hTI : ¬ (aT = aI)) (hFI : ¬ (aF = aI)) :
    MetFree l x (head1 (Jvm.Cond.code x code maxLocals ret :: ws) room_1) (fun a_ U_ => a_ = #[(.int p0)] ∧ Z.Warmed39 U_.vm ∧ U_.heap = h0) (fun _ _ _ _ _ => True) (fun _ U_ o_ U'_ => ∃ v_ L_, o_ = .returned v_ ∧ Qrm0 Z p0 aT aF aI h0 n0 v_ U'_.heap L_ ∧ FrameEnd U_ o_ U'_ L_ 0 0) := by
  refine MetFree.of_bodySF (plainFor_of_name pn_4) hisR ?_
  intro pg ee s mm args below meth cc s₁ Bd hml0 hP hK
  obtain ⟨rfl, hZ, hh⟩ := hP
  have hx := Bd.exec
  have hby := Bd.bytes
  have hml : cc.maxLocals = 7 := hml0
  have hown : s.vm.findClass "com/example/ladon/ladon/TruthNotPinLaw" = some mm.cls := findClass_of_methodNamed Bd.named
  have hnm := (name_of_methodNamed Bd.named Bd.method).1
  have X0 : Stand pg l ee room_1 s mm #[(.int p0)] below meth cc s₁ [] 0 0 := Stand.of_body Bd
  have e0 : s₁.heap = h0 := by rw [← hh, Bd.state]; rfl
  have N0 := Fr.nil n0
  have K0 : Keep h0 h0 ([] : List Addr) := Keep.refl _ _
  have pre0 : ∀ t, Steps pg.tables ee below (s₁.setTop (mkF mm 0 #[.val (.int p0), .unset, .unset, .unset, .unset, .unset, .unset] [])) t → Steps pg.tables ee below (s₁.setTop (entryFrame mm #[(.int p0)] maxLocals)) t := fun t k => castTop (ef_0_33 mm p0) k
  have pre1 : ∀ t, Steps pg.tables ee below (s₁.setTop (mkF mm 6 #[.val (.int p0), .unset, .unset, .unset, .unset, .unset, .unset] [(.int ((p0 &&& (2147483647 : Int32)) % (3 : Int32)))])) t → Steps pg.tables ee below (s₁.setTop (entryFrame mm #[(.int p0)] maxLocals)) t := fun t k => pre0 t (by
      show Steps pg.tables ee below (s₁.setTop (mkF mm 0 #[.val (.int p0), .unset, .unset, .unset, .unset, .unset, .unset] [])) _
      refine XS.iloadN X0.here hx rfl (hb hby at_0) rfl ?_
      show Steps pg.tables ee below (s₁.setTop (mkF mm 1 #[.val (.int p0), .unset, .unset, .unset, .unset, .unset, .unset] [(.int p0)])) _
      refine X0.ldcInt hx hown (mvT hZ (hw _ (List.mem_of_getElem? (i := 0) rfl))) (g := (mkF mm 1 #[.val (.int p0), .unset, .unset, .unset, .unset, .unset, .unset] [(.int p0)])) rfl (hb hby at_1) _ ?_
      show Steps pg.tables ee below (s₁.setTop (mkF mm 3 #[.val (.int p0), .unset, .unset, .unset, .unset, .unset, .unset] [(.int (2147483647 : Int32)), (.int p0)])) _
      refine XS.iand X0.here hx rfl (hb hby at_3) rfl ?_
      show Steps pg.tables ee below (s₁.setTop (mkF mm 4 #[.val (.int p0), .unset, .unset, .unset, .unset, .unset, .unset] [(.int (p0 &&& (2147483647 : Int32)))])) _
      refine XS.iconst X0.here hx rfl (hb hby at_4) ?_
      show Steps pg.tables ee below (s₁.setTop (mkF mm 5 #[.val (.int p0), .unset, .unset, .unset, .unset, .unset, .unset] [(.int (3 : Int32)), (.int (p0 &&& (2147483647 : Int32)))])) _
      refine iremM X0 hx rfl (hb hby at_5) rfl (by decide) ?_
      exact k)
  rcases own_mod3 p0 with hq2 | hq2 | hq2
  · rw [hq2] at pre1
    obtain ⟨_, _, ⟨T3, L3, k3, n3⟩, -, X3, ⟨Lc3, hQ3, l3, y3, z3⟩, st3⟩ := Jvm.LawKit.callS X0 hx (y := (⟨"com/example/ladon/ladon/TruthNotPinLaw", "pick", "(I)Lcom/example/ladon/ladon/Truth;"⟩ : MethodName)) hown (mvT hZ (hw _ (List.mem_of_getElem? (i := 1) rfl))) (mvT hZ (hw _ (List.mem_of_getElem? (i := 2) rfl))) (mvT hZ (hw _ (List.mem_of_getElem? (i := 3) rfl))) (mvT hZ (hw _ (List.mem_of_getElem? (i := 4) rfl))) (by decide) (backOf (W := 0) (rmP0 l Z a0 hw [] aT aF aI h0 n0 O0 S_TRUE S_FALSE S_INDETERMINATE E_TRUE E_FALSE E_INDETERMINATE hTF hTI hFI) hZ (hw _ (List.mem_of_getElem? (i := 4) rfl)) (hw _ (List.mem_of_getElem? (i := 3) rfl)) (by decide) (by decide)) (g := (mkF mm 8 #[.val (.int p0), .val (.int (0 : Int32)), .unset, .unset, .unset, .unset, .unset] [(.int (0 : Int32))])) rfl (by rw [hml]; rfl) (argsL := [(.int (0 : Int32))]) (rest := []) (lenOf pd_31 rfl) rfl (by show 2 * 0 + _ ≤ _; exact Nat.le_of_eq rfl) (hb hby at_8) (fun _ _ => ⟨rfl, e0, (by decide : 0 + 0 ≤ _), (by decide : 0 + 0 ≤ _)⟩)
    dsimp only [Pt.U, Pt.locs, Pt.cells, Pt.slots] at X3 l3 y3 z3 st3 hQ3
    subst l3 y3 z3
    obtain ⟨rfl, N3q, e3⟩ := hQ3
    have N3 := Fr.app N0 N3q
    obtain ⟨_, _, ⟨T4, L4, k4, n4⟩, -, X4, ⟨Lc4, hQ4, l4, y4, z4⟩, st4⟩ := Jvm.LawKit.callS X3 hx (y := (⟨"com/example/ladon/ladon/TruthNotPinLaw", "pick", "(I)Lcom/example/ladon/ladon/Truth;"⟩ : MethodName)) hown (mvT hZ (hw _ (List.mem_of_getElem? (i := 1) rfl))) (mvT hZ (hw _ (List.mem_of_getElem? (i := 2) rfl))) (mvT hZ (hw _ (List.mem_of_getElem? (i := 3) rfl))) (mvT hZ (hw _ (List.mem_of_getElem? (i := 4) rfl))) (by decide) (backOf (W := 0) (rmP1 l Z a0 hw [] aT aF aI h0 n0 O0 S_TRUE S_FALSE S_INDETERMINATE E_TRUE E_FALSE E_INDETERMINATE hTF hTI hFI) hZ (hw _ (List.mem_of_getElem? (i := 4) rfl)) (hw _ (List.mem_of_getElem? (i := 3) rfl)) (by decide) (by decide)) (g := (mkF mm 26 #[.val (.int p0), .val (.int (0 : Int32)), .val (.ref aT), .val (.int (1 : Int32)), .unset, .unset, .unset] [(.int (1 : Int32))])) rfl (by rw [hml]; rfl) (argsL := [(.int (1 : Int32))]) (rest := []) (lenOf pd_31 rfl) rfl (by show 2 * 0 + _ ≤ _; exact Nat.le_of_eq rfl) (hb hby at_26) (fun _ _ => ⟨rfl, e3, (by decide : 0 + 0 ≤ _), (by decide : 0 + 0 ≤ _)⟩)
    dsimp only [Pt.U, Pt.locs, Pt.cells, Pt.slots] at X4 l4 y4 z4 st4 hQ4
    subst l4 y4 z4
    obtain ⟨rfl, N4q, e4⟩ := hQ4
    have N4 := Fr.app N3 N4q
    obtain ⟨cq5, kq5, q5a, q5b, q5c⟩ := isOf hZ e4 (E_TRUE.ext O0.2)
    obtain ⟨_, _, ⟨T5, L5, k5, n5⟩, -, X5, ⟨Lc5, hQ5, l5, y5, z5⟩, st5⟩ := X4.virtualBack hx (y := (⟨"com/example/ladon/ladon/Truth", "not", "()Lcom/example/ladon/ladon/Truth;"⟩ : MethodName)) (z := (⟨"com/example/ladon/ladon/Truth", "not", "()Lcom/example/ladon/ladon/Truth;"⟩ : MethodName)) hown (mvT hZ (hw _ (List.mem_of_getElem? (i := 10) rfl))) (mvT hZ (hw _ (List.mem_of_getElem? (i := 11) rfl))) (notFace_of_selects (args := #[]) (mvT hZ (hw _ (List.mem_of_getElem? (i := 13) rfl)))) (mvT hZ (hw _ (List.mem_of_getElem? (i := 13) rfl))) (mvT hZ (hw _ (List.mem_of_getElem? (i := 12) rfl))) (by decide) (backOf (W := 0) (rmNot_aT l Z a0 hw [] aT aF aI h0 n0 O0 S_TRUE S_FALSE S_INDETERMINATE E_TRUE E_FALSE E_INDETERMINATE hTF hTI hFI) hZ (hw _ (List.mem_of_getElem? (i := 14) rfl)) (hw _ (List.mem_of_getElem? (i := 6) rfl)) (by decide) (by decide)) q5a q5c (g := (mkF mm 32 #[.val (.int p0), .val (.int (0 : Int32)), .val (.ref aT), .val (.int (1 : Int32)), .val (.ref aF), .unset, .unset] [(.ref aT)])) rfl (by rw [hml]; rfl) (Steps.refl _) (argsL := []) (rest := []) (lenOf pd_32 rfl) rfl (by show 2 * 0 + _ ≤ _; exact Nat.le_of_eq rfl) (hb hby at_32) (fun _ _ => ⟨rfl, e4, (by decide : 0 + 0 ≤ _), (by decide : 0 + 0 ≤ _)⟩)
    dsimp only [Pt.U, Pt.locs, Pt.cells, Pt.slots] at X5 l5 y5 z5 st5 hQ5
    subst l5 y5 z5
    obtain ⟨rfl, N5q, e5⟩ := hQ5
    have N5 := Fr.app N4 N5q
    obtain ⟨cq6, kq6, q6a, q6b, q6c⟩ := isOf hZ e5 (E_FALSE.ext O0.2)
    obtain ⟨_, _, ⟨T6, L6, k6, n6⟩, -, X6, ⟨Lc6, hQ6, l6, y6, z6⟩, st6⟩ := X5.virtualBack hx (y := (⟨"com/example/ladon/ladon/Truth", "not", "()Lcom/example/ladon/ladon/Truth;"⟩ : MethodName)) (z := (⟨"com/example/ladon/ladon/Truth", "not", "()Lcom/example/ladon/ladon/Truth;"⟩ : MethodName)) hown (mvT hZ (hw _ (List.mem_of_getElem? (i := 10) rfl))) (mvT hZ (hw _ (List.mem_of_getElem? (i := 11) rfl))) (notFace_of_selects (args := #[]) (mvT hZ (hw _ (List.mem_of_getElem? (i := 13) rfl)))) (mvT hZ (hw _ (List.mem_of_getElem? (i := 13) rfl))) (mvT hZ (hw _ (List.mem_of_getElem? (i := 12) rfl))) (by decide) (backOf (W := 0) (rmNot_aF l Z a0 hw [] aT aF aI h0 n0 O0 S_TRUE S_FALSE S_INDETERMINATE E_TRUE E_FALSE E_INDETERMINATE hTF hTI hFI) hZ (hw _ (List.mem_of_getElem? (i := 14) rfl)) (hw _ (List.mem_of_getElem? (i := 6) rfl)) (by decide) (by decide)) q6a q6c (g := (mkF mm 39 #[.val (.int p0), .val (.int (0 : Int32)), .val (.ref aT), .val (.int (1 : Int32)), .val (.ref aF), .val (.ref aF), .unset] [(.ref aF)])) rfl (by rw [hml]; rfl) (Steps.refl _) (argsL := []) (rest := []) (lenOf pd_32 rfl) rfl (by show 2 * 0 + _ ≤ _; exact Nat.le_of_eq rfl) (hb hby at_39) (fun _ _ => ⟨rfl, e5, (by decide : 0 + 0 ≤ _), (by decide : 0 + 0 ≤ _)⟩)
    dsimp only [Pt.U, Pt.locs, Pt.cells, Pt.slots] at X6 l6 y6 z6 st6 hQ6
    subst l6 y6 z6
    obtain ⟨rfl, N6q, e6⟩ := hQ6
    have N6 := Fr.app N5 N6q
    obtain ⟨fs, hr, hrun, hended, hW, hsame⟩ := X6.leave (v := some (.int (1 : Int32))) (fun h => by rw [Bd.returns] at h; cases h)
    refine ⟨_, _, pre1 _ ?_, hrun, hended, _, _, rfl, ?_, ⟨_, rfl⟩, hW, hsame.mono (by decide) (by decide)⟩
    · show Steps pg.tables ee below (s₁.setTop (mkF mm 6 #[.val (.int p0), .unset, .unset, .unset, .unset, .unset, .unset] [(.int (0 : Int32))])) _
      refine XS.istoreN X0.here hx rfl (hb hby at_6) rfl (l' := #[.val (.int p0), .val (.int (0 : Int32)), .unset, .unset, .unset, .unset, .unset]) rfl ?_
      show Steps pg.tables ee below (s₁.setTop (mkF mm 7 #[.val (.int p0), .val (.int (0 : Int32)), .unset, .unset, .unset, .unset, .unset] [])) _
      refine XS.iloadN X0.here hx rfl (hb hby at_7) rfl ?_
      show Steps pg.tables ee below (s₁.setTop (mkF mm 8 #[.val (.int p0), .val (.int (0 : Int32)), .unset, .unset, .unset, .unset, .unset] [(.int (0 : Int32))])) _
      refine st3 _ ?_
      show Steps pg.tables ee below (T3.setTop (mkF mm 11 #[.val (.int p0), .val (.int (0 : Int32)), .unset, .unset, .unset, .unset, .unset] [(.ref aT)])) _
      refine XS.astoreN X3.here hx rfl (hb hby at_11) rfl rfl (l' := #[.val (.int p0), .val (.int (0 : Int32)), .val (.ref aT), .unset, .unset, .unset, .unset]) rfl ?_
      show Steps pg.tables ee below (T3.setTop (mkF mm 12 #[.val (.int p0), .val (.int (0 : Int32)), .val (.ref aT), .unset, .unset, .unset, .unset] [])) _
      refine XS.iloadN X3.here hx rfl (hb hby at_12) rfl ?_
      show Steps pg.tables ee below (T3.setTop (mkF mm 13 #[.val (.int p0), .val (.int (0 : Int32)), .val (.ref aT), .unset, .unset, .unset, .unset] [(.int (0 : Int32))])) _
      refine XS.iconst X3.here hx rfl (hb hby at_13) ?_
      show Steps pg.tables ee below (T3.setTop (mkF mm 14 #[.val (.int p0), .val (.int (0 : Int32)), .val (.ref aT), .unset, .unset, .unset, .unset] [(.int (2 : Int32)), (.int (0 : Int32))])) _
      refine XS.icmpYes X3.here hx rfl (pc0 := 14) (pc' := 21) rfl (hb hby at_14) rfl (feq (by decide : ¬ ((0 : Int32) = (2 : Int32)))).2 (by decide) (by decide) ?_
      show Steps pg.tables ee below (T3.setTop (mkF mm 21 #[.val (.int p0), .val (.int (0 : Int32)), .val (.ref aT), .unset, .unset, .unset, .unset] [])) _
      refine XS.iconst X3.here hx rfl (hb hby at_21) ?_
      show Steps pg.tables ee below (T3.setTop (mkF mm 22 #[.val (.int p0), .val (.int (0 : Int32)), .val (.ref aT), .unset, .unset, .unset, .unset] [(.int (1 : Int32))])) _
      refine XS.iloadN X3.here hx rfl (hb hby at_22) rfl ?_
      show Steps pg.tables ee below (T3.setTop (mkF mm 23 #[.val (.int p0), .val (.int (0 : Int32)), .val (.ref aT), .unset, .unset, .unset, .unset] [(.int (0 : Int32)), (.int (1 : Int32))])) _
      refine XS.isub X3.here hx rfl (hb hby at_23) rfl ?_
      show Steps pg.tables ee below (T3.setTop (mkF mm 24 #[.val (.int p0), .val (.int (0 : Int32)), .val (.ref aT), .unset, .unset, .unset, .unset] [(.int (1 : Int32))])) _
      refine XS.istoreN X3.here hx rfl (hb hby at_24) rfl (l' := #[.val (.int p0), .val (.int (0 : Int32)), .val (.ref aT), .val (.int (1 : Int32)), .unset, .unset, .unset]) rfl ?_
      show Steps pg.tables ee below (T3.setTop (mkF mm 25 #[.val (.int p0), .val (.int (0 : Int32)), .val (.ref aT), .val (.int (1 : Int32)), .unset, .unset, .unset] [])) _
      refine XS.iloadN X3.here hx rfl (hb hby at_25) rfl ?_
      show Steps pg.tables ee below (T3.setTop (mkF mm 26 #[.val (.int p0), .val (.int (0 : Int32)), .val (.ref aT), .val (.int (1 : Int32)), .unset, .unset, .unset] [(.int (1 : Int32))])) _
      refine st4 _ ?_
      show Steps pg.tables ee below (T4.setTop (mkF mm 29 #[.val (.int p0), .val (.int (0 : Int32)), .val (.ref aT), .val (.int (1 : Int32)), .unset, .unset, .unset] [(.ref aF)])) _
      refine XS.astore X4.here hx rfl (hb hby at_29) rfl rfl (l' := #[.val (.int p0), .val (.int (0 : Int32)), .val (.ref aT), .val (.int (1 : Int32)), .val (.ref aF), .unset, .unset]) rfl ?_
      show Steps pg.tables ee below (T4.setTop (mkF mm 31 #[.val (.int p0), .val (.int (0 : Int32)), .val (.ref aT), .val (.int (1 : Int32)), .val (.ref aF), .unset, .unset] [])) _
      refine XS.aloadN X4.here hx rfl (hb hby at_31) rfl rfl ?_
      show Steps pg.tables ee below (T4.setTop (mkF mm 32 #[.val (.int p0), .val (.int (0 : Int32)), .val (.ref aT), .val (.int (1 : Int32)), .val (.ref aF), .unset, .unset] [(.ref aT)])) _
      refine st5.trans ?_
      show Steps pg.tables ee below (T5.setTop (mkF mm 35 #[.val (.int p0), .val (.int (0 : Int32)), .val (.ref aT), .val (.int (1 : Int32)), .val (.ref aF), .unset, .unset] [(.ref aF)])) _
      refine XS.astore X5.here hx rfl (hb hby at_35) rfl rfl (l' := #[.val (.int p0), .val (.int (0 : Int32)), .val (.ref aT), .val (.int (1 : Int32)), .val (.ref aF), .val (.ref aF), .unset]) rfl ?_
      show Steps pg.tables ee below (T5.setTop (mkF mm 37 #[.val (.int p0), .val (.int (0 : Int32)), .val (.ref aT), .val (.int (1 : Int32)), .val (.ref aF), .val (.ref aF), .unset] [])) _
      refine XS.aload X5.here hx rfl (hb hby at_37) rfl rfl ?_
      show Steps pg.tables ee below (T5.setTop (mkF mm 39 #[.val (.int p0), .val (.int (0 : Int32)), .val (.ref aT), .val (.int (1 : Int32)), .val (.ref aF), .val (.ref aF), .unset] [(.ref aF)])) _
      refine st6.trans ?_
      show Steps pg.tables ee below (T6.setTop (mkF mm 42 #[.val (.int p0), .val (.int (0 : Int32)), .val (.ref aT), .val (.int (1 : Int32)), .val (.ref aF), .val (.ref aF), .unset] [(.ref aT)])) _
      refine XS.astore X6.here hx rfl (hb hby at_42) rfl rfl (l' := #[.val (.int p0), .val (.int (0 : Int32)), .val (.ref aT), .val (.int (1 : Int32)), .val (.ref aF), .val (.ref aF), .val (.ref aT)]) rfl ?_
      show Steps pg.tables ee below (T6.setTop (mkF mm 44 #[.val (.int p0), .val (.int (0 : Int32)), .val (.ref aT), .val (.int (1 : Int32)), .val (.ref aF), .val (.ref aF), .val (.ref aT)] [])) _
      refine XS.aload X6.here hx rfl (hb hby at_44) rfl rfl ?_
      show Steps pg.tables ee below (T6.setTop (mkF mm 46 #[.val (.int p0), .val (.int (0 : Int32)), .val (.ref aT), .val (.int (1 : Int32)), .val (.ref aF), .val (.ref aF), .val (.ref aT)] [(.ref aF)])) _
      refine XS.aload X6.here hx rfl (hb hby at_46) rfl rfl ?_
      show Steps pg.tables ee below (T6.setTop (mkF mm 48 #[.val (.int p0), .val (.int (0 : Int32)), .val (.ref aT), .val (.int (1 : Int32)), .val (.ref aF), .val (.ref aF), .val (.ref aT)] [(.ref aF), (.ref aF)])) _
      refine Jvm.RoadKit.acmp (g := (mkF mm 48 #[.val (.int p0), .val (.int (0 : Int32)), .val (.ref aT), .val (.int (1 : Int32)), .val (.ref aF), .val (.ref aF), .val (.ref aT)] [(.ref aF), (.ref aF)])) X6 hx rfl rfl rfl (pc0 := 48) (pc' := 51) (same := true) rfl (hb hby at_48) rfl (decide_eq_true rfl) (by decide) (by decide) ?_
      show Steps pg.tables ee below (T6.setTop (mkF mm 51 #[.val (.int p0), .val (.int (0 : Int32)), .val (.ref aT), .val (.int (1 : Int32)), .val (.ref aF), .val (.ref aF), .val (.ref aT)] [])) _
      refine XS.aload X6.here hx rfl (hb hby at_51) rfl rfl ?_
      show Steps pg.tables ee below (T6.setTop (mkF mm 53 #[.val (.int p0), .val (.int (0 : Int32)), .val (.ref aT), .val (.int (1 : Int32)), .val (.ref aF), .val (.ref aF), .val (.ref aT)] [(.ref aT)])) _
      refine XS.aloadN X6.here hx rfl (hb hby at_53) rfl rfl ?_
      show Steps pg.tables ee below (T6.setTop (mkF mm 54 #[.val (.int p0), .val (.int (0 : Int32)), .val (.ref aT), .val (.int (1 : Int32)), .val (.ref aF), .val (.ref aF), .val (.ref aT)] [(.ref aT), (.ref aT)])) _
      refine Jvm.RoadKit.acmp (g := (mkF mm 54 #[.val (.int p0), .val (.int (0 : Int32)), .val (.ref aT), .val (.int (1 : Int32)), .val (.ref aF), .val (.ref aF), .val (.ref aT)] [(.ref aT), (.ref aT)])) X6 hx rfl rfl rfl (pc0 := 54) (pc' := 57) (same := true) rfl (hb hby at_54) rfl (decide_eq_true rfl) (by decide) (by decide) ?_
      show Steps pg.tables ee below (T6.setTop (mkF mm 57 #[.val (.int p0), .val (.int (0 : Int32)), .val (.ref aT), .val (.int (1 : Int32)), .val (.ref aF), .val (.ref aF), .val (.ref aT)] [])) _
      refine XS.iconst X6.here hx rfl (hb hby at_57) ?_
      show Steps pg.tables ee below (T6.setTop (mkF mm 58 #[.val (.int p0), .val (.int (0 : Int32)), .val (.ref aT), .val (.int (1 : Int32)), .val (.ref aF), .val (.ref aF), .val (.ref aT)] [(.int (1 : Int32))])) _
      refine XS.goto X6.here hx rfl (pc0 := 58) (pc' := 62) rfl (hb hby at_58) (by decide) (by decide) ?_
      show Steps pg.tables ee below (T6.setTop (mkF mm 62 #[.val (.int p0), .val (.int (0 : Int32)), .val (.ref aT), .val (.int (1 : Int32)), .val (.ref aF), .val (.ref aF), .val (.ref aT)] [(.int (1 : Int32))])) _
      exact retN X6 hx (t := .boolean) Bd.returns (by simp) (hb hby at_62) hr
    · show Qrm0 Z p0 aT aF aI h0 n0 _ T6.heap _
      rw [e6]
      exact ⟨rfl, N6⟩
  · rw [hq2] at pre1
    obtain ⟨_, _, ⟨T7, L7, k7, n7⟩, -, X7, ⟨Lc7, hQ7, l7, y7, z7⟩, st7⟩ := Jvm.LawKit.callS X0 hx (y := (⟨"com/example/ladon/ladon/TruthNotPinLaw", "pick", "(I)Lcom/example/ladon/ladon/Truth;"⟩ : MethodName)) hown (mvT hZ (hw _ (List.mem_of_getElem? (i := 1) rfl))) (mvT hZ (hw _ (List.mem_of_getElem? (i := 2) rfl))) (mvT hZ (hw _ (List.mem_of_getElem? (i := 3) rfl))) (mvT hZ (hw _ (List.mem_of_getElem? (i := 4) rfl))) (by decide) (backOf (W := 0) (rmP1 l Z a0 hw [] aT aF aI h0 n0 O0 S_TRUE S_FALSE S_INDETERMINATE E_TRUE E_FALSE E_INDETERMINATE hTF hTI hFI) hZ (hw _ (List.mem_of_getElem? (i := 4) rfl)) (hw _ (List.mem_of_getElem? (i := 3) rfl)) (by decide) (by decide)) (g := (mkF mm 8 #[.val (.int p0), .val (.int (1 : Int32)), .unset, .unset, .unset, .unset, .unset] [(.int (1 : Int32))])) rfl (by rw [hml]; rfl) (argsL := [(.int (1 : Int32))]) (rest := []) (lenOf pd_31 rfl) rfl (by show 2 * 0 + _ ≤ _; exact Nat.le_of_eq rfl) (hb hby at_8) (fun _ _ => ⟨rfl, e0, (by decide : 0 + 0 ≤ _), (by decide : 0 + 0 ≤ _)⟩)
    dsimp only [Pt.U, Pt.locs, Pt.cells, Pt.slots] at X7 l7 y7 z7 st7 hQ7
    subst l7 y7 z7
    obtain ⟨rfl, N7q, e7⟩ := hQ7
    have N7 := Fr.app N0 N7q
    obtain ⟨_, _, ⟨T8, L8, k8, n8⟩, -, X8, ⟨Lc8, hQ8, l8, y8, z8⟩, st8⟩ := Jvm.LawKit.callS X7 hx (y := (⟨"com/example/ladon/ladon/TruthNotPinLaw", "pick", "(I)Lcom/example/ladon/ladon/Truth;"⟩ : MethodName)) hown (mvT hZ (hw _ (List.mem_of_getElem? (i := 1) rfl))) (mvT hZ (hw _ (List.mem_of_getElem? (i := 2) rfl))) (mvT hZ (hw _ (List.mem_of_getElem? (i := 3) rfl))) (mvT hZ (hw _ (List.mem_of_getElem? (i := 4) rfl))) (by decide) (backOf (W := 0) (rmP0 l Z a0 hw [] aT aF aI h0 n0 O0 S_TRUE S_FALSE S_INDETERMINATE E_TRUE E_FALSE E_INDETERMINATE hTF hTI hFI) hZ (hw _ (List.mem_of_getElem? (i := 4) rfl)) (hw _ (List.mem_of_getElem? (i := 3) rfl)) (by decide) (by decide)) (g := (mkF mm 26 #[.val (.int p0), .val (.int (1 : Int32)), .val (.ref aF), .val (.int (0 : Int32)), .unset, .unset, .unset] [(.int (0 : Int32))])) rfl (by rw [hml]; rfl) (argsL := [(.int (0 : Int32))]) (rest := []) (lenOf pd_31 rfl) rfl (by show 2 * 0 + _ ≤ _; exact Nat.le_of_eq rfl) (hb hby at_26) (fun _ _ => ⟨rfl, e7, (by decide : 0 + 0 ≤ _), (by decide : 0 + 0 ≤ _)⟩)
    dsimp only [Pt.U, Pt.locs, Pt.cells, Pt.slots] at X8 l8 y8 z8 st8 hQ8
    subst l8 y8 z8
    obtain ⟨rfl, N8q, e8⟩ := hQ8
    have N8 := Fr.app N7 N8q
    obtain ⟨cq9, kq9, q9a, q9b, q9c⟩ := isOf hZ e8 (E_FALSE.ext O0.2)
    obtain ⟨_, _, ⟨T9, L9, k9, n9⟩, -, X9, ⟨Lc9, hQ9, l9, y9, z9⟩, st9⟩ := X8.virtualBack hx (y := (⟨"com/example/ladon/ladon/Truth", "not", "()Lcom/example/ladon/ladon/Truth;"⟩ : MethodName)) (z := (⟨"com/example/ladon/ladon/Truth", "not", "()Lcom/example/ladon/ladon/Truth;"⟩ : MethodName)) hown (mvT hZ (hw _ (List.mem_of_getElem? (i := 10) rfl))) (mvT hZ (hw _ (List.mem_of_getElem? (i := 11) rfl))) (notFace_of_selects (args := #[]) (mvT hZ (hw _ (List.mem_of_getElem? (i := 13) rfl)))) (mvT hZ (hw _ (List.mem_of_getElem? (i := 13) rfl))) (mvT hZ (hw _ (List.mem_of_getElem? (i := 12) rfl))) (by decide) (backOf (W := 0) (rmNot_aF l Z a0 hw [] aT aF aI h0 n0 O0 S_TRUE S_FALSE S_INDETERMINATE E_TRUE E_FALSE E_INDETERMINATE hTF hTI hFI) hZ (hw _ (List.mem_of_getElem? (i := 14) rfl)) (hw _ (List.mem_of_getElem? (i := 6) rfl)) (by decide) (by decide)) q9a q9c (g := (mkF mm 32 #[.val (.int p0), .val (.int (1 : Int32)), .val (.ref aF), .val (.int (0 : Int32)), .val (.ref aT), .unset, .unset] [(.ref aF)])) rfl (by rw [hml]; rfl) (Steps.refl _) (argsL := []) (rest := []) (lenOf pd_32 rfl) rfl (by show 2 * 0 + _ ≤ _; exact Nat.le_of_eq rfl) (hb hby at_32) (fun _ _ => ⟨rfl, e8, (by decide : 0 + 0 ≤ _), (by decide : 0 + 0 ≤ _)⟩)
    dsimp only [Pt.U, Pt.locs, Pt.cells, Pt.slots] at X9 l9 y9 z9 st9 hQ9
    subst l9 y9 z9
    obtain ⟨rfl, N9q, e9⟩ := hQ9
    have N9 := Fr.app N8 N9q
    obtain ⟨cq10, kq10, q10a, q10b, q10c⟩ := isOf hZ e9 (E_TRUE.ext O0.2)
    obtain ⟨_, _, ⟨T10, L10, k10, n10⟩, -, X10, ⟨Lc10, hQ10, l10, y10, z10⟩, st10⟩ := X9.virtualBack hx (y := (⟨"com/example/ladon/ladon/Truth", "not", "()Lcom/example/ladon/ladon/Truth;"⟩ : MethodName)) (z := (⟨"com/example/ladon/ladon/Truth", "not", "()Lcom/example/ladon/ladon/Truth;"⟩ : MethodName)) hown (mvT hZ (hw _ (List.mem_of_getElem? (i := 10) rfl))) (mvT hZ (hw _ (List.mem_of_getElem? (i := 11) rfl))) (notFace_of_selects (args := #[]) (mvT hZ (hw _ (List.mem_of_getElem? (i := 13) rfl)))) (mvT hZ (hw _ (List.mem_of_getElem? (i := 13) rfl))) (mvT hZ (hw _ (List.mem_of_getElem? (i := 12) rfl))) (by decide) (backOf (W := 0) (rmNot_aT l Z a0 hw [] aT aF aI h0 n0 O0 S_TRUE S_FALSE S_INDETERMINATE E_TRUE E_FALSE E_INDETERMINATE hTF hTI hFI) hZ (hw _ (List.mem_of_getElem? (i := 14) rfl)) (hw _ (List.mem_of_getElem? (i := 6) rfl)) (by decide) (by decide)) q10a q10c (g := (mkF mm 39 #[.val (.int p0), .val (.int (1 : Int32)), .val (.ref aF), .val (.int (0 : Int32)), .val (.ref aT), .val (.ref aT), .unset] [(.ref aT)])) rfl (by rw [hml]; rfl) (Steps.refl _) (argsL := []) (rest := []) (lenOf pd_32 rfl) rfl (by show 2 * 0 + _ ≤ _; exact Nat.le_of_eq rfl) (hb hby at_39) (fun _ _ => ⟨rfl, e9, (by decide : 0 + 0 ≤ _), (by decide : 0 + 0 ≤ _)⟩)
    dsimp only [Pt.U, Pt.locs, Pt.cells, Pt.slots] at X10 l10 y10 z10 st10 hQ10
    subst l10 y10 z10
    obtain ⟨rfl, N10q, e10⟩ := hQ10
    have N10 := Fr.app N9 N10q
    obtain ⟨fs, hr, hrun, hended, hW, hsame⟩ := X10.leave (v := some (.int (1 : Int32))) (fun h => by rw [Bd.returns] at h; cases h)
    refine ⟨_, _, pre1 _ ?_, hrun, hended, _, _, rfl, ?_, ⟨_, rfl⟩, hW, hsame.mono (by decide) (by decide)⟩
    · show Steps pg.tables ee below (s₁.setTop (mkF mm 6 #[.val (.int p0), .unset, .unset, .unset, .unset, .unset, .unset] [(.int (1 : Int32))])) _
      refine XS.istoreN X0.here hx rfl (hb hby at_6) rfl (l' := #[.val (.int p0), .val (.int (1 : Int32)), .unset, .unset, .unset, .unset, .unset]) rfl ?_
      show Steps pg.tables ee below (s₁.setTop (mkF mm 7 #[.val (.int p0), .val (.int (1 : Int32)), .unset, .unset, .unset, .unset, .unset] [])) _
      refine XS.iloadN X0.here hx rfl (hb hby at_7) rfl ?_
      show Steps pg.tables ee below (s₁.setTop (mkF mm 8 #[.val (.int p0), .val (.int (1 : Int32)), .unset, .unset, .unset, .unset, .unset] [(.int (1 : Int32))])) _
      refine st7 _ ?_
      show Steps pg.tables ee below (T7.setTop (mkF mm 11 #[.val (.int p0), .val (.int (1 : Int32)), .unset, .unset, .unset, .unset, .unset] [(.ref aF)])) _
      refine XS.astoreN X7.here hx rfl (hb hby at_11) rfl rfl (l' := #[.val (.int p0), .val (.int (1 : Int32)), .val (.ref aF), .unset, .unset, .unset, .unset]) rfl ?_
      show Steps pg.tables ee below (T7.setTop (mkF mm 12 #[.val (.int p0), .val (.int (1 : Int32)), .val (.ref aF), .unset, .unset, .unset, .unset] [])) _
      refine XS.iloadN X7.here hx rfl (hb hby at_12) rfl ?_
      show Steps pg.tables ee below (T7.setTop (mkF mm 13 #[.val (.int p0), .val (.int (1 : Int32)), .val (.ref aF), .unset, .unset, .unset, .unset] [(.int (1 : Int32))])) _
      refine XS.iconst X7.here hx rfl (hb hby at_13) ?_
      show Steps pg.tables ee below (T7.setTop (mkF mm 14 #[.val (.int p0), .val (.int (1 : Int32)), .val (.ref aF), .unset, .unset, .unset, .unset] [(.int (2 : Int32)), (.int (1 : Int32))])) _
      refine XS.icmpYes X7.here hx rfl (pc0 := 14) (pc' := 21) rfl (hb hby at_14) rfl (feq (by decide : ¬ ((1 : Int32) = (2 : Int32)))).2 (by decide) (by decide) ?_
      show Steps pg.tables ee below (T7.setTop (mkF mm 21 #[.val (.int p0), .val (.int (1 : Int32)), .val (.ref aF), .unset, .unset, .unset, .unset] [])) _
      refine XS.iconst X7.here hx rfl (hb hby at_21) ?_
      show Steps pg.tables ee below (T7.setTop (mkF mm 22 #[.val (.int p0), .val (.int (1 : Int32)), .val (.ref aF), .unset, .unset, .unset, .unset] [(.int (1 : Int32))])) _
      refine XS.iloadN X7.here hx rfl (hb hby at_22) rfl ?_
      show Steps pg.tables ee below (T7.setTop (mkF mm 23 #[.val (.int p0), .val (.int (1 : Int32)), .val (.ref aF), .unset, .unset, .unset, .unset] [(.int (1 : Int32)), (.int (1 : Int32))])) _
      refine XS.isub X7.here hx rfl (hb hby at_23) rfl ?_
      show Steps pg.tables ee below (T7.setTop (mkF mm 24 #[.val (.int p0), .val (.int (1 : Int32)), .val (.ref aF), .unset, .unset, .unset, .unset] [(.int (0 : Int32))])) _
      refine XS.istoreN X7.here hx rfl (hb hby at_24) rfl (l' := #[.val (.int p0), .val (.int (1 : Int32)), .val (.ref aF), .val (.int (0 : Int32)), .unset, .unset, .unset]) rfl ?_
      show Steps pg.tables ee below (T7.setTop (mkF mm 25 #[.val (.int p0), .val (.int (1 : Int32)), .val (.ref aF), .val (.int (0 : Int32)), .unset, .unset, .unset] [])) _
      refine XS.iloadN X7.here hx rfl (hb hby at_25) rfl ?_
      show Steps pg.tables ee below (T7.setTop (mkF mm 26 #[.val (.int p0), .val (.int (1 : Int32)), .val (.ref aF), .val (.int (0 : Int32)), .unset, .unset, .unset] [(.int (0 : Int32))])) _
      refine st8 _ ?_
      show Steps pg.tables ee below (T8.setTop (mkF mm 29 #[.val (.int p0), .val (.int (1 : Int32)), .val (.ref aF), .val (.int (0 : Int32)), .unset, .unset, .unset] [(.ref aT)])) _
      refine XS.astore X8.here hx rfl (hb hby at_29) rfl rfl (l' := #[.val (.int p0), .val (.int (1 : Int32)), .val (.ref aF), .val (.int (0 : Int32)), .val (.ref aT), .unset, .unset]) rfl ?_
      show Steps pg.tables ee below (T8.setTop (mkF mm 31 #[.val (.int p0), .val (.int (1 : Int32)), .val (.ref aF), .val (.int (0 : Int32)), .val (.ref aT), .unset, .unset] [])) _
      refine XS.aloadN X8.here hx rfl (hb hby at_31) rfl rfl ?_
      show Steps pg.tables ee below (T8.setTop (mkF mm 32 #[.val (.int p0), .val (.int (1 : Int32)), .val (.ref aF), .val (.int (0 : Int32)), .val (.ref aT), .unset, .unset] [(.ref aF)])) _
      refine st9.trans ?_
      show Steps pg.tables ee below (T9.setTop (mkF mm 35 #[.val (.int p0), .val (.int (1 : Int32)), .val (.ref aF), .val (.int (0 : Int32)), .val (.ref aT), .unset, .unset] [(.ref aT)])) _
      refine XS.astore X9.here hx rfl (hb hby at_35) rfl rfl (l' := #[.val (.int p0), .val (.int (1 : Int32)), .val (.ref aF), .val (.int (0 : Int32)), .val (.ref aT), .val (.ref aT), .unset]) rfl ?_
      show Steps pg.tables ee below (T9.setTop (mkF mm 37 #[.val (.int p0), .val (.int (1 : Int32)), .val (.ref aF), .val (.int (0 : Int32)), .val (.ref aT), .val (.ref aT), .unset] [])) _
      refine XS.aload X9.here hx rfl (hb hby at_37) rfl rfl ?_
      show Steps pg.tables ee below (T9.setTop (mkF mm 39 #[.val (.int p0), .val (.int (1 : Int32)), .val (.ref aF), .val (.int (0 : Int32)), .val (.ref aT), .val (.ref aT), .unset] [(.ref aT)])) _
      refine st10.trans ?_
      show Steps pg.tables ee below (T10.setTop (mkF mm 42 #[.val (.int p0), .val (.int (1 : Int32)), .val (.ref aF), .val (.int (0 : Int32)), .val (.ref aT), .val (.ref aT), .unset] [(.ref aF)])) _
      refine XS.astore X10.here hx rfl (hb hby at_42) rfl rfl (l' := #[.val (.int p0), .val (.int (1 : Int32)), .val (.ref aF), .val (.int (0 : Int32)), .val (.ref aT), .val (.ref aT), .val (.ref aF)]) rfl ?_
      show Steps pg.tables ee below (T10.setTop (mkF mm 44 #[.val (.int p0), .val (.int (1 : Int32)), .val (.ref aF), .val (.int (0 : Int32)), .val (.ref aT), .val (.ref aT), .val (.ref aF)] [])) _
      refine XS.aload X10.here hx rfl (hb hby at_44) rfl rfl ?_
      show Steps pg.tables ee below (T10.setTop (mkF mm 46 #[.val (.int p0), .val (.int (1 : Int32)), .val (.ref aF), .val (.int (0 : Int32)), .val (.ref aT), .val (.ref aT), .val (.ref aF)] [(.ref aT)])) _
      refine XS.aload X10.here hx rfl (hb hby at_46) rfl rfl ?_
      show Steps pg.tables ee below (T10.setTop (mkF mm 48 #[.val (.int p0), .val (.int (1 : Int32)), .val (.ref aF), .val (.int (0 : Int32)), .val (.ref aT), .val (.ref aT), .val (.ref aF)] [(.ref aT), (.ref aT)])) _
      refine Jvm.RoadKit.acmp (g := (mkF mm 48 #[.val (.int p0), .val (.int (1 : Int32)), .val (.ref aF), .val (.int (0 : Int32)), .val (.ref aT), .val (.ref aT), .val (.ref aF)] [(.ref aT), (.ref aT)])) X10 hx rfl rfl rfl (pc0 := 48) (pc' := 51) (same := true) rfl (hb hby at_48) rfl (decide_eq_true rfl) (by decide) (by decide) ?_
      show Steps pg.tables ee below (T10.setTop (mkF mm 51 #[.val (.int p0), .val (.int (1 : Int32)), .val (.ref aF), .val (.int (0 : Int32)), .val (.ref aT), .val (.ref aT), .val (.ref aF)] [])) _
      refine XS.aload X10.here hx rfl (hb hby at_51) rfl rfl ?_
      show Steps pg.tables ee below (T10.setTop (mkF mm 53 #[.val (.int p0), .val (.int (1 : Int32)), .val (.ref aF), .val (.int (0 : Int32)), .val (.ref aT), .val (.ref aT), .val (.ref aF)] [(.ref aF)])) _
      refine XS.aloadN X10.here hx rfl (hb hby at_53) rfl rfl ?_
      show Steps pg.tables ee below (T10.setTop (mkF mm 54 #[.val (.int p0), .val (.int (1 : Int32)), .val (.ref aF), .val (.int (0 : Int32)), .val (.ref aT), .val (.ref aT), .val (.ref aF)] [(.ref aF), (.ref aF)])) _
      refine Jvm.RoadKit.acmp (g := (mkF mm 54 #[.val (.int p0), .val (.int (1 : Int32)), .val (.ref aF), .val (.int (0 : Int32)), .val (.ref aT), .val (.ref aT), .val (.ref aF)] [(.ref aF), (.ref aF)])) X10 hx rfl rfl rfl (pc0 := 54) (pc' := 57) (same := true) rfl (hb hby at_54) rfl (decide_eq_true rfl) (by decide) (by decide) ?_
      show Steps pg.tables ee below (T10.setTop (mkF mm 57 #[.val (.int p0), .val (.int (1 : Int32)), .val (.ref aF), .val (.int (0 : Int32)), .val (.ref aT), .val (.ref aT), .val (.ref aF)] [])) _
      refine XS.iconst X10.here hx rfl (hb hby at_57) ?_
      show Steps pg.tables ee below (T10.setTop (mkF mm 58 #[.val (.int p0), .val (.int (1 : Int32)), .val (.ref aF), .val (.int (0 : Int32)), .val (.ref aT), .val (.ref aT), .val (.ref aF)] [(.int (1 : Int32))])) _
      refine XS.goto X10.here hx rfl (pc0 := 58) (pc' := 62) rfl (hb hby at_58) (by decide) (by decide) ?_
      show Steps pg.tables ee below (T10.setTop (mkF mm 62 #[.val (.int p0), .val (.int (1 : Int32)), .val (.ref aF), .val (.int (0 : Int32)), .val (.ref aT), .val (.ref aT), .val (.ref aF)] [(.int (1 : Int32))])) _
      exact retN X10 hx (t := .boolean) Bd.returns (by simp) (hb hby at_62) hr
    · show Qrm0 Z p0 aT aF aI h0 n0 _ T10.heap _
      rw [e10]
      exact ⟨rfl, N10⟩
  · rw [hq2] at pre1
    obtain ⟨_, _, ⟨T11, L11, k11, n11⟩, -, X11, ⟨Lc11, hQ11, l11, y11, z11⟩, st11⟩ := Jvm.LawKit.callS X0 hx (y := (⟨"com/example/ladon/ladon/TruthNotPinLaw", "pick", "(I)Lcom/example/ladon/ladon/Truth;"⟩ : MethodName)) hown (mvT hZ (hw _ (List.mem_of_getElem? (i := 1) rfl))) (mvT hZ (hw _ (List.mem_of_getElem? (i := 2) rfl))) (mvT hZ (hw _ (List.mem_of_getElem? (i := 3) rfl))) (mvT hZ (hw _ (List.mem_of_getElem? (i := 4) rfl))) (by decide) (backOf (W := 0) (rmP2 l Z a0 hw [] aT aF aI h0 n0 O0 S_TRUE S_FALSE S_INDETERMINATE E_TRUE E_FALSE E_INDETERMINATE hTF hTI hFI) hZ (hw _ (List.mem_of_getElem? (i := 4) rfl)) (hw _ (List.mem_of_getElem? (i := 3) rfl)) (by decide) (by decide)) (g := (mkF mm 8 #[.val (.int p0), .val (.int (2 : Int32)), .unset, .unset, .unset, .unset, .unset] [(.int (2 : Int32))])) rfl (by rw [hml]; rfl) (argsL := [(.int (2 : Int32))]) (rest := []) (lenOf pd_31 rfl) rfl (by show 2 * 0 + _ ≤ _; exact Nat.le_of_eq rfl) (hb hby at_8) (fun _ _ => ⟨rfl, e0, (by decide : 0 + 0 ≤ _), (by decide : 0 + 0 ≤ _)⟩)
    dsimp only [Pt.U, Pt.locs, Pt.cells, Pt.slots] at X11 l11 y11 z11 st11 hQ11
    subst l11 y11 z11
    obtain ⟨rfl, N11q, e11⟩ := hQ11
    have N11 := Fr.app N0 N11q
    obtain ⟨_, _, ⟨T12, L12, k12, n12⟩, -, X12, ⟨Lc12, hQ12, l12, y12, z12⟩, st12⟩ := Jvm.LawKit.callS X11 hx (y := (⟨"com/example/ladon/ladon/TruthNotPinLaw", "pick", "(I)Lcom/example/ladon/ladon/Truth;"⟩ : MethodName)) hown (mvT hZ (hw _ (List.mem_of_getElem? (i := 1) rfl))) (mvT hZ (hw _ (List.mem_of_getElem? (i := 2) rfl))) (mvT hZ (hw _ (List.mem_of_getElem? (i := 3) rfl))) (mvT hZ (hw _ (List.mem_of_getElem? (i := 4) rfl))) (by decide) (backOf (W := 0) (rmP2 l Z a0 hw [] aT aF aI h0 n0 O0 S_TRUE S_FALSE S_INDETERMINATE E_TRUE E_FALSE E_INDETERMINATE hTF hTI hFI) hZ (hw _ (List.mem_of_getElem? (i := 4) rfl)) (hw _ (List.mem_of_getElem? (i := 3) rfl)) (by decide) (by decide)) (g := (mkF mm 26 #[.val (.int p0), .val (.int (2 : Int32)), .val (.ref aI), .val (.int (2 : Int32)), .unset, .unset, .unset] [(.int (2 : Int32))])) rfl (by rw [hml]; rfl) (argsL := [(.int (2 : Int32))]) (rest := []) (lenOf pd_31 rfl) rfl (by show 2 * 0 + _ ≤ _; exact Nat.le_of_eq rfl) (hb hby at_26) (fun _ _ => ⟨rfl, e11, (by decide : 0 + 0 ≤ _), (by decide : 0 + 0 ≤ _)⟩)
    dsimp only [Pt.U, Pt.locs, Pt.cells, Pt.slots] at X12 l12 y12 z12 st12 hQ12
    subst l12 y12 z12
    obtain ⟨rfl, N12q, e12⟩ := hQ12
    have N12 := Fr.app N11 N12q
    obtain ⟨cq13, kq13, q13a, q13b, q13c⟩ := isOf hZ e12 (E_INDETERMINATE.ext O0.2)
    obtain ⟨_, _, ⟨T13, L13, k13, n13⟩, -, X13, ⟨Lc13, hQ13, l13, y13, z13⟩, st13⟩ := X12.virtualBack hx (y := (⟨"com/example/ladon/ladon/Truth", "not", "()Lcom/example/ladon/ladon/Truth;"⟩ : MethodName)) (z := (⟨"com/example/ladon/ladon/Truth", "not", "()Lcom/example/ladon/ladon/Truth;"⟩ : MethodName)) hown (mvT hZ (hw _ (List.mem_of_getElem? (i := 10) rfl))) (mvT hZ (hw _ (List.mem_of_getElem? (i := 11) rfl))) (notFace_of_selects (args := #[]) (mvT hZ (hw _ (List.mem_of_getElem? (i := 13) rfl)))) (mvT hZ (hw _ (List.mem_of_getElem? (i := 13) rfl))) (mvT hZ (hw _ (List.mem_of_getElem? (i := 12) rfl))) (by decide) (backOf (W := 0) (rmNot_aI l Z a0 hw [] aT aF aI h0 n0 O0 S_TRUE S_FALSE S_INDETERMINATE E_TRUE E_FALSE E_INDETERMINATE hTF hTI hFI) hZ (hw _ (List.mem_of_getElem? (i := 14) rfl)) (hw _ (List.mem_of_getElem? (i := 6) rfl)) (by decide) (by decide)) q13a q13c (g := (mkF mm 32 #[.val (.int p0), .val (.int (2 : Int32)), .val (.ref aI), .val (.int (2 : Int32)), .val (.ref aI), .unset, .unset] [(.ref aI)])) rfl (by rw [hml]; rfl) (Steps.refl _) (argsL := []) (rest := []) (lenOf pd_32 rfl) rfl (by show 2 * 0 + _ ≤ _; exact Nat.le_of_eq rfl) (hb hby at_32) (fun _ _ => ⟨rfl, e12, (by decide : 0 + 0 ≤ _), (by decide : 0 + 0 ≤ _)⟩)
    dsimp only [Pt.U, Pt.locs, Pt.cells, Pt.slots] at X13 l13 y13 z13 st13 hQ13
    subst l13 y13 z13
    obtain ⟨rfl, N13q, e13⟩ := hQ13
    have N13 := Fr.app N12 N13q
    obtain ⟨cq14, kq14, q14a, q14b, q14c⟩ := isOf hZ e13 (E_INDETERMINATE.ext O0.2)
    obtain ⟨_, _, ⟨T14, L14, k14, n14⟩, -, X14, ⟨Lc14, hQ14, l14, y14, z14⟩, st14⟩ := X13.virtualBack hx (y := (⟨"com/example/ladon/ladon/Truth", "not", "()Lcom/example/ladon/ladon/Truth;"⟩ : MethodName)) (z := (⟨"com/example/ladon/ladon/Truth", "not", "()Lcom/example/ladon/ladon/Truth;"⟩ : MethodName)) hown (mvT hZ (hw _ (List.mem_of_getElem? (i := 10) rfl))) (mvT hZ (hw _ (List.mem_of_getElem? (i := 11) rfl))) (notFace_of_selects (args := #[]) (mvT hZ (hw _ (List.mem_of_getElem? (i := 13) rfl)))) (mvT hZ (hw _ (List.mem_of_getElem? (i := 13) rfl))) (mvT hZ (hw _ (List.mem_of_getElem? (i := 12) rfl))) (by decide) (backOf (W := 0) (rmNot_aI l Z a0 hw [] aT aF aI h0 n0 O0 S_TRUE S_FALSE S_INDETERMINATE E_TRUE E_FALSE E_INDETERMINATE hTF hTI hFI) hZ (hw _ (List.mem_of_getElem? (i := 14) rfl)) (hw _ (List.mem_of_getElem? (i := 6) rfl)) (by decide) (by decide)) q14a q14c (g := (mkF mm 39 #[.val (.int p0), .val (.int (2 : Int32)), .val (.ref aI), .val (.int (2 : Int32)), .val (.ref aI), .val (.ref aI), .unset] [(.ref aI)])) rfl (by rw [hml]; rfl) (Steps.refl _) (argsL := []) (rest := []) (lenOf pd_32 rfl) rfl (by show 2 * 0 + _ ≤ _; exact Nat.le_of_eq rfl) (hb hby at_39) (fun _ _ => ⟨rfl, e13, (by decide : 0 + 0 ≤ _), (by decide : 0 + 0 ≤ _)⟩)
    dsimp only [Pt.U, Pt.locs, Pt.cells, Pt.slots] at X14 l14 y14 z14 st14 hQ14
    subst l14 y14 z14
    obtain ⟨rfl, N14q, e14⟩ := hQ14
    have N14 := Fr.app N13 N14q
    obtain ⟨fs, hr, hrun, hended, hW, hsame⟩ := X14.leave (v := some (.int (1 : Int32))) (fun h => by rw [Bd.returns] at h; cases h)
    refine ⟨_, _, pre1 _ ?_, hrun, hended, _, _, rfl, ?_, ⟨_, rfl⟩, hW, hsame.mono (by decide) (by decide)⟩
    · show Steps pg.tables ee below (s₁.setTop (mkF mm 6 #[.val (.int p0), .unset, .unset, .unset, .unset, .unset, .unset] [(.int (2 : Int32))])) _
      refine XS.istoreN X0.here hx rfl (hb hby at_6) rfl (l' := #[.val (.int p0), .val (.int (2 : Int32)), .unset, .unset, .unset, .unset, .unset]) rfl ?_
      show Steps pg.tables ee below (s₁.setTop (mkF mm 7 #[.val (.int p0), .val (.int (2 : Int32)), .unset, .unset, .unset, .unset, .unset] [])) _
      refine XS.iloadN X0.here hx rfl (hb hby at_7) rfl ?_
      show Steps pg.tables ee below (s₁.setTop (mkF mm 8 #[.val (.int p0), .val (.int (2 : Int32)), .unset, .unset, .unset, .unset, .unset] [(.int (2 : Int32))])) _
      refine st11 _ ?_
      show Steps pg.tables ee below (T11.setTop (mkF mm 11 #[.val (.int p0), .val (.int (2 : Int32)), .unset, .unset, .unset, .unset, .unset] [(.ref aI)])) _
      refine XS.astoreN X11.here hx rfl (hb hby at_11) rfl rfl (l' := #[.val (.int p0), .val (.int (2 : Int32)), .val (.ref aI), .unset, .unset, .unset, .unset]) rfl ?_
      show Steps pg.tables ee below (T11.setTop (mkF mm 12 #[.val (.int p0), .val (.int (2 : Int32)), .val (.ref aI), .unset, .unset, .unset, .unset] [])) _
      refine XS.iloadN X11.here hx rfl (hb hby at_12) rfl ?_
      show Steps pg.tables ee below (T11.setTop (mkF mm 13 #[.val (.int p0), .val (.int (2 : Int32)), .val (.ref aI), .unset, .unset, .unset, .unset] [(.int (2 : Int32))])) _
      refine XS.iconst X11.here hx rfl (hb hby at_13) ?_
      show Steps pg.tables ee below (T11.setTop (mkF mm 14 #[.val (.int p0), .val (.int (2 : Int32)), .val (.ref aI), .unset, .unset, .unset, .unset] [(.int (2 : Int32)), (.int (2 : Int32))])) _
      refine XS.icmpNo X11.here hx rfl (hb hby at_14) rfl (teq (by decide : (2 : Int32) = (2 : Int32))).2 ?_
      show Steps pg.tables ee below (T11.setTop (mkF mm 17 #[.val (.int p0), .val (.int (2 : Int32)), .val (.ref aI), .unset, .unset, .unset, .unset] [])) _
      refine XS.iconst X11.here hx rfl (hb hby at_17) ?_
      show Steps pg.tables ee below (T11.setTop (mkF mm 18 #[.val (.int p0), .val (.int (2 : Int32)), .val (.ref aI), .unset, .unset, .unset, .unset] [(.int (2 : Int32))])) _
      refine XS.goto X11.here hx rfl (pc0 := 18) (pc' := 24) rfl (hb hby at_18) (by decide) (by decide) ?_
      show Steps pg.tables ee below (T11.setTop (mkF mm 24 #[.val (.int p0), .val (.int (2 : Int32)), .val (.ref aI), .unset, .unset, .unset, .unset] [(.int (2 : Int32))])) _
      refine XS.istoreN X11.here hx rfl (hb hby at_24) rfl (l' := #[.val (.int p0), .val (.int (2 : Int32)), .val (.ref aI), .val (.int (2 : Int32)), .unset, .unset, .unset]) rfl ?_
      show Steps pg.tables ee below (T11.setTop (mkF mm 25 #[.val (.int p0), .val (.int (2 : Int32)), .val (.ref aI), .val (.int (2 : Int32)), .unset, .unset, .unset] [])) _
      refine XS.iloadN X11.here hx rfl (hb hby at_25) rfl ?_
      show Steps pg.tables ee below (T11.setTop (mkF mm 26 #[.val (.int p0), .val (.int (2 : Int32)), .val (.ref aI), .val (.int (2 : Int32)), .unset, .unset, .unset] [(.int (2 : Int32))])) _
      refine st12 _ ?_
      show Steps pg.tables ee below (T12.setTop (mkF mm 29 #[.val (.int p0), .val (.int (2 : Int32)), .val (.ref aI), .val (.int (2 : Int32)), .unset, .unset, .unset] [(.ref aI)])) _
      refine XS.astore X12.here hx rfl (hb hby at_29) rfl rfl (l' := #[.val (.int p0), .val (.int (2 : Int32)), .val (.ref aI), .val (.int (2 : Int32)), .val (.ref aI), .unset, .unset]) rfl ?_
      show Steps pg.tables ee below (T12.setTop (mkF mm 31 #[.val (.int p0), .val (.int (2 : Int32)), .val (.ref aI), .val (.int (2 : Int32)), .val (.ref aI), .unset, .unset] [])) _
      refine XS.aloadN X12.here hx rfl (hb hby at_31) rfl rfl ?_
      show Steps pg.tables ee below (T12.setTop (mkF mm 32 #[.val (.int p0), .val (.int (2 : Int32)), .val (.ref aI), .val (.int (2 : Int32)), .val (.ref aI), .unset, .unset] [(.ref aI)])) _
      refine st13.trans ?_
      show Steps pg.tables ee below (T13.setTop (mkF mm 35 #[.val (.int p0), .val (.int (2 : Int32)), .val (.ref aI), .val (.int (2 : Int32)), .val (.ref aI), .unset, .unset] [(.ref aI)])) _
      refine XS.astore X13.here hx rfl (hb hby at_35) rfl rfl (l' := #[.val (.int p0), .val (.int (2 : Int32)), .val (.ref aI), .val (.int (2 : Int32)), .val (.ref aI), .val (.ref aI), .unset]) rfl ?_
      show Steps pg.tables ee below (T13.setTop (mkF mm 37 #[.val (.int p0), .val (.int (2 : Int32)), .val (.ref aI), .val (.int (2 : Int32)), .val (.ref aI), .val (.ref aI), .unset] [])) _
      refine XS.aload X13.here hx rfl (hb hby at_37) rfl rfl ?_
      show Steps pg.tables ee below (T13.setTop (mkF mm 39 #[.val (.int p0), .val (.int (2 : Int32)), .val (.ref aI), .val (.int (2 : Int32)), .val (.ref aI), .val (.ref aI), .unset] [(.ref aI)])) _
      refine st14.trans ?_
      show Steps pg.tables ee below (T14.setTop (mkF mm 42 #[.val (.int p0), .val (.int (2 : Int32)), .val (.ref aI), .val (.int (2 : Int32)), .val (.ref aI), .val (.ref aI), .unset] [(.ref aI)])) _
      refine XS.astore X14.here hx rfl (hb hby at_42) rfl rfl (l' := #[.val (.int p0), .val (.int (2 : Int32)), .val (.ref aI), .val (.int (2 : Int32)), .val (.ref aI), .val (.ref aI), .val (.ref aI)]) rfl ?_
      show Steps pg.tables ee below (T14.setTop (mkF mm 44 #[.val (.int p0), .val (.int (2 : Int32)), .val (.ref aI), .val (.int (2 : Int32)), .val (.ref aI), .val (.ref aI), .val (.ref aI)] [])) _
      refine XS.aload X14.here hx rfl (hb hby at_44) rfl rfl ?_
      show Steps pg.tables ee below (T14.setTop (mkF mm 46 #[.val (.int p0), .val (.int (2 : Int32)), .val (.ref aI), .val (.int (2 : Int32)), .val (.ref aI), .val (.ref aI), .val (.ref aI)] [(.ref aI)])) _
      refine XS.aload X14.here hx rfl (hb hby at_46) rfl rfl ?_
      show Steps pg.tables ee below (T14.setTop (mkF mm 48 #[.val (.int p0), .val (.int (2 : Int32)), .val (.ref aI), .val (.int (2 : Int32)), .val (.ref aI), .val (.ref aI), .val (.ref aI)] [(.ref aI), (.ref aI)])) _
      refine Jvm.RoadKit.acmp (g := (mkF mm 48 #[.val (.int p0), .val (.int (2 : Int32)), .val (.ref aI), .val (.int (2 : Int32)), .val (.ref aI), .val (.ref aI), .val (.ref aI)] [(.ref aI), (.ref aI)])) X14 hx rfl rfl rfl (pc0 := 48) (pc' := 51) (same := true) rfl (hb hby at_48) rfl (decide_eq_true rfl) (by decide) (by decide) ?_
      show Steps pg.tables ee below (T14.setTop (mkF mm 51 #[.val (.int p0), .val (.int (2 : Int32)), .val (.ref aI), .val (.int (2 : Int32)), .val (.ref aI), .val (.ref aI), .val (.ref aI)] [])) _
      refine XS.aload X14.here hx rfl (hb hby at_51) rfl rfl ?_
      show Steps pg.tables ee below (T14.setTop (mkF mm 53 #[.val (.int p0), .val (.int (2 : Int32)), .val (.ref aI), .val (.int (2 : Int32)), .val (.ref aI), .val (.ref aI), .val (.ref aI)] [(.ref aI)])) _
      refine XS.aloadN X14.here hx rfl (hb hby at_53) rfl rfl ?_
      show Steps pg.tables ee below (T14.setTop (mkF mm 54 #[.val (.int p0), .val (.int (2 : Int32)), .val (.ref aI), .val (.int (2 : Int32)), .val (.ref aI), .val (.ref aI), .val (.ref aI)] [(.ref aI), (.ref aI)])) _
      refine Jvm.RoadKit.acmp (g := (mkF mm 54 #[.val (.int p0), .val (.int (2 : Int32)), .val (.ref aI), .val (.int (2 : Int32)), .val (.ref aI), .val (.ref aI), .val (.ref aI)] [(.ref aI), (.ref aI)])) X14 hx rfl rfl rfl (pc0 := 54) (pc' := 57) (same := true) rfl (hb hby at_54) rfl (decide_eq_true rfl) (by decide) (by decide) ?_
      show Steps pg.tables ee below (T14.setTop (mkF mm 57 #[.val (.int p0), .val (.int (2 : Int32)), .val (.ref aI), .val (.int (2 : Int32)), .val (.ref aI), .val (.ref aI), .val (.ref aI)] [])) _
      refine XS.iconst X14.here hx rfl (hb hby at_57) ?_
      show Steps pg.tables ee below (T14.setTop (mkF mm 58 #[.val (.int p0), .val (.int (2 : Int32)), .val (.ref aI), .val (.int (2 : Int32)), .val (.ref aI), .val (.ref aI), .val (.ref aI)] [(.int (1 : Int32))])) _
      refine XS.goto X14.here hx rfl (pc0 := 58) (pc' := 62) rfl (hb hby at_58) (by decide) (by decide) ?_
      show Steps pg.tables ee below (T14.setTop (mkF mm 62 #[.val (.int p0), .val (.int (2 : Int32)), .val (.ref aI), .val (.int (2 : Int32)), .val (.ref aI), .val (.ref aI), .val (.ref aI)] [(.int (1 : Int32))])) _
      exact retN X14 hx (t := .boolean) Bd.returns (by simp) (hb hby at_62) hr
    · show Qrm0 Z p0 aT aF aI h0 n0 _ T14.heap _
      rw [e14]
      exact ⟨rfl, N14⟩
set_option maxRecDepth 65536 in
set_option maxHeartbeats 40000000 in
theorem comes_1 {Post : Tables → Env → Array Value → State → Outcome → State → Prop} (hpost : ∀ tb e args s v u, (limb_1_1.after args s (.returned v) u = true ∧ limb_1_2.after args s (.returned v) u = true ∧ True) → FrameEnd s (.returned v) u (Jvm.fieldLocs frame_1_writes args s ++ Jvm.arrayLocs frame_1_arrays args s ++ Jvm.staticLocs frame_1_statics s) 0 0 → Post tb e args s (.returned v) u) :
    ArmFor flags0 classFile x code maxLocals ret World_1 tables_1 room_1 Calls_1 rest_1 Pre_1 Post := by
  intro l hfl _ _ p e ha hc hk s m args below hf hA hF happ hP
  obtain ⟨hcalls, hrest, hpre⟩ := hP
  obtain ⟨-, -, -, hnamed, -, -, -, hat⟩ := (Spec.applies_iff hf).mp happ
  obtain ⟨hg, hn⟩ := and_e (Cond.before_iff.mp (show (Jvm.Cond.and given_1 narrow_1).before args s = true from hpre))
  obtain ⟨gg1, gg2⟩ := and_e hg
  obtain ⟨w0, rfl⟩ : ∃ w0 : Value, args = #[w0] := by
    have hs : args.size = 1 := by simpa [Cond.value, given_1] using gg1
    obtain ⟨L⟩ := args
    match L, hs with
    | [w0], _ => exact ⟨w0, rfl⟩
  have hw := fun d (hd : d ∈ tables_1) => atoms_spec (ws := Jvm.Cond.code x code maxLocals ret :: tables_1) hat d (List.mem_cons_of_mem _ hd)
  have hfit : Fit s := fun {y c} hc i hi => by
    obtain ⟨ha, rfl⟩ := Array.getElem?_eq_some_iff.mp hc
    have q := List.all_eq_true.mp ((Array.all_eq_true_iff_forall_mem.mp hF) _ (Array.getElem_mem ha)) i (List.mem_range.mpr hi)
    simpa [Array.getElem?_eq_getElem hi] using q
  obtain ⟨i0, ei0⟩ := is_v gg2
  obtain rfl : w0 = (.int i0) := Option.some.inj ei0
  obtain ⟨gg3, gg4⟩ := and_e hn
  obtain ⟨gg5, gg6⟩ := and_e gg4
  obtain ⟨gg7, gg8⟩ := and_e gg6
  obtain ⟨gg9, gg10⟩ := and_e gg8
  obtain ⟨gg11, gg12⟩ := and_e gg10
  obtain ⟨a_TRUE, ev_TRUE⟩ := exa_v gg3
  have E_TRUE := Exa.start ev_TRUE gg3
  have S_TRUE := Sta.start ev_TRUE (Or.inr ⟨(hw _ (List.mem_of_getElem? (i := 6) rfl)), (hw _ (List.mem_of_getElem? (i := 7) rfl))⟩)
  obtain ⟨a_FALSE, ev_FALSE⟩ := exa_v gg5
  have E_FALSE := Exa.start ev_FALSE gg5
  have S_FALSE := Sta.start ev_FALSE (Or.inr ⟨(hw _ (List.mem_of_getElem? (i := 6) rfl)), (hw _ (List.mem_of_getElem? (i := 9) rfl))⟩)
  obtain ⟨a_INDETERMINATE, ev_INDETERMINATE⟩ := exa_v gg11
  have E_INDETERMINATE := Exa.start ev_INDETERMINATE gg11
  have S_INDETERMINATE := Sta.start ev_INDETERMINATE (Or.inr ⟨(hw _ (List.mem_of_getElem? (i := 6) rfl)), (hw _ (List.mem_of_getElem? (i := 18) rfl))⟩)
  have F_FALSE_ordinal := own_fld ev_FALSE gg7
  have F_TRUE_ordinal := own_fld ev_TRUE gg9
  have F_INDETERMINATE_ordinal := own_fld ev_INDETERMINATE gg12
  obtain ⟨n, o, h1, h2, h3, _, L, rfl, ⟨rfl, N⟩, hq⟩ := rm0 l s _ hw tables_1 i0 a_TRUE a_FALSE a_INDETERMINATE s.heap s.heap.size (Old.start s) S_TRUE S_FALSE S_INDETERMINATE E_TRUE E_FALSE E_INDETERMINATE (F_TRUE_ordinal.ne F_FALSE_ordinal (by decide)) (F_TRUE_ordinal.ne F_INDETERMINATE_ordinal (by decide)) (F_FALSE_ordinal.ne F_INDETERMINATE_ordinal (by decide)) p e ha hc hk s m _ below hf ((Spec.applies_iff_loose hf).mp happ).1 ⟨rfl, State.Warmed39.refl s, rfl⟩ trivial
  refine ⟨n, _, h1, h2, h3, hpost _ _ _ _ _ _ ⟨Cond.after_iff.mpr rfl, Cond.after_iff.mpr (eq_i res_at (Term.int_eval (1)) rfl), trivial⟩ ⟨hq.1, hq.2.1, (hq.2.2.sift fun y hy => Or.inr (N y hy)).mono (by decide) (by decide)⟩⟩
theorem main_1_1 : Claimed_1_1 := comes_1 fun _ _ _ _ _ _ h hF => ⟨h.1, hF⟩
theorem main_1_2 : Claimed_1_2 := comes_1 fun _ _ _ _ _ _ h hF => ⟨h.2.1, hF⟩
end Jvm.Pilot.@@N@@
namespace Jvm.Pilot.@@N@@
open Jvm Jvm.ClassFile Sem Op Lib Jvm.Free Jvm.Stand Jvm.Pilot.@@N@@.Jvm.D
/-! MADE BY PROGRAM (witnessworld.py) out of the Statement's table words and the real class files: 12 classes; the members and pool entries that the words name. The judged class is class 1, her method 2. -/
namespace start1
open Jvm.ClassFile
def u (s : String) : CpInfo := .utf8 (stringToUtf16 s)
/-- a pool by its gaps: so many unusable entries, then the entry; so many at the end -/
def gap : Nat → List CpInfo → List CpInfo
  | 0, r => r
  | n + 1, r => .unusable :: gap n r
def poolList (es : List (Nat × CpInfo)) (last : Nat) : List CpInfo := es.foldr (fun e r => gap e.1 (e.2 :: r)) (gap last [])
def pool (es : List (Nat × CpInfo)) (last : Nat) : Array CpInfo := ⟨poolList es last⟩
def fileOf (pool : Array CpInfo) (this : Nat) (attrs : Array Attribute := #[]) (ms : Array MethodInfo := #[]) (fl : Nat := 33) (sup : Nat := 0) (ifs : Array Nat := #[]) (fds : Array FieldInfo := #[]) : ClassFile where
  minorVersion := 0
  majorVersion := 65
  constantPool := pool
  accessFlags := fl
  thisClass := this
  superClass := sup
  interfaces := ifs
  fields := fds
  methods := ms
  attributes := attrs
def plain (name : String) (sup : Option ClassId) : Class where
  name := name
  kind := .ordinary
  loader := none
  accessFlags := 33
  super := sup
  interfaces := #[]
  cf := none
  fields := #[]
  methods := #[]
  instanceTypes := #[]
  staticTypes := #[]
  resolved := #[]
  callSites := []
  init := .initialized
  statics := none
  mirror := none

def pool0 : Array CpInfo := pool [(5, u "<init>"), (0, u "()V"), (1, .class_ 10), (1, u "java/lang/Object")] 113

def k0m0 : Method := { name := "<init>", desc := "()V", sig := { parameters := [], returnType := none }, accessFlags := 1, code := none }
/-- java/lang/Object -/
def k0 : Class := { plain "java/lang/Object" none with
  accessFlags := 33
  interfaces := #[]
  cf := some (fileOf pool0 8 #[] #[{ accessFlags := 1, nameIndex := 5, descriptorIndex := 6, attributes := #[] }] 33 0 #[] #[])
  fields := #[]
  methods := #[k0m0]
  instanceTypes := #[]
  staticTypes := #[]
  resolved := Array.replicate 124 none
  statics := none }

def pool1 : Array CpInfo := pool [(2, .class_ 4), (1, u "java/lang/Object"), (0, u "<init>"), (0, u "()V"), (0, .fieldref 8 9), (0, .class_ 10), (0, .nameAndType 11 12), (0, u "com/example/ladon/ladon/Truth"), (0, u "TRUE"), (0, u "Lcom/example/ladon/ladon/Truth;"), (0, .fieldref 8 14), (0, .nameAndType 15 12), (0, u "FALSE"), (0, .fieldref 8 17), (0, .nameAndType 18 12), (0, u "INDETERMINATE"), (0, .integer 2147483647), (0, .methodref 21 22), (0, .class_ 23), (0, .nameAndType 24 25), (0, u "com/example/ladon/ladon/TruthNotPinLaw"), (0, u "pick"), (0, u "(I)Lcom/example/ladon/ladon/Truth;"), (0, .methodref 8 27), (0, .nameAndType 28 29), (0, u "not"), (0, u "()Lcom/example/ladon/ladon/Truth;"), (3, u "law"), (0, u "(I)Z")] 2

def k1m0 : Method := { name := "<init>", desc := "()V", sig := { parameters := [], returnType := none }, accessFlags := 1, code := none }
def k1c1 : Code := { maxStack := 2, maxLocals := 1, code := method_2_code, exceptionTable := #[], attributes := #[] }
def k1m1 : Method := { name := "pick", desc := "(I)Lcom/example/ladon/ladon/Truth;", sig := { parameters := [.int], returnType := some (.object "com/example/ladon/ladon/Truth") }, accessFlags := 10, code := some k1c1 }
def k1c2 : Code := { maxStack := 2, maxLocals := 7, code := code, exceptionTable := #[], attributes := #[] }
def k1m2 : Method := { name := "law", desc := "(I)Z", sig := { parameters := [.int], returnType := some .boolean }, accessFlags := 9, code := some k1c2 }
/-- com/example/ladon/ladon/TruthNotPinLaw -/
def k1 : Class := { plain "com/example/ladon/ladon/TruthNotPinLaw" (some 0) with
  accessFlags := 49
  interfaces := #[]
  cf := some (fileOf pool1 21 #[] #[{ accessFlags := 1, nameIndex := 5, descriptorIndex := 6, attributes := #[] }, { accessFlags := 10, nameIndex := 24, descriptorIndex := 25, attributes := #[] }, { accessFlags := 9, nameIndex := 33, descriptorIndex := 34, attributes := #[] }] 49 2 #[] #[])
  fields := #[]
  methods := #[k1m0, k1m1, k1m2]
  instanceTypes := #[]
  staticTypes := #[]
  resolved := Array.replicate 37 none
  statics := none }

def pool2 : Array CpInfo := pool [(1, .class_ 2), (0, u "java/lang/constant/Constable"), (0, .class_ 4), (0, u "java/lang/Object")] 6

/-- java/lang/constant/Constable -/
def k2 : Class := { plain "java/lang/constant/Constable" (some 0) with
  accessFlags := 1537
  interfaces := #[]
  cf := some (fileOf pool2 1 #[] #[] 1537 3 #[] #[])
  fields := #[]
  methods := #[]
  instanceTypes := #[]
  staticTypes := #[]
  resolved := Array.replicate 11 none
  statics := none }

def pool3 : Array CpInfo := pool [(1, .class_ 2), (0, u "java/lang/Comparable"), (0, .class_ 4), (0, u "java/lang/Object")] 7

/-- java/lang/Comparable -/
def k3 : Class := { plain "java/lang/Comparable" (some 0) with
  accessFlags := 1537
  interfaces := #[]
  cf := some (fileOf pool3 1 #[] #[] 1537 3 #[] #[])
  fields := #[]
  methods := #[]
  instanceTypes := #[]
  staticTypes := #[]
  resolved := Array.replicate 12 none
  statics := none }

def pool4 : Array CpInfo := pool [(1, .class_ 2), (0, u "java/io/Serializable"), (0, .class_ 4), (0, u "java/lang/Object")] 2

/-- java/io/Serializable -/
def k4 : Class := { plain "java/io/Serializable" (some 0) with
  accessFlags := 1537
  interfaces := #[]
  cf := some (fileOf pool4 1 #[] #[] 1537 3 #[] #[])
  fields := #[]
  methods := #[]
  instanceTypes := #[]
  staticTypes := #[]
  resolved := Array.replicate 7 none
  statics := none }

def pool5 : Array CpInfo := pool [(2, .class_ 4), (1, u "java/lang/Enum"), (0, u "name"), (0, u "Ljava/lang/String;"), (2, u "ordinal"), (0, u "I"), (1, .class_ 14), (1, u "java/lang/Object"), (4, u "hash"), (86, .class_ 108), (1, u "java/lang/Enum$EnumDesc"), (2, .class_ 112), (0, u "java/lang/constant/Constable"), (0, .class_ 114), (0, u "java/lang/Comparable"), (0, .class_ 116), (0, u "java/io/Serializable")] 87

/-- java/lang/Enum -/
def k5 : Class := { plain "java/lang/Enum" (some 0) with
  accessFlags := 1057
  interfaces := #[2, 3, 4]
  cf := some (fileOf pool5 2 #[.nestMembers #[106]] #[] 1057 12 #[111, 113, 115] #[{ accessFlags := 18, nameIndex := 5, descriptorIndex := 6, attributes := #[] }, { accessFlags := 18, nameIndex := 9, descriptorIndex := 10, attributes := #[] }, { accessFlags := 2, nameIndex := 19, descriptorIndex := 10, attributes := #[] }])
  fields := #[{ name := "name", type := (.object "java/lang/String"), accessFlags := 18, slot := 0, constantValue := 0 }, { name := "ordinal", type := .int, accessFlags := 18, slot := 1, constantValue := 0 }, { name := "hash", type := .int, accessFlags := 2, slot := 2, constantValue := 0 }]
  methods := #[]
  instanceTypes := #[(.object "java/lang/String"), .int, .int]
  staticTypes := #[]
  resolved := Array.replicate 204 none
  statics := none }

def pool6 : Array CpInfo := pool [(1, .class_ 2), (0, u "com/example/ladon/ladon/Truth"), (0, .fieldref 1 4), (0, .nameAndType 5 6), (0, u "TRUE"), (0, u "Lcom/example/ladon/ladon/Truth;"), (0, .fieldref 1 8), (0, .nameAndType 9 6), (0, u "FALSE"), (0, .fieldref 1 11), (0, .nameAndType 12 6), (0, u "INDETERMINATE"), (2, u "$VALUES"), (0, u "[Lcom/example/ladon/ladon/Truth;"), (6, .class_ 25), (1, u "java/lang/Enum"), (8, u "not"), (0, u "()Lcom/example/ladon/ladon/Truth;")] 24

def k6c0 : Code := { maxStack := 2, maxLocals := 2, code := prog_39_method_6_code, exceptionTable := #[], attributes := #[] }
def k6m0 : Method := { name := "not", desc := "()Lcom/example/ladon/ladon/Truth;", sig := { parameters := [], returnType := some (.object "com/example/ladon/ladon/Truth") }, accessFlags := 0, code := some k6c0 }
/-- com/example/ladon/ladon/Truth -/
def k6 : Class := { plain "com/example/ladon/ladon/Truth" (some 5) with
  accessFlags := 16432
  interfaces := #[]
  cf := some (fileOf pool6 1 #[] #[{ accessFlags := 0, nameIndex := 34, descriptorIndex := 35, attributes := #[] }] 16432 23 #[] #[{ accessFlags := 16409, nameIndex := 5, descriptorIndex := 6, attributes := #[] }, { accessFlags := 16409, nameIndex := 9, descriptorIndex := 6, attributes := #[] }, { accessFlags := 16409, nameIndex := 12, descriptorIndex := 6, attributes := #[] }, { accessFlags := 4122, nameIndex := 15, descriptorIndex := 16, attributes := #[] }])
  fields := #[{ name := "TRUE", type := (.object "com/example/ladon/ladon/Truth"), accessFlags := 16409, slot := 0, constantValue := 0 }, { name := "FALSE", type := (.object "com/example/ladon/ladon/Truth"), accessFlags := 16409, slot := 1, constantValue := 0 }, { name := "INDETERMINATE", type := (.object "com/example/ladon/ladon/Truth"), accessFlags := 16409, slot := 2, constantValue := 0 }, { name := "$VALUES", type := (.array (.object "com/example/ladon/ladon/Truth")), accessFlags := 4122, slot := 3, constantValue := 0 }]
  methods := #[k6m0]
  instanceTypes := #[(.object "java/lang/String"), .int, .int]
  staticTypes := #[(.object "com/example/ladon/ladon/Truth"), (.object "com/example/ladon/ladon/Truth"), (.object "com/example/ladon/ladon/Truth"), (.array (.object "com/example/ladon/ladon/Truth"))]
  resolved := Array.replicate 60 none
  statics := some 0 }

def pool7 : Array CpInfo := pool [(1, u "java/lang/Cloneable"), (0, .class_ 1), (0, u "java/lang/Object"), (0, .class_ 3)] 3

/-- java/lang/Cloneable -/
def k7 : Class := { plain "java/lang/Cloneable" (some 0) with
  accessFlags := 1537
  interfaces := #[]
  cf := some (fileOf pool7 2 #[] #[] 1537 4 #[] #[])
  fields := #[]
  methods := #[]
  instanceTypes := #[]
  staticTypes := #[]
  resolved := Array.replicate 8 none
  statics := none }

/-- the primitive byte -/
def k8 : Class := { plain "byte" none with kind := .primitive 'B', accessFlags := 0x411 }
/-- [B -/
def k9 : Class := { plain "[B" (some 0) with kind := .array 8 .byte, interfaces := #[7, 4], accessFlags := 1041 }

/-- the primitive int -/
def k10 : Class := { plain "int" none with kind := .primitive 'I', accessFlags := 0x411 }
/-- [I -/
def k11 : Class := { plain "[I" (some 0) with kind := .array 10 .int, interfaces := #[7, 4], accessFlags := 1041 }

def heap : Heap := #[{ cls := 6, slots := #[.ref 1, .ref 2, .ref 3, .null], vm := .statics 6 },
  { cls := 6, slots := #[.null, .int 0, .int 0], vm := .none },
  { cls := 6, slots := #[.null, .int 1, .int 0], vm := .none },
  { cls := 6, slots := #[.null, .int 2, .int 0], vm := .none }]
def classes : Array Class := #[k0, k1, k2, k3, k4, k5, k6, k7, k8, k9, k10, k11]
def interned : List (Array UInt16 × Addr) := []
def slotsUsed : Nat := 13
def theMethod : MethodId := ⟨1, 2⟩
def args0 : Array Value := #[.int 5]
def aboutOver (below : List Frame) : State where
  vm := { classes := classes, interned := interned.toArray }
  heap := heap
  slotsUsed := slotsUsed
  threads := #[{ frames := .invoking theMethod args0 :: below }]
def below0 : List Frame := [.native { method := ⟨0, 0⟩, args := #[] }]
def about1 : State := aboutOver below0
def p0 : Program := .bare "" "" ""
def e0 : Env := launch0.env 0 0 0
theorem w_frames : about1.frames = Frame.invoking theMethod args0 :: below0 := rfl
set_option maxRecDepth 65536 in
theorem w_args : argsFit about1.vm theMethod args0 = true := by decide +kernel
set_option maxRecDepth 65536 in
theorem w_heap : heapFits about1 = true := by decide +kernel
set_option maxRecDepth 65536 in
theorem w_runnable : about1.curStatus? = some .runnable := by decide +kernel
set_option maxRecDepth 65536 in
theorem w_alone : about1.alone = true := by decide +kernel
set_option maxRecDepth 65536 in
theorem w_named : about1.methodNamed? x = some theMethod := by decide +kernel
set_option maxRecDepth 65536 in
theorem w_hears : about1.hears theMethod below0 = true := by decide +kernel
set_option maxRecDepth 65536 in
theorem w_ripe : about1.ripe theMethod args0 below0 = true := by decide +kernel
theorem w_running : about1.status = .running := rfl
set_option maxRecDepth 65536 in
theorem w_room : about1.hasRoom e0.platform room_1 = true :=
  launch0.hasRoom_least _ room_1 (by decide +kernel) (by decide +kernel) (by decide +kernel) (by decide +kernel) (by decide +kernel) (by decide +kernel)
theorem allAtoms_all (ts : List Jvm.Cond) (a : Array Jvm.Value) (st : Jvm.State) : (allAtoms ts).before a st = ts.all (fun c => c.before a st) := by
  induction ts with
  | nil => rfl
  | cons c t ih =>
    show (Jvm.Cond.and c (allAtoms t)).before a st = _
    rw [Jvm.Cond.before_and, ih, List.all_cons]
def words1 : List Jvm.Cond := Jvm.Cond.code x code maxLocals ret :: tables_1
/-- a 'code' word, met by the world's own term for the bytes: nothing is compared byte by byte -/
theorem code_word {y : MethodName} {bytes : ByteArray} {mx : Nat} {rt : Option FieldType} {a : Array Value} {s : State} {m : MethodId} {meth : Method} {c : Code} (h1 : s.methodNamed? y = some m) (h2 : s.vm.method? m = some meth) (h3 : meth.code = some c) (h4 : c.code = bytes)
    (h5 : (c.maxLocals == mx && c.exceptionTable.isEmpty && decide (c.maxStack ≤ mostOperands) && decide (meth.sig.returnType = rt) && !meth.locks && decide (parseMethodDescriptor y.desc = some meth.sig)) = true) : (Jvm.Cond.code y bytes mx rt).before a s = true := by
  simp only [Bool.and_eq_true, beq_iff_eq, Bool.not_eq_true', decide_eq_true_eq] at h5
  obtain ⟨⟨⟨⟨⟨g1, g2⟩, g3⟩, g4⟩, g5⟩, g6⟩ := h5
  simp [Cond.before, Cond.holds, Cond.value, h1, h2, h3, h4, g1, g2, g3, g4, g5, g6]
def isCode : Jvm.Cond → Bool
  | .code _ _ _ _ => true
  | _ => false
theorem all_split {L : List Jvm.Cond} {P : Jvm.Cond → Bool} (h1 : L.all (fun c => isCode c || P c) = true) (h2 : ∀ c ∈ L.filter isCode, P c = true) : L.all P = true := by
  refine List.all_eq_true.mpr fun c hc => ?_
  have h := List.all_eq_true.mp h1 c hc
  rcases Bool.eq_false_or_eq_true (isCode c) with hi | hi
  · exact h2 c (List.mem_filter.mpr ⟨hc, hi⟩)
  · simpa [hi] using h
set_option maxRecDepth 65536 in
theorem w_c0 : (Jvm.Cond.code x code maxLocals ret).before args0 about1 = true := code_word (m := ⟨1, 2⟩) (meth := k1m2) (c := k1c2) (by decide +kernel) rfl rfl rfl (by decide +kernel)
set_option maxRecDepth 65536 in
theorem w_c1 : (Jvm.Cond.code ({ cls := "com/example/ladon/ladon/TruthNotPinLaw", name := "pick", desc := "(I)Lcom/example/ladon/ladon/Truth;" } : Jvm.MethodName) method_2_code (1 : Nat) (Option.some (Jvm.ClassFile.FieldType.object "com/example/ladon/ladon/Truth"))).before args0 about1 = true := code_word (m := ⟨1, 1⟩) (meth := k1m1) (c := k1c1) (by decide +kernel) rfl rfl rfl (by decide +kernel)
set_option maxRecDepth 65536 in
theorem w_c2 : (Jvm.Cond.code ({ cls := "com/example/ladon/ladon/Truth", name := "not", desc := "()Lcom/example/ladon/ladon/Truth;" } : Jvm.MethodName) prog_39_method_6_code (2 : Nat) (Option.some (Jvm.ClassFile.FieldType.object "com/example/ladon/ladon/Truth"))).before args0 about1 = true := code_word (m := ⟨6, 0⟩) (meth := k6m0) (c := k6c0) (by decide +kernel) rfl rfl rfl (by decide +kernel)
def codes1 : List Jvm.Cond := [Jvm.Cond.code x code maxLocals ret, Jvm.Cond.code ({ cls := "com/example/ladon/ladon/TruthNotPinLaw", name := "pick", desc := "(I)Lcom/example/ladon/ladon/Truth;" } : Jvm.MethodName) method_2_code (1 : Nat) (Option.some (Jvm.ClassFile.FieldType.object "com/example/ladon/ladon/Truth")), Jvm.Cond.code ({ cls := "com/example/ladon/ladon/Truth", name := "not", desc := "()Lcom/example/ladon/ladon/Truth;" } : Jvm.MethodName) prog_39_method_6_code (2 : Nat) (Option.some (Jvm.ClassFile.FieldType.object "com/example/ladon/ladon/Truth"))]
set_option maxRecDepth 65536 in
theorem codes_eq : words1.filter isCode = codes1 := rfl
theorem w_codes : ∀ c ∈ words1.filter isCode, c.before args0 about1 = true := by
  rw [codes_eq]
  intro c hc
  simp only [codes1, List.mem_cons, List.not_mem_nil, or_false] at hc
  rcases hc with rfl | rfl | rfl
  · exact w_c0
  · exact w_c1
  · exact w_c2
set_option maxRecDepth 65536 in
theorem w_t1 : words1.all (fun c => isCode c || c.before args0 about1) = true := by decide +kernel
theorem w_tables : (allAtoms (Jvm.Cond.code x code maxLocals ret :: tables_1)).before args0 about1 = true := by
  rw [allAtoms_all]
  show words1.all (fun c => c.before args0 about1) = true
  refine all_split ?_ w_codes
  rw [w_t1]
set_option maxRecDepth 65536 in
theorem w_case : (Jvm.Cond.and given_1 narrow_1).before args0 about1 = true := by decide +kernel
theorem w_applies : (headSpec (Jvm.Cond.code x code maxLocals ret :: tables_1) room_1).applies x e0.platform about1 = true :=
  (Spec.applies_iff w_frames).mpr ⟨w_running, w_runnable, w_alone, w_named, w_hears, w_ripe, w_room, w_tables⟩
theorem atStart : AtStart classFile x code maxLocals ret World_1 tables_1 room_1 Calls_1 rest_1 Pre_1 launch0 p0 e0 about1 theMethod args0 below0 :=
  ⟨lists_1, trivial, launch0.admits_env _ _ _, launch0.least_env, fairChoices_fair.cas, fairChoices_fair.clock, w_frames, w_args, w_heap, w_applies, trivial, trivial, w_case⟩
end start1
theorem witness_1 : WitnessClaimed_1 := ⟨start1.p0, start1.e0, start1.about1, start1.theMethod, start1.args0, start1.below0, start1.atStart⟩
end Jvm.Pilot.@@N@@
