import JvmDerived
import JvmDerived.Pilot.@@N@@Statement
import JvmDerived.Pilot.@@N@@Code
set_option linter.unusedVariables false
set_option linter.unusedSimpArgs false
namespace Jvm.Pilot.@@N@@
open Jvm Jvm.ClassFile Sem Op Lib Jvm.Free Jvm.Stand Jvm.LawKit Jvm.RoadKit Bundle Jvm.Pilot.@@N@@.Jvm.D
theorem own_eqi {s : State} {args : Array Value} {t : Term} {k : Int32} (h : (Jvm.Cond.eq t (Term.int k)).value args s none s [] = some true) : t.eval args s none [] s = some (.int k) := by
  obtain ⟨u, v, hu, hv, k1, k2⟩ := cmp_v (Or.inl h)
  obtain rfl : v = .int k := Option.some.inj (hv.symm.trans (Term.int_eval k))
  obtain ⟨z, rfl⟩ := k2
  rw [hu]
  simp [Cond.value, hu, hv] at h
  rw [h]
theorem own_fld {s : State} {args : Array Value} {t : Term} {C n d : String} {k : Int32} {x : Addr} (ev : t.eval args s none [] s = some (.ref x)) (h : (Jvm.Cond.eq (Term.field t C n d) (Term.int k)).value args s none s [] = some true) : Fld s s.heap x C n d (.int k) := by
  have hu := own_eqi h
  rw [fld_at ev] at hu
  exact Fld.start hu
theorem d2_0 : decode jdk_30_method_1_code 0 = .ok (.aload_n 0, 1) := by decide +kernel
theorem d2_1 : decode jdk_30_method_1_code 1 = .ok (.invokespecial 1, 3) := by decide +kernel
theorem d2_4 : decode jdk_30_method_1_code 4 = .ok (.return_, 1) := by decide +kernel
theorem pn_3 : plainName "java/lang/Record" = true := by first | (simp [plainName, overriddenIn]; done) | decide +kernel
theorem ef_2_4 (m : MethodId) (x0 : Addr) : entryFrame m #[(.ref x0)] 1 = mkF m 0 #[.val (.ref x0)] [] := by first | (simp [entryFrame, mkF, argsToLocals, Value.category]; done) | rfl
def QrmRec (Z : State) (a : Addr) (h0 : Heap) (n0 : Nat) (v : Option Value) (h : Heap) (L : List Loc) : Prop := v = none ∧ Fr n0 L ∧ h = h0
set_option maxRecDepth 65536 in
set_option maxHeartbeats 40000000 in
theorem rmRec (l : Launch) (Z : State) (a0 : Array Value) (hw : ∀ d ∈ tables_1, d.before a0 Z = true) (ws : List Jvm.Cond) (a : Addr) (h0 : Heap) (n0 : Nat) (O0 : Old Z n0 h0)  :
    MetFree l (⟨"java/lang/Record", "<init>", "()V"⟩ : MethodName) (head1 (Jvm.Cond.code (⟨"java/lang/Record", "<init>", "()V"⟩ : MethodName) jdk_30_method_1_code 1 none :: ws) ({ frames := 1, cells := 0, slots := 0, locals := 12 } : Room)) (fun a_ U_ => a_ = #[(.ref a)] ∧ Z.Warmed39 U_.vm ∧ U_.heap = h0) (fun _ _ _ _ _ => True) (fun _ U_ o_ U'_ => ∃ v_ L_, o_ = .returned v_ ∧ QrmRec Z a h0 n0 v_ U'_.heap L_ ∧ FrameEnd U_ o_ U'_ L_ ({ frames := 1, cells := 0, slots := 0, locals := 12 } : Room).cells ({ frames := 1, cells := 0, slots := 0, locals := 12 } : Room).slots) := by
  refine MetFree.of_bodySF (plainFor_of_name pn_3) hisR ?_
  intro pg ee s mm args below meth cc s₁ Bd hml0 hP hK
  obtain ⟨rfl, hZ, hh⟩ := hP
  have hx := Bd.exec
  have hby := Bd.bytes
  have hml : cc.maxLocals = 1 := hml0
  have hown : s.vm.findClass "java/lang/Record" = some mm.cls := findClass_of_methodNamed Bd.named
  have hnm := (name_of_methodNamed Bd.named Bd.method).1
  have X0 : Stand pg l ee ({ frames := 1, cells := 0, slots := 0, locals := 12 } : Room) s mm #[(.ref a)] below meth cc s₁ [] 0 0 := Stand.of_body Bd
  have e0 : s₁.heap = h0 := by rw [← hh, Bd.state]; rfl
  have N0 := Fr.nil n0
  have K0 : Keep h0 h0 ([] : List Addr) := Keep.refl _ _
  have pre0 : ∀ t, Steps pg.tables ee below (s₁.setTop (mkF mm 0 #[.val (.ref a)] [])) t → Steps pg.tables ee below (s₁.setTop (entryFrame mm #[(.ref a)] 1)) t := fun t k => castTop (ef_2_4 mm a) k
  obtain ⟨T1, X1, e1, st1⟩ := initO X0 hx hZ hown (hw _ (List.mem_of_getElem? (i := 14) rfl)) (hw _ (List.mem_of_getElem? (i := 15) rfl)) (hw _ (List.mem_of_getElem? (i := 16) rfl)) e0 (g := (mkF mm 1 #[.val (.ref a)] [(.ref a)])) rfl (by rw [hml]; rfl) rfl (hb hby d2_1) (by decide) (W := 0) (by show 2 * 0 + _ ≤ _; exact Nat.le_of_eq rfl) (by decide)
  obtain ⟨fs, hr, hrun, hended, hW, hsame⟩ := X1.leave (v := none) (fun _ => rfl)
  refine ⟨_, _, pre0 _ ?_, hrun, hended, _, _, rfl, ?_, ⟨_, rfl⟩, hW, hsame.mono (by decide) (by decide)⟩
  · show Steps pg.tables ee below (s₁.setTop (mkF mm 0 #[.val (.ref a)] [])) _
    refine XS.aloadN X0.here hx rfl (hb hby d2_0) rfl rfl ?_
    show Steps pg.tables ee below (s₁.setTop (mkF mm 1 #[.val (.ref a)] [(.ref a)])) _
    refine st1 _ ?_
    show Steps pg.tables ee below (T1.setTop (mkF mm 4 #[.val (.ref a)] [])) _
    exact X1.returnOut hx Bd.returns (hb hby d2_4) hr
  · show QrmRec Z a h0 n0 _ T1.heap _
    rw [e1]
    exact ⟨rfl, N0, rfl⟩
theorem d1_0 : decode prog_19_method_1_code 0 = .ok (.aload_n 0, 1) := by decide +kernel
theorem d1_1 : decode prog_19_method_1_code 1 = .ok (.invokespecial 1, 3) := by decide +kernel
theorem pd_7 : parseMethodDescriptor "()V" = some ⟨[], none⟩ := by decide +kernel
theorem d1_4 : decode prog_19_method_1_code 4 = .ok (.aload_n 0, 1) := by decide +kernel
theorem d1_5 : decode prog_19_method_1_code 5 = .ok (.aload_n 1, 1) := by decide +kernel
theorem d1_6 : decode prog_19_method_1_code 6 = .ok (.putfield 7, 3) := by decide +kernel
theorem d1_9 : decode prog_19_method_1_code 9 = .ok (.aload_n 0, 1) := by decide +kernel
theorem d1_10 : decode prog_19_method_1_code 10 = .ok (.lload_n 2, 1) := by decide +kernel
theorem d1_11 : decode prog_19_method_1_code 11 = .ok (.putfield 13, 3) := by decide +kernel
theorem d1_14 : decode prog_19_method_1_code 14 = .ok (.return_, 1) := by decide +kernel
theorem pn_15 : plainName "com/example/waxwing/waxwing/http/MessageReader$Framing" = true := by first | (simp [plainName, overriddenIn]; done) | decide +kernel
theorem ef_1_16 (m : MethodId) (x0 : Addr) (x1 : Addr) (x2 : Int64) : entryFrame m #[(.ref x0), (.ref x1), (.long x2)] 4 = mkF m 0 #[.val (.ref x0), .val (.ref x1), .val (.long x2), .second] [] := by first | (simp [entryFrame, mkF, argsToLocals, Value.category]; done) | rfl
def QrmI (Z : State) (a : Addr) (x : Addr) (q : Int64) (h0 : Heap) (n0 : Nat) (v : Option Value) (h : Heap) (L : List Loc) : Prop := v = none ∧ Fr n0 L ∧ Keep h0 h [a] ∧ Exa Z h a "com/example/waxwing/waxwing/http/MessageReader$Framing" ∧ Fld Z h a "com/example/waxwing/waxwing/http/MessageReader$Framing" "body" "Lcom/example/waxwing/waxwing/http/MessageReader$Body;" (.ref x) ∧ Fld Z h a "com/example/waxwing/waxwing/http/MessageReader$Framing" "length" "J" (.long q)
set_option maxRecDepth 65536 in
set_option maxHeartbeats 40000000 in
theorem rmI (l : Launch) (Z : State) (a0 : Array Value) (hw : ∀ d ∈ tables_1, d.before a0 Z = true) (ws : List Jvm.Cond) (a : Addr) (x : Addr) (q : Int64) (h0 : Heap) (n0 : Nat) (O0 : Old Z n0 h0) (E_a : Exa Z h0 a "com/example/waxwing/waxwing/http/MessageReader$Framing") (F_body_a : Fld Z h0 a "com/example/waxwing/waxwing/http/MessageReader$Framing" "body" "Lcom/example/waxwing/waxwing/http/MessageReader$Body;" .null) (F_length_a : Fld Z h0 a "com/example/waxwing/waxwing/http/MessageReader$Framing" "length" "J" (.long (0 : Int64))) (g_a : n0 ≤ a) :
    MetFree l (⟨"com/example/waxwing/waxwing/http/MessageReader$Framing", "<init>", "(Lcom/example/waxwing/waxwing/http/MessageReader$Body;J)V"⟩ : MethodName) (head1 (Jvm.Cond.code (⟨"com/example/waxwing/waxwing/http/MessageReader$Framing", "<init>", "(Lcom/example/waxwing/waxwing/http/MessageReader$Body;J)V"⟩ : MethodName) prog_19_method_1_code 4 none :: ws) ({ frames := 2, cells := 0, slots := 0, locals := 24 } : Room)) (fun a_ U_ => a_ = #[(.ref a), (.ref x), (.long q)] ∧ Z.Warmed39 U_.vm ∧ U_.heap = h0) (fun _ _ _ _ _ => True) (fun _ U_ o_ U'_ => ∃ v_ L_, o_ = .returned v_ ∧ QrmI Z a x q h0 n0 v_ U'_.heap L_ ∧ FrameEnd U_ o_ U'_ L_ ({ frames := 2, cells := 0, slots := 0, locals := 24 } : Room).cells ({ frames := 2, cells := 0, slots := 0, locals := 24 } : Room).slots) := by
  refine MetFree.of_bodySF (plainFor_of_name pn_15) hisR ?_
  intro pg ee s mm args below meth cc s₁ Bd hml0 hP hK
  obtain ⟨rfl, hZ, hh⟩ := hP
  have hx := Bd.exec
  have hby := Bd.bytes
  have hml : cc.maxLocals = 4 := hml0
  have hown : s.vm.findClass "com/example/waxwing/waxwing/http/MessageReader$Framing" = some mm.cls := findClass_of_methodNamed Bd.named
  have hnm := (name_of_methodNamed Bd.named Bd.method).1
  have X0 : Stand pg l ee ({ frames := 2, cells := 0, slots := 0, locals := 24 } : Room) s mm #[(.ref a), (.ref x), (.long q)] below meth cc s₁ [] 0 0 := Stand.of_body Bd
  have e0 : s₁.heap = h0 := by rw [← hh, Bd.state]; rfl
  have N0 := Fr.nil n0
  have K0 : Keep h0 h0 ([a] : List Addr) := Keep.refl _ _
  have pre0 : ∀ t, Steps pg.tables ee below (s₁.setTop (mkF mm 0 #[.val (.ref a), .val (.ref x), .val (.long q), .second] [])) t → Steps pg.tables ee below (s₁.setTop (entryFrame mm #[(.ref a), (.ref x), (.long q)] 4)) t := fun t k => castTop (ef_1_16 mm a x q) k
  obtain ⟨_, _, ⟨T1, L1, k1, n1⟩, -, X1, ⟨Lc1, hQ1, l1, y1, z1⟩, st1⟩ := X0.specialBack hx (y := (⟨"java/lang/Record", "<init>", "()V"⟩ : MethodName)) rfl hown (mvT hZ (hw _ (List.mem_of_getElem? (i := 9) rfl))) (mvT hZ (hw _ (List.mem_of_getElem? (i := 10) rfl))) (mvT hZ (hw _ (List.mem_of_getElem? (i := 13) rfl))) (by decide) (backOf (W := 0) (rmRec l Z a0 hw [] a h0 n0 O0) hZ (hw _ (List.mem_of_getElem? (i := 13) rfl)) (hw _ (List.mem_of_getElem? (i := 12) rfl)) (by decide) (by decide)) (g := (mkF mm 1 #[.val (.ref a), .val (.ref x), .val (.long q), .second] [(.ref a)])) rfl (by rw [hml]; rfl) (Steps.refl _) (a := a) (argsL := []) (rest := []) (lenOf pd_7 rfl) rfl (by show 2 * 0 + _ ≤ _; exact Nat.le_of_eq rfl) (hb hby d1_1) (fun _ _ => ⟨rfl, e0, (by decide : 0 + 0 ≤ _), (by decide : 0 + 0 ≤ _)⟩)
  dsimp only [Pt.U, Pt.locs, Pt.cells, Pt.slots] at X1 l1 y1 z1 st1 hQ1
  subst l1 y1 z1
  obtain ⟨rfl, N1q, e1⟩ := hQ1
  have N1 := Fr.app N0 N1q
  obtain ⟨T2, h2, X2, e2, W2, st2⟩ := putF X1 hx hZ hown (host := "") (Or.inl (hw _ (List.mem_of_getElem? (i := 17) rfl))) Via.refl e1 F_body_a E_a (Or.inr ⟨(hw _ (List.mem_of_getElem? (i := 18) rfl)), rfl, hnm⟩) (hw _ (List.mem_of_getElem? (i := 4) rfl)) (ty := (.object "com/example/waxwing/waxwing/http/MessageReader$Body")) (by decide) rfl rfl (g := (mkF mm 6 #[.val (.ref a), .val (.ref x), .val (.long q), .second] [(.ref x), (.ref a)])) rfl rfl (hb hby d1_6)
  have Fw2 : Fld Z h2 a "com/example/waxwing/waxwing/http/MessageReader$Framing" "body" "Lcom/example/waxwing/waxwing/http/MessageReader$Body;" (.ref x) := F_body_a.same W2
  have N2 := Fr.snoc X2 N1 g_a
  have O2 := O0.wr W2 g_a
  have KK2 := K0.wr W2 (Or.inl (by simp))
  obtain ⟨T3, h3, X3, e3, W3, st3⟩ := putF X2 hx hZ hown (host := "") (Or.inl (hw _ (List.mem_of_getElem? (i := 19) rfl))) Via.refl e2 (F_length_a.other W2 (Or.inr (slot_ne (Or.inr (hw _ (List.mem_of_getElem? (i := 20) rfl))) (Or.inr (hw _ (List.mem_of_getElem? (i := 18) rfl))) (by decide) (t := .long) (t' := (.object "com/example/waxwing/waxwing/http/MessageReader$Body")) (by decide) (by decide)))) (E_a.wr W2) (Or.inr ⟨(hw _ (List.mem_of_getElem? (i := 20) rfl)), rfl, hnm⟩) (hw _ (List.mem_of_getElem? (i := 4) rfl)) (ty := .long) (by decide) rfl rfl (g := (mkF mm 11 #[.val (.ref a), .val (.ref x), .val (.long q), .second] [(.long q), (.ref a)])) rfl rfl (hb hby d1_11)
  have Fw3 : Fld Z h3 a "com/example/waxwing/waxwing/http/MessageReader$Framing" "length" "J" (.long q) := (F_length_a.other W2 (Or.inr (slot_ne (Or.inr (hw _ (List.mem_of_getElem? (i := 20) rfl))) (Or.inr (hw _ (List.mem_of_getElem? (i := 18) rfl))) (by decide) (t := .long) (t' := (.object "com/example/waxwing/waxwing/http/MessageReader$Body")) (by decide) (by decide)))).same W3
  have N3 := Fr.snoc X3 N2 g_a
  have O3 := O2.wr W3 g_a
  have KK3 := KK2.wr W3 (Or.inl (by simp))
  obtain ⟨fs, hr, hrun, hended, hW, hsame⟩ := X3.leave (v := none) (fun _ => rfl)
  refine ⟨_, _, pre0 _ ?_, hrun, hended, _, _, rfl, ?_, ⟨_, rfl⟩, hW, hsame.mono (by decide) (by decide)⟩
  · show Steps pg.tables ee below (s₁.setTop (mkF mm 0 #[.val (.ref a), .val (.ref x), .val (.long q), .second] [])) _
    refine XS.aloadN X0.here hx rfl (hb hby d1_0) rfl rfl ?_
    show Steps pg.tables ee below (s₁.setTop (mkF mm 1 #[.val (.ref a), .val (.ref x), .val (.long q), .second] [(.ref a)])) _
    refine st1.trans ?_
    show Steps pg.tables ee below (T1.setTop (mkF mm 4 #[.val (.ref a), .val (.ref x), .val (.long q), .second] [])) _
    refine XS.aloadN X1.here hx rfl (hb hby d1_4) rfl rfl ?_
    show Steps pg.tables ee below (T1.setTop (mkF mm 5 #[.val (.ref a), .val (.ref x), .val (.long q), .second] [(.ref a)])) _
    refine XS.aloadN X1.here hx rfl (hb hby d1_5) rfl rfl ?_
    show Steps pg.tables ee below (T1.setTop (mkF mm 6 #[.val (.ref a), .val (.ref x), .val (.long q), .second] [(.ref x), (.ref a)])) _
    refine st2 _ ?_
    show Steps pg.tables ee below (T2.setTop (mkF mm 9 #[.val (.ref a), .val (.ref x), .val (.long q), .second] [])) _
    refine XS.aloadN X2.here hx rfl (hb hby d1_9) rfl rfl ?_
    show Steps pg.tables ee below (T2.setTop (mkF mm 10 #[.val (.ref a), .val (.ref x), .val (.long q), .second] [(.ref a)])) _
    refine XS.lloadN X2.here hx rfl (hb hby d1_10) rfl ?_
    show Steps pg.tables ee below (T2.setTop (mkF mm 11 #[.val (.ref a), .val (.ref x), .val (.long q), .second] [(.long q), (.ref a)])) _
    refine st3 _ ?_
    show Steps pg.tables ee below (T3.setTop (mkF mm 14 #[.val (.ref a), .val (.ref x), .val (.long q), .second] [])) _
    exact X3.returnOut hx Bd.returns (hb hby d1_14) hr
  · show QrmI Z a x q h0 n0 _ T3.heap _
    rw [e3]
    exact ⟨rfl, N3, KK3, ((E_a.wr W2).wr W3), (Fw2.other W3 (Or.inr (slot_ne (Or.inr (hw _ (List.mem_of_getElem? (i := 18) rfl))) (Or.inr (hw _ (List.mem_of_getElem? (i := 20) rfl))) (by decide) (t := (.object "com/example/waxwing/waxwing/http/MessageReader$Body")) (t' := .long) (by decide) (by decide)))), Fw3⟩
theorem d4_0 : decode prog_19_method_3_code 0 = .ok (.aload_n 0, 1) := by decide +kernel
theorem d4_1 : decode prog_19_method_3_code 1 = .ok (.getfield 7, 3) := by decide +kernel
theorem d4_4 : decode prog_19_method_3_code 4 = .ok (.getstatic 25, 3) := by decide +kernel
theorem d4_7 : decode prog_19_method_3_code 7 = .ok (.if_acmp .eq 22, 3) := by decide +kernel
theorem d4_29 : decode prog_19_method_3_code 29 = .ok (.iconst 1, 1) := by decide +kernel
theorem d4_30 : decode prog_19_method_3_code 30 = .ok (.goto 4, 3) := by decide +kernel
theorem d4_34 : decode prog_19_method_3_code 34 = .ok (.ireturn, 1) := by decide +kernel
theorem ef_4_24 (m : MethodId) (x0 : Addr) : entryFrame m #[(.ref x0)] 1 = mkF m 0 #[.val (.ref x0)] [] := by first | (simp [entryFrame, mkF, argsToLocals, Value.category]; done) | rfl
def QrmEN (Z : State) (a : Addr) (q : Int64) (aNONE : Addr) (aLENGTH : Addr) (h0 : Heap) (n0 : Nat) (v : Option Value) (h : Heap) (L : List Loc) : Prop := v = some (.int (1 : Int32)) ∧ Fr n0 L ∧ h = h0
set_option maxRecDepth 65536 in
set_option maxHeartbeats 40000000 in
theorem rmEN (l : Launch) (Z : State) (a0 : Array Value) (hw : ∀ d ∈ tables_1, d.before a0 Z = true) (ws : List Jvm.Cond) (a : Addr) (q : Int64) (aNONE : Addr) (aLENGTH : Addr) (h0 : Heap) (n0 : Nat) (O0 : Old Z n0 h0) (Fb : Fld Z h0 a "com/example/waxwing/waxwing/http/MessageReader$Framing" "body" "Lcom/example/waxwing/waxwing/http/MessageReader$Body;" (.ref aNONE)) (Fl : Fld Z h0 a "com/example/waxwing/waxwing/http/MessageReader$Framing" "length" "J" (.long q)) (S_NONE : Sta Z Z.heap "com/example/waxwing/waxwing/http/MessageReader$Body" "NONE" "Lcom/example/waxwing/waxwing/http/MessageReader$Body;" (.ref aNONE)) (S_LENGTH : Sta Z Z.heap "com/example/waxwing/waxwing/http/MessageReader$Body" "LENGTH" "Lcom/example/waxwing/waxwing/http/MessageReader$Body;" (.ref aLENGTH)) :
    MetFree l (⟨"com/example/waxwing/waxwing/http/MessageReader$Framing", "empty", "()Z"⟩ : MethodName) (head1 (Jvm.Cond.code (⟨"com/example/waxwing/waxwing/http/MessageReader$Framing", "empty", "()Z"⟩ : MethodName) prog_19_method_3_code 1 (some .boolean) :: ws) ({ frames := 0, cells := 0, slots := 0, locals := 0 } : Room)) (fun a_ U_ => a_ = #[(.ref a)] ∧ Z.Warmed39 U_.vm ∧ U_.heap = h0) (fun _ _ _ _ _ => True) (fun _ U_ o_ U'_ => ∃ v_ L_, o_ = .returned v_ ∧ QrmEN Z a q aNONE aLENGTH h0 n0 v_ U'_.heap L_ ∧ FrameEnd U_ o_ U'_ L_ ({ frames := 0, cells := 0, slots := 0, locals := 0 } : Room).cells ({ frames := 0, cells := 0, slots := 0, locals := 0 } : Room).slots) := by
  refine MetFree.of_bodySF (plainFor_of_name pn_15) hisR ?_
  intro pg ee s mm args below meth cc s₁ Bd hml0 hP hK
  obtain ⟨rfl, hZ, hh⟩ := hP
  have hx := Bd.exec
  have hby := Bd.bytes
  have hml : cc.maxLocals = 1 := hml0
  have hown : s.vm.findClass "com/example/waxwing/waxwing/http/MessageReader$Framing" = some mm.cls := findClass_of_methodNamed Bd.named
  have hnm := (name_of_methodNamed Bd.named Bd.method).1
  have X0 : Stand pg l ee ({ frames := 0, cells := 0, slots := 0, locals := 0 } : Room) s mm #[(.ref a)] below meth cc s₁ [] 0 0 := Stand.of_body Bd
  have e0 : s₁.heap = h0 := by rw [← hh, Bd.state]; rfl
  have N0 := Fr.nil n0
  have K0 : Keep h0 h0 ([] : List Addr) := Keep.refl _ _
  have pre0 : ∀ t, Steps pg.tables ee below (s₁.setTop (mkF mm 0 #[.val (.ref a)] [])) t → Steps pg.tables ee below (s₁.setTop (entryFrame mm #[(.ref a)] 1)) t := fun t k => castTop (ef_4_24 mm a) k
  obtain ⟨T1, X1, e1, st1⟩ := getF X0 hx hZ hown (host := "") (Or.inl (hw _ (List.mem_of_getElem? (i := 17) rfl))) Via.refl e0 Fb (g := (mkF mm 1 #[.val (.ref a)] [(.ref a)])) rfl rfl (hb hby d4_1)
  obtain ⟨T2, X2, e2, st2⟩ := getS2 X1 hx hZ hown (host := "") (Or.inl (hw _ (List.mem_of_getElem? (i := 26) rfl))) Via.refl e1 (S_NONE.ext O0.2) (g := (mkF mm 4 #[.val (.ref a)] [(.ref aNONE)])) rfl (hb hby d4_4)
  obtain ⟨fs, hr, hrun, hended, hW, hsame⟩ := X2.leave (v := some (.int (1 : Int32))) (fun h => by rw [Bd.returns] at h; cases h)
  refine ⟨_, _, pre0 _ ?_, hrun, hended, _, _, rfl, ?_, ⟨_, rfl⟩, hW, hsame.mono (by decide) (by decide)⟩
  · show Steps pg.tables ee below (s₁.setTop (mkF mm 0 #[.val (.ref a)] [])) _
    refine XS.aloadN X0.here hx rfl (hb hby d4_0) rfl rfl ?_
    show Steps pg.tables ee below (s₁.setTop (mkF mm 1 #[.val (.ref a)] [(.ref a)])) _
    refine st1 _ ?_
    show Steps pg.tables ee below (T1.setTop (mkF mm 4 #[.val (.ref a)] [(.ref aNONE)])) _
    refine st2 _ ?_
    show Steps pg.tables ee below (T2.setTop (mkF mm 7 #[.val (.ref a)] [(.ref aNONE), (.ref aNONE)])) _
    refine Jvm.RoadKit.acmp (g := (mkF mm 7 #[.val (.ref a)] [(.ref aNONE), (.ref aNONE)])) X2 hx rfl rfl rfl (pc0 := 7) (pc' := 29) (same := true) rfl (hb hby d4_7) rfl (decide_eq_true rfl) (by decide) (by decide) ?_
    show Steps pg.tables ee below (T2.setTop (mkF mm 29 #[.val (.ref a)] [])) _
    refine XS.iconst X2.here hx rfl (hb hby d4_29) ?_
    show Steps pg.tables ee below (T2.setTop (mkF mm 30 #[.val (.ref a)] [(.int (1 : Int32))])) _
    refine XS.goto X2.here hx rfl (pc0 := 30) (pc' := 34) rfl (hb hby d4_30) (by decide) (by decide) ?_
    show Steps pg.tables ee below (T2.setTop (mkF mm 34 #[.val (.ref a)] [(.int (1 : Int32))])) _
    exact retN X2 hx (t := .boolean) Bd.returns (by simp) (hb hby d4_34) hr
  · show QrmEN Z a q aNONE aLENGTH h0 n0 _ T2.heap _
    rw [e2]
    exact ⟨rfl, N0, rfl⟩
theorem d4_10 : decode prog_19_method_3_code 10 = .ok (.aload_n 0, 1) := by decide +kernel
theorem d4_11 : decode prog_19_method_3_code 11 = .ok (.getfield 7, 3) := by decide +kernel
theorem d4_14 : decode prog_19_method_3_code 14 = .ok (.getstatic 17, 3) := by decide +kernel
theorem d4_17 : decode prog_19_method_3_code 17 = .ok (.if_acmp .ne 16, 3) := by decide +kernel
theorem d4_20 : decode prog_19_method_3_code 20 = .ok (.aload_n 0, 1) := by decide +kernel
theorem d4_21 : decode prog_19_method_3_code 21 = .ok (.getfield 13, 3) := by decide +kernel
theorem d4_24 : decode prog_19_method_3_code 24 = .ok (.lconst 0, 1) := by decide +kernel
theorem d4_25 : decode prog_19_method_3_code 25 = .ok (.lcmp, 1) := by decide +kernel
theorem d4_26 : decode prog_19_method_3_code 26 = .ok (.ifCond .ne 7, 3) := by decide +kernel
def QrmEL1 (Z : State) (a : Addr) (q : Int64) (aNONE : Addr) (aLENGTH : Addr) (h0 : Heap) (n0 : Nat) (v : Option Value) (h : Heap) (L : List Loc) : Prop := v = some (.int (1 : Int32)) ∧ Fr n0 L ∧ h = h0
set_option maxRecDepth 65536 in
set_option maxHeartbeats 40000000 in
theorem rmEL1 (l : Launch) (Z : State) (a0 : Array Value) (hw : ∀ d ∈ tables_1, d.before a0 Z = true) (ws : List Jvm.Cond) (a : Addr) (q : Int64) (aNONE : Addr) (aLENGTH : Addr) (h0 : Heap) (n0 : Nat) (O0 : Old Z n0 h0) (Fb : Fld Z h0 a "com/example/waxwing/waxwing/http/MessageReader$Framing" "body" "Lcom/example/waxwing/waxwing/http/MessageReader$Body;" (.ref aLENGTH)) (Fl : Fld Z h0 a "com/example/waxwing/waxwing/http/MessageReader$Framing" "length" "J" (.long q)) (S_NONE : Sta Z Z.heap "com/example/waxwing/waxwing/http/MessageReader$Body" "NONE" "Lcom/example/waxwing/waxwing/http/MessageReader$Body;" (.ref aNONE)) (S_LENGTH : Sta Z Z.heap "com/example/waxwing/waxwing/http/MessageReader$Body" "LENGTH" "Lcom/example/waxwing/waxwing/http/MessageReader$Body;" (.ref aLENGTH)) (hNL : ¬ (aLENGTH = aNONE)) (hz : (lcmpW q (0 : Int64)) = (0 : Int32)) :
    MetFree l (⟨"com/example/waxwing/waxwing/http/MessageReader$Framing", "empty", "()Z"⟩ : MethodName) (head1 (Jvm.Cond.code (⟨"com/example/waxwing/waxwing/http/MessageReader$Framing", "empty", "()Z"⟩ : MethodName) prog_19_method_3_code 1 (some .boolean) :: ws) ({ frames := 0, cells := 0, slots := 0, locals := 0 } : Room)) (fun a_ U_ => a_ = #[(.ref a)] ∧ Z.Warmed39 U_.vm ∧ U_.heap = h0) (fun _ _ _ _ _ => True) (fun _ U_ o_ U'_ => ∃ v_ L_, o_ = .returned v_ ∧ QrmEL1 Z a q aNONE aLENGTH h0 n0 v_ U'_.heap L_ ∧ FrameEnd U_ o_ U'_ L_ ({ frames := 0, cells := 0, slots := 0, locals := 0 } : Room).cells ({ frames := 0, cells := 0, slots := 0, locals := 0 } : Room).slots) := by
  refine MetFree.of_bodySF (plainFor_of_name pn_15) hisR ?_
  intro pg ee s mm args below meth cc s₁ Bd hml0 hP hK
  obtain ⟨rfl, hZ, hh⟩ := hP
  have hx := Bd.exec
  have hby := Bd.bytes
  have hml : cc.maxLocals = 1 := hml0
  have hown : s.vm.findClass "com/example/waxwing/waxwing/http/MessageReader$Framing" = some mm.cls := findClass_of_methodNamed Bd.named
  have hnm := (name_of_methodNamed Bd.named Bd.method).1
  have X0 : Stand pg l ee ({ frames := 0, cells := 0, slots := 0, locals := 0 } : Room) s mm #[(.ref a)] below meth cc s₁ [] 0 0 := Stand.of_body Bd
  have e0 : s₁.heap = h0 := by rw [← hh, Bd.state]; rfl
  have N0 := Fr.nil n0
  have K0 : Keep h0 h0 ([] : List Addr) := Keep.refl _ _
  have pre0 : ∀ t, Steps pg.tables ee below (s₁.setTop (mkF mm 0 #[.val (.ref a)] [])) t → Steps pg.tables ee below (s₁.setTop (entryFrame mm #[(.ref a)] 1)) t := fun t k => castTop (ef_4_24 mm a) k
  obtain ⟨T1, X1, e1, st1⟩ := getF X0 hx hZ hown (host := "") (Or.inl (hw _ (List.mem_of_getElem? (i := 17) rfl))) Via.refl e0 Fb (g := (mkF mm 1 #[.val (.ref a)] [(.ref a)])) rfl rfl (hb hby d4_1)
  obtain ⟨T2, X2, e2, st2⟩ := getS2 X1 hx hZ hown (host := "") (Or.inl (hw _ (List.mem_of_getElem? (i := 26) rfl))) Via.refl e1 (S_NONE.ext O0.2) (g := (mkF mm 4 #[.val (.ref a)] [(.ref aLENGTH)])) rfl (hb hby d4_4)
  obtain ⟨T3, X3, e3, st3⟩ := getF X2 hx hZ hown (host := "") (Or.inl (hw _ (List.mem_of_getElem? (i := 17) rfl))) Via.refl e2 Fb (g := (mkF mm 11 #[.val (.ref a)] [(.ref a)])) rfl rfl (hb hby d4_11)
  obtain ⟨T4, X4, e4, st4⟩ := getS2 X3 hx hZ hown (host := "") (Or.inl (hw _ (List.mem_of_getElem? (i := 29) rfl))) Via.refl e3 (S_LENGTH.ext O0.2) (g := (mkF mm 14 #[.val (.ref a)] [(.ref aLENGTH)])) rfl (hb hby d4_14)
  obtain ⟨T5, X5, e5, st5⟩ := getF X4 hx hZ hown (host := "") (Or.inl (hw _ (List.mem_of_getElem? (i := 19) rfl))) Via.refl e4 Fl (g := (mkF mm 21 #[.val (.ref a)] [(.ref a)])) rfl rfl (hb hby d4_21)
  obtain ⟨fs, hr, hrun, hended, hW, hsame⟩ := X5.leave (v := some (.int (1 : Int32))) (fun h => by rw [Bd.returns] at h; cases h)
  refine ⟨_, _, pre0 _ ?_, hrun, hended, _, _, rfl, ?_, ⟨_, rfl⟩, hW, hsame.mono (by decide) (by decide)⟩
  · show Steps pg.tables ee below (s₁.setTop (mkF mm 0 #[.val (.ref a)] [])) _
    refine XS.aloadN X0.here hx rfl (hb hby d4_0) rfl rfl ?_
    show Steps pg.tables ee below (s₁.setTop (mkF mm 1 #[.val (.ref a)] [(.ref a)])) _
    refine st1 _ ?_
    show Steps pg.tables ee below (T1.setTop (mkF mm 4 #[.val (.ref a)] [(.ref aLENGTH)])) _
    refine st2 _ ?_
    show Steps pg.tables ee below (T2.setTop (mkF mm 7 #[.val (.ref a)] [(.ref aNONE), (.ref aLENGTH)])) _
    refine Jvm.RoadKit.acmp (g := (mkF mm 7 #[.val (.ref a)] [(.ref aNONE), (.ref aLENGTH)])) X2 hx rfl rfl rfl (pc0 := 7) (pc' := 10) (same := false) rfl (hb hby d4_7) rfl (decide_eq_false fun q => hNL (Value.ref.inj q)) (by decide) (by decide) ?_
    show Steps pg.tables ee below (T2.setTop (mkF mm 10 #[.val (.ref a)] [])) _
    refine XS.aloadN X2.here hx rfl (hb hby d4_10) rfl rfl ?_
    show Steps pg.tables ee below (T2.setTop (mkF mm 11 #[.val (.ref a)] [(.ref a)])) _
    refine st3 _ ?_
    show Steps pg.tables ee below (T3.setTop (mkF mm 14 #[.val (.ref a)] [(.ref aLENGTH)])) _
    refine st4 _ ?_
    show Steps pg.tables ee below (T4.setTop (mkF mm 17 #[.val (.ref a)] [(.ref aLENGTH), (.ref aLENGTH)])) _
    refine Jvm.RoadKit.acmp (g := (mkF mm 17 #[.val (.ref a)] [(.ref aLENGTH), (.ref aLENGTH)])) X4 hx rfl rfl rfl (pc0 := 17) (pc' := 20) (same := true) rfl (hb hby d4_17) rfl (decide_eq_true rfl) (by decide) (by decide) ?_
    show Steps pg.tables ee below (T4.setTop (mkF mm 20 #[.val (.ref a)] [])) _
    refine XS.aloadN X4.here hx rfl (hb hby d4_20) rfl rfl ?_
    show Steps pg.tables ee below (T4.setTop (mkF mm 21 #[.val (.ref a)] [(.ref a)])) _
    refine st5 _ ?_
    show Steps pg.tables ee below (T5.setTop (mkF mm 24 #[.val (.ref a)] [(.long q)])) _
    refine XS.lconst X5.here hx rfl (hb hby d4_24) ?_
    show Steps pg.tables ee below (T5.setTop (mkF mm 25 #[.val (.ref a)] [(.long (0 : Int64)), (.long q)])) _
    refine XS.lcmp X5.here hx rfl (hb hby d4_25) rfl ?_
    show Steps pg.tables ee below (T5.setTop (mkF mm 26 #[.val (.ref a)] [(.int (lcmpW q (0 : Int64)))])) _
    refine XS.ifNo X5.here hx rfl (hb hby d4_26) rfl ((if0 _ _).trans (teq hz).2) ?_
    show Steps pg.tables ee below (T5.setTop (mkF mm 29 #[.val (.ref a)] [])) _
    refine XS.iconst X5.here hx rfl (hb hby d4_29) ?_
    show Steps pg.tables ee below (T5.setTop (mkF mm 30 #[.val (.ref a)] [(.int (1 : Int32))])) _
    refine XS.goto X5.here hx rfl (pc0 := 30) (pc' := 34) rfl (hb hby d4_30) (by decide) (by decide) ?_
    show Steps pg.tables ee below (T5.setTop (mkF mm 34 #[.val (.ref a)] [(.int (1 : Int32))])) _
    exact retN X5 hx (t := .boolean) Bd.returns (by simp) (hb hby d4_34) hr
  · show QrmEL1 Z a q aNONE aLENGTH h0 n0 _ T5.heap _
    rw [e5]
    exact ⟨rfl, N0, rfl⟩
theorem d4_33 : decode prog_19_method_3_code 33 = .ok (.iconst 0, 1) := by decide +kernel
def QrmEL0 (Z : State) (a : Addr) (q : Int64) (aNONE : Addr) (aLENGTH : Addr) (h0 : Heap) (n0 : Nat) (v : Option Value) (h : Heap) (L : List Loc) : Prop := v = some (.int (0 : Int32)) ∧ Fr n0 L ∧ h = h0
set_option maxRecDepth 65536 in
set_option maxHeartbeats 40000000 in
theorem rmEL0 (l : Launch) (Z : State) (a0 : Array Value) (hw : ∀ d ∈ tables_1, d.before a0 Z = true) (ws : List Jvm.Cond) (a : Addr) (q : Int64) (aNONE : Addr) (aLENGTH : Addr) (h0 : Heap) (n0 : Nat) (O0 : Old Z n0 h0) (Fb : Fld Z h0 a "com/example/waxwing/waxwing/http/MessageReader$Framing" "body" "Lcom/example/waxwing/waxwing/http/MessageReader$Body;" (.ref aLENGTH)) (Fl : Fld Z h0 a "com/example/waxwing/waxwing/http/MessageReader$Framing" "length" "J" (.long q)) (S_NONE : Sta Z Z.heap "com/example/waxwing/waxwing/http/MessageReader$Body" "NONE" "Lcom/example/waxwing/waxwing/http/MessageReader$Body;" (.ref aNONE)) (S_LENGTH : Sta Z Z.heap "com/example/waxwing/waxwing/http/MessageReader$Body" "LENGTH" "Lcom/example/waxwing/waxwing/http/MessageReader$Body;" (.ref aLENGTH)) (hNL : ¬ (aLENGTH = aNONE)) (hz : ¬ ((lcmpW q (0 : Int64)) = (0 : Int32))) :
    MetFree l (⟨"com/example/waxwing/waxwing/http/MessageReader$Framing", "empty", "()Z"⟩ : MethodName) (head1 (Jvm.Cond.code (⟨"com/example/waxwing/waxwing/http/MessageReader$Framing", "empty", "()Z"⟩ : MethodName) prog_19_method_3_code 1 (some .boolean) :: ws) ({ frames := 0, cells := 0, slots := 0, locals := 0 } : Room)) (fun a_ U_ => a_ = #[(.ref a)] ∧ Z.Warmed39 U_.vm ∧ U_.heap = h0) (fun _ _ _ _ _ => True) (fun _ U_ o_ U'_ => ∃ v_ L_, o_ = .returned v_ ∧ QrmEL0 Z a q aNONE aLENGTH h0 n0 v_ U'_.heap L_ ∧ FrameEnd U_ o_ U'_ L_ ({ frames := 0, cells := 0, slots := 0, locals := 0 } : Room).cells ({ frames := 0, cells := 0, slots := 0, locals := 0 } : Room).slots) := by
  refine MetFree.of_bodySF (plainFor_of_name pn_15) hisR ?_
  intro pg ee s mm args below meth cc s₁ Bd hml0 hP hK
  obtain ⟨rfl, hZ, hh⟩ := hP
  have hx := Bd.exec
  have hby := Bd.bytes
  have hml : cc.maxLocals = 1 := hml0
  have hown : s.vm.findClass "com/example/waxwing/waxwing/http/MessageReader$Framing" = some mm.cls := findClass_of_methodNamed Bd.named
  have hnm := (name_of_methodNamed Bd.named Bd.method).1
  have X0 : Stand pg l ee ({ frames := 0, cells := 0, slots := 0, locals := 0 } : Room) s mm #[(.ref a)] below meth cc s₁ [] 0 0 := Stand.of_body Bd
  have e0 : s₁.heap = h0 := by rw [← hh, Bd.state]; rfl
  have N0 := Fr.nil n0
  have K0 : Keep h0 h0 ([] : List Addr) := Keep.refl _ _
  have pre0 : ∀ t, Steps pg.tables ee below (s₁.setTop (mkF mm 0 #[.val (.ref a)] [])) t → Steps pg.tables ee below (s₁.setTop (entryFrame mm #[(.ref a)] 1)) t := fun t k => castTop (ef_4_24 mm a) k
  obtain ⟨T1, X1, e1, st1⟩ := getF X0 hx hZ hown (host := "") (Or.inl (hw _ (List.mem_of_getElem? (i := 17) rfl))) Via.refl e0 Fb (g := (mkF mm 1 #[.val (.ref a)] [(.ref a)])) rfl rfl (hb hby d4_1)
  obtain ⟨T2, X2, e2, st2⟩ := getS2 X1 hx hZ hown (host := "") (Or.inl (hw _ (List.mem_of_getElem? (i := 26) rfl))) Via.refl e1 (S_NONE.ext O0.2) (g := (mkF mm 4 #[.val (.ref a)] [(.ref aLENGTH)])) rfl (hb hby d4_4)
  obtain ⟨T3, X3, e3, st3⟩ := getF X2 hx hZ hown (host := "") (Or.inl (hw _ (List.mem_of_getElem? (i := 17) rfl))) Via.refl e2 Fb (g := (mkF mm 11 #[.val (.ref a)] [(.ref a)])) rfl rfl (hb hby d4_11)
  obtain ⟨T4, X4, e4, st4⟩ := getS2 X3 hx hZ hown (host := "") (Or.inl (hw _ (List.mem_of_getElem? (i := 29) rfl))) Via.refl e3 (S_LENGTH.ext O0.2) (g := (mkF mm 14 #[.val (.ref a)] [(.ref aLENGTH)])) rfl (hb hby d4_14)
  obtain ⟨T5, X5, e5, st5⟩ := getF X4 hx hZ hown (host := "") (Or.inl (hw _ (List.mem_of_getElem? (i := 19) rfl))) Via.refl e4 Fl (g := (mkF mm 21 #[.val (.ref a)] [(.ref a)])) rfl rfl (hb hby d4_21)
  obtain ⟨fs, hr, hrun, hended, hW, hsame⟩ := X5.leave (v := some (.int (0 : Int32))) (fun h => by rw [Bd.returns] at h; cases h)
  refine ⟨_, _, pre0 _ ?_, hrun, hended, _, _, rfl, ?_, ⟨_, rfl⟩, hW, hsame.mono (by decide) (by decide)⟩
  · show Steps pg.tables ee below (s₁.setTop (mkF mm 0 #[.val (.ref a)] [])) _
    refine XS.aloadN X0.here hx rfl (hb hby d4_0) rfl rfl ?_
    show Steps pg.tables ee below (s₁.setTop (mkF mm 1 #[.val (.ref a)] [(.ref a)])) _
    refine st1 _ ?_
    show Steps pg.tables ee below (T1.setTop (mkF mm 4 #[.val (.ref a)] [(.ref aLENGTH)])) _
    refine st2 _ ?_
    show Steps pg.tables ee below (T2.setTop (mkF mm 7 #[.val (.ref a)] [(.ref aNONE), (.ref aLENGTH)])) _
    refine Jvm.RoadKit.acmp (g := (mkF mm 7 #[.val (.ref a)] [(.ref aNONE), (.ref aLENGTH)])) X2 hx rfl rfl rfl (pc0 := 7) (pc' := 10) (same := false) rfl (hb hby d4_7) rfl (decide_eq_false fun q => hNL (Value.ref.inj q)) (by decide) (by decide) ?_
    show Steps pg.tables ee below (T2.setTop (mkF mm 10 #[.val (.ref a)] [])) _
    refine XS.aloadN X2.here hx rfl (hb hby d4_10) rfl rfl ?_
    show Steps pg.tables ee below (T2.setTop (mkF mm 11 #[.val (.ref a)] [(.ref a)])) _
    refine st3 _ ?_
    show Steps pg.tables ee below (T3.setTop (mkF mm 14 #[.val (.ref a)] [(.ref aLENGTH)])) _
    refine st4 _ ?_
    show Steps pg.tables ee below (T4.setTop (mkF mm 17 #[.val (.ref a)] [(.ref aLENGTH), (.ref aLENGTH)])) _
    refine Jvm.RoadKit.acmp (g := (mkF mm 17 #[.val (.ref a)] [(.ref aLENGTH), (.ref aLENGTH)])) X4 hx rfl rfl rfl (pc0 := 17) (pc' := 20) (same := true) rfl (hb hby d4_17) rfl (decide_eq_true rfl) (by decide) (by decide) ?_
    show Steps pg.tables ee below (T4.setTop (mkF mm 20 #[.val (.ref a)] [])) _
    refine XS.aloadN X4.here hx rfl (hb hby d4_20) rfl rfl ?_
    show Steps pg.tables ee below (T4.setTop (mkF mm 21 #[.val (.ref a)] [(.ref a)])) _
    refine st5 _ ?_
    show Steps pg.tables ee below (T5.setTop (mkF mm 24 #[.val (.ref a)] [(.long q)])) _
    refine XS.lconst X5.here hx rfl (hb hby d4_24) ?_
    show Steps pg.tables ee below (T5.setTop (mkF mm 25 #[.val (.ref a)] [(.long (0 : Int64)), (.long q)])) _
    refine XS.lcmp X5.here hx rfl (hb hby d4_25) rfl ?_
    show Steps pg.tables ee below (T5.setTop (mkF mm 26 #[.val (.ref a)] [(.int (lcmpW q (0 : Int64)))])) _
    refine XS.ifYes X5.here hx rfl (pc0 := 26) (pc' := 33) rfl (hb hby d4_26) rfl ((if0 _ _).trans (feq hz).2) (by decide) (by decide) ?_
    show Steps pg.tables ee below (T5.setTop (mkF mm 33 #[.val (.ref a)] [])) _
    refine XS.iconst X5.here hx rfl (hb hby d4_33) ?_
    show Steps pg.tables ee below (T5.setTop (mkF mm 34 #[.val (.ref a)] [(.int (0 : Int32))])) _
    exact retN X5 hx (t := .boolean) Bd.returns (by simp) (hb hby d4_34) hr
  · show QrmEL0 Z a q aNONE aLENGTH h0 n0 _ T5.heap _
    rw [e5]
    exact ⟨rfl, N0, rfl⟩
def QrmEO (Z : State) (a : Addr) (x : Addr) (q : Int64) (aNONE : Addr) (aLENGTH : Addr) (h0 : Heap) (n0 : Nat) (v : Option Value) (h : Heap) (L : List Loc) : Prop := v = some (.int (0 : Int32)) ∧ Fr n0 L ∧ h = h0
set_option maxRecDepth 65536 in
set_option maxHeartbeats 40000000 in
theorem rmEO (l : Launch) (Z : State) (a0 : Array Value) (hw : ∀ d ∈ tables_1, d.before a0 Z = true) (ws : List Jvm.Cond) (a : Addr) (x : Addr) (q : Int64) (aNONE : Addr) (aLENGTH : Addr) (h0 : Heap) (n0 : Nat) (O0 : Old Z n0 h0) (Fb : Fld Z h0 a "com/example/waxwing/waxwing/http/MessageReader$Framing" "body" "Lcom/example/waxwing/waxwing/http/MessageReader$Body;" (.ref x)) (Fl : Fld Z h0 a "com/example/waxwing/waxwing/http/MessageReader$Framing" "length" "J" (.long q)) (S_NONE : Sta Z Z.heap "com/example/waxwing/waxwing/http/MessageReader$Body" "NONE" "Lcom/example/waxwing/waxwing/http/MessageReader$Body;" (.ref aNONE)) (S_LENGTH : Sta Z Z.heap "com/example/waxwing/waxwing/http/MessageReader$Body" "LENGTH" "Lcom/example/waxwing/waxwing/http/MessageReader$Body;" (.ref aLENGTH)) (h1 : ¬ (x = aNONE)) (h2 : ¬ (x = aLENGTH)) :
    MetFree l (⟨"com/example/waxwing/waxwing/http/MessageReader$Framing", "empty", "()Z"⟩ : MethodName) (head1 (Jvm.Cond.code (⟨"com/example/waxwing/waxwing/http/MessageReader$Framing", "empty", "()Z"⟩ : MethodName) prog_19_method_3_code 1 (some .boolean) :: ws) ({ frames := 0, cells := 0, slots := 0, locals := 0 } : Room)) (fun a_ U_ => a_ = #[(.ref a)] ∧ Z.Warmed39 U_.vm ∧ U_.heap = h0) (fun _ _ _ _ _ => True) (fun _ U_ o_ U'_ => ∃ v_ L_, o_ = .returned v_ ∧ QrmEO Z a x q aNONE aLENGTH h0 n0 v_ U'_.heap L_ ∧ FrameEnd U_ o_ U'_ L_ ({ frames := 0, cells := 0, slots := 0, locals := 0 } : Room).cells ({ frames := 0, cells := 0, slots := 0, locals := 0 } : Room).slots) := by
  refine MetFree.of_bodySF (plainFor_of_name pn_15) hisR ?_
  intro pg ee s mm args below meth cc s₁ Bd hml0 hP hK
  obtain ⟨rfl, hZ, hh⟩ := hP
  have hx := Bd.exec
  have hby := Bd.bytes
  have hml : cc.maxLocals = 1 := hml0
  have hown : s.vm.findClass "com/example/waxwing/waxwing/http/MessageReader$Framing" = some mm.cls := findClass_of_methodNamed Bd.named
  have hnm := (name_of_methodNamed Bd.named Bd.method).1
  have X0 : Stand pg l ee ({ frames := 0, cells := 0, slots := 0, locals := 0 } : Room) s mm #[(.ref a)] below meth cc s₁ [] 0 0 := Stand.of_body Bd
  have e0 : s₁.heap = h0 := by rw [← hh, Bd.state]; rfl
  have N0 := Fr.nil n0
  have K0 : Keep h0 h0 ([] : List Addr) := Keep.refl _ _
  have pre0 : ∀ t, Steps pg.tables ee below (s₁.setTop (mkF mm 0 #[.val (.ref a)] [])) t → Steps pg.tables ee below (s₁.setTop (entryFrame mm #[(.ref a)] 1)) t := fun t k => castTop (ef_4_24 mm a) k
  obtain ⟨T1, X1, e1, st1⟩ := getF X0 hx hZ hown (host := "") (Or.inl (hw _ (List.mem_of_getElem? (i := 17) rfl))) Via.refl e0 Fb (g := (mkF mm 1 #[.val (.ref a)] [(.ref a)])) rfl rfl (hb hby d4_1)
  obtain ⟨T2, X2, e2, st2⟩ := getS2 X1 hx hZ hown (host := "") (Or.inl (hw _ (List.mem_of_getElem? (i := 26) rfl))) Via.refl e1 (S_NONE.ext O0.2) (g := (mkF mm 4 #[.val (.ref a)] [(.ref x)])) rfl (hb hby d4_4)
  obtain ⟨T3, X3, e3, st3⟩ := getF X2 hx hZ hown (host := "") (Or.inl (hw _ (List.mem_of_getElem? (i := 17) rfl))) Via.refl e2 Fb (g := (mkF mm 11 #[.val (.ref a)] [(.ref a)])) rfl rfl (hb hby d4_11)
  obtain ⟨T4, X4, e4, st4⟩ := getS2 X3 hx hZ hown (host := "") (Or.inl (hw _ (List.mem_of_getElem? (i := 29) rfl))) Via.refl e3 (S_LENGTH.ext O0.2) (g := (mkF mm 14 #[.val (.ref a)] [(.ref x)])) rfl (hb hby d4_14)
  obtain ⟨fs, hr, hrun, hended, hW, hsame⟩ := X4.leave (v := some (.int (0 : Int32))) (fun h => by rw [Bd.returns] at h; cases h)
  refine ⟨_, _, pre0 _ ?_, hrun, hended, _, _, rfl, ?_, ⟨_, rfl⟩, hW, hsame.mono (by decide) (by decide)⟩
  · show Steps pg.tables ee below (s₁.setTop (mkF mm 0 #[.val (.ref a)] [])) _
    refine XS.aloadN X0.here hx rfl (hb hby d4_0) rfl rfl ?_
    show Steps pg.tables ee below (s₁.setTop (mkF mm 1 #[.val (.ref a)] [(.ref a)])) _
    refine st1 _ ?_
    show Steps pg.tables ee below (T1.setTop (mkF mm 4 #[.val (.ref a)] [(.ref x)])) _
    refine st2 _ ?_
    show Steps pg.tables ee below (T2.setTop (mkF mm 7 #[.val (.ref a)] [(.ref aNONE), (.ref x)])) _
    refine Jvm.RoadKit.acmp (g := (mkF mm 7 #[.val (.ref a)] [(.ref aNONE), (.ref x)])) X2 hx rfl rfl rfl (pc0 := 7) (pc' := 10) (same := false) rfl (hb hby d4_7) rfl (decide_eq_false fun q => h1 (Value.ref.inj q)) (by decide) (by decide) ?_
    show Steps pg.tables ee below (T2.setTop (mkF mm 10 #[.val (.ref a)] [])) _
    refine XS.aloadN X2.here hx rfl (hb hby d4_10) rfl rfl ?_
    show Steps pg.tables ee below (T2.setTop (mkF mm 11 #[.val (.ref a)] [(.ref a)])) _
    refine st3 _ ?_
    show Steps pg.tables ee below (T3.setTop (mkF mm 14 #[.val (.ref a)] [(.ref x)])) _
    refine st4 _ ?_
    show Steps pg.tables ee below (T4.setTop (mkF mm 17 #[.val (.ref a)] [(.ref aLENGTH), (.ref x)])) _
    refine Jvm.RoadKit.acmp (g := (mkF mm 17 #[.val (.ref a)] [(.ref aLENGTH), (.ref x)])) X4 hx rfl rfl rfl (pc0 := 17) (pc' := 33) (same := false) rfl (hb hby d4_17) rfl (decide_eq_false fun q => h2 (Value.ref.inj q)) (by decide) (by decide) ?_
    show Steps pg.tables ee below (T4.setTop (mkF mm 33 #[.val (.ref a)] [])) _
    refine XS.iconst X4.here hx rfl (hb hby d4_33) ?_
    show Steps pg.tables ee below (T4.setTop (mkF mm 34 #[.val (.ref a)] [(.int (0 : Int32))])) _
    exact retN X4 hx (t := .boolean) Bd.returns (by simp) (hb hby d4_34) hr
  · show QrmEO Z a x q aNONE aLENGTH h0 n0 _ T4.heap _
    rw [e4]
    exact ⟨rfl, N0, rfl⟩
theorem pd_35 : parseMethodDescriptor "(Lcom/example/waxwing/waxwing/http/MessageReader$Body;J)V" = some ⟨[(.object "com/example/waxwing/waxwing/http/MessageReader$Body"), .long], none⟩ := by decide +kernel
theorem pd_36 : parseMethodDescriptor "()Z" = some ⟨[], some .boolean⟩ := by decide +kernel
theorem pn_37 : plainName "com/example/waxwing/waxwing/http/FramingEmptyPinLaw" = true := by first | (simp [plainName, overriddenIn]; done) | decide +kernel
theorem ef_0_38 (m : MethodId) (x0 : Int32) (x1 : Int64) : entryFrame m #[(.int x0), (.long x1)] maxLocals = mkF m 0 #[.val (.int x0), .val (.long x1), .second, .unset, .unset, .unset, .unset] [] := by first | (simp [entryFrame, mkF, argsToLocals, Value.category, maxLocals]; done) | rfl
def Qrm0 (Z : State) (p0 : Int32) (q0 : Int64) (aNONE : Addr) (aLENGTH : Addr) (aCHUNKED : Addr) (aUNTIL_CLOSE : Addr) (h0 : Heap) (n0 : Nat) (v : Option Value) (h : Heap) (L : List Loc) : Prop := v = some (.int (1 : Int32)) ∧ Fr n0 L
set_option maxRecDepth 65536 in
set_option maxHeartbeats 40000000 in
theorem rm0 (l : Launch) (Z : State) (a0 : Array Value) (hw : ∀ d ∈ tables_1, d.before a0 Z = true) (ws : List Jvm.Cond) (p0 : Int32) (q0 : Int64) (aNONE : Addr) (aLENGTH : Addr) (aCHUNKED : Addr) (aUNTIL_CLOSE : Addr) (h0 : Heap) (n0 : Nat) (O0 : Old Z n0 h0) (S_NONE : Sta Z Z.heap "com/example/waxwing/waxwing/http/MessageReader$Body" "NONE" "Lcom/example/waxwing/waxwing/http/MessageReader$Body;" (.ref aNONE)) (S_LENGTH : Sta Z Z.heap "com/example/waxwing/waxwing/http/MessageReader$Body" "LENGTH" "Lcom/example/waxwing/waxwing/http/MessageReader$Body;" (.ref aLENGTH)) (S_CHUNKED : Sta Z Z.heap "com/example/waxwing/waxwing/http/MessageReader$Body" "CHUNKED" "Lcom/example/waxwing/waxwing/http/MessageReader$Body;" (.ref aCHUNKED)) (S_UNTIL_CLOSE : Sta Z Z.heap "com/example/waxwing/waxwing/http/MessageReader$Body" "UNTIL_CLOSE" "Lcom/example/waxwing/waxwing/http/MessageReader$Body;" (.ref aUNTIL_CLOSE)) (E_NONE : Exa Z Z.heap aNONE "com/example/waxwing/waxwing/http/MessageReader$Body") (E_LENGTH : Exa Z Z.heap aLENGTH "com/example/waxwing/waxwing/http/MessageReader$Body") (E_CHUNKED : Exa Z Z.heap aCHUNKED "com/example/waxwing/waxwing/http/MessageReader$Body") (E_UNTIL_CLOSE : Exa Z Z.heap aUNTIL_CLOSE "com/example/waxwing/waxwing/http/MessageReader$Body") (hNL : ¬ (aLENGTH = aNONE)) (h1_CHUNKED : ¬ (aCHUNKED = aNONE)) (h2_CHUNKED : ¬ (aCHUNKED = aLENGTH)) (h1_UNTIL_CLOSE : ¬ (aUNTIL_CLOSE = aNONE)) (h2_UNTIL_CLOSE : ¬ (aUNTIL_CLOSE = aLENGTH)) :
    MetFree l x (head1 (Jvm.Cond.code x code maxLocals ret :: ws) room_1) (fun a_ U_ => a_ = #[(.int p0), (.long q0)] ∧ Z.Warmed39 U_.vm ∧ U_.heap = h0) (fun _ _ _ _ _ => True) (fun _ U_ o_ U'_ => ∃ v_ L_, o_ = .returned v_ ∧ Qrm0 Z p0 q0 aNONE aLENGTH aCHUNKED aUNTIL_CLOSE h0 n0 v_ U'_.heap L_ ∧ FrameEnd U_ o_ U'_ L_ 1 2) := by
  refine MetFree.of_bodySF (plainFor_of_name pn_37) hisR ?_
  intro pg ee s mm args below meth cc s₁ Bd hml0 hP hK
  obtain ⟨rfl, hZ, hh⟩ := hP
  have hx := Bd.exec
  have hby := Bd.bytes
  have hml : cc.maxLocals = 7 := hml0
  have hown : s.vm.findClass "com/example/waxwing/waxwing/http/FramingEmptyPinLaw" = some mm.cls := findClass_of_methodNamed Bd.named
  have hnm := (name_of_methodNamed Bd.named Bd.method).1
  have X0 : Stand pg l ee room_1 s mm #[(.int p0), (.long q0)] below meth cc s₁ [] 0 0 := Stand.of_body Bd
  have e0 : s₁.heap = h0 := by rw [← hh, Bd.state]; rfl
  have N0 := Fr.nil n0
  have K0 : Keep h0 h0 ([] : List Addr) := Keep.refl _ _
  have pre0 : ∀ t, Steps pg.tables ee below (s₁.setTop (mkF mm 0 #[.val (.int p0), .val (.long q0), .second, .unset, .unset, .unset, .unset] [])) t → Steps pg.tables ee below (s₁.setTop (entryFrame mm #[(.int p0), (.long q0)] maxLocals)) t := fun t k => castTop (ef_0_38 mm p0 q0) k
  have pre1 : ∀ t, Steps pg.tables ee below (s₁.setTop (mkF mm 5 #[.val (.int p0), .val (.long q0), .second, .val (.int (p0 &&& (3 : Int32))), .unset, .unset, .unset] [(.int (p0 &&& (3 : Int32)))])) t → Steps pg.tables ee below (s₁.setTop (entryFrame mm #[(.int p0), (.long q0)] maxLocals)) t := fun t k => pre0 t (by
      show Steps pg.tables ee below (s₁.setTop (mkF mm 0 #[.val (.int p0), .val (.long q0), .second, .unset, .unset, .unset, .unset] [])) _
      refine XS.iloadN X0.here hx rfl (hb hby at_0) rfl ?_
      show Steps pg.tables ee below (s₁.setTop (mkF mm 1 #[.val (.int p0), .val (.long q0), .second, .unset, .unset, .unset, .unset] [(.int p0)])) _
      refine XS.iconst X0.here hx rfl (hb hby at_1) ?_
      show Steps pg.tables ee below (s₁.setTop (mkF mm 2 #[.val (.int p0), .val (.long q0), .second, .unset, .unset, .unset, .unset] [(.int (3 : Int32)), (.int p0)])) _
      refine XS.iand X0.here hx rfl (hb hby at_2) rfl ?_
      show Steps pg.tables ee below (s₁.setTop (mkF mm 3 #[.val (.int p0), .val (.long q0), .second, .unset, .unset, .unset, .unset] [(.int (p0 &&& (3 : Int32)))])) _
      refine XS.istoreN X0.here hx rfl (hb hby at_3) rfl (l' := #[.val (.int p0), .val (.long q0), .second, .val (.int (p0 &&& (3 : Int32))), .unset, .unset, .unset]) rfl ?_
      show Steps pg.tables ee below (s₁.setTop (mkF mm 4 #[.val (.int p0), .val (.long q0), .second, .val (.int (p0 &&& (3 : Int32))), .unset, .unset, .unset] [])) _
      refine XS.iloadN X0.here hx rfl (hb hby at_4) rfl ?_
      exact k)
  by_cases hc2 : (p0 &&& (3 : Int32)) = (0 : Int32)
  · obtain ⟨T3, X3, e3, st3⟩ := getS2 X0 hx hZ hown (host := "") (Or.inl (hw _ (List.mem_of_getElem? (i := 0) rfl))) Via.refl e0 (S_NONE.ext O0.2) (g := (mkF mm 8 #[.val (.int p0), .val (.long q0), .second, .val (.int (p0 &&& (3 : Int32))), .unset, .unset, .unset] [])) rfl (hb hby at_8)
    obtain ⟨T4, h4, X4, e4, E4, A4, D4, -, st4⟩ := newO X3 hx hZ hown (hw _ (List.mem_of_getElem? (i := 3) rfl)) (hw _ (List.mem_of_getElem? (i := 4) rfl)) (hw _ (List.mem_of_getElem? (i := 5) rfl)) e3 (g := (mkF mm 47 #[.val (.int p0), .val (.long q0), .second, .val (.int (p0 &&& (3 : Int32))), .val (.ref aNONE), .unset, .unset] [])) rfl (hb hby at_47) (by decide) (by decide)
    obtain ⟨b4, g4⟩ : ∃ z, z = h0.size := ⟨_, rfl⟩
    rw [← g4] at A4 D4 st4
    have g_b4 : n0 ≤ b4 := Nat.le_trans (O0.1 ▸ O0.2.1) (Nat.le_of_eq g4.symm)
    have sz_b4 : h0.size ≤ b4 := Nat.le_trans K0.1 (Nat.le_of_eq g4.symm)
    have O4 := O0.ext E4
    have KK4 := K0.ext E4
    have F_body_b4 : Fld Z h4 b4 "com/example/waxwing/waxwing/http/MessageReader$Framing" "body" "Lcom/example/waxwing/waxwing/http/MessageReader$Body;" .null := D4 (Or.inr (hw _ (List.mem_of_getElem? (i := 18) rfl))) (ty := (.object "com/example/waxwing/waxwing/http/MessageReader$Body")) (by decide)
    have F_length_b4 : Fld Z h4 b4 "com/example/waxwing/waxwing/http/MessageReader$Framing" "length" "J" (.long (0 : Int64)) := D4 (Or.inr (hw _ (List.mem_of_getElem? (i := 20) rfl))) (ty := .long) (by decide)
    obtain ⟨_, _, ⟨T5, L5, k5, n5⟩, -, X5, ⟨Lc5, hQ5, l5, y5, z5⟩, st5⟩ := X4.specialBack hx (y := (⟨"com/example/waxwing/waxwing/http/MessageReader$Framing", "<init>", "(Lcom/example/waxwing/waxwing/http/MessageReader$Body;J)V"⟩ : MethodName)) rfl hown (mvT hZ (hw _ (List.mem_of_getElem? (i := 6) rfl))) (mvT hZ (hw _ (List.mem_of_getElem? (i := 7) rfl))) (mvT hZ (hw _ (List.mem_of_getElem? (i := 8) rfl))) (by decide) (backOf (W := 1) (rmI l Z a0 hw [] b4 aNONE q0 h4 n0 O4 A4 F_body_b4 F_length_b4 g_b4 ) hZ (hw _ (List.mem_of_getElem? (i := 8) rfl)) (hw _ (List.mem_of_getElem? (i := 5) rfl)) (by decide) (by decide)) (g := (mkF mm 54 #[.val (.int p0), .val (.long q0), .second, .val (.int (p0 &&& (3 : Int32))), .val (.ref aNONE), .unset, .unset] [(.long q0), (.ref aNONE), (.ref b4), (.ref b4)])) rfl (by rw [hml]; rfl) (Steps.refl _) (a := b4) (argsL := [(.ref aNONE), (.long q0)]) (rest := [(.ref b4)]) (lenOf pd_35 rfl) rfl (by show 2 * 0 + _ ≤ _; exact Nat.le_of_eq rfl) (hb hby at_54) (fun _ _ => ⟨rfl, e4, (by decide : 1 + 0 ≤ _), (by decide : 2 + 0 ≤ _)⟩)
    dsimp only [Pt.U, Pt.locs, Pt.cells, Pt.slots] at X5 l5 y5 z5 st5 hQ5
    subst l5 y5 z5
    obtain ⟨rfl, N5q, K5, Ex5, Fv0_5, Fv1_5⟩ := hQ5
    have O5 := O4.keep K5 (allS g_b4 all0)
    have KK5 := KK4.trans K5 (allS (Or.inr sz_b4) all0)
    have N5 := Fr.app N0 N5q
    obtain ⟨cq6, kq6, q6a, q6b, q6c⟩ := isOf hZ rfl Ex5
    obtain ⟨_, _, ⟨T6, L6, k6, n6⟩, -, X6, ⟨Lc6, hQ6, l6, y6, z6⟩, st6⟩ := X5.virtualBack hx (y := (⟨"com/example/waxwing/waxwing/http/MessageReader$Framing", "empty", "()Z"⟩ : MethodName)) (z := (⟨"com/example/waxwing/waxwing/http/MessageReader$Framing", "empty", "()Z"⟩ : MethodName)) hown (mvT hZ (hw _ (List.mem_of_getElem? (i := 21) rfl))) (mvT hZ (hw _ (List.mem_of_getElem? (i := 22) rfl))) (notFace_of_selects (args := #[]) (mvT hZ (hw _ (List.mem_of_getElem? (i := 24) rfl)))) (mvT hZ (hw _ (List.mem_of_getElem? (i := 24) rfl))) (mvT hZ (hw _ (List.mem_of_getElem? (i := 23) rfl))) (by decide) (backOf (W := 0) (rmEN l Z a0 hw [] b4 q0 aNONE aLENGTH T5.heap n0 O5 Fv0_5 Fv1_5 S_NONE S_LENGTH) hZ (hw _ (List.mem_of_getElem? (i := 25) rfl)) (hw _ (List.mem_of_getElem? (i := 5) rfl)) (by decide) (by decide)) q6a q6c (g := (mkF mm 95 #[.val (.int p0), .val (.long q0), .second, .val (.int (p0 &&& (3 : Int32))), .val (.ref aNONE), .val (.ref b4), .val (.int (1 : Int32))] [(.ref b4)])) rfl (by rw [hml]; rfl) (Steps.refl _) (argsL := []) (rest := []) (lenOf pd_36 rfl) rfl (by show 2 * 0 + _ ≤ _; exact Nat.le_of_eq rfl) (hb hby at_95) (fun _ _ => ⟨rfl, rfl, (by decide : 1 + 0 ≤ _), (by decide : 2 + 0 ≤ _)⟩)
    dsimp only [Pt.U, Pt.locs, Pt.cells, Pt.slots] at X6 l6 y6 z6 st6 hQ6
    subst l6 y6 z6
    obtain ⟨rfl, N6q, e6⟩ := hQ6
    have N6 := Fr.app N5 N6q
    obtain ⟨fs, hr, hrun, hended, hW, hsame⟩ := X6.leave (v := some (.int (1 : Int32))) (fun h => by rw [Bd.returns] at h; cases h)
    refine ⟨_, _, pre1 _ ?_, hrun, hended, _, _, rfl, ?_, ⟨_, rfl⟩, hW, hsame.mono (by decide) (by decide)⟩
    · show Steps pg.tables ee below (s₁.setTop (mkF mm 5 #[.val (.int p0), .val (.long q0), .second, .val (.int (p0 &&& (3 : Int32))), .unset, .unset, .unset] [(.int (p0 &&& (3 : Int32)))])) _
      refine XS.ifNo X0.here hx rfl (hb hby at_5) rfl ((if0 _ _).trans (teq hc2).2) ?_
      show Steps pg.tables ee below (s₁.setTop (mkF mm 8 #[.val (.int p0), .val (.long q0), .second, .val (.int (p0 &&& (3 : Int32))), .unset, .unset, .unset] [])) _
      refine st3 _ ?_
      show Steps pg.tables ee below (T3.setTop (mkF mm 11 #[.val (.int p0), .val (.long q0), .second, .val (.int (p0 &&& (3 : Int32))), .unset, .unset, .unset] [(.ref aNONE)])) _
      refine XS.astore X3.here hx rfl (hb hby at_11) rfl rfl (l' := #[.val (.int p0), .val (.long q0), .second, .val (.int (p0 &&& (3 : Int32))), .val (.ref aNONE), .unset, .unset]) rfl ?_
      show Steps pg.tables ee below (T3.setTop (mkF mm 13 #[.val (.int p0), .val (.long q0), .second, .val (.int (p0 &&& (3 : Int32))), .val (.ref aNONE), .unset, .unset] [])) _
      refine XS.goto X3.here hx rfl (pc0 := 13) (pc' := 47) rfl (hb hby at_13) (by decide) (by decide) ?_
      show Steps pg.tables ee below (T3.setTop (mkF mm 47 #[.val (.int p0), .val (.long q0), .second, .val (.int (p0 &&& (3 : Int32))), .val (.ref aNONE), .unset, .unset] [])) _
      refine st4 _ ?_
      show Steps pg.tables ee below (T4.setTop (mkF mm 50 #[.val (.int p0), .val (.long q0), .second, .val (.int (p0 &&& (3 : Int32))), .val (.ref aNONE), .unset, .unset] [(.ref b4)])) _
      refine XS.dup X4.here hx rfl (hb hby at_50) rfl rfl ?_
      show Steps pg.tables ee below (T4.setTop (mkF mm 51 #[.val (.int p0), .val (.long q0), .second, .val (.int (p0 &&& (3 : Int32))), .val (.ref aNONE), .unset, .unset] [(.ref b4), (.ref b4)])) _
      refine XS.aload X4.here hx rfl (hb hby at_51) rfl rfl ?_
      show Steps pg.tables ee below (T4.setTop (mkF mm 53 #[.val (.int p0), .val (.long q0), .second, .val (.int (p0 &&& (3 : Int32))), .val (.ref aNONE), .unset, .unset] [(.ref aNONE), (.ref b4), (.ref b4)])) _
      refine XS.lloadN X4.here hx rfl (hb hby at_53) rfl ?_
      show Steps pg.tables ee below (T4.setTop (mkF mm 54 #[.val (.int p0), .val (.long q0), .second, .val (.int (p0 &&& (3 : Int32))), .val (.ref aNONE), .unset, .unset] [(.long q0), (.ref aNONE), (.ref b4), (.ref b4)])) _
      refine st5.trans ?_
      show Steps pg.tables ee below (T5.setTop (mkF mm 57 #[.val (.int p0), .val (.long q0), .second, .val (.int (p0 &&& (3 : Int32))), .val (.ref aNONE), .unset, .unset] [(.ref b4)])) _
      refine XS.astore X5.here hx rfl (hb hby at_57) rfl rfl (l' := #[.val (.int p0), .val (.long q0), .second, .val (.int (p0 &&& (3 : Int32))), .val (.ref aNONE), .val (.ref b4), .unset]) rfl ?_
      show Steps pg.tables ee below (T5.setTop (mkF mm 59 #[.val (.int p0), .val (.long q0), .second, .val (.int (p0 &&& (3 : Int32))), .val (.ref aNONE), .val (.ref b4), .unset] [])) _
      refine XS.iloadN X5.here hx rfl (hb hby at_59) rfl ?_
      show Steps pg.tables ee below (T5.setTop (mkF mm 60 #[.val (.int p0), .val (.long q0), .second, .val (.int (p0 &&& (3 : Int32))), .val (.ref aNONE), .val (.ref b4), .unset] [(.int (p0 &&& (3 : Int32)))])) _
      refine XS.ifNo X5.here hx rfl (hb hby at_60) rfl ((if0 _ _).trans (teq hc2).2) ?_
      show Steps pg.tables ee below (T5.setTop (mkF mm 63 #[.val (.int p0), .val (.long q0), .second, .val (.int (p0 &&& (3 : Int32))), .val (.ref aNONE), .val (.ref b4), .unset] [])) _
      refine XS.iconst X5.here hx rfl (hb hby at_63) ?_
      show Steps pg.tables ee below (T5.setTop (mkF mm 64 #[.val (.int p0), .val (.long q0), .second, .val (.int (p0 &&& (3 : Int32))), .val (.ref aNONE), .val (.ref b4), .unset] [(.int (1 : Int32))])) _
      refine XS.istore X5.here hx rfl (hb hby at_64) rfl (l' := #[.val (.int p0), .val (.long q0), .second, .val (.int (p0 &&& (3 : Int32))), .val (.ref aNONE), .val (.ref b4), .val (.int (1 : Int32))]) rfl ?_
      show Steps pg.tables ee below (T5.setTop (mkF mm 66 #[.val (.int p0), .val (.long q0), .second, .val (.int (p0 &&& (3 : Int32))), .val (.ref aNONE), .val (.ref b4), .val (.int (1 : Int32))] [])) _
      refine XS.goto X5.here hx rfl (pc0 := 66) (pc' := 93) rfl (hb hby at_66) (by decide) (by decide) ?_
      show Steps pg.tables ee below (T5.setTop (mkF mm 93 #[.val (.int p0), .val (.long q0), .second, .val (.int (p0 &&& (3 : Int32))), .val (.ref aNONE), .val (.ref b4), .val (.int (1 : Int32))] [])) _
      refine XS.aload X5.here hx rfl (hb hby at_93) rfl rfl ?_
      show Steps pg.tables ee below (T5.setTop (mkF mm 95 #[.val (.int p0), .val (.long q0), .second, .val (.int (p0 &&& (3 : Int32))), .val (.ref aNONE), .val (.ref b4), .val (.int (1 : Int32))] [(.ref b4)])) _
      refine st6.trans ?_
      show Steps pg.tables ee below (T6.setTop (mkF mm 98 #[.val (.int p0), .val (.long q0), .second, .val (.int (p0 &&& (3 : Int32))), .val (.ref aNONE), .val (.ref b4), .val (.int (1 : Int32))] [(.int (1 : Int32))])) _
      refine XS.iload X6.here hx rfl (hb hby at_98) rfl ?_
      show Steps pg.tables ee below (T6.setTop (mkF mm 100 #[.val (.int p0), .val (.long q0), .second, .val (.int (p0 &&& (3 : Int32))), .val (.ref aNONE), .val (.ref b4), .val (.int (1 : Int32))] [(.int (1 : Int32)), (.int (1 : Int32))])) _
      refine XS.icmpNo X6.here hx rfl (hb hby at_100) rfl (teq (by decide : (1 : Int32) = (1 : Int32))).2 ?_
      show Steps pg.tables ee below (T6.setTop (mkF mm 103 #[.val (.int p0), .val (.long q0), .second, .val (.int (p0 &&& (3 : Int32))), .val (.ref aNONE), .val (.ref b4), .val (.int (1 : Int32))] [])) _
      refine XS.iconst X6.here hx rfl (hb hby at_103) ?_
      show Steps pg.tables ee below (T6.setTop (mkF mm 104 #[.val (.int p0), .val (.long q0), .second, .val (.int (p0 &&& (3 : Int32))), .val (.ref aNONE), .val (.ref b4), .val (.int (1 : Int32))] [(.int (1 : Int32))])) _
      refine XS.goto X6.here hx rfl (pc0 := 104) (pc' := 108) rfl (hb hby at_104) (by decide) (by decide) ?_
      show Steps pg.tables ee below (T6.setTop (mkF mm 108 #[.val (.int p0), .val (.long q0), .second, .val (.int (p0 &&& (3 : Int32))), .val (.ref aNONE), .val (.ref b4), .val (.int (1 : Int32))] [(.int (1 : Int32))])) _
      exact retN X6 hx (t := .boolean) Bd.returns (by simp) (hb hby at_108) hr
    · show Qrm0 Z p0 q0 aNONE aLENGTH aCHUNKED aUNTIL_CLOSE h0 n0 _ T6.heap _
      rw [e6]
      exact ⟨rfl, N6⟩
  · have pre7 : ∀ t, Steps pg.tables ee below (s₁.setTop (mkF mm 18 #[.val (.int p0), .val (.long q0), .second, .val (.int (p0 &&& (3 : Int32))), .unset, .unset, .unset] [(.int (1 : Int32)), (.int (p0 &&& (3 : Int32)))])) t → Steps pg.tables ee below (s₁.setTop (entryFrame mm #[(.int p0), (.long q0)] maxLocals)) t := fun t k => pre1 t (by
        show Steps pg.tables ee below (s₁.setTop (mkF mm 5 #[.val (.int p0), .val (.long q0), .second, .val (.int (p0 &&& (3 : Int32))), .unset, .unset, .unset] [(.int (p0 &&& (3 : Int32)))])) _
        refine XS.ifYes X0.here hx rfl (pc0 := 5) (pc' := 16) rfl (hb hby at_5) rfl ((if0 _ _).trans (feq hc2).2) (by decide) (by decide) ?_
        show Steps pg.tables ee below (s₁.setTop (mkF mm 16 #[.val (.int p0), .val (.long q0), .second, .val (.int (p0 &&& (3 : Int32))), .unset, .unset, .unset] [])) _
        refine XS.iloadN X0.here hx rfl (hb hby at_16) rfl ?_
        show Steps pg.tables ee below (s₁.setTop (mkF mm 17 #[.val (.int p0), .val (.long q0), .second, .val (.int (p0 &&& (3 : Int32))), .unset, .unset, .unset] [(.int (p0 &&& (3 : Int32)))])) _
        refine XS.iconst X0.here hx rfl (hb hby at_17) ?_
        exact k)
    by_cases hc8 : (p0 &&& (3 : Int32)) = (1 : Int32)
    · obtain ⟨T9, X9, e9, st9⟩ := getS2 X0 hx hZ hown (host := "") (Or.inl (hw _ (List.mem_of_getElem? (i := 27) rfl))) Via.refl e0 (S_LENGTH.ext O0.2) (g := (mkF mm 21 #[.val (.int p0), .val (.long q0), .second, .val (.int (p0 &&& (3 : Int32))), .unset, .unset, .unset] [])) rfl (hb hby at_21)
      obtain ⟨T10, h10, X10, e10, E10, A10, D10, -, st10⟩ := newO X9 hx hZ hown (hw _ (List.mem_of_getElem? (i := 3) rfl)) (hw _ (List.mem_of_getElem? (i := 4) rfl)) (hw _ (List.mem_of_getElem? (i := 5) rfl)) e9 (g := (mkF mm 47 #[.val (.int p0), .val (.long q0), .second, .val (.int (p0 &&& (3 : Int32))), .val (.ref aLENGTH), .unset, .unset] [])) rfl (hb hby at_47) (by decide) (by decide)
      obtain ⟨b10, g10⟩ : ∃ z, z = h0.size := ⟨_, rfl⟩
      rw [← g10] at A10 D10 st10
      have g_b10 : n0 ≤ b10 := Nat.le_trans (O0.1 ▸ O0.2.1) (Nat.le_of_eq g10.symm)
      have sz_b10 : h0.size ≤ b10 := Nat.le_trans K0.1 (Nat.le_of_eq g10.symm)
      have O10 := O0.ext E10
      have KK10 := K0.ext E10
      have F_body_b10 : Fld Z h10 b10 "com/example/waxwing/waxwing/http/MessageReader$Framing" "body" "Lcom/example/waxwing/waxwing/http/MessageReader$Body;" .null := D10 (Or.inr (hw _ (List.mem_of_getElem? (i := 18) rfl))) (ty := (.object "com/example/waxwing/waxwing/http/MessageReader$Body")) (by decide)
      have F_length_b10 : Fld Z h10 b10 "com/example/waxwing/waxwing/http/MessageReader$Framing" "length" "J" (.long (0 : Int64)) := D10 (Or.inr (hw _ (List.mem_of_getElem? (i := 20) rfl))) (ty := .long) (by decide)
      obtain ⟨_, _, ⟨T11, L11, k11, n11⟩, -, X11, ⟨Lc11, hQ11, l11, y11, z11⟩, st11⟩ := X10.specialBack hx (y := (⟨"com/example/waxwing/waxwing/http/MessageReader$Framing", "<init>", "(Lcom/example/waxwing/waxwing/http/MessageReader$Body;J)V"⟩ : MethodName)) rfl hown (mvT hZ (hw _ (List.mem_of_getElem? (i := 6) rfl))) (mvT hZ (hw _ (List.mem_of_getElem? (i := 7) rfl))) (mvT hZ (hw _ (List.mem_of_getElem? (i := 8) rfl))) (by decide) (backOf (W := 1) (rmI l Z a0 hw [] b10 aLENGTH q0 h10 n0 O10 A10 F_body_b10 F_length_b10 g_b10 ) hZ (hw _ (List.mem_of_getElem? (i := 8) rfl)) (hw _ (List.mem_of_getElem? (i := 5) rfl)) (by decide) (by decide)) (g := (mkF mm 54 #[.val (.int p0), .val (.long q0), .second, .val (.int (p0 &&& (3 : Int32))), .val (.ref aLENGTH), .unset, .unset] [(.long q0), (.ref aLENGTH), (.ref b10), (.ref b10)])) rfl (by rw [hml]; rfl) (Steps.refl _) (a := b10) (argsL := [(.ref aLENGTH), (.long q0)]) (rest := [(.ref b10)]) (lenOf pd_35 rfl) rfl (by show 2 * 0 + _ ≤ _; exact Nat.le_of_eq rfl) (hb hby at_54) (fun _ _ => ⟨rfl, e10, (by decide : 1 + 0 ≤ _), (by decide : 2 + 0 ≤ _)⟩)
      dsimp only [Pt.U, Pt.locs, Pt.cells, Pt.slots] at X11 l11 y11 z11 st11 hQ11
      subst l11 y11 z11
      obtain ⟨rfl, N11q, K11, Ex11, Fv0_11, Fv1_11⟩ := hQ11
      have O11 := O10.keep K11 (allS g_b10 all0)
      have KK11 := KK10.trans K11 (allS (Or.inr sz_b10) all0)
      have N11 := Fr.app N0 N11q
      have pre12 : ∀ t, Steps pg.tables ee below (T11.setTop (mkF mm 77 #[.val (.int p0), .val (.long q0), .second, .val (.int (p0 &&& (3 : Int32))), .val (.ref aLENGTH), .val (.ref b10), .unset] [(.int (lcmpW q0 (0 : Int64)))])) t → Steps pg.tables ee below (s₁.setTop (entryFrame mm #[(.int p0), (.long q0)] maxLocals)) t := fun t k => pre7 t (by
          show Steps pg.tables ee below (s₁.setTop (mkF mm 18 #[.val (.int p0), .val (.long q0), .second, .val (.int (p0 &&& (3 : Int32))), .unset, .unset, .unset] [(.int (1 : Int32)), (.int (p0 &&& (3 : Int32)))])) _
          refine XS.icmpNo X0.here hx rfl (hb hby at_18) rfl (teq hc8).2 ?_
          show Steps pg.tables ee below (s₁.setTop (mkF mm 21 #[.val (.int p0), .val (.long q0), .second, .val (.int (p0 &&& (3 : Int32))), .unset, .unset, .unset] [])) _
          refine st9 _ ?_
          show Steps pg.tables ee below (T9.setTop (mkF mm 24 #[.val (.int p0), .val (.long q0), .second, .val (.int (p0 &&& (3 : Int32))), .unset, .unset, .unset] [(.ref aLENGTH)])) _
          refine XS.astore X9.here hx rfl (hb hby at_24) rfl rfl (l' := #[.val (.int p0), .val (.long q0), .second, .val (.int (p0 &&& (3 : Int32))), .val (.ref aLENGTH), .unset, .unset]) rfl ?_
          show Steps pg.tables ee below (T9.setTop (mkF mm 26 #[.val (.int p0), .val (.long q0), .second, .val (.int (p0 &&& (3 : Int32))), .val (.ref aLENGTH), .unset, .unset] [])) _
          refine XS.goto X9.here hx rfl (pc0 := 26) (pc' := 47) rfl (hb hby at_26) (by decide) (by decide) ?_
          show Steps pg.tables ee below (T9.setTop (mkF mm 47 #[.val (.int p0), .val (.long q0), .second, .val (.int (p0 &&& (3 : Int32))), .val (.ref aLENGTH), .unset, .unset] [])) _
          refine st10 _ ?_
          show Steps pg.tables ee below (T10.setTop (mkF mm 50 #[.val (.int p0), .val (.long q0), .second, .val (.int (p0 &&& (3 : Int32))), .val (.ref aLENGTH), .unset, .unset] [(.ref b10)])) _
          refine XS.dup X10.here hx rfl (hb hby at_50) rfl rfl ?_
          show Steps pg.tables ee below (T10.setTop (mkF mm 51 #[.val (.int p0), .val (.long q0), .second, .val (.int (p0 &&& (3 : Int32))), .val (.ref aLENGTH), .unset, .unset] [(.ref b10), (.ref b10)])) _
          refine XS.aload X10.here hx rfl (hb hby at_51) rfl rfl ?_
          show Steps pg.tables ee below (T10.setTop (mkF mm 53 #[.val (.int p0), .val (.long q0), .second, .val (.int (p0 &&& (3 : Int32))), .val (.ref aLENGTH), .unset, .unset] [(.ref aLENGTH), (.ref b10), (.ref b10)])) _
          refine XS.lloadN X10.here hx rfl (hb hby at_53) rfl ?_
          show Steps pg.tables ee below (T10.setTop (mkF mm 54 #[.val (.int p0), .val (.long q0), .second, .val (.int (p0 &&& (3 : Int32))), .val (.ref aLENGTH), .unset, .unset] [(.long q0), (.ref aLENGTH), (.ref b10), (.ref b10)])) _
          refine st11.trans ?_
          show Steps pg.tables ee below (T11.setTop (mkF mm 57 #[.val (.int p0), .val (.long q0), .second, .val (.int (p0 &&& (3 : Int32))), .val (.ref aLENGTH), .unset, .unset] [(.ref b10)])) _
          refine XS.astore X11.here hx rfl (hb hby at_57) rfl rfl (l' := #[.val (.int p0), .val (.long q0), .second, .val (.int (p0 &&& (3 : Int32))), .val (.ref aLENGTH), .val (.ref b10), .unset]) rfl ?_
          show Steps pg.tables ee below (T11.setTop (mkF mm 59 #[.val (.int p0), .val (.long q0), .second, .val (.int (p0 &&& (3 : Int32))), .val (.ref aLENGTH), .val (.ref b10), .unset] [])) _
          refine XS.iloadN X11.here hx rfl (hb hby at_59) rfl ?_
          show Steps pg.tables ee below (T11.setTop (mkF mm 60 #[.val (.int p0), .val (.long q0), .second, .val (.int (p0 &&& (3 : Int32))), .val (.ref aLENGTH), .val (.ref b10), .unset] [(.int (p0 &&& (3 : Int32)))])) _
          refine XS.ifYes X11.here hx rfl (pc0 := 60) (pc' := 69) rfl (hb hby at_60) rfl ((if0 _ _).trans (feq hc2).2) (by decide) (by decide) ?_
          show Steps pg.tables ee below (T11.setTop (mkF mm 69 #[.val (.int p0), .val (.long q0), .second, .val (.int (p0 &&& (3 : Int32))), .val (.ref aLENGTH), .val (.ref b10), .unset] [])) _
          refine XS.iloadN X11.here hx rfl (hb hby at_69) rfl ?_
          show Steps pg.tables ee below (T11.setTop (mkF mm 70 #[.val (.int p0), .val (.long q0), .second, .val (.int (p0 &&& (3 : Int32))), .val (.ref aLENGTH), .val (.ref b10), .unset] [(.int (p0 &&& (3 : Int32)))])) _
          refine XS.iconst X11.here hx rfl (hb hby at_70) ?_
          show Steps pg.tables ee below (T11.setTop (mkF mm 71 #[.val (.int p0), .val (.long q0), .second, .val (.int (p0 &&& (3 : Int32))), .val (.ref aLENGTH), .val (.ref b10), .unset] [(.int (1 : Int32)), (.int (p0 &&& (3 : Int32)))])) _
          refine XS.icmpNo X11.here hx rfl (hb hby at_71) rfl (teq hc8).2 ?_
          show Steps pg.tables ee below (T11.setTop (mkF mm 74 #[.val (.int p0), .val (.long q0), .second, .val (.int (p0 &&& (3 : Int32))), .val (.ref aLENGTH), .val (.ref b10), .unset] [])) _
          refine XS.lloadN X11.here hx rfl (hb hby at_74) rfl ?_
          show Steps pg.tables ee below (T11.setTop (mkF mm 75 #[.val (.int p0), .val (.long q0), .second, .val (.int (p0 &&& (3 : Int32))), .val (.ref aLENGTH), .val (.ref b10), .unset] [(.long q0)])) _
          refine XS.lconst X11.here hx rfl (hb hby at_75) ?_
          show Steps pg.tables ee below (T11.setTop (mkF mm 76 #[.val (.int p0), .val (.long q0), .second, .val (.int (p0 &&& (3 : Int32))), .val (.ref aLENGTH), .val (.ref b10), .unset] [(.long (0 : Int64)), (.long q0)])) _
          refine XS.lcmp X11.here hx rfl (hb hby at_76) rfl ?_
          exact k)
      by_cases hc13 : (lcmpW q0 (0 : Int64)) = (0 : Int32)
      · obtain ⟨cq14, kq14, q14a, q14b, q14c⟩ := isOf hZ rfl Ex11
        obtain ⟨_, _, ⟨T14, L14, k14, n14⟩, -, X14, ⟨Lc14, hQ14, l14, y14, z14⟩, st14⟩ := X11.virtualBack hx (y := (⟨"com/example/waxwing/waxwing/http/MessageReader$Framing", "empty", "()Z"⟩ : MethodName)) (z := (⟨"com/example/waxwing/waxwing/http/MessageReader$Framing", "empty", "()Z"⟩ : MethodName)) hown (mvT hZ (hw _ (List.mem_of_getElem? (i := 21) rfl))) (mvT hZ (hw _ (List.mem_of_getElem? (i := 22) rfl))) (notFace_of_selects (args := #[]) (mvT hZ (hw _ (List.mem_of_getElem? (i := 24) rfl)))) (mvT hZ (hw _ (List.mem_of_getElem? (i := 24) rfl))) (mvT hZ (hw _ (List.mem_of_getElem? (i := 23) rfl))) (by decide) (backOf (W := 0) (rmEL1 l Z a0 hw [] b10 q0 aNONE aLENGTH T11.heap n0 O11 Fv0_11 Fv1_11 S_NONE S_LENGTH hNL hc13) hZ (hw _ (List.mem_of_getElem? (i := 25) rfl)) (hw _ (List.mem_of_getElem? (i := 5) rfl)) (by decide) (by decide)) q14a q14c (g := (mkF mm 95 #[.val (.int p0), .val (.long q0), .second, .val (.int (p0 &&& (3 : Int32))), .val (.ref aLENGTH), .val (.ref b10), .val (.int (1 : Int32))] [(.ref b10)])) rfl (by rw [hml]; rfl) (Steps.refl _) (argsL := []) (rest := []) (lenOf pd_36 rfl) rfl (by show 2 * 0 + _ ≤ _; exact Nat.le_of_eq rfl) (hb hby at_95) (fun _ _ => ⟨rfl, rfl, (by decide : 1 + 0 ≤ _), (by decide : 2 + 0 ≤ _)⟩)
        dsimp only [Pt.U, Pt.locs, Pt.cells, Pt.slots] at X14 l14 y14 z14 st14 hQ14
        subst l14 y14 z14
        obtain ⟨rfl, N14q, e14⟩ := hQ14
        have N14 := Fr.app N11 N14q
        obtain ⟨fs, hr, hrun, hended, hW, hsame⟩ := X14.leave (v := some (.int (1 : Int32))) (fun h => by rw [Bd.returns] at h; cases h)
        refine ⟨_, _, pre12 _ ?_, hrun, hended, _, _, rfl, ?_, ⟨_, rfl⟩, hW, hsame.mono (by decide) (by decide)⟩
        · show Steps pg.tables ee below (T11.setTop (mkF mm 77 #[.val (.int p0), .val (.long q0), .second, .val (.int (p0 &&& (3 : Int32))), .val (.ref aLENGTH), .val (.ref b10), .unset] [(.int (lcmpW q0 (0 : Int64)))])) _
          refine XS.ifNo X11.here hx rfl (hb hby at_77) rfl ((if0 _ _).trans (teq hc13).2) ?_
          show Steps pg.tables ee below (T11.setTop (mkF mm 80 #[.val (.int p0), .val (.long q0), .second, .val (.int (p0 &&& (3 : Int32))), .val (.ref aLENGTH), .val (.ref b10), .unset] [])) _
          refine XS.iconst X11.here hx rfl (hb hby at_80) ?_
          show Steps pg.tables ee below (T11.setTop (mkF mm 81 #[.val (.int p0), .val (.long q0), .second, .val (.int (p0 &&& (3 : Int32))), .val (.ref aLENGTH), .val (.ref b10), .unset] [(.int (1 : Int32))])) _
          refine XS.goto X11.here hx rfl (pc0 := 81) (pc' := 85) rfl (hb hby at_81) (by decide) (by decide) ?_
          show Steps pg.tables ee below (T11.setTop (mkF mm 85 #[.val (.int p0), .val (.long q0), .second, .val (.int (p0 &&& (3 : Int32))), .val (.ref aLENGTH), .val (.ref b10), .unset] [(.int (1 : Int32))])) _
          refine XS.istore X11.here hx rfl (hb hby at_85) rfl (l' := #[.val (.int p0), .val (.long q0), .second, .val (.int (p0 &&& (3 : Int32))), .val (.ref aLENGTH), .val (.ref b10), .val (.int (1 : Int32))]) rfl ?_
          show Steps pg.tables ee below (T11.setTop (mkF mm 87 #[.val (.int p0), .val (.long q0), .second, .val (.int (p0 &&& (3 : Int32))), .val (.ref aLENGTH), .val (.ref b10), .val (.int (1 : Int32))] [])) _
          refine XS.goto X11.here hx rfl (pc0 := 87) (pc' := 93) rfl (hb hby at_87) (by decide) (by decide) ?_
          show Steps pg.tables ee below (T11.setTop (mkF mm 93 #[.val (.int p0), .val (.long q0), .second, .val (.int (p0 &&& (3 : Int32))), .val (.ref aLENGTH), .val (.ref b10), .val (.int (1 : Int32))] [])) _
          refine XS.aload X11.here hx rfl (hb hby at_93) rfl rfl ?_
          show Steps pg.tables ee below (T11.setTop (mkF mm 95 #[.val (.int p0), .val (.long q0), .second, .val (.int (p0 &&& (3 : Int32))), .val (.ref aLENGTH), .val (.ref b10), .val (.int (1 : Int32))] [(.ref b10)])) _
          refine st14.trans ?_
          show Steps pg.tables ee below (T14.setTop (mkF mm 98 #[.val (.int p0), .val (.long q0), .second, .val (.int (p0 &&& (3 : Int32))), .val (.ref aLENGTH), .val (.ref b10), .val (.int (1 : Int32))] [(.int (1 : Int32))])) _
          refine XS.iload X14.here hx rfl (hb hby at_98) rfl ?_
          show Steps pg.tables ee below (T14.setTop (mkF mm 100 #[.val (.int p0), .val (.long q0), .second, .val (.int (p0 &&& (3 : Int32))), .val (.ref aLENGTH), .val (.ref b10), .val (.int (1 : Int32))] [(.int (1 : Int32)), (.int (1 : Int32))])) _
          refine XS.icmpNo X14.here hx rfl (hb hby at_100) rfl (teq (by decide : (1 : Int32) = (1 : Int32))).2 ?_
          show Steps pg.tables ee below (T14.setTop (mkF mm 103 #[.val (.int p0), .val (.long q0), .second, .val (.int (p0 &&& (3 : Int32))), .val (.ref aLENGTH), .val (.ref b10), .val (.int (1 : Int32))] [])) _
          refine XS.iconst X14.here hx rfl (hb hby at_103) ?_
          show Steps pg.tables ee below (T14.setTop (mkF mm 104 #[.val (.int p0), .val (.long q0), .second, .val (.int (p0 &&& (3 : Int32))), .val (.ref aLENGTH), .val (.ref b10), .val (.int (1 : Int32))] [(.int (1 : Int32))])) _
          refine XS.goto X14.here hx rfl (pc0 := 104) (pc' := 108) rfl (hb hby at_104) (by decide) (by decide) ?_
          show Steps pg.tables ee below (T14.setTop (mkF mm 108 #[.val (.int p0), .val (.long q0), .second, .val (.int (p0 &&& (3 : Int32))), .val (.ref aLENGTH), .val (.ref b10), .val (.int (1 : Int32))] [(.int (1 : Int32))])) _
          exact retN X14 hx (t := .boolean) Bd.returns (by simp) (hb hby at_108) hr
        · show Qrm0 Z p0 q0 aNONE aLENGTH aCHUNKED aUNTIL_CLOSE h0 n0 _ T14.heap _
          rw [e14]
          exact ⟨rfl, N14⟩
      · obtain ⟨cq15, kq15, q15a, q15b, q15c⟩ := isOf hZ rfl Ex11
        obtain ⟨_, _, ⟨T15, L15, k15, n15⟩, -, X15, ⟨Lc15, hQ15, l15, y15, z15⟩, st15⟩ := X11.virtualBack hx (y := (⟨"com/example/waxwing/waxwing/http/MessageReader$Framing", "empty", "()Z"⟩ : MethodName)) (z := (⟨"com/example/waxwing/waxwing/http/MessageReader$Framing", "empty", "()Z"⟩ : MethodName)) hown (mvT hZ (hw _ (List.mem_of_getElem? (i := 21) rfl))) (mvT hZ (hw _ (List.mem_of_getElem? (i := 22) rfl))) (notFace_of_selects (args := #[]) (mvT hZ (hw _ (List.mem_of_getElem? (i := 24) rfl)))) (mvT hZ (hw _ (List.mem_of_getElem? (i := 24) rfl))) (mvT hZ (hw _ (List.mem_of_getElem? (i := 23) rfl))) (by decide) (backOf (W := 0) (rmEL0 l Z a0 hw [] b10 q0 aNONE aLENGTH T11.heap n0 O11 Fv0_11 Fv1_11 S_NONE S_LENGTH hNL hc13) hZ (hw _ (List.mem_of_getElem? (i := 25) rfl)) (hw _ (List.mem_of_getElem? (i := 5) rfl)) (by decide) (by decide)) q15a q15c (g := (mkF mm 95 #[.val (.int p0), .val (.long q0), .second, .val (.int (p0 &&& (3 : Int32))), .val (.ref aLENGTH), .val (.ref b10), .val (.int (0 : Int32))] [(.ref b10)])) rfl (by rw [hml]; rfl) (Steps.refl _) (argsL := []) (rest := []) (lenOf pd_36 rfl) rfl (by show 2 * 0 + _ ≤ _; exact Nat.le_of_eq rfl) (hb hby at_95) (fun _ _ => ⟨rfl, rfl, (by decide : 1 + 0 ≤ _), (by decide : 2 + 0 ≤ _)⟩)
        dsimp only [Pt.U, Pt.locs, Pt.cells, Pt.slots] at X15 l15 y15 z15 st15 hQ15
        subst l15 y15 z15
        obtain ⟨rfl, N15q, e15⟩ := hQ15
        have N15 := Fr.app N11 N15q
        obtain ⟨fs, hr, hrun, hended, hW, hsame⟩ := X15.leave (v := some (.int (1 : Int32))) (fun h => by rw [Bd.returns] at h; cases h)
        refine ⟨_, _, pre12 _ ?_, hrun, hended, _, _, rfl, ?_, ⟨_, rfl⟩, hW, hsame.mono (by decide) (by decide)⟩
        · show Steps pg.tables ee below (T11.setTop (mkF mm 77 #[.val (.int p0), .val (.long q0), .second, .val (.int (p0 &&& (3 : Int32))), .val (.ref aLENGTH), .val (.ref b10), .unset] [(.int (lcmpW q0 (0 : Int64)))])) _
          refine XS.ifYes X11.here hx rfl (pc0 := 77) (pc' := 84) rfl (hb hby at_77) rfl ((if0 _ _).trans (feq hc13).2) (by decide) (by decide) ?_
          show Steps pg.tables ee below (T11.setTop (mkF mm 84 #[.val (.int p0), .val (.long q0), .second, .val (.int (p0 &&& (3 : Int32))), .val (.ref aLENGTH), .val (.ref b10), .unset] [])) _
          refine XS.iconst X11.here hx rfl (hb hby at_84) ?_
          show Steps pg.tables ee below (T11.setTop (mkF mm 85 #[.val (.int p0), .val (.long q0), .second, .val (.int (p0 &&& (3 : Int32))), .val (.ref aLENGTH), .val (.ref b10), .unset] [(.int (0 : Int32))])) _
          refine XS.istore X11.here hx rfl (hb hby at_85) rfl (l' := #[.val (.int p0), .val (.long q0), .second, .val (.int (p0 &&& (3 : Int32))), .val (.ref aLENGTH), .val (.ref b10), .val (.int (0 : Int32))]) rfl ?_
          show Steps pg.tables ee below (T11.setTop (mkF mm 87 #[.val (.int p0), .val (.long q0), .second, .val (.int (p0 &&& (3 : Int32))), .val (.ref aLENGTH), .val (.ref b10), .val (.int (0 : Int32))] [])) _
          refine XS.goto X11.here hx rfl (pc0 := 87) (pc' := 93) rfl (hb hby at_87) (by decide) (by decide) ?_
          show Steps pg.tables ee below (T11.setTop (mkF mm 93 #[.val (.int p0), .val (.long q0), .second, .val (.int (p0 &&& (3 : Int32))), .val (.ref aLENGTH), .val (.ref b10), .val (.int (0 : Int32))] [])) _
          refine XS.aload X11.here hx rfl (hb hby at_93) rfl rfl ?_
          show Steps pg.tables ee below (T11.setTop (mkF mm 95 #[.val (.int p0), .val (.long q0), .second, .val (.int (p0 &&& (3 : Int32))), .val (.ref aLENGTH), .val (.ref b10), .val (.int (0 : Int32))] [(.ref b10)])) _
          refine st15.trans ?_
          show Steps pg.tables ee below (T15.setTop (mkF mm 98 #[.val (.int p0), .val (.long q0), .second, .val (.int (p0 &&& (3 : Int32))), .val (.ref aLENGTH), .val (.ref b10), .val (.int (0 : Int32))] [(.int (0 : Int32))])) _
          refine XS.iload X15.here hx rfl (hb hby at_98) rfl ?_
          show Steps pg.tables ee below (T15.setTop (mkF mm 100 #[.val (.int p0), .val (.long q0), .second, .val (.int (p0 &&& (3 : Int32))), .val (.ref aLENGTH), .val (.ref b10), .val (.int (0 : Int32))] [(.int (0 : Int32)), (.int (0 : Int32))])) _
          refine XS.icmpNo X15.here hx rfl (hb hby at_100) rfl (teq (by decide : (0 : Int32) = (0 : Int32))).2 ?_
          show Steps pg.tables ee below (T15.setTop (mkF mm 103 #[.val (.int p0), .val (.long q0), .second, .val (.int (p0 &&& (3 : Int32))), .val (.ref aLENGTH), .val (.ref b10), .val (.int (0 : Int32))] [])) _
          refine XS.iconst X15.here hx rfl (hb hby at_103) ?_
          show Steps pg.tables ee below (T15.setTop (mkF mm 104 #[.val (.int p0), .val (.long q0), .second, .val (.int (p0 &&& (3 : Int32))), .val (.ref aLENGTH), .val (.ref b10), .val (.int (0 : Int32))] [(.int (1 : Int32))])) _
          refine XS.goto X15.here hx rfl (pc0 := 104) (pc' := 108) rfl (hb hby at_104) (by decide) (by decide) ?_
          show Steps pg.tables ee below (T15.setTop (mkF mm 108 #[.val (.int p0), .val (.long q0), .second, .val (.int (p0 &&& (3 : Int32))), .val (.ref aLENGTH), .val (.ref b10), .val (.int (0 : Int32))] [(.int (1 : Int32))])) _
          exact retN X15 hx (t := .boolean) Bd.returns (by simp) (hb hby at_108) hr
        · show Qrm0 Z p0 q0 aNONE aLENGTH aCHUNKED aUNTIL_CLOSE h0 n0 _ T15.heap _
          rw [e15]
          exact ⟨rfl, N15⟩
    · have pre16 : ∀ t, Steps pg.tables ee below (s₁.setTop (mkF mm 31 #[.val (.int p0), .val (.long q0), .second, .val (.int (p0 &&& (3 : Int32))), .unset, .unset, .unset] [(.int (2 : Int32)), (.int (p0 &&& (3 : Int32)))])) t → Steps pg.tables ee below (s₁.setTop (entryFrame mm #[(.int p0), (.long q0)] maxLocals)) t := fun t k => pre7 t (by
          show Steps pg.tables ee below (s₁.setTop (mkF mm 18 #[.val (.int p0), .val (.long q0), .second, .val (.int (p0 &&& (3 : Int32))), .unset, .unset, .unset] [(.int (1 : Int32)), (.int (p0 &&& (3 : Int32)))])) _
          refine XS.icmpYes X0.here hx rfl (pc0 := 18) (pc' := 29) rfl (hb hby at_18) rfl (feq hc8).2 (by decide) (by decide) ?_
          show Steps pg.tables ee below (s₁.setTop (mkF mm 29 #[.val (.int p0), .val (.long q0), .second, .val (.int (p0 &&& (3 : Int32))), .unset, .unset, .unset] [])) _
          refine XS.iloadN X0.here hx rfl (hb hby at_29) rfl ?_
          show Steps pg.tables ee below (s₁.setTop (mkF mm 30 #[.val (.int p0), .val (.long q0), .second, .val (.int (p0 &&& (3 : Int32))), .unset, .unset, .unset] [(.int (p0 &&& (3 : Int32)))])) _
          refine XS.iconst X0.here hx rfl (hb hby at_30) ?_
          exact k)
      by_cases hc17 : (p0 &&& (3 : Int32)) = (2 : Int32)
      · obtain ⟨T18, X18, e18, st18⟩ := getS2 X0 hx hZ hown (host := "") (Or.inl (hw _ (List.mem_of_getElem? (i := 30) rfl))) Via.refl e0 (S_CHUNKED.ext O0.2) (g := (mkF mm 34 #[.val (.int p0), .val (.long q0), .second, .val (.int (p0 &&& (3 : Int32))), .unset, .unset, .unset] [])) rfl (hb hby at_34)
        obtain ⟨T19, h19, X19, e19, E19, A19, D19, -, st19⟩ := newO X18 hx hZ hown (hw _ (List.mem_of_getElem? (i := 3) rfl)) (hw _ (List.mem_of_getElem? (i := 4) rfl)) (hw _ (List.mem_of_getElem? (i := 5) rfl)) e18 (g := (mkF mm 47 #[.val (.int p0), .val (.long q0), .second, .val (.int (p0 &&& (3 : Int32))), .val (.ref aCHUNKED), .unset, .unset] [])) rfl (hb hby at_47) (by decide) (by decide)
        obtain ⟨b19, g19⟩ : ∃ z, z = h0.size := ⟨_, rfl⟩
        rw [← g19] at A19 D19 st19
        have g_b19 : n0 ≤ b19 := Nat.le_trans (O0.1 ▸ O0.2.1) (Nat.le_of_eq g19.symm)
        have sz_b19 : h0.size ≤ b19 := Nat.le_trans K0.1 (Nat.le_of_eq g19.symm)
        have O19 := O0.ext E19
        have KK19 := K0.ext E19
        have F_body_b19 : Fld Z h19 b19 "com/example/waxwing/waxwing/http/MessageReader$Framing" "body" "Lcom/example/waxwing/waxwing/http/MessageReader$Body;" .null := D19 (Or.inr (hw _ (List.mem_of_getElem? (i := 18) rfl))) (ty := (.object "com/example/waxwing/waxwing/http/MessageReader$Body")) (by decide)
        have F_length_b19 : Fld Z h19 b19 "com/example/waxwing/waxwing/http/MessageReader$Framing" "length" "J" (.long (0 : Int64)) := D19 (Or.inr (hw _ (List.mem_of_getElem? (i := 20) rfl))) (ty := .long) (by decide)
        obtain ⟨_, _, ⟨T20, L20, k20, n20⟩, -, X20, ⟨Lc20, hQ20, l20, y20, z20⟩, st20⟩ := X19.specialBack hx (y := (⟨"com/example/waxwing/waxwing/http/MessageReader$Framing", "<init>", "(Lcom/example/waxwing/waxwing/http/MessageReader$Body;J)V"⟩ : MethodName)) rfl hown (mvT hZ (hw _ (List.mem_of_getElem? (i := 6) rfl))) (mvT hZ (hw _ (List.mem_of_getElem? (i := 7) rfl))) (mvT hZ (hw _ (List.mem_of_getElem? (i := 8) rfl))) (by decide) (backOf (W := 1) (rmI l Z a0 hw [] b19 aCHUNKED q0 h19 n0 O19 A19 F_body_b19 F_length_b19 g_b19 ) hZ (hw _ (List.mem_of_getElem? (i := 8) rfl)) (hw _ (List.mem_of_getElem? (i := 5) rfl)) (by decide) (by decide)) (g := (mkF mm 54 #[.val (.int p0), .val (.long q0), .second, .val (.int (p0 &&& (3 : Int32))), .val (.ref aCHUNKED), .unset, .unset] [(.long q0), (.ref aCHUNKED), (.ref b19), (.ref b19)])) rfl (by rw [hml]; rfl) (Steps.refl _) (a := b19) (argsL := [(.ref aCHUNKED), (.long q0)]) (rest := [(.ref b19)]) (lenOf pd_35 rfl) rfl (by show 2 * 0 + _ ≤ _; exact Nat.le_of_eq rfl) (hb hby at_54) (fun _ _ => ⟨rfl, e19, (by decide : 1 + 0 ≤ _), (by decide : 2 + 0 ≤ _)⟩)
        dsimp only [Pt.U, Pt.locs, Pt.cells, Pt.slots] at X20 l20 y20 z20 st20 hQ20
        subst l20 y20 z20
        obtain ⟨rfl, N20q, K20, Ex20, Fv0_20, Fv1_20⟩ := hQ20
        have O20 := O19.keep K20 (allS g_b19 all0)
        have KK20 := KK19.trans K20 (allS (Or.inr sz_b19) all0)
        have N20 := Fr.app N0 N20q
        obtain ⟨cq21, kq21, q21a, q21b, q21c⟩ := isOf hZ rfl Ex20
        obtain ⟨_, _, ⟨T21, L21, k21, n21⟩, -, X21, ⟨Lc21, hQ21, l21, y21, z21⟩, st21⟩ := X20.virtualBack hx (y := (⟨"com/example/waxwing/waxwing/http/MessageReader$Framing", "empty", "()Z"⟩ : MethodName)) (z := (⟨"com/example/waxwing/waxwing/http/MessageReader$Framing", "empty", "()Z"⟩ : MethodName)) hown (mvT hZ (hw _ (List.mem_of_getElem? (i := 21) rfl))) (mvT hZ (hw _ (List.mem_of_getElem? (i := 22) rfl))) (notFace_of_selects (args := #[]) (mvT hZ (hw _ (List.mem_of_getElem? (i := 24) rfl)))) (mvT hZ (hw _ (List.mem_of_getElem? (i := 24) rfl))) (mvT hZ (hw _ (List.mem_of_getElem? (i := 23) rfl))) (by decide) (backOf (W := 0) (rmEO l Z a0 hw [] b19 aCHUNKED q0 aNONE aLENGTH T20.heap n0 O20 Fv0_20 Fv1_20 S_NONE S_LENGTH h1_CHUNKED h2_CHUNKED) hZ (hw _ (List.mem_of_getElem? (i := 25) rfl)) (hw _ (List.mem_of_getElem? (i := 5) rfl)) (by decide) (by decide)) q21a q21c (g := (mkF mm 95 #[.val (.int p0), .val (.long q0), .second, .val (.int (p0 &&& (3 : Int32))), .val (.ref aCHUNKED), .val (.ref b19), .val (.int (0 : Int32))] [(.ref b19)])) rfl (by rw [hml]; rfl) (Steps.refl _) (argsL := []) (rest := []) (lenOf pd_36 rfl) rfl (by show 2 * 0 + _ ≤ _; exact Nat.le_of_eq rfl) (hb hby at_95) (fun _ _ => ⟨rfl, rfl, (by decide : 1 + 0 ≤ _), (by decide : 2 + 0 ≤ _)⟩)
        dsimp only [Pt.U, Pt.locs, Pt.cells, Pt.slots] at X21 l21 y21 z21 st21 hQ21
        subst l21 y21 z21
        obtain ⟨rfl, N21q, e21⟩ := hQ21
        have N21 := Fr.app N20 N21q
        obtain ⟨fs, hr, hrun, hended, hW, hsame⟩ := X21.leave (v := some (.int (1 : Int32))) (fun h => by rw [Bd.returns] at h; cases h)
        refine ⟨_, _, pre16 _ ?_, hrun, hended, _, _, rfl, ?_, ⟨_, rfl⟩, hW, hsame.mono (by decide) (by decide)⟩
        · show Steps pg.tables ee below (s₁.setTop (mkF mm 31 #[.val (.int p0), .val (.long q0), .second, .val (.int (p0 &&& (3 : Int32))), .unset, .unset, .unset] [(.int (2 : Int32)), (.int (p0 &&& (3 : Int32)))])) _
          refine XS.icmpNo X0.here hx rfl (hb hby at_31) rfl (teq hc17).2 ?_
          show Steps pg.tables ee below (s₁.setTop (mkF mm 34 #[.val (.int p0), .val (.long q0), .second, .val (.int (p0 &&& (3 : Int32))), .unset, .unset, .unset] [])) _
          refine st18 _ ?_
          show Steps pg.tables ee below (T18.setTop (mkF mm 37 #[.val (.int p0), .val (.long q0), .second, .val (.int (p0 &&& (3 : Int32))), .unset, .unset, .unset] [(.ref aCHUNKED)])) _
          refine XS.astore X18.here hx rfl (hb hby at_37) rfl rfl (l' := #[.val (.int p0), .val (.long q0), .second, .val (.int (p0 &&& (3 : Int32))), .val (.ref aCHUNKED), .unset, .unset]) rfl ?_
          show Steps pg.tables ee below (T18.setTop (mkF mm 39 #[.val (.int p0), .val (.long q0), .second, .val (.int (p0 &&& (3 : Int32))), .val (.ref aCHUNKED), .unset, .unset] [])) _
          refine XS.goto X18.here hx rfl (pc0 := 39) (pc' := 47) rfl (hb hby at_39) (by decide) (by decide) ?_
          show Steps pg.tables ee below (T18.setTop (mkF mm 47 #[.val (.int p0), .val (.long q0), .second, .val (.int (p0 &&& (3 : Int32))), .val (.ref aCHUNKED), .unset, .unset] [])) _
          refine st19 _ ?_
          show Steps pg.tables ee below (T19.setTop (mkF mm 50 #[.val (.int p0), .val (.long q0), .second, .val (.int (p0 &&& (3 : Int32))), .val (.ref aCHUNKED), .unset, .unset] [(.ref b19)])) _
          refine XS.dup X19.here hx rfl (hb hby at_50) rfl rfl ?_
          show Steps pg.tables ee below (T19.setTop (mkF mm 51 #[.val (.int p0), .val (.long q0), .second, .val (.int (p0 &&& (3 : Int32))), .val (.ref aCHUNKED), .unset, .unset] [(.ref b19), (.ref b19)])) _
          refine XS.aload X19.here hx rfl (hb hby at_51) rfl rfl ?_
          show Steps pg.tables ee below (T19.setTop (mkF mm 53 #[.val (.int p0), .val (.long q0), .second, .val (.int (p0 &&& (3 : Int32))), .val (.ref aCHUNKED), .unset, .unset] [(.ref aCHUNKED), (.ref b19), (.ref b19)])) _
          refine XS.lloadN X19.here hx rfl (hb hby at_53) rfl ?_
          show Steps pg.tables ee below (T19.setTop (mkF mm 54 #[.val (.int p0), .val (.long q0), .second, .val (.int (p0 &&& (3 : Int32))), .val (.ref aCHUNKED), .unset, .unset] [(.long q0), (.ref aCHUNKED), (.ref b19), (.ref b19)])) _
          refine st20.trans ?_
          show Steps pg.tables ee below (T20.setTop (mkF mm 57 #[.val (.int p0), .val (.long q0), .second, .val (.int (p0 &&& (3 : Int32))), .val (.ref aCHUNKED), .unset, .unset] [(.ref b19)])) _
          refine XS.astore X20.here hx rfl (hb hby at_57) rfl rfl (l' := #[.val (.int p0), .val (.long q0), .second, .val (.int (p0 &&& (3 : Int32))), .val (.ref aCHUNKED), .val (.ref b19), .unset]) rfl ?_
          show Steps pg.tables ee below (T20.setTop (mkF mm 59 #[.val (.int p0), .val (.long q0), .second, .val (.int (p0 &&& (3 : Int32))), .val (.ref aCHUNKED), .val (.ref b19), .unset] [])) _
          refine XS.iloadN X20.here hx rfl (hb hby at_59) rfl ?_
          show Steps pg.tables ee below (T20.setTop (mkF mm 60 #[.val (.int p0), .val (.long q0), .second, .val (.int (p0 &&& (3 : Int32))), .val (.ref aCHUNKED), .val (.ref b19), .unset] [(.int (p0 &&& (3 : Int32)))])) _
          refine XS.ifYes X20.here hx rfl (pc0 := 60) (pc' := 69) rfl (hb hby at_60) rfl ((if0 _ _).trans (feq hc2).2) (by decide) (by decide) ?_
          show Steps pg.tables ee below (T20.setTop (mkF mm 69 #[.val (.int p0), .val (.long q0), .second, .val (.int (p0 &&& (3 : Int32))), .val (.ref aCHUNKED), .val (.ref b19), .unset] [])) _
          refine XS.iloadN X20.here hx rfl (hb hby at_69) rfl ?_
          show Steps pg.tables ee below (T20.setTop (mkF mm 70 #[.val (.int p0), .val (.long q0), .second, .val (.int (p0 &&& (3 : Int32))), .val (.ref aCHUNKED), .val (.ref b19), .unset] [(.int (p0 &&& (3 : Int32)))])) _
          refine XS.iconst X20.here hx rfl (hb hby at_70) ?_
          show Steps pg.tables ee below (T20.setTop (mkF mm 71 #[.val (.int p0), .val (.long q0), .second, .val (.int (p0 &&& (3 : Int32))), .val (.ref aCHUNKED), .val (.ref b19), .unset] [(.int (1 : Int32)), (.int (p0 &&& (3 : Int32)))])) _
          refine XS.icmpYes X20.here hx rfl (pc0 := 71) (pc' := 90) rfl (hb hby at_71) rfl (feq hc8).2 (by decide) (by decide) ?_
          show Steps pg.tables ee below (T20.setTop (mkF mm 90 #[.val (.int p0), .val (.long q0), .second, .val (.int (p0 &&& (3 : Int32))), .val (.ref aCHUNKED), .val (.ref b19), .unset] [])) _
          refine XS.iconst X20.here hx rfl (hb hby at_90) ?_
          show Steps pg.tables ee below (T20.setTop (mkF mm 91 #[.val (.int p0), .val (.long q0), .second, .val (.int (p0 &&& (3 : Int32))), .val (.ref aCHUNKED), .val (.ref b19), .unset] [(.int (0 : Int32))])) _
          refine XS.istore X20.here hx rfl (hb hby at_91) rfl (l' := #[.val (.int p0), .val (.long q0), .second, .val (.int (p0 &&& (3 : Int32))), .val (.ref aCHUNKED), .val (.ref b19), .val (.int (0 : Int32))]) rfl ?_
          show Steps pg.tables ee below (T20.setTop (mkF mm 93 #[.val (.int p0), .val (.long q0), .second, .val (.int (p0 &&& (3 : Int32))), .val (.ref aCHUNKED), .val (.ref b19), .val (.int (0 : Int32))] [])) _
          refine XS.aload X20.here hx rfl (hb hby at_93) rfl rfl ?_
          show Steps pg.tables ee below (T20.setTop (mkF mm 95 #[.val (.int p0), .val (.long q0), .second, .val (.int (p0 &&& (3 : Int32))), .val (.ref aCHUNKED), .val (.ref b19), .val (.int (0 : Int32))] [(.ref b19)])) _
          refine st21.trans ?_
          show Steps pg.tables ee below (T21.setTop (mkF mm 98 #[.val (.int p0), .val (.long q0), .second, .val (.int (p0 &&& (3 : Int32))), .val (.ref aCHUNKED), .val (.ref b19), .val (.int (0 : Int32))] [(.int (0 : Int32))])) _
          refine XS.iload X21.here hx rfl (hb hby at_98) rfl ?_
          show Steps pg.tables ee below (T21.setTop (mkF mm 100 #[.val (.int p0), .val (.long q0), .second, .val (.int (p0 &&& (3 : Int32))), .val (.ref aCHUNKED), .val (.ref b19), .val (.int (0 : Int32))] [(.int (0 : Int32)), (.int (0 : Int32))])) _
          refine XS.icmpNo X21.here hx rfl (hb hby at_100) rfl (teq (by decide : (0 : Int32) = (0 : Int32))).2 ?_
          show Steps pg.tables ee below (T21.setTop (mkF mm 103 #[.val (.int p0), .val (.long q0), .second, .val (.int (p0 &&& (3 : Int32))), .val (.ref aCHUNKED), .val (.ref b19), .val (.int (0 : Int32))] [])) _
          refine XS.iconst X21.here hx rfl (hb hby at_103) ?_
          show Steps pg.tables ee below (T21.setTop (mkF mm 104 #[.val (.int p0), .val (.long q0), .second, .val (.int (p0 &&& (3 : Int32))), .val (.ref aCHUNKED), .val (.ref b19), .val (.int (0 : Int32))] [(.int (1 : Int32))])) _
          refine XS.goto X21.here hx rfl (pc0 := 104) (pc' := 108) rfl (hb hby at_104) (by decide) (by decide) ?_
          show Steps pg.tables ee below (T21.setTop (mkF mm 108 #[.val (.int p0), .val (.long q0), .second, .val (.int (p0 &&& (3 : Int32))), .val (.ref aCHUNKED), .val (.ref b19), .val (.int (0 : Int32))] [(.int (1 : Int32))])) _
          exact retN X21 hx (t := .boolean) Bd.returns (by simp) (hb hby at_108) hr
        · show Qrm0 Z p0 q0 aNONE aLENGTH aCHUNKED aUNTIL_CLOSE h0 n0 _ T21.heap _
          rw [e21]
          exact ⟨rfl, N21⟩
      · obtain ⟨T22, X22, e22, st22⟩ := getS2 X0 hx hZ hown (host := "") (Or.inl (hw _ (List.mem_of_getElem? (i := 32) rfl))) Via.refl e0 (S_UNTIL_CLOSE.ext O0.2) (g := (mkF mm 42 #[.val (.int p0), .val (.long q0), .second, .val (.int (p0 &&& (3 : Int32))), .unset, .unset, .unset] [])) rfl (hb hby at_42)
        obtain ⟨T23, h23, X23, e23, E23, A23, D23, -, st23⟩ := newO X22 hx hZ hown (hw _ (List.mem_of_getElem? (i := 3) rfl)) (hw _ (List.mem_of_getElem? (i := 4) rfl)) (hw _ (List.mem_of_getElem? (i := 5) rfl)) e22 (g := (mkF mm 47 #[.val (.int p0), .val (.long q0), .second, .val (.int (p0 &&& (3 : Int32))), .val (.ref aUNTIL_CLOSE), .unset, .unset] [])) rfl (hb hby at_47) (by decide) (by decide)
        obtain ⟨b23, g23⟩ : ∃ z, z = h0.size := ⟨_, rfl⟩
        rw [← g23] at A23 D23 st23
        have g_b23 : n0 ≤ b23 := Nat.le_trans (O0.1 ▸ O0.2.1) (Nat.le_of_eq g23.symm)
        have sz_b23 : h0.size ≤ b23 := Nat.le_trans K0.1 (Nat.le_of_eq g23.symm)
        have O23 := O0.ext E23
        have KK23 := K0.ext E23
        have F_body_b23 : Fld Z h23 b23 "com/example/waxwing/waxwing/http/MessageReader$Framing" "body" "Lcom/example/waxwing/waxwing/http/MessageReader$Body;" .null := D23 (Or.inr (hw _ (List.mem_of_getElem? (i := 18) rfl))) (ty := (.object "com/example/waxwing/waxwing/http/MessageReader$Body")) (by decide)
        have F_length_b23 : Fld Z h23 b23 "com/example/waxwing/waxwing/http/MessageReader$Framing" "length" "J" (.long (0 : Int64)) := D23 (Or.inr (hw _ (List.mem_of_getElem? (i := 20) rfl))) (ty := .long) (by decide)
        obtain ⟨_, _, ⟨T24, L24, k24, n24⟩, -, X24, ⟨Lc24, hQ24, l24, y24, z24⟩, st24⟩ := X23.specialBack hx (y := (⟨"com/example/waxwing/waxwing/http/MessageReader$Framing", "<init>", "(Lcom/example/waxwing/waxwing/http/MessageReader$Body;J)V"⟩ : MethodName)) rfl hown (mvT hZ (hw _ (List.mem_of_getElem? (i := 6) rfl))) (mvT hZ (hw _ (List.mem_of_getElem? (i := 7) rfl))) (mvT hZ (hw _ (List.mem_of_getElem? (i := 8) rfl))) (by decide) (backOf (W := 1) (rmI l Z a0 hw [] b23 aUNTIL_CLOSE q0 h23 n0 O23 A23 F_body_b23 F_length_b23 g_b23 ) hZ (hw _ (List.mem_of_getElem? (i := 8) rfl)) (hw _ (List.mem_of_getElem? (i := 5) rfl)) (by decide) (by decide)) (g := (mkF mm 54 #[.val (.int p0), .val (.long q0), .second, .val (.int (p0 &&& (3 : Int32))), .val (.ref aUNTIL_CLOSE), .unset, .unset] [(.long q0), (.ref aUNTIL_CLOSE), (.ref b23), (.ref b23)])) rfl (by rw [hml]; rfl) (Steps.refl _) (a := b23) (argsL := [(.ref aUNTIL_CLOSE), (.long q0)]) (rest := [(.ref b23)]) (lenOf pd_35 rfl) rfl (by show 2 * 0 + _ ≤ _; exact Nat.le_of_eq rfl) (hb hby at_54) (fun _ _ => ⟨rfl, e23, (by decide : 1 + 0 ≤ _), (by decide : 2 + 0 ≤ _)⟩)
        dsimp only [Pt.U, Pt.locs, Pt.cells, Pt.slots] at X24 l24 y24 z24 st24 hQ24
        subst l24 y24 z24
        obtain ⟨rfl, N24q, K24, Ex24, Fv0_24, Fv1_24⟩ := hQ24
        have O24 := O23.keep K24 (allS g_b23 all0)
        have KK24 := KK23.trans K24 (allS (Or.inr sz_b23) all0)
        have N24 := Fr.app N0 N24q
        obtain ⟨cq25, kq25, q25a, q25b, q25c⟩ := isOf hZ rfl Ex24
        obtain ⟨_, _, ⟨T25, L25, k25, n25⟩, -, X25, ⟨Lc25, hQ25, l25, y25, z25⟩, st25⟩ := X24.virtualBack hx (y := (⟨"com/example/waxwing/waxwing/http/MessageReader$Framing", "empty", "()Z"⟩ : MethodName)) (z := (⟨"com/example/waxwing/waxwing/http/MessageReader$Framing", "empty", "()Z"⟩ : MethodName)) hown (mvT hZ (hw _ (List.mem_of_getElem? (i := 21) rfl))) (mvT hZ (hw _ (List.mem_of_getElem? (i := 22) rfl))) (notFace_of_selects (args := #[]) (mvT hZ (hw _ (List.mem_of_getElem? (i := 24) rfl)))) (mvT hZ (hw _ (List.mem_of_getElem? (i := 24) rfl))) (mvT hZ (hw _ (List.mem_of_getElem? (i := 23) rfl))) (by decide) (backOf (W := 0) (rmEO l Z a0 hw [] b23 aUNTIL_CLOSE q0 aNONE aLENGTH T24.heap n0 O24 Fv0_24 Fv1_24 S_NONE S_LENGTH h1_UNTIL_CLOSE h2_UNTIL_CLOSE) hZ (hw _ (List.mem_of_getElem? (i := 25) rfl)) (hw _ (List.mem_of_getElem? (i := 5) rfl)) (by decide) (by decide)) q25a q25c (g := (mkF mm 95 #[.val (.int p0), .val (.long q0), .second, .val (.int (p0 &&& (3 : Int32))), .val (.ref aUNTIL_CLOSE), .val (.ref b23), .val (.int (0 : Int32))] [(.ref b23)])) rfl (by rw [hml]; rfl) (Steps.refl _) (argsL := []) (rest := []) (lenOf pd_36 rfl) rfl (by show 2 * 0 + _ ≤ _; exact Nat.le_of_eq rfl) (hb hby at_95) (fun _ _ => ⟨rfl, rfl, (by decide : 1 + 0 ≤ _), (by decide : 2 + 0 ≤ _)⟩)
        dsimp only [Pt.U, Pt.locs, Pt.cells, Pt.slots] at X25 l25 y25 z25 st25 hQ25
        subst l25 y25 z25
        obtain ⟨rfl, N25q, e25⟩ := hQ25
        have N25 := Fr.app N24 N25q
        obtain ⟨fs, hr, hrun, hended, hW, hsame⟩ := X25.leave (v := some (.int (1 : Int32))) (fun h => by rw [Bd.returns] at h; cases h)
        refine ⟨_, _, pre16 _ ?_, hrun, hended, _, _, rfl, ?_, ⟨_, rfl⟩, hW, hsame.mono (by decide) (by decide)⟩
        · show Steps pg.tables ee below (s₁.setTop (mkF mm 31 #[.val (.int p0), .val (.long q0), .second, .val (.int (p0 &&& (3 : Int32))), .unset, .unset, .unset] [(.int (2 : Int32)), (.int (p0 &&& (3 : Int32)))])) _
          refine XS.icmpYes X0.here hx rfl (pc0 := 31) (pc' := 42) rfl (hb hby at_31) rfl (feq hc17).2 (by decide) (by decide) ?_
          show Steps pg.tables ee below (s₁.setTop (mkF mm 42 #[.val (.int p0), .val (.long q0), .second, .val (.int (p0 &&& (3 : Int32))), .unset, .unset, .unset] [])) _
          refine st22 _ ?_
          show Steps pg.tables ee below (T22.setTop (mkF mm 45 #[.val (.int p0), .val (.long q0), .second, .val (.int (p0 &&& (3 : Int32))), .unset, .unset, .unset] [(.ref aUNTIL_CLOSE)])) _
          refine XS.astore X22.here hx rfl (hb hby at_45) rfl rfl (l' := #[.val (.int p0), .val (.long q0), .second, .val (.int (p0 &&& (3 : Int32))), .val (.ref aUNTIL_CLOSE), .unset, .unset]) rfl ?_
          show Steps pg.tables ee below (T22.setTop (mkF mm 47 #[.val (.int p0), .val (.long q0), .second, .val (.int (p0 &&& (3 : Int32))), .val (.ref aUNTIL_CLOSE), .unset, .unset] [])) _
          refine st23 _ ?_
          show Steps pg.tables ee below (T23.setTop (mkF mm 50 #[.val (.int p0), .val (.long q0), .second, .val (.int (p0 &&& (3 : Int32))), .val (.ref aUNTIL_CLOSE), .unset, .unset] [(.ref b23)])) _
          refine XS.dup X23.here hx rfl (hb hby at_50) rfl rfl ?_
          show Steps pg.tables ee below (T23.setTop (mkF mm 51 #[.val (.int p0), .val (.long q0), .second, .val (.int (p0 &&& (3 : Int32))), .val (.ref aUNTIL_CLOSE), .unset, .unset] [(.ref b23), (.ref b23)])) _
          refine XS.aload X23.here hx rfl (hb hby at_51) rfl rfl ?_
          show Steps pg.tables ee below (T23.setTop (mkF mm 53 #[.val (.int p0), .val (.long q0), .second, .val (.int (p0 &&& (3 : Int32))), .val (.ref aUNTIL_CLOSE), .unset, .unset] [(.ref aUNTIL_CLOSE), (.ref b23), (.ref b23)])) _
          refine XS.lloadN X23.here hx rfl (hb hby at_53) rfl ?_
          show Steps pg.tables ee below (T23.setTop (mkF mm 54 #[.val (.int p0), .val (.long q0), .second, .val (.int (p0 &&& (3 : Int32))), .val (.ref aUNTIL_CLOSE), .unset, .unset] [(.long q0), (.ref aUNTIL_CLOSE), (.ref b23), (.ref b23)])) _
          refine st24.trans ?_
          show Steps pg.tables ee below (T24.setTop (mkF mm 57 #[.val (.int p0), .val (.long q0), .second, .val (.int (p0 &&& (3 : Int32))), .val (.ref aUNTIL_CLOSE), .unset, .unset] [(.ref b23)])) _
          refine XS.astore X24.here hx rfl (hb hby at_57) rfl rfl (l' := #[.val (.int p0), .val (.long q0), .second, .val (.int (p0 &&& (3 : Int32))), .val (.ref aUNTIL_CLOSE), .val (.ref b23), .unset]) rfl ?_
          show Steps pg.tables ee below (T24.setTop (mkF mm 59 #[.val (.int p0), .val (.long q0), .second, .val (.int (p0 &&& (3 : Int32))), .val (.ref aUNTIL_CLOSE), .val (.ref b23), .unset] [])) _
          refine XS.iloadN X24.here hx rfl (hb hby at_59) rfl ?_
          show Steps pg.tables ee below (T24.setTop (mkF mm 60 #[.val (.int p0), .val (.long q0), .second, .val (.int (p0 &&& (3 : Int32))), .val (.ref aUNTIL_CLOSE), .val (.ref b23), .unset] [(.int (p0 &&& (3 : Int32)))])) _
          refine XS.ifYes X24.here hx rfl (pc0 := 60) (pc' := 69) rfl (hb hby at_60) rfl ((if0 _ _).trans (feq hc2).2) (by decide) (by decide) ?_
          show Steps pg.tables ee below (T24.setTop (mkF mm 69 #[.val (.int p0), .val (.long q0), .second, .val (.int (p0 &&& (3 : Int32))), .val (.ref aUNTIL_CLOSE), .val (.ref b23), .unset] [])) _
          refine XS.iloadN X24.here hx rfl (hb hby at_69) rfl ?_
          show Steps pg.tables ee below (T24.setTop (mkF mm 70 #[.val (.int p0), .val (.long q0), .second, .val (.int (p0 &&& (3 : Int32))), .val (.ref aUNTIL_CLOSE), .val (.ref b23), .unset] [(.int (p0 &&& (3 : Int32)))])) _
          refine XS.iconst X24.here hx rfl (hb hby at_70) ?_
          show Steps pg.tables ee below (T24.setTop (mkF mm 71 #[.val (.int p0), .val (.long q0), .second, .val (.int (p0 &&& (3 : Int32))), .val (.ref aUNTIL_CLOSE), .val (.ref b23), .unset] [(.int (1 : Int32)), (.int (p0 &&& (3 : Int32)))])) _
          refine XS.icmpYes X24.here hx rfl (pc0 := 71) (pc' := 90) rfl (hb hby at_71) rfl (feq hc8).2 (by decide) (by decide) ?_
          show Steps pg.tables ee below (T24.setTop (mkF mm 90 #[.val (.int p0), .val (.long q0), .second, .val (.int (p0 &&& (3 : Int32))), .val (.ref aUNTIL_CLOSE), .val (.ref b23), .unset] [])) _
          refine XS.iconst X24.here hx rfl (hb hby at_90) ?_
          show Steps pg.tables ee below (T24.setTop (mkF mm 91 #[.val (.int p0), .val (.long q0), .second, .val (.int (p0 &&& (3 : Int32))), .val (.ref aUNTIL_CLOSE), .val (.ref b23), .unset] [(.int (0 : Int32))])) _
          refine XS.istore X24.here hx rfl (hb hby at_91) rfl (l' := #[.val (.int p0), .val (.long q0), .second, .val (.int (p0 &&& (3 : Int32))), .val (.ref aUNTIL_CLOSE), .val (.ref b23), .val (.int (0 : Int32))]) rfl ?_
          show Steps pg.tables ee below (T24.setTop (mkF mm 93 #[.val (.int p0), .val (.long q0), .second, .val (.int (p0 &&& (3 : Int32))), .val (.ref aUNTIL_CLOSE), .val (.ref b23), .val (.int (0 : Int32))] [])) _
          refine XS.aload X24.here hx rfl (hb hby at_93) rfl rfl ?_
          show Steps pg.tables ee below (T24.setTop (mkF mm 95 #[.val (.int p0), .val (.long q0), .second, .val (.int (p0 &&& (3 : Int32))), .val (.ref aUNTIL_CLOSE), .val (.ref b23), .val (.int (0 : Int32))] [(.ref b23)])) _
          refine st25.trans ?_
          show Steps pg.tables ee below (T25.setTop (mkF mm 98 #[.val (.int p0), .val (.long q0), .second, .val (.int (p0 &&& (3 : Int32))), .val (.ref aUNTIL_CLOSE), .val (.ref b23), .val (.int (0 : Int32))] [(.int (0 : Int32))])) _
          refine XS.iload X25.here hx rfl (hb hby at_98) rfl ?_
          show Steps pg.tables ee below (T25.setTop (mkF mm 100 #[.val (.int p0), .val (.long q0), .second, .val (.int (p0 &&& (3 : Int32))), .val (.ref aUNTIL_CLOSE), .val (.ref b23), .val (.int (0 : Int32))] [(.int (0 : Int32)), (.int (0 : Int32))])) _
          refine XS.icmpNo X25.here hx rfl (hb hby at_100) rfl (teq (by decide : (0 : Int32) = (0 : Int32))).2 ?_
          show Steps pg.tables ee below (T25.setTop (mkF mm 103 #[.val (.int p0), .val (.long q0), .second, .val (.int (p0 &&& (3 : Int32))), .val (.ref aUNTIL_CLOSE), .val (.ref b23), .val (.int (0 : Int32))] [])) _
          refine XS.iconst X25.here hx rfl (hb hby at_103) ?_
          show Steps pg.tables ee below (T25.setTop (mkF mm 104 #[.val (.int p0), .val (.long q0), .second, .val (.int (p0 &&& (3 : Int32))), .val (.ref aUNTIL_CLOSE), .val (.ref b23), .val (.int (0 : Int32))] [(.int (1 : Int32))])) _
          refine XS.goto X25.here hx rfl (pc0 := 104) (pc' := 108) rfl (hb hby at_104) (by decide) (by decide) ?_
          show Steps pg.tables ee below (T25.setTop (mkF mm 108 #[.val (.int p0), .val (.long q0), .second, .val (.int (p0 &&& (3 : Int32))), .val (.ref aUNTIL_CLOSE), .val (.ref b23), .val (.int (0 : Int32))] [(.int (1 : Int32))])) _
          exact retN X25 hx (t := .boolean) Bd.returns (by simp) (hb hby at_108) hr
        · show Qrm0 Z p0 q0 aNONE aLENGTH aCHUNKED aUNTIL_CLOSE h0 n0 _ T25.heap _
          rw [e25]
          exact ⟨rfl, N25⟩
set_option maxRecDepth 65536 in
set_option maxHeartbeats 40000000 in
theorem comes_1 {Post : Tables → Env → Array Value → State → Outcome → State → Prop} (hpost : ∀ tb e args s v u, (limb_1_1.after args s (.returned v) u = true ∧ limb_1_2.after args s (.returned v) u = true ∧ True) → FrameEnd s (.returned v) u (Jvm.fieldLocs frame_1_writes args s ++ Jvm.arrayLocs frame_1_arrays args s ++ Jvm.staticLocs frame_1_statics s) 16 128 → Post tb e args s (.returned v) u) :
    ArmFor flags0 classFile x code maxLocals ret World_1 tables_1 room_1 Calls_1 rest_1 Pre_1 Post := by
  intro l hfl _ _ p e ha hc hk s m args below hf hA hF happ hP
  obtain ⟨hcalls, hrest, hpre⟩ := hP
  obtain ⟨-, -, -, hnamed, -, -, -, hat⟩ := (Spec.applies_iff hf).mp happ
  obtain ⟨hg, hn⟩ := and_e (Cond.before_iff.mp (show (Jvm.Cond.and given_1 narrow_1).before args s = true from hpre))
  obtain ⟨gg1, gg2⟩ := and_e hg
  obtain ⟨gg3, gg4⟩ := and_e gg2
  obtain ⟨w0, w1, rfl⟩ : ∃ w0 w1 : Value, args = #[w0, w1] := by
    have hs : args.size = 2 := by simpa [Cond.value, given_1] using gg1
    obtain ⟨L⟩ := args
    match L, hs with
    | [w0, w1], _ => exact ⟨w0, w1, rfl⟩
  have hw := fun d (hd : d ∈ tables_1) => atoms_spec (ws := Jvm.Cond.code x code maxLocals ret :: tables_1) hat d (List.mem_cons_of_mem _ hd)
  have hfit : Fit s := fun {y c} hc i hi => by
    obtain ⟨ha, rfl⟩ := Array.getElem?_eq_some_iff.mp hc
    have q := List.all_eq_true.mp ((Array.all_eq_true_iff_forall_mem.mp hF) _ (Array.getElem_mem ha)) i (List.mem_range.mpr hi)
    simpa [Array.getElem?_eq_getElem hi] using q
  obtain ⟨i0, ei0⟩ := is_v gg3
  obtain rfl : w0 = (.int i0) := Option.some.inj ei0
  obtain ⟨i1, ei1⟩ := isL_v gg4
  obtain rfl : w1 = (.long i1) := Option.some.inj ei1
  obtain ⟨gg5, gg6⟩ := and_e hn
  obtain ⟨gg7, gg8⟩ := and_e gg6
  obtain ⟨gg9, gg10⟩ := and_e gg8
  obtain ⟨gg11, gg12⟩ := and_e gg10
  obtain ⟨gg13, gg14⟩ := and_e gg12
  obtain ⟨gg15, gg16⟩ := and_e gg14
  obtain ⟨gg17, gg18⟩ := and_e gg16
  obtain ⟨a_NONE, ev_NONE⟩ := exa_v gg5
  have E_NONE := Exa.start ev_NONE gg5
  have S_NONE := Sta.start ev_NONE (Or.inr ⟨(hw _ (List.mem_of_getElem? (i := 1) rfl)), (hw _ (List.mem_of_getElem? (i := 2) rfl))⟩)
  obtain ⟨a_LENGTH, ev_LENGTH⟩ := exa_v gg7
  have E_LENGTH := Exa.start ev_LENGTH gg7
  have S_LENGTH := Sta.start ev_LENGTH (Or.inr ⟨(hw _ (List.mem_of_getElem? (i := 1) rfl)), (hw _ (List.mem_of_getElem? (i := 28) rfl))⟩)
  obtain ⟨a_CHUNKED, ev_CHUNKED⟩ := exa_v gg13
  have E_CHUNKED := Exa.start ev_CHUNKED gg13
  have S_CHUNKED := Sta.start ev_CHUNKED (Or.inr ⟨(hw _ (List.mem_of_getElem? (i := 1) rfl)), (hw _ (List.mem_of_getElem? (i := 31) rfl))⟩)
  obtain ⟨a_UNTIL_CLOSE, ev_UNTIL_CLOSE⟩ := exa_v gg17
  have E_UNTIL_CLOSE := Exa.start ev_UNTIL_CLOSE gg17
  have S_UNTIL_CLOSE := Sta.start ev_UNTIL_CLOSE (Or.inr ⟨(hw _ (List.mem_of_getElem? (i := 1) rfl)), (hw _ (List.mem_of_getElem? (i := 33) rfl))⟩)
  have F_LENGTH_ordinal := own_fld ev_LENGTH gg9
  have F_NONE_ordinal := own_fld ev_NONE gg11
  have F_CHUNKED_ordinal := own_fld ev_CHUNKED gg15
  have F_UNTIL_CLOSE_ordinal := own_fld ev_UNTIL_CLOSE gg18
  obtain ⟨n, o, h1, h2, h3, _, L, rfl, ⟨rfl, N⟩, hq⟩ := rm0 l s _ hw tables_1 i0 i1 a_NONE a_LENGTH a_CHUNKED a_UNTIL_CLOSE s.heap s.heap.size (Old.start s) S_NONE S_LENGTH S_CHUNKED S_UNTIL_CLOSE E_NONE E_LENGTH E_CHUNKED E_UNTIL_CLOSE (F_LENGTH_ordinal.ne F_NONE_ordinal (by decide)) (F_CHUNKED_ordinal.ne F_NONE_ordinal (by decide)) (F_CHUNKED_ordinal.ne F_LENGTH_ordinal (by decide)) (F_UNTIL_CLOSE_ordinal.ne F_NONE_ordinal (by decide)) (F_UNTIL_CLOSE_ordinal.ne F_LENGTH_ordinal (by decide)) p e ha hc hk s m _ below hf ((Spec.applies_iff_loose hf).mp happ).1 ⟨rfl, State.Warmed39.refl s, rfl⟩ trivial
  refine ⟨n, _, h1, h2, h3, hpost _ _ _ _ _ _ ⟨Cond.after_iff.mpr rfl, Cond.after_iff.mpr (eq_i res_at (Term.int_eval (1)) rfl), trivial⟩ ⟨hq.1, hq.2.1, (hq.2.2.sift fun y hy => Or.inr (N y hy)).mono (by decide) (by decide)⟩⟩
theorem main_1_1 : Claimed_1_1 := comes_1 fun _ _ _ _ _ _ h hF => ⟨h.1, hF⟩
theorem main_1_2 : Claimed_1_2 := comes_1 fun _ _ _ _ _ _ h hF => ⟨h.2.1, hF⟩
end Jvm.Pilot.@@N@@
namespace Jvm.Pilot.@@N@@
open Jvm Jvm.ClassFile Sem Op Lib Jvm.Free Jvm.Stand Jvm.Pilot.@@N@@.Jvm.D
/-! MADE BY PROGRAM (witnessworld.py) out of the Statement's table words and the real class files: 14 classes; the members and pool entries that the words name. The judged class is class 1, her method 1. -/
namespace start1
open Jvm.ClassFile
def u (s : String) : CpInfo := .utf8 (stringToUtf16 s)
/-- a pool by its gaps: so many unusable entries, then the entry; so many at the end -/
def gap : Nat → List CpInfo → List CpInfo
  | 0, r => r
  | n + 1, r => .unusable :: gap n r
def poolList (es : List (Nat × CpInfo)) (last : Nat) : List CpInfo := es.foldr (fun e r => gap e.1 (e.2 :: r)) (gap last [])
def pool (es : List (Nat × CpInfo)) (last : Nat) : Array CpInfo := ⟨poolList es last⟩
def fileOf (pool : Array CpInfo) (this : Nat) (attrs : Array Attribute := #[]) (ms : Array MethodInfo := #[]) (fl : Nat := 33) (sup : Nat := 0) (ifs : Array Nat := #[]) (fds : Array FieldInfo := #[]) : ClassFile where
  minorVersion := 0
  majorVersion := 65
  constantPool := pool
  accessFlags := fl
  thisClass := this
  superClass := sup
  interfaces := ifs
  fields := fds
  methods := ms
  attributes := attrs
def plain (name : String) (sup : Option ClassId) : Class where
  name := name
  kind := .ordinary
  loader := none
  accessFlags := 33
  super := sup
  interfaces := #[]
  cf := none
  fields := #[]
  methods := #[]
  instanceTypes := #[]
  staticTypes := #[]
  resolved := #[]
  callSites := []
  init := .initialized
  statics := none
  mirror := none

def pool0 : Array CpInfo := pool [(5, u "<init>"), (0, u "()V"), (1, .class_ 10), (1, u "java/lang/Object")] 113

def k0c0 : Code := { maxStack := 0, maxLocals := 1, code := object_method_1_code, exceptionTable := #[], attributes := #[] }
def k0m0 : Method := { name := "<init>", desc := "()V", sig := { parameters := [], returnType := none }, accessFlags := 1, code := some k0c0 }
/-- java/lang/Object -/
def k0 : Class := { plain "java/lang/Object" none with
  accessFlags := 33
  interfaces := #[]
  cf := some (fileOf pool0 8 #[] #[{ accessFlags := 1, nameIndex := 5, descriptorIndex := 6, attributes := #[] }] 33 0 #[] #[])
  fields := #[]
  methods := #[k0m0]
  instanceTypes := #[]
  staticTypes := #[]
  resolved := Array.replicate 124 none
  statics := none }

def pool1 : Array CpInfo := pool [(2, .class_ 4), (1, u "java/lang/Object"), (0, u "<init>"), (0, u "()V"), (0, .fieldref 8 9), (0, .class_ 10), (0, .nameAndType 11 12), (0, u "com/example/waxwing/waxwing/http/MessageReader$Body"), (0, u "NONE"), (0, u "Lcom/example/waxwing/waxwing/http/MessageReader$Body;"), (0, .fieldref 8 14), (0, .nameAndType 15 12), (0, u "LENGTH"), (0, .fieldref 8 17), (0, .nameAndType 18 12), (0, u "CHUNKED"), (0, .fieldref 8 20), (0, .nameAndType 21 12), (0, u "UNTIL_CLOSE"), (0, .class_ 23), (0, u "com/example/waxwing/waxwing/http/MessageReader$Framing"), (0, .methodref 22 25), (0, .nameAndType 5 26), (0, u "(Lcom/example/waxwing/waxwing/http/MessageReader$Body;J)V"), (0, .methodref 22 28), (0, .nameAndType 29 30), (0, u "empty"), (0, u "()Z"), (0, .class_ 32), (0, u "com/example/waxwing/waxwing/http/FramingEmptyPinLaw"), (2, u "law"), (0, u "(IJ)Z")] 8

def k1m0 : Method := { name := "<init>", desc := "()V", sig := { parameters := [], returnType := none }, accessFlags := 2, code := none }
def k1c1 : Code := { maxStack := 5, maxLocals := 7, code := code, exceptionTable := #[], attributes := #[] }
def k1m1 : Method := { name := "law", desc := "(IJ)Z", sig := { parameters := [.int, .long], returnType := some .boolean }, accessFlags := 9, code := some k1c1 }
/-- com/example/waxwing/waxwing/http/FramingEmptyPinLaw -/
def k1 : Class := { plain "com/example/waxwing/waxwing/http/FramingEmptyPinLaw" (some 0) with
  accessFlags := 49
  interfaces := #[]
  cf := some (fileOf pool1 31 #[] #[{ accessFlags := 2, nameIndex := 5, descriptorIndex := 6, attributes := #[] }, { accessFlags := 9, nameIndex := 35, descriptorIndex := 36, attributes := #[] }] 49 2 #[] #[])
  fields := #[]
  methods := #[k1m0, k1m1]
  instanceTypes := #[]
  staticTypes := #[]
  resolved := Array.replicate 45 none
  statics := none }

def pool2 : Array CpInfo := pool [(1, .class_ 2), (0, u "java/lang/constant/Constable"), (0, .class_ 4), (0, u "java/lang/Object")] 6

/-- java/lang/constant/Constable -/
def k2 : Class := { plain "java/lang/constant/Constable" (some 0) with
  accessFlags := 1537
  interfaces := #[]
  cf := some (fileOf pool2 1 #[] #[] 1537 3 #[] #[])
  fields := #[]
  methods := #[]
  instanceTypes := #[]
  staticTypes := #[]
  resolved := Array.replicate 11 none
  statics := none }

def pool3 : Array CpInfo := pool [(1, .class_ 2), (0, u "java/lang/Comparable"), (0, .class_ 4), (0, u "java/lang/Object")] 7

/-- java/lang/Comparable -/
def k3 : Class := { plain "java/lang/Comparable" (some 0) with
  accessFlags := 1537
  interfaces := #[]
  cf := some (fileOf pool3 1 #[] #[] 1537 3 #[] #[])
  fields := #[]
  methods := #[]
  instanceTypes := #[]
  staticTypes := #[]
  resolved := Array.replicate 12 none
  statics := none }

def pool4 : Array CpInfo := pool [(1, .class_ 2), (0, u "java/io/Serializable"), (0, .class_ 4), (0, u "java/lang/Object")] 2

/-- java/io/Serializable -/
def k4 : Class := { plain "java/io/Serializable" (some 0) with
  accessFlags := 1537
  interfaces := #[]
  cf := some (fileOf pool4 1 #[] #[] 1537 3 #[] #[])
  fields := #[]
  methods := #[]
  instanceTypes := #[]
  staticTypes := #[]
  resolved := Array.replicate 7 none
  statics := none }

def pool5 : Array CpInfo := pool [(2, .class_ 4), (1, u "java/lang/Enum"), (0, u "name"), (0, u "Ljava/lang/String;"), (2, u "ordinal"), (0, u "I"), (1, .class_ 14), (1, u "java/lang/Object"), (4, u "hash"), (86, .class_ 108), (1, u "java/lang/Enum$EnumDesc"), (2, .class_ 112), (0, u "java/lang/constant/Constable"), (0, .class_ 114), (0, u "java/lang/Comparable"), (0, .class_ 116), (0, u "java/io/Serializable")] 87

/-- java/lang/Enum -/
def k5 : Class := { plain "java/lang/Enum" (some 0) with
  accessFlags := 1057
  interfaces := #[2, 3, 4]
  cf := some (fileOf pool5 2 #[.nestMembers #[106]] #[] 1057 12 #[111, 113, 115] #[{ accessFlags := 18, nameIndex := 5, descriptorIndex := 6, attributes := #[] }, { accessFlags := 18, nameIndex := 9, descriptorIndex := 10, attributes := #[] }, { accessFlags := 2, nameIndex := 19, descriptorIndex := 10, attributes := #[] }])
  fields := #[{ name := "name", type := (.object "java/lang/String"), accessFlags := 18, slot := 0, constantValue := 0 }, { name := "ordinal", type := .int, accessFlags := 18, slot := 1, constantValue := 0 }, { name := "hash", type := .int, accessFlags := 2, slot := 2, constantValue := 0 }]
  methods := #[]
  instanceTypes := #[(.object "java/lang/String"), .int, .int]
  staticTypes := #[]
  resolved := Array.replicate 204 none
  statics := none }

def pool6 : Array CpInfo := pool [(1, .class_ 2), (0, u "com/example/waxwing/waxwing/http/MessageReader$Body"), (2, u "NONE"), (0, u "Lcom/example/waxwing/waxwing/http/MessageReader$Body;"), (2, u "LENGTH"), (2, u "CHUNKED"), (2, u "UNTIL_CLOSE"), (2, u "$VALUES"), (0, u "[Lcom/example/waxwing/waxwing/http/MessageReader$Body;"), (6, .class_ 28), (1, u "java/lang/Enum"), (27, .class_ 57), (0, u "com/example/waxwing/waxwing/http/MessageReader")] 2

/-- com/example/waxwing/waxwing/http/MessageReader$Body -/
def k6 : Class := { plain "com/example/waxwing/waxwing/http/MessageReader$Body" (some 5) with
  accessFlags := 16432
  interfaces := #[]
  cf := some (fileOf pool6 1 #[.nestHost 56] #[] 16432 26 #[] #[{ accessFlags := 16409, nameIndex := 5, descriptorIndex := 6, attributes := #[] }, { accessFlags := 16409, nameIndex := 9, descriptorIndex := 6, attributes := #[] }, { accessFlags := 16409, nameIndex := 12, descriptorIndex := 6, attributes := #[] }, { accessFlags := 16409, nameIndex := 15, descriptorIndex := 6, attributes := #[] }, { accessFlags := 4122, nameIndex := 18, descriptorIndex := 19, attributes := #[] }])
  fields := #[{ name := "NONE", type := (.object "com/example/waxwing/waxwing/http/MessageReader$Body"), accessFlags := 16409, slot := 0, constantValue := 0 }, { name := "LENGTH", type := (.object "com/example/waxwing/waxwing/http/MessageReader$Body"), accessFlags := 16409, slot := 1, constantValue := 0 }, { name := "CHUNKED", type := (.object "com/example/waxwing/waxwing/http/MessageReader$Body"), accessFlags := 16409, slot := 2, constantValue := 0 }, { name := "UNTIL_CLOSE", type := (.object "com/example/waxwing/waxwing/http/MessageReader$Body"), accessFlags := 16409, slot := 3, constantValue := 0 }, { name := "$VALUES", type := (.array (.object "com/example/waxwing/waxwing/http/MessageReader$Body")), accessFlags := 4122, slot := 4, constantValue := 0 }]
  methods := #[]
  instanceTypes := #[(.object "java/lang/String"), .int, .int]
  staticTypes := #[(.object "com/example/waxwing/waxwing/http/MessageReader$Body"), (.object "com/example/waxwing/waxwing/http/MessageReader$Body"), (.object "com/example/waxwing/waxwing/http/MessageReader$Body"), (.object "com/example/waxwing/waxwing/http/MessageReader$Body"), (.array (.object "com/example/waxwing/waxwing/http/MessageReader$Body"))]
  resolved := Array.replicate 60 none
  statics := some 0 }

def pool7 : Array CpInfo := pool [(1, .methodref 2 3), (0, .class_ 4), (0, .nameAndType 5 6), (0, u "java/lang/Object"), (0, u "<init>"), (0, u "()V"), (0, .class_ 8), (0, u "java/lang/Record")] 13

def k7c0 : Code := { maxStack := 1, maxLocals := 1, code := jdk_30_method_1_code, exceptionTable := #[], attributes := #[] }
def k7m0 : Method := { name := "<init>", desc := "()V", sig := { parameters := [], returnType := none }, accessFlags := 4, code := some k7c0 }
/-- java/lang/Record -/
def k7 : Class := { plain "java/lang/Record" (some 0) with
  accessFlags := 1057
  interfaces := #[]
  cf := some (fileOf pool7 7 #[] #[{ accessFlags := 4, nameIndex := 5, descriptorIndex := 6, attributes := #[] }] 1057 2 #[] #[])
  fields := #[]
  methods := #[k7m0]
  instanceTypes := #[]
  staticTypes := #[]
  resolved := Array.replicate 22 none
  statics := none }

def pool8 : Array CpInfo := pool [(1, .methodref 2 3), (0, .class_ 4), (0, .nameAndType 5 6), (0, u "java/lang/Record"), (0, u "<init>"), (0, u "()V"), (0, .fieldref 8 9), (0, .class_ 10), (0, .nameAndType 11 12), (0, u "com/example/waxwing/waxwing/http/MessageReader$Framing"), (0, u "body"), (0, u "Lcom/example/waxwing/waxwing/http/MessageReader$Body;"), (0, .fieldref 8 14), (0, .nameAndType 15 16), (0, u "length"), (0, u "J"), (0, .fieldref 18 19), (0, .class_ 20), (0, .nameAndType 21 12), (0, u "com/example/waxwing/waxwing/http/MessageReader$Body"), (0, u "LENGTH"), (2, u "(Lcom/example/waxwing/waxwing/http/MessageReader$Body;J)V"), (0, .fieldref 18 26), (0, .nameAndType 27 12), (0, u "NONE"), (14, u "Lcom/example/waxwing/waxwing/http/MessageReader$Framing;"), (2, u "CHUNKED"), (4, u "UNTIL_CLOSE"), (6, u "empty"), (0, u "()Z"), (10, .class_ 70), (0, u "com/example/waxwing/waxwing/http/MessageReader")] 21

def k8c0 : Code := { maxStack := 3, maxLocals := 4, code := prog_19_method_1_code, exceptionTable := #[], attributes := #[] }
def k8m0 : Method := { name := "<init>", desc := "(Lcom/example/waxwing/waxwing/http/MessageReader$Body;J)V", sig := { parameters := [(.object "com/example/waxwing/waxwing/http/MessageReader$Body"), .long], returnType := none }, accessFlags := 0, code := some k8c0 }
def k8c1 : Code := { maxStack := 4, maxLocals := 1, code := prog_19_method_3_code, exceptionTable := #[], attributes := #[] }
def k8m1 : Method := { name := "empty", desc := "()Z", sig := { parameters := [], returnType := some .boolean }, accessFlags := 0, code := some k8c1 }
/-- com/example/waxwing/waxwing/http/MessageReader$Framing -/
def k8 : Class := { plain "com/example/waxwing/waxwing/http/MessageReader$Framing" (some 7) with
  accessFlags := 48
  interfaces := #[]
  cf := some (fileOf pool8 8 #[.nestHost 69] #[{ accessFlags := 0, nameIndex := 5, descriptorIndex := 24, attributes := #[] }, { accessFlags := 0, nameIndex := 57, descriptorIndex := 58, attributes := #[] }] 48 2 #[] #[{ accessFlags := 18, nameIndex := 11, descriptorIndex := 12, attributes := #[] }, { accessFlags := 18, nameIndex := 15, descriptorIndex := 16, attributes := #[] }, { accessFlags := 24, nameIndex := 27, descriptorIndex := 42, attributes := #[] }, { accessFlags := 24, nameIndex := 45, descriptorIndex := 42, attributes := #[] }, { accessFlags := 24, nameIndex := 50, descriptorIndex := 42, attributes := #[] }])
  fields := #[{ name := "body", type := (.object "com/example/waxwing/waxwing/http/MessageReader$Body"), accessFlags := 18, slot := 0, constantValue := 0 }, { name := "length", type := .long, accessFlags := 18, slot := 1, constantValue := 0 }, { name := "NONE", type := (.object "com/example/waxwing/waxwing/http/MessageReader$Framing"), accessFlags := 24, slot := 0, constantValue := 0 }, { name := "CHUNKED", type := (.object "com/example/waxwing/waxwing/http/MessageReader$Framing"), accessFlags := 24, slot := 1, constantValue := 0 }, { name := "UNTIL_CLOSE", type := (.object "com/example/waxwing/waxwing/http/MessageReader$Framing"), accessFlags := 24, slot := 2, constantValue := 0 }]
  methods := #[k8m0, k8m1]
  instanceTypes := #[(.object "com/example/waxwing/waxwing/http/MessageReader$Body"), .long]
  staticTypes := #[(.object "com/example/waxwing/waxwing/http/MessageReader$Framing"), (.object "com/example/waxwing/waxwing/http/MessageReader$Framing"), (.object "com/example/waxwing/waxwing/http/MessageReader$Framing")]
  resolved := Array.replicate 92 none
  statics := none }

def pool9 : Array CpInfo := pool [(1, u "java/lang/Cloneable"), (0, .class_ 1), (0, u "java/lang/Object"), (0, .class_ 3)] 3

/-- java/lang/Cloneable -/
def k9 : Class := { plain "java/lang/Cloneable" (some 0) with
  accessFlags := 1537
  interfaces := #[]
  cf := some (fileOf pool9 2 #[] #[] 1537 4 #[] #[])
  fields := #[]
  methods := #[]
  instanceTypes := #[]
  staticTypes := #[]
  resolved := Array.replicate 8 none
  statics := none }

/-- the primitive byte -/
def k10 : Class := { plain "byte" none with kind := .primitive 'B', accessFlags := 0x411 }
/-- [B -/
def k11 : Class := { plain "[B" (some 0) with kind := .array 10 .byte, interfaces := #[9, 4], accessFlags := 1041 }

/-- the primitive int -/
def k12 : Class := { plain "int" none with kind := .primitive 'I', accessFlags := 0x411 }
/-- [I -/
def k13 : Class := { plain "[I" (some 0) with kind := .array 12 .int, interfaces := #[9, 4], accessFlags := 1041 }

def heap : Heap := #[{ cls := 6, slots := #[.ref 1, .ref 2, .ref 3, .ref 4, .null], vm := .statics 6 },
  { cls := 6, slots := #[.null, .int 0, .int 0], vm := .none },
  { cls := 6, slots := #[.null, .int 1, .int 0], vm := .none },
  { cls := 6, slots := #[.null, .int 2, .int 0], vm := .none },
  { cls := 6, slots := #[.null, .int 3, .int 0], vm := .none }]
def classes : Array Class := #[k0, k1, k2, k3, k4, k5, k6, k7, k8, k9, k10, k11, k12, k13]
def interned : List (Array UInt16 × Addr) := []
def slotsUsed : Nat := 17
def theMethod : MethodId := ⟨1, 1⟩
def args0 : Array Value := #[.int 5, .long 6]
def aboutOver (below : List Frame) : State where
  vm := { classes := classes, interned := interned.toArray }
  heap := heap
  slotsUsed := slotsUsed
  threads := #[{ frames := .invoking theMethod args0 :: below }]
def below0 : List Frame := [.native { method := ⟨0, 0⟩, args := #[] }]
def about1 : State := aboutOver below0
def p0 : Program := .bare "" "" ""
def e0 : Env := launch0.env 0 0 0
theorem w_frames : about1.frames = Frame.invoking theMethod args0 :: below0 := rfl
set_option maxRecDepth 65536 in
theorem w_args : argsFit about1.vm theMethod args0 = true := by decide +kernel
set_option maxRecDepth 65536 in
theorem w_heap : heapFits about1 = true := by decide +kernel
set_option maxRecDepth 65536 in
theorem w_runnable : about1.curStatus? = some .runnable := by decide +kernel
set_option maxRecDepth 65536 in
theorem w_alone : about1.alone = true := by decide +kernel
set_option maxRecDepth 65536 in
theorem w_named : about1.methodNamed? x = some theMethod := by decide +kernel
set_option maxRecDepth 65536 in
theorem w_hears : about1.hears theMethod below0 = true := by decide +kernel
set_option maxRecDepth 65536 in
theorem w_ripe : about1.ripe theMethod args0 below0 = true := by decide +kernel
theorem w_running : about1.status = .running := rfl
set_option maxRecDepth 65536 in
theorem w_room : about1.hasRoom e0.platform room_1 = true :=
  launch0.hasRoom_least _ room_1 (by decide +kernel) (by decide +kernel) (by decide +kernel) (by decide +kernel) (by decide +kernel) (by decide +kernel)
theorem allAtoms_all (ts : List Jvm.Cond) (a : Array Jvm.Value) (st : Jvm.State) : (allAtoms ts).before a st = ts.all (fun c => c.before a st) := by
  induction ts with
  | nil => rfl
  | cons c t ih =>
    show (Jvm.Cond.and c (allAtoms t)).before a st = _
    rw [Jvm.Cond.before_and, ih, List.all_cons]
def words1 : List Jvm.Cond := Jvm.Cond.code x code maxLocals ret :: tables_1
/-- a 'code' word, met by the world's own term for the bytes: nothing is compared byte by byte -/
theorem code_word {y : MethodName} {bytes : ByteArray} {mx : Nat} {rt : Option FieldType} {a : Array Value} {s : State} {m : MethodId} {meth : Method} {c : Code} (h1 : s.methodNamed? y = some m) (h2 : s.vm.method? m = some meth) (h3 : meth.code = some c) (h4 : c.code = bytes)
    (h5 : (c.maxLocals == mx && c.exceptionTable.isEmpty && decide (c.maxStack ≤ mostOperands) && decide (meth.sig.returnType = rt) && !meth.locks && decide (parseMethodDescriptor y.desc = some meth.sig)) = true) : (Jvm.Cond.code y bytes mx rt).before a s = true := by
  simp only [Bool.and_eq_true, beq_iff_eq, Bool.not_eq_true', decide_eq_true_eq] at h5
  obtain ⟨⟨⟨⟨⟨g1, g2⟩, g3⟩, g4⟩, g5⟩, g6⟩ := h5
  simp [Cond.before, Cond.holds, Cond.value, h1, h2, h3, h4, g1, g2, g3, g4, g5, g6]
def isCode : Jvm.Cond → Bool
  | .code _ _ _ _ => true
  | _ => false
theorem all_split {L : List Jvm.Cond} {P : Jvm.Cond → Bool} (h1 : L.all (fun c => isCode c || P c) = true) (h2 : ∀ c ∈ L.filter isCode, P c = true) : L.all P = true := by
  refine List.all_eq_true.mpr fun c hc => ?_
  have h := List.all_eq_true.mp h1 c hc
  rcases Bool.eq_false_or_eq_true (isCode c) with hi | hi
  · exact h2 c (List.mem_filter.mpr ⟨hc, hi⟩)
  · simpa [hi] using h
set_option maxRecDepth 65536 in
theorem w_c0 : (Jvm.Cond.code x code maxLocals ret).before args0 about1 = true := code_word (m := ⟨1, 1⟩) (meth := k1m1) (c := k1c1) (by decide +kernel) rfl rfl rfl (by decide +kernel)
set_option maxRecDepth 65536 in
theorem w_c1 : (Jvm.Cond.code ({ cls := "com/example/waxwing/waxwing/http/MessageReader$Framing", name := "<init>", desc := "(Lcom/example/waxwing/waxwing/http/MessageReader$Body;J)V" } : Jvm.MethodName) prog_19_method_1_code (4 : Nat) (Option.none : Option Jvm.ClassFile.FieldType)).before args0 about1 = true := code_word (m := ⟨8, 0⟩) (meth := k8m0) (c := k8c0) (by decide +kernel) rfl rfl rfl (by decide +kernel)
set_option maxRecDepth 65536 in
theorem w_c2 : (Jvm.Cond.code ({ cls := "java/lang/Record", name := "<init>", desc := "()V" } : Jvm.MethodName) jdk_30_method_1_code (1 : Nat) (Option.none : Option Jvm.ClassFile.FieldType)).before args0 about1 = true := code_word (m := ⟨7, 0⟩) (meth := k7m0) (c := k7c0) (by decide +kernel) rfl rfl rfl (by decide +kernel)
set_option maxRecDepth 65536 in
theorem w_c3 : (Jvm.Cond.code ({ cls := "java/lang/Object", name := "<init>", desc := "()V" } : Jvm.MethodName) object_method_1_code (1 : Nat) (Option.none : Option Jvm.ClassFile.FieldType)).before args0 about1 = true := code_word (m := ⟨0, 0⟩) (meth := k0m0) (c := k0c0) (by decide +kernel) rfl rfl rfl (by decide +kernel)
set_option maxRecDepth 65536 in
theorem w_c4 : (Jvm.Cond.code ({ cls := "com/example/waxwing/waxwing/http/MessageReader$Framing", name := "empty", desc := "()Z" } : Jvm.MethodName) prog_19_method_3_code (1 : Nat) (Option.some Jvm.ClassFile.FieldType.boolean)).before args0 about1 = true := code_word (m := ⟨8, 1⟩) (meth := k8m1) (c := k8c1) (by decide +kernel) rfl rfl rfl (by decide +kernel)
def codes1 : List Jvm.Cond := [Jvm.Cond.code x code maxLocals ret, Jvm.Cond.code ({ cls := "com/example/waxwing/waxwing/http/MessageReader$Framing", name := "<init>", desc := "(Lcom/example/waxwing/waxwing/http/MessageReader$Body;J)V" } : Jvm.MethodName) prog_19_method_1_code (4 : Nat) (Option.none : Option Jvm.ClassFile.FieldType), Jvm.Cond.code ({ cls := "java/lang/Record", name := "<init>", desc := "()V" } : Jvm.MethodName) jdk_30_method_1_code (1 : Nat) (Option.none : Option Jvm.ClassFile.FieldType), Jvm.Cond.code ({ cls := "java/lang/Object", name := "<init>", desc := "()V" } : Jvm.MethodName) object_method_1_code (1 : Nat) (Option.none : Option Jvm.ClassFile.FieldType), Jvm.Cond.code ({ cls := "com/example/waxwing/waxwing/http/MessageReader$Framing", name := "empty", desc := "()Z" } : Jvm.MethodName) prog_19_method_3_code (1 : Nat) (Option.some Jvm.ClassFile.FieldType.boolean)]
set_option maxRecDepth 65536 in
theorem codes_eq : words1.filter isCode = codes1 := rfl
theorem w_codes : ∀ c ∈ words1.filter isCode, c.before args0 about1 = true := by
  rw [codes_eq]
  intro c hc
  simp only [codes1, List.mem_cons, List.not_mem_nil, or_false] at hc
  rcases hc with rfl | rfl | rfl | rfl | rfl
  · exact w_c0
  · exact w_c1
  · exact w_c2
  · exact w_c3
  · exact w_c4
set_option maxRecDepth 65536 in
theorem w_t1 : (words1.take 24).all (fun c => isCode c || c.before args0 about1) = true := by decide +kernel
set_option maxRecDepth 65536 in
theorem w_t2 : (words1.drop 24).all (fun c => isCode c || c.before args0 about1) = true := by decide +kernel
theorem w_tables : (allAtoms (Jvm.Cond.code x code maxLocals ret :: tables_1)).before args0 about1 = true := by
  rw [allAtoms_all]
  show words1.all (fun c => c.before args0 about1) = true
  refine all_split ?_ w_codes
  rw [← List.take_append_drop 24 words1, List.all_append, w_t1, w_t2]
  rfl
set_option maxRecDepth 65536 in
theorem w_case : (Jvm.Cond.and given_1 narrow_1).before args0 about1 = true := by decide +kernel
theorem w_applies : (headSpec (Jvm.Cond.code x code maxLocals ret :: tables_1) room_1).applies x e0.platform about1 = true :=
  (Spec.applies_iff w_frames).mpr ⟨w_running, w_runnable, w_alone, w_named, w_hears, w_ripe, w_room, w_tables⟩
theorem atStart : AtStart classFile x code maxLocals ret World_1 tables_1 room_1 Calls_1 rest_1 Pre_1 launch0 p0 e0 about1 theMethod args0 below0 :=
  ⟨lists_1, trivial, launch0.admits_env _ _ _, launch0.least_env, fairChoices_fair.cas, fairChoices_fair.clock, w_frames, w_args, w_heap, w_applies, trivial, trivial, w_case⟩
end start1
theorem witness_1 : WitnessClaimed_1 := ⟨start1.p0, start1.e0, start1.about1, start1.theMethod, start1.args0, start1.below0, start1.atStart⟩
end Jvm.Pilot.@@N@@
