import JvmDerived
import JvmDerived.Pilot.@@N@@Statement
import JvmDerived.Pilot.@@N@@Code
set_option linter.unusedVariables false
set_option linter.unusedSimpArgs false
namespace Jvm.Pilot.@@N@@
open Jvm Jvm.ClassFile Sem Op Lib Jvm.Free Jvm.Stand Jvm.LawKit Jvm.RoadKit Bundle Jvm.Pilot.@@N@@.Jvm.D
theorem own_eqi {s : State} {args : Array Value} {t : Term} {k : Int32} (h : (Jvm.Cond.eq t (Term.int k)).value args s none s [] = some true) : t.eval args s none [] s = some (.int k) := by
  obtain ⟨u, v, hu, hv, k1, k2⟩ := cmp_v (Or.inl h)
  obtain rfl : v = .int k := Option.some.inj (hv.symm.trans (Term.int_eval k))
  obtain ⟨z, rfl⟩ := k2
  rw [hu]
  simp [Cond.value, hu, hv] at h
  rw [h]
theorem own_fld {s : State} {args : Array Value} {t : Term} {C n d : String} {k : Int32} {x : Addr} (ev : t.eval args s none [] s = some (.ref x)) (h : (Jvm.Cond.eq (Term.field t C n d) (Term.int k)).value args s none s [] = some true) : Fld s s.heap x C n d (.int k) := by
  have hu := own_eqi h
  rw [fld_at ev] at hu
  exact Fld.start hu
theorem d3_0 : decode jdk_30_method_1_code 0 = .ok (.aload_n 0, 1) := by decide +kernel
theorem d3_1 : decode jdk_30_method_1_code 1 = .ok (.invokespecial 1, 3) := by decide +kernel
theorem d3_4 : decode jdk_30_method_1_code 4 = .ok (.return_, 1) := by decide +kernel
theorem pn_3 : plainName "java/lang/Record" = true := by first | (simp [plainName, overriddenIn]; done) | decide +kernel
theorem ef_3_4 (m : MethodId) (x0 : Addr) : entryFrame m #[(.ref x0)] 1 = mkF m 0 #[.val (.ref x0)] [] := by first | (simp [entryFrame, mkF, argsToLocals, Value.category]; done) | rfl
def QrmRec (Z : State) (a : Addr) (h0 : Heap) (n0 : Nat) (v : Option Value) (h : Heap) (L : List Loc) : Prop := v = none ∧ Fr n0 L ∧ h = h0
set_option maxRecDepth 65536 in
set_option maxHeartbeats 40000000 in
theorem rmRec (l : Launch) (Z : State) (a0 : Array Value) (hw : ∀ d ∈ tables_1, d.before a0 Z = true) (ws : List Jvm.Cond) (a : Addr) (h0 : Heap) (n0 : Nat) (O0 : Old Z n0 h0)  :
    MetFree l (⟨"java/lang/Record", "<init>", "()V"⟩ : MethodName) (head1 (Jvm.Cond.code (⟨"java/lang/Record", "<init>", "()V"⟩ : MethodName) jdk_30_method_1_code 1 none :: ws) ({ frames := 1, cells := 0, slots := 0, locals := 12 } : Room)) (fun a_ U_ => a_ = #[(.ref a)] ∧ Z.Warmed39 U_.vm ∧ U_.heap = h0) (fun _ _ _ _ _ => True) (fun _ U_ o_ U'_ => ∃ v_ L_, o_ = .returned v_ ∧ QrmRec Z a h0 n0 v_ U'_.heap L_ ∧ FrameEnd U_ o_ U'_ L_ ({ frames := 1, cells := 0, slots := 0, locals := 12 } : Room).cells ({ frames := 1, cells := 0, slots := 0, locals := 12 } : Room).slots) := by
  refine MetFree.of_bodySF (plainFor_of_name pn_3) hisR ?_
  intro pg ee s mm args below meth cc s₁ Bd hml0 hP hK
  obtain ⟨rfl, hZ, hh⟩ := hP
  have hx := Bd.exec
  have hby := Bd.bytes
  have hml : cc.maxLocals = 1 := hml0
  have hown : s.vm.findClass "java/lang/Record" = some mm.cls := findClass_of_methodNamed Bd.named
  have hnm := (name_of_methodNamed Bd.named Bd.method).1
  have X0 : Stand pg l ee ({ frames := 1, cells := 0, slots := 0, locals := 12 } : Room) s mm #[(.ref a)] below meth cc s₁ [] 0 0 := Stand.of_body Bd
  have e0 : s₁.heap = h0 := by rw [← hh, Bd.state]; rfl
  have N0 := Fr.nil n0
  have K0 : Keep h0 h0 ([] : List Addr) := Keep.refl _ _
  have pre0 : ∀ t, Steps pg.tables ee below (s₁.setTop (mkF mm 0 #[.val (.ref a)] [])) t → Steps pg.tables ee below (s₁.setTop (entryFrame mm #[(.ref a)] 1)) t := fun t k => castTop (ef_3_4 mm a) k
  obtain ⟨T1, X1, e1, st1⟩ := initO X0 hx hZ hown (hw _ (List.mem_of_getElem? (i := 18) rfl)) (hw _ (List.mem_of_getElem? (i := 19) rfl)) (hw _ (List.mem_of_getElem? (i := 20) rfl)) e0 (g := (mkF mm 1 #[.val (.ref a)] [(.ref a)])) rfl (by rw [hml]; rfl) rfl (hb hby d3_1) (by decide) (W := 0) (by show 2 * 0 + _ ≤ _; exact Nat.le_of_eq rfl) (by decide)
  obtain ⟨fs, hr, hrun, hended, hW, hsame⟩ := X1.leave (v := none) (fun _ => rfl)
  refine ⟨_, _, pre0 _ ?_, hrun, hended, _, _, rfl, ?_, ⟨_, rfl⟩, hW, hsame.mono (by decide) (by decide)⟩
  · show Steps pg.tables ee below (s₁.setTop (mkF mm 0 #[.val (.ref a)] [])) _
    refine XS.aloadN X0.here hx rfl (hb hby d3_0) rfl rfl ?_
    show Steps pg.tables ee below (s₁.setTop (mkF mm 1 #[.val (.ref a)] [(.ref a)])) _
    refine st1 _ ?_
    show Steps pg.tables ee below (T1.setTop (mkF mm 4 #[.val (.ref a)] [])) _
    exact X1.returnOut hx Bd.returns (hb hby d3_4) hr
  · show QrmRec Z a h0 n0 _ T1.heap _
    rw [e1]
    exact ⟨rfl, N0, rfl⟩
theorem d2_0 : decode prog_19_method_1_code 0 = .ok (.aload_n 0, 1) := by decide +kernel
theorem d2_1 : decode prog_19_method_1_code 1 = .ok (.invokespecial 1, 3) := by decide +kernel
theorem pd_7 : parseMethodDescriptor "()V" = some ⟨[], none⟩ := by decide +kernel
theorem d2_4 : decode prog_19_method_1_code 4 = .ok (.aload_n 0, 1) := by decide +kernel
theorem d2_5 : decode prog_19_method_1_code 5 = .ok (.aload_n 1, 1) := by decide +kernel
theorem d2_6 : decode prog_19_method_1_code 6 = .ok (.putfield 7, 3) := by decide +kernel
theorem d2_9 : decode prog_19_method_1_code 9 = .ok (.aload_n 0, 1) := by decide +kernel
theorem d2_10 : decode prog_19_method_1_code 10 = .ok (.lload_n 2, 1) := by decide +kernel
theorem d2_11 : decode prog_19_method_1_code 11 = .ok (.putfield 13, 3) := by decide +kernel
theorem d2_14 : decode prog_19_method_1_code 14 = .ok (.return_, 1) := by decide +kernel
theorem pn_15 : plainName "com/example/waxwing/waxwing/http/MessageReader$Framing" = true := by first | (simp [plainName, overriddenIn]; done) | decide +kernel
theorem ef_2_16 (m : MethodId) (x0 : Addr) (x1 : Addr) (x2 : Int64) : entryFrame m #[(.ref x0), (.ref x1), (.long x2)] 4 = mkF m 0 #[.val (.ref x0), .val (.ref x1), .val (.long x2), .second] [] := by first | (simp [entryFrame, mkF, argsToLocals, Value.category]; done) | rfl
def QrmI (Z : State) (a : Addr) (x : Addr) (q : Int64) (h0 : Heap) (n0 : Nat) (v : Option Value) (h : Heap) (L : List Loc) : Prop := v = none ∧ Fr n0 L ∧ Keep h0 h [a] ∧ Exa Z h a "com/example/waxwing/waxwing/http/MessageReader$Framing" ∧ Fld Z h a "com/example/waxwing/waxwing/http/MessageReader$Framing" "body" "Lcom/example/waxwing/waxwing/http/MessageReader$Body;" (.ref x) ∧ Fld Z h a "com/example/waxwing/waxwing/http/MessageReader$Framing" "length" "J" (.long q)
set_option maxRecDepth 65536 in
set_option maxHeartbeats 40000000 in
theorem rmI (l : Launch) (Z : State) (a0 : Array Value) (hw : ∀ d ∈ tables_1, d.before a0 Z = true) (ws : List Jvm.Cond) (a : Addr) (x : Addr) (q : Int64) (h0 : Heap) (n0 : Nat) (O0 : Old Z n0 h0) (E_a : Exa Z h0 a "com/example/waxwing/waxwing/http/MessageReader$Framing") (F_body_a : Fld Z h0 a "com/example/waxwing/waxwing/http/MessageReader$Framing" "body" "Lcom/example/waxwing/waxwing/http/MessageReader$Body;" .null) (F_length_a : Fld Z h0 a "com/example/waxwing/waxwing/http/MessageReader$Framing" "length" "J" (.long (0 : Int64))) (g_a : n0 ≤ a) :
    MetFree l (⟨"com/example/waxwing/waxwing/http/MessageReader$Framing", "<init>", "(Lcom/example/waxwing/waxwing/http/MessageReader$Body;J)V"⟩ : MethodName) (head1 (Jvm.Cond.code (⟨"com/example/waxwing/waxwing/http/MessageReader$Framing", "<init>", "(Lcom/example/waxwing/waxwing/http/MessageReader$Body;J)V"⟩ : MethodName) prog_19_method_1_code 4 none :: ws) ({ frames := 2, cells := 0, slots := 0, locals := 24 } : Room)) (fun a_ U_ => a_ = #[(.ref a), (.ref x), (.long q)] ∧ Z.Warmed39 U_.vm ∧ U_.heap = h0) (fun _ _ _ _ _ => True) (fun _ U_ o_ U'_ => ∃ v_ L_, o_ = .returned v_ ∧ QrmI Z a x q h0 n0 v_ U'_.heap L_ ∧ FrameEnd U_ o_ U'_ L_ ({ frames := 2, cells := 0, slots := 0, locals := 24 } : Room).cells ({ frames := 2, cells := 0, slots := 0, locals := 24 } : Room).slots) := by
  refine MetFree.of_bodySF (plainFor_of_name pn_15) hisR ?_
  intro pg ee s mm args below meth cc s₁ Bd hml0 hP hK
  obtain ⟨rfl, hZ, hh⟩ := hP
  have hx := Bd.exec
  have hby := Bd.bytes
  have hml : cc.maxLocals = 4 := hml0
  have hown : s.vm.findClass "com/example/waxwing/waxwing/http/MessageReader$Framing" = some mm.cls := findClass_of_methodNamed Bd.named
  have hnm := (name_of_methodNamed Bd.named Bd.method).1
  have X0 : Stand pg l ee ({ frames := 2, cells := 0, slots := 0, locals := 24 } : Room) s mm #[(.ref a), (.ref x), (.long q)] below meth cc s₁ [] 0 0 := Stand.of_body Bd
  have e0 : s₁.heap = h0 := by rw [← hh, Bd.state]; rfl
  have N0 := Fr.nil n0
  have K0 : Keep h0 h0 ([a] : List Addr) := Keep.refl _ _
  have pre0 : ∀ t, Steps pg.tables ee below (s₁.setTop (mkF mm 0 #[.val (.ref a), .val (.ref x), .val (.long q), .second] [])) t → Steps pg.tables ee below (s₁.setTop (entryFrame mm #[(.ref a), (.ref x), (.long q)] 4)) t := fun t k => castTop (ef_2_16 mm a x q) k
  obtain ⟨_, _, ⟨T1, L1, k1, n1⟩, -, X1, ⟨Lc1, hQ1, l1, y1, z1⟩, st1⟩ := X0.specialBack hx (y := (⟨"java/lang/Record", "<init>", "()V"⟩ : MethodName)) rfl hown (mvT hZ (hw _ (List.mem_of_getElem? (i := 13) rfl))) (mvT hZ (hw _ (List.mem_of_getElem? (i := 14) rfl))) (mvT hZ (hw _ (List.mem_of_getElem? (i := 17) rfl))) (by decide) (backOf (W := 0) (rmRec l Z a0 hw [] a h0 n0 O0) hZ (hw _ (List.mem_of_getElem? (i := 17) rfl)) (hw _ (List.mem_of_getElem? (i := 16) rfl)) (by decide) (by decide)) (g := (mkF mm 1 #[.val (.ref a), .val (.ref x), .val (.long q), .second] [(.ref a)])) rfl (by rw [hml]; rfl) (Steps.refl _) (a := a) (argsL := []) (rest := []) (lenOf pd_7 rfl) rfl (by show 2 * 0 + _ ≤ _; exact Nat.le_of_eq rfl) (hb hby d2_1) (fun _ _ => ⟨rfl, e0, (by decide : 0 + 0 ≤ _), (by decide : 0 + 0 ≤ _)⟩)
  dsimp only [Pt.U, Pt.locs, Pt.cells, Pt.slots] at X1 l1 y1 z1 st1 hQ1
  subst l1 y1 z1
  obtain ⟨rfl, N1q, e1⟩ := hQ1
  have N1 := Fr.app N0 N1q
  obtain ⟨T2, h2, X2, e2, W2, st2⟩ := putF X1 hx hZ hown (host := "") (Or.inl (hw _ (List.mem_of_getElem? (i := 21) rfl))) Via.refl e1 F_body_a E_a (Or.inr ⟨(hw _ (List.mem_of_getElem? (i := 22) rfl)), rfl, hnm⟩) (hw _ (List.mem_of_getElem? (i := 6) rfl)) (ty := (.object "com/example/waxwing/waxwing/http/MessageReader$Body")) (by decide) rfl rfl (g := (mkF mm 6 #[.val (.ref a), .val (.ref x), .val (.long q), .second] [(.ref x), (.ref a)])) rfl rfl (hb hby d2_6)
  have Fw2 : Fld Z h2 a "com/example/waxwing/waxwing/http/MessageReader$Framing" "body" "Lcom/example/waxwing/waxwing/http/MessageReader$Body;" (.ref x) := F_body_a.same W2
  have N2 := Fr.snoc X2 N1 g_a
  have O2 := O0.wr W2 g_a
  have KK2 := K0.wr W2 (Or.inl (by simp))
  obtain ⟨T3, h3, X3, e3, W3, st3⟩ := putF X2 hx hZ hown (host := "") (Or.inl (hw _ (List.mem_of_getElem? (i := 23) rfl))) Via.refl e2 (F_length_a.other W2 (Or.inr (slot_ne (Or.inr (hw _ (List.mem_of_getElem? (i := 24) rfl))) (Or.inr (hw _ (List.mem_of_getElem? (i := 22) rfl))) (by decide) (t := .long) (t' := (.object "com/example/waxwing/waxwing/http/MessageReader$Body")) (by decide) (by decide)))) (E_a.wr W2) (Or.inr ⟨(hw _ (List.mem_of_getElem? (i := 24) rfl)), rfl, hnm⟩) (hw _ (List.mem_of_getElem? (i := 6) rfl)) (ty := .long) (by decide) rfl rfl (g := (mkF mm 11 #[.val (.ref a), .val (.ref x), .val (.long q), .second] [(.long q), (.ref a)])) rfl rfl (hb hby d2_11)
  have Fw3 : Fld Z h3 a "com/example/waxwing/waxwing/http/MessageReader$Framing" "length" "J" (.long q) := (F_length_a.other W2 (Or.inr (slot_ne (Or.inr (hw _ (List.mem_of_getElem? (i := 24) rfl))) (Or.inr (hw _ (List.mem_of_getElem? (i := 22) rfl))) (by decide) (t := .long) (t' := (.object "com/example/waxwing/waxwing/http/MessageReader$Body")) (by decide) (by decide)))).same W3
  have N3 := Fr.snoc X3 N2 g_a
  have O3 := O2.wr W3 g_a
  have KK3 := KK2.wr W3 (Or.inl (by simp))
  obtain ⟨fs, hr, hrun, hended, hW, hsame⟩ := X3.leave (v := none) (fun _ => rfl)
  refine ⟨_, _, pre0 _ ?_, hrun, hended, _, _, rfl, ?_, ⟨_, rfl⟩, hW, hsame.mono (by decide) (by decide)⟩
  · show Steps pg.tables ee below (s₁.setTop (mkF mm 0 #[.val (.ref a), .val (.ref x), .val (.long q), .second] [])) _
    refine XS.aloadN X0.here hx rfl (hb hby d2_0) rfl rfl ?_
    show Steps pg.tables ee below (s₁.setTop (mkF mm 1 #[.val (.ref a), .val (.ref x), .val (.long q), .second] [(.ref a)])) _
    refine st1.trans ?_
    show Steps pg.tables ee below (T1.setTop (mkF mm 4 #[.val (.ref a), .val (.ref x), .val (.long q), .second] [])) _
    refine XS.aloadN X1.here hx rfl (hb hby d2_4) rfl rfl ?_
    show Steps pg.tables ee below (T1.setTop (mkF mm 5 #[.val (.ref a), .val (.ref x), .val (.long q), .second] [(.ref a)])) _
    refine XS.aloadN X1.here hx rfl (hb hby d2_5) rfl rfl ?_
    show Steps pg.tables ee below (T1.setTop (mkF mm 6 #[.val (.ref a), .val (.ref x), .val (.long q), .second] [(.ref x), (.ref a)])) _
    refine st2 _ ?_
    show Steps pg.tables ee below (T2.setTop (mkF mm 9 #[.val (.ref a), .val (.ref x), .val (.long q), .second] [])) _
    refine XS.aloadN X2.here hx rfl (hb hby d2_9) rfl rfl ?_
    show Steps pg.tables ee below (T2.setTop (mkF mm 10 #[.val (.ref a), .val (.ref x), .val (.long q), .second] [(.ref a)])) _
    refine XS.lloadN X2.here hx rfl (hb hby d2_10) rfl ?_
    show Steps pg.tables ee below (T2.setTop (mkF mm 11 #[.val (.ref a), .val (.ref x), .val (.long q), .second] [(.long q), (.ref a)])) _
    refine st3 _ ?_
    show Steps pg.tables ee below (T3.setTop (mkF mm 14 #[.val (.ref a), .val (.ref x), .val (.long q), .second] [])) _
    exact X3.returnOut hx Bd.returns (hb hby d2_14) hr
  · show QrmI Z a x q h0 n0 _ T3.heap _
    rw [e3]
    exact ⟨rfl, N3, KK3, ((E_a.wr W2).wr W3), (Fw2.other W3 (Or.inr (slot_ne (Or.inr (hw _ (List.mem_of_getElem? (i := 22) rfl))) (Or.inr (hw _ (List.mem_of_getElem? (i := 24) rfl))) (by decide) (t := (.object "com/example/waxwing/waxwing/http/MessageReader$Body")) (t' := .long) (by decide) (by decide)))), Fw3⟩
theorem d7_0 : decode prog_19_method_3_code 0 = .ok (.aload_n 0, 1) := by decide +kernel
theorem d7_1 : decode prog_19_method_3_code 1 = .ok (.getfield 7, 3) := by decide +kernel
theorem d7_4 : decode prog_19_method_3_code 4 = .ok (.getstatic 25, 3) := by decide +kernel
theorem d7_7 : decode prog_19_method_3_code 7 = .ok (.if_acmp .eq 22, 3) := by decide +kernel
theorem d7_29 : decode prog_19_method_3_code 29 = .ok (.iconst 1, 1) := by decide +kernel
theorem d7_30 : decode prog_19_method_3_code 30 = .ok (.goto 4, 3) := by decide +kernel
theorem d7_34 : decode prog_19_method_3_code 34 = .ok (.ireturn, 1) := by decide +kernel
theorem ef_7_24 (m : MethodId) (x0 : Addr) : entryFrame m #[(.ref x0)] 1 = mkF m 0 #[.val (.ref x0)] [] := by first | (simp [entryFrame, mkF, argsToLocals, Value.category]; done) | rfl
def QrmEN (Z : State) (a : Addr) (q : Int64) (aNONE : Addr) (aLENGTH : Addr) (h0 : Heap) (n0 : Nat) (v : Option Value) (h : Heap) (L : List Loc) : Prop := v = some (.int (1 : Int32)) ∧ Fr n0 L ∧ h = h0
set_option maxRecDepth 65536 in
set_option maxHeartbeats 40000000 in
theorem rmEN (l : Launch) (Z : State) (a0 : Array Value) (hw : ∀ d ∈ tables_1, d.before a0 Z = true) (ws : List Jvm.Cond) (a : Addr) (q : Int64) (aNONE : Addr) (aLENGTH : Addr) (h0 : Heap) (n0 : Nat) (O0 : Old Z n0 h0) (Fb : Fld Z h0 a "com/example/waxwing/waxwing/http/MessageReader$Framing" "body" "Lcom/example/waxwing/waxwing/http/MessageReader$Body;" (.ref aNONE)) (Fl : Fld Z h0 a "com/example/waxwing/waxwing/http/MessageReader$Framing" "length" "J" (.long q)) (S_NONE : Sta Z Z.heap "com/example/waxwing/waxwing/http/MessageReader$Body" "NONE" "Lcom/example/waxwing/waxwing/http/MessageReader$Body;" (.ref aNONE)) (S_LENGTH : Sta Z Z.heap "com/example/waxwing/waxwing/http/MessageReader$Body" "LENGTH" "Lcom/example/waxwing/waxwing/http/MessageReader$Body;" (.ref aLENGTH)) :
    MetFree l (⟨"com/example/waxwing/waxwing/http/MessageReader$Framing", "empty", "()Z"⟩ : MethodName) (head1 (Jvm.Cond.code (⟨"com/example/waxwing/waxwing/http/MessageReader$Framing", "empty", "()Z"⟩ : MethodName) prog_19_method_3_code 1 (some .boolean) :: ws) ({ frames := 0, cells := 0, slots := 0, locals := 0 } : Room)) (fun a_ U_ => a_ = #[(.ref a)] ∧ Z.Warmed39 U_.vm ∧ U_.heap = h0) (fun _ _ _ _ _ => True) (fun _ U_ o_ U'_ => ∃ v_ L_, o_ = .returned v_ ∧ QrmEN Z a q aNONE aLENGTH h0 n0 v_ U'_.heap L_ ∧ FrameEnd U_ o_ U'_ L_ ({ frames := 0, cells := 0, slots := 0, locals := 0 } : Room).cells ({ frames := 0, cells := 0, slots := 0, locals := 0 } : Room).slots) := by
  refine MetFree.of_bodySF (plainFor_of_name pn_15) hisR ?_
  intro pg ee s mm args below meth cc s₁ Bd hml0 hP hK
  obtain ⟨rfl, hZ, hh⟩ := hP
  have hx := Bd.exec
  have hby := Bd.bytes
  have hml : cc.maxLocals = 1 := hml0
  have hown : s.vm.findClass "com/example/waxwing/waxwing/http/MessageReader$Framing" = some mm.cls := findClass_of_methodNamed Bd.named
  have hnm := (name_of_methodNamed Bd.named Bd.method).1
  have X0 : Stand pg l ee ({ frames := 0, cells := 0, slots := 0, locals := 0 } : Room) s mm #[(.ref a)] below meth cc s₁ [] 0 0 := Stand.of_body Bd
  have e0 : s₁.heap = h0 := by rw [← hh, Bd.state]; rfl
  have N0 := Fr.nil n0
  have K0 : Keep h0 h0 ([] : List Addr) := Keep.refl _ _
  have pre0 : ∀ t, Steps pg.tables ee below (s₁.setTop (mkF mm 0 #[.val (.ref a)] [])) t → Steps pg.tables ee below (s₁.setTop (entryFrame mm #[(.ref a)] 1)) t := fun t k => castTop (ef_7_24 mm a) k
  obtain ⟨T1, X1, e1, st1⟩ := getF X0 hx hZ hown (host := "") (Or.inl (hw _ (List.mem_of_getElem? (i := 21) rfl))) Via.refl e0 Fb (g := (mkF mm 1 #[.val (.ref a)] [(.ref a)])) rfl rfl (hb hby d7_1)
  obtain ⟨T2, X2, e2, st2⟩ := getS2 X1 hx hZ hown (host := "") (Or.inl (hw _ (List.mem_of_getElem? (i := 41) rfl))) Via.refl e1 (S_NONE.ext O0.2) (g := (mkF mm 4 #[.val (.ref a)] [(.ref aNONE)])) rfl (hb hby d7_4)
  obtain ⟨fs, hr, hrun, hended, hW, hsame⟩ := X2.leave (v := some (.int (1 : Int32))) (fun h => by rw [Bd.returns] at h; cases h)
  refine ⟨_, _, pre0 _ ?_, hrun, hended, _, _, rfl, ?_, ⟨_, rfl⟩, hW, hsame.mono (by decide) (by decide)⟩
  · show Steps pg.tables ee below (s₁.setTop (mkF mm 0 #[.val (.ref a)] [])) _
    refine XS.aloadN X0.here hx rfl (hb hby d7_0) rfl rfl ?_
    show Steps pg.tables ee below (s₁.setTop (mkF mm 1 #[.val (.ref a)] [(.ref a)])) _
    refine st1 _ ?_
    show Steps pg.tables ee below (T1.setTop (mkF mm 4 #[.val (.ref a)] [(.ref aNONE)])) _
    refine st2 _ ?_
    show Steps pg.tables ee below (T2.setTop (mkF mm 7 #[.val (.ref a)] [(.ref aNONE), (.ref aNONE)])) _
    refine Jvm.RoadKit.acmp (g := (mkF mm 7 #[.val (.ref a)] [(.ref aNONE), (.ref aNONE)])) X2 hx rfl rfl rfl (pc0 := 7) (pc' := 29) (same := true) rfl (hb hby d7_7) rfl (decide_eq_true rfl) (by decide) (by decide) ?_
    show Steps pg.tables ee below (T2.setTop (mkF mm 29 #[.val (.ref a)] [])) _
    refine XS.iconst X2.here hx rfl (hb hby d7_29) ?_
    show Steps pg.tables ee below (T2.setTop (mkF mm 30 #[.val (.ref a)] [(.int (1 : Int32))])) _
    refine XS.goto X2.here hx rfl (pc0 := 30) (pc' := 34) rfl (hb hby d7_30) (by decide) (by decide) ?_
    show Steps pg.tables ee below (T2.setTop (mkF mm 34 #[.val (.ref a)] [(.int (1 : Int32))])) _
    exact retN X2 hx (t := .boolean) Bd.returns (by simp) (hb hby d7_34) hr
  · show QrmEN Z a q aNONE aLENGTH h0 n0 _ T2.heap _
    rw [e2]
    exact ⟨rfl, N0, rfl⟩
theorem d7_10 : decode prog_19_method_3_code 10 = .ok (.aload_n 0, 1) := by decide +kernel
theorem d7_11 : decode prog_19_method_3_code 11 = .ok (.getfield 7, 3) := by decide +kernel
theorem d7_14 : decode prog_19_method_3_code 14 = .ok (.getstatic 17, 3) := by decide +kernel
theorem d7_17 : decode prog_19_method_3_code 17 = .ok (.if_acmp .ne 16, 3) := by decide +kernel
theorem d7_20 : decode prog_19_method_3_code 20 = .ok (.aload_n 0, 1) := by decide +kernel
theorem d7_21 : decode prog_19_method_3_code 21 = .ok (.getfield 13, 3) := by decide +kernel
theorem d7_24 : decode prog_19_method_3_code 24 = .ok (.lconst 0, 1) := by decide +kernel
theorem d7_25 : decode prog_19_method_3_code 25 = .ok (.lcmp, 1) := by decide +kernel
theorem d7_26 : decode prog_19_method_3_code 26 = .ok (.ifCond .ne 7, 3) := by decide +kernel
def QrmEL1 (Z : State) (a : Addr) (q : Int64) (aNONE : Addr) (aLENGTH : Addr) (h0 : Heap) (n0 : Nat) (v : Option Value) (h : Heap) (L : List Loc) : Prop := v = some (.int (1 : Int32)) ∧ Fr n0 L ∧ h = h0
set_option maxRecDepth 65536 in
set_option maxHeartbeats 40000000 in
theorem rmEL1 (l : Launch) (Z : State) (a0 : Array Value) (hw : ∀ d ∈ tables_1, d.before a0 Z = true) (ws : List Jvm.Cond) (a : Addr) (q : Int64) (aNONE : Addr) (aLENGTH : Addr) (h0 : Heap) (n0 : Nat) (O0 : Old Z n0 h0) (Fb : Fld Z h0 a "com/example/waxwing/waxwing/http/MessageReader$Framing" "body" "Lcom/example/waxwing/waxwing/http/MessageReader$Body;" (.ref aLENGTH)) (Fl : Fld Z h0 a "com/example/waxwing/waxwing/http/MessageReader$Framing" "length" "J" (.long q)) (S_NONE : Sta Z Z.heap "com/example/waxwing/waxwing/http/MessageReader$Body" "NONE" "Lcom/example/waxwing/waxwing/http/MessageReader$Body;" (.ref aNONE)) (S_LENGTH : Sta Z Z.heap "com/example/waxwing/waxwing/http/MessageReader$Body" "LENGTH" "Lcom/example/waxwing/waxwing/http/MessageReader$Body;" (.ref aLENGTH)) (hNL : ¬ (aLENGTH = aNONE)) (hz : (lcmpW q (0 : Int64)) = (0 : Int32)) :
    MetFree l (⟨"com/example/waxwing/waxwing/http/MessageReader$Framing", "empty", "()Z"⟩ : MethodName) (head1 (Jvm.Cond.code (⟨"com/example/waxwing/waxwing/http/MessageReader$Framing", "empty", "()Z"⟩ : MethodName) prog_19_method_3_code 1 (some .boolean) :: ws) ({ frames := 0, cells := 0, slots := 0, locals := 0 } : Room)) (fun a_ U_ => a_ = #[(.ref a)] ∧ Z.Warmed39 U_.vm ∧ U_.heap = h0) (fun _ _ _ _ _ => True) (fun _ U_ o_ U'_ => ∃ v_ L_, o_ = .returned v_ ∧ QrmEL1 Z a q aNONE aLENGTH h0 n0 v_ U'_.heap L_ ∧ FrameEnd U_ o_ U'_ L_ ({ frames := 0, cells := 0, slots := 0, locals := 0 } : Room).cells ({ frames := 0, cells := 0, slots := 0, locals := 0 } : Room).slots) := by
  refine MetFree.of_bodySF (plainFor_of_name pn_15) hisR ?_
  intro pg ee s mm args below meth cc s₁ Bd hml0 hP hK
  obtain ⟨rfl, hZ, hh⟩ := hP
  have hx := Bd.exec
  have hby := Bd.bytes
  have hml : cc.maxLocals = 1 := hml0
  have hown : s.vm.findClass "com/example/waxwing/waxwing/http/MessageReader$Framing" = some mm.cls := findClass_of_methodNamed Bd.named
  have hnm := (name_of_methodNamed Bd.named Bd.method).1
  have X0 : Stand pg l ee ({ frames := 0, cells := 0, slots := 0, locals := 0 } : Room) s mm #[(.ref a)] below meth cc s₁ [] 0 0 := Stand.of_body Bd
  have e0 : s₁.heap = h0 := by rw [← hh, Bd.state]; rfl
  have N0 := Fr.nil n0
  have K0 : Keep h0 h0 ([] : List Addr) := Keep.refl _ _
  have pre0 : ∀ t, Steps pg.tables ee below (s₁.setTop (mkF mm 0 #[.val (.ref a)] [])) t → Steps pg.tables ee below (s₁.setTop (entryFrame mm #[(.ref a)] 1)) t := fun t k => castTop (ef_7_24 mm a) k
  obtain ⟨T1, X1, e1, st1⟩ := getF X0 hx hZ hown (host := "") (Or.inl (hw _ (List.mem_of_getElem? (i := 21) rfl))) Via.refl e0 Fb (g := (mkF mm 1 #[.val (.ref a)] [(.ref a)])) rfl rfl (hb hby d7_1)
  obtain ⟨T2, X2, e2, st2⟩ := getS2 X1 hx hZ hown (host := "") (Or.inl (hw _ (List.mem_of_getElem? (i := 41) rfl))) Via.refl e1 (S_NONE.ext O0.2) (g := (mkF mm 4 #[.val (.ref a)] [(.ref aLENGTH)])) rfl (hb hby d7_4)
  obtain ⟨T3, X3, e3, st3⟩ := getF X2 hx hZ hown (host := "") (Or.inl (hw _ (List.mem_of_getElem? (i := 21) rfl))) Via.refl e2 Fb (g := (mkF mm 11 #[.val (.ref a)] [(.ref a)])) rfl rfl (hb hby d7_11)
  obtain ⟨T4, X4, e4, st4⟩ := getS2 X3 hx hZ hown (host := "") (Or.inl (hw _ (List.mem_of_getElem? (i := 7) rfl))) Via.refl e3 (S_LENGTH.ext O0.2) (g := (mkF mm 14 #[.val (.ref a)] [(.ref aLENGTH)])) rfl (hb hby d7_14)
  obtain ⟨T5, X5, e5, st5⟩ := getF X4 hx hZ hown (host := "") (Or.inl (hw _ (List.mem_of_getElem? (i := 23) rfl))) Via.refl e4 Fl (g := (mkF mm 21 #[.val (.ref a)] [(.ref a)])) rfl rfl (hb hby d7_21)
  obtain ⟨fs, hr, hrun, hended, hW, hsame⟩ := X5.leave (v := some (.int (1 : Int32))) (fun h => by rw [Bd.returns] at h; cases h)
  refine ⟨_, _, pre0 _ ?_, hrun, hended, _, _, rfl, ?_, ⟨_, rfl⟩, hW, hsame.mono (by decide) (by decide)⟩
  · show Steps pg.tables ee below (s₁.setTop (mkF mm 0 #[.val (.ref a)] [])) _
    refine XS.aloadN X0.here hx rfl (hb hby d7_0) rfl rfl ?_
    show Steps pg.tables ee below (s₁.setTop (mkF mm 1 #[.val (.ref a)] [(.ref a)])) _
    refine st1 _ ?_
    show Steps pg.tables ee below (T1.setTop (mkF mm 4 #[.val (.ref a)] [(.ref aLENGTH)])) _
    refine st2 _ ?_
    show Steps pg.tables ee below (T2.setTop (mkF mm 7 #[.val (.ref a)] [(.ref aNONE), (.ref aLENGTH)])) _
    refine Jvm.RoadKit.acmp (g := (mkF mm 7 #[.val (.ref a)] [(.ref aNONE), (.ref aLENGTH)])) X2 hx rfl rfl rfl (pc0 := 7) (pc' := 10) (same := false) rfl (hb hby d7_7) rfl (decide_eq_false fun q => hNL (Value.ref.inj q)) (by decide) (by decide) ?_
    show Steps pg.tables ee below (T2.setTop (mkF mm 10 #[.val (.ref a)] [])) _
    refine XS.aloadN X2.here hx rfl (hb hby d7_10) rfl rfl ?_
    show Steps pg.tables ee below (T2.setTop (mkF mm 11 #[.val (.ref a)] [(.ref a)])) _
    refine st3 _ ?_
    show Steps pg.tables ee below (T3.setTop (mkF mm 14 #[.val (.ref a)] [(.ref aLENGTH)])) _
    refine st4 _ ?_
    show Steps pg.tables ee below (T4.setTop (mkF mm 17 #[.val (.ref a)] [(.ref aLENGTH), (.ref aLENGTH)])) _
    refine Jvm.RoadKit.acmp (g := (mkF mm 17 #[.val (.ref a)] [(.ref aLENGTH), (.ref aLENGTH)])) X4 hx rfl rfl rfl (pc0 := 17) (pc' := 20) (same := true) rfl (hb hby d7_17) rfl (decide_eq_true rfl) (by decide) (by decide) ?_
    show Steps pg.tables ee below (T4.setTop (mkF mm 20 #[.val (.ref a)] [])) _
    refine XS.aloadN X4.here hx rfl (hb hby d7_20) rfl rfl ?_
    show Steps pg.tables ee below (T4.setTop (mkF mm 21 #[.val (.ref a)] [(.ref a)])) _
    refine st5 _ ?_
    show Steps pg.tables ee below (T5.setTop (mkF mm 24 #[.val (.ref a)] [(.long q)])) _
    refine XS.lconst X5.here hx rfl (hb hby d7_24) ?_
    show Steps pg.tables ee below (T5.setTop (mkF mm 25 #[.val (.ref a)] [(.long (0 : Int64)), (.long q)])) _
    refine XS.lcmp X5.here hx rfl (hb hby d7_25) rfl ?_
    show Steps pg.tables ee below (T5.setTop (mkF mm 26 #[.val (.ref a)] [(.int (lcmpW q (0 : Int64)))])) _
    refine XS.ifNo X5.here hx rfl (hb hby d7_26) rfl ((if0 _ _).trans (teq hz).2) ?_
    show Steps pg.tables ee below (T5.setTop (mkF mm 29 #[.val (.ref a)] [])) _
    refine XS.iconst X5.here hx rfl (hb hby d7_29) ?_
    show Steps pg.tables ee below (T5.setTop (mkF mm 30 #[.val (.ref a)] [(.int (1 : Int32))])) _
    refine XS.goto X5.here hx rfl (pc0 := 30) (pc' := 34) rfl (hb hby d7_30) (by decide) (by decide) ?_
    show Steps pg.tables ee below (T5.setTop (mkF mm 34 #[.val (.ref a)] [(.int (1 : Int32))])) _
    exact retN X5 hx (t := .boolean) Bd.returns (by simp) (hb hby d7_34) hr
  · show QrmEL1 Z a q aNONE aLENGTH h0 n0 _ T5.heap _
    rw [e5]
    exact ⟨rfl, N0, rfl⟩
theorem d7_33 : decode prog_19_method_3_code 33 = .ok (.iconst 0, 1) := by decide +kernel
def QrmEL0 (Z : State) (a : Addr) (q : Int64) (aNONE : Addr) (aLENGTH : Addr) (h0 : Heap) (n0 : Nat) (v : Option Value) (h : Heap) (L : List Loc) : Prop := v = some (.int (0 : Int32)) ∧ Fr n0 L ∧ h = h0
set_option maxRecDepth 65536 in
set_option maxHeartbeats 40000000 in
theorem rmEL0 (l : Launch) (Z : State) (a0 : Array Value) (hw : ∀ d ∈ tables_1, d.before a0 Z = true) (ws : List Jvm.Cond) (a : Addr) (q : Int64) (aNONE : Addr) (aLENGTH : Addr) (h0 : Heap) (n0 : Nat) (O0 : Old Z n0 h0) (Fb : Fld Z h0 a "com/example/waxwing/waxwing/http/MessageReader$Framing" "body" "Lcom/example/waxwing/waxwing/http/MessageReader$Body;" (.ref aLENGTH)) (Fl : Fld Z h0 a "com/example/waxwing/waxwing/http/MessageReader$Framing" "length" "J" (.long q)) (S_NONE : Sta Z Z.heap "com/example/waxwing/waxwing/http/MessageReader$Body" "NONE" "Lcom/example/waxwing/waxwing/http/MessageReader$Body;" (.ref aNONE)) (S_LENGTH : Sta Z Z.heap "com/example/waxwing/waxwing/http/MessageReader$Body" "LENGTH" "Lcom/example/waxwing/waxwing/http/MessageReader$Body;" (.ref aLENGTH)) (hNL : ¬ (aLENGTH = aNONE)) (hz : ¬ ((lcmpW q (0 : Int64)) = (0 : Int32))) :
    MetFree l (⟨"com/example/waxwing/waxwing/http/MessageReader$Framing", "empty", "()Z"⟩ : MethodName) (head1 (Jvm.Cond.code (⟨"com/example/waxwing/waxwing/http/MessageReader$Framing", "empty", "()Z"⟩ : MethodName) prog_19_method_3_code 1 (some .boolean) :: ws) ({ frames := 0, cells := 0, slots := 0, locals := 0 } : Room)) (fun a_ U_ => a_ = #[(.ref a)] ∧ Z.Warmed39 U_.vm ∧ U_.heap = h0) (fun _ _ _ _ _ => True) (fun _ U_ o_ U'_ => ∃ v_ L_, o_ = .returned v_ ∧ QrmEL0 Z a q aNONE aLENGTH h0 n0 v_ U'_.heap L_ ∧ FrameEnd U_ o_ U'_ L_ ({ frames := 0, cells := 0, slots := 0, locals := 0 } : Room).cells ({ frames := 0, cells := 0, slots := 0, locals := 0 } : Room).slots) := by
  refine MetFree.of_bodySF (plainFor_of_name pn_15) hisR ?_
  intro pg ee s mm args below meth cc s₁ Bd hml0 hP hK
  obtain ⟨rfl, hZ, hh⟩ := hP
  have hx := Bd.exec
  have hby := Bd.bytes
  have hml : cc.maxLocals = 1 := hml0
  have hown : s.vm.findClass "com/example/waxwing/waxwing/http/MessageReader$Framing" = some mm.cls := findClass_of_methodNamed Bd.named
  have hnm := (name_of_methodNamed Bd.named Bd.method).1
  have X0 : Stand pg l ee ({ frames := 0, cells := 0, slots := 0, locals := 0 } : Room) s mm #[(.ref a)] below meth cc s₁ [] 0 0 := Stand.of_body Bd
  have e0 : s₁.heap = h0 := by rw [← hh, Bd.state]; rfl
  have N0 := Fr.nil n0
  have K0 : Keep h0 h0 ([] : List Addr) := Keep.refl _ _
  have pre0 : ∀ t, Steps pg.tables ee below (s₁.setTop (mkF mm 0 #[.val (.ref a)] [])) t → Steps pg.tables ee below (s₁.setTop (entryFrame mm #[(.ref a)] 1)) t := fun t k => castTop (ef_7_24 mm a) k
  obtain ⟨T1, X1, e1, st1⟩ := getF X0 hx hZ hown (host := "") (Or.inl (hw _ (List.mem_of_getElem? (i := 21) rfl))) Via.refl e0 Fb (g := (mkF mm 1 #[.val (.ref a)] [(.ref a)])) rfl rfl (hb hby d7_1)
  obtain ⟨T2, X2, e2, st2⟩ := getS2 X1 hx hZ hown (host := "") (Or.inl (hw _ (List.mem_of_getElem? (i := 41) rfl))) Via.refl e1 (S_NONE.ext O0.2) (g := (mkF mm 4 #[.val (.ref a)] [(.ref aLENGTH)])) rfl (hb hby d7_4)
  obtain ⟨T3, X3, e3, st3⟩ := getF X2 hx hZ hown (host := "") (Or.inl (hw _ (List.mem_of_getElem? (i := 21) rfl))) Via.refl e2 Fb (g := (mkF mm 11 #[.val (.ref a)] [(.ref a)])) rfl rfl (hb hby d7_11)
  obtain ⟨T4, X4, e4, st4⟩ := getS2 X3 hx hZ hown (host := "") (Or.inl (hw _ (List.mem_of_getElem? (i := 7) rfl))) Via.refl e3 (S_LENGTH.ext O0.2) (g := (mkF mm 14 #[.val (.ref a)] [(.ref aLENGTH)])) rfl (hb hby d7_14)
  obtain ⟨T5, X5, e5, st5⟩ := getF X4 hx hZ hown (host := "") (Or.inl (hw _ (List.mem_of_getElem? (i := 23) rfl))) Via.refl e4 Fl (g := (mkF mm 21 #[.val (.ref a)] [(.ref a)])) rfl rfl (hb hby d7_21)
  obtain ⟨fs, hr, hrun, hended, hW, hsame⟩ := X5.leave (v := some (.int (0 : Int32))) (fun h => by rw [Bd.returns] at h; cases h)
  refine ⟨_, _, pre0 _ ?_, hrun, hended, _, _, rfl, ?_, ⟨_, rfl⟩, hW, hsame.mono (by decide) (by decide)⟩
  · show Steps pg.tables ee below (s₁.setTop (mkF mm 0 #[.val (.ref a)] [])) _
    refine XS.aloadN X0.here hx rfl (hb hby d7_0) rfl rfl ?_
    show Steps pg.tables ee below (s₁.setTop (mkF mm 1 #[.val (.ref a)] [(.ref a)])) _
    refine st1 _ ?_
    show Steps pg.tables ee below (T1.setTop (mkF mm 4 #[.val (.ref a)] [(.ref aLENGTH)])) _
    refine st2 _ ?_
    show Steps pg.tables ee below (T2.setTop (mkF mm 7 #[.val (.ref a)] [(.ref aNONE), (.ref aLENGTH)])) _
    refine Jvm.RoadKit.acmp (g := (mkF mm 7 #[.val (.ref a)] [(.ref aNONE), (.ref aLENGTH)])) X2 hx rfl rfl rfl (pc0 := 7) (pc' := 10) (same := false) rfl (hb hby d7_7) rfl (decide_eq_false fun q => hNL (Value.ref.inj q)) (by decide) (by decide) ?_
    show Steps pg.tables ee below (T2.setTop (mkF mm 10 #[.val (.ref a)] [])) _
    refine XS.aloadN X2.here hx rfl (hb hby d7_10) rfl rfl ?_
    show Steps pg.tables ee below (T2.setTop (mkF mm 11 #[.val (.ref a)] [(.ref a)])) _
    refine st3 _ ?_
    show Steps pg.tables ee below (T3.setTop (mkF mm 14 #[.val (.ref a)] [(.ref aLENGTH)])) _
    refine st4 _ ?_
    show Steps pg.tables ee below (T4.setTop (mkF mm 17 #[.val (.ref a)] [(.ref aLENGTH), (.ref aLENGTH)])) _
    refine Jvm.RoadKit.acmp (g := (mkF mm 17 #[.val (.ref a)] [(.ref aLENGTH), (.ref aLENGTH)])) X4 hx rfl rfl rfl (pc0 := 17) (pc' := 20) (same := true) rfl (hb hby d7_17) rfl (decide_eq_true rfl) (by decide) (by decide) ?_
    show Steps pg.tables ee below (T4.setTop (mkF mm 20 #[.val (.ref a)] [])) _
    refine XS.aloadN X4.here hx rfl (hb hby d7_20) rfl rfl ?_
    show Steps pg.tables ee below (T4.setTop (mkF mm 21 #[.val (.ref a)] [(.ref a)])) _
    refine st5 _ ?_
    show Steps pg.tables ee below (T5.setTop (mkF mm 24 #[.val (.ref a)] [(.long q)])) _
    refine XS.lconst X5.here hx rfl (hb hby d7_24) ?_
    show Steps pg.tables ee below (T5.setTop (mkF mm 25 #[.val (.ref a)] [(.long (0 : Int64)), (.long q)])) _
    refine XS.lcmp X5.here hx rfl (hb hby d7_25) rfl ?_
    show Steps pg.tables ee below (T5.setTop (mkF mm 26 #[.val (.ref a)] [(.int (lcmpW q (0 : Int64)))])) _
    refine XS.ifYes X5.here hx rfl (pc0 := 26) (pc' := 33) rfl (hb hby d7_26) rfl ((if0 _ _).trans (feq hz).2) (by decide) (by decide) ?_
    show Steps pg.tables ee below (T5.setTop (mkF mm 33 #[.val (.ref a)] [])) _
    refine XS.iconst X5.here hx rfl (hb hby d7_33) ?_
    show Steps pg.tables ee below (T5.setTop (mkF mm 34 #[.val (.ref a)] [(.int (0 : Int32))])) _
    exact retN X5 hx (t := .boolean) Bd.returns (by simp) (hb hby d7_34) hr
  · show QrmEL0 Z a q aNONE aLENGTH h0 n0 _ T5.heap _
    rw [e5]
    exact ⟨rfl, N0, rfl⟩
def QrmEO (Z : State) (a : Addr) (x : Addr) (q : Int64) (aNONE : Addr) (aLENGTH : Addr) (h0 : Heap) (n0 : Nat) (v : Option Value) (h : Heap) (L : List Loc) : Prop := v = some (.int (0 : Int32)) ∧ Fr n0 L ∧ h = h0
set_option maxRecDepth 65536 in
set_option maxHeartbeats 40000000 in
theorem rmEO (l : Launch) (Z : State) (a0 : Array Value) (hw : ∀ d ∈ tables_1, d.before a0 Z = true) (ws : List Jvm.Cond) (a : Addr) (x : Addr) (q : Int64) (aNONE : Addr) (aLENGTH : Addr) (h0 : Heap) (n0 : Nat) (O0 : Old Z n0 h0) (Fb : Fld Z h0 a "com/example/waxwing/waxwing/http/MessageReader$Framing" "body" "Lcom/example/waxwing/waxwing/http/MessageReader$Body;" (.ref x)) (Fl : Fld Z h0 a "com/example/waxwing/waxwing/http/MessageReader$Framing" "length" "J" (.long q)) (S_NONE : Sta Z Z.heap "com/example/waxwing/waxwing/http/MessageReader$Body" "NONE" "Lcom/example/waxwing/waxwing/http/MessageReader$Body;" (.ref aNONE)) (S_LENGTH : Sta Z Z.heap "com/example/waxwing/waxwing/http/MessageReader$Body" "LENGTH" "Lcom/example/waxwing/waxwing/http/MessageReader$Body;" (.ref aLENGTH)) (h1 : ¬ (x = aNONE)) (h2 : ¬ (x = aLENGTH)) :
    MetFree l (⟨"com/example/waxwing/waxwing/http/MessageReader$Framing", "empty", "()Z"⟩ : MethodName) (head1 (Jvm.Cond.code (⟨"com/example/waxwing/waxwing/http/MessageReader$Framing", "empty", "()Z"⟩ : MethodName) prog_19_method_3_code 1 (some .boolean) :: ws) ({ frames := 0, cells := 0, slots := 0, locals := 0 } : Room)) (fun a_ U_ => a_ = #[(.ref a)] ∧ Z.Warmed39 U_.vm ∧ U_.heap = h0) (fun _ _ _ _ _ => True) (fun _ U_ o_ U'_ => ∃ v_ L_, o_ = .returned v_ ∧ QrmEO Z a x q aNONE aLENGTH h0 n0 v_ U'_.heap L_ ∧ FrameEnd U_ o_ U'_ L_ ({ frames := 0, cells := 0, slots := 0, locals := 0 } : Room).cells ({ frames := 0, cells := 0, slots := 0, locals := 0 } : Room).slots) := by
  refine MetFree.of_bodySF (plainFor_of_name pn_15) hisR ?_
  intro pg ee s mm args below meth cc s₁ Bd hml0 hP hK
  obtain ⟨rfl, hZ, hh⟩ := hP
  have hx := Bd.exec
  have hby := Bd.bytes
  have hml : cc.maxLocals = 1 := hml0
  have hown : s.vm.findClass "com/example/waxwing/waxwing/http/MessageReader$Framing" = some mm.cls := findClass_of_methodNamed Bd.named
  have hnm := (name_of_methodNamed Bd.named Bd.method).1
  have X0 : Stand pg l ee ({ frames := 0, cells := 0, slots := 0, locals := 0 } : Room) s mm #[(.ref a)] below meth cc s₁ [] 0 0 := Stand.of_body Bd
  have e0 : s₁.heap = h0 := by rw [← hh, Bd.state]; rfl
  have N0 := Fr.nil n0
  have K0 : Keep h0 h0 ([] : List Addr) := Keep.refl _ _
  have pre0 : ∀ t, Steps pg.tables ee below (s₁.setTop (mkF mm 0 #[.val (.ref a)] [])) t → Steps pg.tables ee below (s₁.setTop (entryFrame mm #[(.ref a)] 1)) t := fun t k => castTop (ef_7_24 mm a) k
  obtain ⟨T1, X1, e1, st1⟩ := getF X0 hx hZ hown (host := "") (Or.inl (hw _ (List.mem_of_getElem? (i := 21) rfl))) Via.refl e0 Fb (g := (mkF mm 1 #[.val (.ref a)] [(.ref a)])) rfl rfl (hb hby d7_1)
  obtain ⟨T2, X2, e2, st2⟩ := getS2 X1 hx hZ hown (host := "") (Or.inl (hw _ (List.mem_of_getElem? (i := 41) rfl))) Via.refl e1 (S_NONE.ext O0.2) (g := (mkF mm 4 #[.val (.ref a)] [(.ref x)])) rfl (hb hby d7_4)
  obtain ⟨T3, X3, e3, st3⟩ := getF X2 hx hZ hown (host := "") (Or.inl (hw _ (List.mem_of_getElem? (i := 21) rfl))) Via.refl e2 Fb (g := (mkF mm 11 #[.val (.ref a)] [(.ref a)])) rfl rfl (hb hby d7_11)
  obtain ⟨T4, X4, e4, st4⟩ := getS2 X3 hx hZ hown (host := "") (Or.inl (hw _ (List.mem_of_getElem? (i := 7) rfl))) Via.refl e3 (S_LENGTH.ext O0.2) (g := (mkF mm 14 #[.val (.ref a)] [(.ref x)])) rfl (hb hby d7_14)
  obtain ⟨fs, hr, hrun, hended, hW, hsame⟩ := X4.leave (v := some (.int (0 : Int32))) (fun h => by rw [Bd.returns] at h; cases h)
  refine ⟨_, _, pre0 _ ?_, hrun, hended, _, _, rfl, ?_, ⟨_, rfl⟩, hW, hsame.mono (by decide) (by decide)⟩
  · show Steps pg.tables ee below (s₁.setTop (mkF mm 0 #[.val (.ref a)] [])) _
    refine XS.aloadN X0.here hx rfl (hb hby d7_0) rfl rfl ?_
    show Steps pg.tables ee below (s₁.setTop (mkF mm 1 #[.val (.ref a)] [(.ref a)])) _
    refine st1 _ ?_
    show Steps pg.tables ee below (T1.setTop (mkF mm 4 #[.val (.ref a)] [(.ref x)])) _
    refine st2 _ ?_
    show Steps pg.tables ee below (T2.setTop (mkF mm 7 #[.val (.ref a)] [(.ref aNONE), (.ref x)])) _
    refine Jvm.RoadKit.acmp (g := (mkF mm 7 #[.val (.ref a)] [(.ref aNONE), (.ref x)])) X2 hx rfl rfl rfl (pc0 := 7) (pc' := 10) (same := false) rfl (hb hby d7_7) rfl (decide_eq_false fun q => h1 (Value.ref.inj q)) (by decide) (by decide) ?_
    show Steps pg.tables ee below (T2.setTop (mkF mm 10 #[.val (.ref a)] [])) _
    refine XS.aloadN X2.here hx rfl (hb hby d7_10) rfl rfl ?_
    show Steps pg.tables ee below (T2.setTop (mkF mm 11 #[.val (.ref a)] [(.ref a)])) _
    refine st3 _ ?_
    show Steps pg.tables ee below (T3.setTop (mkF mm 14 #[.val (.ref a)] [(.ref x)])) _
    refine st4 _ ?_
    show Steps pg.tables ee below (T4.setTop (mkF mm 17 #[.val (.ref a)] [(.ref aLENGTH), (.ref x)])) _
    refine Jvm.RoadKit.acmp (g := (mkF mm 17 #[.val (.ref a)] [(.ref aLENGTH), (.ref x)])) X4 hx rfl rfl rfl (pc0 := 17) (pc' := 33) (same := false) rfl (hb hby d7_17) rfl (decide_eq_false fun q => h2 (Value.ref.inj q)) (by decide) (by decide) ?_
    show Steps pg.tables ee below (T4.setTop (mkF mm 33 #[.val (.ref a)] [])) _
    refine XS.iconst X4.here hx rfl (hb hby d7_33) ?_
    show Steps pg.tables ee below (T4.setTop (mkF mm 34 #[.val (.ref a)] [(.int (0 : Int32))])) _
    exact retN X4 hx (t := .boolean) Bd.returns (by simp) (hb hby d7_34) hr
  · show QrmEO Z a x q aNONE aLENGTH h0 n0 _ T4.heap _
    rw [e4]
    exact ⟨rfl, N0, rfl⟩
theorem d1_0 : decode prog_19_method_2_code 0 = .ok (.new 8, 3) := by decide +kernel
theorem d1_3 : decode prog_19_method_2_code 3 = .ok (.dup, 1) := by decide +kernel
theorem d1_4 : decode prog_19_method_2_code 4 = .ok (.getstatic 17, 3) := by decide +kernel
theorem d1_7 : decode prog_19_method_2_code 7 = .ok (.lload_n 0, 1) := by decide +kernel
theorem d1_8 : decode prog_19_method_2_code 8 = .ok (.invokespecial 22, 3) := by decide +kernel
theorem pd_40 : parseMethodDescriptor "(Lcom/example/waxwing/waxwing/http/MessageReader$Body;J)V" = some ⟨[(.object "com/example/waxwing/waxwing/http/MessageReader$Body"), .long], none⟩ := by decide +kernel
theorem d1_11 : decode prog_19_method_2_code 11 = .ok (.areturn, 1) := by decide +kernel
theorem ef_1_42 (m : MethodId) (x0 : Int64) : entryFrame m #[(.long x0)] 2 = mkF m 0 #[.val (.long x0), .second] [] := by first | (simp [entryFrame, mkF, argsToLocals, Value.category]; done) | rfl
def QrmLen (Z : State) (q : Int64) (aLENGTH : Addr) (h0 : Heap) (n0 : Nat) (v : Option Value) (h : Heap) (L : List Loc) : Prop := ∃ b : Addr, v = some (.ref b) ∧ Fr n0 L ∧ Keep h0 h [] ∧ n0 ≤ b ∧ h0.size ≤ b ∧ Exa Z h b "com/example/waxwing/waxwing/http/MessageReader$Framing" ∧ Fld Z h b "com/example/waxwing/waxwing/http/MessageReader$Framing" "body" "Lcom/example/waxwing/waxwing/http/MessageReader$Body;" (.ref aLENGTH) ∧ Fld Z h b "com/example/waxwing/waxwing/http/MessageReader$Framing" "length" "J" (.long q)
set_option maxRecDepth 65536 in
set_option maxHeartbeats 40000000 in
theorem rmLen (l : Launch) (Z : State) (a0 : Array Value) (hw : ∀ d ∈ tables_1, d.before a0 Z = true) (ws : List Jvm.Cond) (q : Int64) (aLENGTH : Addr) (h0 : Heap) (n0 : Nat) (O0 : Old Z n0 h0) (S_LENGTH : Sta Z Z.heap "com/example/waxwing/waxwing/http/MessageReader$Body" "LENGTH" "Lcom/example/waxwing/waxwing/http/MessageReader$Body;" (.ref aLENGTH)) :
    MetFree l (⟨"com/example/waxwing/waxwing/http/MessageReader$Framing", "length", "(J)Lcom/example/waxwing/waxwing/http/MessageReader$Framing;"⟩ : MethodName) (head1 (Jvm.Cond.code (⟨"com/example/waxwing/waxwing/http/MessageReader$Framing", "length", "(J)Lcom/example/waxwing/waxwing/http/MessageReader$Framing;"⟩ : MethodName) prog_19_method_2_code 2 (some (.object "com/example/waxwing/waxwing/http/MessageReader$Framing")) :: ws) ({ frames := 3, cells := 1, slots := 2, locals := 40 } : Room)) (fun a_ U_ => a_ = #[(.long q)] ∧ Z.Warmed39 U_.vm ∧ U_.heap = h0) (fun _ _ _ _ _ => True) (fun _ U_ o_ U'_ => ∃ v_ L_, o_ = .returned v_ ∧ QrmLen Z q aLENGTH h0 n0 v_ U'_.heap L_ ∧ FrameEnd U_ o_ U'_ L_ ({ frames := 3, cells := 1, slots := 2, locals := 40 } : Room).cells ({ frames := 3, cells := 1, slots := 2, locals := 40 } : Room).slots) := by
  refine MetFree.of_bodySF (plainFor_of_name pn_15) hisR ?_
  intro pg ee s mm args below meth cc s₁ Bd hml0 hP hK
  obtain ⟨rfl, hZ, hh⟩ := hP
  have hx := Bd.exec
  have hby := Bd.bytes
  have hml : cc.maxLocals = 2 := hml0
  have hown : s.vm.findClass "com/example/waxwing/waxwing/http/MessageReader$Framing" = some mm.cls := findClass_of_methodNamed Bd.named
  have hnm := (name_of_methodNamed Bd.named Bd.method).1
  have X0 : Stand pg l ee ({ frames := 3, cells := 1, slots := 2, locals := 40 } : Room) s mm #[(.long q)] below meth cc s₁ [] 0 0 := Stand.of_body Bd
  have e0 : s₁.heap = h0 := by rw [← hh, Bd.state]; rfl
  have N0 := Fr.nil n0
  have K0 : Keep h0 h0 ([] : List Addr) := Keep.refl _ _
  have pre0 : ∀ t, Steps pg.tables ee below (s₁.setTop (mkF mm 0 #[.val (.long q), .second] [])) t → Steps pg.tables ee below (s₁.setTop (entryFrame mm #[(.long q)] 2)) t := fun t k => castTop (ef_1_42 mm q) k
  obtain ⟨T1, h1, X1, e1, E1, A1, D1, -, st1⟩ := newO X0 hx hZ hown (hw _ (List.mem_of_getElem? (i := 5) rfl)) (hw _ (List.mem_of_getElem? (i := 6) rfl)) (hw _ (List.mem_of_getElem? (i := 3) rfl)) e0 (g := (mkF mm 0 #[.val (.long q), .second] [])) rfl (hb hby d1_0) (by decide) (by decide)
  obtain ⟨b1, g1⟩ : ∃ z, z = h0.size := ⟨_, rfl⟩
  rw [← g1] at A1 D1 st1
  have g_b1 : n0 ≤ b1 := Nat.le_trans (O0.1 ▸ O0.2.1) (Nat.le_of_eq g1.symm)
  have sz_b1 : h0.size ≤ b1 := Nat.le_trans K0.1 (Nat.le_of_eq g1.symm)
  have O1 := O0.ext E1
  have KK1 := K0.ext E1
  have F_body_b1 : Fld Z h1 b1 "com/example/waxwing/waxwing/http/MessageReader$Framing" "body" "Lcom/example/waxwing/waxwing/http/MessageReader$Body;" .null := D1 (Or.inr (hw _ (List.mem_of_getElem? (i := 22) rfl))) (ty := (.object "com/example/waxwing/waxwing/http/MessageReader$Body")) (by decide)
  have F_length_b1 : Fld Z h1 b1 "com/example/waxwing/waxwing/http/MessageReader$Framing" "length" "J" (.long (0 : Int64)) := D1 (Or.inr (hw _ (List.mem_of_getElem? (i := 24) rfl))) (ty := .long) (by decide)
  obtain ⟨T2, X2, e2, st2⟩ := getS2 X1 hx hZ hown (host := "") (Or.inl (hw _ (List.mem_of_getElem? (i := 7) rfl))) Via.refl e1 (S_LENGTH.ext O1.2) (g := (mkF mm 4 #[.val (.long q), .second] [(.ref b1), (.ref b1)])) rfl (hb hby d1_4)
  obtain ⟨_, _, ⟨T3, L3, k3, n3⟩, -, X3, ⟨Lc3, hQ3, l3, y3, z3⟩, st3⟩ := X2.specialBack hx (y := (⟨"com/example/waxwing/waxwing/http/MessageReader$Framing", "<init>", "(Lcom/example/waxwing/waxwing/http/MessageReader$Body;J)V"⟩ : MethodName)) rfl hown (mvT hZ (hw _ (List.mem_of_getElem? (i := 10) rfl))) (mvT hZ (hw _ (List.mem_of_getElem? (i := 11) rfl))) (mvT hZ (hw _ (List.mem_of_getElem? (i := 12) rfl))) (by decide) (backOf (W := 1) (rmI l Z a0 hw [] b1 aLENGTH q h1 n0 O1 A1 F_body_b1 F_length_b1 g_b1 ) hZ (hw _ (List.mem_of_getElem? (i := 12) rfl)) (hw _ (List.mem_of_getElem? (i := 3) rfl)) (by decide) (by decide)) (g := (mkF mm 8 #[.val (.long q), .second] [(.long q), (.ref aLENGTH), (.ref b1), (.ref b1)])) rfl (by rw [hml]; rfl) (Steps.refl _) (a := b1) (argsL := [(.ref aLENGTH), (.long q)]) (rest := [(.ref b1)]) (lenOf pd_40 rfl) rfl (by show 2 * 0 + _ ≤ _; exact Nat.le_of_eq rfl) (hb hby d1_8) (fun _ _ => ⟨rfl, e2, (by decide : 1 + 0 ≤ _), (by decide : 2 + 0 ≤ _)⟩)
  dsimp only [Pt.U, Pt.locs, Pt.cells, Pt.slots] at X3 l3 y3 z3 st3 hQ3
  subst l3 y3 z3
  obtain ⟨rfl, N3q, K3, Ex3, Fv0_3, Fv1_3⟩ := hQ3
  have O3 := O1.keep K3 (allS g_b1 all0)
  have KK3 := KK1.trans K3 (allS (Or.inr sz_b1) all0)
  have N3 := Fr.app N0 N3q
  obtain ⟨fs, hr, hrun, hended, hW, hsame⟩ := X3.leave (v := some (.ref b1)) (fun h => by rw [Bd.returns] at h; cases h)
  refine ⟨_, _, pre0 _ ?_, hrun, hended, _, _, rfl, ?_, ⟨_, rfl⟩, hW, hsame.mono (by decide) (by decide)⟩
  · show Steps pg.tables ee below (s₁.setTop (mkF mm 0 #[.val (.long q), .second] [])) _
    refine st1 _ ?_
    show Steps pg.tables ee below (T1.setTop (mkF mm 3 #[.val (.long q), .second] [(.ref b1)])) _
    refine XS.dup X1.here hx rfl (hb hby d1_3) rfl rfl ?_
    show Steps pg.tables ee below (T1.setTop (mkF mm 4 #[.val (.long q), .second] [(.ref b1), (.ref b1)])) _
    refine st2 _ ?_
    show Steps pg.tables ee below (T2.setTop (mkF mm 7 #[.val (.long q), .second] [(.ref aLENGTH), (.ref b1), (.ref b1)])) _
    refine XS.lloadN X2.here hx rfl (hb hby d1_7) rfl ?_
    show Steps pg.tables ee below (T2.setTop (mkF mm 8 #[.val (.long q), .second] [(.long q), (.ref aLENGTH), (.ref b1), (.ref b1)])) _
    refine st3.trans ?_
    show Steps pg.tables ee below (T3.setTop (mkF mm 11 #[.val (.long q), .second] [(.ref b1)])) _
    exact retOut X3 hx Bd.returns rfl (Or.inr (Or.inr (Or.inr (Or.inr ⟨rfl, rfl, rfl⟩)))) (hb hby d1_11) hr
  · show QrmLen Z q aLENGTH h0 n0 _ T3.heap _
    exact ⟨_, rfl, N3, KK3, g_b1, sz_b1, Ex3, Fv0_3, Fv1_3⟩
theorem d5_0 : decode prog_19_method_7_code 0 = .ok (.aload_n 0, 1) := by decide +kernel
theorem d5_1 : decode prog_19_method_7_code 1 = .ok (.getfield 7, 3) := by decide +kernel
theorem d5_4 : decode prog_19_method_7_code 4 = .ok (.areturn, 1) := by decide +kernel
theorem ef_5_46 (m : MethodId) (x0 : Addr) : entryFrame m #[(.ref x0)] 1 = mkF m 0 #[.val (.ref x0)] [] := by first | (simp [entryFrame, mkF, argsToLocals, Value.category]; done) | rfl
def QrmGBody (Z : State) (a : Addr) (x : Addr) (h0 : Heap) (n0 : Nat) (v : Option Value) (h : Heap) (L : List Loc) : Prop := v = some (.ref x) ∧ Fr n0 L ∧ h = h0
set_option maxRecDepth 65536 in
set_option maxHeartbeats 40000000 in
theorem rmGBody (l : Launch) (Z : State) (a0 : Array Value) (hw : ∀ d ∈ tables_1, d.before a0 Z = true) (ws : List Jvm.Cond) (a : Addr) (x : Addr) (h0 : Heap) (n0 : Nat) (O0 : Old Z n0 h0) (F : Fld Z h0 a "com/example/waxwing/waxwing/http/MessageReader$Framing" "body" "Lcom/example/waxwing/waxwing/http/MessageReader$Body;" (.ref x)) :
    MetFree l (⟨"com/example/waxwing/waxwing/http/MessageReader$Framing", "body", "()Lcom/example/waxwing/waxwing/http/MessageReader$Body;"⟩ : MethodName) (head1 (Jvm.Cond.code (⟨"com/example/waxwing/waxwing/http/MessageReader$Framing", "body", "()Lcom/example/waxwing/waxwing/http/MessageReader$Body;"⟩ : MethodName) prog_19_method_7_code 1 (some (.object "com/example/waxwing/waxwing/http/MessageReader$Body")) :: ws) ({ frames := 0, cells := 0, slots := 0, locals := 0 } : Room)) (fun a_ U_ => a_ = #[(.ref a)] ∧ Z.Warmed39 U_.vm ∧ U_.heap = h0) (fun _ _ _ _ _ => True) (fun _ U_ o_ U'_ => ∃ v_ L_, o_ = .returned v_ ∧ QrmGBody Z a x h0 n0 v_ U'_.heap L_ ∧ FrameEnd U_ o_ U'_ L_ ({ frames := 0, cells := 0, slots := 0, locals := 0 } : Room).cells ({ frames := 0, cells := 0, slots := 0, locals := 0 } : Room).slots) := by
  refine MetFree.of_bodySF (plainFor_of_name pn_15) hisR ?_
  intro pg ee s mm args below meth cc s₁ Bd hml0 hP hK
  obtain ⟨rfl, hZ, hh⟩ := hP
  have hx := Bd.exec
  have hby := Bd.bytes
  have hml : cc.maxLocals = 1 := hml0
  have hown : s.vm.findClass "com/example/waxwing/waxwing/http/MessageReader$Framing" = some mm.cls := findClass_of_methodNamed Bd.named
  have hnm := (name_of_methodNamed Bd.named Bd.method).1
  have X0 : Stand pg l ee ({ frames := 0, cells := 0, slots := 0, locals := 0 } : Room) s mm #[(.ref a)] below meth cc s₁ [] 0 0 := Stand.of_body Bd
  have e0 : s₁.heap = h0 := by rw [← hh, Bd.state]; rfl
  have N0 := Fr.nil n0
  have K0 : Keep h0 h0 ([] : List Addr) := Keep.refl _ _
  have pre0 : ∀ t, Steps pg.tables ee below (s₁.setTop (mkF mm 0 #[.val (.ref a)] [])) t → Steps pg.tables ee below (s₁.setTop (entryFrame mm #[(.ref a)] 1)) t := fun t k => castTop (ef_5_46 mm a) k
  obtain ⟨T1, X1, e1, st1⟩ := getF X0 hx hZ hown (host := "") (Or.inl (hw _ (List.mem_of_getElem? (i := 21) rfl))) Via.refl e0 F (g := (mkF mm 1 #[.val (.ref a)] [(.ref a)])) rfl rfl (hb hby d5_1)
  obtain ⟨fs, hr, hrun, hended, hW, hsame⟩ := X1.leave (v := some (.ref x)) (fun h => by rw [Bd.returns] at h; cases h)
  refine ⟨_, _, pre0 _ ?_, hrun, hended, _, _, rfl, ?_, ⟨_, rfl⟩, hW, hsame.mono (by decide) (by decide)⟩
  · show Steps pg.tables ee below (s₁.setTop (mkF mm 0 #[.val (.ref a)] [])) _
    refine XS.aloadN X0.here hx rfl (hb hby d5_0) rfl rfl ?_
    show Steps pg.tables ee below (s₁.setTop (mkF mm 1 #[.val (.ref a)] [(.ref a)])) _
    refine st1 _ ?_
    show Steps pg.tables ee below (T1.setTop (mkF mm 4 #[.val (.ref a)] [(.ref x)])) _
    exact retOut X1 hx Bd.returns rfl (Or.inr (Or.inr (Or.inr (Or.inr ⟨rfl, rfl, rfl⟩)))) (hb hby d5_4) hr
  · show QrmGBody Z a x h0 n0 _ T1.heap _
    rw [e1]
    exact ⟨rfl, N0, rfl⟩
theorem d6_0 : decode prog_19_method_8_code 0 = .ok (.aload_n 0, 1) := by decide +kernel
theorem d6_1 : decode prog_19_method_8_code 1 = .ok (.getfield 13, 3) := by decide +kernel
theorem d6_4 : decode prog_19_method_8_code 4 = .ok (.lreturn, 1) := by decide +kernel
theorem ef_6_50 (m : MethodId) (x0 : Addr) : entryFrame m #[(.ref x0)] 1 = mkF m 0 #[.val (.ref x0)] [] := by first | (simp [entryFrame, mkF, argsToLocals, Value.category]; done) | rfl
def QrmGLength (Z : State) (a : Addr) (x : Int64) (h0 : Heap) (n0 : Nat) (v : Option Value) (h : Heap) (L : List Loc) : Prop := v = some (.long x) ∧ Fr n0 L ∧ h = h0
set_option maxRecDepth 65536 in
set_option maxHeartbeats 40000000 in
theorem rmGLength (l : Launch) (Z : State) (a0 : Array Value) (hw : ∀ d ∈ tables_1, d.before a0 Z = true) (ws : List Jvm.Cond) (a : Addr) (x : Int64) (h0 : Heap) (n0 : Nat) (O0 : Old Z n0 h0) (F : Fld Z h0 a "com/example/waxwing/waxwing/http/MessageReader$Framing" "length" "J" (.long x)) :
    MetFree l (⟨"com/example/waxwing/waxwing/http/MessageReader$Framing", "length", "()J"⟩ : MethodName) (head1 (Jvm.Cond.code (⟨"com/example/waxwing/waxwing/http/MessageReader$Framing", "length", "()J"⟩ : MethodName) prog_19_method_8_code 1 (some .long) :: ws) ({ frames := 0, cells := 0, slots := 0, locals := 0 } : Room)) (fun a_ U_ => a_ = #[(.ref a)] ∧ Z.Warmed39 U_.vm ∧ U_.heap = h0) (fun _ _ _ _ _ => True) (fun _ U_ o_ U'_ => ∃ v_ L_, o_ = .returned v_ ∧ QrmGLength Z a x h0 n0 v_ U'_.heap L_ ∧ FrameEnd U_ o_ U'_ L_ ({ frames := 0, cells := 0, slots := 0, locals := 0 } : Room).cells ({ frames := 0, cells := 0, slots := 0, locals := 0 } : Room).slots) := by
  refine MetFree.of_bodySF (plainFor_of_name pn_15) hisR ?_
  intro pg ee s mm args below meth cc s₁ Bd hml0 hP hK
  obtain ⟨rfl, hZ, hh⟩ := hP
  have hx := Bd.exec
  have hby := Bd.bytes
  have hml : cc.maxLocals = 1 := hml0
  have hown : s.vm.findClass "com/example/waxwing/waxwing/http/MessageReader$Framing" = some mm.cls := findClass_of_methodNamed Bd.named
  have hnm := (name_of_methodNamed Bd.named Bd.method).1
  have X0 : Stand pg l ee ({ frames := 0, cells := 0, slots := 0, locals := 0 } : Room) s mm #[(.ref a)] below meth cc s₁ [] 0 0 := Stand.of_body Bd
  have e0 : s₁.heap = h0 := by rw [← hh, Bd.state]; rfl
  have N0 := Fr.nil n0
  have K0 : Keep h0 h0 ([] : List Addr) := Keep.refl _ _
  have pre0 : ∀ t, Steps pg.tables ee below (s₁.setTop (mkF mm 0 #[.val (.ref a)] [])) t → Steps pg.tables ee below (s₁.setTop (entryFrame mm #[(.ref a)] 1)) t := fun t k => castTop (ef_6_50 mm a) k
  obtain ⟨T1, X1, e1, st1⟩ := getF X0 hx hZ hown (host := "") (Or.inl (hw _ (List.mem_of_getElem? (i := 23) rfl))) Via.refl e0 F (g := (mkF mm 1 #[.val (.ref a)] [(.ref a)])) rfl rfl (hb hby d6_1)
  obtain ⟨fs, hr, hrun, hended, hW, hsame⟩ := X1.leave (v := some (.long x)) (fun h => by rw [Bd.returns] at h; cases h)
  refine ⟨_, _, pre0 _ ?_, hrun, hended, _, _, rfl, ?_, ⟨_, rfl⟩, hW, hsame.mono (by decide) (by decide)⟩
  · show Steps pg.tables ee below (s₁.setTop (mkF mm 0 #[.val (.ref a)] [])) _
    refine XS.aloadN X0.here hx rfl (hb hby d6_0) rfl rfl ?_
    show Steps pg.tables ee below (s₁.setTop (mkF mm 1 #[.val (.ref a)] [(.ref a)])) _
    refine st1 _ ?_
    show Steps pg.tables ee below (T1.setTop (mkF mm 4 #[.val (.ref a)] [(.long x)])) _
    exact retOut X1 hx Bd.returns rfl (Or.inr (Or.inl ⟨rfl, rfl, _, rfl⟩)) (hb hby d6_4) hr
  · show QrmGLength Z a x h0 n0 _ T1.heap _
    rw [e1]
    exact ⟨rfl, N0, rfl⟩
theorem pd_51 : parseMethodDescriptor "(J)Lcom/example/waxwing/waxwing/http/MessageReader$Framing;" = some ⟨[.long], some (.object "com/example/waxwing/waxwing/http/MessageReader$Framing")⟩ := by decide +kernel
theorem pd_52 : parseMethodDescriptor "()Lcom/example/waxwing/waxwing/http/MessageReader$Body;" = some ⟨[], some (.object "com/example/waxwing/waxwing/http/MessageReader$Body")⟩ := by decide +kernel
theorem pd_53 : parseMethodDescriptor "()J" = some ⟨[], some .long⟩ := by decide +kernel
theorem pd_54 : parseMethodDescriptor "()Z" = some ⟨[], some .boolean⟩ := by decide +kernel
theorem pn_55 : plainName "com/example/waxwing/waxwing/http/FramingLengthPinLaw" = true := by first | (simp [plainName, overriddenIn]; done) | decide +kernel
theorem ef_0_56 (m : MethodId) (x0 : Int64) : entryFrame m #[(.long x0)] maxLocals = mkF m 0 #[.val (.long x0), .second, .unset, .unset, .unset, .unset, .unset, .unset] [] := by first | (simp [entryFrame, mkF, argsToLocals, Value.category, maxLocals]; done) | rfl
def Qrm0 (Z : State) (q0 : Int64) (aNONE : Addr) (aLENGTH : Addr) (h0 : Heap) (n0 : Nat) (v : Option Value) (h : Heap) (L : List Loc) : Prop := v = some (.int (1 : Int32)) ∧ Fr n0 L
set_option maxRecDepth 65536 in
set_option maxHeartbeats 40000000 in
theorem rm0 (l : Launch) (Z : State) (a0 : Array Value) (hw : ∀ d ∈ tables_1, d.before a0 Z = true) (ws : List Jvm.Cond) (q0 : Int64) (aNONE : Addr) (aLENGTH : Addr) (h0 : Heap) (n0 : Nat) (O0 : Old Z n0 h0) (S_NONE : Sta Z Z.heap "com/example/waxwing/waxwing/http/MessageReader$Body" "NONE" "Lcom/example/waxwing/waxwing/http/MessageReader$Body;" (.ref aNONE)) (S_LENGTH : Sta Z Z.heap "com/example/waxwing/waxwing/http/MessageReader$Body" "LENGTH" "Lcom/example/waxwing/waxwing/http/MessageReader$Body;" (.ref aLENGTH)) (E_NONE : Exa Z Z.heap aNONE "com/example/waxwing/waxwing/http/MessageReader$Body") (E_LENGTH : Exa Z Z.heap aLENGTH "com/example/waxwing/waxwing/http/MessageReader$Body") (hNL : ¬ (aLENGTH = aNONE)) :
    MetFree l x (head1 (Jvm.Cond.code x code maxLocals ret :: ws) room_1) (fun a_ U_ => a_ = #[(.long q0)] ∧ Z.Warmed39 U_.vm ∧ U_.heap = h0) (fun _ _ _ _ _ => True) (fun _ U_ o_ U'_ => ∃ v_ L_, o_ = .returned v_ ∧ Qrm0 Z q0 aNONE aLENGTH h0 n0 v_ U'_.heap L_ ∧ FrameEnd U_ o_ U'_ L_ 1 2) := by
  refine MetFree.of_bodySF (plainFor_of_name pn_55) hisR ?_
  intro pg ee s mm args below meth cc s₁ Bd hml0 hP hK
  obtain ⟨rfl, hZ, hh⟩ := hP
  have hx := Bd.exec
  have hby := Bd.bytes
  have hml : cc.maxLocals = 8 := hml0
  have hown : s.vm.findClass "com/example/waxwing/waxwing/http/FramingLengthPinLaw" = some mm.cls := findClass_of_methodNamed Bd.named
  have hnm := (name_of_methodNamed Bd.named Bd.method).1
  have X0 : Stand pg l ee room_1 s mm #[(.long q0)] below meth cc s₁ [] 0 0 := Stand.of_body Bd
  have e0 : s₁.heap = h0 := by rw [← hh, Bd.state]; rfl
  have N0 := Fr.nil n0
  have K0 : Keep h0 h0 ([] : List Addr) := Keep.refl _ _
  have pre0 : ∀ t, Steps pg.tables ee below (s₁.setTop (mkF mm 0 #[.val (.long q0), .second, .unset, .unset, .unset, .unset, .unset, .unset] [])) t → Steps pg.tables ee below (s₁.setTop (entryFrame mm #[(.long q0)] maxLocals)) t := fun t k => castTop (ef_0_56 mm q0) k
  obtain ⟨_, _, ⟨T1, L1, k1, n1⟩, -, X1, ⟨Lc1, hQ1, l1, y1, z1⟩, st1⟩ := Jvm.LawKit.callS X0 hx (y := (⟨"com/example/waxwing/waxwing/http/MessageReader$Framing", "length", "(J)Lcom/example/waxwing/waxwing/http/MessageReader$Framing;"⟩ : MethodName)) hown (mvT hZ (hw _ (List.mem_of_getElem? (i := 1) rfl))) (mvT hZ (hw _ (List.mem_of_getElem? (i := 2) rfl))) (mvT hZ (hw _ (List.mem_of_getElem? (i := 3) rfl))) (mvT hZ (hw _ (List.mem_of_getElem? (i := 4) rfl))) (by decide) (backOf (W := 0) (rmLen l Z a0 hw [] (q0 &&& (9223372036854775807 : Int64)) aLENGTH h0 n0 O0 S_LENGTH) hZ (hw _ (List.mem_of_getElem? (i := 4) rfl)) (hw _ (List.mem_of_getElem? (i := 3) rfl)) (by decide) (by decide)) (g := (mkF mm 7 #[.val (.long q0), .second, .val (.long (q0 &&& (9223372036854775807 : Int64))), .second, .unset, .unset, .unset, .unset] [(.long (q0 &&& (9223372036854775807 : Int64)))])) rfl (by rw [hml]; rfl) (argsL := [(.long (q0 &&& (9223372036854775807 : Int64)))]) (rest := []) (lenOf pd_51 rfl) rfl (by show 2 * 0 + _ ≤ _; exact Nat.le_of_eq rfl) (hb hby at_7) (fun _ _ => ⟨rfl, e0, (by decide : 0 + 1 ≤ _), (by decide : 0 + 2 ≤ _)⟩)
  dsimp only [Pt.U, Pt.locs, Pt.cells, Pt.slots] at X1 l1 y1 z1 st1 hQ1
  subst l1 y1 z1
  obtain ⟨b1, rfl, N1q, K1, g_b1, sz_b1, Ex1, Fb1, Fl1⟩ := hQ1
  have O1 := O0.keep K1 all0
  have KK1 := K0.trans K1 all0
  have N1 := Fr.app N0 N1q
  obtain ⟨cq2, kq2, q2a, q2b, q2c⟩ := isOf hZ rfl Ex1
  obtain ⟨_, _, ⟨T2, L2, k2, n2⟩, -, X2, ⟨Lc2, hQ2, l2, y2, z2⟩, st2⟩ := X1.virtualBack hx (y := (⟨"com/example/waxwing/waxwing/http/MessageReader$Framing", "body", "()Lcom/example/waxwing/waxwing/http/MessageReader$Body;"⟩ : MethodName)) (z := (⟨"com/example/waxwing/waxwing/http/MessageReader$Framing", "body", "()Lcom/example/waxwing/waxwing/http/MessageReader$Body;"⟩ : MethodName)) hown (mvT hZ (hw _ (List.mem_of_getElem? (i := 25) rfl))) (mvT hZ (hw _ (List.mem_of_getElem? (i := 26) rfl))) (notFace_of_selects (args := #[]) (mvT hZ (hw _ (List.mem_of_getElem? (i := 28) rfl)))) (mvT hZ (hw _ (List.mem_of_getElem? (i := 28) rfl))) (mvT hZ (hw _ (List.mem_of_getElem? (i := 27) rfl))) (by decide) (backOf (W := 0) (rmGBody l Z a0 hw [] b1 aLENGTH T1.heap n0 O1 Fb1) hZ (hw _ (List.mem_of_getElem? (i := 29) rfl)) (hw _ (List.mem_of_getElem? (i := 3) rfl)) (by decide) (by decide)) q2a q2c (g := (mkF mm 21 #[.val (.long q0), .second, .val (.long (q0 &&& (9223372036854775807 : Int64))), .second, .val (.ref b1), .unset, .unset, .unset] [(.ref b1)])) rfl (by rw [hml]; rfl) (Steps.refl _) (argsL := []) (rest := []) (lenOf pd_52 rfl) rfl (by show 2 * 0 + _ ≤ _; exact Nat.le_of_eq rfl) (hb hby at_21) (fun _ _ => ⟨rfl, rfl, (by decide : 1 + 0 ≤ _), (by decide : 2 + 0 ≤ _)⟩)
  dsimp only [Pt.U, Pt.locs, Pt.cells, Pt.slots] at X2 l2 y2 z2 st2 hQ2
  subst l2 y2 z2
  obtain ⟨rfl, N2q, e2⟩ := hQ2
  have N2 := Fr.app N1 N2q
  obtain ⟨T3, X3, e3, st3⟩ := getS2 X2 hx hZ hown (host := "") (Or.inl (hw _ (List.mem_of_getElem? (i := 30) rfl))) Via.refl e2 (S_LENGTH.ext O1.2) (g := (mkF mm 24 #[.val (.long q0), .second, .val (.long (q0 &&& (9223372036854775807 : Int64))), .second, .val (.ref b1), .unset, .unset, .unset] [(.ref aLENGTH)])) rfl (hb hby at_24)
  obtain ⟨cq4, kq4, q4a, q4b, q4c⟩ := isOf hZ e3 Ex1
  obtain ⟨_, _, ⟨T4, L4, k4, n4⟩, -, X4, ⟨Lc4, hQ4, l4, y4, z4⟩, st4⟩ := X3.virtualBack hx (y := (⟨"com/example/waxwing/waxwing/http/MessageReader$Framing", "length", "()J"⟩ : MethodName)) (z := (⟨"com/example/waxwing/waxwing/http/MessageReader$Framing", "length", "()J"⟩ : MethodName)) hown (mvT hZ (hw _ (List.mem_of_getElem? (i := 31) rfl))) (mvT hZ (hw _ (List.mem_of_getElem? (i := 32) rfl))) (notFace_of_selects (args := #[]) (mvT hZ (hw _ (List.mem_of_getElem? (i := 34) rfl)))) (mvT hZ (hw _ (List.mem_of_getElem? (i := 34) rfl))) (mvT hZ (hw _ (List.mem_of_getElem? (i := 33) rfl))) (by decide) (backOf (W := 0) (rmGLength l Z a0 hw [] b1 (q0 &&& (9223372036854775807 : Int64)) T1.heap n0 O1 Fl1) hZ (hw _ (List.mem_of_getElem? (i := 35) rfl)) (hw _ (List.mem_of_getElem? (i := 3) rfl)) (by decide) (by decide)) q4a q4c (g := (mkF mm 39 #[.val (.long q0), .second, .val (.long (q0 &&& (9223372036854775807 : Int64))), .second, .val (.ref b1), .val (.int (1 : Int32)), .unset, .unset] [(.ref b1)])) rfl (by rw [hml]; rfl) (Steps.refl _) (argsL := []) (rest := []) (lenOf pd_53 rfl) rfl (by show 2 * 0 + _ ≤ _; exact Nat.le_of_eq rfl) (hb hby at_39) (fun _ _ => ⟨rfl, e3, (by decide : 1 + 0 ≤ _), (by decide : 2 + 0 ≤ _)⟩)
  dsimp only [Pt.U, Pt.locs, Pt.cells, Pt.slots] at X4 l4 y4 z4 st4 hQ4
  subst l4 y4 z4
  obtain ⟨rfl, N4q, e4⟩ := hQ4
  have N4 := Fr.app N2 N4q
  have pre5 : ∀ t, Steps pg.tables ee below (T4.setTop (mkF mm 56 #[.val (.long q0), .second, .val (.long (q0 &&& (9223372036854775807 : Int64))), .second, .val (.ref b1), .val (.int (1 : Int32)), .val (.int (1 : Int32)), .unset] [(.ref b1)])) t → Steps pg.tables ee below (s₁.setTop (entryFrame mm #[(.long q0)] maxLocals)) t := fun t k => pre0 t (by
      show Steps pg.tables ee below (s₁.setTop (mkF mm 0 #[.val (.long q0), .second, .unset, .unset, .unset, .unset, .unset, .unset] [])) _
      refine XS.lloadN X0.here hx rfl (hb hby at_0) rfl ?_
      show Steps pg.tables ee below (s₁.setTop (mkF mm 1 #[.val (.long q0), .second, .unset, .unset, .unset, .unset, .unset, .unset] [(.long q0)])) _
      refine X0.ldc2Long hx hown (mvT hZ (hw _ (List.mem_of_getElem? (i := 0) rfl))) (g := (mkF mm 1 #[.val (.long q0), .second, .unset, .unset, .unset, .unset, .unset, .unset] [(.long q0)])) rfl (hb hby at_1) _ ?_
      show Steps pg.tables ee below (s₁.setTop (mkF mm 4 #[.val (.long q0), .second, .unset, .unset, .unset, .unset, .unset, .unset] [(.long (9223372036854775807 : Int64)), (.long q0)])) _
      refine XS.land X0.here hx rfl (hb hby at_4) rfl ?_
      show Steps pg.tables ee below (s₁.setTop (mkF mm 5 #[.val (.long q0), .second, .unset, .unset, .unset, .unset, .unset, .unset] [(.long (q0 &&& (9223372036854775807 : Int64)))])) _
      refine XS.lstoreN X0.here hx rfl (hb hby at_5) rfl (l' := #[.val (.long q0), .second, .val (.long (q0 &&& (9223372036854775807 : Int64))), .second, .unset, .unset, .unset, .unset]) rfl ?_
      show Steps pg.tables ee below (s₁.setTop (mkF mm 6 #[.val (.long q0), .second, .val (.long (q0 &&& (9223372036854775807 : Int64))), .second, .unset, .unset, .unset, .unset] [])) _
      refine XS.lloadN X0.here hx rfl (hb hby at_6) rfl ?_
      show Steps pg.tables ee below (s₁.setTop (mkF mm 7 #[.val (.long q0), .second, .val (.long (q0 &&& (9223372036854775807 : Int64))), .second, .unset, .unset, .unset, .unset] [(.long (q0 &&& (9223372036854775807 : Int64)))])) _
      refine st1 _ ?_
      show Steps pg.tables ee below (T1.setTop (mkF mm 10 #[.val (.long q0), .second, .val (.long (q0 &&& (9223372036854775807 : Int64))), .second, .unset, .unset, .unset, .unset] [(.ref b1)])) _
      refine XS.astore X1.here hx rfl (hb hby at_10) rfl rfl (l' := #[.val (.long q0), .second, .val (.long (q0 &&& (9223372036854775807 : Int64))), .second, .val (.ref b1), .unset, .unset, .unset]) rfl ?_
      show Steps pg.tables ee below (T1.setTop (mkF mm 12 #[.val (.long q0), .second, .val (.long (q0 &&& (9223372036854775807 : Int64))), .second, .val (.ref b1), .unset, .unset, .unset] [])) _
      refine XS.aload X1.here hx rfl (hb hby at_12) rfl rfl ?_
      show Steps pg.tables ee below (T1.setTop (mkF mm 14 #[.val (.long q0), .second, .val (.long (q0 &&& (9223372036854775807 : Int64))), .second, .val (.ref b1), .unset, .unset, .unset] [(.ref b1)])) _
      refine XS.ifnonnullYes X1.here hx rfl (pc0 := 14) (pc' := 19) rfl (hb hby at_14) rfl (by decide) (by decide) ?_
      show Steps pg.tables ee below (T1.setTop (mkF mm 19 #[.val (.long q0), .second, .val (.long (q0 &&& (9223372036854775807 : Int64))), .second, .val (.ref b1), .unset, .unset, .unset] [])) _
      refine XS.aload X1.here hx rfl (hb hby at_19) rfl rfl ?_
      show Steps pg.tables ee below (T1.setTop (mkF mm 21 #[.val (.long q0), .second, .val (.long (q0 &&& (9223372036854775807 : Int64))), .second, .val (.ref b1), .unset, .unset, .unset] [(.ref b1)])) _
      refine st2.trans ?_
      show Steps pg.tables ee below (T2.setTop (mkF mm 24 #[.val (.long q0), .second, .val (.long (q0 &&& (9223372036854775807 : Int64))), .second, .val (.ref b1), .unset, .unset, .unset] [(.ref aLENGTH)])) _
      refine st3 _ ?_
      show Steps pg.tables ee below (T3.setTop (mkF mm 27 #[.val (.long q0), .second, .val (.long (q0 &&& (9223372036854775807 : Int64))), .second, .val (.ref b1), .unset, .unset, .unset] [(.ref aLENGTH), (.ref aLENGTH)])) _
      refine Jvm.RoadKit.acmp (g := (mkF mm 27 #[.val (.long q0), .second, .val (.long (q0 &&& (9223372036854775807 : Int64))), .second, .val (.ref b1), .unset, .unset, .unset] [(.ref aLENGTH), (.ref aLENGTH)])) X3 hx rfl rfl rfl (pc0 := 27) (pc' := 30) (same := true) rfl (hb hby at_27) rfl (decide_eq_true rfl) (by decide) (by decide) ?_
      show Steps pg.tables ee below (T3.setTop (mkF mm 30 #[.val (.long q0), .second, .val (.long (q0 &&& (9223372036854775807 : Int64))), .second, .val (.ref b1), .unset, .unset, .unset] [])) _
      refine XS.iconst X3.here hx rfl (hb hby at_30) ?_
      show Steps pg.tables ee below (T3.setTop (mkF mm 31 #[.val (.long q0), .second, .val (.long (q0 &&& (9223372036854775807 : Int64))), .second, .val (.ref b1), .unset, .unset, .unset] [(.int (1 : Int32))])) _
      refine XS.goto X3.here hx rfl (pc0 := 31) (pc' := 35) rfl (hb hby at_31) (by decide) (by decide) ?_
      show Steps pg.tables ee below (T3.setTop (mkF mm 35 #[.val (.long q0), .second, .val (.long (q0 &&& (9223372036854775807 : Int64))), .second, .val (.ref b1), .unset, .unset, .unset] [(.int (1 : Int32))])) _
      refine XS.istore X3.here hx rfl (hb hby at_35) rfl (l' := #[.val (.long q0), .second, .val (.long (q0 &&& (9223372036854775807 : Int64))), .second, .val (.ref b1), .val (.int (1 : Int32)), .unset, .unset]) rfl ?_
      show Steps pg.tables ee below (T3.setTop (mkF mm 37 #[.val (.long q0), .second, .val (.long (q0 &&& (9223372036854775807 : Int64))), .second, .val (.ref b1), .val (.int (1 : Int32)), .unset, .unset] [])) _
      refine XS.aload X3.here hx rfl (hb hby at_37) rfl rfl ?_
      show Steps pg.tables ee below (T3.setTop (mkF mm 39 #[.val (.long q0), .second, .val (.long (q0 &&& (9223372036854775807 : Int64))), .second, .val (.ref b1), .val (.int (1 : Int32)), .unset, .unset] [(.ref b1)])) _
      refine st4.trans ?_
      show Steps pg.tables ee below (T4.setTop (mkF mm 42 #[.val (.long q0), .second, .val (.long (q0 &&& (9223372036854775807 : Int64))), .second, .val (.ref b1), .val (.int (1 : Int32)), .unset, .unset] [(.long (q0 &&& (9223372036854775807 : Int64)))])) _
      refine XS.lloadN X4.here hx rfl (hb hby at_42) rfl ?_
      show Steps pg.tables ee below (T4.setTop (mkF mm 43 #[.val (.long q0), .second, .val (.long (q0 &&& (9223372036854775807 : Int64))), .second, .val (.ref b1), .val (.int (1 : Int32)), .unset, .unset] [(.long (q0 &&& (9223372036854775807 : Int64))), (.long (q0 &&& (9223372036854775807 : Int64)))])) _
      refine XS.lcmp X4.here hx rfl (hb hby at_43) rfl ?_
      show Steps pg.tables ee below (T4.setTop (mkF mm 44 #[.val (.long q0), .second, .val (.long (q0 &&& (9223372036854775807 : Int64))), .second, .val (.ref b1), .val (.int (1 : Int32)), .unset, .unset] [(.int (lcmpW (q0 &&& (9223372036854775807 : Int64)) (q0 &&& (9223372036854775807 : Int64))))])) _
      refine XS.ifNo X4.here hx rfl (hb hby at_44) rfl ((if0 _ _).trans (teq ((lw_eq _ _).mpr rfl)).2) ?_
      show Steps pg.tables ee below (T4.setTop (mkF mm 47 #[.val (.long q0), .second, .val (.long (q0 &&& (9223372036854775807 : Int64))), .second, .val (.ref b1), .val (.int (1 : Int32)), .unset, .unset] [])) _
      refine XS.iconst X4.here hx rfl (hb hby at_47) ?_
      show Steps pg.tables ee below (T4.setTop (mkF mm 48 #[.val (.long q0), .second, .val (.long (q0 &&& (9223372036854775807 : Int64))), .second, .val (.ref b1), .val (.int (1 : Int32)), .unset, .unset] [(.int (1 : Int32))])) _
      refine XS.goto X4.here hx rfl (pc0 := 48) (pc' := 52) rfl (hb hby at_48) (by decide) (by decide) ?_
      show Steps pg.tables ee below (T4.setTop (mkF mm 52 #[.val (.long q0), .second, .val (.long (q0 &&& (9223372036854775807 : Int64))), .second, .val (.ref b1), .val (.int (1 : Int32)), .unset, .unset] [(.int (1 : Int32))])) _
      refine XS.istore X4.here hx rfl (hb hby at_52) rfl (l' := #[.val (.long q0), .second, .val (.long (q0 &&& (9223372036854775807 : Int64))), .second, .val (.ref b1), .val (.int (1 : Int32)), .val (.int (1 : Int32)), .unset]) rfl ?_
      show Steps pg.tables ee below (T4.setTop (mkF mm 54 #[.val (.long q0), .second, .val (.long (q0 &&& (9223372036854775807 : Int64))), .second, .val (.ref b1), .val (.int (1 : Int32)), .val (.int (1 : Int32)), .unset] [])) _
      refine XS.aload X4.here hx rfl (hb hby at_54) rfl rfl ?_
      exact k)
  by_cases hc6 : (lcmpW (q0 &&& (9223372036854775807 : Int64)) (0 : Int64)) = (0 : Int32)
  · obtain ⟨cq7, kq7, q7a, q7b, q7c⟩ := isOf hZ e4 Ex1
    obtain ⟨_, _, ⟨T7, L7, k7, n7⟩, -, X7, ⟨Lc7, hQ7, l7, y7, z7⟩, st7⟩ := X4.virtualBack hx (y := (⟨"com/example/waxwing/waxwing/http/MessageReader$Framing", "empty", "()Z"⟩ : MethodName)) (z := (⟨"com/example/waxwing/waxwing/http/MessageReader$Framing", "empty", "()Z"⟩ : MethodName)) hown (mvT hZ (hw _ (List.mem_of_getElem? (i := 36) rfl))) (mvT hZ (hw _ (List.mem_of_getElem? (i := 37) rfl))) (notFace_of_selects (args := #[]) (mvT hZ (hw _ (List.mem_of_getElem? (i := 39) rfl)))) (mvT hZ (hw _ (List.mem_of_getElem? (i := 39) rfl))) (mvT hZ (hw _ (List.mem_of_getElem? (i := 38) rfl))) (by decide) (backOf (W := 0) (rmEL1 l Z a0 hw [] b1 (q0 &&& (9223372036854775807 : Int64)) aNONE aLENGTH T1.heap n0 O1 Fb1 Fl1 S_NONE S_LENGTH hNL hc6) hZ (hw _ (List.mem_of_getElem? (i := 40) rfl)) (hw _ (List.mem_of_getElem? (i := 3) rfl)) (by decide) (by decide)) q7a q7c (g := (mkF mm 56 #[.val (.long q0), .second, .val (.long (q0 &&& (9223372036854775807 : Int64))), .second, .val (.ref b1), .val (.int (1 : Int32)), .val (.int (1 : Int32)), .unset] [(.ref b1)])) rfl (by rw [hml]; rfl) (Steps.refl _) (argsL := []) (rest := []) (lenOf pd_54 rfl) rfl (by show 2 * 0 + _ ≤ _; exact Nat.le_of_eq rfl) (hb hby at_56) (fun _ _ => ⟨rfl, e4, (by decide : 1 + 0 ≤ _), (by decide : 2 + 0 ≤ _)⟩)
    dsimp only [Pt.U, Pt.locs, Pt.cells, Pt.slots] at X7 l7 y7 z7 st7 hQ7
    subst l7 y7 z7
    obtain ⟨rfl, N7q, e7⟩ := hQ7
    have N7 := Fr.app N4 N7q
    obtain ⟨fs, hr, hrun, hended, hW, hsame⟩ := X7.leave (v := some (.int (1 : Int32))) (fun h => by rw [Bd.returns] at h; cases h)
    refine ⟨_, _, pre5 _ ?_, hrun, hended, _, _, rfl, ?_, ⟨_, rfl⟩, hW, hsame.mono (by decide) (by decide)⟩
    · show Steps pg.tables ee below (T4.setTop (mkF mm 56 #[.val (.long q0), .second, .val (.long (q0 &&& (9223372036854775807 : Int64))), .second, .val (.ref b1), .val (.int (1 : Int32)), .val (.int (1 : Int32)), .unset] [(.ref b1)])) _
      refine st7.trans ?_
      show Steps pg.tables ee below (T7.setTop (mkF mm 59 #[.val (.long q0), .second, .val (.long (q0 &&& (9223372036854775807 : Int64))), .second, .val (.ref b1), .val (.int (1 : Int32)), .val (.int (1 : Int32)), .unset] [(.int (1 : Int32))])) _
      refine XS.lloadN X7.here hx rfl (hb hby at_59) rfl ?_
      show Steps pg.tables ee below (T7.setTop (mkF mm 60 #[.val (.long q0), .second, .val (.long (q0 &&& (9223372036854775807 : Int64))), .second, .val (.ref b1), .val (.int (1 : Int32)), .val (.int (1 : Int32)), .unset] [(.long (q0 &&& (9223372036854775807 : Int64))), (.int (1 : Int32))])) _
      refine XS.lconst X7.here hx rfl (hb hby at_60) ?_
      show Steps pg.tables ee below (T7.setTop (mkF mm 61 #[.val (.long q0), .second, .val (.long (q0 &&& (9223372036854775807 : Int64))), .second, .val (.ref b1), .val (.int (1 : Int32)), .val (.int (1 : Int32)), .unset] [(.long (0 : Int64)), (.long (q0 &&& (9223372036854775807 : Int64))), (.int (1 : Int32))])) _
      refine XS.lcmp X7.here hx rfl (hb hby at_61) rfl ?_
      show Steps pg.tables ee below (T7.setTop (mkF mm 62 #[.val (.long q0), .second, .val (.long (q0 &&& (9223372036854775807 : Int64))), .second, .val (.ref b1), .val (.int (1 : Int32)), .val (.int (1 : Int32)), .unset] [(.int (lcmpW (q0 &&& (9223372036854775807 : Int64)) (0 : Int64))), (.int (1 : Int32))])) _
      refine XS.ifNo X7.here hx rfl (hb hby at_62) rfl ((if0 _ _).trans (teq hc6).2) ?_
      show Steps pg.tables ee below (T7.setTop (mkF mm 65 #[.val (.long q0), .second, .val (.long (q0 &&& (9223372036854775807 : Int64))), .second, .val (.ref b1), .val (.int (1 : Int32)), .val (.int (1 : Int32)), .unset] [(.int (1 : Int32))])) _
      refine XS.iconst X7.here hx rfl (hb hby at_65) ?_
      show Steps pg.tables ee below (T7.setTop (mkF mm 66 #[.val (.long q0), .second, .val (.long (q0 &&& (9223372036854775807 : Int64))), .second, .val (.ref b1), .val (.int (1 : Int32)), .val (.int (1 : Int32)), .unset] [(.int (1 : Int32)), (.int (1 : Int32))])) _
      refine XS.goto X7.here hx rfl (pc0 := 66) (pc' := 70) rfl (hb hby at_66) (by decide) (by decide) ?_
      show Steps pg.tables ee below (T7.setTop (mkF mm 70 #[.val (.long q0), .second, .val (.long (q0 &&& (9223372036854775807 : Int64))), .second, .val (.ref b1), .val (.int (1 : Int32)), .val (.int (1 : Int32)), .unset] [(.int (1 : Int32)), (.int (1 : Int32))])) _
      refine XS.icmpNo X7.here hx rfl (hb hby at_70) rfl (teq (by decide : (1 : Int32) = (1 : Int32))).2 ?_
      show Steps pg.tables ee below (T7.setTop (mkF mm 73 #[.val (.long q0), .second, .val (.long (q0 &&& (9223372036854775807 : Int64))), .second, .val (.ref b1), .val (.int (1 : Int32)), .val (.int (1 : Int32)), .unset] [])) _
      refine XS.iconst X7.here hx rfl (hb hby at_73) ?_
      show Steps pg.tables ee below (T7.setTop (mkF mm 74 #[.val (.long q0), .second, .val (.long (q0 &&& (9223372036854775807 : Int64))), .second, .val (.ref b1), .val (.int (1 : Int32)), .val (.int (1 : Int32)), .unset] [(.int (1 : Int32))])) _
      refine XS.goto X7.here hx rfl (pc0 := 74) (pc' := 78) rfl (hb hby at_74) (by decide) (by decide) ?_
      show Steps pg.tables ee below (T7.setTop (mkF mm 78 #[.val (.long q0), .second, .val (.long (q0 &&& (9223372036854775807 : Int64))), .second, .val (.ref b1), .val (.int (1 : Int32)), .val (.int (1 : Int32)), .unset] [(.int (1 : Int32))])) _
      refine XS.istore X7.here hx rfl (hb hby at_78) rfl (l' := #[.val (.long q0), .second, .val (.long (q0 &&& (9223372036854775807 : Int64))), .second, .val (.ref b1), .val (.int (1 : Int32)), .val (.int (1 : Int32)), .val (.int (1 : Int32))]) rfl ?_
      show Steps pg.tables ee below (T7.setTop (mkF mm 80 #[.val (.long q0), .second, .val (.long (q0 &&& (9223372036854775807 : Int64))), .second, .val (.ref b1), .val (.int (1 : Int32)), .val (.int (1 : Int32)), .val (.int (1 : Int32))] [])) _
      refine XS.iload X7.here hx rfl (hb hby at_80) rfl ?_
      show Steps pg.tables ee below (T7.setTop (mkF mm 82 #[.val (.long q0), .second, .val (.long (q0 &&& (9223372036854775807 : Int64))), .second, .val (.ref b1), .val (.int (1 : Int32)), .val (.int (1 : Int32)), .val (.int (1 : Int32))] [(.int (1 : Int32))])) _
      refine XS.ifNo X7.here hx rfl (hb hby at_82) rfl ((if0 _ _).trans (feq (by decide : ¬ ((1 : Int32) = (0 : Int32)))).1) ?_
      show Steps pg.tables ee below (T7.setTop (mkF mm 85 #[.val (.long q0), .second, .val (.long (q0 &&& (9223372036854775807 : Int64))), .second, .val (.ref b1), .val (.int (1 : Int32)), .val (.int (1 : Int32)), .val (.int (1 : Int32))] [])) _
      refine XS.iload X7.here hx rfl (hb hby at_85) rfl ?_
      show Steps pg.tables ee below (T7.setTop (mkF mm 87 #[.val (.long q0), .second, .val (.long (q0 &&& (9223372036854775807 : Int64))), .second, .val (.ref b1), .val (.int (1 : Int32)), .val (.int (1 : Int32)), .val (.int (1 : Int32))] [(.int (1 : Int32))])) _
      refine XS.ifNo X7.here hx rfl (hb hby at_87) rfl ((if0 _ _).trans (feq (by decide : ¬ ((1 : Int32) = (0 : Int32)))).1) ?_
      show Steps pg.tables ee below (T7.setTop (mkF mm 90 #[.val (.long q0), .second, .val (.long (q0 &&& (9223372036854775807 : Int64))), .second, .val (.ref b1), .val (.int (1 : Int32)), .val (.int (1 : Int32)), .val (.int (1 : Int32))] [])) _
      refine XS.iload X7.here hx rfl (hb hby at_90) rfl ?_
      show Steps pg.tables ee below (T7.setTop (mkF mm 92 #[.val (.long q0), .second, .val (.long (q0 &&& (9223372036854775807 : Int64))), .second, .val (.ref b1), .val (.int (1 : Int32)), .val (.int (1 : Int32)), .val (.int (1 : Int32))] [(.int (1 : Int32))])) _
      refine XS.ifNo X7.here hx rfl (hb hby at_92) rfl ((if0 _ _).trans (feq (by decide : ¬ ((1 : Int32) = (0 : Int32)))).1) ?_
      show Steps pg.tables ee below (T7.setTop (mkF mm 95 #[.val (.long q0), .second, .val (.long (q0 &&& (9223372036854775807 : Int64))), .second, .val (.ref b1), .val (.int (1 : Int32)), .val (.int (1 : Int32)), .val (.int (1 : Int32))] [])) _
      refine XS.iconst X7.here hx rfl (hb hby at_95) ?_
      show Steps pg.tables ee below (T7.setTop (mkF mm 96 #[.val (.long q0), .second, .val (.long (q0 &&& (9223372036854775807 : Int64))), .second, .val (.ref b1), .val (.int (1 : Int32)), .val (.int (1 : Int32)), .val (.int (1 : Int32))] [(.int (1 : Int32))])) _
      refine XS.goto X7.here hx rfl (pc0 := 96) (pc' := 100) rfl (hb hby at_96) (by decide) (by decide) ?_
      show Steps pg.tables ee below (T7.setTop (mkF mm 100 #[.val (.long q0), .second, .val (.long (q0 &&& (9223372036854775807 : Int64))), .second, .val (.ref b1), .val (.int (1 : Int32)), .val (.int (1 : Int32)), .val (.int (1 : Int32))] [(.int (1 : Int32))])) _
      exact retN X7 hx (t := .boolean) Bd.returns (by simp) (hb hby at_100) hr
    · show Qrm0 Z q0 aNONE aLENGTH h0 n0 _ T7.heap _
      rw [e7]
      exact ⟨rfl, N7⟩
  · obtain ⟨cq8, kq8, q8a, q8b, q8c⟩ := isOf hZ e4 Ex1
    obtain ⟨_, _, ⟨T8, L8, k8, n8⟩, -, X8, ⟨Lc8, hQ8, l8, y8, z8⟩, st8⟩ := X4.virtualBack hx (y := (⟨"com/example/waxwing/waxwing/http/MessageReader$Framing", "empty", "()Z"⟩ : MethodName)) (z := (⟨"com/example/waxwing/waxwing/http/MessageReader$Framing", "empty", "()Z"⟩ : MethodName)) hown (mvT hZ (hw _ (List.mem_of_getElem? (i := 36) rfl))) (mvT hZ (hw _ (List.mem_of_getElem? (i := 37) rfl))) (notFace_of_selects (args := #[]) (mvT hZ (hw _ (List.mem_of_getElem? (i := 39) rfl)))) (mvT hZ (hw _ (List.mem_of_getElem? (i := 39) rfl))) (mvT hZ (hw _ (List.mem_of_getElem? (i := 38) rfl))) (by decide) (backOf (W := 0) (rmEL0 l Z a0 hw [] b1 (q0 &&& (9223372036854775807 : Int64)) aNONE aLENGTH T1.heap n0 O1 Fb1 Fl1 S_NONE S_LENGTH hNL hc6) hZ (hw _ (List.mem_of_getElem? (i := 40) rfl)) (hw _ (List.mem_of_getElem? (i := 3) rfl)) (by decide) (by decide)) q8a q8c (g := (mkF mm 56 #[.val (.long q0), .second, .val (.long (q0 &&& (9223372036854775807 : Int64))), .second, .val (.ref b1), .val (.int (1 : Int32)), .val (.int (1 : Int32)), .unset] [(.ref b1)])) rfl (by rw [hml]; rfl) (Steps.refl _) (argsL := []) (rest := []) (lenOf pd_54 rfl) rfl (by show 2 * 0 + _ ≤ _; exact Nat.le_of_eq rfl) (hb hby at_56) (fun _ _ => ⟨rfl, e4, (by decide : 1 + 0 ≤ _), (by decide : 2 + 0 ≤ _)⟩)
    dsimp only [Pt.U, Pt.locs, Pt.cells, Pt.slots] at X8 l8 y8 z8 st8 hQ8
    subst l8 y8 z8
    obtain ⟨rfl, N8q, e8⟩ := hQ8
    have N8 := Fr.app N4 N8q
    obtain ⟨fs, hr, hrun, hended, hW, hsame⟩ := X8.leave (v := some (.int (1 : Int32))) (fun h => by rw [Bd.returns] at h; cases h)
    refine ⟨_, _, pre5 _ ?_, hrun, hended, _, _, rfl, ?_, ⟨_, rfl⟩, hW, hsame.mono (by decide) (by decide)⟩
    · show Steps pg.tables ee below (T4.setTop (mkF mm 56 #[.val (.long q0), .second, .val (.long (q0 &&& (9223372036854775807 : Int64))), .second, .val (.ref b1), .val (.int (1 : Int32)), .val (.int (1 : Int32)), .unset] [(.ref b1)])) _
      refine st8.trans ?_
      show Steps pg.tables ee below (T8.setTop (mkF mm 59 #[.val (.long q0), .second, .val (.long (q0 &&& (9223372036854775807 : Int64))), .second, .val (.ref b1), .val (.int (1 : Int32)), .val (.int (1 : Int32)), .unset] [(.int (0 : Int32))])) _
      refine XS.lloadN X8.here hx rfl (hb hby at_59) rfl ?_
      show Steps pg.tables ee below (T8.setTop (mkF mm 60 #[.val (.long q0), .second, .val (.long (q0 &&& (9223372036854775807 : Int64))), .second, .val (.ref b1), .val (.int (1 : Int32)), .val (.int (1 : Int32)), .unset] [(.long (q0 &&& (9223372036854775807 : Int64))), (.int (0 : Int32))])) _
      refine XS.lconst X8.here hx rfl (hb hby at_60) ?_
      show Steps pg.tables ee below (T8.setTop (mkF mm 61 #[.val (.long q0), .second, .val (.long (q0 &&& (9223372036854775807 : Int64))), .second, .val (.ref b1), .val (.int (1 : Int32)), .val (.int (1 : Int32)), .unset] [(.long (0 : Int64)), (.long (q0 &&& (9223372036854775807 : Int64))), (.int (0 : Int32))])) _
      refine XS.lcmp X8.here hx rfl (hb hby at_61) rfl ?_
      show Steps pg.tables ee below (T8.setTop (mkF mm 62 #[.val (.long q0), .second, .val (.long (q0 &&& (9223372036854775807 : Int64))), .second, .val (.ref b1), .val (.int (1 : Int32)), .val (.int (1 : Int32)), .unset] [(.int (lcmpW (q0 &&& (9223372036854775807 : Int64)) (0 : Int64))), (.int (0 : Int32))])) _
      refine XS.ifYes X8.here hx rfl (pc0 := 62) (pc' := 69) rfl (hb hby at_62) rfl ((if0 _ _).trans (feq hc6).2) (by decide) (by decide) ?_
      show Steps pg.tables ee below (T8.setTop (mkF mm 69 #[.val (.long q0), .second, .val (.long (q0 &&& (9223372036854775807 : Int64))), .second, .val (.ref b1), .val (.int (1 : Int32)), .val (.int (1 : Int32)), .unset] [(.int (0 : Int32))])) _
      refine XS.iconst X8.here hx rfl (hb hby at_69) ?_
      show Steps pg.tables ee below (T8.setTop (mkF mm 70 #[.val (.long q0), .second, .val (.long (q0 &&& (9223372036854775807 : Int64))), .second, .val (.ref b1), .val (.int (1 : Int32)), .val (.int (1 : Int32)), .unset] [(.int (0 : Int32)), (.int (0 : Int32))])) _
      refine XS.icmpNo X8.here hx rfl (hb hby at_70) rfl (teq (by decide : (0 : Int32) = (0 : Int32))).2 ?_
      show Steps pg.tables ee below (T8.setTop (mkF mm 73 #[.val (.long q0), .second, .val (.long (q0 &&& (9223372036854775807 : Int64))), .second, .val (.ref b1), .val (.int (1 : Int32)), .val (.int (1 : Int32)), .unset] [])) _
      refine XS.iconst X8.here hx rfl (hb hby at_73) ?_
      show Steps pg.tables ee below (T8.setTop (mkF mm 74 #[.val (.long q0), .second, .val (.long (q0 &&& (9223372036854775807 : Int64))), .second, .val (.ref b1), .val (.int (1 : Int32)), .val (.int (1 : Int32)), .unset] [(.int (1 : Int32))])) _
      refine XS.goto X8.here hx rfl (pc0 := 74) (pc' := 78) rfl (hb hby at_74) (by decide) (by decide) ?_
      show Steps pg.tables ee below (T8.setTop (mkF mm 78 #[.val (.long q0), .second, .val (.long (q0 &&& (9223372036854775807 : Int64))), .second, .val (.ref b1), .val (.int (1 : Int32)), .val (.int (1 : Int32)), .unset] [(.int (1 : Int32))])) _
      refine XS.istore X8.here hx rfl (hb hby at_78) rfl (l' := #[.val (.long q0), .second, .val (.long (q0 &&& (9223372036854775807 : Int64))), .second, .val (.ref b1), .val (.int (1 : Int32)), .val (.int (1 : Int32)), .val (.int (1 : Int32))]) rfl ?_
      show Steps pg.tables ee below (T8.setTop (mkF mm 80 #[.val (.long q0), .second, .val (.long (q0 &&& (9223372036854775807 : Int64))), .second, .val (.ref b1), .val (.int (1 : Int32)), .val (.int (1 : Int32)), .val (.int (1 : Int32))] [])) _
      refine XS.iload X8.here hx rfl (hb hby at_80) rfl ?_
      show Steps pg.tables ee below (T8.setTop (mkF mm 82 #[.val (.long q0), .second, .val (.long (q0 &&& (9223372036854775807 : Int64))), .second, .val (.ref b1), .val (.int (1 : Int32)), .val (.int (1 : Int32)), .val (.int (1 : Int32))] [(.int (1 : Int32))])) _
      refine XS.ifNo X8.here hx rfl (hb hby at_82) rfl ((if0 _ _).trans (feq (by decide : ¬ ((1 : Int32) = (0 : Int32)))).1) ?_
      show Steps pg.tables ee below (T8.setTop (mkF mm 85 #[.val (.long q0), .second, .val (.long (q0 &&& (9223372036854775807 : Int64))), .second, .val (.ref b1), .val (.int (1 : Int32)), .val (.int (1 : Int32)), .val (.int (1 : Int32))] [])) _
      refine XS.iload X8.here hx rfl (hb hby at_85) rfl ?_
      show Steps pg.tables ee below (T8.setTop (mkF mm 87 #[.val (.long q0), .second, .val (.long (q0 &&& (9223372036854775807 : Int64))), .second, .val (.ref b1), .val (.int (1 : Int32)), .val (.int (1 : Int32)), .val (.int (1 : Int32))] [(.int (1 : Int32))])) _
      refine XS.ifNo X8.here hx rfl (hb hby at_87) rfl ((if0 _ _).trans (feq (by decide : ¬ ((1 : Int32) = (0 : Int32)))).1) ?_
      show Steps pg.tables ee below (T8.setTop (mkF mm 90 #[.val (.long q0), .second, .val (.long (q0 &&& (9223372036854775807 : Int64))), .second, .val (.ref b1), .val (.int (1 : Int32)), .val (.int (1 : Int32)), .val (.int (1 : Int32))] [])) _
      refine XS.iload X8.here hx rfl (hb hby at_90) rfl ?_
      show Steps pg.tables ee below (T8.setTop (mkF mm 92 #[.val (.long q0), .second, .val (.long (q0 &&& (9223372036854775807 : Int64))), .second, .val (.ref b1), .val (.int (1 : Int32)), .val (.int (1 : Int32)), .val (.int (1 : Int32))] [(.int (1 : Int32))])) _
      refine XS.ifNo X8.here hx rfl (hb hby at_92) rfl ((if0 _ _).trans (feq (by decide : ¬ ((1 : Int32) = (0 : Int32)))).1) ?_
      show Steps pg.tables ee below (T8.setTop (mkF mm 95 #[.val (.long q0), .second, .val (.long (q0 &&& (9223372036854775807 : Int64))), .second, .val (.ref b1), .val (.int (1 : Int32)), .val (.int (1 : Int32)), .val (.int (1 : Int32))] [])) _
      refine XS.iconst X8.here hx rfl (hb hby at_95) ?_
      show Steps pg.tables ee below (T8.setTop (mkF mm 96 #[.val (.long q0), .second, .val (.long (q0 &&& (9223372036854775807 : Int64))), .second, .val (.ref b1), .val (.int (1 : Int32)), .val (.int (1 : Int32)), .val (.int (1 : Int32))] [(.int (1 : Int32))])) _
      refine XS.goto X8.here hx rfl (pc0 := 96) (pc' := 100) rfl (hb hby at_96) (by decide) (by decide) ?_
      show Steps pg.tables ee below (T8.setTop (mkF mm 100 #[.val (.long q0), .second, .val (.long (q0 &&& (9223372036854775807 : Int64))), .second, .val (.ref b1), .val (.int (1 : Int32)), .val (.int (1 : Int32)), .val (.int (1 : Int32))] [(.int (1 : Int32))])) _
      exact retN X8 hx (t := .boolean) Bd.returns (by simp) (hb hby at_100) hr
    · show Qrm0 Z q0 aNONE aLENGTH h0 n0 _ T8.heap _
      rw [e8]
      exact ⟨rfl, N8⟩
set_option maxRecDepth 65536 in
set_option maxHeartbeats 40000000 in
theorem comes_1 {Post : Tables → Env → Array Value → State → Outcome → State → Prop} (hpost : ∀ tb e args s v u, (limb_1_1.after args s (.returned v) u = true ∧ limb_1_2.after args s (.returned v) u = true ∧ True) → FrameEnd s (.returned v) u (Jvm.fieldLocs frame_1_writes args s ++ Jvm.arrayLocs frame_1_arrays args s ++ Jvm.staticLocs frame_1_statics s) 16 128 → Post tb e args s (.returned v) u) :
    ArmFor flags0 classFile x code maxLocals ret World_1 tables_1 room_1 Calls_1 rest_1 Pre_1 Post := by
  intro l hfl _ _ p e ha hc hk s m args below hf hA hF happ hP
  obtain ⟨hcalls, hrest, hpre⟩ := hP
  obtain ⟨-, -, -, hnamed, -, -, -, hat⟩ := (Spec.applies_iff hf).mp happ
  obtain ⟨hg, hn⟩ := and_e (Cond.before_iff.mp (show (Jvm.Cond.and given_1 narrow_1).before args s = true from hpre))
  obtain ⟨gg1, gg2⟩ := and_e hg
  obtain ⟨w0, rfl⟩ : ∃ w0 : Value, args = #[w0] := by
    have hs : args.size = 1 := by simpa [Cond.value, given_1] using gg1
    obtain ⟨L⟩ := args
    match L, hs with
    | [w0], _ => exact ⟨w0, rfl⟩
  have hw := fun d (hd : d ∈ tables_1) => atoms_spec (ws := Jvm.Cond.code x code maxLocals ret :: tables_1) hat d (List.mem_cons_of_mem _ hd)
  have hfit : Fit s := fun {y c} hc i hi => by
    obtain ⟨ha, rfl⟩ := Array.getElem?_eq_some_iff.mp hc
    have q := List.all_eq_true.mp ((Array.all_eq_true_iff_forall_mem.mp hF) _ (Array.getElem_mem ha)) i (List.mem_range.mpr hi)
    simpa [Array.getElem?_eq_getElem hi] using q
  obtain ⟨i0, ei0⟩ := isL_v gg2
  obtain rfl : w0 = (.long i0) := Option.some.inj ei0
  obtain ⟨gg3, gg4⟩ := and_e hn
  obtain ⟨gg5, gg6⟩ := and_e gg4
  obtain ⟨gg7, gg8⟩ := and_e gg6
  obtain ⟨a_LENGTH, ev_LENGTH⟩ := exa_v gg3
  have E_LENGTH := Exa.start ev_LENGTH gg3
  have S_LENGTH := Sta.start ev_LENGTH (Or.inr ⟨(hw _ (List.mem_of_getElem? (i := 8) rfl)), (hw _ (List.mem_of_getElem? (i := 9) rfl))⟩)
  obtain ⟨a_NONE, ev_NONE⟩ := exa_v gg5
  have E_NONE := Exa.start ev_NONE gg5
  have S_NONE := Sta.start ev_NONE (Or.inr ⟨(hw _ (List.mem_of_getElem? (i := 8) rfl)), (hw _ (List.mem_of_getElem? (i := 42) rfl))⟩)
  have F_LENGTH_ordinal := own_fld ev_LENGTH gg7
  have F_NONE_ordinal := own_fld ev_NONE gg8
  obtain ⟨n, o, h1, h2, h3, _, L, rfl, ⟨rfl, N⟩, hq⟩ := rm0 l s _ hw tables_1 i0 a_NONE a_LENGTH s.heap s.heap.size (Old.start s) S_NONE S_LENGTH E_NONE E_LENGTH (F_LENGTH_ordinal.ne F_NONE_ordinal (by decide)) p e ha hc hk s m _ below hf ((Spec.applies_iff_loose hf).mp happ).1 ⟨rfl, State.Warmed39.refl s, rfl⟩ trivial
  refine ⟨n, _, h1, h2, h3, hpost _ _ _ _ _ _ ⟨Cond.after_iff.mpr rfl, Cond.after_iff.mpr (eq_i res_at (Term.int_eval (1)) rfl), trivial⟩ ⟨hq.1, hq.2.1, (hq.2.2.sift fun y hy => Or.inr (N y hy)).mono (by decide) (by decide)⟩⟩
theorem main_1_1 : Claimed_1_1 := comes_1 fun _ _ _ _ _ _ h hF => ⟨h.1, hF⟩
theorem main_1_2 : Claimed_1_2 := comes_1 fun _ _ _ _ _ _ h hF => ⟨h.2.1, hF⟩
end Jvm.Pilot.@@N@@
namespace Jvm.Pilot.@@N@@
open Jvm Jvm.ClassFile Sem Op Lib Jvm.Free Jvm.Stand Jvm.Pilot.@@N@@.Jvm.D
/-! MADE BY PROGRAM (witnessworld.py) out of the Statement's table words and the real class files: 14 classes; the members and pool entries that the words name. The judged class is class 1, her method 1. -/
namespace start1
open Jvm.ClassFile
def u (s : String) : CpInfo := .utf8 (stringToUtf16 s)
/-- a pool by its gaps: so many unusable entries, then the entry; so many at the end -/
def gap : Nat → List CpInfo → List CpInfo
  | 0, r => r
  | n + 1, r => .unusable :: gap n r
def poolList (es : List (Nat × CpInfo)) (last : Nat) : List CpInfo := es.foldr (fun e r => gap e.1 (e.2 :: r)) (gap last [])
def pool (es : List (Nat × CpInfo)) (last : Nat) : Array CpInfo := ⟨poolList es last⟩
def fileOf (pool : Array CpInfo) (this : Nat) (attrs : Array Attribute := #[]) (ms : Array MethodInfo := #[]) (fl : Nat := 33) (sup : Nat := 0) (ifs : Array Nat := #[]) (fds : Array FieldInfo := #[]) : ClassFile where
  minorVersion := 0
  majorVersion := 65
  constantPool := pool
  accessFlags := fl
  thisClass := this
  superClass := sup
  interfaces := ifs
  fields := fds
  methods := ms
  attributes := attrs
def plain (name : String) (sup : Option ClassId) : Class where
  name := name
  kind := .ordinary
  loader := none
  accessFlags := 33
  super := sup
  interfaces := #[]
  cf := none
  fields := #[]
  methods := #[]
  instanceTypes := #[]
  staticTypes := #[]
  resolved := #[]
  callSites := []
  init := .initialized
  statics := none
  mirror := none

def pool0 : Array CpInfo := pool [(5, u "<init>"), (0, u "()V"), (1, .class_ 10), (1, u "java/lang/Object")] 113

def k0c0 : Code := { maxStack := 0, maxLocals := 1, code := object_method_1_code, exceptionTable := #[], attributes := #[] }
def k0m0 : Method := { name := "<init>", desc := "()V", sig := { parameters := [], returnType := none }, accessFlags := 1, code := some k0c0 }
/-- java/lang/Object -/
def k0 : Class := { plain "java/lang/Object" none with
  accessFlags := 33
  interfaces := #[]
  cf := some (fileOf pool0 8 #[] #[{ accessFlags := 1, nameIndex := 5, descriptorIndex := 6, attributes := #[] }] 33 0 #[] #[])
  fields := #[]
  methods := #[k0m0]
  instanceTypes := #[]
  staticTypes := #[]
  resolved := Array.replicate 124 none
  statics := none }

def pool1 : Array CpInfo := pool [(2, .class_ 4), (1, u "java/lang/Object"), (0, u "<init>"), (0, u "()V"), (2, .long 9223372036854775807), (1, .methodref 12 13), (0, .class_ 14), (0, .nameAndType 15 16), (0, u "com/example/waxwing/waxwing/http/MessageReader$Framing"), (0, u "length"), (0, u "(J)Lcom/example/waxwing/waxwing/http/MessageReader$Framing;"), (0, .methodref 12 18), (0, .nameAndType 19 20), (0, u "body"), (0, u "()Lcom/example/waxwing/waxwing/http/MessageReader$Body;"), (0, .fieldref 22 23), (0, .class_ 24), (0, .nameAndType 25 26), (0, u "com/example/waxwing/waxwing/http/MessageReader$Body"), (0, u "LENGTH"), (0, u "Lcom/example/waxwing/waxwing/http/MessageReader$Body;"), (0, .methodref 12 28), (0, .nameAndType 15 29), (0, u "()J"), (0, .methodref 12 31), (0, .nameAndType 32 33), (0, u "empty"), (0, u "()Z"), (0, .class_ 35), (0, u "com/example/waxwing/waxwing/http/FramingLengthPinLaw"), (2, u "law"), (0, u "(J)Z")] 8

def k1m0 : Method := { name := "<init>", desc := "()V", sig := { parameters := [], returnType := none }, accessFlags := 1, code := none }
def k1c1 : Code := { maxStack := 5, maxLocals := 8, code := code, exceptionTable := #[], attributes := #[] }
def k1m1 : Method := { name := "law", desc := "(J)Z", sig := { parameters := [.long], returnType := some .boolean }, accessFlags := 9, code := some k1c1 }
/-- com/example/waxwing/waxwing/http/FramingLengthPinLaw -/
def k1 : Class := { plain "com/example/waxwing/waxwing/http/FramingLengthPinLaw" (some 0) with
  accessFlags := 49
  interfaces := #[]
  cf := some (fileOf pool1 34 #[] #[{ accessFlags := 1, nameIndex := 5, descriptorIndex := 6, attributes := #[] }, { accessFlags := 9, nameIndex := 38, descriptorIndex := 39, attributes := #[] }] 49 2 #[] #[])
  fields := #[]
  methods := #[k1m0, k1m1]
  instanceTypes := #[]
  staticTypes := #[]
  resolved := Array.replicate 48 none
  statics := none }

def pool2 : Array CpInfo := pool [(1, .methodref 2 3), (0, .class_ 4), (0, .nameAndType 5 6), (0, u "java/lang/Object"), (0, u "<init>"), (0, u "()V"), (0, .class_ 8), (0, u "java/lang/Record")] 13

def k2c0 : Code := { maxStack := 1, maxLocals := 1, code := jdk_30_method_1_code, exceptionTable := #[], attributes := #[] }
def k2m0 : Method := { name := "<init>", desc := "()V", sig := { parameters := [], returnType := none }, accessFlags := 4, code := some k2c0 }
/-- java/lang/Record -/
def k2 : Class := { plain "java/lang/Record" (some 0) with
  accessFlags := 1057
  interfaces := #[]
  cf := some (fileOf pool2 7 #[] #[{ accessFlags := 4, nameIndex := 5, descriptorIndex := 6, attributes := #[] }] 1057 2 #[] #[])
  fields := #[]
  methods := #[k2m0]
  instanceTypes := #[]
  staticTypes := #[]
  resolved := Array.replicate 22 none
  statics := none }

def pool3 : Array CpInfo := pool [(1, .methodref 2 3), (0, .class_ 4), (0, .nameAndType 5 6), (0, u "java/lang/Record"), (0, u "<init>"), (0, u "()V"), (0, .fieldref 8 9), (0, .class_ 10), (0, .nameAndType 11 12), (0, u "com/example/waxwing/waxwing/http/MessageReader$Framing"), (0, u "body"), (0, u "Lcom/example/waxwing/waxwing/http/MessageReader$Body;"), (0, .fieldref 8 14), (0, .nameAndType 15 16), (0, u "length"), (0, u "J"), (0, .fieldref 18 19), (0, .class_ 20), (0, .nameAndType 21 12), (0, u "com/example/waxwing/waxwing/http/MessageReader$Body"), (0, u "LENGTH"), (0, .methodref 8 23), (0, .nameAndType 5 24), (0, u "(Lcom/example/waxwing/waxwing/http/MessageReader$Body;J)V"), (0, .fieldref 18 26), (0, .nameAndType 27 12), (0, u "NONE"), (14, u "Lcom/example/waxwing/waxwing/http/MessageReader$Framing;"), (2, u "CHUNKED"), (4, u "UNTIL_CLOSE"), (5, u "(J)Lcom/example/waxwing/waxwing/http/MessageReader$Framing;"), (0, u "empty"), (0, u "()Z"), (4, u "()Lcom/example/waxwing/waxwing/http/MessageReader$Body;"), (0, u "()J"), (4, .class_ 70), (0, u "com/example/waxwing/waxwing/http/MessageReader")] 21

def k3c0 : Code := { maxStack := 3, maxLocals := 4, code := prog_19_method_1_code, exceptionTable := #[], attributes := #[] }
def k3m0 : Method := { name := "<init>", desc := "(Lcom/example/waxwing/waxwing/http/MessageReader$Body;J)V", sig := { parameters := [(.object "com/example/waxwing/waxwing/http/MessageReader$Body"), .long], returnType := none }, accessFlags := 0, code := some k3c0 }
def k3c1 : Code := { maxStack := 5, maxLocals := 2, code := prog_19_method_2_code, exceptionTable := #[], attributes := #[] }
def k3m1 : Method := { name := "length", desc := "(J)Lcom/example/waxwing/waxwing/http/MessageReader$Framing;", sig := { parameters := [.long], returnType := some (.object "com/example/waxwing/waxwing/http/MessageReader$Framing") }, accessFlags := 8, code := some k3c1 }
def k3c2 : Code := { maxStack := 4, maxLocals := 1, code := prog_19_method_3_code, exceptionTable := #[], attributes := #[] }
def k3m2 : Method := { name := "empty", desc := "()Z", sig := { parameters := [], returnType := some .boolean }, accessFlags := 0, code := some k3c2 }
def k3c3 : Code := { maxStack := 1, maxLocals := 1, code := prog_19_method_7_code, exceptionTable := #[], attributes := #[] }
def k3m3 : Method := { name := "body", desc := "()Lcom/example/waxwing/waxwing/http/MessageReader$Body;", sig := { parameters := [], returnType := some (.object "com/example/waxwing/waxwing/http/MessageReader$Body") }, accessFlags := 1, code := some k3c3 }
def k3c4 : Code := { maxStack := 2, maxLocals := 1, code := prog_19_method_8_code, exceptionTable := #[], attributes := #[] }
def k3m4 : Method := { name := "length", desc := "()J", sig := { parameters := [], returnType := some .long }, accessFlags := 1, code := some k3c4 }
/-- com/example/waxwing/waxwing/http/MessageReader$Framing -/
def k3 : Class := { plain "com/example/waxwing/waxwing/http/MessageReader$Framing" (some 2) with
  accessFlags := 48
  interfaces := #[]
  cf := some (fileOf pool3 8 #[.nestHost 69] #[{ accessFlags := 0, nameIndex := 5, descriptorIndex := 24, attributes := #[] }, { accessFlags := 8, nameIndex := 15, descriptorIndex := 56, attributes := #[] }, { accessFlags := 0, nameIndex := 57, descriptorIndex := 58, attributes := #[] }, { accessFlags := 1, nameIndex := 11, descriptorIndex := 63, attributes := #[] }, { accessFlags := 1, nameIndex := 15, descriptorIndex := 64, attributes := #[] }] 48 2 #[] #[{ accessFlags := 18, nameIndex := 11, descriptorIndex := 12, attributes := #[] }, { accessFlags := 18, nameIndex := 15, descriptorIndex := 16, attributes := #[] }, { accessFlags := 24, nameIndex := 27, descriptorIndex := 42, attributes := #[] }, { accessFlags := 24, nameIndex := 45, descriptorIndex := 42, attributes := #[] }, { accessFlags := 24, nameIndex := 50, descriptorIndex := 42, attributes := #[] }])
  fields := #[{ name := "body", type := (.object "com/example/waxwing/waxwing/http/MessageReader$Body"), accessFlags := 18, slot := 0, constantValue := 0 }, { name := "length", type := .long, accessFlags := 18, slot := 1, constantValue := 0 }, { name := "NONE", type := (.object "com/example/waxwing/waxwing/http/MessageReader$Framing"), accessFlags := 24, slot := 0, constantValue := 0 }, { name := "CHUNKED", type := (.object "com/example/waxwing/waxwing/http/MessageReader$Framing"), accessFlags := 24, slot := 1, constantValue := 0 }, { name := "UNTIL_CLOSE", type := (.object "com/example/waxwing/waxwing/http/MessageReader$Framing"), accessFlags := 24, slot := 2, constantValue := 0 }]
  methods := #[k3m0, k3m1, k3m2, k3m3, k3m4]
  instanceTypes := #[(.object "com/example/waxwing/waxwing/http/MessageReader$Body"), .long]
  staticTypes := #[(.object "com/example/waxwing/waxwing/http/MessageReader$Framing"), (.object "com/example/waxwing/waxwing/http/MessageReader$Framing"), (.object "com/example/waxwing/waxwing/http/MessageReader$Framing")]
  resolved := Array.replicate 92 none
  statics := none }

def pool4 : Array CpInfo := pool [(1, .class_ 2), (0, u "java/lang/constant/Constable"), (0, .class_ 4), (0, u "java/lang/Object")] 6

/-- java/lang/constant/Constable -/
def k4 : Class := { plain "java/lang/constant/Constable" (some 0) with
  accessFlags := 1537
  interfaces := #[]
  cf := some (fileOf pool4 1 #[] #[] 1537 3 #[] #[])
  fields := #[]
  methods := #[]
  instanceTypes := #[]
  staticTypes := #[]
  resolved := Array.replicate 11 none
  statics := none }

def pool5 : Array CpInfo := pool [(1, .class_ 2), (0, u "java/lang/Comparable"), (0, .class_ 4), (0, u "java/lang/Object")] 7

/-- java/lang/Comparable -/
def k5 : Class := { plain "java/lang/Comparable" (some 0) with
  accessFlags := 1537
  interfaces := #[]
  cf := some (fileOf pool5 1 #[] #[] 1537 3 #[] #[])
  fields := #[]
  methods := #[]
  instanceTypes := #[]
  staticTypes := #[]
  resolved := Array.replicate 12 none
  statics := none }

def pool6 : Array CpInfo := pool [(1, .class_ 2), (0, u "java/io/Serializable"), (0, .class_ 4), (0, u "java/lang/Object")] 2

/-- java/io/Serializable -/
def k6 : Class := { plain "java/io/Serializable" (some 0) with
  accessFlags := 1537
  interfaces := #[]
  cf := some (fileOf pool6 1 #[] #[] 1537 3 #[] #[])
  fields := #[]
  methods := #[]
  instanceTypes := #[]
  staticTypes := #[]
  resolved := Array.replicate 7 none
  statics := none }

def pool7 : Array CpInfo := pool [(2, .class_ 4), (1, u "java/lang/Enum"), (0, u "name"), (0, u "Ljava/lang/String;"), (2, u "ordinal"), (0, u "I"), (1, .class_ 14), (1, u "java/lang/Object"), (4, u "hash"), (86, .class_ 108), (1, u "java/lang/Enum$EnumDesc"), (2, .class_ 112), (0, u "java/lang/constant/Constable"), (0, .class_ 114), (0, u "java/lang/Comparable"), (0, .class_ 116), (0, u "java/io/Serializable")] 87

/-- java/lang/Enum -/
def k7 : Class := { plain "java/lang/Enum" (some 0) with
  accessFlags := 1057
  interfaces := #[4, 5, 6]
  cf := some (fileOf pool7 2 #[.nestMembers #[106]] #[] 1057 12 #[111, 113, 115] #[{ accessFlags := 18, nameIndex := 5, descriptorIndex := 6, attributes := #[] }, { accessFlags := 18, nameIndex := 9, descriptorIndex := 10, attributes := #[] }, { accessFlags := 2, nameIndex := 19, descriptorIndex := 10, attributes := #[] }])
  fields := #[{ name := "name", type := (.object "java/lang/String"), accessFlags := 18, slot := 0, constantValue := 0 }, { name := "ordinal", type := .int, accessFlags := 18, slot := 1, constantValue := 0 }, { name := "hash", type := .int, accessFlags := 2, slot := 2, constantValue := 0 }]
  methods := #[]
  instanceTypes := #[(.object "java/lang/String"), .int, .int]
  staticTypes := #[]
  resolved := Array.replicate 204 none
  statics := none }

def pool8 : Array CpInfo := pool [(1, .class_ 2), (0, u "com/example/waxwing/waxwing/http/MessageReader$Body"), (2, u "NONE"), (0, u "Lcom/example/waxwing/waxwing/http/MessageReader$Body;"), (2, u "LENGTH"), (2, u "CHUNKED"), (2, u "UNTIL_CLOSE"), (2, u "$VALUES"), (0, u "[Lcom/example/waxwing/waxwing/http/MessageReader$Body;"), (6, .class_ 28), (1, u "java/lang/Enum"), (27, .class_ 57), (0, u "com/example/waxwing/waxwing/http/MessageReader")] 2

/-- com/example/waxwing/waxwing/http/MessageReader$Body -/
def k8 : Class := { plain "com/example/waxwing/waxwing/http/MessageReader$Body" (some 7) with
  accessFlags := 16432
  interfaces := #[]
  cf := some (fileOf pool8 1 #[.nestHost 56] #[] 16432 26 #[] #[{ accessFlags := 16409, nameIndex := 5, descriptorIndex := 6, attributes := #[] }, { accessFlags := 16409, nameIndex := 9, descriptorIndex := 6, attributes := #[] }, { accessFlags := 16409, nameIndex := 12, descriptorIndex := 6, attributes := #[] }, { accessFlags := 16409, nameIndex := 15, descriptorIndex := 6, attributes := #[] }, { accessFlags := 4122, nameIndex := 18, descriptorIndex := 19, attributes := #[] }])
  fields := #[{ name := "NONE", type := (.object "com/example/waxwing/waxwing/http/MessageReader$Body"), accessFlags := 16409, slot := 0, constantValue := 0 }, { name := "LENGTH", type := (.object "com/example/waxwing/waxwing/http/MessageReader$Body"), accessFlags := 16409, slot := 1, constantValue := 0 }, { name := "CHUNKED", type := (.object "com/example/waxwing/waxwing/http/MessageReader$Body"), accessFlags := 16409, slot := 2, constantValue := 0 }, { name := "UNTIL_CLOSE", type := (.object "com/example/waxwing/waxwing/http/MessageReader$Body"), accessFlags := 16409, slot := 3, constantValue := 0 }, { name := "$VALUES", type := (.array (.object "com/example/waxwing/waxwing/http/MessageReader$Body")), accessFlags := 4122, slot := 4, constantValue := 0 }]
  methods := #[]
  instanceTypes := #[(.object "java/lang/String"), .int, .int]
  staticTypes := #[(.object "com/example/waxwing/waxwing/http/MessageReader$Body"), (.object "com/example/waxwing/waxwing/http/MessageReader$Body"), (.object "com/example/waxwing/waxwing/http/MessageReader$Body"), (.object "com/example/waxwing/waxwing/http/MessageReader$Body"), (.array (.object "com/example/waxwing/waxwing/http/MessageReader$Body"))]
  resolved := Array.replicate 60 none
  statics := some 0 }

def pool9 : Array CpInfo := pool [(1, u "java/lang/Cloneable"), (0, .class_ 1), (0, u "java/lang/Object"), (0, .class_ 3)] 3

/-- java/lang/Cloneable -/
def k9 : Class := { plain "java/lang/Cloneable" (some 0) with
  accessFlags := 1537
  interfaces := #[]
  cf := some (fileOf pool9 2 #[] #[] 1537 4 #[] #[])
  fields := #[]
  methods := #[]
  instanceTypes := #[]
  staticTypes := #[]
  resolved := Array.replicate 8 none
  statics := none }

/-- the primitive byte -/
def k10 : Class := { plain "byte" none with kind := .primitive 'B', accessFlags := 0x411 }
/-- [B -/
def k11 : Class := { plain "[B" (some 0) with kind := .array 10 .byte, interfaces := #[9, 6], accessFlags := 1041 }

/-- the primitive int -/
def k12 : Class := { plain "int" none with kind := .primitive 'I', accessFlags := 0x411 }
/-- [I -/
def k13 : Class := { plain "[I" (some 0) with kind := .array 12 .int, interfaces := #[9, 6], accessFlags := 1041 }

def heap : Heap := #[{ cls := 8, slots := #[.ref 2, .ref 1, .null, .null, .null], vm := .statics 8 },
  { cls := 8, slots := #[.null, .int 1, .int 0], vm := .none },
  { cls := 8, slots := #[.null, .int 0, .int 0], vm := .none }]
def classes : Array Class := #[k0, k1, k2, k3, k4, k5, k6, k7, k8, k9, k10, k11, k12, k13]
def interned : List (Array UInt16 × Addr) := []
def slotsUsed : Nat := 11
def theMethod : MethodId := ⟨1, 1⟩
def args0 : Array Value := #[.long 6]
def aboutOver (below : List Frame) : State where
  vm := { classes := classes, interned := interned.toArray }
  heap := heap
  slotsUsed := slotsUsed
  threads := #[{ frames := .invoking theMethod args0 :: below }]
def below0 : List Frame := [.native { method := ⟨0, 0⟩, args := #[] }]
def about1 : State := aboutOver below0
def p0 : Program := .bare "" "" ""
def e0 : Env := launch0.env 0 0 0
theorem w_frames : about1.frames = Frame.invoking theMethod args0 :: below0 := rfl
set_option maxRecDepth 65536 in
theorem w_args : argsFit about1.vm theMethod args0 = true := by decide +kernel
set_option maxRecDepth 65536 in
theorem w_heap : heapFits about1 = true := by decide +kernel
set_option maxRecDepth 65536 in
theorem w_runnable : about1.curStatus? = some .runnable := by decide +kernel
set_option maxRecDepth 65536 in
theorem w_alone : about1.alone = true := by decide +kernel
set_option maxRecDepth 65536 in
theorem w_named : about1.methodNamed? x = some theMethod := by decide +kernel
set_option maxRecDepth 65536 in
theorem w_hears : about1.hears theMethod below0 = true := by decide +kernel
set_option maxRecDepth 65536 in
theorem w_ripe : about1.ripe theMethod args0 below0 = true := by decide +kernel
theorem w_running : about1.status = .running := rfl
set_option maxRecDepth 65536 in
theorem w_room : about1.hasRoom e0.platform room_1 = true :=
  launch0.hasRoom_least _ room_1 (by decide +kernel) (by decide +kernel) (by decide +kernel) (by decide +kernel) (by decide +kernel) (by decide +kernel)
theorem allAtoms_all (ts : List Jvm.Cond) (a : Array Jvm.Value) (st : Jvm.State) : (allAtoms ts).before a st = ts.all (fun c => c.before a st) := by
  induction ts with
  | nil => rfl
  | cons c t ih =>
    show (Jvm.Cond.and c (allAtoms t)).before a st = _
    rw [Jvm.Cond.before_and, ih, List.all_cons]
def words1 : List Jvm.Cond := Jvm.Cond.code x code maxLocals ret :: tables_1
/-- a 'code' word, met by the world's own term for the bytes: nothing is compared byte by byte -/
theorem code_word {y : MethodName} {bytes : ByteArray} {mx : Nat} {rt : Option FieldType} {a : Array Value} {s : State} {m : MethodId} {meth : Method} {c : Code} (h1 : s.methodNamed? y = some m) (h2 : s.vm.method? m = some meth) (h3 : meth.code = some c) (h4 : c.code = bytes)
    (h5 : (c.maxLocals == mx && c.exceptionTable.isEmpty && decide (c.maxStack ≤ mostOperands) && decide (meth.sig.returnType = rt) && !meth.locks && decide (parseMethodDescriptor y.desc = some meth.sig)) = true) : (Jvm.Cond.code y bytes mx rt).before a s = true := by
  simp only [Bool.and_eq_true, beq_iff_eq, Bool.not_eq_true', decide_eq_true_eq] at h5
  obtain ⟨⟨⟨⟨⟨g1, g2⟩, g3⟩, g4⟩, g5⟩, g6⟩ := h5
  simp [Cond.before, Cond.holds, Cond.value, h1, h2, h3, h4, g1, g2, g3, g4, g5, g6]
def isCode : Jvm.Cond → Bool
  | .code _ _ _ _ => true
  | _ => false
theorem all_split {L : List Jvm.Cond} {P : Jvm.Cond → Bool} (h1 : L.all (fun c => isCode c || P c) = true) (h2 : ∀ c ∈ L.filter isCode, P c = true) : L.all P = true := by
  refine List.all_eq_true.mpr fun c hc => ?_
  have h := List.all_eq_true.mp h1 c hc
  rcases Bool.eq_false_or_eq_true (isCode c) with hi | hi
  · exact h2 c (List.mem_filter.mpr ⟨hc, hi⟩)
  · simpa [hi] using h
set_option maxRecDepth 65536 in
theorem w_c0 : (Jvm.Cond.code x code maxLocals ret).before args0 about1 = true := code_word (m := ⟨1, 1⟩) (meth := k1m1) (c := k1c1) (by decide +kernel) rfl rfl rfl (by decide +kernel)
set_option maxRecDepth 65536 in
theorem w_c1 : (Jvm.Cond.code ({ cls := "com/example/waxwing/waxwing/http/MessageReader$Framing", name := "length", desc := "(J)Lcom/example/waxwing/waxwing/http/MessageReader$Framing;" } : Jvm.MethodName) prog_19_method_2_code (2 : Nat) (Option.some (Jvm.ClassFile.FieldType.object "com/example/waxwing/waxwing/http/MessageReader$Framing"))).before args0 about1 = true := code_word (m := ⟨3, 1⟩) (meth := k3m1) (c := k3c1) (by decide +kernel) rfl rfl rfl (by decide +kernel)
set_option maxRecDepth 65536 in
theorem w_c2 : (Jvm.Cond.code ({ cls := "com/example/waxwing/waxwing/http/MessageReader$Framing", name := "<init>", desc := "(Lcom/example/waxwing/waxwing/http/MessageReader$Body;J)V" } : Jvm.MethodName) prog_19_method_1_code (4 : Nat) (Option.none : Option Jvm.ClassFile.FieldType)).before args0 about1 = true := code_word (m := ⟨3, 0⟩) (meth := k3m0) (c := k3c0) (by decide +kernel) rfl rfl rfl (by decide +kernel)
set_option maxRecDepth 65536 in
theorem w_c3 : (Jvm.Cond.code ({ cls := "java/lang/Record", name := "<init>", desc := "()V" } : Jvm.MethodName) jdk_30_method_1_code (1 : Nat) (Option.none : Option Jvm.ClassFile.FieldType)).before args0 about1 = true := code_word (m := ⟨2, 0⟩) (meth := k2m0) (c := k2c0) (by decide +kernel) rfl rfl rfl (by decide +kernel)
set_option maxRecDepth 65536 in
theorem w_c4 : (Jvm.Cond.code ({ cls := "java/lang/Object", name := "<init>", desc := "()V" } : Jvm.MethodName) object_method_1_code (1 : Nat) (Option.none : Option Jvm.ClassFile.FieldType)).before args0 about1 = true := code_word (m := ⟨0, 0⟩) (meth := k0m0) (c := k0c0) (by decide +kernel) rfl rfl rfl (by decide +kernel)
set_option maxRecDepth 65536 in
theorem w_c5 : (Jvm.Cond.code ({ cls := "com/example/waxwing/waxwing/http/MessageReader$Framing", name := "body", desc := "()Lcom/example/waxwing/waxwing/http/MessageReader$Body;" } : Jvm.MethodName) prog_19_method_7_code (1 : Nat) (Option.some (Jvm.ClassFile.FieldType.object "com/example/waxwing/waxwing/http/MessageReader$Body"))).before args0 about1 = true := code_word (m := ⟨3, 3⟩) (meth := k3m3) (c := k3c3) (by decide +kernel) rfl rfl rfl (by decide +kernel)
set_option maxRecDepth 65536 in
theorem w_c6 : (Jvm.Cond.code ({ cls := "com/example/waxwing/waxwing/http/MessageReader$Framing", name := "length", desc := "()J" } : Jvm.MethodName) prog_19_method_8_code (1 : Nat) (Option.some Jvm.ClassFile.FieldType.long)).before args0 about1 = true := code_word (m := ⟨3, 4⟩) (meth := k3m4) (c := k3c4) (by decide +kernel) rfl rfl rfl (by decide +kernel)
set_option maxRecDepth 65536 in
theorem w_c7 : (Jvm.Cond.code ({ cls := "com/example/waxwing/waxwing/http/MessageReader$Framing", name := "empty", desc := "()Z" } : Jvm.MethodName) prog_19_method_3_code (1 : Nat) (Option.some Jvm.ClassFile.FieldType.boolean)).before args0 about1 = true := code_word (m := ⟨3, 2⟩) (meth := k3m2) (c := k3c2) (by decide +kernel) rfl rfl rfl (by decide +kernel)
def codes1 : List Jvm.Cond := [Jvm.Cond.code x code maxLocals ret, Jvm.Cond.code ({ cls := "com/example/waxwing/waxwing/http/MessageReader$Framing", name := "length", desc := "(J)Lcom/example/waxwing/waxwing/http/MessageReader$Framing;" } : Jvm.MethodName) prog_19_method_2_code (2 : Nat) (Option.some (Jvm.ClassFile.FieldType.object "com/example/waxwing/waxwing/http/MessageReader$Framing")), Jvm.Cond.code ({ cls := "com/example/waxwing/waxwing/http/MessageReader$Framing", name := "<init>", desc := "(Lcom/example/waxwing/waxwing/http/MessageReader$Body;J)V" } : Jvm.MethodName) prog_19_method_1_code (4 : Nat) (Option.none : Option Jvm.ClassFile.FieldType), Jvm.Cond.code ({ cls := "java/lang/Record", name := "<init>", desc := "()V" } : Jvm.MethodName) jdk_30_method_1_code (1 : Nat) (Option.none : Option Jvm.ClassFile.FieldType), Jvm.Cond.code ({ cls := "java/lang/Object", name := "<init>", desc := "()V" } : Jvm.MethodName) object_method_1_code (1 : Nat) (Option.none : Option Jvm.ClassFile.FieldType), Jvm.Cond.code ({ cls := "com/example/waxwing/waxwing/http/MessageReader$Framing", name := "body", desc := "()Lcom/example/waxwing/waxwing/http/MessageReader$Body;" } : Jvm.MethodName) prog_19_method_7_code (1 : Nat) (Option.some (Jvm.ClassFile.FieldType.object "com/example/waxwing/waxwing/http/MessageReader$Body")), Jvm.Cond.code ({ cls := "com/example/waxwing/waxwing/http/MessageReader$Framing", name := "length", desc := "()J" } : Jvm.MethodName) prog_19_method_8_code (1 : Nat) (Option.some Jvm.ClassFile.FieldType.long), Jvm.Cond.code ({ cls := "com/example/waxwing/waxwing/http/MessageReader$Framing", name := "empty", desc := "()Z" } : Jvm.MethodName) prog_19_method_3_code (1 : Nat) (Option.some Jvm.ClassFile.FieldType.boolean)]
set_option maxRecDepth 65536 in
theorem codes_eq : words1.filter isCode = codes1 := rfl
theorem w_codes : ∀ c ∈ words1.filter isCode, c.before args0 about1 = true := by
  rw [codes_eq]
  intro c hc
  simp only [codes1, List.mem_cons, List.not_mem_nil, or_false] at hc
  rcases hc with rfl | rfl | rfl | rfl | rfl | rfl | rfl | rfl
  · exact w_c0
  · exact w_c1
  · exact w_c2
  · exact w_c3
  · exact w_c4
  · exact w_c5
  · exact w_c6
  · exact w_c7
set_option maxRecDepth 65536 in
theorem w_t1 : (words1.take 24).all (fun c => isCode c || c.before args0 about1) = true := by decide +kernel
set_option maxRecDepth 65536 in
theorem w_t2 : (words1.drop 24).all (fun c => isCode c || c.before args0 about1) = true := by decide +kernel
theorem w_tables : (allAtoms (Jvm.Cond.code x code maxLocals ret :: tables_1)).before args0 about1 = true := by
  rw [allAtoms_all]
  show words1.all (fun c => c.before args0 about1) = true
  refine all_split ?_ w_codes
  rw [← List.take_append_drop 24 words1, List.all_append, w_t1, w_t2]
  rfl
set_option maxRecDepth 65536 in
theorem w_case : (Jvm.Cond.and given_1 narrow_1).before args0 about1 = true := by decide +kernel
theorem w_applies : (headSpec (Jvm.Cond.code x code maxLocals ret :: tables_1) room_1).applies x e0.platform about1 = true :=
  (Spec.applies_iff w_frames).mpr ⟨w_running, w_runnable, w_alone, w_named, w_hears, w_ripe, w_room, w_tables⟩
theorem atStart : AtStart classFile x code maxLocals ret World_1 tables_1 room_1 Calls_1 rest_1 Pre_1 launch0 p0 e0 about1 theMethod args0 below0 :=
  ⟨lists_1, trivial, launch0.admits_env _ _ _, launch0.least_env, fairChoices_fair.cas, fairChoices_fair.clock, w_frames, w_args, w_heap, w_applies, trivial, trivial, w_case⟩
end start1
theorem witness_1 : WitnessClaimed_1 := ⟨start1.p0, start1.e0, start1.about1, start1.theMethod, start1.args0, start1.below0, start1.atStart⟩
end Jvm.Pilot.@@N@@
