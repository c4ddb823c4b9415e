import JvmDerived
import JvmDerived.Pilot.@@N@@Statement
import JvmDerived.Pilot.@@N@@Code
set_option linter.unusedVariables false
set_option linter.unusedSimpArgs false
namespace Jvm.Pilot.@@N@@
open Jvm Jvm.ClassFile Sem Op Lib Jvm.Free Jvm.Stand Jvm.LawKit Jvm.RoadKit Bundle Jvm.Pilot.@@N@@.Jvm.D
theorem own_eqi {s : State} {args : Array Value} {t : Term} {k : Int32} (h : (Jvm.Cond.eq t (Term.int k)).value args s none s [] = some true) : t.eval args s none [] s = some (.int k) := by
  obtain ⟨u, v, hu, hv, k1, k2⟩ := cmp_v (Or.inl h)
  obtain rfl : v = .int k := Option.some.inj (hv.symm.trans (Term.int_eval k))
  obtain ⟨z, rfl⟩ := k2
  rw [hu]
  simp [Cond.value, hu, hv] at h
  rw [h]
theorem own_fld {s : State} {args : Array Value} {t : Term} {C n d : String} {k : Int32} {x : Addr} (ev : t.eval args s none [] s = some (.ref x)) (h : (Jvm.Cond.eq (Term.field t C n d) (Term.int k)).value args s none s [] = some true) : Fld s s.heap x C n d (.int k) := by
  have hu := own_eqi h
  rw [fld_at ev] at hu
  exact Fld.start hu
theorem own_h {Z : State} {a0 : Array Value} (hw : ∀ d ∈ tables_1, d.before a0 Z = true) (i : Nat) {d : Jvm.Cond} (h : tables_1[i]? = some d) : d.before a0 Z = true := hw d (List.mem_of_getElem? h)
def own_EL : List (String × Nat) := [("com/example/waxwing/waxwing/http/Head", 68), ("java/lang/String", 7)]
theorem own_hEL {Z : State} {a0 : Array Value} (hw : ∀ d ∈ tables_1, d.before a0 Z = true) : EW Z a0 own_EL := (EW.cons (own_h hw 81 rfl) (by decide +kernel) (EW.cons (own_h hw 18 rfl) (by decide +kernel) EW.nil))
theorem own_wS {Z : State} {a0 : Array Value} (hw : ∀ d ∈ tables_1, d.before a0 Z = true) : ∀ a ∈ Bundle.stringAtoms, a.before a0 Z = true := fun d hd => by
  simp only [Bundle.stringAtoms, List.mem_cons, List.not_mem_nil, or_false] at hd
  rcases hd with rfl | rfl | rfl | rfl | rfl | rfl | rfl
  · exact (own_h hw 7 rfl)
  · exact (own_h hw 6 rfl)
  · exact (own_h hw 19 rfl)
  · exact (own_h hw 20 rfl)
  · exact (own_h hw 21 rfl)
  · exact (own_h hw 22 rfl)
  · exact (own_h hw 23 rfl)
theorem own_safe {Z : State} {EL : List (String × Nat)} {vm : Vm} {h : Heap} {x : Addr} (hal : Z.vm.Alike vm) (F : Fld Z h x "java/lang/String" "value" "[B" .null) (E : Exa Z h x "java/lang/String") : Safe Z EL vm h x := fun B => by
  obtain ⟨cell, cf, k, i, f, e1, e2, -, -, -, -, e7⟩ := F
  obtain ⟨cell', k', g1, g2, -⟩ := E
  cases e1.symm.trans g1
  obtain ⟨p, -, u, a, -, q, -, G, rfl | rfl⟩ := B
  · cases (show h[q.sa]? = some q.sC from G.ha).symm.trans e1
    obtain ⟨cS, ⟨⟨-, -, -, ⟨cv, kv, iv, s4, -⟩, -, -, -, s8, -⟩, -, -⟩, -⟩ := G
    obtain ⟨kk, hi⟩ := ff_back (U := Wst Z vm h) hal s4
    cases e2.symm.trans hi
    cases s8.symm.trans e7
  · cases (show h[q.sd]? = some q.SA from G.hd).symm.trans e1
    obtain ⟨cS, -, -, fB, -⟩ := G
    have fB' : Z.vm.findClass "[B" = some q.SA.cls := by rw [← hal.findClass]; exact fB
    obtain ⟨k1, q1, q2⟩ := Vm.findClass_spec fB'
    obtain ⟨k2, q3, q4⟩ := Vm.findClass_spec g2
    cases q1.symm.trans q3
    exact absurd (q2.symm.trans q4) (by decide)
theorem own_widen {l : Launch} {y : MethodName} {bytes : ByteArray} {maxL : Nat} {ret : Option FieldType} {ws : List Jvm.Cond} {rm : Room} {as' : Array Value} {Z : State} {a0 : Array Value} {EL : List (String × Nat)} {h : Heap} {Q : Option Value → Heap → List Loc → Prop} (hEL : EW Z a0 EL) (hK : ∀ v h' L, Q v h' L → Keep h h' [])
    (hM : MetFree l y (head1 (Jvm.Cond.code y bytes maxL ret :: ws) rm) (fun a U => a = as' ∧ Z.Warmed39 U.vm ∧ U.heap = h) (fun _ _ _ _ _ => True) (fun _ U o U' => ∃ v L, o = .returned v ∧ Q v U'.heap L ∧ FrameEnd U o U' L rm.cells rm.slots)) :
    MetFree l y (head1 (Jvm.Cond.code y bytes maxL ret :: ws) rm) (fun a U => a = as' ∧ Z.Warmed39 U.vm ∧ U.heap = h ∧ CHv Z EL U.vm h) (fun _ _ _ _ _ => True) (fun _ U o U' => ∃ v L, o = .returned v ∧ Q v U'.heap L ∧ CHr Z EL U.vm U.heap U'.vm U'.heap ∧ ReturnedEndW U o U' L rm.cells rm.slots) := by
  intro p e ha hc hk s m args below hf happ hP hKK
  obtain ⟨h1, h2, h3, h4⟩ := hP
  obtain ⟨n, o, g1, g2, g3, v, L, g4, g5, g6⟩ := hM p e ha hc hk s m args below hf happ ⟨h1, h2, h3⟩ trivial
  refine ⟨n, o, g1, g2, g3, v, L, g4, g5, ?_, ReturnedEndW.of_narrow g6.1 g6.2.1 g6.2.2⟩
  have K := hK _ _ _ g5
  have q := CHv.later (h := h) h2 (hW := (show (Wst Z s.vm h).Warmed39 _ from g6.2.1.wide)) hEL ⟨K.1, fun a c q => K.2.1 a c q (fun z => nomatch z)⟩ (Or.inl g6.2.1.interned_eq) h4
  rw [h3]
  exact ⟨q.1, K.1, q.2⟩
def own_al (c : Int32) : Int32 := if (¬ (c < (65 : Int32)) ∧ ¬ ((90 : Int32) < c)) ∨ (¬ (c < (97 : Int32)) ∧ ¬ ((122 : Int32) < c)) ∨ (¬ (c < (48 : Int32)) ∧ ¬ ((57 : Int32) < c)) then 1 else 0
def own_sp (c : Int32) : Prop := c = (33 : Int32) ∨ c = (35 : Int32) ∨ c = (36 : Int32) ∨ c = (37 : Int32) ∨ c = (38 : Int32) ∨ c = (39 : Int32) ∨ c = (42 : Int32) ∨ c = (43 : Int32) ∨ c = (45 : Int32) ∨ c = (46 : Int32) ∨ c = (94 : Int32) ∨ c = (95 : Int32) ∨ c = (96 : Int32) ∨ c = (124 : Int32) ∨ c = (126 : Int32)
def own_t (c : Int32) : Int32 := if ((¬ (c < (65 : Int32)) ∧ ¬ ((90 : Int32) < c)) ∨ (¬ (c < (97 : Int32)) ∧ ¬ ((122 : Int32) < c)) ∨ (¬ (c < (48 : Int32)) ∧ ¬ ((57 : Int32) < c))) ∨ c = (33 : Int32) ∨ c = (35 : Int32) ∨ c = (36 : Int32) ∨ c = (37 : Int32) ∨ c = (38 : Int32) ∨ c = (39 : Int32) ∨ c = (42 : Int32) ∨ c = (43 : Int32) ∨ c = (45 : Int32) ∨ c = (46 : Int32) ∨ c = (94 : Int32) ∨ c = (95 : Int32) ∨ c = (96 : Int32) ∨ c = (124 : Int32) ∨ c = (126 : Int32) then 1 else 0
theorem own_ta {c : Int32} (h : ¬ (own_al c = (0 : Int32))) : own_t c = 1 := by
  unfold own_al at h
  unfold own_t
  split at h
  · rename_i q; exact if_pos (Or.inl q)
  · exact absurd rfl h
theorem own_ts {c : Int32} (h : own_sp c) : own_t c = 1 := if_pos (Or.inr h)
theorem own_tn {c : Int32} (h : own_al c = (0 : Int32)) (h2 : ¬ own_sp c) : own_t c = 0 := by
  unfold own_al at h
  split at h
  · exact absurd h (by decide)
  · rename_i q; exact if_neg fun z => z.elim q h2
theorem own_nlo (z : Int32) : ¬ (nar .char z < (0 : Int32)) := by
  have h := c_i2c z
  rw [Int32.lt_iff_toInt_lt]
  show ¬ (z.toUInt32.toUInt16.toUInt32.toInt32.toInt < (0 : Int32).toInt)
  have e : (0 : Int32).toInt = 0 := by decide
  omega
theorem own_nhi (z : Int32) : ¬ ((65535 : Int32) < nar .char z) := by
  have h := c_i2c z
  rw [Int32.lt_iff_toInt_lt]
  show ¬ ((65535 : Int32).toInt < z.toUInt32.toUInt16.toUInt32.toInt32.toInt)
  have e : (65535 : Int32).toInt = 65535 := by decide
  omega
theorem own_nc {c : Int32} (h0 : ¬ (c < (0 : Int32))) (h1 : ¬ ((65535 : Int32) < c)) : nar .char c = c := by
  have h := c_i2c c
  rw [Int32.lt_iff_toInt_lt] at h0 h1
  have e0 : (0 : Int32).toInt = 0 := by decide
  have e1 : (65535 : Int32).toInt = 65535 := by decide
  apply Int32.toInt_inj.mp
  show c.toUInt32.toUInt16.toUInt32.toInt32.toInt = c.toInt
  omega
theorem own_bc {c : Int32} (h0 : ¬ (c < (0 : Int32))) (h1 : ¬ ((255 : Int32) < c)) (k : Int32) (k0 : 0 ≤ k.toInt) (k1 : k.toInt < 128) : k = c.toInt8.toInt32 ↔ c = k := by
  have h := c_i2b c
  rw [Int32.lt_iff_toInt_lt] at h0 h1
  have e0 : (0 : Int32).toInt = 0 := by decide
  have e1 : (255 : Int32).toInt = 255 := by decide
  rw [← Int32.toInt_inj, ← Int32.toInt_inj]
  omega
theorem own_lc {c : Int32} (h0 : ¬ (c < (0 : Int32))) (h1 : ¬ ((255 : Int32) < c)) : nar .char (((nar .byte (c.toInt8.toInt32)) &&& (255 : Int32)).toUInt32.toUInt16.toUInt32.toInt32) = c := by
  have a := c_i2b c
  have b := c_i2b (c.toInt8.toInt32)
  have d := c_mask (nar .byte (c.toInt8.toInt32)) (255 : Int32) 8 (by decide) (by decide)
  have e := c_i2c ((nar .byte (c.toInt8.toInt32)) &&& (255 : Int32))
  have f := c_i2c (((nar .byte (c.toInt8.toInt32)) &&& (255 : Int32)).toUInt32.toUInt16.toUInt32.toInt32)
  rw [Int32.lt_iff_toInt_lt] at h0 h1
  have e0 : (0 : Int32).toInt = 0 := by decide
  have e1 : (255 : Int32).toInt = 255 := by decide
  have q : (nar .byte (c.toInt8.toInt32)).toInt = c.toInt8.toInt32.toInt8.toInt32.toInt := rfl
  apply Int32.toInt_inj.mp
  show (((nar .byte (c.toInt8.toInt32)) &&& (255 : Int32)).toUInt32.toUInt16.toUInt32.toInt32.toUInt32.toUInt16.toUInt32.toInt32).toInt = c.toInt
  omega
theorem own_gc {c : Int32} (h0 : ¬ (c < (0 : Int32))) (h1 : ¬ ((65535 : Int32) < c)) : nar .char (((((nar .byte ((c >>> ((0 : Int32) &&& 31)).toInt8.toInt32)) &&& (255 : Int32)) <<< ((0 : Int32) &&& 31)) ||| (((nar .byte ((c >>> ((8 : Int32) &&& 31)).toInt8.toInt32)) &&& (255 : Int32)) <<< ((8 : Int32) &&& 31))).toUInt32.toUInt16.toUInt32.toInt32) = c := by
  have s0 := c_ishr c (0 : Int32) 0 (by decide)
  have s8 := c_ishr c (8 : Int32) 8 (by decide)
  generalize hx : (c >>> ((0 : Int32) &&& 31)) = x at *
  generalize hy : (c >>> ((8 : Int32) &&& 31)) = y at *
  have x1 := c_i2b x
  have x2 := c_i2b (x.toInt8.toInt32)
  have y1 := c_i2b y
  have y2 := c_i2b (y.toInt8.toInt32)
  have qx : (nar .byte (x.toInt8.toInt32)).toInt = x.toInt8.toInt32.toInt8.toInt32.toInt := rfl
  have qy : (nar .byte (y.toInt8.toInt32)).toInt = y.toInt8.toInt32.toInt8.toInt32.toInt := rfl
  have mx := c_mask (nar .byte (x.toInt8.toInt32)) (255 : Int32) 8 (by decide) (by decide)
  have my := c_mask (nar .byte (y.toInt8.toInt32)) (255 : Int32) 8 (by decide) (by decide)
  generalize hu : (nar .byte (x.toInt8.toInt32)) &&& (255 : Int32) = u at *
  generalize hv : (nar .byte (y.toInt8.toInt32)) &&& (255 : Int32) = v at *
  have lu := c_ishl u (0 : Int32) 0 (by decide)
  have lv := c_ishl v (8 : Int32) 8 (by decide)
  generalize hp : u <<< ((0 : Int32) &&& 31) = p at *
  generalize hq : v <<< ((8 : Int32) &&& 31) = q at *
  rw [Int32.lt_iff_toInt_lt] at h0 h1
  have e0 : (0 : Int32).toInt = 0 := by decide
  have e1 : (65535 : Int32).toInt = 65535 := by decide
  have rp := rng32 p
  have rq := rng32 q
  have rc := rng32 c
  have pv : p.toInt = c.toInt % 256 := by omega
  have qv : q.toInt = (c.toInt / 256) * 256 := by omega
  have o := c_or q p 8 (by decide) 256 (by decide) (by omega) (by omega) (by omega)
  rw [Int32.or_comm]
  generalize hw : q ||| p = w at *
  have rw_ := rng32 w
  have c1 := c_i2c w
  have c2 := c_i2c (w.toUInt32.toUInt16.toUInt32.toInt32)
  apply Int32.toInt_inj.mp
  show (w.toUInt32.toUInt16.toUInt32.toInt32.toUInt32.toUInt16.toUInt32.toInt32).toInt = c.toInt
  omega
theorem own_r (k : Int32) : (k &&& (3 : Int32)) = (0 : Int32) ∨ (k &&& (3 : Int32)) = (1 : Int32) ∨ (k &&& (3 : Int32)) = (2 : Int32) ∨ (k &&& (3 : Int32)) = (3 : Int32) := by
  have h := c_mask k (3 : Int32) 2 (by decide) (by decide)
  have q : (k &&& (3 : Int32)).toInt = 0 ∨ (k &&& (3 : Int32)).toInt = 1 ∨ (k &&& (3 : Int32)).toInt = 2 ∨ (k &&& (3 : Int32)).toInt = 3 := by omega
  rcases q with q | q | q | q
  · exact Or.inl (Int32.toInt_inj.mp (q.trans rfl))
  · exact Or.inr (Or.inl (Int32.toInt_inj.mp (q.trans rfl)))
  · exact Or.inr (Or.inr (Or.inl (Int32.toInt_inj.mp (q.trans rfl))))
  · exact Or.inr (Or.inr (Or.inr (Int32.toInt_inj.mp (q.trans rfl))))
def own_C (Z : State) (cs : Int32) : Prop := Sta Z Z.heap "java/lang/String" "COMPACT_STRINGS" "Z" (.int cs) ∧ ¬ (cs = (0 : Int32))
def own_F (Z : State) (fm : Value) : Prop := Sta Z Z.heap "jdk/internal/util/Preconditions" "SIOOBE_FORMATTER" "Ljava/util/function/BiFunction;" fm ∧ fm.isRef = true
def own_G (Z : State) : Prop := Sta Z Z.heap "java/lang/StringUTF16" "$assertionsDisabled" "Z" (.int (1 : Int32)) ∧ Sta Z Z.heap "java/lang/StringUTF16" "HI_BYTE_SHIFT" "I" (.int (0 : Int32)) ∧ Sta Z Z.heap "java/lang/StringUTF16" "LO_BYTE_SHIFT" "I" (.int (8 : Int32))
def own_l (c : Int32) : Value := .int (nar .byte (c.toInt8.toInt32))
def own_u (c : Int32) : Value := .int (nar .byte ((c >>> ((0 : Int32) &&& 31)).toInt8.toInt32))
def own_v (c : Int32) : Value := .int (nar .byte ((c >>> ((8 : Int32) &&& 31)).toInt8.toInt32))
def QCk (Z : State) (h0 : Heap) (n0 : Nat) (v : Option Value) (h : Heap) (L : List Loc) : Prop := v = none ∧ Fr n0 L ∧ h = h0
theorem d17_0 : decode jdk_41_method_11_code 0 = .ok (.iload_n 0, 1) := by decide +kernel
theorem d17_1 : decode jdk_41_method_11_code 1 = .ok (.ifCond .lt 8, 3) := by decide +kernel
theorem d17_4 : decode jdk_41_method_11_code 4 = .ok (.iload_n 0, 1) := by decide +kernel
theorem d17_5 : decode jdk_41_method_11_code 5 = .ok (.iload_n 1, 1) := by decide +kernel
theorem d17_6 : decode jdk_41_method_11_code 6 = .ok (.if_icmp .lt 10, 3) := by decide +kernel
theorem d17_16 : decode jdk_41_method_11_code 16 = .ok (.iload_n 0, 1) := by decide +kernel
theorem d17_17 : decode jdk_41_method_11_code 17 = .ok (.ireturn, 1) := by decide +kernel
theorem own_end {p : Program} {l : Launch} {e : Env} {R : Room} {s : State} {m : MethodId} {args : Array Value} {below : List Frame} {meth : Method} {c : Code} {T s0 : State} {locs : List Loc} {cells slots k n : Nat} {Q : Option Value → Heap → List Loc → Prop} (X : Stand p l e R s m args below meth c T locs cells slots) {v : Option Value} (hv : meth.sig.returnType = none → v = none) (hk : cells ≤ k) (hn : slots ≤ n)
    (st : ∀ fs, (∀ (f : JFrame) (acts : List Action), f.method = m → f.locked = none → f.entered = [] → (doReturn e (T.setTop f) acts v).1 = T.setFrames fs) → Steps p.tables e below s0 (T.setFrames fs)) (hQ : Q v T.heap locs) (hlocks : meth.locks = false := by exact BodyLoose.notSynchronized (by assumption)) :
    ∃ s₂ o, Steps p.tables e below s0 s₂ ∧ s₂.status = .running ∧ Ended s₂ below o ∧ ∃ v L, o = .returned v ∧ Q v s₂.heap L ∧ FrameEnd s o s₂ L k n := by
  obtain ⟨fs, hr, hrun, hended, hW, hsame⟩ := X.leave hv hlocks
  exact ⟨_, _, st fs hr, hrun, hended, _, _, rfl, hQ, ⟨_, rfl⟩, hW, hsame.mono hk hn⟩
theorem pn_8 : plainName "jdk/internal/util/Preconditions" = true := by first | (simp [plainName, overriddenIn]; done) | decide +kernel
def own_M (l : Launch) (Z : State) (h0 : Heap) (y : MethodName) (bytes : ByteArray) (maxL : Nat) (ret : Option FieldType) (ws : List Jvm.Cond) (rm : Room) (as' : Array Value) (Q : Option Value → Heap → List Loc → Prop) : Prop :=
  MetFree l y (head1 (Jvm.Cond.code y bytes maxL ret :: ws) rm) (fun a U => a = as' ∧ Z.Warmed39 U.vm ∧ U.heap = h0) (fun _ _ _ _ _ => True) (fun _ U o U' => ∃ v L, o = .returned v ∧ Q v U'.heap L ∧ FrameEnd U o U' L rm.cells rm.slots)
theorem own_start {l : Launch} {Z : State} {h0 : Heap} {y : MethodName} {bytes : ByteArray} {maxL : Nat} {ret : Option FieldType} {ws : List Jvm.Cond} {rm : Room} {as' : Array Value} {Q : Option Value → Heap → List Loc → Prop} (hp : plainFor y = true)
    (body : ∀ (p : Program) (e : Env) (s : State) (m : MethodId) (below : List Frame) (meth : Method) (c : Code) (s₁ : State), BodyLoose p l y (head1 (Jvm.Cond.code y bytes maxL ret :: ws) rm) bytes maxL ret e s m as' below meth c s₁ → Z.Warmed39 s.vm → s.heap = h0 → p.tables.exec = Jvm.exec → c.code = bytes → c.maxLocals = maxL → s.vm.findClass y.cls = some m.cls → meth.name = y.name → Stand p l e rm s m as' below meth c s₁ [] 0 0 → s₁.heap = h0 →
      ∃ s₂ o, Steps p.tables e below (s₁.setTop (entryFrame m as' maxL)) s₂ ∧ s₂.status = .running ∧ Ended s₂ below o ∧ ∃ v L, o = .returned v ∧ Q v s₂.heap L ∧ FrameEnd s o s₂ L rm.cells rm.slots) : own_M l Z h0 y bytes maxL ret ws rm as' Q := by
  refine MetFree.of_bodySF hp hisR ?_
  intro p e s m args below meth c s₁ Bd hml0 hP hK
  obtain ⟨rfl, hZ, hh⟩ := hP
  exact body p e s m below meth c s₁ Bd hZ hh Bd.exec Bd.bytes hml0 (findClass_of_methodNamed Bd.named) (name_of_methodNamed Bd.named Bd.method).1 (Stand.of_body Bd) (by rw [← hh, Bd.state]; rfl)
theorem ef_17_9 (m : MethodId) (x0 : Int32) (x1 : Int32) : entryFrame m #[(.int x0), (.int x1), .null] 3 = mkF m 0 #[.val (.int x0), .val (.int x1), .val .null] [] := by first | (simp [entryFrame, mkF, argsToLocals, Value.category]; done) | rfl
def QrmPiN (Z : State) (j : Int32) (z : Int32) (h0 : Heap) (n0 : Nat) (v : Option Value) (h : Heap) (L : List Loc) : Prop := v = some (.int j) ∧ Fr n0 L ∧ h = h0
set_option maxRecDepth 65536 in
set_option maxHeartbeats 40000000 in
theorem rmPiN (l : Launch) (Z : State) (a0 : Array Value) (hw : ∀ d ∈ tables_1, d.before a0 Z = true) (ws : List Jvm.Cond) (j : Int32) (z : Int32) (h0 : Heap) (n0 : Nat) (O0 : Old Z n0 h0) (hj : ¬ (j < (0 : Int32))) (hz : j < z) :
    own_M l Z h0 (⟨"jdk/internal/util/Preconditions", "checkIndex", "(IILjava/util/function/BiFunction;)I"⟩ : MethodName) jdk_41_method_11_code 3 (some .int) ws ({ frames := 0, cells := 0, slots := 0, locals := 0 } : Room) #[(.int j), (.int z), .null] (QrmPiN Z j z h0 n0) := by
  refine own_start (plainFor_of_name pn_8) ?_
  intro pg ee s mm below meth cc s₁ Bd hZ hh hx hby hml hown0 hnm X0 e0
  have hown : s.vm.findClass "jdk/internal/util/Preconditions" = some mm.cls := hown0
  have N0 := Fr.nil n0
  have pre0 := fun tg_ => castTop (tb := pg.tables) (e := ee) (below := below) (T := s₁) (t := tg_) (ef_17_9 mm j z)
  refine own_end X0 (v := some (.int j)) (fun h => by rw [Bd.returns] at h; cases h) (by decide) (by decide) (fun fs hr => pre0 _ ?_) ?_
  · show Steps pg.tables ee below (s₁.setTop (mkF mm 0 #[.val (.int j), .val (.int z), .val .null] [])) _
    refine XS.iloadN X0.here hx rfl (hb hby d17_0) rfl ?_
    refine XS.ifNo X0.here hx rfl (hb hby d17_1) rfl ((if0 _ _).trans (flt hj).1) ?_
    refine XS.iloadN X0.here hx rfl (hb hby d17_4) rfl ?_
    refine XS.iloadN X0.here hx rfl (hb hby d17_5) rfl ?_
    refine XS.icmpYes X0.here hx rfl (pc0 := 6) (pc' := 16) rfl (hb hby d17_6) rfl (tlt hz).1 (by decide) (by decide) ?_
    refine XS.iloadN X0.here hx rfl (hb hby d17_16) rfl ?_
    exact retOut X0 hx Bd.returns rfl (Or.inl ⟨rfl, Or.inl rfl, _, rfl⟩) (hb hby d17_17) hr
  · show QrmPiN Z j z h0 n0 _ s₁.heap _
    rw [e0]
    exact ⟨rfl, N0, rfl⟩
theorem d16_0 : decode jdk_42_method_155_code 0 = .ok (.iload_n 0, 1) := by decide +kernel
theorem d16_1 : decode jdk_42_method_155_code 1 = .ok (.iload_n 1, 1) := by decide +kernel
theorem d16_2 : decode jdk_42_method_155_code 2 = .ok (.getstatic 1053, 3) := by decide +kernel
theorem d16_5 : decode jdk_42_method_155_code 5 = .ok (.invokestatic 1059, 3) := by decide +kernel
theorem pd_15 : parseMethodDescriptor "(IILjava/util/function/BiFunction;)I" = some ⟨[.int, .int, (.object "java/util/function/BiFunction")], some .int⟩ := by decide +kernel
theorem d16_8 : decode jdk_42_method_155_code 8 = .ok (.pop, 1) := by decide +kernel
theorem d16_9 : decode jdk_42_method_155_code 9 = .ok (.return_, 1) := by decide +kernel
theorem pn_18 : plainName "java/lang/String" = true := by first | (simp [plainName, overriddenIn]; done) | decide +kernel
theorem ef_16_19 (m : MethodId) (x0 : Int32) (x1 : Int32) : entryFrame m #[(.int x0), (.int x1)] 2 = mkF m 0 #[.val (.int x0), .val (.int x1)] [] := by first | (simp [entryFrame, mkF, argsToLocals, Value.category]; done) | rfl
set_option maxRecDepth 65536 in
set_option maxHeartbeats 40000000 in
theorem rmCkN (l : Launch) (Z : State) (a0 : Array Value) (hw : ∀ d ∈ tables_1, d.before a0 Z = true) (ws : List Jvm.Cond) (j : Int32) (z : Int32) (h0 : Heap) (n0 : Nat) (O0 : Old Z n0 h0) (hj : ¬ (j < (0 : Int32))) (hz : j < z) (S_FM : Sta Z Z.heap "jdk/internal/util/Preconditions" "SIOOBE_FORMATTER" "Ljava/util/function/BiFunction;" .null) :
    own_M l Z h0 (⟨"java/lang/String", "checkIndex", "(II)V"⟩ : MethodName) jdk_42_method_155_code 2 none ws ({ frames := 1, cells := 0, slots := 0, locals := 14 } : Room) #[(.int j), (.int z)] (QCk Z  h0 n0) := by
  refine own_start (plainFor_of_name pn_18) ?_
  intro pg ee s mm below meth cc s₁ Bd hZ hh hx hby hml hown0 hnm X0 e0
  have hown : s.vm.findClass "java/lang/String" = some mm.cls := hown0
  have N0 := Fr.nil n0
  have pre0 := fun tg_ => castTop (tb := pg.tables) (e := ee) (below := below) (T := s₁) (t := tg_) (ef_16_19 mm j z)
  obtain ⟨T1, X1, e1, st1⟩ := getS2 X0 hx hZ hown (host := "") (Or.inl (own_h hw 76 rfl)) Via.refl e0 (S_FM.ext O0.2) (g := (mkF mm 2 #[.val (.int j), .val (.int z)] [(.int z), (.int j)])) rfl (hb hby d16_2)
  obtain ⟨_, _, ⟨T2, L2, k2, n2⟩, -, X2, ⟨Lc2, hQ2, l2, y2, z2⟩, st2⟩ := Jvm.LawKit.callS X1 hx hown (mvT hZ (own_h hw 78 rfl)) (mvT hZ (own_h hw 79 rfl)) (mvT hZ (own_h hw 77 rfl)) (mvT hZ (own_h hw 80 rfl)) (by decide) (backOf (W := 0) (rmPiN l Z a0 hw [] j z h0 n0 O0 hj hz) hZ (own_h hw 80 rfl) (own_h hw 77 rfl) (by decide) (by decide)) (g := (mkF mm 5 #[.val (.int j), .val (.int z)] [.null, (.int z), (.int j)])) rfl (by rw [hml]; rfl) (argsL := [(.int j), (.int z), .null]) (rest := []) (lenOf pd_15 rfl) rfl (Nat.le_of_eq rfl) (hb hby d16_5) (fun _ _ => ⟨rfl, e1, (by decide : 0 + 0 ≤ _), (by decide : 0 + 0 ≤ _)⟩)
  dsimp only [Pt.U, Pt.locs, Pt.cells, Pt.slots] at X2 l2 y2 z2 st2 hQ2
  subst l2 y2 z2
  obtain ⟨rfl, N2q, e2⟩ := hQ2
  have N2 := Fr.app N0 N2q
  refine own_end X2 (v := none) (fun _ => rfl) (by decide) (by decide) (fun fs hr => pre0 _ ?_) ?_
  · show Steps pg.tables ee below (s₁.setTop (mkF mm 0 #[.val (.int j), .val (.int z)] [])) _
    refine XS.iloadN X0.here hx rfl (hb hby d16_0) rfl ?_
    refine XS.iloadN X0.here hx rfl (hb hby d16_1) rfl ?_
    refine st1 _ ?_
    refine st2 _ ?_
    refine XS.pop X2.here hx rfl (hb hby d16_8) rfl rfl ?_
    exact X2.returnOut hx Bd.returns (hb hby d16_9) hr
  · show QCk Z  h0 n0 _ T2.heap _
    rw [e2]
    exact ⟨rfl, N2, rfl⟩
theorem ef_17_20 (m : MethodId) (x0 : Int32) (x1 : Int32) (x2 : Addr) : entryFrame m #[(.int x0), (.int x1), (.ref x2)] 3 = mkF m 0 #[.val (.int x0), .val (.int x1), .val (.ref x2)] [] := by first | (simp [entryFrame, mkF, argsToLocals, Value.category]; done) | rfl
def QrmPiR (Z : State) (j : Int32) (z : Int32) (fa : Addr) (h0 : Heap) (n0 : Nat) (v : Option Value) (h : Heap) (L : List Loc) : Prop := v = some (.int j) ∧ Fr n0 L ∧ h = h0
set_option maxRecDepth 65536 in
set_option maxHeartbeats 40000000 in
theorem rmPiR (l : Launch) (Z : State) (a0 : Array Value) (hw : ∀ d ∈ tables_1, d.before a0 Z = true) (ws : List Jvm.Cond) (j : Int32) (z : Int32) (fa : Addr) (h0 : Heap) (n0 : Nat) (O0 : Old Z n0 h0) (hj : ¬ (j < (0 : Int32))) (hz : j < z) :
    own_M l Z h0 (⟨"jdk/internal/util/Preconditions", "checkIndex", "(IILjava/util/function/BiFunction;)I"⟩ : MethodName) jdk_41_method_11_code 3 (some .int) ws ({ frames := 0, cells := 0, slots := 0, locals := 0 } : Room) #[(.int j), (.int z), (.ref fa)] (QrmPiR Z j z fa h0 n0) := by
  refine own_start (plainFor_of_name pn_8) ?_
  intro pg ee s mm below meth cc s₁ Bd hZ hh hx hby hml hown0 hnm X0 e0
  have hown : s.vm.findClass "jdk/internal/util/Preconditions" = some mm.cls := hown0
  have N0 := Fr.nil n0
  have pre0 := fun tg_ => castTop (tb := pg.tables) (e := ee) (below := below) (T := s₁) (t := tg_) (ef_17_20 mm j z fa)
  refine own_end X0 (v := some (.int j)) (fun h => by rw [Bd.returns] at h; cases h) (by decide) (by decide) (fun fs hr => pre0 _ ?_) ?_
  · show Steps pg.tables ee below (s₁.setTop (mkF mm 0 #[.val (.int j), .val (.int z), .val (.ref fa)] [])) _
    refine XS.iloadN X0.here hx rfl (hb hby d17_0) rfl ?_
    refine XS.ifNo X0.here hx rfl (hb hby d17_1) rfl ((if0 _ _).trans (flt hj).1) ?_
    refine XS.iloadN X0.here hx rfl (hb hby d17_4) rfl ?_
    refine XS.iloadN X0.here hx rfl (hb hby d17_5) rfl ?_
    refine XS.icmpYes X0.here hx rfl (pc0 := 6) (pc' := 16) rfl (hb hby d17_6) rfl (tlt hz).1 (by decide) (by decide) ?_
    refine XS.iloadN X0.here hx rfl (hb hby d17_16) rfl ?_
    exact retOut X0 hx Bd.returns rfl (Or.inl ⟨rfl, Or.inl rfl, _, rfl⟩) (hb hby d17_17) hr
  · show QrmPiR Z j z fa h0 n0 _ s₁.heap _
    rw [e0]
    exact ⟨rfl, N0, rfl⟩
set_option maxRecDepth 65536 in
set_option maxHeartbeats 40000000 in
theorem rmCkR (l : Launch) (Z : State) (a0 : Array Value) (hw : ∀ d ∈ tables_1, d.before a0 Z = true) (ws : List Jvm.Cond) (j : Int32) (z : Int32) (fa : Addr) (h0 : Heap) (n0 : Nat) (O0 : Old Z n0 h0) (hj : ¬ (j < (0 : Int32))) (hz : j < z) (S_FM : Sta Z Z.heap "jdk/internal/util/Preconditions" "SIOOBE_FORMATTER" "Ljava/util/function/BiFunction;" (.ref fa)) :
    own_M l Z h0 (⟨"java/lang/String", "checkIndex", "(II)V"⟩ : MethodName) jdk_42_method_155_code 2 none ws ({ frames := 1, cells := 0, slots := 0, locals := 14 } : Room) #[(.int j), (.int z)] (QCk Z  h0 n0) := by
  refine own_start (plainFor_of_name pn_18) ?_
  intro pg ee s mm below meth cc s₁ Bd hZ hh hx hby hml hown0 hnm X0 e0
  have hown : s.vm.findClass "java/lang/String" = some mm.cls := hown0
  have N0 := Fr.nil n0
  have pre0 := fun tg_ => castTop (tb := pg.tables) (e := ee) (below := below) (T := s₁) (t := tg_) (ef_16_19 mm j z)
  obtain ⟨T1, X1, e1, st1⟩ := getS2 X0 hx hZ hown (host := "") (Or.inl (own_h hw 76 rfl)) Via.refl e0 (S_FM.ext O0.2) (g := (mkF mm 2 #[.val (.int j), .val (.int z)] [(.int z), (.int j)])) rfl (hb hby d16_2)
  obtain ⟨_, _, ⟨T2, L2, k2, n2⟩, -, X2, ⟨Lc2, hQ2, l2, y2, z2⟩, st2⟩ := Jvm.LawKit.callS X1 hx hown (mvT hZ (own_h hw 78 rfl)) (mvT hZ (own_h hw 79 rfl)) (mvT hZ (own_h hw 77 rfl)) (mvT hZ (own_h hw 80 rfl)) (by decide) (backOf (W := 0) (rmPiR l Z a0 hw [] j z fa h0 n0 O0 hj hz) hZ (own_h hw 80 rfl) (own_h hw 77 rfl) (by decide) (by decide)) (g := (mkF mm 5 #[.val (.int j), .val (.int z)] [(.ref fa), (.int z), (.int j)])) rfl (by rw [hml]; rfl) (argsL := [(.int j), (.int z), (.ref fa)]) (rest := []) (lenOf pd_15 rfl) rfl (Nat.le_of_eq rfl) (hb hby d16_5) (fun _ _ => ⟨rfl, e1, (by decide : 0 + 0 ≤ _), (by decide : 0 + 0 ≤ _)⟩)
  dsimp only [Pt.U, Pt.locs, Pt.cells, Pt.slots] at X2 l2 y2 z2 st2 hQ2
  subst l2 y2 z2
  obtain ⟨rfl, N2q, e2⟩ := hQ2
  have N2 := Fr.app N0 N2q
  refine own_end X2 (v := none) (fun _ => rfl) (by decide) (by decide) (fun fs hr => pre0 _ ?_) ?_
  · show Steps pg.tables ee below (s₁.setTop (mkF mm 0 #[.val (.int j), .val (.int z)] [])) _
    refine XS.iloadN X0.here hx rfl (hb hby d16_0) rfl ?_
    refine XS.iloadN X0.here hx rfl (hb hby d16_1) rfl ?_
    refine st1 _ ?_
    refine st2 _ ?_
    refine XS.pop X2.here hx rfl (hb hby d16_8) rfl rfl ?_
    exact X2.returnOut hx Bd.returns (hb hby d16_9) hr
  · show QCk Z  h0 n0 _ T2.heap _
    rw [e2]
    exact ⟨rfl, N2, rfl⟩
set_option maxRecDepth 65536 in
theorem rmCk (l : Launch) (Z : State) (a0 : Array Value) (hw : ∀ d ∈ tables_1, d.before a0 Z = true) (ws : List Jvm.Cond) (j : Int32) (z : Int32) (fm : Value) (h0 : Heap) (n0 : Nat) (O0 : Old Z n0 h0) (hj : ¬ (j < (0 : Int32))) (hz : j < z) (hF : own_F Z fm) :
    own_M l Z h0 (⟨"java/lang/String", "checkIndex", "(II)V"⟩ : MethodName) jdk_42_method_155_code 2 none ws ({ frames := 1, cells := 0, slots := 0, locals := 14 } : Room) #[(.int j), (.int z)] (QCk Z h0 n0) := by
  obtain ⟨S_FM, hfm⟩ := hF
  rcases ref_cases hfm with rfl | ⟨fa, rfl⟩
  · exact rmCkN l Z a0 hw ws j z h0 n0 O0 hj hz S_FM
  · exact rmCkR l Z a0 hw ws j z fa h0 n0 O0 hj hz S_FM
theorem d32_0 : decode jdk_52_method_6_code 0 = .ok (.aload_n 0, 1) := by decide +kernel
theorem d32_1 : decode jdk_52_method_6_code 1 = .ok (.arraylength, 1) := by decide +kernel
theorem d32_2 : decode jdk_52_method_6_code 2 = .ok (.iconst 1, 1) := by decide +kernel
theorem d32_3 : decode jdk_52_method_6_code 3 = .ok (.ishr, 1) := by decide +kernel
theorem d32_4 : decode jdk_52_method_6_code 4 = .ok (.ireturn, 1) := by decide +kernel
theorem pn_26 : plainName "java/lang/StringUTF16" = true := by first | (simp [plainName, overriddenIn]; done) | decide +kernel
theorem ef_32_27 (m : MethodId) (x0 : Addr) : entryFrame m #[(.ref x0)] 1 = mkF m 0 #[.val (.ref x0)] [] := by first | (simp [entryFrame, mkF, argsToLocals, Value.category]; done) | rfl
def QrmUl (Z : State) (d : Addr) (kd : ClassId) (z : Int32) (vs : List Value) (h0 : Heap) (n0 : Nat) (v : Option Value) (h : Heap) (L : List Loc) : Prop := v = some (.int (z >>> ((1 : Int32) &&& 31))) ∧ Fr n0 L ∧ h = h0
set_option maxRecDepth 65536 in
set_option maxHeartbeats 40000000 in
theorem rmUl (l : Launch) (Z : State) (a0 : Array Value) (hw : ∀ d ∈ tables_1, d.before a0 Z = true) (ws : List Jvm.Cond) (d : Addr) (kd : ClassId) (z : Int32) (vs : List Value) (h0 : Heap) (n0 : Nat) (O0 : Old Z n0 h0) (Vd : Arv Z h0 d kd .byte z vs (.int 0)) :
    own_M l Z h0 (⟨"java/lang/StringUTF16", "length", "([B)I"⟩ : MethodName) jdk_52_method_6_code 1 (some .int) ws ({ frames := 0, cells := 0, slots := 0, locals := 0 } : Room) #[(.ref d)] (QrmUl Z d kd z vs h0 n0) := by
  refine own_start (plainFor_of_name pn_26) ?_
  intro pg ee s mm below meth cc s₁ Bd hZ hh hx hby hml hown0 hnm X0 e0
  have hown : s.vm.findClass "java/lang/StringUTF16" = some mm.cls := hown0
  have N0 := Fr.nil n0
  have pre0 := fun tg_ => castTop (tb := pg.tables) (e := ee) (below := below) (T := s₁) (t := tg_) (ef_32_27 mm d)
  obtain ⟨cl1, Ar1, qk1, Sz1, Nn1, Hh1, Gg1⟩ := id Vd
  refine own_end X0 (v := some (.int (z >>> ((1 : Int32) &&& 31)))) (fun h => by rw [Bd.returns] at h; cases h) (by decide) (by decide) (fun fs hr => pre0 _ ?_) ?_
  · show Steps pg.tables ee below (s₁.setTop (mkF mm 0 #[.val (.ref d)] [])) _
    refine XS.aloadN X0.here hx rfl (hb hby d32_0) rfl rfl ?_
    refine X0.arraylength hx (by rw [e0]; exact Ar1.1) (State.isArrayOf_alike hZ.alike Ar1.2.1) (g := (mkF mm 1 #[.val (.ref d)] [(.ref d)])) rfl rfl (hb hby d32_1) _ ?_
    rw [len_of Sz1 Nn1]
    refine XS.iconst X0.here hx rfl (hb hby d32_2) ?_
    refine XS.ishr X0.here hx rfl (hb hby d32_3) rfl ?_
    exact retOut X0 hx Bd.returns rfl (Or.inl ⟨rfl, Or.inl rfl, _, rfl⟩) (hb hby d32_4) hr
  · show QrmUl Z d kd z vs h0 n0 _ s₁.heap _
    rw [e0]
    exact ⟨rfl, N0, rfl⟩
theorem d31_0 : decode jdk_52_method_91_code 0 = .ok (.iload_n 0, 1) := by decide +kernel
theorem d31_1 : decode jdk_52_method_91_code 1 = .ok (.aload_n 1, 1) := by decide +kernel
theorem d31_2 : decode jdk_52_method_91_code 2 = .ok (.invokestatic 48, 3) := by decide +kernel
theorem pd_31 : parseMethodDescriptor "([B)I" = some ⟨[(.array .byte)], some .int⟩ := by decide +kernel
theorem d31_5 : decode jdk_52_method_91_code 5 = .ok (.invokestatic 414, 3) := by decide +kernel
theorem pd_33 : parseMethodDescriptor "(II)V" = some ⟨[.int, .int], none⟩ := by decide +kernel
theorem d31_8 : decode jdk_52_method_91_code 8 = .ok (.return_, 1) := by decide +kernel
theorem ef_31_35 (m : MethodId) (x0 : Int32) (x1 : Addr) : entryFrame m #[(.int x0), (.ref x1)] 2 = mkF m 0 #[.val (.int x0), .val (.ref x1)] [] := by first | (simp [entryFrame, mkF, argsToLocals, Value.category]; done) | rfl
def QrmUk (Z : State) (d : Addr) (kd : ClassId) (z : Int32) (vs : List Value) (j : Int32) (fm : Value) (h0 : Heap) (n0 : Nat) (v : Option Value) (h : Heap) (L : List Loc) : Prop := v = none ∧ Fr n0 L ∧ h = h0
set_option maxRecDepth 65536 in
set_option maxHeartbeats 40000000 in
theorem rmUk (l : Launch) (Z : State) (a0 : Array Value) (hw : ∀ d ∈ tables_1, d.before a0 Z = true) (ws : List Jvm.Cond) (d : Addr) (kd : ClassId) (z : Int32) (vs : List Value) (j : Int32) (fm : Value) (h0 : Heap) (n0 : Nat) (O0 : Old Z n0 h0) (Vd : Arv Z h0 d kd .byte z vs (.int 0)) (hj : ¬ (j < (0 : Int32))) (hz : j < (z >>> ((1 : Int32) &&& 31))) (hF : own_F Z fm) :
    own_M l Z h0 (⟨"java/lang/StringUTF16", "checkIndex", "(I[B)V"⟩ : MethodName) jdk_52_method_91_code 2 none ws ({ frames := 2, cells := 0, slots := 0, locals := 27 } : Room) #[(.int j), (.ref d)] (QrmUk Z d kd z vs j fm h0 n0) := by
  refine own_start (plainFor_of_name pn_26) ?_
  intro pg ee s mm below meth cc s₁ Bd hZ hh hx hby hml hown0 hnm X0 e0
  have hown : s.vm.findClass "java/lang/StringUTF16" = some mm.cls := hown0
  have N0 := Fr.nil n0
  have pre0 := fun tg_ => castTop (tb := pg.tables) (e := ee) (below := below) (T := s₁) (t := tg_) (ef_31_35 mm j d)
  obtain ⟨_, _, ⟨T1, L1, k1, n1⟩, -, X1, ⟨Lc1, hQ1, l1, y1, z1⟩, st1⟩ := Jvm.LawKit.callS X0 hx hown (mvT hZ (own_h hw 134 rfl)) (mvT hZ (own_h hw 135 rfl)) (mvT hZ (own_h hw 48 rfl)) (mvT hZ (own_h hw 136 rfl)) (by decide) (backOf (W := 1) (rmUl l Z a0 hw [] d kd z vs h0 n0 O0 Vd) hZ (own_h hw 136 rfl) (own_h hw 48 rfl) (by decide) (by decide)) (g := (mkF mm 2 #[.val (.int j), .val (.ref d)] [(.ref d), (.int j)])) rfl (by rw [hml]; rfl) (argsL := [(.ref d)]) (rest := [(.int j)]) (lenOf pd_31 rfl) rfl (Nat.le_of_eq rfl) (hb hby d31_2) (fun _ _ => ⟨rfl, e0, (by decide : 0 + 0 ≤ _), (by decide : 0 + 0 ≤ _)⟩)
  dsimp only [Pt.U, Pt.locs, Pt.cells, Pt.slots] at X1 l1 y1 z1 st1 hQ1
  subst l1 y1 z1
  obtain ⟨rfl, N1q, e1⟩ := hQ1
  have N1 := Fr.app N0 N1q
  obtain ⟨_, _, ⟨T2, L2, k2, n2⟩, -, X2, ⟨Lc2, hQ2, l2, y2, z2⟩, st2⟩ := Jvm.LawKit.callS X1 hx hown (mvT hZ (own_h hw 137 rfl)) (mvT hZ (own_h hw 74 rfl)) (mvT hZ (own_h hw 7 rfl)) (mvT hZ (own_h hw 75 rfl)) (by decide) (backOf (W := 0) (rmCk l Z a0 hw [] j (z >>> ((1 : Int32) &&& 31)) fm h0 n0 O0 hj hz hF) hZ (own_h hw 75 rfl) (own_h hw 7 rfl) (by decide) (by decide)) (g := (mkF mm 5 #[.val (.int j), .val (.ref d)] [(.int (z >>> ((1 : Int32) &&& 31))), (.int j)])) rfl (by rw [hml]; rfl) (argsL := [(.int j), (.int (z >>> ((1 : Int32) &&& 31)))]) (rest := []) (lenOf pd_33 rfl) rfl (Nat.le_of_eq rfl) (hb hby d31_5) (fun _ _ => ⟨rfl, e1, (by decide : 0 + 0 ≤ _), (by decide : 0 + 0 ≤ _)⟩)
  dsimp only [Pt.U, Pt.locs, Pt.cells, Pt.slots] at X2 l2 y2 z2 st2 hQ2
  subst l2 y2 z2
  obtain ⟨rfl, N2q, e2⟩ := hQ2
  have N2 := Fr.app N1 N2q
  refine own_end X2 (v := none) (fun _ => rfl) (by decide) (by decide) (fun fs hr => pre0 _ ?_) ?_
  · show Steps pg.tables ee below (s₁.setTop (mkF mm 0 #[.val (.int j), .val (.ref d)] [])) _
    refine XS.iloadN X0.here hx rfl (hb hby d31_0) rfl ?_
    refine XS.aloadN X0.here hx rfl (hb hby d31_1) rfl rfl ?_
    refine st1 _ ?_
    refine st2 _ ?_
    exact X2.returnOut hx Bd.returns (hb hby d31_8) hr
  · show QrmUk Z d kd z vs j fm h0 n0 _ T2.heap _
    rw [e2]
    exact ⟨rfl, N2, rfl⟩
theorem d29_0 : decode jdk_52_method_5_code 0 = .ok (.getstatic 44, 3) := by decide +kernel
theorem d29_3 : decode jdk_52_method_5_code 3 = .ok (.ifCond .ne 25, 3) := by decide +kernel
theorem d29_28 : decode jdk_52_method_5_code 28 = .ok (.iload_n 1, 1) := by decide +kernel
theorem d29_29 : decode jdk_52_method_5_code 29 = .ok (.iconst 1, 1) := by decide +kernel
theorem d29_30 : decode jdk_52_method_5_code 30 = .ok (.ishl, 1) := by decide +kernel
theorem d29_31 : decode jdk_52_method_5_code 31 = .ok (.istore_n 1, 1) := by decide +kernel
theorem d29_32 : decode jdk_52_method_5_code 32 = .ok (.aload_n 0, 1) := by decide +kernel
theorem d29_33 : decode jdk_52_method_5_code 33 = .ok (.iload_n 1, 1) := by decide +kernel
theorem d29_34 : decode jdk_52_method_5_code 34 = .ok (.iinc 1 1, 3) := by decide +kernel
theorem d29_37 : decode jdk_52_method_5_code 37 = .ok (.baload, 1) := by decide +kernel
theorem d29_38 : decode jdk_52_method_5_code 38 = .ok (.sipush 255, 3) := by decide +kernel
theorem d29_41 : decode jdk_52_method_5_code 41 = .ok (.iand, 1) := by decide +kernel
theorem d29_42 : decode jdk_52_method_5_code 42 = .ok (.getstatic 59, 3) := by decide +kernel
theorem d29_45 : decode jdk_52_method_5_code 45 = .ok (.ishl, 1) := by decide +kernel
theorem d29_46 : decode jdk_52_method_5_code 46 = .ok (.aload_n 0, 1) := by decide +kernel
theorem d29_47 : decode jdk_52_method_5_code 47 = .ok (.iload_n 1, 1) := by decide +kernel
theorem d29_48 : decode jdk_52_method_5_code 48 = .ok (.baload, 1) := by decide +kernel
theorem d29_49 : decode jdk_52_method_5_code 49 = .ok (.sipush 255, 3) := by decide +kernel
theorem d29_52 : decode jdk_52_method_5_code 52 = .ok (.iand, 1) := by decide +kernel
theorem d29_53 : decode jdk_52_method_5_code 53 = .ok (.getstatic 63, 3) := by decide +kernel
theorem d29_56 : decode jdk_52_method_5_code 56 = .ok (.ishl, 1) := by decide +kernel
theorem d29_57 : decode jdk_52_method_5_code 57 = .ok (.ior, 1) := by decide +kernel
theorem d29_58 : decode jdk_52_method_5_code 58 = .ok (.i2c, 1) := by decide +kernel
theorem d29_59 : decode jdk_52_method_5_code 59 = .ok (.ireturn, 1) := by decide +kernel
theorem ef_29_60 (m : MethodId) (x0 : Addr) (x1 : Int32) : entryFrame m #[(.ref x0), (.int x1)] 2 = mkF m 0 #[.val (.ref x0), .val (.int x1)] [] := by first | (simp [entryFrame, mkF, argsToLocals, Value.category]; done) | rfl
def QrmGc (Z : State) (d : Addr) (kd : ClassId) (z : Int32) (vs : List Value) (j : Int32) (c : Int32) (h0 : Heap) (n0 : Nat) (v : Option Value) (h : Heap) (L : List Loc) : Prop := v = some (.int c) ∧ Fr n0 L ∧ h = h0
set_option maxRecDepth 65536 in
set_option maxHeartbeats 40000000 in
theorem rmGc (l : Launch) (Z : State) (a0 : Array Value) (hw : ∀ d ∈ tables_1, d.before a0 Z = true) (ws : List Jvm.Cond) (d : Addr) (kd : ClassId) (z : Int32) (vs : List Value) (j : Int32) (c : Int32) (h0 : Heap) (n0 : Nat) (O0 : Old Z n0 h0) (Vd : Arv Z h0 d kd .byte z vs (.int 0)) (hG : own_G Z) (hi0 : ¬ ((j <<< ((1 : Int32) &&& 31)) < 0) ∧ (j <<< ((1 : Int32) &&& 31)) < z) (hi1 : ¬ (((j <<< ((1 : Int32) &&& 31)) + (1 : Int32)) < 0) ∧ ((j <<< ((1 : Int32) &&& 31)) + (1 : Int32)) < z) (hv0 : vs.getD ((j <<< ((1 : Int32) &&& 31))).toNatClampNeg (.int 0) = .int (nar .byte ((c >>> ((0 : Int32) &&& 31)).toInt8.toInt32))) (hv1 : vs.getD (((j <<< ((1 : Int32) &&& 31)) + (1 : Int32))).toNatClampNeg (.int 0) = .int (nar .byte ((c >>> ((8 : Int32) &&& 31)).toInt8.toInt32))) (hc0 : ¬ (c < (0 : Int32))) (hc1 : ¬ ((65535 : Int32) < c)) :
    own_M l Z h0 (⟨"java/lang/StringUTF16", "getChar", "([BI)C"⟩ : MethodName) jdk_52_method_5_code 2 (some .char) ws ({ frames := 0, cells := 0, slots := 0, locals := 0 } : Room) #[(.ref d), (.int j)] (QrmGc Z d kd z vs j c h0 n0) := by
  refine own_start (plainFor_of_name pn_26) ?_
  intro pg ee s mm below meth cc s₁ Bd hZ hh hx hby hml hown0 hnm X0 e0
  have hown : s.vm.findClass "java/lang/StringUTF16" = some mm.cls := hown0
  have N0 := Fr.nil n0
  have pre0 := fun tg_ => castTop (tb := pg.tables) (e := ee) (below := below) (T := s₁) (t := tg_) (ef_29_60 mm d j)
  obtain ⟨T1, X1, e1, st1⟩ := getS2 X0 hx hZ hown (host := "") (Or.inl (own_h hw 122 rfl)) Via.refl e0 (hG.1.ext O0.2) (g := (mkF mm 0 #[.val (.ref d), .val (.int j)] [])) rfl (hb hby d29_0)
  obtain ⟨cl2, Ar2, qk2, Sz2, Nn2, Hh2, Gg2⟩ := id Vd
  have hin2 : ¬ ((j <<< ((1 : Int32) &&& 31)) < 0 ∨ cl2.slots.size ≤ ((j <<< ((1 : Int32) &&& 31))).toNatClampNeg) := inb_of Sz2 hi0
  obtain ⟨T3, X3, e3, st3⟩ := getS2 X1 hx hZ hown (host := "") (Or.inl (own_h hw 123 rfl)) Via.refl e1 (hG.2.1.ext O0.2) (g := (mkF mm 42 #[.val (.ref d), .val (.int ((j <<< ((1 : Int32) &&& 31)) + (1 : Int32)))] [(.int ((nar .byte ((c >>> ((0 : Int32) &&& 31)).toInt8.toInt32)) &&& (255 : Int32)))])) rfl (hb hby d29_42)
  obtain ⟨cl4, Ar4, qk4, Sz4, Nn4, Hh4, Gg4⟩ := id Vd
  have hin4 : ¬ (((j <<< ((1 : Int32) &&& 31)) + (1 : Int32)) < 0 ∨ cl4.slots.size ≤ (((j <<< ((1 : Int32) &&& 31)) + (1 : Int32))).toNatClampNeg) := inb_of Sz4 hi1
  obtain ⟨T5, X5, e5, st5⟩ := getS2 X3 hx hZ hown (host := "") (Or.inl (own_h hw 124 rfl)) Via.refl e3 (hG.2.2.ext O0.2) (g := (mkF mm 53 #[.val (.ref d), .val (.int ((j <<< ((1 : Int32) &&& 31)) + (1 : Int32)))] [(.int ((nar .byte ((c >>> ((8 : Int32) &&& 31)).toInt8.toInt32)) &&& (255 : Int32))), (.int (((nar .byte ((c >>> ((0 : Int32) &&& 31)).toInt8.toInt32)) &&& (255 : Int32)) <<< ((0 : Int32) &&& 31)))])) rfl (hb hby d29_53)
  refine own_end X5 (v := some (.int (nar .char (((((nar .byte ((c >>> ((0 : Int32) &&& 31)).toInt8.toInt32)) &&& (255 : Int32)) <<< ((0 : Int32) &&& 31)) ||| (((nar .byte ((c >>> ((8 : Int32) &&& 31)).toInt8.toInt32)) &&& (255 : Int32)) <<< ((8 : Int32) &&& 31))).toUInt32.toUInt16.toUInt32.toInt32)))) (fun h => by rw [Bd.returns] at h; cases h) (by decide) (by decide) (fun fs hr => pre0 _ ?_) ?_
  · show Steps pg.tables ee below (s₁.setTop (mkF mm 0 #[.val (.ref d), .val (.int j)] [])) _
    refine st1 _ ?_
    refine XS.ifYes X1.here hx rfl (pc0 := 3) (pc' := 28) rfl (hb hby d29_3) rfl ((if0 _ _).trans (feq (by decide : ¬ ((1 : Int32) = (0 : Int32)))).2) (by decide) (by decide) ?_
    refine XS.iloadN X1.here hx rfl (hb hby d29_28) rfl ?_
    refine XS.iconst X1.here hx rfl (hb hby d29_29) ?_
    refine XS.ishl X1.here hx rfl (hb hby d29_30) rfl ?_
    refine XS.istoreN X1.here hx rfl (hb hby d29_31) rfl (l' := #[.val (.ref d), .val (.int (j <<< ((1 : Int32) &&& 31)))]) rfl ?_
    refine XS.aloadN X1.here hx rfl (hb hby d29_32) rfl rfl ?_
    refine XS.iloadN X1.here hx rfl (hb hby d29_33) rfl ?_
    show Steps pg.tables ee below (T1.setTop (mkF mm 34 #[.val (.ref d), .val (.int (j <<< ((1 : Int32) &&& 31)))] [(.int (j <<< ((1 : Int32) &&& 31))), (.ref d)])) _
    refine XS.iinc X1.here hx rfl (hb hby d29_34) rfl (l' := #[.val (.ref d), .val (.int ((j <<< ((1 : Int32) &&& 31)) + (1 : Int32)))]) rfl ?_
    refine X1.baloadBytes hx (j := (j <<< ((1 : Int32) &&& 31))) (v := (.int (nar .byte ((c >>> ((0 : Int32) &&& 31)).toInt8.toInt32)))) (by rw [e1]; exact Ar2.1) (State.isArrayOf_alike hZ.alike Ar2.2.1) Ar2.2.2 hin2 (Has.at Hh2 hin2 hv0) (g := (mkF mm 37 #[.val (.ref d), .val (.int ((j <<< ((1 : Int32) &&& 31)) + (1 : Int32)))] [(.int (j <<< ((1 : Int32) &&& 31))), (.ref d)])) rfl rfl (hb hby d29_37) _ ?_
    refine XS.sipush X1.here hx rfl (hb hby d29_38) ?_
    refine XS.iand X1.here hx rfl (hb hby d29_41) rfl ?_
    refine st3 _ ?_
    refine XS.ishl X3.here hx rfl (hb hby d29_45) rfl ?_
    refine XS.aloadN X3.here hx rfl (hb hby d29_46) rfl rfl ?_
    refine XS.iloadN X3.here hx rfl (hb hby d29_47) rfl ?_
    show Steps pg.tables ee below (T3.setTop (mkF mm 48 #[.val (.ref d), .val (.int ((j <<< ((1 : Int32) &&& 31)) + (1 : Int32)))] [(.int ((j <<< ((1 : Int32) &&& 31)) + (1 : Int32))), (.ref d), (.int (((nar .byte ((c >>> ((0 : Int32) &&& 31)).toInt8.toInt32)) &&& (255 : Int32)) <<< ((0 : Int32) &&& 31)))])) _
    refine X3.baloadBytes hx (j := ((j <<< ((1 : Int32) &&& 31)) + (1 : Int32))) (v := (.int (nar .byte ((c >>> ((8 : Int32) &&& 31)).toInt8.toInt32)))) (by rw [e3]; exact Ar4.1) (State.isArrayOf_alike hZ.alike Ar4.2.1) Ar4.2.2 hin4 (Has.at Hh4 hin4 hv1) (g := (mkF mm 48 #[.val (.ref d), .val (.int ((j <<< ((1 : Int32) &&& 31)) + (1 : Int32)))] [(.int ((j <<< ((1 : Int32) &&& 31)) + (1 : Int32))), (.ref d), (.int (((nar .byte ((c >>> ((0 : Int32) &&& 31)).toInt8.toInt32)) &&& (255 : Int32)) <<< ((0 : Int32) &&& 31)))])) rfl rfl (hb hby d29_48) _ ?_
    refine XS.sipush X3.here hx rfl (hb hby d29_49) ?_
    refine XS.iand X3.here hx rfl (hb hby d29_52) rfl ?_
    refine st5 _ ?_
    refine XS.ishl X5.here hx rfl (hb hby d29_56) rfl ?_
    refine XS.ior X5.here hx rfl (hb hby d29_57) rfl ?_
    refine XS.i2c X5.here hx rfl (hb hby d29_58) rfl ?_
    exact retN X5 hx (t := .char) Bd.returns (by simp) (hb hby d29_59) hr
  · show QrmGc Z d kd z vs j c h0 n0 _ T5.heap _
    rw [e5]
    exact ⟨congrArg (fun z => some (Value.int z)) (own_gc hc0 hc1), N0, rfl⟩
theorem d30_0 : decode jdk_52_method_83_code 0 = .ok (.iload_n 1, 1) := by decide +kernel
theorem d30_1 : decode jdk_52_method_83_code 1 = .ok (.aload_n 0, 1) := by decide +kernel
theorem d30_2 : decode jdk_52_method_83_code 2 = .ok (.invokestatic 67, 3) := by decide +kernel
theorem pd_64 : parseMethodDescriptor "(I[B)V" = some ⟨[.int, (.array .byte)], none⟩ := by decide +kernel
theorem d30_5 : decode jdk_52_method_83_code 5 = .ok (.aload_n 0, 1) := by decide +kernel
theorem d30_6 : decode jdk_52_method_83_code 6 = .ok (.iload_n 1, 1) := by decide +kernel
theorem d30_7 : decode jdk_52_method_83_code 7 = .ok (.invokestatic 71, 3) := by decide +kernel
theorem pd_68 : parseMethodDescriptor "([BI)C" = some ⟨[(.array .byte), .int], some .char⟩ := by decide +kernel
theorem d30_10 : decode jdk_52_method_83_code 10 = .ok (.ireturn, 1) := by decide +kernel
theorem ef_30_70 (m : MethodId) (x0 : Addr) (x1 : Int32) : entryFrame m #[(.ref x0), (.int x1)] 2 = mkF m 0 #[.val (.ref x0), .val (.int x1)] [] := by first | (simp [entryFrame, mkF, argsToLocals, Value.category]; done) | rfl
def QrmUc (Z : State) (d : Addr) (kd : ClassId) (z : Int32) (vs : List Value) (j : Int32) (c : Int32) (fm : Value) (h0 : Heap) (n0 : Nat) (v : Option Value) (h : Heap) (L : List Loc) : Prop := v = some (.int c) ∧ Fr n0 L ∧ h = h0
set_option maxRecDepth 65536 in
set_option maxHeartbeats 40000000 in
theorem rmUc (l : Launch) (Z : State) (a0 : Array Value) (hw : ∀ d ∈ tables_1, d.before a0 Z = true) (ws : List Jvm.Cond) (d : Addr) (kd : ClassId) (z : Int32) (vs : List Value) (j : Int32) (c : Int32) (fm : Value) (h0 : Heap) (n0 : Nat) (O0 : Old Z n0 h0) (Vd : Arv Z h0 d kd .byte z vs (.int 0)) (hG : own_G Z) (hi0 : ¬ ((j <<< ((1 : Int32) &&& 31)) < 0) ∧ (j <<< ((1 : Int32) &&& 31)) < z) (hi1 : ¬ (((j <<< ((1 : Int32) &&& 31)) + (1 : Int32)) < 0) ∧ ((j <<< ((1 : Int32) &&& 31)) + (1 : Int32)) < z) (hv0 : vs.getD ((j <<< ((1 : Int32) &&& 31))).toNatClampNeg (.int 0) = .int (nar .byte ((c >>> ((0 : Int32) &&& 31)).toInt8.toInt32))) (hv1 : vs.getD (((j <<< ((1 : Int32) &&& 31)) + (1 : Int32))).toNatClampNeg (.int 0) = .int (nar .byte ((c >>> ((8 : Int32) &&& 31)).toInt8.toInt32))) (hc0 : ¬ (c < (0 : Int32))) (hc1 : ¬ ((65535 : Int32) < c)) (hj : ¬ (j < (0 : Int32))) (hz : j < (z >>> ((1 : Int32) &&& 31))) (hF : own_F Z fm) :
    own_M l Z h0 (⟨"java/lang/StringUTF16", "charAt", "([BI)C"⟩ : MethodName) jdk_52_method_83_code 2 (some .char) ws ({ frames := 3, cells := 0, slots := 0, locals := 40 } : Room) #[(.ref d), (.int j)] (QrmUc Z d kd z vs j c fm h0 n0) := by
  refine own_start (plainFor_of_name pn_26) ?_
  intro pg ee s mm below meth cc s₁ Bd hZ hh hx hby hml hown0 hnm X0 e0
  have hown : s.vm.findClass "java/lang/StringUTF16" = some mm.cls := hown0
  have N0 := Fr.nil n0
  have pre0 := fun tg_ => castTop (tb := pg.tables) (e := ee) (below := below) (T := s₁) (t := tg_) (ef_30_70 mm d j)
  obtain ⟨_, _, ⟨T1, L1, k1, n1⟩, -, X1, ⟨Lc1, hQ1, l1, y1, z1⟩, st1⟩ := Jvm.LawKit.callS X0 hx hown (mvT hZ (own_h hw 131 rfl)) (mvT hZ (own_h hw 132 rfl)) (mvT hZ (own_h hw 48 rfl)) (mvT hZ (own_h hw 133 rfl)) (by decide) (backOf (W := 0) (rmUk l Z a0 hw [] d kd z vs j fm h0 n0 O0 Vd hj hz hF) hZ (own_h hw 133 rfl) (own_h hw 48 rfl) (by decide) (by decide)) (g := (mkF mm 2 #[.val (.ref d), .val (.int j)] [(.ref d), (.int j)])) rfl (by rw [hml]; rfl) (argsL := [(.int j), (.ref d)]) (rest := []) (lenOf pd_64 rfl) rfl (Nat.le_of_eq rfl) (hb hby d30_2) (fun _ _ => ⟨rfl, e0, (by decide : 0 + 0 ≤ _), (by decide : 0 + 0 ≤ _)⟩)
  dsimp only [Pt.U, Pt.locs, Pt.cells, Pt.slots] at X1 l1 y1 z1 st1 hQ1
  subst l1 y1 z1
  obtain ⟨rfl, N1q, e1⟩ := hQ1
  have N1 := Fr.app N0 N1q
  obtain ⟨_, _, ⟨T2, L2, k2, n2⟩, -, X2, ⟨Lc2, hQ2, l2, y2, z2⟩, st2⟩ := Jvm.LawKit.callS X1 hx hown (mvT hZ (own_h hw 125 rfl)) (mvT hZ (own_h hw 126 rfl)) (mvT hZ (own_h hw 48 rfl)) (mvT hZ (own_h hw 127 rfl)) (by decide) (backOf (W := 0) (rmGc l Z a0 hw [] d kd z vs j c h0 n0 O0 Vd hG hi0 hi1 hv0 hv1 hc0 hc1) hZ (own_h hw 127 rfl) (own_h hw 48 rfl) (by decide) (by decide)) (g := (mkF mm 7 #[.val (.ref d), .val (.int j)] [(.int j), (.ref d)])) rfl (by rw [hml]; rfl) (argsL := [(.ref d), (.int j)]) (rest := []) (lenOf pd_68 rfl) rfl (Nat.le_of_eq rfl) (hb hby d30_7) (fun _ _ => ⟨rfl, e1, (by decide : 0 + 0 ≤ _), (by decide : 0 + 0 ≤ _)⟩)
  dsimp only [Pt.U, Pt.locs, Pt.cells, Pt.slots] at X2 l2 y2 z2 st2 hQ2
  subst l2 y2 z2
  obtain ⟨rfl, N2q, e2⟩ := hQ2
  have N2 := Fr.app N1 N2q
  refine own_end X2 (v := some (.int (nar .char c))) (fun h => by rw [Bd.returns] at h; cases h) (by decide) (by decide) (fun fs hr => pre0 _ ?_) ?_
  · show Steps pg.tables ee below (s₁.setTop (mkF mm 0 #[.val (.ref d), .val (.int j)] [])) _
    refine XS.iloadN X0.here hx rfl (hb hby d30_0) rfl ?_
    refine XS.aloadN X0.here hx rfl (hb hby d30_1) rfl rfl ?_
    refine st1 _ ?_
    refine XS.aloadN X1.here hx rfl (hb hby d30_5) rfl rfl ?_
    refine XS.iloadN X1.here hx rfl (hb hby d30_6) rfl ?_
    refine st2 _ ?_
    exact retN X2 hx (t := .char) Bd.returns (by simp) (hb hby d30_10) hr
  · show QrmUc Z d kd z vs j c fm h0 n0 _ T2.heap _
    rw [e2]
    exact ⟨congrArg (fun z => some (Value.int z)) (own_nc hc0 hc1), N2, rfl⟩
theorem d15_0 : decode jdk_43_method_2_code 0 = .ok (.iload_n 1, 1) := by decide +kernel
theorem d15_1 : decode jdk_43_method_2_code 1 = .ok (.aload_n 0, 1) := by decide +kernel
theorem d15_2 : decode jdk_43_method_2_code 2 = .ok (.arraylength, 1) := by decide +kernel
theorem d15_3 : decode jdk_43_method_2_code 3 = .ok (.invokestatic 9, 3) := by decide +kernel
theorem d15_6 : decode jdk_43_method_2_code 6 = .ok (.aload_n 0, 1) := by decide +kernel
theorem d15_7 : decode jdk_43_method_2_code 7 = .ok (.iload_n 1, 1) := by decide +kernel
theorem d15_8 : decode jdk_43_method_2_code 8 = .ok (.baload, 1) := by decide +kernel
theorem d15_9 : decode jdk_43_method_2_code 9 = .ok (.sipush 255, 3) := by decide +kernel
theorem d15_12 : decode jdk_43_method_2_code 12 = .ok (.iand, 1) := by decide +kernel
theorem d15_13 : decode jdk_43_method_2_code 13 = .ok (.i2c, 1) := by decide +kernel
theorem d15_14 : decode jdk_43_method_2_code 14 = .ok (.ireturn, 1) := by decide +kernel
theorem pn_82 : plainName "java/lang/StringLatin1" = true := by first | (simp [plainName, overriddenIn]; done) | decide +kernel
theorem ef_15_83 (m : MethodId) (x0 : Addr) (x1 : Int32) : entryFrame m #[(.ref x0), (.int x1)] 2 = mkF m 0 #[.val (.ref x0), .val (.int x1)] [] := by first | (simp [entryFrame, mkF, argsToLocals, Value.category]; done) | rfl
def QrmLc (Z : State) (d : Addr) (kd : ClassId) (z : Int32) (vs : List Value) (j : Int32) (c : Int32) (fm : Value) (h0 : Heap) (n0 : Nat) (v : Option Value) (h : Heap) (L : List Loc) : Prop := v = some (.int c) ∧ Fr n0 L ∧ h = h0
set_option maxRecDepth 65536 in
set_option maxHeartbeats 40000000 in
theorem rmLc (l : Launch) (Z : State) (a0 : Array Value) (hw : ∀ d ∈ tables_1, d.before a0 Z = true) (ws : List Jvm.Cond) (d : Addr) (kd : ClassId) (z : Int32) (vs : List Value) (j : Int32) (c : Int32) (fm : Value) (h0 : Heap) (n0 : Nat) (O0 : Old Z n0 h0) (Vd : Arv Z h0 d kd .byte z vs (.int 0)) (hj : ¬ (j < (0 : Int32))) (hz : j < z) (hv : vs.getD (j).toNatClampNeg (.int 0) = .int (nar .byte (c.toInt8.toInt32))) (hc0 : ¬ (c < (0 : Int32))) (hc2 : ¬ ((255 : Int32) < c)) (hF : own_F Z fm) :
    own_M l Z h0 (⟨"java/lang/StringLatin1", "charAt", "([BI)C"⟩ : MethodName) jdk_43_method_2_code 2 (some .char) ws ({ frames := 2, cells := 0, slots := 0, locals := 27 } : Room) #[(.ref d), (.int j)] (QrmLc Z d kd z vs j c fm h0 n0) := by
  refine own_start (plainFor_of_name pn_82) ?_
  intro pg ee s mm below meth cc s₁ Bd hZ hh hx hby hml hown0 hnm X0 e0
  have hown : s.vm.findClass "java/lang/StringLatin1" = some mm.cls := hown0
  have N0 := Fr.nil n0
  have pre0 := fun tg_ => castTop (tb := pg.tables) (e := ee) (below := below) (T := s₁) (t := tg_) (ef_15_83 mm d j)
  obtain ⟨cl1, Ar1, qk1, Sz1, Nn1, Hh1, Gg1⟩ := id Vd
  obtain ⟨_, _, ⟨T2, L2, k2, n2⟩, -, X2, ⟨Lc2, hQ2, l2, y2, z2⟩, st2⟩ := Jvm.LawKit.callS X0 hx hown (mvT hZ (own_h hw 73 rfl)) (mvT hZ (own_h hw 74 rfl)) (mvT hZ (own_h hw 7 rfl)) (mvT hZ (own_h hw 75 rfl)) (by decide) (backOf (W := 0) (rmCk l Z a0 hw [] j z fm h0 n0 O0 hj hz hF) hZ (own_h hw 75 rfl) (own_h hw 7 rfl) (by decide) (by decide)) (g := (mkF mm 3 #[.val (.ref d), .val (.int j)] [(.int z), (.int j)])) rfl (by rw [hml]; rfl) (argsL := [(.int j), (.int z)]) (rest := []) (lenOf pd_33 rfl) rfl (Nat.le_of_eq rfl) (hb hby d15_3) (fun _ _ => ⟨rfl, e0, (by decide : 0 + 0 ≤ _), (by decide : 0 + 0 ≤ _)⟩)
  dsimp only [Pt.U, Pt.locs, Pt.cells, Pt.slots] at X2 l2 y2 z2 st2 hQ2
  subst l2 y2 z2
  obtain ⟨rfl, N2q, e2⟩ := hQ2
  have N2 := Fr.app N0 N2q
  obtain ⟨cl3, Ar3, qk3, Sz3, Nn3, Hh3, Gg3⟩ := id Vd
  have hin3 : ¬ (j < 0 ∨ cl3.slots.size ≤ (j).toNatClampNeg) := inb_of Sz3 ⟨hj, hz⟩
  refine own_end X2 (v := some (.int (nar .char (((nar .byte (c.toInt8.toInt32)) &&& (255 : Int32)).toUInt32.toUInt16.toUInt32.toInt32)))) (fun h => by rw [Bd.returns] at h; cases h) (by decide) (by decide) (fun fs hr => pre0 _ ?_) ?_
  · show Steps pg.tables ee below (s₁.setTop (mkF mm 0 #[.val (.ref d), .val (.int j)] [])) _
    refine XS.iloadN X0.here hx rfl (hb hby d15_0) rfl ?_
    refine XS.aloadN X0.here hx rfl (hb hby d15_1) rfl rfl ?_
    refine X0.arraylength hx (by rw [e0]; exact Ar1.1) (State.isArrayOf_alike hZ.alike Ar1.2.1) (g := (mkF mm 2 #[.val (.ref d), .val (.int j)] [(.ref d), (.int j)])) rfl rfl (hb hby d15_2) _ ?_
    rw [len_of Sz1 Nn1]
    refine st2 _ ?_
    refine XS.aloadN X2.here hx rfl (hb hby d15_6) rfl rfl ?_
    refine XS.iloadN X2.here hx rfl (hb hby d15_7) rfl ?_
    refine X2.baloadBytes hx (j := j) (v := (.int (nar .byte (c.toInt8.toInt32)))) (by rw [e2]; exact Ar3.1) (State.isArrayOf_alike hZ.alike Ar3.2.1) Ar3.2.2 hin3 (Has.at Hh3 hin3 hv) (g := (mkF mm 8 #[.val (.ref d), .val (.int j)] [(.int j), (.ref d)])) rfl rfl (hb hby d15_8) _ ?_
    refine XS.sipush X2.here hx rfl (hb hby d15_9) ?_
    show Steps pg.tables ee below (T2.setTop (mkF mm 12 #[.val (.ref d), .val (.int j)] [(.int (255 : Int32)), (.int (nar .byte (c.toInt8.toInt32)))])) _
    refine XS.iand X2.here hx rfl (hb hby d15_12) rfl ?_
    refine XS.i2c X2.here hx rfl (hb hby d15_13) rfl ?_
    exact retN X2 hx (t := .char) Bd.returns (by simp) (hb hby d15_14) hr
  · show QrmLc Z d kd z vs j c fm h0 n0 _ T2.heap _
    rw [e2]
    exact ⟨congrArg (fun z => some (Value.int z)) (own_lc hc0 hc2), N2, rfl⟩
theorem d7_0 : decode jdk_42_method_152_code 0 = .ok (.getstatic 38, 3) := by decide +kernel
theorem d7_3 : decode jdk_42_method_152_code 3 = .ok (.ifCond .eq 10, 3) := by decide +kernel
theorem d7_6 : decode jdk_42_method_152_code 6 = .ok (.aload_n 0, 1) := by decide +kernel
theorem d7_7 : decode jdk_42_method_152_code 7 = .ok (.getfield 15, 3) := by decide +kernel
theorem d7_10 : decode jdk_42_method_152_code 10 = .ok (.goto 4, 3) := by decide +kernel
theorem d7_14 : decode jdk_42_method_152_code 14 = .ok (.ireturn, 1) := by decide +kernel
theorem ef_7_90 (m : MethodId) (x0 : Addr) : entryFrame m #[(.ref x0)] 1 = mkF m 0 #[.val (.ref x0)] [] := by first | (simp [entryFrame, mkF, argsToLocals, Value.category]; done) | rfl
def QrmCod0 (Z : State) (a : Addr) (d : Addr) (kd : ClassId) (z : Int32) (vs : List Value) (cs : Int32) (h0 : Heap) (n0 : Nat) (v : Option Value) (h : Heap) (L : List Loc) : Prop := v = some (.int (0 : Int32)) ∧ Fr n0 L ∧ h = h0
set_option maxRecDepth 65536 in
set_option maxHeartbeats 40000000 in
theorem rmCod0 (l : Launch) (Z : State) (a0 : Array Value) (hw : ∀ d ∈ tables_1, d.before a0 Z = true) (ws : List Jvm.Cond) (a : Addr) (d : Addr) (kd : ClassId) (z : Int32) (vs : List Value) (cs : Int32) (h0 : Heap) (n0 : Nat) (O0 : Old Z n0 h0) (Fc : Fld Z h0 a "java/lang/String" "coder" "B" (.int (0 : Int32))) (Fv : Fld Z h0 a "java/lang/String" "value" "[B" (.ref d)) (Vd : Arv Z h0 d kd .byte z vs (.int 0)) (Ea : Exa Z h0 a "java/lang/String") (hC : own_C Z cs) :
    own_M l Z h0 (⟨"java/lang/String", "coder", "()B"⟩ : MethodName) jdk_42_method_152_code 1 (some .byte) ws ({ frames := 0, cells := 0, slots := 0, locals := 0 } : Room) #[(.ref a)] (QrmCod0 Z a d kd z vs cs h0 n0) := by
  refine own_start (plainFor_of_name pn_18) ?_
  intro pg ee s mm below meth cc s₁ Bd hZ hh hx hby hml hown0 hnm X0 e0
  have hown : s.vm.findClass "java/lang/String" = some mm.cls := hown0
  have N0 := Fr.nil n0
  have pre0 := fun tg_ => castTop (tb := pg.tables) (e := ee) (below := below) (T := s₁) (t := tg_) (ef_7_90 mm a)
  obtain ⟨T1, X1, e1, st1⟩ := getS2 X0 hx hZ hown (host := "") (Or.inl (own_h hw 40 rfl)) Via.refl e0 (hC.1.ext O0.2) (g := (mkF mm 0 #[.val (.ref a)] [])) rfl (hb hby d7_0)
  obtain ⟨T2, X2, e2, st2⟩ := getF X1 hx hZ hown (host := "") (Or.inl (own_h hw 25 rfl)) Via.refl e1 Fc (g := (mkF mm 7 #[.val (.ref a)] [(.ref a)])) rfl rfl (hb hby d7_7)
  refine own_end X2 (v := some (.int (0 : Int32))) (fun h => by rw [Bd.returns] at h; cases h) (by decide) (by decide) (fun fs hr => pre0 _ ?_) ?_
  · show Steps pg.tables ee below (s₁.setTop (mkF mm 0 #[.val (.ref a)] [])) _
    refine st1 _ ?_
    refine XS.ifNo X1.here hx rfl (hb hby d7_3) rfl ((if0 _ _).trans (feq hC.2).1) ?_
    refine XS.aloadN X1.here hx rfl (hb hby d7_6) rfl rfl ?_
    refine st2 _ ?_
    refine XS.goto X2.here hx rfl (pc0 := 10) (pc' := 14) rfl (hb hby d7_10) (by decide) (by decide) ?_
    exact retN X2 hx (t := .byte) Bd.returns (by simp) (hb hby d7_14) hr
  · show QrmCod0 Z a d kd z vs cs h0 n0 _ T2.heap _
    rw [e2]
    exact ⟨rfl, N0, rfl⟩
theorem d14_0 : decode jdk_42_method_154_code 0 = .ok (.getstatic 38, 3) := by decide +kernel
theorem d14_3 : decode jdk_42_method_154_code 3 = .ok (.ifCond .eq 14, 3) := by decide +kernel
theorem d14_6 : decode jdk_42_method_154_code 6 = .ok (.aload_n 0, 1) := by decide +kernel
theorem d14_7 : decode jdk_42_method_154_code 7 = .ok (.getfield 15, 3) := by decide +kernel
theorem d14_10 : decode jdk_42_method_154_code 10 = .ok (.ifCond .ne 7, 3) := by decide +kernel
theorem d14_13 : decode jdk_42_method_154_code 13 = .ok (.iconst 1, 1) := by decide +kernel
theorem d14_14 : decode jdk_42_method_154_code 14 = .ok (.goto 4, 3) := by decide +kernel
theorem d14_18 : decode jdk_42_method_154_code 18 = .ok (.ireturn, 1) := by decide +kernel
theorem ef_14_99 (m : MethodId) (x0 : Addr) : entryFrame m #[(.ref x0)] 1 = mkF m 0 #[.val (.ref x0)] [] := by first | (simp [entryFrame, mkF, argsToLocals, Value.category]; done) | rfl
def QrmLat0 (Z : State) (a : Addr) (d : Addr) (kd : ClassId) (z : Int32) (vs : List Value) (cs : Int32) (h0 : Heap) (n0 : Nat) (v : Option Value) (h : Heap) (L : List Loc) : Prop := v = some (.int (1 : Int32)) ∧ Fr n0 L ∧ h = h0
set_option maxRecDepth 65536 in
set_option maxHeartbeats 40000000 in
theorem rmLat0 (l : Launch) (Z : State) (a0 : Array Value) (hw : ∀ d ∈ tables_1, d.before a0 Z = true) (ws : List Jvm.Cond) (a : Addr) (d : Addr) (kd : ClassId) (z : Int32) (vs : List Value) (cs : Int32) (h0 : Heap) (n0 : Nat) (O0 : Old Z n0 h0) (Fc : Fld Z h0 a "java/lang/String" "coder" "B" (.int (0 : Int32))) (Fv : Fld Z h0 a "java/lang/String" "value" "[B" (.ref d)) (Vd : Arv Z h0 d kd .byte z vs (.int 0)) (Ea : Exa Z h0 a "java/lang/String") (hC : own_C Z cs) :
    own_M l Z h0 (⟨"java/lang/String", "isLatin1", "()Z"⟩ : MethodName) jdk_42_method_154_code 1 (some .boolean) ws ({ frames := 0, cells := 0, slots := 0, locals := 0 } : Room) #[(.ref a)] (QrmLat0 Z a d kd z vs cs h0 n0) := by
  refine own_start (plainFor_of_name pn_18) ?_
  intro pg ee s mm below meth cc s₁ Bd hZ hh hx hby hml hown0 hnm X0 e0
  have hown : s.vm.findClass "java/lang/String" = some mm.cls := hown0
  have N0 := Fr.nil n0
  have pre0 := fun tg_ => castTop (tb := pg.tables) (e := ee) (below := below) (T := s₁) (t := tg_) (ef_14_99 mm a)
  obtain ⟨T1, X1, e1, st1⟩ := getS2 X0 hx hZ hown (host := "") (Or.inl (own_h hw 40 rfl)) Via.refl e0 (hC.1.ext O0.2) (g := (mkF mm 0 #[.val (.ref a)] [])) rfl (hb hby d14_0)
  obtain ⟨T2, X2, e2, st2⟩ := getF X1 hx hZ hown (host := "") (Or.inl (own_h hw 25 rfl)) Via.refl e1 Fc (g := (mkF mm 7 #[.val (.ref a)] [(.ref a)])) rfl rfl (hb hby d14_7)
  refine own_end X2 (v := some (.int (1 : Int32))) (fun h => by rw [Bd.returns] at h; cases h) (by decide) (by decide) (fun fs hr => pre0 _ ?_) ?_
  · show Steps pg.tables ee below (s₁.setTop (mkF mm 0 #[.val (.ref a)] [])) _
    refine st1 _ ?_
    refine XS.ifNo X1.here hx rfl (hb hby d14_3) rfl ((if0 _ _).trans (feq hC.2).1) ?_
    refine XS.aloadN X1.here hx rfl (hb hby d14_6) rfl rfl ?_
    refine st2 _ ?_
    refine XS.ifNo X2.here hx rfl (hb hby d14_10) rfl ((if0 _ _).trans (teq (by decide : (0 : Int32) = (0 : Int32))).2) ?_
    refine XS.iconst X2.here hx rfl (hb hby d14_13) ?_
    refine XS.goto X2.here hx rfl (pc0 := 14) (pc' := 18) rfl (hb hby d14_14) (by decide) (by decide) ?_
    exact retN X2 hx (t := .boolean) Bd.returns (by simp) (hb hby d14_18) hr
  · show QrmLat0 Z a d kd z vs cs h0 n0 _ T2.heap _
    rw [e2]
    exact ⟨rfl, N0, rfl⟩
theorem d6_0 : decode jdk_42_method_54_code 0 = .ok (.aload_n 0, 1) := by decide +kernel
theorem d6_1 : decode jdk_42_method_54_code 1 = .ok (.getfield 9, 3) := by decide +kernel
theorem d6_4 : decode jdk_42_method_54_code 4 = .ok (.arraylength, 1) := by decide +kernel
theorem d6_5 : decode jdk_42_method_54_code 5 = .ok (.aload_n 0, 1) := by decide +kernel
theorem d6_6 : decode jdk_42_method_54_code 6 = .ok (.invokevirtual 335, 3) := by decide +kernel
theorem pd_105 : parseMethodDescriptor "()B" = some ⟨[], some .byte⟩ := by decide +kernel
theorem d6_9 : decode jdk_42_method_54_code 9 = .ok (.ishr, 1) := by decide +kernel
theorem d6_10 : decode jdk_42_method_54_code 10 = .ok (.ireturn, 1) := by decide +kernel
theorem ef_6_108 (m : MethodId) (x0 : Addr) : entryFrame m #[(.ref x0)] 1 = mkF m 0 #[.val (.ref x0)] [] := by first | (simp [entryFrame, mkF, argsToLocals, Value.category]; done) | rfl
def QrmLen0 (Z : State) (a : Addr) (d : Addr) (kd : ClassId) (z : Int32) (vs : List Value) (cs : Int32) (n : Int32) (h0 : Heap) (n0 : Nat) (v : Option Value) (h : Heap) (L : List Loc) : Prop := v = some (.int n) ∧ Fr n0 L ∧ h = h0
set_option maxRecDepth 65536 in
set_option maxHeartbeats 40000000 in
theorem rmLen0 (l : Launch) (Z : State) (a0 : Array Value) (hw : ∀ d ∈ tables_1, d.before a0 Z = true) (ws : List Jvm.Cond) (a : Addr) (d : Addr) (kd : ClassId) (z : Int32) (vs : List Value) (cs : Int32) (n : Int32) (h0 : Heap) (n0 : Nat) (O0 : Old Z n0 h0) (Fc : Fld Z h0 a "java/lang/String" "coder" "B" (.int (0 : Int32))) (Fv : Fld Z h0 a "java/lang/String" "value" "[B" (.ref d)) (Vd : Arv Z h0 d kd .byte z vs (.int 0)) (Ea : Exa Z h0 a "java/lang/String") (hC : own_C Z cs) (hn : (z >>> ((0 : Int32) &&& 31)) = n) :
    own_M l Z h0 (⟨"java/lang/String", "length", "()I"⟩ : MethodName) jdk_42_method_54_code 1 (some .int) ws ({ frames := 1, cells := 0, slots := 0, locals := 13 } : Room) #[(.ref a)] (QrmLen0 Z a d kd z vs cs n h0 n0) := by
  refine own_start (plainFor_of_name pn_18) ?_
  intro pg ee s mm below meth cc s₁ Bd hZ hh hx hby hml hown0 hnm X0 e0
  have hown : s.vm.findClass "java/lang/String" = some mm.cls := hown0
  have N0 := Fr.nil n0
  have pre0 := fun tg_ => castTop (tb := pg.tables) (e := ee) (below := below) (T := s₁) (t := tg_) (ef_6_108 mm a)
  obtain ⟨T1, X1, e1, st1⟩ := getF X0 hx hZ hown (host := "") (Or.inl (own_h hw 24 rfl)) Via.refl e0 Fv (g := (mkF mm 1 #[.val (.ref a)] [(.ref a)])) rfl rfl (hb hby d6_1)
  obtain ⟨cl2, Ar2, qk2, Sz2, Nn2, Hh2, Gg2⟩ := id Vd
  obtain ⟨cq3, kq3, q3a, q3b, q3c⟩ := isOf hZ e1 Ea
  obtain ⟨_, _, ⟨T3, L3, k3, n3⟩, -, X3, ⟨Lc3, hQ3, l3, y3, z3⟩, st3⟩ := X1.virtualBack hx hown (mvT hZ (own_h hw 35 rfl)) (mvT hZ (own_h hw 36 rfl)) (notFace_of_selects (args := #[]) (mvT hZ (own_h hw 38 rfl))) (mvT hZ (own_h hw 38 rfl)) (mvT hZ (own_h hw 37 rfl)) (by decide) (backOf (W := 1) (rmCod0 l Z a0 hw [] a d kd z vs cs h0 n0 O0 Fc Fv Vd Ea hC) hZ (own_h hw 39 rfl) (own_h hw 7 rfl) (by decide) (by decide)) q3a q3c (g := (mkF mm 6 #[.val (.ref a)] [(.ref a), (.int z)])) rfl (by rw [hml]; rfl) (Steps.refl _) (argsL := []) (rest := [(.int z)]) (lenOf pd_105 rfl) rfl (Nat.le_of_eq rfl) (hb hby d6_6) (fun _ _ => ⟨rfl, e1, (by decide : 0 + 0 ≤ _), (by decide : 0 + 0 ≤ _)⟩)
  dsimp only [Pt.U, Pt.locs, Pt.cells, Pt.slots] at X3 l3 y3 z3 st3 hQ3
  subst l3 y3 z3
  obtain ⟨rfl, N3q, e3⟩ := hQ3
  have N3 := Fr.app N0 N3q
  refine own_end X3 (v := some (.int (z >>> ((0 : Int32) &&& 31)))) (fun h => by rw [Bd.returns] at h; cases h) (by decide) (by decide) (fun fs hr => pre0 _ ?_) ?_
  · show Steps pg.tables ee below (s₁.setTop (mkF mm 0 #[.val (.ref a)] [])) _
    refine XS.aloadN X0.here hx rfl (hb hby d6_0) rfl rfl ?_
    refine st1 _ ?_
    refine X1.arraylength hx (by rw [e1]; exact Ar2.1) (State.isArrayOf_alike hZ.alike Ar2.2.1) (g := (mkF mm 4 #[.val (.ref a)] [(.ref d)])) rfl rfl (hb hby d6_4) _ ?_
    rw [len_of Sz2 Nn2]
    refine XS.aloadN X1.here hx rfl (hb hby d6_5) rfl rfl ?_
    refine st3.trans ?_
    refine XS.ishr X3.here hx rfl (hb hby d6_9) rfl ?_
    exact retOut X3 hx Bd.returns rfl (Or.inl ⟨rfl, Or.inl rfl, _, rfl⟩) (hb hby d6_10) hr
  · show QrmLen0 Z a d kd z vs cs n h0 n0 _ T3.heap _
    rw [e3]
    exact ⟨congrArg (fun z => some (Value.int z)) (hn), N3, rfl⟩
def QrmCod1 (Z : State) (a : Addr) (d : Addr) (kd : ClassId) (z : Int32) (vs : List Value) (cs : Int32) (h0 : Heap) (n0 : Nat) (v : Option Value) (h : Heap) (L : List Loc) : Prop := v = some (.int (1 : Int32)) ∧ Fr n0 L ∧ h = h0
set_option maxRecDepth 65536 in
set_option maxHeartbeats 40000000 in
theorem rmCod1 (l : Launch) (Z : State) (a0 : Array Value) (hw : ∀ d ∈ tables_1, d.before a0 Z = true) (ws : List Jvm.Cond) (a : Addr) (d : Addr) (kd : ClassId) (z : Int32) (vs : List Value) (cs : Int32) (h0 : Heap) (n0 : Nat) (O0 : Old Z n0 h0) (Fc : Fld Z h0 a "java/lang/String" "coder" "B" (.int (1 : Int32))) (Fv : Fld Z h0 a "java/lang/String" "value" "[B" (.ref d)) (Vd : Arv Z h0 d kd .byte z vs (.int 0)) (Ea : Exa Z h0 a "java/lang/String") (hC : own_C Z cs) :
    own_M l Z h0 (⟨"java/lang/String", "coder", "()B"⟩ : MethodName) jdk_42_method_152_code 1 (some .byte) ws ({ frames := 0, cells := 0, slots := 0, locals := 0 } : Room) #[(.ref a)] (QrmCod1 Z a d kd z vs cs h0 n0) := by
  refine own_start (plainFor_of_name pn_18) ?_
  intro pg ee s mm below meth cc s₁ Bd hZ hh hx hby hml hown0 hnm X0 e0
  have hown : s.vm.findClass "java/lang/String" = some mm.cls := hown0
  have N0 := Fr.nil n0
  have pre0 := fun tg_ => castTop (tb := pg.tables) (e := ee) (below := below) (T := s₁) (t := tg_) (ef_7_90 mm a)
  obtain ⟨T1, X1, e1, st1⟩ := getS2 X0 hx hZ hown (host := "") (Or.inl (own_h hw 40 rfl)) Via.refl e0 (hC.1.ext O0.2) (g := (mkF mm 0 #[.val (.ref a)] [])) rfl (hb hby d7_0)
  obtain ⟨T2, X2, e2, st2⟩ := getF X1 hx hZ hown (host := "") (Or.inl (own_h hw 25 rfl)) Via.refl e1 Fc (g := (mkF mm 7 #[.val (.ref a)] [(.ref a)])) rfl rfl (hb hby d7_7)
  refine own_end X2 (v := some (.int (1 : Int32))) (fun h => by rw [Bd.returns] at h; cases h) (by decide) (by decide) (fun fs hr => pre0 _ ?_) ?_
  · show Steps pg.tables ee below (s₁.setTop (mkF mm 0 #[.val (.ref a)] [])) _
    refine st1 _ ?_
    refine XS.ifNo X1.here hx rfl (hb hby d7_3) rfl ((if0 _ _).trans (feq hC.2).1) ?_
    refine XS.aloadN X1.here hx rfl (hb hby d7_6) rfl rfl ?_
    refine st2 _ ?_
    refine XS.goto X2.here hx rfl (pc0 := 10) (pc' := 14) rfl (hb hby d7_10) (by decide) (by decide) ?_
    exact retN X2 hx (t := .byte) Bd.returns (by simp) (hb hby d7_14) hr
  · show QrmCod1 Z a d kd z vs cs h0 n0 _ T2.heap _
    rw [e2]
    exact ⟨rfl, N0, rfl⟩
theorem d14_17 : decode jdk_42_method_154_code 17 = .ok (.iconst 0, 1) := by decide +kernel
def QrmLat1 (Z : State) (a : Addr) (d : Addr) (kd : ClassId) (z : Int32) (vs : List Value) (cs : Int32) (h0 : Heap) (n0 : Nat) (v : Option Value) (h : Heap) (L : List Loc) : Prop := v = some (.int (0 : Int32)) ∧ Fr n0 L ∧ h = h0
set_option maxRecDepth 65536 in
set_option maxHeartbeats 40000000 in
theorem rmLat1 (l : Launch) (Z : State) (a0 : Array Value) (hw : ∀ d ∈ tables_1, d.before a0 Z = true) (ws : List Jvm.Cond) (a : Addr) (d : Addr) (kd : ClassId) (z : Int32) (vs : List Value) (cs : Int32) (h0 : Heap) (n0 : Nat) (O0 : Old Z n0 h0) (Fc : Fld Z h0 a "java/lang/String" "coder" "B" (.int (1 : Int32))) (Fv : Fld Z h0 a "java/lang/String" "value" "[B" (.ref d)) (Vd : Arv Z h0 d kd .byte z vs (.int 0)) (Ea : Exa Z h0 a "java/lang/String") (hC : own_C Z cs) :
    own_M l Z h0 (⟨"java/lang/String", "isLatin1", "()Z"⟩ : MethodName) jdk_42_method_154_code 1 (some .boolean) ws ({ frames := 0, cells := 0, slots := 0, locals := 0 } : Room) #[(.ref a)] (QrmLat1 Z a d kd z vs cs h0 n0) := by
  refine own_start (plainFor_of_name pn_18) ?_
  intro pg ee s mm below meth cc s₁ Bd hZ hh hx hby hml hown0 hnm X0 e0
  have hown : s.vm.findClass "java/lang/String" = some mm.cls := hown0
  have N0 := Fr.nil n0
  have pre0 := fun tg_ => castTop (tb := pg.tables) (e := ee) (below := below) (T := s₁) (t := tg_) (ef_14_99 mm a)
  obtain ⟨T1, X1, e1, st1⟩ := getS2 X0 hx hZ hown (host := "") (Or.inl (own_h hw 40 rfl)) Via.refl e0 (hC.1.ext O0.2) (g := (mkF mm 0 #[.val (.ref a)] [])) rfl (hb hby d14_0)
  obtain ⟨T2, X2, e2, st2⟩ := getF X1 hx hZ hown (host := "") (Or.inl (own_h hw 25 rfl)) Via.refl e1 Fc (g := (mkF mm 7 #[.val (.ref a)] [(.ref a)])) rfl rfl (hb hby d14_7)
  refine own_end X2 (v := some (.int (0 : Int32))) (fun h => by rw [Bd.returns] at h; cases h) (by decide) (by decide) (fun fs hr => pre0 _ ?_) ?_
  · show Steps pg.tables ee below (s₁.setTop (mkF mm 0 #[.val (.ref a)] [])) _
    refine st1 _ ?_
    refine XS.ifNo X1.here hx rfl (hb hby d14_3) rfl ((if0 _ _).trans (feq hC.2).1) ?_
    refine XS.aloadN X1.here hx rfl (hb hby d14_6) rfl rfl ?_
    refine st2 _ ?_
    refine XS.ifYes X2.here hx rfl (pc0 := 10) (pc' := 17) rfl (hb hby d14_10) rfl ((if0 _ _).trans (feq (by decide : ¬ ((1 : Int32) = (0 : Int32)))).2) (by decide) (by decide) ?_
    refine XS.iconst X2.here hx rfl (hb hby d14_17) ?_
    exact retN X2 hx (t := .boolean) Bd.returns (by simp) (hb hby d14_18) hr
  · show QrmLat1 Z a d kd z vs cs h0 n0 _ T2.heap _
    rw [e2]
    exact ⟨rfl, N0, rfl⟩
def QrmLen1 (Z : State) (a : Addr) (d : Addr) (kd : ClassId) (z : Int32) (vs : List Value) (cs : Int32) (n : Int32) (h0 : Heap) (n0 : Nat) (v : Option Value) (h : Heap) (L : List Loc) : Prop := v = some (.int n) ∧ Fr n0 L ∧ h = h0
set_option maxRecDepth 65536 in
set_option maxHeartbeats 40000000 in
theorem rmLen1 (l : Launch) (Z : State) (a0 : Array Value) (hw : ∀ d ∈ tables_1, d.before a0 Z = true) (ws : List Jvm.Cond) (a : Addr) (d : Addr) (kd : ClassId) (z : Int32) (vs : List Value) (cs : Int32) (n : Int32) (h0 : Heap) (n0 : Nat) (O0 : Old Z n0 h0) (Fc : Fld Z h0 a "java/lang/String" "coder" "B" (.int (1 : Int32))) (Fv : Fld Z h0 a "java/lang/String" "value" "[B" (.ref d)) (Vd : Arv Z h0 d kd .byte z vs (.int 0)) (Ea : Exa Z h0 a "java/lang/String") (hC : own_C Z cs) (hn : (z >>> ((1 : Int32) &&& 31)) = n) :
    own_M l Z h0 (⟨"java/lang/String", "length", "()I"⟩ : MethodName) jdk_42_method_54_code 1 (some .int) ws ({ frames := 1, cells := 0, slots := 0, locals := 13 } : Room) #[(.ref a)] (QrmLen1 Z a d kd z vs cs n h0 n0) := by
  refine own_start (plainFor_of_name pn_18) ?_
  intro pg ee s mm below meth cc s₁ Bd hZ hh hx hby hml hown0 hnm X0 e0
  have hown : s.vm.findClass "java/lang/String" = some mm.cls := hown0
  have N0 := Fr.nil n0
  have pre0 := fun tg_ => castTop (tb := pg.tables) (e := ee) (below := below) (T := s₁) (t := tg_) (ef_6_108 mm a)
  obtain ⟨T1, X1, e1, st1⟩ := getF X0 hx hZ hown (host := "") (Or.inl (own_h hw 24 rfl)) Via.refl e0 Fv (g := (mkF mm 1 #[.val (.ref a)] [(.ref a)])) rfl rfl (hb hby d6_1)
  obtain ⟨cl2, Ar2, qk2, Sz2, Nn2, Hh2, Gg2⟩ := id Vd
  obtain ⟨cq3, kq3, q3a, q3b, q3c⟩ := isOf hZ e1 Ea
  obtain ⟨_, _, ⟨T3, L3, k3, n3⟩, -, X3, ⟨Lc3, hQ3, l3, y3, z3⟩, st3⟩ := X1.virtualBack hx hown (mvT hZ (own_h hw 35 rfl)) (mvT hZ (own_h hw 36 rfl)) (notFace_of_selects (args := #[]) (mvT hZ (own_h hw 38 rfl))) (mvT hZ (own_h hw 38 rfl)) (mvT hZ (own_h hw 37 rfl)) (by decide) (backOf (W := 1) (rmCod1 l Z a0 hw [] a d kd z vs cs h0 n0 O0 Fc Fv Vd Ea hC) hZ (own_h hw 39 rfl) (own_h hw 7 rfl) (by decide) (by decide)) q3a q3c (g := (mkF mm 6 #[.val (.ref a)] [(.ref a), (.int z)])) rfl (by rw [hml]; rfl) (Steps.refl _) (argsL := []) (rest := [(.int z)]) (lenOf pd_105 rfl) rfl (Nat.le_of_eq rfl) (hb hby d6_6) (fun _ _ => ⟨rfl, e1, (by decide : 0 + 0 ≤ _), (by decide : 0 + 0 ≤ _)⟩)
  dsimp only [Pt.U, Pt.locs, Pt.cells, Pt.slots] at X3 l3 y3 z3 st3 hQ3
  subst l3 y3 z3
  obtain ⟨rfl, N3q, e3⟩ := hQ3
  have N3 := Fr.app N0 N3q
  refine own_end X3 (v := some (.int (z >>> ((1 : Int32) &&& 31)))) (fun h => by rw [Bd.returns] at h; cases h) (by decide) (by decide) (fun fs hr => pre0 _ ?_) ?_
  · show Steps pg.tables ee below (s₁.setTop (mkF mm 0 #[.val (.ref a)] [])) _
    refine XS.aloadN X0.here hx rfl (hb hby d6_0) rfl rfl ?_
    refine st1 _ ?_
    refine X1.arraylength hx (by rw [e1]; exact Ar2.1) (State.isArrayOf_alike hZ.alike Ar2.2.1) (g := (mkF mm 4 #[.val (.ref a)] [(.ref d)])) rfl rfl (hb hby d6_4) _ ?_
    rw [len_of Sz2 Nn2]
    refine XS.aloadN X1.here hx rfl (hb hby d6_5) rfl rfl ?_
    refine st3.trans ?_
    refine XS.ishr X3.here hx rfl (hb hby d6_9) rfl ?_
    exact retOut X3 hx Bd.returns rfl (Or.inl ⟨rfl, Or.inl rfl, _, rfl⟩) (hb hby d6_10) hr
  · show QrmLen1 Z a d kd z vs cs n h0 n0 _ T3.heap _
    rw [e3]
    exact ⟨congrArg (fun z => some (Value.int z)) (hn), N3, rfl⟩
theorem d13_0 : decode jdk_42_method_56_code 0 = .ok (.aload_n 0, 1) := by decide +kernel
theorem d13_1 : decode jdk_42_method_56_code 1 = .ok (.invokevirtual 492, 3) := by decide +kernel
theorem pd_112 : parseMethodDescriptor "()Z" = some ⟨[], some .boolean⟩ := by decide +kernel
theorem d13_4 : decode jdk_42_method_56_code 4 = .ok (.ifCond .eq 12, 3) := by decide +kernel
theorem d13_7 : decode jdk_42_method_56_code 7 = .ok (.aload_n 0, 1) := by decide +kernel
theorem d13_8 : decode jdk_42_method_56_code 8 = .ok (.getfield 9, 3) := by decide +kernel
theorem d13_11 : decode jdk_42_method_56_code 11 = .ok (.iload_n 1, 1) := by decide +kernel
theorem d13_12 : decode jdk_42_method_56_code 12 = .ok (.invokestatic 495, 3) := by decide +kernel
theorem d13_15 : decode jdk_42_method_56_code 15 = .ok (.ireturn, 1) := by decide +kernel
theorem ef_13_119 (m : MethodId) (x0 : Addr) (x1 : Int32) : entryFrame m #[(.ref x0), (.int x1)] 2 = mkF m 0 #[.val (.ref x0), .val (.int x1)] [] := by first | (simp [entryFrame, mkF, argsToLocals, Value.category]; done) | rfl
def QrmCha0 (Z : State) (a : Addr) (d : Addr) (kd : ClassId) (z : Int32) (vs : List Value) (cs : Int32) (j : Int32) (c : Int32) (fm : Value) (h0 : Heap) (n0 : Nat) (v : Option Value) (h : Heap) (L : List Loc) : Prop := v = some (.int c) ∧ Fr n0 L ∧ h = h0
set_option maxRecDepth 65536 in
set_option maxHeartbeats 40000000 in
theorem rmCha0 (l : Launch) (Z : State) (a0 : Array Value) (hw : ∀ d ∈ tables_1, d.before a0 Z = true) (ws : List Jvm.Cond) (a : Addr) (d : Addr) (kd : ClassId) (z : Int32) (vs : List Value) (cs : Int32) (j : Int32) (c : Int32) (fm : Value) (h0 : Heap) (n0 : Nat) (O0 : Old Z n0 h0) (Fc : Fld Z h0 a "java/lang/String" "coder" "B" (.int (0 : Int32))) (Fv : Fld Z h0 a "java/lang/String" "value" "[B" (.ref d)) (Vd : Arv Z h0 d kd .byte z vs (.int 0)) (Ea : Exa Z h0 a "java/lang/String") (hC : own_C Z cs) (hj : ¬ (j < (0 : Int32))) (hz : j < z) (hv : vs.getD (j).toNatClampNeg (.int 0) = .int (nar .byte (c.toInt8.toInt32))) (hc0 : ¬ (c < (0 : Int32))) (hc2 : ¬ ((255 : Int32) < c)) (hF : own_F Z fm) :
    own_M l Z h0 (⟨"java/lang/String", "charAt", "(I)C"⟩ : MethodName) jdk_42_method_56_code 2 (some .char) ws ({ frames := 4, cells := 0, slots := 0, locals := 53 } : Room) #[(.ref a), (.int j)] (QrmCha0 Z a d kd z vs cs j c fm h0 n0) := by
  refine own_start (plainFor_of_name pn_18) ?_
  intro pg ee s mm below meth cc s₁ Bd hZ hh hx hby hml hown0 hnm X0 e0
  have hown : s.vm.findClass "java/lang/String" = some mm.cls := hown0
  have N0 := Fr.nil n0
  have pre0 := fun tg_ => castTop (tb := pg.tables) (e := ee) (below := below) (T := s₁) (t := tg_) (ef_13_119 mm a j)
  obtain ⟨cq1, kq1, q1a, q1b, q1c⟩ := isOf hZ e0 Ea
  obtain ⟨_, _, ⟨T1, L1, k1, n1⟩, -, X1, ⟨Lc1, hQ1, l1, y1, z1⟩, st1⟩ := X0.virtualBack hx hown (mvT hZ (own_h hw 64 rfl)) (mvT hZ (own_h hw 65 rfl)) (notFace_of_selects (args := #[]) (mvT hZ (own_h hw 67 rfl))) (mvT hZ (own_h hw 67 rfl)) (mvT hZ (own_h hw 66 rfl)) (by decide) (backOf (W := 0) (rmLat0 l Z a0 hw [] a d kd z vs cs h0 n0 O0 Fc Fv Vd Ea hC) hZ (own_h hw 68 rfl) (own_h hw 7 rfl) (by decide) (by decide)) q1a q1c (g := (mkF mm 1 #[.val (.ref a), .val (.int j)] [(.ref a)])) rfl (by rw [hml]; rfl) (Steps.refl _) (argsL := []) (rest := []) (lenOf pd_112 rfl) rfl (Nat.le_of_eq rfl) (hb hby d13_1) (fun _ _ => ⟨rfl, e0, (by decide : 0 + 0 ≤ _), (by decide : 0 + 0 ≤ _)⟩)
  dsimp only [Pt.U, Pt.locs, Pt.cells, Pt.slots] at X1 l1 y1 z1 st1 hQ1
  subst l1 y1 z1
  obtain ⟨rfl, N1q, e1⟩ := hQ1
  have N1 := Fr.app N0 N1q
  obtain ⟨T2, X2, e2, st2⟩ := getF X1 hx hZ hown (host := "") (Or.inl (own_h hw 24 rfl)) Via.refl e1 Fv (g := (mkF mm 8 #[.val (.ref a), .val (.int j)] [(.ref a)])) rfl rfl (hb hby d13_8)
  obtain ⟨_, _, ⟨T3, L3, k3, n3⟩, -, X3, ⟨Lc3, hQ3, l3, y3, z3⟩, st3⟩ := Jvm.LawKit.callS X2 hx hown (mvT hZ (own_h hw 69 rfl)) (mvT hZ (own_h hw 70 rfl)) (mvT hZ (own_h hw 71 rfl)) (mvT hZ (own_h hw 72 rfl)) (by decide) (backOf (W := 0) (rmLc l Z a0 hw [] d kd z vs j c fm h0 n0 O0 Vd hj hz hv hc0 hc2 hF) hZ (own_h hw 72 rfl) (own_h hw 71 rfl) (by decide) (by decide)) (g := (mkF mm 12 #[.val (.ref a), .val (.int j)] [(.int j), (.ref d)])) rfl (by rw [hml]; rfl) (argsL := [(.ref d), (.int j)]) (rest := []) (lenOf pd_68 rfl) rfl (Nat.le_of_eq rfl) (hb hby d13_12) (fun _ _ => ⟨rfl, e2, (by decide : 0 + 0 ≤ _), (by decide : 0 + 0 ≤ _)⟩)
  dsimp only [Pt.U, Pt.locs, Pt.cells, Pt.slots] at X3 l3 y3 z3 st3 hQ3
  subst l3 y3 z3
  obtain ⟨rfl, N3q, e3⟩ := hQ3
  have N3 := Fr.app N1 N3q
  refine own_end X3 (v := some (.int (nar .char c))) (fun h => by rw [Bd.returns] at h; cases h) (by decide) (by decide) (fun fs hr => pre0 _ ?_) ?_
  · show Steps pg.tables ee below (s₁.setTop (mkF mm 0 #[.val (.ref a), .val (.int j)] [])) _
    refine XS.aloadN X0.here hx rfl (hb hby d13_0) rfl rfl ?_
    refine st1.trans ?_
    refine XS.ifNo X1.here hx rfl (hb hby d13_4) rfl ((if0 _ _).trans (feq (by decide : ¬ ((1 : Int32) = (0 : Int32)))).1) ?_
    refine XS.aloadN X1.here hx rfl (hb hby d13_7) rfl rfl ?_
    refine st2 _ ?_
    refine XS.iloadN X2.here hx rfl (hb hby d13_11) rfl ?_
    refine st3 _ ?_
    exact retN X3 hx (t := .char) Bd.returns (by simp) (hb hby d13_15) hr
  · show QrmCha0 Z a d kd z vs cs j c fm h0 n0 _ T3.heap _
    rw [e3]
    exact ⟨congrArg (fun z => some (Value.int z)) (own_nc hc0 (fun q => hc2 (Int32.lt_trans (by decide : (255 : Int32) < 65535) q))), N3, rfl⟩
theorem d13_16 : decode jdk_42_method_56_code 16 = .ok (.aload_n 0, 1) := by decide +kernel
theorem d13_17 : decode jdk_42_method_56_code 17 = .ok (.getfield 9, 3) := by decide +kernel
theorem d13_20 : decode jdk_42_method_56_code 20 = .ok (.iload_n 1, 1) := by decide +kernel
theorem d13_21 : decode jdk_42_method_56_code 21 = .ok (.invokestatic 498, 3) := by decide +kernel
theorem d13_24 : decode jdk_42_method_56_code 24 = .ok (.ireturn, 1) := by decide +kernel
def QrmCha1 (Z : State) (a : Addr) (d : Addr) (kd : ClassId) (z : Int32) (vs : List Value) (cs : Int32) (j : Int32) (c : Int32) (fm : Value) (h0 : Heap) (n0 : Nat) (v : Option Value) (h : Heap) (L : List Loc) : Prop := v = some (.int c) ∧ Fr n0 L ∧ h = h0
set_option maxRecDepth 65536 in
set_option maxHeartbeats 40000000 in
theorem rmCha1 (l : Launch) (Z : State) (a0 : Array Value) (hw : ∀ d ∈ tables_1, d.before a0 Z = true) (ws : List Jvm.Cond) (a : Addr) (d : Addr) (kd : ClassId) (z : Int32) (vs : List Value) (cs : Int32) (j : Int32) (c : Int32) (fm : Value) (h0 : Heap) (n0 : Nat) (O0 : Old Z n0 h0) (Fc : Fld Z h0 a "java/lang/String" "coder" "B" (.int (1 : Int32))) (Fv : Fld Z h0 a "java/lang/String" "value" "[B" (.ref d)) (Vd : Arv Z h0 d kd .byte z vs (.int 0)) (Ea : Exa Z h0 a "java/lang/String") (hC : own_C Z cs) (hG : own_G Z) (hi0 : ¬ ((j <<< ((1 : Int32) &&& 31)) < 0) ∧ (j <<< ((1 : Int32) &&& 31)) < z) (hi1 : ¬ (((j <<< ((1 : Int32) &&& 31)) + (1 : Int32)) < 0) ∧ ((j <<< ((1 : Int32) &&& 31)) + (1 : Int32)) < z) (hv0 : vs.getD ((j <<< ((1 : Int32) &&& 31))).toNatClampNeg (.int 0) = .int (nar .byte ((c >>> ((0 : Int32) &&& 31)).toInt8.toInt32))) (hv1 : vs.getD (((j <<< ((1 : Int32) &&& 31)) + (1 : Int32))).toNatClampNeg (.int 0) = .int (nar .byte ((c >>> ((8 : Int32) &&& 31)).toInt8.toInt32))) (hc0 : ¬ (c < (0 : Int32))) (hc1 : ¬ ((65535 : Int32) < c)) (hj : ¬ (j < (0 : Int32))) (hz : j < (z >>> ((1 : Int32) &&& 31))) (hF : own_F Z fm) :
    own_M l Z h0 (⟨"java/lang/String", "charAt", "(I)C"⟩ : MethodName) jdk_42_method_56_code 2 (some .char) ws ({ frames := 4, cells := 0, slots := 0, locals := 53 } : Room) #[(.ref a), (.int j)] (QrmCha1 Z a d kd z vs cs j c fm h0 n0) := by
  refine own_start (plainFor_of_name pn_18) ?_
  intro pg ee s mm below meth cc s₁ Bd hZ hh hx hby hml hown0 hnm X0 e0
  have hown : s.vm.findClass "java/lang/String" = some mm.cls := hown0
  have N0 := Fr.nil n0
  have pre0 := fun tg_ => castTop (tb := pg.tables) (e := ee) (below := below) (T := s₁) (t := tg_) (ef_13_119 mm a j)
  obtain ⟨cq1, kq1, q1a, q1b, q1c⟩ := isOf hZ e0 Ea
  obtain ⟨_, _, ⟨T1, L1, k1, n1⟩, -, X1, ⟨Lc1, hQ1, l1, y1, z1⟩, st1⟩ := X0.virtualBack hx hown (mvT hZ (own_h hw 64 rfl)) (mvT hZ (own_h hw 65 rfl)) (notFace_of_selects (args := #[]) (mvT hZ (own_h hw 67 rfl))) (mvT hZ (own_h hw 67 rfl)) (mvT hZ (own_h hw 66 rfl)) (by decide) (backOf (W := 0) (rmLat1 l Z a0 hw [] a d kd z vs cs h0 n0 O0 Fc Fv Vd Ea hC) hZ (own_h hw 68 rfl) (own_h hw 7 rfl) (by decide) (by decide)) q1a q1c (g := (mkF mm 1 #[.val (.ref a), .val (.int j)] [(.ref a)])) rfl (by rw [hml]; rfl) (Steps.refl _) (argsL := []) (rest := []) (lenOf pd_112 rfl) rfl (Nat.le_of_eq rfl) (hb hby d13_1) (fun _ _ => ⟨rfl, e0, (by decide : 0 + 0 ≤ _), (by decide : 0 + 0 ≤ _)⟩)
  dsimp only [Pt.U, Pt.locs, Pt.cells, Pt.slots] at X1 l1 y1 z1 st1 hQ1
  subst l1 y1 z1
  obtain ⟨rfl, N1q, e1⟩ := hQ1
  have N1 := Fr.app N0 N1q
  obtain ⟨T2, X2, e2, st2⟩ := getF X1 hx hZ hown (host := "") (Or.inl (own_h hw 24 rfl)) Via.refl e1 Fv (g := (mkF mm 17 #[.val (.ref a), .val (.int j)] [(.ref a)])) rfl rfl (hb hby d13_17)
  obtain ⟨_, _, ⟨T3, L3, k3, n3⟩, -, X3, ⟨Lc3, hQ3, l3, y3, z3⟩, st3⟩ := Jvm.LawKit.callS X2 hx hown (mvT hZ (own_h hw 128 rfl)) (mvT hZ (own_h hw 129 rfl)) (mvT hZ (own_h hw 48 rfl)) (mvT hZ (own_h hw 130 rfl)) (by decide) (backOf (W := 0) (rmUc l Z a0 hw [] d kd z vs j c fm h0 n0 O0 Vd hG hi0 hi1 hv0 hv1 hc0 hc1 hj hz hF) hZ (own_h hw 130 rfl) (own_h hw 48 rfl) (by decide) (by decide)) (g := (mkF mm 21 #[.val (.ref a), .val (.int j)] [(.int j), (.ref d)])) rfl (by rw [hml]; rfl) (argsL := [(.ref d), (.int j)]) (rest := []) (lenOf pd_68 rfl) rfl (Nat.le_of_eq rfl) (hb hby d13_21) (fun _ _ => ⟨rfl, e2, (by decide : 0 + 0 ≤ _), (by decide : 0 + 0 ≤ _)⟩)
  dsimp only [Pt.U, Pt.locs, Pt.cells, Pt.slots] at X3 l3 y3 z3 st3 hQ3
  subst l3 y3 z3
  obtain ⟨rfl, N3q, e3⟩ := hQ3
  have N3 := Fr.app N1 N3q
  refine own_end X3 (v := some (.int (nar .char c))) (fun h => by rw [Bd.returns] at h; cases h) (by decide) (by decide) (fun fs hr => pre0 _ ?_) ?_
  · show Steps pg.tables ee below (s₁.setTop (mkF mm 0 #[.val (.ref a), .val (.int j)] [])) _
    refine XS.aloadN X0.here hx rfl (hb hby d13_0) rfl rfl ?_
    refine st1.trans ?_
    refine XS.ifYes X1.here hx rfl (pc0 := 4) (pc' := 16) rfl (hb hby d13_4) rfl ((if0 _ _).trans (teq (by decide : (0 : Int32) = (0 : Int32))).1) (by decide) (by decide) ?_
    refine XS.aloadN X1.here hx rfl (hb hby d13_16) rfl rfl ?_
    refine st2 _ ?_
    refine XS.iloadN X2.here hx rfl (hb hby d13_20) rfl ?_
    refine st3 _ ?_
    exact retN X3 hx (t := .char) Bd.returns (by simp) (hb hby d13_24) hr
  · show QrmCha1 Z a d kd z vs cs j c fm h0 n0 _ T3.heap _
    rw [e3]
    exact ⟨congrArg (fun z => some (Value.int z)) (own_nc hc0 hc1), N3, rfl⟩
theorem d8_0 : decode jdk_42_method_55_code 0 = .ok (.aload_n 0, 1) := by decide +kernel
theorem d8_1 : decode jdk_42_method_55_code 1 = .ok (.getfield 9, 3) := by decide +kernel
theorem d8_4 : decode jdk_42_method_55_code 4 = .ok (.arraylength, 1) := by decide +kernel
theorem d8_5 : decode jdk_42_method_55_code 5 = .ok (.ifCond .ne 7, 3) := by decide +kernel
theorem d8_12 : decode jdk_42_method_55_code 12 = .ok (.iconst 0, 1) := by decide +kernel
theorem d8_13 : decode jdk_42_method_55_code 13 = .ok (.ireturn, 1) := by decide +kernel
theorem ef_8_131 (m : MethodId) (x0 : Addr) : entryFrame m #[(.ref x0)] 1 = mkF m 0 #[.val (.ref x0)] [] := by first | (simp [entryFrame, mkF, argsToLocals, Value.category]; done) | rfl
def QrmEmp0 (Z : State) (a : Addr) (d : Addr) (kd : ClassId) (z : Int32) (vs : List Value) (h0 : Heap) (n0 : Nat) (v : Option Value) (h : Heap) (L : List Loc) : Prop := v = some (.int (0 : Int32)) ∧ Fr n0 L ∧ h = h0
set_option maxRecDepth 65536 in
set_option maxHeartbeats 40000000 in
theorem rmEmp0 (l : Launch) (Z : State) (a0 : Array Value) (hw : ∀ d ∈ tables_1, d.before a0 Z = true) (ws : List Jvm.Cond) (a : Addr) (d : Addr) (kd : ClassId) (z : Int32) (vs : List Value) (h0 : Heap) (n0 : Nat) (O0 : Old Z n0 h0) (Fv : Fld Z h0 a "java/lang/String" "value" "[B" (.ref d)) (Vd : Arv Z h0 d kd .byte z vs (.int 0)) (hz : ¬ (z = (0 : Int32))) :
    own_M l Z h0 (⟨"java/lang/String", "isEmpty", "()Z"⟩ : MethodName) jdk_42_method_55_code 1 (some .boolean) ws ({ frames := 0, cells := 0, slots := 0, locals := 0 } : Room) #[(.ref a)] (QrmEmp0 Z a d kd z vs h0 n0) := by
  refine own_start (plainFor_of_name pn_18) ?_
  intro pg ee s mm below meth cc s₁ Bd hZ hh hx hby hml hown0 hnm X0 e0
  have hown : s.vm.findClass "java/lang/String" = some mm.cls := hown0
  have N0 := Fr.nil n0
  have pre0 := fun tg_ => castTop (tb := pg.tables) (e := ee) (below := below) (T := s₁) (t := tg_) (ef_8_131 mm a)
  obtain ⟨T1, X1, e1, st1⟩ := getF X0 hx hZ hown (host := "") (Or.inl (own_h hw 24 rfl)) Via.refl e0 Fv (g := (mkF mm 1 #[.val (.ref a)] [(.ref a)])) rfl rfl (hb hby d8_1)
  obtain ⟨cl2, Ar2, qk2, Sz2, Nn2, Hh2, Gg2⟩ := id Vd
  refine own_end X1 (v := some (.int (0 : Int32))) (fun h => by rw [Bd.returns] at h; cases h) (by decide) (by decide) (fun fs hr => pre0 _ ?_) ?_
  · show Steps pg.tables ee below (s₁.setTop (mkF mm 0 #[.val (.ref a)] [])) _
    refine XS.aloadN X0.here hx rfl (hb hby d8_0) rfl rfl ?_
    refine st1 _ ?_
    refine X1.arraylength hx (by rw [e1]; exact Ar2.1) (State.isArrayOf_alike hZ.alike Ar2.2.1) (g := (mkF mm 4 #[.val (.ref a)] [(.ref d)])) rfl rfl (hb hby d8_4) _ ?_
    rw [len_of Sz2 Nn2]
    refine XS.ifYes X1.here hx rfl (pc0 := 5) (pc' := 12) rfl (hb hby d8_5) rfl ((if0 _ _).trans (feq hz).2) (by decide) (by decide) ?_
    refine XS.iconst X1.here hx rfl (hb hby d8_12) ?_
    exact retN X1 hx (t := .boolean) Bd.returns (by simp) (hb hby d8_13) hr
  · show QrmEmp0 Z a d kd z vs h0 n0 _ T1.heap _
    rw [e1]
    exact ⟨rfl, N0, rfl⟩
theorem d8_8 : decode jdk_42_method_55_code 8 = .ok (.iconst 1, 1) := by decide +kernel
theorem d8_9 : decode jdk_42_method_55_code 9 = .ok (.goto 4, 3) := by decide +kernel
def QrmEmp1 (Z : State) (a : Addr) (d : Addr) (kd : ClassId) (z : Int32) (vs : List Value) (h0 : Heap) (n0 : Nat) (v : Option Value) (h : Heap) (L : List Loc) : Prop := v = some (.int (1 : Int32)) ∧ Fr n0 L ∧ h = h0
set_option maxRecDepth 65536 in
set_option maxHeartbeats 40000000 in
theorem rmEmp1 (l : Launch) (Z : State) (a0 : Array Value) (hw : ∀ d ∈ tables_1, d.before a0 Z = true) (ws : List Jvm.Cond) (a : Addr) (d : Addr) (kd : ClassId) (z : Int32) (vs : List Value) (h0 : Heap) (n0 : Nat) (O0 : Old Z n0 h0) (Fv : Fld Z h0 a "java/lang/String" "value" "[B" (.ref d)) (Vd : Arv Z h0 d kd .byte z vs (.int 0)) (hz : z = (0 : Int32)) :
    own_M l Z h0 (⟨"java/lang/String", "isEmpty", "()Z"⟩ : MethodName) jdk_42_method_55_code 1 (some .boolean) ws ({ frames := 0, cells := 0, slots := 0, locals := 0 } : Room) #[(.ref a)] (QrmEmp1 Z a d kd z vs h0 n0) := by
  refine own_start (plainFor_of_name pn_18) ?_
  intro pg ee s mm below meth cc s₁ Bd hZ hh hx hby hml hown0 hnm X0 e0
  have hown : s.vm.findClass "java/lang/String" = some mm.cls := hown0
  have N0 := Fr.nil n0
  have pre0 := fun tg_ => castTop (tb := pg.tables) (e := ee) (below := below) (T := s₁) (t := tg_) (ef_8_131 mm a)
  obtain ⟨T1, X1, e1, st1⟩ := getF X0 hx hZ hown (host := "") (Or.inl (own_h hw 24 rfl)) Via.refl e0 Fv (g := (mkF mm 1 #[.val (.ref a)] [(.ref a)])) rfl rfl (hb hby d8_1)
  obtain ⟨cl2, Ar2, qk2, Sz2, Nn2, Hh2, Gg2⟩ := id Vd
  refine own_end X1 (v := some (.int (1 : Int32))) (fun h => by rw [Bd.returns] at h; cases h) (by decide) (by decide) (fun fs hr => pre0 _ ?_) ?_
  · show Steps pg.tables ee below (s₁.setTop (mkF mm 0 #[.val (.ref a)] [])) _
    refine XS.aloadN X0.here hx rfl (hb hby d8_0) rfl rfl ?_
    refine st1 _ ?_
    refine X1.arraylength hx (by rw [e1]; exact Ar2.1) (State.isArrayOf_alike hZ.alike Ar2.2.1) (g := (mkF mm 4 #[.val (.ref a)] [(.ref d)])) rfl rfl (hb hby d8_4) _ ?_
    rw [len_of Sz2 Nn2]
    refine XS.ifNo X1.here hx rfl (hb hby d8_5) rfl ((if0 _ _).trans (teq hz).2) ?_
    refine XS.iconst X1.here hx rfl (hb hby d8_8) ?_
    refine XS.goto X1.here hx rfl (pc0 := 9) (pc' := 13) rfl (hb hby d8_9) (by decide) (by decide) ?_
    exact retN X1 hx (t := .boolean) Bd.returns (by simp) (hb hby d8_13) hr
  · show QrmEmp1 Z a d kd z vs h0 n0 _ T1.heap _
    rw [e1]
    exact ⟨rfl, N0, rfl⟩
def QX (Z : State) (c : Int32) (h0 : Heap) (n0 : Nat) (v : Option Value) (h : Heap) (L : List Loc) : Prop := ∃ r : Int32, v = some (.int r) ∧ Fr n0 L ∧ h = h0 ∧ (r < (0 : Int32) ↔ ¬ own_sp c)
theorem d24_0 : decode jdk_43_method_23_code 0 = .ok (.iload_n 1, 1) := by decide +kernel
theorem d24_1 : decode jdk_43_method_23_code 1 = .ok (.i2b, 1) := by decide +kernel
theorem d24_2 : decode jdk_43_method_23_code 2 = .ok (.istore 4, 2) := by decide +kernel
theorem d24_4 : decode jdk_43_method_23_code 4 = .ok (.iload_n 2, 1) := by decide +kernel
theorem d24_5 : decode jdk_43_method_23_code 5 = .ok (.istore 5, 2) := by decide +kernel
theorem d24_7 : decode jdk_43_method_23_code 7 = .ok (.iload 5, 2) := by decide +kernel
theorem d24_9 : decode jdk_43_method_23_code 9 = .ok (.iload_n 3, 1) := by decide +kernel
theorem d24_10 : decode jdk_43_method_23_code 10 = .ok (.if_icmp .ge 21, 3) := by decide +kernel
theorem d24_13 : decode jdk_43_method_23_code 13 = .ok (.aload_n 0, 1) := by decide +kernel
theorem d24_14 : decode jdk_43_method_23_code 14 = .ok (.iload 5, 2) := by decide +kernel
theorem d24_16 : decode jdk_43_method_23_code 16 = .ok (.baload, 1) := by decide +kernel
theorem d24_17 : decode jdk_43_method_23_code 17 = .ok (.iload 4, 2) := by decide +kernel
theorem d24_19 : decode jdk_43_method_23_code 19 = .ok (.if_icmp .ne 6, 3) := by decide +kernel
theorem d24_22 : decode jdk_43_method_23_code 22 = .ok (.iload 5, 2) := by decide +kernel
theorem d24_24 : decode jdk_43_method_23_code 24 = .ok (.ireturn, 1) := by decide +kernel
theorem d24_25 : decode jdk_43_method_23_code 25 = .ok (.iinc 5 1, 3) := by decide +kernel
theorem d24_28 : decode jdk_43_method_23_code 28 = .ok (.goto (-21), 3) := by decide +kernel
theorem d24_31 : decode jdk_43_method_23_code 31 = .ok (.iconst (-1), 1) := by decide +kernel
theorem d24_32 : decode jdk_43_method_23_code 32 = .ok (.ireturn, 1) := by decide +kernel
theorem ef_24_153 (m : MethodId) (x0 : Addr) (x1 : Int32) (x2 : Int32) (x3 : Int32) : entryFrame m #[(.ref x0), (.int x1), (.int x2), (.int x3)] 6 = mkF m 0 #[.val (.ref x0), .val (.int x1), .val (.int x2), .val (.int x3), .unset, .unset] [] := by first | (simp [entryFrame, mkF, argsToLocals, Value.category]; done) | rfl
set_option maxRecDepth 65536 in
set_option maxHeartbeats 40000000 in
theorem rmIxc (l : Launch) (Z : State) (a0 : Array Value) (hw : ∀ d ∈ tables_1, d.before a0 Z = true) (ws : List Jvm.Cond) (d : Addr) (kd : ClassId) (c : Int32) (h0 : Heap) (n0 : Nat) (O0 : Old Z n0 h0) (Vd : Arv Z h0 d kd .byte (15 : Int32) [(.int (33 : Int32)), (.int (35 : Int32)), (.int (36 : Int32)), (.int (37 : Int32)), (.int (38 : Int32)), (.int (39 : Int32)), (.int (42 : Int32)), (.int (43 : Int32)), (.int (45 : Int32)), (.int (46 : Int32)), (.int (94 : Int32)), (.int (95 : Int32)), (.int (96 : Int32)), (.int (124 : Int32)), (.int (126 : Int32))] (.int 0)) (hc0 : ¬ (c < (0 : Int32))) (hc2 : ¬ ((255 : Int32) < c)) :
    own_M l Z h0 (⟨"java/lang/StringLatin1", "indexOfChar", "([BIII)I"⟩ : MethodName) jdk_43_method_23_code 6 (some .int) ws ({ frames := 0, cells := 0, slots := 0, locals := 0 } : Room) #[(.ref d), (.int c), (.int (0 : Int32)), (.int (15 : Int32))] (QX Z c h0 n0) := by
  refine own_start (plainFor_of_name pn_82) ?_
  intro pg ee s mm below meth cc s₁ Bd hZ hh hx hby hml hown0 hnm X0 e0
  have hown : s.vm.findClass "java/lang/StringLatin1" = some mm.cls := hown0
  have N0 := Fr.nil n0
  have pre0 := fun tg_ => castTop (tb := pg.tables) (e := ee) (below := below) (T := s₁) (t := tg_) (ef_24_153 mm d c (0 : Int32) (15 : Int32))
  obtain ⟨cl1, Ar1, qk1, Sz1, Nn1, Hh1, Gg1⟩ := id Vd
  have hin1 : ¬ ((0 : Int32) < 0 ∨ cl1.slots.size ≤ ((0 : Int32)).toNatClampNeg) := inb_of Sz1 ⟨by decide, by decide⟩
  have pre2 := fun tg_ (k_ : Steps pg.tables ee below (s₁.setTop (mkF mm 19 #[.val (.ref d), .val (.int c), .val (.int (0 : Int32)), .val (.int (15 : Int32)), .val (.int (c.toInt8.toInt32)), .val (.int (0 : Int32))] [(.int (c.toInt8.toInt32)), (.int (33 : Int32))])) tg_) => pre0 tg_ (by
    show Steps pg.tables ee below (s₁.setTop (mkF mm 0 #[.val (.ref d), .val (.int c), .val (.int (0 : Int32)), .val (.int (15 : Int32)), .unset, .unset] [])) _
    refine XS.iloadN X0.here hx rfl (hb hby d24_0) rfl ?_
    refine XS.i2b X0.here hx rfl (hb hby d24_1) rfl ?_
    refine XS.istore X0.here hx rfl (hb hby d24_2) rfl (l' := #[.val (.ref d), .val (.int c), .val (.int (0 : Int32)), .val (.int (15 : Int32)), .val (.int (c.toInt8.toInt32)), .unset]) rfl ?_
    refine XS.iloadN X0.here hx rfl (hb hby d24_4) rfl ?_
    refine XS.istore X0.here hx rfl (hb hby d24_5) rfl (l' := #[.val (.ref d), .val (.int c), .val (.int (0 : Int32)), .val (.int (15 : Int32)), .val (.int (c.toInt8.toInt32)), .val (.int (0 : Int32))]) rfl ?_
    refine XS.iload X0.here hx rfl (hb hby d24_7) rfl ?_
    refine XS.iloadN X0.here hx rfl (hb hby d24_9) rfl ?_
    refine XS.icmpNo X0.here hx rfl (hb hby d24_10) rfl (tlt (by decide : (0 : Int32) < (15 : Int32))).2.1 ?_
    show Steps pg.tables ee below (s₁.setTop (mkF mm 13 #[.val (.ref d), .val (.int c), .val (.int (0 : Int32)), .val (.int (15 : Int32)), .val (.int (c.toInt8.toInt32)), .val (.int (0 : Int32))] [])) _
    refine XS.aloadN X0.here hx rfl (hb hby d24_13) rfl rfl ?_
    refine XS.iload X0.here hx rfl (hb hby d24_14) rfl ?_
    refine X0.baloadBytes hx (j := (0 : Int32)) (v := (.int (33 : Int32))) (by rw [e0]; exact Ar1.1) (State.isArrayOf_alike hZ.alike Ar1.2.1) Ar1.2.2 hin1 (Has.at Hh1 hin1 rfl) (g := (mkF mm 16 #[.val (.ref d), .val (.int c), .val (.int (0 : Int32)), .val (.int (15 : Int32)), .val (.int (c.toInt8.toInt32)), .val (.int (0 : Int32))] [(.int (0 : Int32)), (.ref d)])) rfl rfl (hb hby d24_16) _ ?_
    refine XS.iload X0.here hx rfl (hb hby d24_17) rfl ?_
    exact k_)
  by_cases hc3 : (33 : Int32) = (c.toInt8.toInt32)
  · refine own_end X0 (v := some (.int (0 : Int32))) (fun h => by rw [Bd.returns] at h; cases h) (by decide) (by decide) (fun fs hr => pre2 _ ?_) ?_
    · show Steps pg.tables ee below (s₁.setTop (mkF mm 19 #[.val (.ref d), .val (.int c), .val (.int (0 : Int32)), .val (.int (15 : Int32)), .val (.int (c.toInt8.toInt32)), .val (.int (0 : Int32))] [(.int (c.toInt8.toInt32)), (.int (33 : Int32))])) _
      refine XS.icmpNo X0.here hx rfl (hb hby d24_19) rfl (teq hc3).2 ?_
      refine XS.iload X0.here hx rfl (hb hby d24_22) rfl ?_
      exact retOut X0 hx Bd.returns rfl (Or.inl ⟨rfl, Or.inl rfl, _, rfl⟩) (hb hby d24_24) hr
    · show QX Z c h0 n0 _ s₁.heap _
      rw [e0]
      exact ⟨_, rfl, N0, rfl, ⟨fun q => absurd q (by decide), fun q => absurd (Or.inl ((own_bc hc0 hc2 (33 : Int32) (by decide) (by decide)).mp hc3)) q⟩⟩
  · obtain ⟨cl4, Ar4, qk4, Sz4, Nn4, Hh4, Gg4⟩ := id Vd
    have hin4 : ¬ ((1 : Int32) < 0 ∨ cl4.slots.size ≤ ((1 : Int32)).toNatClampNeg) := inb_of Sz4 ⟨by decide, by decide⟩
    have pre5 := fun tg_ (k_ : Steps pg.tables ee below (s₁.setTop (mkF mm 19 #[.val (.ref d), .val (.int c), .val (.int (0 : Int32)), .val (.int (15 : Int32)), .val (.int (c.toInt8.toInt32)), .val (.int (1 : Int32))] [(.int (c.toInt8.toInt32)), (.int (35 : Int32))])) tg_) => pre2 tg_ (by
      show Steps pg.tables ee below (s₁.setTop (mkF mm 19 #[.val (.ref d), .val (.int c), .val (.int (0 : Int32)), .val (.int (15 : Int32)), .val (.int (c.toInt8.toInt32)), .val (.int (0 : Int32))] [(.int (c.toInt8.toInt32)), (.int (33 : Int32))])) _
      refine XS.icmpYes X0.here hx rfl (pc0 := 19) (pc' := 25) rfl (hb hby d24_19) rfl (feq hc3).2 (by decide) (by decide) ?_
      refine XS.iinc X0.here hx rfl (hb hby d24_25) rfl (l' := #[.val (.ref d), .val (.int c), .val (.int (0 : Int32)), .val (.int (15 : Int32)), .val (.int (c.toInt8.toInt32)), .val (.int (1 : Int32))]) rfl ?_
      refine XS.goto X0.here hx rfl (pc0 := 28) (pc' := 7) rfl (hb hby d24_28) (by decide) (by decide) ?_
      refine XS.iload X0.here hx rfl (hb hby d24_7) rfl ?_
      show Steps pg.tables ee below (s₁.setTop (mkF mm 9 #[.val (.ref d), .val (.int c), .val (.int (0 : Int32)), .val (.int (15 : Int32)), .val (.int (c.toInt8.toInt32)), .val (.int (1 : Int32))] [(.int (1 : Int32))])) _
      refine XS.iloadN X0.here hx rfl (hb hby d24_9) rfl ?_
      refine XS.icmpNo X0.here hx rfl (hb hby d24_10) rfl (tlt (by decide : (1 : Int32) < (15 : Int32))).2.1 ?_
      refine XS.aloadN X0.here hx rfl (hb hby d24_13) rfl rfl ?_
      refine XS.iload X0.here hx rfl (hb hby d24_14) rfl ?_
      refine X0.baloadBytes hx (j := (1 : Int32)) (v := (.int (35 : Int32))) (by rw [e0]; exact Ar4.1) (State.isArrayOf_alike hZ.alike Ar4.2.1) Ar4.2.2 hin4 (Has.at Hh4 hin4 rfl) (g := (mkF mm 16 #[.val (.ref d), .val (.int c), .val (.int (0 : Int32)), .val (.int (15 : Int32)), .val (.int (c.toInt8.toInt32)), .val (.int (1 : Int32))] [(.int (1 : Int32)), (.ref d)])) rfl rfl (hb hby d24_16) _ ?_
      refine XS.iload X0.here hx rfl (hb hby d24_17) rfl ?_
      exact k_)
    by_cases hc6 : (35 : Int32) = (c.toInt8.toInt32)
    · refine own_end X0 (v := some (.int (1 : Int32))) (fun h => by rw [Bd.returns] at h; cases h) (by decide) (by decide) (fun fs hr => pre5 _ ?_) ?_
      · show Steps pg.tables ee below (s₁.setTop (mkF mm 19 #[.val (.ref d), .val (.int c), .val (.int (0 : Int32)), .val (.int (15 : Int32)), .val (.int (c.toInt8.toInt32)), .val (.int (1 : Int32))] [(.int (c.toInt8.toInt32)), (.int (35 : Int32))])) _
        refine XS.icmpNo X0.here hx rfl (hb hby d24_19) rfl (teq hc6).2 ?_
        refine XS.iload X0.here hx rfl (hb hby d24_22) rfl ?_
        show Steps pg.tables ee below (s₁.setTop (mkF mm 24 #[.val (.ref d), .val (.int c), .val (.int (0 : Int32)), .val (.int (15 : Int32)), .val (.int (c.toInt8.toInt32)), .val (.int (1 : Int32))] [(.int (1 : Int32))])) _
        exact retOut X0 hx Bd.returns rfl (Or.inl ⟨rfl, Or.inl rfl, _, rfl⟩) (hb hby d24_24) hr
      · show QX Z c h0 n0 _ s₁.heap _
        rw [e0]
        exact ⟨_, rfl, N0, rfl, ⟨fun q => absurd q (by decide), fun q => absurd (Or.inr (Or.inl ((own_bc hc0 hc2 (35 : Int32) (by decide) (by decide)).mp hc6))) q⟩⟩
    · obtain ⟨cl7, Ar7, qk7, Sz7, Nn7, Hh7, Gg7⟩ := id Vd
      have hin7 : ¬ ((2 : Int32) < 0 ∨ cl7.slots.size ≤ ((2 : Int32)).toNatClampNeg) := inb_of Sz7 ⟨by decide, by decide⟩
      have pre8 := fun tg_ (k_ : Steps pg.tables ee below (s₁.setTop (mkF mm 19 #[.val (.ref d), .val (.int c), .val (.int (0 : Int32)), .val (.int (15 : Int32)), .val (.int (c.toInt8.toInt32)), .val (.int (2 : Int32))] [(.int (c.toInt8.toInt32)), (.int (36 : Int32))])) tg_) => pre5 tg_ (by
        show Steps pg.tables ee below (s₁.setTop (mkF mm 19 #[.val (.ref d), .val (.int c), .val (.int (0 : Int32)), .val (.int (15 : Int32)), .val (.int (c.toInt8.toInt32)), .val (.int (1 : Int32))] [(.int (c.toInt8.toInt32)), (.int (35 : Int32))])) _
        refine XS.icmpYes X0.here hx rfl (pc0 := 19) (pc' := 25) rfl (hb hby d24_19) rfl (feq hc6).2 (by decide) (by decide) ?_
        refine XS.iinc X0.here hx rfl (hb hby d24_25) rfl (l' := #[.val (.ref d), .val (.int c), .val (.int (0 : Int32)), .val (.int (15 : Int32)), .val (.int (c.toInt8.toInt32)), .val (.int (2 : Int32))]) rfl ?_
        show Steps pg.tables ee below (s₁.setTop (mkF mm 28 #[.val (.ref d), .val (.int c), .val (.int (0 : Int32)), .val (.int (15 : Int32)), .val (.int (c.toInt8.toInt32)), .val (.int (2 : Int32))] [])) _
        refine XS.goto X0.here hx rfl (pc0 := 28) (pc' := 7) rfl (hb hby d24_28) (by decide) (by decide) ?_
        refine XS.iload X0.here hx rfl (hb hby d24_7) rfl ?_
        refine XS.iloadN X0.here hx rfl (hb hby d24_9) rfl ?_
        refine XS.icmpNo X0.here hx rfl (hb hby d24_10) rfl (tlt (by decide : (2 : Int32) < (15 : Int32))).2.1 ?_
        refine XS.aloadN X0.here hx rfl (hb hby d24_13) rfl rfl ?_
        refine XS.iload X0.here hx rfl (hb hby d24_14) rfl ?_
        refine X0.baloadBytes hx (j := (2 : Int32)) (v := (.int (36 : Int32))) (by rw [e0]; exact Ar7.1) (State.isArrayOf_alike hZ.alike Ar7.2.1) Ar7.2.2 hin7 (Has.at Hh7 hin7 rfl) (g := (mkF mm 16 #[.val (.ref d), .val (.int c), .val (.int (0 : Int32)), .val (.int (15 : Int32)), .val (.int (c.toInt8.toInt32)), .val (.int (2 : Int32))] [(.int (2 : Int32)), (.ref d)])) rfl rfl (hb hby d24_16) _ ?_
        refine XS.iload X0.here hx rfl (hb hby d24_17) rfl ?_
        exact k_)
      by_cases hc9 : (36 : Int32) = (c.toInt8.toInt32)
      · refine own_end X0 (v := some (.int (2 : Int32))) (fun h => by rw [Bd.returns] at h; cases h) (by decide) (by decide) (fun fs hr => pre8 _ ?_) ?_
        · show Steps pg.tables ee below (s₁.setTop (mkF mm 19 #[.val (.ref d), .val (.int c), .val (.int (0 : Int32)), .val (.int (15 : Int32)), .val (.int (c.toInt8.toInt32)), .val (.int (2 : Int32))] [(.int (c.toInt8.toInt32)), (.int (36 : Int32))])) _
          refine XS.icmpNo X0.here hx rfl (hb hby d24_19) rfl (teq hc9).2 ?_
          refine XS.iload X0.here hx rfl (hb hby d24_22) rfl ?_
          exact retOut X0 hx Bd.returns rfl (Or.inl ⟨rfl, Or.inl rfl, _, rfl⟩) (hb hby d24_24) hr
        · show QX Z c h0 n0 _ s₁.heap _
          rw [e0]
          exact ⟨_, rfl, N0, rfl, ⟨fun q => absurd q (by decide), fun q => absurd (Or.inr (Or.inr (Or.inl ((own_bc hc0 hc2 (36 : Int32) (by decide) (by decide)).mp hc9)))) q⟩⟩
      · obtain ⟨cl10, Ar10, qk10, Sz10, Nn10, Hh10, Gg10⟩ := id Vd
        have hin10 : ¬ ((3 : Int32) < 0 ∨ cl10.slots.size ≤ ((3 : Int32)).toNatClampNeg) := inb_of Sz10 ⟨by decide, by decide⟩
        have pre11 := fun tg_ (k_ : Steps pg.tables ee below (s₁.setTop (mkF mm 19 #[.val (.ref d), .val (.int c), .val (.int (0 : Int32)), .val (.int (15 : Int32)), .val (.int (c.toInt8.toInt32)), .val (.int (3 : Int32))] [(.int (c.toInt8.toInt32)), (.int (37 : Int32))])) tg_) => pre8 tg_ (by
          show Steps pg.tables ee below (s₁.setTop (mkF mm 19 #[.val (.ref d), .val (.int c), .val (.int (0 : Int32)), .val (.int (15 : Int32)), .val (.int (c.toInt8.toInt32)), .val (.int (2 : Int32))] [(.int (c.toInt8.toInt32)), (.int (36 : Int32))])) _
          refine XS.icmpYes X0.here hx rfl (pc0 := 19) (pc' := 25) rfl (hb hby d24_19) rfl (feq hc9).2 (by decide) (by decide) ?_
          refine XS.iinc X0.here hx rfl (hb hby d24_25) rfl (l' := #[.val (.ref d), .val (.int c), .val (.int (0 : Int32)), .val (.int (15 : Int32)), .val (.int (c.toInt8.toInt32)), .val (.int (3 : Int32))]) rfl ?_
          refine XS.goto X0.here hx rfl (pc0 := 28) (pc' := 7) rfl (hb hby d24_28) (by decide) (by decide) ?_
          refine XS.iload X0.here hx rfl (hb hby d24_7) rfl ?_
          refine XS.iloadN X0.here hx rfl (hb hby d24_9) rfl ?_
          refine XS.icmpNo X0.here hx rfl (hb hby d24_10) rfl (tlt (by decide : (3 : Int32) < (15 : Int32))).2.1 ?_
          refine XS.aloadN X0.here hx rfl (hb hby d24_13) rfl rfl ?_
          refine XS.iload X0.here hx rfl (hb hby d24_14) rfl ?_
          show Steps pg.tables ee below (s₁.setTop (mkF mm 16 #[.val (.ref d), .val (.int c), .val (.int (0 : Int32)), .val (.int (15 : Int32)), .val (.int (c.toInt8.toInt32)), .val (.int (3 : Int32))] [(.int (3 : Int32)), (.ref d)])) _
          refine X0.baloadBytes hx (j := (3 : Int32)) (v := (.int (37 : Int32))) (by rw [e0]; exact Ar10.1) (State.isArrayOf_alike hZ.alike Ar10.2.1) Ar10.2.2 hin10 (Has.at Hh10 hin10 rfl) (g := (mkF mm 16 #[.val (.ref d), .val (.int c), .val (.int (0 : Int32)), .val (.int (15 : Int32)), .val (.int (c.toInt8.toInt32)), .val (.int (3 : Int32))] [(.int (3 : Int32)), (.ref d)])) rfl rfl (hb hby d24_16) _ ?_
          refine XS.iload X0.here hx rfl (hb hby d24_17) rfl ?_
          exact k_)
        by_cases hc12 : (37 : Int32) = (c.toInt8.toInt32)
        · refine own_end X0 (v := some (.int (3 : Int32))) (fun h => by rw [Bd.returns] at h; cases h) (by decide) (by decide) (fun fs hr => pre11 _ ?_) ?_
          · show Steps pg.tables ee below (s₁.setTop (mkF mm 19 #[.val (.ref d), .val (.int c), .val (.int (0 : Int32)), .val (.int (15 : Int32)), .val (.int (c.toInt8.toInt32)), .val (.int (3 : Int32))] [(.int (c.toInt8.toInt32)), (.int (37 : Int32))])) _
            refine XS.icmpNo X0.here hx rfl (hb hby d24_19) rfl (teq hc12).2 ?_
            refine XS.iload X0.here hx rfl (hb hby d24_22) rfl ?_
            exact retOut X0 hx Bd.returns rfl (Or.inl ⟨rfl, Or.inl rfl, _, rfl⟩) (hb hby d24_24) hr
          · show QX Z c h0 n0 _ s₁.heap _
            rw [e0]
            exact ⟨_, rfl, N0, rfl, ⟨fun q => absurd q (by decide), fun q => absurd (Or.inr (Or.inr (Or.inr (Or.inl ((own_bc hc0 hc2 (37 : Int32) (by decide) (by decide)).mp hc12))))) q⟩⟩
        · obtain ⟨cl13, Ar13, qk13, Sz13, Nn13, Hh13, Gg13⟩ := id Vd
          have hin13 : ¬ ((4 : Int32) < 0 ∨ cl13.slots.size ≤ ((4 : Int32)).toNatClampNeg) := inb_of Sz13 ⟨by decide, by decide⟩
          have pre14 := fun tg_ (k_ : Steps pg.tables ee below (s₁.setTop (mkF mm 19 #[.val (.ref d), .val (.int c), .val (.int (0 : Int32)), .val (.int (15 : Int32)), .val (.int (c.toInt8.toInt32)), .val (.int (4 : Int32))] [(.int (c.toInt8.toInt32)), (.int (38 : Int32))])) tg_) => pre11 tg_ (by
            show Steps pg.tables ee below (s₁.setTop (mkF mm 19 #[.val (.ref d), .val (.int c), .val (.int (0 : Int32)), .val (.int (15 : Int32)), .val (.int (c.toInt8.toInt32)), .val (.int (3 : Int32))] [(.int (c.toInt8.toInt32)), (.int (37 : Int32))])) _
            refine XS.icmpYes X0.here hx rfl (pc0 := 19) (pc' := 25) rfl (hb hby d24_19) rfl (feq hc12).2 (by decide) (by decide) ?_
            refine XS.iinc X0.here hx rfl (hb hby d24_25) rfl (l' := #[.val (.ref d), .val (.int c), .val (.int (0 : Int32)), .val (.int (15 : Int32)), .val (.int (c.toInt8.toInt32)), .val (.int (4 : Int32))]) rfl ?_
            refine XS.goto X0.here hx rfl (pc0 := 28) (pc' := 7) rfl (hb hby d24_28) (by decide) (by decide) ?_
            refine XS.iload X0.here hx rfl (hb hby d24_7) rfl ?_
            refine XS.iloadN X0.here hx rfl (hb hby d24_9) rfl ?_
            refine XS.icmpNo X0.here hx rfl (hb hby d24_10) rfl (tlt (by decide : (4 : Int32) < (15 : Int32))).2.1 ?_
            show Steps pg.tables ee below (s₁.setTop (mkF mm 13 #[.val (.ref d), .val (.int c), .val (.int (0 : Int32)), .val (.int (15 : Int32)), .val (.int (c.toInt8.toInt32)), .val (.int (4 : Int32))] [])) _
            refine XS.aloadN X0.here hx rfl (hb hby d24_13) rfl rfl ?_
            refine XS.iload X0.here hx rfl (hb hby d24_14) rfl ?_
            refine X0.baloadBytes hx (j := (4 : Int32)) (v := (.int (38 : Int32))) (by rw [e0]; exact Ar13.1) (State.isArrayOf_alike hZ.alike Ar13.2.1) Ar13.2.2 hin13 (Has.at Hh13 hin13 rfl) (g := (mkF mm 16 #[.val (.ref d), .val (.int c), .val (.int (0 : Int32)), .val (.int (15 : Int32)), .val (.int (c.toInt8.toInt32)), .val (.int (4 : Int32))] [(.int (4 : Int32)), (.ref d)])) rfl rfl (hb hby d24_16) _ ?_
            refine XS.iload X0.here hx rfl (hb hby d24_17) rfl ?_
            exact k_)
          by_cases hc15 : (38 : Int32) = (c.toInt8.toInt32)
          · refine own_end X0 (v := some (.int (4 : Int32))) (fun h => by rw [Bd.returns] at h; cases h) (by decide) (by decide) (fun fs hr => pre14 _ ?_) ?_
            · show Steps pg.tables ee below (s₁.setTop (mkF mm 19 #[.val (.ref d), .val (.int c), .val (.int (0 : Int32)), .val (.int (15 : Int32)), .val (.int (c.toInt8.toInt32)), .val (.int (4 : Int32))] [(.int (c.toInt8.toInt32)), (.int (38 : Int32))])) _
              refine XS.icmpNo X0.here hx rfl (hb hby d24_19) rfl (teq hc15).2 ?_
              refine XS.iload X0.here hx rfl (hb hby d24_22) rfl ?_
              exact retOut X0 hx Bd.returns rfl (Or.inl ⟨rfl, Or.inl rfl, _, rfl⟩) (hb hby d24_24) hr
            · show QX Z c h0 n0 _ s₁.heap _
              rw [e0]
              exact ⟨_, rfl, N0, rfl, ⟨fun q => absurd q (by decide), fun q => absurd (Or.inr (Or.inr (Or.inr (Or.inr (Or.inl ((own_bc hc0 hc2 (38 : Int32) (by decide) (by decide)).mp hc15)))))) q⟩⟩
          · obtain ⟨cl16, Ar16, qk16, Sz16, Nn16, Hh16, Gg16⟩ := id Vd
            have hin16 : ¬ ((5 : Int32) < 0 ∨ cl16.slots.size ≤ ((5 : Int32)).toNatClampNeg) := inb_of Sz16 ⟨by decide, by decide⟩
            have pre17 := fun tg_ (k_ : Steps pg.tables ee below (s₁.setTop (mkF mm 19 #[.val (.ref d), .val (.int c), .val (.int (0 : Int32)), .val (.int (15 : Int32)), .val (.int (c.toInt8.toInt32)), .val (.int (5 : Int32))] [(.int (c.toInt8.toInt32)), (.int (39 : Int32))])) tg_) => pre14 tg_ (by
              show Steps pg.tables ee below (s₁.setTop (mkF mm 19 #[.val (.ref d), .val (.int c), .val (.int (0 : Int32)), .val (.int (15 : Int32)), .val (.int (c.toInt8.toInt32)), .val (.int (4 : Int32))] [(.int (c.toInt8.toInt32)), (.int (38 : Int32))])) _
              refine XS.icmpYes X0.here hx rfl (pc0 := 19) (pc' := 25) rfl (hb hby d24_19) rfl (feq hc15).2 (by decide) (by decide) ?_
              refine XS.iinc X0.here hx rfl (hb hby d24_25) rfl (l' := #[.val (.ref d), .val (.int c), .val (.int (0 : Int32)), .val (.int (15 : Int32)), .val (.int (c.toInt8.toInt32)), .val (.int (5 : Int32))]) rfl ?_
              refine XS.goto X0.here hx rfl (pc0 := 28) (pc' := 7) rfl (hb hby d24_28) (by decide) (by decide) ?_
              refine XS.iload X0.here hx rfl (hb hby d24_7) rfl ?_
              show Steps pg.tables ee below (s₁.setTop (mkF mm 9 #[.val (.ref d), .val (.int c), .val (.int (0 : Int32)), .val (.int (15 : Int32)), .val (.int (c.toInt8.toInt32)), .val (.int (5 : Int32))] [(.int (5 : Int32))])) _
              refine XS.iloadN X0.here hx rfl (hb hby d24_9) rfl ?_
              refine XS.icmpNo X0.here hx rfl (hb hby d24_10) rfl (tlt (by decide : (5 : Int32) < (15 : Int32))).2.1 ?_
              refine XS.aloadN X0.here hx rfl (hb hby d24_13) rfl rfl ?_
              refine XS.iload X0.here hx rfl (hb hby d24_14) rfl ?_
              refine X0.baloadBytes hx (j := (5 : Int32)) (v := (.int (39 : Int32))) (by rw [e0]; exact Ar16.1) (State.isArrayOf_alike hZ.alike Ar16.2.1) Ar16.2.2 hin16 (Has.at Hh16 hin16 rfl) (g := (mkF mm 16 #[.val (.ref d), .val (.int c), .val (.int (0 : Int32)), .val (.int (15 : Int32)), .val (.int (c.toInt8.toInt32)), .val (.int (5 : Int32))] [(.int (5 : Int32)), (.ref d)])) rfl rfl (hb hby d24_16) _ ?_
              refine XS.iload X0.here hx rfl (hb hby d24_17) rfl ?_
              exact k_)
            by_cases hc18 : (39 : Int32) = (c.toInt8.toInt32)
            · refine own_end X0 (v := some (.int (5 : Int32))) (fun h => by rw [Bd.returns] at h; cases h) (by decide) (by decide) (fun fs hr => pre17 _ ?_) ?_
              · show Steps pg.tables ee below (s₁.setTop (mkF mm 19 #[.val (.ref d), .val (.int c), .val (.int (0 : Int32)), .val (.int (15 : Int32)), .val (.int (c.toInt8.toInt32)), .val (.int (5 : Int32))] [(.int (c.toInt8.toInt32)), (.int (39 : Int32))])) _
                refine XS.icmpNo X0.here hx rfl (hb hby d24_19) rfl (teq hc18).2 ?_
                refine XS.iload X0.here hx rfl (hb hby d24_22) rfl ?_
                show Steps pg.tables ee below (s₁.setTop (mkF mm 24 #[.val (.ref d), .val (.int c), .val (.int (0 : Int32)), .val (.int (15 : Int32)), .val (.int (c.toInt8.toInt32)), .val (.int (5 : Int32))] [(.int (5 : Int32))])) _
                exact retOut X0 hx Bd.returns rfl (Or.inl ⟨rfl, Or.inl rfl, _, rfl⟩) (hb hby d24_24) hr
              · show QX Z c h0 n0 _ s₁.heap _
                rw [e0]
                exact ⟨_, rfl, N0, rfl, ⟨fun q => absurd q (by decide), fun q => absurd (Or.inr (Or.inr (Or.inr (Or.inr (Or.inr (Or.inl ((own_bc hc0 hc2 (39 : Int32) (by decide) (by decide)).mp hc18))))))) q⟩⟩
            · obtain ⟨cl19, Ar19, qk19, Sz19, Nn19, Hh19, Gg19⟩ := id Vd
              have hin19 : ¬ ((6 : Int32) < 0 ∨ cl19.slots.size ≤ ((6 : Int32)).toNatClampNeg) := inb_of Sz19 ⟨by decide, by decide⟩
              have pre20 := fun tg_ (k_ : Steps pg.tables ee below (s₁.setTop (mkF mm 19 #[.val (.ref d), .val (.int c), .val (.int (0 : Int32)), .val (.int (15 : Int32)), .val (.int (c.toInt8.toInt32)), .val (.int (6 : Int32))] [(.int (c.toInt8.toInt32)), (.int (42 : Int32))])) tg_) => pre17 tg_ (by
                show Steps pg.tables ee below (s₁.setTop (mkF mm 19 #[.val (.ref d), .val (.int c), .val (.int (0 : Int32)), .val (.int (15 : Int32)), .val (.int (c.toInt8.toInt32)), .val (.int (5 : Int32))] [(.int (c.toInt8.toInt32)), (.int (39 : Int32))])) _
                refine XS.icmpYes X0.here hx rfl (pc0 := 19) (pc' := 25) rfl (hb hby d24_19) rfl (feq hc18).2 (by decide) (by decide) ?_
                refine XS.iinc X0.here hx rfl (hb hby d24_25) rfl (l' := #[.val (.ref d), .val (.int c), .val (.int (0 : Int32)), .val (.int (15 : Int32)), .val (.int (c.toInt8.toInt32)), .val (.int (6 : Int32))]) rfl ?_
                show Steps pg.tables ee below (s₁.setTop (mkF mm 28 #[.val (.ref d), .val (.int c), .val (.int (0 : Int32)), .val (.int (15 : Int32)), .val (.int (c.toInt8.toInt32)), .val (.int (6 : Int32))] [])) _
                refine XS.goto X0.here hx rfl (pc0 := 28) (pc' := 7) rfl (hb hby d24_28) (by decide) (by decide) ?_
                refine XS.iload X0.here hx rfl (hb hby d24_7) rfl ?_
                refine XS.iloadN X0.here hx rfl (hb hby d24_9) rfl ?_
                refine XS.icmpNo X0.here hx rfl (hb hby d24_10) rfl (tlt (by decide : (6 : Int32) < (15 : Int32))).2.1 ?_
                refine XS.aloadN X0.here hx rfl (hb hby d24_13) rfl rfl ?_
                refine XS.iload X0.here hx rfl (hb hby d24_14) rfl ?_
                refine X0.baloadBytes hx (j := (6 : Int32)) (v := (.int (42 : Int32))) (by rw [e0]; exact Ar19.1) (State.isArrayOf_alike hZ.alike Ar19.2.1) Ar19.2.2 hin19 (Has.at Hh19 hin19 rfl) (g := (mkF mm 16 #[.val (.ref d), .val (.int c), .val (.int (0 : Int32)), .val (.int (15 : Int32)), .val (.int (c.toInt8.toInt32)), .val (.int (6 : Int32))] [(.int (6 : Int32)), (.ref d)])) rfl rfl (hb hby d24_16) _ ?_
                refine XS.iload X0.here hx rfl (hb hby d24_17) rfl ?_
                exact k_)
              by_cases hc21 : (42 : Int32) = (c.toInt8.toInt32)
              · refine own_end X0 (v := some (.int (6 : Int32))) (fun h => by rw [Bd.returns] at h; cases h) (by decide) (by decide) (fun fs hr => pre20 _ ?_) ?_
                · show Steps pg.tables ee below (s₁.setTop (mkF mm 19 #[.val (.ref d), .val (.int c), .val (.int (0 : Int32)), .val (.int (15 : Int32)), .val (.int (c.toInt8.toInt32)), .val (.int (6 : Int32))] [(.int (c.toInt8.toInt32)), (.int (42 : Int32))])) _
                  refine XS.icmpNo X0.here hx rfl (hb hby d24_19) rfl (teq hc21).2 ?_
                  refine XS.iload X0.here hx rfl (hb hby d24_22) rfl ?_
                  exact retOut X0 hx Bd.returns rfl (Or.inl ⟨rfl, Or.inl rfl, _, rfl⟩) (hb hby d24_24) hr
                · show QX Z c h0 n0 _ s₁.heap _
                  rw [e0]
                  exact ⟨_, rfl, N0, rfl, ⟨fun q => absurd q (by decide), fun q => absurd (Or.inr (Or.inr (Or.inr (Or.inr (Or.inr (Or.inr (Or.inl ((own_bc hc0 hc2 (42 : Int32) (by decide) (by decide)).mp hc21)))))))) q⟩⟩
              · obtain ⟨cl22, Ar22, qk22, Sz22, Nn22, Hh22, Gg22⟩ := id Vd
                have hin22 : ¬ ((7 : Int32) < 0 ∨ cl22.slots.size ≤ ((7 : Int32)).toNatClampNeg) := inb_of Sz22 ⟨by decide, by decide⟩
                have pre23 := fun tg_ (k_ : Steps pg.tables ee below (s₁.setTop (mkF mm 19 #[.val (.ref d), .val (.int c), .val (.int (0 : Int32)), .val (.int (15 : Int32)), .val (.int (c.toInt8.toInt32)), .val (.int (7 : Int32))] [(.int (c.toInt8.toInt32)), (.int (43 : Int32))])) tg_) => pre20 tg_ (by
                  show Steps pg.tables ee below (s₁.setTop (mkF mm 19 #[.val (.ref d), .val (.int c), .val (.int (0 : Int32)), .val (.int (15 : Int32)), .val (.int (c.toInt8.toInt32)), .val (.int (6 : Int32))] [(.int (c.toInt8.toInt32)), (.int (42 : Int32))])) _
                  refine XS.icmpYes X0.here hx rfl (pc0 := 19) (pc' := 25) rfl (hb hby d24_19) rfl (feq hc21).2 (by decide) (by decide) ?_
                  refine XS.iinc X0.here hx rfl (hb hby d24_25) rfl (l' := #[.val (.ref d), .val (.int c), .val (.int (0 : Int32)), .val (.int (15 : Int32)), .val (.int (c.toInt8.toInt32)), .val (.int (7 : Int32))]) rfl ?_
                  refine XS.goto X0.here hx rfl (pc0 := 28) (pc' := 7) rfl (hb hby d24_28) (by decide) (by decide) ?_
                  refine XS.iload X0.here hx rfl (hb hby d24_7) rfl ?_
                  refine XS.iloadN X0.here hx rfl (hb hby d24_9) rfl ?_
                  refine XS.icmpNo X0.here hx rfl (hb hby d24_10) rfl (tlt (by decide : (7 : Int32) < (15 : Int32))).2.1 ?_
                  refine XS.aloadN X0.here hx rfl (hb hby d24_13) rfl rfl ?_
                  refine XS.iload X0.here hx rfl (hb hby d24_14) rfl ?_
                  show Steps pg.tables ee below (s₁.setTop (mkF mm 16 #[.val (.ref d), .val (.int c), .val (.int (0 : Int32)), .val (.int (15 : Int32)), .val (.int (c.toInt8.toInt32)), .val (.int (7 : Int32))] [(.int (7 : Int32)), (.ref d)])) _
                  refine X0.baloadBytes hx (j := (7 : Int32)) (v := (.int (43 : Int32))) (by rw [e0]; exact Ar22.1) (State.isArrayOf_alike hZ.alike Ar22.2.1) Ar22.2.2 hin22 (Has.at Hh22 hin22 rfl) (g := (mkF mm 16 #[.val (.ref d), .val (.int c), .val (.int (0 : Int32)), .val (.int (15 : Int32)), .val (.int (c.toInt8.toInt32)), .val (.int (7 : Int32))] [(.int (7 : Int32)), (.ref d)])) rfl rfl (hb hby d24_16) _ ?_
                  refine XS.iload X0.here hx rfl (hb hby d24_17) rfl ?_
                  exact k_)
                by_cases hc24 : (43 : Int32) = (c.toInt8.toInt32)
                · refine own_end X0 (v := some (.int (7 : Int32))) (fun h => by rw [Bd.returns] at h; cases h) (by decide) (by decide) (fun fs hr => pre23 _ ?_) ?_
                  · show Steps pg.tables ee below (s₁.setTop (mkF mm 19 #[.val (.ref d), .val (.int c), .val (.int (0 : Int32)), .val (.int (15 : Int32)), .val (.int (c.toInt8.toInt32)), .val (.int (7 : Int32))] [(.int (c.toInt8.toInt32)), (.int (43 : Int32))])) _
                    refine XS.icmpNo X0.here hx rfl (hb hby d24_19) rfl (teq hc24).2 ?_
                    refine XS.iload X0.here hx rfl (hb hby d24_22) rfl ?_
                    exact retOut X0 hx Bd.returns rfl (Or.inl ⟨rfl, Or.inl rfl, _, rfl⟩) (hb hby d24_24) hr
                  · show QX Z c h0 n0 _ s₁.heap _
                    rw [e0]
                    exact ⟨_, rfl, N0, rfl, ⟨fun q => absurd q (by decide), fun q => absurd (Or.inr (Or.inr (Or.inr (Or.inr (Or.inr (Or.inr (Or.inr (Or.inl ((own_bc hc0 hc2 (43 : Int32) (by decide) (by decide)).mp hc24))))))))) q⟩⟩
                · obtain ⟨cl25, Ar25, qk25, Sz25, Nn25, Hh25, Gg25⟩ := id Vd
                  have hin25 : ¬ ((8 : Int32) < 0 ∨ cl25.slots.size ≤ ((8 : Int32)).toNatClampNeg) := inb_of Sz25 ⟨by decide, by decide⟩
                  have pre26 := fun tg_ (k_ : Steps pg.tables ee below (s₁.setTop (mkF mm 19 #[.val (.ref d), .val (.int c), .val (.int (0 : Int32)), .val (.int (15 : Int32)), .val (.int (c.toInt8.toInt32)), .val (.int (8 : Int32))] [(.int (c.toInt8.toInt32)), (.int (45 : Int32))])) tg_) => pre23 tg_ (by
                    show Steps pg.tables ee below (s₁.setTop (mkF mm 19 #[.val (.ref d), .val (.int c), .val (.int (0 : Int32)), .val (.int (15 : Int32)), .val (.int (c.toInt8.toInt32)), .val (.int (7 : Int32))] [(.int (c.toInt8.toInt32)), (.int (43 : Int32))])) _
                    refine XS.icmpYes X0.here hx rfl (pc0 := 19) (pc' := 25) rfl (hb hby d24_19) rfl (feq hc24).2 (by decide) (by decide) ?_
                    refine XS.iinc X0.here hx rfl (hb hby d24_25) rfl (l' := #[.val (.ref d), .val (.int c), .val (.int (0 : Int32)), .val (.int (15 : Int32)), .val (.int (c.toInt8.toInt32)), .val (.int (8 : Int32))]) rfl ?_
                    refine XS.goto X0.here hx rfl (pc0 := 28) (pc' := 7) rfl (hb hby d24_28) (by decide) (by decide) ?_
                    refine XS.iload X0.here hx rfl (hb hby d24_7) rfl ?_
                    refine XS.iloadN X0.here hx rfl (hb hby d24_9) rfl ?_
                    refine XS.icmpNo X0.here hx rfl (hb hby d24_10) rfl (tlt (by decide : (8 : Int32) < (15 : Int32))).2.1 ?_
                    show Steps pg.tables ee below (s₁.setTop (mkF mm 13 #[.val (.ref d), .val (.int c), .val (.int (0 : Int32)), .val (.int (15 : Int32)), .val (.int (c.toInt8.toInt32)), .val (.int (8 : Int32))] [])) _
                    refine XS.aloadN X0.here hx rfl (hb hby d24_13) rfl rfl ?_
                    refine XS.iload X0.here hx rfl (hb hby d24_14) rfl ?_
                    refine X0.baloadBytes hx (j := (8 : Int32)) (v := (.int (45 : Int32))) (by rw [e0]; exact Ar25.1) (State.isArrayOf_alike hZ.alike Ar25.2.1) Ar25.2.2 hin25 (Has.at Hh25 hin25 rfl) (g := (mkF mm 16 #[.val (.ref d), .val (.int c), .val (.int (0 : Int32)), .val (.int (15 : Int32)), .val (.int (c.toInt8.toInt32)), .val (.int (8 : Int32))] [(.int (8 : Int32)), (.ref d)])) rfl rfl (hb hby d24_16) _ ?_
                    refine XS.iload X0.here hx rfl (hb hby d24_17) rfl ?_
                    exact k_)
                  by_cases hc27 : (45 : Int32) = (c.toInt8.toInt32)
                  · refine own_end X0 (v := some (.int (8 : Int32))) (fun h => by rw [Bd.returns] at h; cases h) (by decide) (by decide) (fun fs hr => pre26 _ ?_) ?_
                    · show Steps pg.tables ee below (s₁.setTop (mkF mm 19 #[.val (.ref d), .val (.int c), .val (.int (0 : Int32)), .val (.int (15 : Int32)), .val (.int (c.toInt8.toInt32)), .val (.int (8 : Int32))] [(.int (c.toInt8.toInt32)), (.int (45 : Int32))])) _
                      refine XS.icmpNo X0.here hx rfl (hb hby d24_19) rfl (teq hc27).2 ?_
                      refine XS.iload X0.here hx rfl (hb hby d24_22) rfl ?_
                      exact retOut X0 hx Bd.returns rfl (Or.inl ⟨rfl, Or.inl rfl, _, rfl⟩) (hb hby d24_24) hr
                    · show QX Z c h0 n0 _ s₁.heap _
                      rw [e0]
                      exact ⟨_, rfl, N0, rfl, ⟨fun q => absurd q (by decide), fun q => absurd (Or.inr (Or.inr (Or.inr (Or.inr (Or.inr (Or.inr (Or.inr (Or.inr (Or.inl ((own_bc hc0 hc2 (45 : Int32) (by decide) (by decide)).mp hc27)))))))))) q⟩⟩
                  · obtain ⟨cl28, Ar28, qk28, Sz28, Nn28, Hh28, Gg28⟩ := id Vd
                    have hin28 : ¬ ((9 : Int32) < 0 ∨ cl28.slots.size ≤ ((9 : Int32)).toNatClampNeg) := inb_of Sz28 ⟨by decide, by decide⟩
                    have pre29 := fun tg_ (k_ : Steps pg.tables ee below (s₁.setTop (mkF mm 19 #[.val (.ref d), .val (.int c), .val (.int (0 : Int32)), .val (.int (15 : Int32)), .val (.int (c.toInt8.toInt32)), .val (.int (9 : Int32))] [(.int (c.toInt8.toInt32)), (.int (46 : Int32))])) tg_) => pre26 tg_ (by
                      show Steps pg.tables ee below (s₁.setTop (mkF mm 19 #[.val (.ref d), .val (.int c), .val (.int (0 : Int32)), .val (.int (15 : Int32)), .val (.int (c.toInt8.toInt32)), .val (.int (8 : Int32))] [(.int (c.toInt8.toInt32)), (.int (45 : Int32))])) _
                      refine XS.icmpYes X0.here hx rfl (pc0 := 19) (pc' := 25) rfl (hb hby d24_19) rfl (feq hc27).2 (by decide) (by decide) ?_
                      refine XS.iinc X0.here hx rfl (hb hby d24_25) rfl (l' := #[.val (.ref d), .val (.int c), .val (.int (0 : Int32)), .val (.int (15 : Int32)), .val (.int (c.toInt8.toInt32)), .val (.int (9 : Int32))]) rfl ?_
                      refine XS.goto X0.here hx rfl (pc0 := 28) (pc' := 7) rfl (hb hby d24_28) (by decide) (by decide) ?_
                      refine XS.iload X0.here hx rfl (hb hby d24_7) rfl ?_
                      show Steps pg.tables ee below (s₁.setTop (mkF mm 9 #[.val (.ref d), .val (.int c), .val (.int (0 : Int32)), .val (.int (15 : Int32)), .val (.int (c.toInt8.toInt32)), .val (.int (9 : Int32))] [(.int (9 : Int32))])) _
                      refine XS.iloadN X0.here hx rfl (hb hby d24_9) rfl ?_
                      refine XS.icmpNo X0.here hx rfl (hb hby d24_10) rfl (tlt (by decide : (9 : Int32) < (15 : Int32))).2.1 ?_
                      refine XS.aloadN X0.here hx rfl (hb hby d24_13) rfl rfl ?_
                      refine XS.iload X0.here hx rfl (hb hby d24_14) rfl ?_
                      refine X0.baloadBytes hx (j := (9 : Int32)) (v := (.int (46 : Int32))) (by rw [e0]; exact Ar28.1) (State.isArrayOf_alike hZ.alike Ar28.2.1) Ar28.2.2 hin28 (Has.at Hh28 hin28 rfl) (g := (mkF mm 16 #[.val (.ref d), .val (.int c), .val (.int (0 : Int32)), .val (.int (15 : Int32)), .val (.int (c.toInt8.toInt32)), .val (.int (9 : Int32))] [(.int (9 : Int32)), (.ref d)])) rfl rfl (hb hby d24_16) _ ?_
                      refine XS.iload X0.here hx rfl (hb hby d24_17) rfl ?_
                      exact k_)
                    by_cases hc30 : (46 : Int32) = (c.toInt8.toInt32)
                    · refine own_end X0 (v := some (.int (9 : Int32))) (fun h => by rw [Bd.returns] at h; cases h) (by decide) (by decide) (fun fs hr => pre29 _ ?_) ?_
                      · show Steps pg.tables ee below (s₁.setTop (mkF mm 19 #[.val (.ref d), .val (.int c), .val (.int (0 : Int32)), .val (.int (15 : Int32)), .val (.int (c.toInt8.toInt32)), .val (.int (9 : Int32))] [(.int (c.toInt8.toInt32)), (.int (46 : Int32))])) _
                        refine XS.icmpNo X0.here hx rfl (hb hby d24_19) rfl (teq hc30).2 ?_
                        refine XS.iload X0.here hx rfl (hb hby d24_22) rfl ?_
                        show Steps pg.tables ee below (s₁.setTop (mkF mm 24 #[.val (.ref d), .val (.int c), .val (.int (0 : Int32)), .val (.int (15 : Int32)), .val (.int (c.toInt8.toInt32)), .val (.int (9 : Int32))] [(.int (9 : Int32))])) _
                        exact retOut X0 hx Bd.returns rfl (Or.inl ⟨rfl, Or.inl rfl, _, rfl⟩) (hb hby d24_24) hr
                      · show QX Z c h0 n0 _ s₁.heap _
                        rw [e0]
                        exact ⟨_, rfl, N0, rfl, ⟨fun q => absurd q (by decide), fun q => absurd (Or.inr (Or.inr (Or.inr (Or.inr (Or.inr (Or.inr (Or.inr (Or.inr (Or.inr (Or.inl ((own_bc hc0 hc2 (46 : Int32) (by decide) (by decide)).mp hc30))))))))))) q⟩⟩
                    · obtain ⟨cl31, Ar31, qk31, Sz31, Nn31, Hh31, Gg31⟩ := id Vd
                      have hin31 : ¬ ((10 : Int32) < 0 ∨ cl31.slots.size ≤ ((10 : Int32)).toNatClampNeg) := inb_of Sz31 ⟨by decide, by decide⟩
                      have pre32 := fun tg_ (k_ : Steps pg.tables ee below (s₁.setTop (mkF mm 19 #[.val (.ref d), .val (.int c), .val (.int (0 : Int32)), .val (.int (15 : Int32)), .val (.int (c.toInt8.toInt32)), .val (.int (10 : Int32))] [(.int (c.toInt8.toInt32)), (.int (94 : Int32))])) tg_) => pre29 tg_ (by
                        show Steps pg.tables ee below (s₁.setTop (mkF mm 19 #[.val (.ref d), .val (.int c), .val (.int (0 : Int32)), .val (.int (15 : Int32)), .val (.int (c.toInt8.toInt32)), .val (.int (9 : Int32))] [(.int (c.toInt8.toInt32)), (.int (46 : Int32))])) _
                        refine XS.icmpYes X0.here hx rfl (pc0 := 19) (pc' := 25) rfl (hb hby d24_19) rfl (feq hc30).2 (by decide) (by decide) ?_
                        refine XS.iinc X0.here hx rfl (hb hby d24_25) rfl (l' := #[.val (.ref d), .val (.int c), .val (.int (0 : Int32)), .val (.int (15 : Int32)), .val (.int (c.toInt8.toInt32)), .val (.int (10 : Int32))]) rfl ?_
                        show Steps pg.tables ee below (s₁.setTop (mkF mm 28 #[.val (.ref d), .val (.int c), .val (.int (0 : Int32)), .val (.int (15 : Int32)), .val (.int (c.toInt8.toInt32)), .val (.int (10 : Int32))] [])) _
                        refine XS.goto X0.here hx rfl (pc0 := 28) (pc' := 7) rfl (hb hby d24_28) (by decide) (by decide) ?_
                        refine XS.iload X0.here hx rfl (hb hby d24_7) rfl ?_
                        refine XS.iloadN X0.here hx rfl (hb hby d24_9) rfl ?_
                        refine XS.icmpNo X0.here hx rfl (hb hby d24_10) rfl (tlt (by decide : (10 : Int32) < (15 : Int32))).2.1 ?_
                        refine XS.aloadN X0.here hx rfl (hb hby d24_13) rfl rfl ?_
                        refine XS.iload X0.here hx rfl (hb hby d24_14) rfl ?_
                        refine X0.baloadBytes hx (j := (10 : Int32)) (v := (.int (94 : Int32))) (by rw [e0]; exact Ar31.1) (State.isArrayOf_alike hZ.alike Ar31.2.1) Ar31.2.2 hin31 (Has.at Hh31 hin31 rfl) (g := (mkF mm 16 #[.val (.ref d), .val (.int c), .val (.int (0 : Int32)), .val (.int (15 : Int32)), .val (.int (c.toInt8.toInt32)), .val (.int (10 : Int32))] [(.int (10 : Int32)), (.ref d)])) rfl rfl (hb hby d24_16) _ ?_
                        refine XS.iload X0.here hx rfl (hb hby d24_17) rfl ?_
                        exact k_)
                      by_cases hc33 : (94 : Int32) = (c.toInt8.toInt32)
                      · refine own_end X0 (v := some (.int (10 : Int32))) (fun h => by rw [Bd.returns] at h; cases h) (by decide) (by decide) (fun fs hr => pre32 _ ?_) ?_
                        · show Steps pg.tables ee below (s₁.setTop (mkF mm 19 #[.val (.ref d), .val (.int c), .val (.int (0 : Int32)), .val (.int (15 : Int32)), .val (.int (c.toInt8.toInt32)), .val (.int (10 : Int32))] [(.int (c.toInt8.toInt32)), (.int (94 : Int32))])) _
                          refine XS.icmpNo X0.here hx rfl (hb hby d24_19) rfl (teq hc33).2 ?_
                          refine XS.iload X0.here hx rfl (hb hby d24_22) rfl ?_
                          exact retOut X0 hx Bd.returns rfl (Or.inl ⟨rfl, Or.inl rfl, _, rfl⟩) (hb hby d24_24) hr
                        · show QX Z c h0 n0 _ s₁.heap _
                          rw [e0]
                          exact ⟨_, rfl, N0, rfl, ⟨fun q => absurd q (by decide), fun q => absurd (Or.inr (Or.inr (Or.inr (Or.inr (Or.inr (Or.inr (Or.inr (Or.inr (Or.inr (Or.inr (Or.inl ((own_bc hc0 hc2 (94 : Int32) (by decide) (by decide)).mp hc33)))))))))))) q⟩⟩
                      · obtain ⟨cl34, Ar34, qk34, Sz34, Nn34, Hh34, Gg34⟩ := id Vd
                        have hin34 : ¬ ((11 : Int32) < 0 ∨ cl34.slots.size ≤ ((11 : Int32)).toNatClampNeg) := inb_of Sz34 ⟨by decide, by decide⟩
                        have pre35 := fun tg_ (k_ : Steps pg.tables ee below (s₁.setTop (mkF mm 19 #[.val (.ref d), .val (.int c), .val (.int (0 : Int32)), .val (.int (15 : Int32)), .val (.int (c.toInt8.toInt32)), .val (.int (11 : Int32))] [(.int (c.toInt8.toInt32)), (.int (95 : Int32))])) tg_) => pre32 tg_ (by
                          show Steps pg.tables ee below (s₁.setTop (mkF mm 19 #[.val (.ref d), .val (.int c), .val (.int (0 : Int32)), .val (.int (15 : Int32)), .val (.int (c.toInt8.toInt32)), .val (.int (10 : Int32))] [(.int (c.toInt8.toInt32)), (.int (94 : Int32))])) _
                          refine XS.icmpYes X0.here hx rfl (pc0 := 19) (pc' := 25) rfl (hb hby d24_19) rfl (feq hc33).2 (by decide) (by decide) ?_
                          refine XS.iinc X0.here hx rfl (hb hby d24_25) rfl (l' := #[.val (.ref d), .val (.int c), .val (.int (0 : Int32)), .val (.int (15 : Int32)), .val (.int (c.toInt8.toInt32)), .val (.int (11 : Int32))]) rfl ?_
                          refine XS.goto X0.here hx rfl (pc0 := 28) (pc' := 7) rfl (hb hby d24_28) (by decide) (by decide) ?_
                          refine XS.iload X0.here hx rfl (hb hby d24_7) rfl ?_
                          refine XS.iloadN X0.here hx rfl (hb hby d24_9) rfl ?_
                          refine XS.icmpNo X0.here hx rfl (hb hby d24_10) rfl (tlt (by decide : (11 : Int32) < (15 : Int32))).2.1 ?_
                          refine XS.aloadN X0.here hx rfl (hb hby d24_13) rfl rfl ?_
                          refine XS.iload X0.here hx rfl (hb hby d24_14) rfl ?_
                          show Steps pg.tables ee below (s₁.setTop (mkF mm 16 #[.val (.ref d), .val (.int c), .val (.int (0 : Int32)), .val (.int (15 : Int32)), .val (.int (c.toInt8.toInt32)), .val (.int (11 : Int32))] [(.int (11 : Int32)), (.ref d)])) _
                          refine X0.baloadBytes hx (j := (11 : Int32)) (v := (.int (95 : Int32))) (by rw [e0]; exact Ar34.1) (State.isArrayOf_alike hZ.alike Ar34.2.1) Ar34.2.2 hin34 (Has.at Hh34 hin34 rfl) (g := (mkF mm 16 #[.val (.ref d), .val (.int c), .val (.int (0 : Int32)), .val (.int (15 : Int32)), .val (.int (c.toInt8.toInt32)), .val (.int (11 : Int32))] [(.int (11 : Int32)), (.ref d)])) rfl rfl (hb hby d24_16) _ ?_
                          refine XS.iload X0.here hx rfl (hb hby d24_17) rfl ?_
                          exact k_)
                        by_cases hc36 : (95 : Int32) = (c.toInt8.toInt32)
                        · refine own_end X0 (v := some (.int (11 : Int32))) (fun h => by rw [Bd.returns] at h; cases h) (by decide) (by decide) (fun fs hr => pre35 _ ?_) ?_
                          · show Steps pg.tables ee below (s₁.setTop (mkF mm 19 #[.val (.ref d), .val (.int c), .val (.int (0 : Int32)), .val (.int (15 : Int32)), .val (.int (c.toInt8.toInt32)), .val (.int (11 : Int32))] [(.int (c.toInt8.toInt32)), (.int (95 : Int32))])) _
                            refine XS.icmpNo X0.here hx rfl (hb hby d24_19) rfl (teq hc36).2 ?_
                            refine XS.iload X0.here hx rfl (hb hby d24_22) rfl ?_
                            exact retOut X0 hx Bd.returns rfl (Or.inl ⟨rfl, Or.inl rfl, _, rfl⟩) (hb hby d24_24) hr
                          · show QX Z c h0 n0 _ s₁.heap _
                            rw [e0]
                            exact ⟨_, rfl, N0, rfl, ⟨fun q => absurd q (by decide), fun q => absurd (Or.inr (Or.inr (Or.inr (Or.inr (Or.inr (Or.inr (Or.inr (Or.inr (Or.inr (Or.inr (Or.inr (Or.inl ((own_bc hc0 hc2 (95 : Int32) (by decide) (by decide)).mp hc36))))))))))))) q⟩⟩
                        · obtain ⟨cl37, Ar37, qk37, Sz37, Nn37, Hh37, Gg37⟩ := id Vd
                          have hin37 : ¬ ((12 : Int32) < 0 ∨ cl37.slots.size ≤ ((12 : Int32)).toNatClampNeg) := inb_of Sz37 ⟨by decide, by decide⟩
                          have pre38 := fun tg_ (k_ : Steps pg.tables ee below (s₁.setTop (mkF mm 19 #[.val (.ref d), .val (.int c), .val (.int (0 : Int32)), .val (.int (15 : Int32)), .val (.int (c.toInt8.toInt32)), .val (.int (12 : Int32))] [(.int (c.toInt8.toInt32)), (.int (96 : Int32))])) tg_) => pre35 tg_ (by
                            show Steps pg.tables ee below (s₁.setTop (mkF mm 19 #[.val (.ref d), .val (.int c), .val (.int (0 : Int32)), .val (.int (15 : Int32)), .val (.int (c.toInt8.toInt32)), .val (.int (11 : Int32))] [(.int (c.toInt8.toInt32)), (.int (95 : Int32))])) _
                            refine XS.icmpYes X0.here hx rfl (pc0 := 19) (pc' := 25) rfl (hb hby d24_19) rfl (feq hc36).2 (by decide) (by decide) ?_
                            refine XS.iinc X0.here hx rfl (hb hby d24_25) rfl (l' := #[.val (.ref d), .val (.int c), .val (.int (0 : Int32)), .val (.int (15 : Int32)), .val (.int (c.toInt8.toInt32)), .val (.int (12 : Int32))]) rfl ?_
                            refine XS.goto X0.here hx rfl (pc0 := 28) (pc' := 7) rfl (hb hby d24_28) (by decide) (by decide) ?_
                            refine XS.iload X0.here hx rfl (hb hby d24_7) rfl ?_
                            refine XS.iloadN X0.here hx rfl (hb hby d24_9) rfl ?_
                            refine XS.icmpNo X0.here hx rfl (hb hby d24_10) rfl (tlt (by decide : (12 : Int32) < (15 : Int32))).2.1 ?_
                            show Steps pg.tables ee below (s₁.setTop (mkF mm 13 #[.val (.ref d), .val (.int c), .val (.int (0 : Int32)), .val (.int (15 : Int32)), .val (.int (c.toInt8.toInt32)), .val (.int (12 : Int32))] [])) _
                            refine XS.aloadN X0.here hx rfl (hb hby d24_13) rfl rfl ?_
                            refine XS.iload X0.here hx rfl (hb hby d24_14) rfl ?_
                            refine X0.baloadBytes hx (j := (12 : Int32)) (v := (.int (96 : Int32))) (by rw [e0]; exact Ar37.1) (State.isArrayOf_alike hZ.alike Ar37.2.1) Ar37.2.2 hin37 (Has.at Hh37 hin37 rfl) (g := (mkF mm 16 #[.val (.ref d), .val (.int c), .val (.int (0 : Int32)), .val (.int (15 : Int32)), .val (.int (c.toInt8.toInt32)), .val (.int (12 : Int32))] [(.int (12 : Int32)), (.ref d)])) rfl rfl (hb hby d24_16) _ ?_
                            refine XS.iload X0.here hx rfl (hb hby d24_17) rfl ?_
                            exact k_)
                          by_cases hc39 : (96 : Int32) = (c.toInt8.toInt32)
                          · refine own_end X0 (v := some (.int (12 : Int32))) (fun h => by rw [Bd.returns] at h; cases h) (by decide) (by decide) (fun fs hr => pre38 _ ?_) ?_
                            · show Steps pg.tables ee below (s₁.setTop (mkF mm 19 #[.val (.ref d), .val (.int c), .val (.int (0 : Int32)), .val (.int (15 : Int32)), .val (.int (c.toInt8.toInt32)), .val (.int (12 : Int32))] [(.int (c.toInt8.toInt32)), (.int (96 : Int32))])) _
                              refine XS.icmpNo X0.here hx rfl (hb hby d24_19) rfl (teq hc39).2 ?_
                              refine XS.iload X0.here hx rfl (hb hby d24_22) rfl ?_
                              exact retOut X0 hx Bd.returns rfl (Or.inl ⟨rfl, Or.inl rfl, _, rfl⟩) (hb hby d24_24) hr
                            · show QX Z c h0 n0 _ s₁.heap _
                              rw [e0]
                              exact ⟨_, rfl, N0, rfl, ⟨fun q => absurd q (by decide), fun q => absurd (Or.inr (Or.inr (Or.inr (Or.inr (Or.inr (Or.inr (Or.inr (Or.inr (Or.inr (Or.inr (Or.inr (Or.inr (Or.inl ((own_bc hc0 hc2 (96 : Int32) (by decide) (by decide)).mp hc39)))))))))))))) q⟩⟩
                          · obtain ⟨cl40, Ar40, qk40, Sz40, Nn40, Hh40, Gg40⟩ := id Vd
                            have hin40 : ¬ ((13 : Int32) < 0 ∨ cl40.slots.size ≤ ((13 : Int32)).toNatClampNeg) := inb_of Sz40 ⟨by decide, by decide⟩
                            have pre41 := fun tg_ (k_ : Steps pg.tables ee below (s₁.setTop (mkF mm 19 #[.val (.ref d), .val (.int c), .val (.int (0 : Int32)), .val (.int (15 : Int32)), .val (.int (c.toInt8.toInt32)), .val (.int (13 : Int32))] [(.int (c.toInt8.toInt32)), (.int (124 : Int32))])) tg_) => pre38 tg_ (by
                              show Steps pg.tables ee below (s₁.setTop (mkF mm 19 #[.val (.ref d), .val (.int c), .val (.int (0 : Int32)), .val (.int (15 : Int32)), .val (.int (c.toInt8.toInt32)), .val (.int (12 : Int32))] [(.int (c.toInt8.toInt32)), (.int (96 : Int32))])) _
                              refine XS.icmpYes X0.here hx rfl (pc0 := 19) (pc' := 25) rfl (hb hby d24_19) rfl (feq hc39).2 (by decide) (by decide) ?_
                              refine XS.iinc X0.here hx rfl (hb hby d24_25) rfl (l' := #[.val (.ref d), .val (.int c), .val (.int (0 : Int32)), .val (.int (15 : Int32)), .val (.int (c.toInt8.toInt32)), .val (.int (13 : Int32))]) rfl ?_
                              refine XS.goto X0.here hx rfl (pc0 := 28) (pc' := 7) rfl (hb hby d24_28) (by decide) (by decide) ?_
                              refine XS.iload X0.here hx rfl (hb hby d24_7) rfl ?_
                              show Steps pg.tables ee below (s₁.setTop (mkF mm 9 #[.val (.ref d), .val (.int c), .val (.int (0 : Int32)), .val (.int (15 : Int32)), .val (.int (c.toInt8.toInt32)), .val (.int (13 : Int32))] [(.int (13 : Int32))])) _
                              refine XS.iloadN X0.here hx rfl (hb hby d24_9) rfl ?_
                              refine XS.icmpNo X0.here hx rfl (hb hby d24_10) rfl (tlt (by decide : (13 : Int32) < (15 : Int32))).2.1 ?_
                              refine XS.aloadN X0.here hx rfl (hb hby d24_13) rfl rfl ?_
                              refine XS.iload X0.here hx rfl (hb hby d24_14) rfl ?_
                              refine X0.baloadBytes hx (j := (13 : Int32)) (v := (.int (124 : Int32))) (by rw [e0]; exact Ar40.1) (State.isArrayOf_alike hZ.alike Ar40.2.1) Ar40.2.2 hin40 (Has.at Hh40 hin40 rfl) (g := (mkF mm 16 #[.val (.ref d), .val (.int c), .val (.int (0 : Int32)), .val (.int (15 : Int32)), .val (.int (c.toInt8.toInt32)), .val (.int (13 : Int32))] [(.int (13 : Int32)), (.ref d)])) rfl rfl (hb hby d24_16) _ ?_
                              refine XS.iload X0.here hx rfl (hb hby d24_17) rfl ?_
                              exact k_)
                            by_cases hc42 : (124 : Int32) = (c.toInt8.toInt32)
                            · refine own_end X0 (v := some (.int (13 : Int32))) (fun h => by rw [Bd.returns] at h; cases h) (by decide) (by decide) (fun fs hr => pre41 _ ?_) ?_
                              · show Steps pg.tables ee below (s₁.setTop (mkF mm 19 #[.val (.ref d), .val (.int c), .val (.int (0 : Int32)), .val (.int (15 : Int32)), .val (.int (c.toInt8.toInt32)), .val (.int (13 : Int32))] [(.int (c.toInt8.toInt32)), (.int (124 : Int32))])) _
                                refine XS.icmpNo X0.here hx rfl (hb hby d24_19) rfl (teq hc42).2 ?_
                                refine XS.iload X0.here hx rfl (hb hby d24_22) rfl ?_
                                show Steps pg.tables ee below (s₁.setTop (mkF mm 24 #[.val (.ref d), .val (.int c), .val (.int (0 : Int32)), .val (.int (15 : Int32)), .val (.int (c.toInt8.toInt32)), .val (.int (13 : Int32))] [(.int (13 : Int32))])) _
                                exact retOut X0 hx Bd.returns rfl (Or.inl ⟨rfl, Or.inl rfl, _, rfl⟩) (hb hby d24_24) hr
                              · show QX Z c h0 n0 _ s₁.heap _
                                rw [e0]
                                exact ⟨_, rfl, N0, rfl, ⟨fun q => absurd q (by decide), fun q => absurd (Or.inr (Or.inr (Or.inr (Or.inr (Or.inr (Or.inr (Or.inr (Or.inr (Or.inr (Or.inr (Or.inr (Or.inr (Or.inr (Or.inl ((own_bc hc0 hc2 (124 : Int32) (by decide) (by decide)).mp hc42))))))))))))))) q⟩⟩
                            · obtain ⟨cl43, Ar43, qk43, Sz43, Nn43, Hh43, Gg43⟩ := id Vd
                              have hin43 : ¬ ((14 : Int32) < 0 ∨ cl43.slots.size ≤ ((14 : Int32)).toNatClampNeg) := inb_of Sz43 ⟨by decide, by decide⟩
                              have pre44 := fun tg_ (k_ : Steps pg.tables ee below (s₁.setTop (mkF mm 19 #[.val (.ref d), .val (.int c), .val (.int (0 : Int32)), .val (.int (15 : Int32)), .val (.int (c.toInt8.toInt32)), .val (.int (14 : Int32))] [(.int (c.toInt8.toInt32)), (.int (126 : Int32))])) tg_) => pre41 tg_ (by
                                show Steps pg.tables ee below (s₁.setTop (mkF mm 19 #[.val (.ref d), .val (.int c), .val (.int (0 : Int32)), .val (.int (15 : Int32)), .val (.int (c.toInt8.toInt32)), .val (.int (13 : Int32))] [(.int (c.toInt8.toInt32)), (.int (124 : Int32))])) _
                                refine XS.icmpYes X0.here hx rfl (pc0 := 19) (pc' := 25) rfl (hb hby d24_19) rfl (feq hc42).2 (by decide) (by decide) ?_
                                refine XS.iinc X0.here hx rfl (hb hby d24_25) rfl (l' := #[.val (.ref d), .val (.int c), .val (.int (0 : Int32)), .val (.int (15 : Int32)), .val (.int (c.toInt8.toInt32)), .val (.int (14 : Int32))]) rfl ?_
                                show Steps pg.tables ee below (s₁.setTop (mkF mm 28 #[.val (.ref d), .val (.int c), .val (.int (0 : Int32)), .val (.int (15 : Int32)), .val (.int (c.toInt8.toInt32)), .val (.int (14 : Int32))] [])) _
                                refine XS.goto X0.here hx rfl (pc0 := 28) (pc' := 7) rfl (hb hby d24_28) (by decide) (by decide) ?_
                                refine XS.iload X0.here hx rfl (hb hby d24_7) rfl ?_
                                refine XS.iloadN X0.here hx rfl (hb hby d24_9) rfl ?_
                                refine XS.icmpNo X0.here hx rfl (hb hby d24_10) rfl (tlt (by decide : (14 : Int32) < (15 : Int32))).2.1 ?_
                                refine XS.aloadN X0.here hx rfl (hb hby d24_13) rfl rfl ?_
                                refine XS.iload X0.here hx rfl (hb hby d24_14) rfl ?_
                                refine X0.baloadBytes hx (j := (14 : Int32)) (v := (.int (126 : Int32))) (by rw [e0]; exact Ar43.1) (State.isArrayOf_alike hZ.alike Ar43.2.1) Ar43.2.2 hin43 (Has.at Hh43 hin43 rfl) (g := (mkF mm 16 #[.val (.ref d), .val (.int c), .val (.int (0 : Int32)), .val (.int (15 : Int32)), .val (.int (c.toInt8.toInt32)), .val (.int (14 : Int32))] [(.int (14 : Int32)), (.ref d)])) rfl rfl (hb hby d24_16) _ ?_
                                refine XS.iload X0.here hx rfl (hb hby d24_17) rfl ?_
                                exact k_)
                              by_cases hc45 : (126 : Int32) = (c.toInt8.toInt32)
                              · refine own_end X0 (v := some (.int (14 : Int32))) (fun h => by rw [Bd.returns] at h; cases h) (by decide) (by decide) (fun fs hr => pre44 _ ?_) ?_
                                · show Steps pg.tables ee below (s₁.setTop (mkF mm 19 #[.val (.ref d), .val (.int c), .val (.int (0 : Int32)), .val (.int (15 : Int32)), .val (.int (c.toInt8.toInt32)), .val (.int (14 : Int32))] [(.int (c.toInt8.toInt32)), (.int (126 : Int32))])) _
                                  refine XS.icmpNo X0.here hx rfl (hb hby d24_19) rfl (teq hc45).2 ?_
                                  refine XS.iload X0.here hx rfl (hb hby d24_22) rfl ?_
                                  exact retOut X0 hx Bd.returns rfl (Or.inl ⟨rfl, Or.inl rfl, _, rfl⟩) (hb hby d24_24) hr
                                · show QX Z c h0 n0 _ s₁.heap _
                                  rw [e0]
                                  exact ⟨_, rfl, N0, rfl, ⟨fun q => absurd q (by decide), fun q => absurd (Or.inr (Or.inr (Or.inr (Or.inr (Or.inr (Or.inr (Or.inr (Or.inr (Or.inr (Or.inr (Or.inr (Or.inr (Or.inr (Or.inr ((own_bc hc0 hc2 (126 : Int32) (by decide) (by decide)).mp hc45))))))))))))))) q⟩⟩
                              · refine own_end X0 (v := some (.int (-1 : Int32))) (fun h => by rw [Bd.returns] at h; cases h) (by decide) (by decide) (fun fs hr => pre44 _ ?_) ?_
                                · show Steps pg.tables ee below (s₁.setTop (mkF mm 19 #[.val (.ref d), .val (.int c), .val (.int (0 : Int32)), .val (.int (15 : Int32)), .val (.int (c.toInt8.toInt32)), .val (.int (14 : Int32))] [(.int (c.toInt8.toInt32)), (.int (126 : Int32))])) _
                                  refine XS.icmpYes X0.here hx rfl (pc0 := 19) (pc' := 25) rfl (hb hby d24_19) rfl (feq hc45).2 (by decide) (by decide) ?_
                                  refine XS.iinc X0.here hx rfl (hb hby d24_25) rfl (l' := #[.val (.ref d), .val (.int c), .val (.int (0 : Int32)), .val (.int (15 : Int32)), .val (.int (c.toInt8.toInt32)), .val (.int (15 : Int32))]) rfl ?_
                                  refine XS.goto X0.here hx rfl (pc0 := 28) (pc' := 7) rfl (hb hby d24_28) (by decide) (by decide) ?_
                                  refine XS.iload X0.here hx rfl (hb hby d24_7) rfl ?_
                                  refine XS.iloadN X0.here hx rfl (hb hby d24_9) rfl ?_
                                  refine XS.icmpYes X0.here hx rfl (pc0 := 10) (pc' := 31) rfl (hb hby d24_10) rfl (flt (by decide : ¬ ((15 : Int32) < (15 : Int32)))).2.1 (by decide) (by decide) ?_
                                  refine XS.iconst X0.here hx rfl (hb hby d24_31) ?_
                                  exact retOut X0 hx Bd.returns rfl (Or.inl ⟨rfl, Or.inl rfl, _, rfl⟩) (hb hby d24_32) hr
                                · show QX Z c h0 n0 _ s₁.heap _
                                  rw [e0]
                                  exact ⟨_, rfl, N0, rfl, ⟨fun _ => fun q => by
                                    rcases q with q | q | q | q | q | q | q | q | q | q | q | q | q | q | q
                                    · exact hc3 ((own_bc hc0 hc2 (33 : Int32) (by decide) (by decide)).mpr q)
                                    · exact hc6 ((own_bc hc0 hc2 (35 : Int32) (by decide) (by decide)).mpr q)
                                    · exact hc9 ((own_bc hc0 hc2 (36 : Int32) (by decide) (by decide)).mpr q)
                                    · exact hc12 ((own_bc hc0 hc2 (37 : Int32) (by decide) (by decide)).mpr q)
                                    · exact hc15 ((own_bc hc0 hc2 (38 : Int32) (by decide) (by decide)).mpr q)
                                    · exact hc18 ((own_bc hc0 hc2 (39 : Int32) (by decide) (by decide)).mpr q)
                                    · exact hc21 ((own_bc hc0 hc2 (42 : Int32) (by decide) (by decide)).mpr q)
                                    · exact hc24 ((own_bc hc0 hc2 (43 : Int32) (by decide) (by decide)).mpr q)
                                    · exact hc27 ((own_bc hc0 hc2 (45 : Int32) (by decide) (by decide)).mpr q)
                                    · exact hc30 ((own_bc hc0 hc2 (46 : Int32) (by decide) (by decide)).mpr q)
                                    · exact hc33 ((own_bc hc0 hc2 (94 : Int32) (by decide) (by decide)).mpr q)
                                    · exact hc36 ((own_bc hc0 hc2 (95 : Int32) (by decide) (by decide)).mpr q)
                                    · exact hc39 ((own_bc hc0 hc2 (96 : Int32) (by decide) (by decide)).mpr q)
                                    · exact hc42 ((own_bc hc0 hc2 (124 : Int32) (by decide) (by decide)).mpr q)
                                    · exact hc45 ((own_bc hc0 hc2 (126 : Int32) (by decide) (by decide)).mpr q), fun _ => by decide⟩⟩
theorem d22_0 : decode jdk_29_method_65_code 0 = .ok (.iload_n 0, 1) := by decide +kernel
theorem d22_1 : decode jdk_29_method_65_code 1 = .ok (.iload_n 1, 1) := by decide +kernel
theorem d22_2 : decode jdk_29_method_65_code 2 = .ok (.if_icmp .lt 7, 3) := by decide +kernel
theorem d22_5 : decode jdk_29_method_65_code 5 = .ok (.iload_n 0, 1) := by decide +kernel
theorem d22_6 : decode jdk_29_method_65_code 6 = .ok (.goto 4, 3) := by decide +kernel
theorem d22_10 : decode jdk_29_method_65_code 10 = .ok (.ireturn, 1) := by decide +kernel
theorem ef_22_160 (m : MethodId) (x0 : Int32) (x1 : Int32) : entryFrame m #[(.int x0), (.int x1)] 2 = mkF m 0 #[.val (.int x0), .val (.int x1)] [] := by first | (simp [entryFrame, mkF, argsToLocals, Value.category]; done) | rfl
def QrmMax (Z : State)  (h0 : Heap) (n0 : Nat) (v : Option Value) (h : Heap) (L : List Loc) : Prop := v = some (.int (0 : Int32)) ∧ Fr n0 L ∧ h = h0
set_option maxRecDepth 65536 in
set_option maxHeartbeats 40000000 in
theorem rmMax (l : Launch) (Z : State) (a0 : Array Value) (hw : ∀ d ∈ tables_1, d.before a0 Z = true) (ws : List Jvm.Cond)  (h0 : Heap) (n0 : Nat) (O0 : Old Z n0 h0)  :
    own_M l Z h0 (⟨"java/lang/Math", "max", "(II)I"⟩ : MethodName) jdk_29_method_65_code 2 (some .int) ws ({ frames := 0, cells := 0, slots := 0, locals := 0 } : Room) #[(.int (0 : Int32)), (.int (0 : Int32))] (QrmMax Z  h0 n0) := by
  refine own_start (Jvm.Free.JP.mathPlain rfl (by decide +kernel)) ?_
  intro pg ee s mm below meth cc s₁ Bd hZ hh hx hby hml hown0 hnm X0 e0
  have hown : s.vm.findClass "java/lang/Math" = some mm.cls := hown0
  have N0 := Fr.nil n0
  have pre0 := fun tg_ => castTop (tb := pg.tables) (e := ee) (below := below) (T := s₁) (t := tg_) (ef_22_160 mm (0 : Int32) (0 : Int32))
  refine own_end X0 (v := some (.int (0 : Int32))) (fun h => by rw [Bd.returns] at h; cases h) (by decide) (by decide) (fun fs hr => pre0 _ ?_) ?_
  · show Steps pg.tables ee below (s₁.setTop (mkF mm 0 #[.val (.int (0 : Int32)), .val (.int (0 : Int32))] [])) _
    refine XS.iloadN X0.here hx rfl (hb hby d22_0) rfl ?_
    refine XS.iloadN X0.here hx rfl (hb hby d22_1) rfl ?_
    refine XS.icmpNo X0.here hx rfl (hb hby d22_2) rfl (flt (by decide : ¬ ((0 : Int32) < (0 : Int32)))).1 ?_
    refine XS.iloadN X0.here hx rfl (hb hby d22_5) rfl ?_
    refine XS.goto X0.here hx rfl (pc0 := 6) (pc' := 10) rfl (hb hby d22_6) (by decide) (by decide) ?_
    exact retOut X0 hx Bd.returns rfl (Or.inl ⟨rfl, Or.inl rfl, _, rfl⟩) (hb hby d22_10) hr
  · show QrmMax Z  h0 n0 _ s₁.heap _
    rw [e0]
    exact ⟨rfl, N0, rfl⟩
theorem d23_0 : decode jdk_29_method_69_code 0 = .ok (.iload_n 0, 1) := by decide +kernel
theorem d23_1 : decode jdk_29_method_69_code 1 = .ok (.iload_n 1, 1) := by decide +kernel
theorem d23_2 : decode jdk_29_method_69_code 2 = .ok (.if_icmp .gt 7, 3) := by decide +kernel
theorem d23_5 : decode jdk_29_method_69_code 5 = .ok (.iload_n 0, 1) := by decide +kernel
theorem d23_6 : decode jdk_29_method_69_code 6 = .ok (.goto 4, 3) := by decide +kernel
theorem d23_10 : decode jdk_29_method_69_code 10 = .ok (.ireturn, 1) := by decide +kernel
theorem ef_23_167 (m : MethodId) (x0 : Int32) (x1 : Int32) : entryFrame m #[(.int x0), (.int x1)] 2 = mkF m 0 #[.val (.int x0), .val (.int x1)] [] := by first | (simp [entryFrame, mkF, argsToLocals, Value.category]; done) | rfl
def QrmMin (Z : State)  (h0 : Heap) (n0 : Nat) (v : Option Value) (h : Heap) (L : List Loc) : Prop := v = some (.int (15 : Int32)) ∧ Fr n0 L ∧ h = h0
set_option maxRecDepth 65536 in
set_option maxHeartbeats 40000000 in
theorem rmMin (l : Launch) (Z : State) (a0 : Array Value) (hw : ∀ d ∈ tables_1, d.before a0 Z = true) (ws : List Jvm.Cond)  (h0 : Heap) (n0 : Nat) (O0 : Old Z n0 h0)  :
    own_M l Z h0 (⟨"java/lang/Math", "min", "(II)I"⟩ : MethodName) jdk_29_method_69_code 2 (some .int) ws ({ frames := 0, cells := 0, slots := 0, locals := 0 } : Room) #[(.int (15 : Int32)), (.int (15 : Int32))] (QrmMin Z  h0 n0) := by
  refine own_start (Jvm.Free.JP.mathPlain rfl (by decide +kernel)) ?_
  intro pg ee s mm below meth cc s₁ Bd hZ hh hx hby hml hown0 hnm X0 e0
  have hown : s.vm.findClass "java/lang/Math" = some mm.cls := hown0
  have N0 := Fr.nil n0
  have pre0 := fun tg_ => castTop (tb := pg.tables) (e := ee) (below := below) (T := s₁) (t := tg_) (ef_23_167 mm (15 : Int32) (15 : Int32))
  refine own_end X0 (v := some (.int (15 : Int32))) (fun h => by rw [Bd.returns] at h; cases h) (by decide) (by decide) (fun fs hr => pre0 _ ?_) ?_
  · show Steps pg.tables ee below (s₁.setTop (mkF mm 0 #[.val (.int (15 : Int32)), .val (.int (15 : Int32))] [])) _
    refine XS.iloadN X0.here hx rfl (hb hby d23_0) rfl ?_
    refine XS.iloadN X0.here hx rfl (hb hby d23_1) rfl ?_
    refine XS.icmpNo X0.here hx rfl (hb hby d23_2) rfl (flt (by decide : ¬ ((15 : Int32) < (15 : Int32)))).2.2.1 ?_
    refine XS.iloadN X0.here hx rfl (hb hby d23_5) rfl ?_
    refine XS.goto X0.here hx rfl (pc0 := 6) (pc' := 10) rfl (hb hby d23_6) (by decide) (by decide) ?_
    exact retOut X0 hx Bd.returns rfl (Or.inl ⟨rfl, Or.inl rfl, _, rfl⟩) (hb hby d23_10) hr
  · show QrmMin Z  h0 n0 _ s₁.heap _
    rw [e0]
    exact ⟨rfl, N0, rfl⟩
theorem d21_0 : decode jdk_43_method_4_code 0 = .ok (.iload_n 0, 1) := by decide +kernel
theorem d21_1 : decode jdk_43_method_4_code 1 = .ok (.ifCond .lt 14, 3) := by decide +kernel
theorem d21_4 : decode jdk_43_method_4_code 4 = .ok (.iload_n 0, 1) := by decide +kernel
theorem d21_5 : decode jdk_43_method_4_code 5 = .ok (.sipush 255, 3) := by decide +kernel
theorem d21_8 : decode jdk_43_method_4_code 8 = .ok (.if_icmp .gt 7, 3) := by decide +kernel
theorem d21_15 : decode jdk_43_method_4_code 15 = .ok (.iconst 0, 1) := by decide +kernel
theorem d21_16 : decode jdk_43_method_4_code 16 = .ok (.ireturn, 1) := by decide +kernel
theorem ef_21_175 (m : MethodId) (x0 : Int32) : entryFrame m #[(.int x0)] 1 = mkF m 0 #[.val (.int x0)] [] := by first | (simp [entryFrame, mkF, argsToLocals, Value.category]; done) | rfl
def QrmCe0 (Z : State) (c : Int32) (h0 : Heap) (n0 : Nat) (v : Option Value) (h : Heap) (L : List Loc) : Prop := v = some (.int (0 : Int32)) ∧ Fr n0 L ∧ h = h0
set_option maxRecDepth 65536 in
set_option maxHeartbeats 40000000 in
theorem rmCe0 (l : Launch) (Z : State) (a0 : Array Value) (hw : ∀ d ∈ tables_1, d.before a0 Z = true) (ws : List Jvm.Cond) (c : Int32) (h0 : Heap) (n0 : Nat) (O0 : Old Z n0 h0) (hc0 : ¬ (c < (0 : Int32))) (hc2 : (255 : Int32) < c) :
    own_M l Z h0 (⟨"java/lang/StringLatin1", "canEncode", "(I)Z"⟩ : MethodName) jdk_43_method_4_code 1 (some .boolean) ws ({ frames := 0, cells := 0, slots := 0, locals := 0 } : Room) #[(.int c)] (QrmCe0 Z c h0 n0) := by
  refine own_start (plainFor_of_name pn_82) ?_
  intro pg ee s mm below meth cc s₁ Bd hZ hh hx hby hml hown0 hnm X0 e0
  have hown : s.vm.findClass "java/lang/StringLatin1" = some mm.cls := hown0
  have N0 := Fr.nil n0
  have pre0 := fun tg_ => castTop (tb := pg.tables) (e := ee) (below := below) (T := s₁) (t := tg_) (ef_21_175 mm c)
  refine own_end X0 (v := some (.int (0 : Int32))) (fun h => by rw [Bd.returns] at h; cases h) (by decide) (by decide) (fun fs hr => pre0 _ ?_) ?_
  · show Steps pg.tables ee below (s₁.setTop (mkF mm 0 #[.val (.int c)] [])) _
    refine XS.iloadN X0.here hx rfl (hb hby d21_0) rfl ?_
    refine XS.ifNo X0.here hx rfl (hb hby d21_1) rfl ((if0 _ _).trans (flt hc0).1) ?_
    refine XS.iloadN X0.here hx rfl (hb hby d21_4) rfl ?_
    refine XS.sipush X0.here hx rfl (hb hby d21_5) ?_
    refine XS.icmpYes X0.here hx rfl (pc0 := 8) (pc' := 15) rfl (hb hby d21_8) rfl (tlt hc2).2.2.1 (by decide) (by decide) ?_
    refine XS.iconst X0.here hx rfl (hb hby d21_15) ?_
    exact retN X0 hx (t := .boolean) Bd.returns (by simp) (hb hby d21_16) hr
  · show QrmCe0 Z c h0 n0 _ s₁.heap _
    rw [e0]
    exact ⟨rfl, N0, rfl⟩
theorem d21_11 : decode jdk_43_method_4_code 11 = .ok (.iconst 1, 1) := by decide +kernel
theorem d21_12 : decode jdk_43_method_4_code 12 = .ok (.goto 4, 3) := by decide +kernel
def QrmCe1 (Z : State) (c : Int32) (h0 : Heap) (n0 : Nat) (v : Option Value) (h : Heap) (L : List Loc) : Prop := v = some (.int (1 : Int32)) ∧ Fr n0 L ∧ h = h0
set_option maxRecDepth 65536 in
set_option maxHeartbeats 40000000 in
theorem rmCe1 (l : Launch) (Z : State) (a0 : Array Value) (hw : ∀ d ∈ tables_1, d.before a0 Z = true) (ws : List Jvm.Cond) (c : Int32) (h0 : Heap) (n0 : Nat) (O0 : Old Z n0 h0) (hc0 : ¬ (c < (0 : Int32))) (hc2 : ¬ ((255 : Int32) < c)) :
    own_M l Z h0 (⟨"java/lang/StringLatin1", "canEncode", "(I)Z"⟩ : MethodName) jdk_43_method_4_code 1 (some .boolean) ws ({ frames := 0, cells := 0, slots := 0, locals := 0 } : Room) #[(.int c)] (QrmCe1 Z c h0 n0) := by
  refine own_start (plainFor_of_name pn_82) ?_
  intro pg ee s mm below meth cc s₁ Bd hZ hh hx hby hml hown0 hnm X0 e0
  have hown : s.vm.findClass "java/lang/StringLatin1" = some mm.cls := hown0
  have N0 := Fr.nil n0
  have pre0 := fun tg_ => castTop (tb := pg.tables) (e := ee) (below := below) (T := s₁) (t := tg_) (ef_21_175 mm c)
  refine own_end X0 (v := some (.int (1 : Int32))) (fun h => by rw [Bd.returns] at h; cases h) (by decide) (by decide) (fun fs hr => pre0 _ ?_) ?_
  · show Steps pg.tables ee below (s₁.setTop (mkF mm 0 #[.val (.int c)] [])) _
    refine XS.iloadN X0.here hx rfl (hb hby d21_0) rfl ?_
    refine XS.ifNo X0.here hx rfl (hb hby d21_1) rfl ((if0 _ _).trans (flt hc0).1) ?_
    refine XS.iloadN X0.here hx rfl (hb hby d21_4) rfl ?_
    refine XS.sipush X0.here hx rfl (hb hby d21_5) ?_
    refine XS.icmpNo X0.here hx rfl (hb hby d21_8) rfl (flt hc2).2.2.1 ?_
    refine XS.iconst X0.here hx rfl (hb hby d21_11) ?_
    refine XS.goto X0.here hx rfl (pc0 := 12) (pc' := 16) rfl (hb hby d21_12) (by decide) (by decide) ?_
    exact retN X0 hx (t := .boolean) Bd.returns (by simp) (hb hby d21_16) hr
  · show QrmCe1 Z c h0 n0 _ s₁.heap _
    rw [e0]
    exact ⟨rfl, N0, rfl⟩
theorem d20_0 : decode jdk_43_method_22_code 0 = .ok (.iload_n 1, 1) := by decide +kernel
theorem d20_1 : decode jdk_43_method_22_code 1 = .ok (.invokestatic 88, 3) := by decide +kernel
theorem pd_180 : parseMethodDescriptor "(I)Z" = some ⟨[.int], some .boolean⟩ := by decide +kernel
theorem d20_4 : decode jdk_43_method_22_code 4 = .ok (.ifCond .ne 5, 3) := by decide +kernel
theorem d20_7 : decode jdk_43_method_22_code 7 = .ok (.iconst (-1), 1) := by decide +kernel
theorem d20_8 : decode jdk_43_method_22_code 8 = .ok (.ireturn, 1) := by decide +kernel
theorem ef_20_184 (m : MethodId) (x0 : Addr) (x1 : Int32) (x2 : Int32) (x3 : Int32) : entryFrame m #[(.ref x0), (.int x1), (.int x2), (.int x3)] 4 = mkF m 0 #[.val (.ref x0), .val (.int x1), .val (.int x2), .val (.int x3)] [] := by first | (simp [entryFrame, mkF, argsToLocals, Value.category]; done) | rfl
set_option maxRecDepth 65536 in
set_option maxHeartbeats 40000000 in
theorem rmXl0 (l : Launch) (Z : State) (a0 : Array Value) (hw : ∀ d ∈ tables_1, d.before a0 Z = true) (ws : List Jvm.Cond) (d : Addr) (kd : ClassId) (c : Int32) (h0 : Heap) (n0 : Nat) (O0 : Old Z n0 h0) (Vd : Arv Z h0 d kd .byte (15 : Int32) [(.int (33 : Int32)), (.int (35 : Int32)), (.int (36 : Int32)), (.int (37 : Int32)), (.int (38 : Int32)), (.int (39 : Int32)), (.int (42 : Int32)), (.int (43 : Int32)), (.int (45 : Int32)), (.int (46 : Int32)), (.int (94 : Int32)), (.int (95 : Int32)), (.int (96 : Int32)), (.int (124 : Int32)), (.int (126 : Int32))] (.int 0)) (hc0 : ¬ (c < (0 : Int32))) (hc2 : (255 : Int32) < c) :
    own_M l Z h0 (⟨"java/lang/StringLatin1", "indexOf", "([BIII)I"⟩ : MethodName) jdk_43_method_22_code 4 (some .int) ws ({ frames := 1, cells := 0, slots := 0, locals := 17 } : Room) #[(.ref d), (.int c), (.int (0 : Int32)), (.int (15 : Int32))] (QX Z c h0 n0) := by
  refine own_start (plainFor_of_name pn_82) ?_
  intro pg ee s mm below meth cc s₁ Bd hZ hh hx hby hml hown0 hnm X0 e0
  have hown : s.vm.findClass "java/lang/StringLatin1" = some mm.cls := hown0
  have N0 := Fr.nil n0
  have pre0 := fun tg_ => castTop (tb := pg.tables) (e := ee) (below := below) (T := s₁) (t := tg_) (ef_20_184 mm d c (0 : Int32) (15 : Int32))
  obtain ⟨_, _, ⟨T1, L1, k1, n1⟩, -, X1, ⟨Lc1, hQ1, l1, y1, z1⟩, st1⟩ := Jvm.LawKit.callS X0 hx hown (mvT hZ (own_h hw 96 rfl)) (mvT hZ (own_h hw 97 rfl)) (mvT hZ (own_h hw 71 rfl)) (mvT hZ (own_h hw 98 rfl)) (by decide) (backOf (W := 0) (rmCe0 l Z a0 hw [] c h0 n0 O0 hc0 hc2) hZ (own_h hw 98 rfl) (own_h hw 71 rfl) (by decide) (by decide)) (g := (mkF mm 1 #[.val (.ref d), .val (.int c), .val (.int (0 : Int32)), .val (.int (15 : Int32))] [(.int c)])) rfl (by rw [hml]; rfl) (argsL := [(.int c)]) (rest := []) (lenOf pd_180 rfl) rfl (Nat.le_of_eq rfl) (hb hby d20_1) (fun _ _ => ⟨rfl, e0, (by decide : 0 + 0 ≤ _), (by decide : 0 + 0 ≤ _)⟩)
  dsimp only [Pt.U, Pt.locs, Pt.cells, Pt.slots] at X1 l1 y1 z1 st1 hQ1
  subst l1 y1 z1
  obtain ⟨rfl, N1q, e1⟩ := hQ1
  have N1 := Fr.app N0 N1q
  refine own_end X1 (v := some (.int (-1 : Int32))) (fun h => by rw [Bd.returns] at h; cases h) (by decide) (by decide) (fun fs hr => pre0 _ ?_) ?_
  · show Steps pg.tables ee below (s₁.setTop (mkF mm 0 #[.val (.ref d), .val (.int c), .val (.int (0 : Int32)), .val (.int (15 : Int32))] [])) _
    refine XS.iloadN X0.here hx rfl (hb hby d20_0) rfl ?_
    refine st1 _ ?_
    refine XS.ifNo X1.here hx rfl (hb hby d20_4) rfl ((if0 _ _).trans (teq (by decide : (0 : Int32) = (0 : Int32))).2) ?_
    refine XS.iconst X1.here hx rfl (hb hby d20_7) ?_
    exact retOut X1 hx Bd.returns rfl (Or.inl ⟨rfl, Or.inl rfl, _, rfl⟩) (hb hby d20_8) hr
  · show QX Z c h0 n0 _ T1.heap _
    rw [e1]
    exact ⟨_, rfl, N1, rfl, ⟨fun _ q => by rcases q with rfl | rfl | rfl | rfl | rfl | rfl | rfl | rfl | rfl | rfl | rfl | rfl | rfl | rfl | rfl <;> exact absurd hc2 (by decide), fun _ => by decide⟩⟩
theorem d20_9 : decode jdk_43_method_22_code 9 = .ok (.iload_n 2, 1) := by decide +kernel
theorem d20_10 : decode jdk_43_method_22_code 10 = .ok (.iconst 0, 1) := by decide +kernel
theorem d20_11 : decode jdk_43_method_22_code 11 = .ok (.invokestatic 92, 3) := by decide +kernel
theorem pd_188 : parseMethodDescriptor "(II)I" = some ⟨[.int, .int], some .int⟩ := by decide +kernel
theorem d20_14 : decode jdk_43_method_22_code 14 = .ok (.istore_n 2, 1) := by decide +kernel
theorem d20_15 : decode jdk_43_method_22_code 15 = .ok (.iload_n 3, 1) := by decide +kernel
theorem d20_16 : decode jdk_43_method_22_code 16 = .ok (.aload_n 0, 1) := by decide +kernel
theorem d20_17 : decode jdk_43_method_22_code 17 = .ok (.arraylength, 1) := by decide +kernel
theorem d20_18 : decode jdk_43_method_22_code 18 = .ok (.invokestatic 38, 3) := by decide +kernel
theorem d20_21 : decode jdk_43_method_22_code 21 = .ok (.istore_n 3, 1) := by decide +kernel
theorem d20_22 : decode jdk_43_method_22_code 22 = .ok (.iload_n 2, 1) := by decide +kernel
theorem d20_23 : decode jdk_43_method_22_code 23 = .ok (.iload_n 3, 1) := by decide +kernel
theorem d20_24 : decode jdk_43_method_22_code 24 = .ok (.if_icmp .lt 5, 3) := by decide +kernel
theorem d20_29 : decode jdk_43_method_22_code 29 = .ok (.aload_n 0, 1) := by decide +kernel
theorem d20_30 : decode jdk_43_method_22_code 30 = .ok (.iload_n 1, 1) := by decide +kernel
theorem d20_31 : decode jdk_43_method_22_code 31 = .ok (.iload_n 2, 1) := by decide +kernel
theorem d20_32 : decode jdk_43_method_22_code 32 = .ok (.iload_n 3, 1) := by decide +kernel
theorem d20_33 : decode jdk_43_method_22_code 33 = .ok (.invokestatic 95, 3) := by decide +kernel
theorem pd_203 : parseMethodDescriptor "([BIII)I" = some ⟨[(.array .byte), .int, .int, .int], some .int⟩ := by decide +kernel
theorem d20_36 : decode jdk_43_method_22_code 36 = .ok (.ireturn, 1) := by decide +kernel
set_option maxRecDepth 65536 in
set_option maxHeartbeats 40000000 in
theorem rmXl1 (l : Launch) (Z : State) (a0 : Array Value) (hw : ∀ d ∈ tables_1, d.before a0 Z = true) (ws : List Jvm.Cond) (d : Addr) (kd : ClassId) (c : Int32) (h0 : Heap) (n0 : Nat) (O0 : Old Z n0 h0) (Vd : Arv Z h0 d kd .byte (15 : Int32) [(.int (33 : Int32)), (.int (35 : Int32)), (.int (36 : Int32)), (.int (37 : Int32)), (.int (38 : Int32)), (.int (39 : Int32)), (.int (42 : Int32)), (.int (43 : Int32)), (.int (45 : Int32)), (.int (46 : Int32)), (.int (94 : Int32)), (.int (95 : Int32)), (.int (96 : Int32)), (.int (124 : Int32)), (.int (126 : Int32))] (.int 0)) (hc0 : ¬ (c < (0 : Int32))) (hc2 : ¬ ((255 : Int32) < c)) :
    own_M l Z h0 (⟨"java/lang/StringLatin1", "indexOf", "([BIII)I"⟩ : MethodName) jdk_43_method_22_code 4 (some .int) ws ({ frames := 1, cells := 0, slots := 0, locals := 17 } : Room) #[(.ref d), (.int c), (.int (0 : Int32)), (.int (15 : Int32))] (QX Z c h0 n0) := by
  refine own_start (plainFor_of_name pn_82) ?_
  intro pg ee s mm below meth cc s₁ Bd hZ hh hx hby hml hown0 hnm X0 e0
  have hown : s.vm.findClass "java/lang/StringLatin1" = some mm.cls := hown0
  have N0 := Fr.nil n0
  have pre0 := fun tg_ => castTop (tb := pg.tables) (e := ee) (below := below) (T := s₁) (t := tg_) (ef_20_184 mm d c (0 : Int32) (15 : Int32))
  obtain ⟨_, _, ⟨T1, L1, k1, n1⟩, -, X1, ⟨Lc1, hQ1, l1, y1, z1⟩, st1⟩ := Jvm.LawKit.callS X0 hx hown (mvT hZ (own_h hw 96 rfl)) (mvT hZ (own_h hw 97 rfl)) (mvT hZ (own_h hw 71 rfl)) (mvT hZ (own_h hw 98 rfl)) (by decide) (backOf (W := 0) (rmCe1 l Z a0 hw [] c h0 n0 O0 hc0 hc2) hZ (own_h hw 98 rfl) (own_h hw 71 rfl) (by decide) (by decide)) (g := (mkF mm 1 #[.val (.ref d), .val (.int c), .val (.int (0 : Int32)), .val (.int (15 : Int32))] [(.int c)])) rfl (by rw [hml]; rfl) (argsL := [(.int c)]) (rest := []) (lenOf pd_180 rfl) rfl (Nat.le_of_eq rfl) (hb hby d20_1) (fun _ _ => ⟨rfl, e0, (by decide : 0 + 0 ≤ _), (by decide : 0 + 0 ≤ _)⟩)
  dsimp only [Pt.U, Pt.locs, Pt.cells, Pt.slots] at X1 l1 y1 z1 st1 hQ1
  subst l1 y1 z1
  obtain ⟨rfl, N1q, e1⟩ := hQ1
  have N1 := Fr.app N0 N1q
  obtain ⟨_, _, ⟨T2, L2, k2, n2⟩, -, X2, ⟨Lc2, hQ2, l2, y2, z2⟩, st2⟩ := Jvm.LawKit.callS X1 hx hown (mvT hZ (own_h hw 99 rfl)) (mvT hZ (own_h hw 100 rfl)) (mvT hZ (own_h hw 101 rfl)) (mvT hZ (own_h hw 102 rfl)) (by decide) (backOf (W := 0) (rmMax l Z a0 hw [] h0 n0 O0) hZ (own_h hw 102 rfl) (own_h hw 101 rfl) (by decide) (by decide)) (g := (mkF mm 11 #[.val (.ref d), .val (.int c), .val (.int (0 : Int32)), .val (.int (15 : Int32))] [(.int (0 : Int32)), (.int (0 : Int32))])) rfl (by rw [hml]; rfl) (argsL := [(.int (0 : Int32)), (.int (0 : Int32))]) (rest := []) (lenOf pd_188 rfl) rfl (Nat.le_of_eq rfl) (hb hby d20_11) (fun _ _ => ⟨rfl, e1, (by decide : 0 + 0 ≤ _), (by decide : 0 + 0 ≤ _)⟩)
  dsimp only [Pt.U, Pt.locs, Pt.cells, Pt.slots] at X2 l2 y2 z2 st2 hQ2
  subst l2 y2 z2
  obtain ⟨rfl, N2q, e2⟩ := hQ2
  have N2 := Fr.app N1 N2q
  obtain ⟨cl3, Ar3, qk3, Sz3, Nn3, Hh3, Gg3⟩ := id Vd
  obtain ⟨_, _, ⟨T4, L4, k4, n4⟩, -, X4, ⟨Lc4, hQ4, l4, y4, z4⟩, st4⟩ := Jvm.LawKit.callS X2 hx hown (mvT hZ (own_h hw 103 rfl)) (mvT hZ (own_h hw 104 rfl)) (mvT hZ (own_h hw 101 rfl)) (mvT hZ (own_h hw 105 rfl)) (by decide) (backOf (W := 0) (rmMin l Z a0 hw [] h0 n0 O0) hZ (own_h hw 105 rfl) (own_h hw 101 rfl) (by decide) (by decide)) (g := (mkF mm 18 #[.val (.ref d), .val (.int c), .val (.int (0 : Int32)), .val (.int (15 : Int32))] [(.int (15 : Int32)), (.int (15 : Int32))])) rfl (by rw [hml]; rfl) (argsL := [(.int (15 : Int32)), (.int (15 : Int32))]) (rest := []) (lenOf pd_188 rfl) rfl (Nat.le_of_eq rfl) (hb hby d20_18) (fun _ _ => ⟨rfl, e2, (by decide : 0 + 0 ≤ _), (by decide : 0 + 0 ≤ _)⟩)
  dsimp only [Pt.U, Pt.locs, Pt.cells, Pt.slots] at X4 l4 y4 z4 st4 hQ4
  subst l4 y4 z4
  obtain ⟨rfl, N4q, e4⟩ := hQ4
  have N4 := Fr.app N2 N4q
  obtain ⟨_, _, ⟨T5, L5, k5, n5⟩, -, X5, ⟨Lc5, hQ5, l5, y5, z5⟩, st5⟩ := Jvm.LawKit.callS X4 hx hown (mvT hZ (own_h hw 106 rfl)) (mvT hZ (own_h hw 107 rfl)) (mvT hZ (own_h hw 71 rfl)) (mvT hZ (own_h hw 108 rfl)) (by decide) (backOf (W := 0) (rmIxc l Z a0 hw [] d kd c h0 n0 O0 Vd hc0 hc2) hZ (own_h hw 108 rfl) (own_h hw 71 rfl) (by decide) (by decide)) (g := (mkF mm 33 #[.val (.ref d), .val (.int c), .val (.int (0 : Int32)), .val (.int (15 : Int32))] [(.int (15 : Int32)), (.int (0 : Int32)), (.int c), (.ref d)])) rfl (by rw [hml]; rfl) (argsL := [(.ref d), (.int c), (.int (0 : Int32)), (.int (15 : Int32))]) (rest := []) (lenOf pd_203 rfl) rfl (Nat.le_of_eq rfl) (hb hby d20_33) (fun _ _ => ⟨rfl, e4, (by decide : 0 + 0 ≤ _), (by decide : 0 + 0 ≤ _)⟩)
  dsimp only [Pt.U, Pt.locs, Pt.cells, Pt.slots] at X5 l5 y5 z5 st5 hQ5
  subst l5 y5 z5
  obtain ⟨r5, rfl, N5q, e5, hr5⟩ := hQ5
  have N5 := Fr.app N4 N5q
  refine own_end X5 (v := some (.int r5)) (fun h => by rw [Bd.returns] at h; cases h) (by decide) (by decide) (fun fs hr => pre0 _ ?_) ?_
  · show Steps pg.tables ee below (s₁.setTop (mkF mm 0 #[.val (.ref d), .val (.int c), .val (.int (0 : Int32)), .val (.int (15 : Int32))] [])) _
    refine XS.iloadN X0.here hx rfl (hb hby d20_0) rfl ?_
    refine st1 _ ?_
    refine XS.ifYes X1.here hx rfl (pc0 := 4) (pc' := 9) rfl (hb hby d20_4) rfl ((if0 _ _).trans (feq (by decide : ¬ ((1 : Int32) = (0 : Int32)))).2) (by decide) (by decide) ?_
    refine XS.iloadN X1.here hx rfl (hb hby d20_9) rfl ?_
    refine XS.iconst X1.here hx rfl (hb hby d20_10) ?_
    refine st2 _ ?_
    refine XS.istoreN X2.here hx rfl (hb hby d20_14) rfl (l' := #[.val (.ref d), .val (.int c), .val (.int (0 : Int32)), .val (.int (15 : Int32))]) rfl ?_
    refine XS.iloadN X2.here hx rfl (hb hby d20_15) rfl ?_
    show Steps pg.tables ee below (T2.setTop (mkF mm 16 #[.val (.ref d), .val (.int c), .val (.int (0 : Int32)), .val (.int (15 : Int32))] [(.int (15 : Int32))])) _
    refine XS.aloadN X2.here hx rfl (hb hby d20_16) rfl rfl ?_
    refine X2.arraylength hx (by rw [e2]; exact Ar3.1) (State.isArrayOf_alike hZ.alike Ar3.2.1) (g := (mkF mm 17 #[.val (.ref d), .val (.int c), .val (.int (0 : Int32)), .val (.int (15 : Int32))] [(.ref d), (.int (15 : Int32))])) rfl rfl (hb hby d20_17) _ ?_
    rw [len_of Sz3 Nn3]
    refine st4 _ ?_
    refine XS.istoreN X4.here hx rfl (hb hby d20_21) rfl (l' := #[.val (.ref d), .val (.int c), .val (.int (0 : Int32)), .val (.int (15 : Int32))]) rfl ?_
    refine XS.iloadN X4.here hx rfl (hb hby d20_22) rfl ?_
    refine XS.iloadN X4.here hx rfl (hb hby d20_23) rfl ?_
    refine XS.icmpYes X4.here hx rfl (pc0 := 24) (pc' := 29) rfl (hb hby d20_24) rfl (tlt (by decide : (0 : Int32) < (15 : Int32))).1 (by decide) (by decide) ?_
    refine XS.aloadN X4.here hx rfl (hb hby d20_29) rfl rfl ?_
    show Steps pg.tables ee below (T4.setTop (mkF mm 30 #[.val (.ref d), .val (.int c), .val (.int (0 : Int32)), .val (.int (15 : Int32))] [(.ref d)])) _
    refine XS.iloadN X4.here hx rfl (hb hby d20_30) rfl ?_
    refine XS.iloadN X4.here hx rfl (hb hby d20_31) rfl ?_
    refine XS.iloadN X4.here hx rfl (hb hby d20_32) rfl ?_
    refine st5 _ ?_
    exact retOut X5 hx Bd.returns rfl (Or.inl ⟨rfl, Or.inl rfl, _, rfl⟩) (hb hby d20_36) hr
  · show QX Z c h0 n0 _ T5.heap _
    rw [e5]
    exact ⟨_, rfl, N5, rfl, hr5⟩
set_option maxRecDepth 65536 in
theorem rmXl (l : Launch) (Z : State) (a0 : Array Value) (hw : ∀ d ∈ tables_1, d.before a0 Z = true) (ws : List Jvm.Cond) (d : Addr) (kd : ClassId) (c : Int32) (h0 : Heap) (n0 : Nat) (O0 : Old Z n0 h0) (Vd : Arv Z h0 d kd .byte (15 : Int32) [(.int (33 : Int32)), (.int (35 : Int32)), (.int (36 : Int32)), (.int (37 : Int32)), (.int (38 : Int32)), (.int (39 : Int32)), (.int (42 : Int32)), (.int (43 : Int32)), (.int (45 : Int32)), (.int (46 : Int32)), (.int (94 : Int32)), (.int (95 : Int32)), (.int (96 : Int32)), (.int (124 : Int32)), (.int (126 : Int32))] (.int 0)) (hc0 : ¬ (c < (0 : Int32))) :
    own_M l Z h0 (⟨"java/lang/StringLatin1", "indexOf", "([BIII)I"⟩ : MethodName) jdk_43_method_22_code 4 (some .int) ws ({ frames := 1, cells := 0, slots := 0, locals := 17 } : Room) #[(.ref d), (.int c), (.int (0 : Int32)), (.int (15 : Int32))] (QX Z c h0 n0) := by
  by_cases hc2 : (255 : Int32) < c
  · exact rmXl0 l Z a0 hw ws d kd c h0 n0 O0 Vd hc0 hc2
  · exact rmXl1 l Z a0 hw ws d kd c h0 n0 O0 Vd hc0 hc2
theorem d19_0 : decode jdk_42_method_80_code 0 = .ok (.aload_n 0, 1) := by decide +kernel
theorem d19_1 : decode jdk_42_method_80_code 1 = .ok (.invokevirtual 492, 3) := by decide +kernel
theorem d19_4 : decode jdk_42_method_80_code 4 = .ok (.ifCond .eq 19, 3) := by decide +kernel
theorem d19_7 : decode jdk_42_method_80_code 7 = .ok (.aload_n 0, 1) := by decide +kernel
theorem d19_8 : decode jdk_42_method_80_code 8 = .ok (.getfield 9, 3) := by decide +kernel
theorem d19_11 : decode jdk_42_method_80_code 11 = .ok (.iload_n 1, 1) := by decide +kernel
theorem d19_12 : decode jdk_42_method_80_code 12 = .ok (.iload_n 2, 1) := by decide +kernel
theorem d19_13 : decode jdk_42_method_80_code 13 = .ok (.aload_n 0, 1) := by decide +kernel
theorem d19_14 : decode jdk_42_method_80_code 14 = .ok (.invokevirtual 505, 3) := by decide +kernel
theorem pd_214 : parseMethodDescriptor "()I" = some ⟨[], some .int⟩ := by decide +kernel
theorem d19_17 : decode jdk_42_method_80_code 17 = .ok (.invokestatic 637, 3) := by decide +kernel
theorem d19_20 : decode jdk_42_method_80_code 20 = .ok (.goto 16, 3) := by decide +kernel
theorem d19_36 : decode jdk_42_method_80_code 36 = .ok (.ireturn, 1) := by decide +kernel
theorem ef_19_218 (m : MethodId) (x0 : Addr) (x1 : Int32) (x2 : Int32) : entryFrame m #[(.ref x0), (.int x1), (.int x2)] 3 = mkF m 0 #[.val (.ref x0), .val (.int x1), .val (.int x2)] [] := by first | (simp [entryFrame, mkF, argsToLocals, Value.category]; done) | rfl
set_option maxRecDepth 65536 in
set_option maxHeartbeats 40000000 in
theorem rmX2 (l : Launch) (Z : State) (a0 : Array Value) (hw : ∀ d ∈ tables_1, d.before a0 Z = true) (ws : List Jvm.Cond) (a : Addr) (d : Addr) (kd : ClassId) (c : Int32) (cs : Int32) (h0 : Heap) (n0 : Nat) (O0 : Old Z n0 h0) (Fc : Fld Z h0 a "java/lang/String" "coder" "B" (.int (0 : Int32))) (Fv : Fld Z h0 a "java/lang/String" "value" "[B" (.ref d)) (Vd : Arv Z h0 d kd .byte (15 : Int32) [(.int (33 : Int32)), (.int (35 : Int32)), (.int (36 : Int32)), (.int (37 : Int32)), (.int (38 : Int32)), (.int (39 : Int32)), (.int (42 : Int32)), (.int (43 : Int32)), (.int (45 : Int32)), (.int (46 : Int32)), (.int (94 : Int32)), (.int (95 : Int32)), (.int (96 : Int32)), (.int (124 : Int32)), (.int (126 : Int32))] (.int 0)) (Ea : Exa Z h0 a "java/lang/String") (hC : own_C Z cs) (hc0 : ¬ (c < (0 : Int32))) :
    own_M l Z h0 (⟨"java/lang/String", "indexOf", "(II)I"⟩ : MethodName) jdk_42_method_80_code 3 (some .int) ws ({ frames := 2, cells := 0, slots := 0, locals := 32 } : Room) #[(.ref a), (.int c), (.int (0 : Int32))] (QX Z c h0 n0) := by
  refine own_start (plainFor_of_name pn_18) ?_
  intro pg ee s mm below meth cc s₁ Bd hZ hh hx hby hml hown0 hnm X0 e0
  have hown : s.vm.findClass "java/lang/String" = some mm.cls := hown0
  have N0 := Fr.nil n0
  have pre0 := fun tg_ => castTop (tb := pg.tables) (e := ee) (below := below) (T := s₁) (t := tg_) (ef_19_218 mm a c (0 : Int32))
  obtain ⟨cq1, kq1, q1a, q1b, q1c⟩ := isOf hZ e0 Ea
  obtain ⟨_, _, ⟨T1, L1, k1, n1⟩, -, X1, ⟨Lc1, hQ1, l1, y1, z1⟩, st1⟩ := X0.virtualBack hx hown (mvT hZ (own_h hw 64 rfl)) (mvT hZ (own_h hw 65 rfl)) (notFace_of_selects (args := #[]) (mvT hZ (own_h hw 67 rfl))) (mvT hZ (own_h hw 67 rfl)) (mvT hZ (own_h hw 66 rfl)) (by decide) (backOf (W := 0) (rmLat0 l Z a0 hw [] a d kd (15 : Int32) [(.int (33 : Int32)), (.int (35 : Int32)), (.int (36 : Int32)), (.int (37 : Int32)), (.int (38 : Int32)), (.int (39 : Int32)), (.int (42 : Int32)), (.int (43 : Int32)), (.int (45 : Int32)), (.int (46 : Int32)), (.int (94 : Int32)), (.int (95 : Int32)), (.int (96 : Int32)), (.int (124 : Int32)), (.int (126 : Int32))] cs h0 n0 O0 Fc Fv Vd Ea hC) hZ (own_h hw 68 rfl) (own_h hw 7 rfl) (by decide) (by decide)) q1a q1c (g := (mkF mm 1 #[.val (.ref a), .val (.int c), .val (.int (0 : Int32))] [(.ref a)])) rfl (by rw [hml]; rfl) (Steps.refl _) (argsL := []) (rest := []) (lenOf pd_112 rfl) rfl (Nat.le_of_eq rfl) (hb hby d19_1) (fun _ _ => ⟨rfl, e0, (by decide : 0 + 0 ≤ _), (by decide : 0 + 0 ≤ _)⟩)
  dsimp only [Pt.U, Pt.locs, Pt.cells, Pt.slots] at X1 l1 y1 z1 st1 hQ1
  subst l1 y1 z1
  obtain ⟨rfl, N1q, e1⟩ := hQ1
  have N1 := Fr.app N0 N1q
  obtain ⟨T2, X2, e2, st2⟩ := getF X1 hx hZ hown (host := "") (Or.inl (own_h hw 24 rfl)) Via.refl e1 Fv (g := (mkF mm 8 #[.val (.ref a), .val (.int c), .val (.int (0 : Int32))] [(.ref a)])) rfl rfl (hb hby d19_8)
  obtain ⟨cq3, kq3, q3a, q3b, q3c⟩ := isOf hZ e2 Ea
  obtain ⟨_, _, ⟨T3, L3, k3, n3⟩, -, X3, ⟨Lc3, hQ3, l3, y3, z3⟩, st3⟩ := X2.virtualBack hx hown (mvT hZ (own_h hw 92 rfl)) (mvT hZ (own_h hw 31 rfl)) (notFace_of_selects (args := #[]) (mvT hZ (own_h hw 33 rfl))) (mvT hZ (own_h hw 33 rfl)) (mvT hZ (own_h hw 32 rfl)) (by decide) (backOf (W := 3) (rmLen0 l Z a0 hw [] a d kd (15 : Int32) [(.int (33 : Int32)), (.int (35 : Int32)), (.int (36 : Int32)), (.int (37 : Int32)), (.int (38 : Int32)), (.int (39 : Int32)), (.int (42 : Int32)), (.int (43 : Int32)), (.int (45 : Int32)), (.int (46 : Int32)), (.int (94 : Int32)), (.int (95 : Int32)), (.int (96 : Int32)), (.int (124 : Int32)), (.int (126 : Int32))] cs (15 : Int32) h0 n0 O0 Fc Fv Vd Ea hC rfl) hZ (own_h hw 34 rfl) (own_h hw 7 rfl) (by decide) (by decide)) q3a q3c (g := (mkF mm 14 #[.val (.ref a), .val (.int c), .val (.int (0 : Int32))] [(.ref a), (.int (0 : Int32)), (.int c), (.ref d)])) rfl (by rw [hml]; rfl) (Steps.refl _) (argsL := []) (rest := [(.int (0 : Int32)), (.int c), (.ref d)]) (lenOf pd_214 rfl) rfl (Nat.le_of_eq rfl) (hb hby d19_14) (fun _ _ => ⟨rfl, e2, (by decide : 0 + 0 ≤ _), (by decide : 0 + 0 ≤ _)⟩)
  dsimp only [Pt.U, Pt.locs, Pt.cells, Pt.slots] at X3 l3 y3 z3 st3 hQ3
  subst l3 y3 z3
  obtain ⟨rfl, N3q, e3⟩ := hQ3
  have N3 := Fr.app N1 N3q
  obtain ⟨_, _, ⟨T4, L4, k4, n4⟩, -, X4, ⟨Lc4, hQ4, l4, y4, z4⟩, st4⟩ := Jvm.LawKit.callS X3 hx hown (mvT hZ (own_h hw 93 rfl)) (mvT hZ (own_h hw 94 rfl)) (mvT hZ (own_h hw 71 rfl)) (mvT hZ (own_h hw 95 rfl)) (by decide) (backOf (W := 0) (rmXl l Z a0 hw [] d kd c h0 n0 O0 Vd hc0) hZ (own_h hw 95 rfl) (own_h hw 71 rfl) (by decide) (by decide)) (g := (mkF mm 17 #[.val (.ref a), .val (.int c), .val (.int (0 : Int32))] [(.int (15 : Int32)), (.int (0 : Int32)), (.int c), (.ref d)])) rfl (by rw [hml]; rfl) (argsL := [(.ref d), (.int c), (.int (0 : Int32)), (.int (15 : Int32))]) (rest := []) (lenOf pd_203 rfl) rfl (Nat.le_of_eq rfl) (hb hby d19_17) (fun _ _ => ⟨rfl, e3, (by decide : 0 + 0 ≤ _), (by decide : 0 + 0 ≤ _)⟩)
  dsimp only [Pt.U, Pt.locs, Pt.cells, Pt.slots] at X4 l4 y4 z4 st4 hQ4
  subst l4 y4 z4
  obtain ⟨r4, rfl, N4q, e4, hr4⟩ := hQ4
  have N4 := Fr.app N3 N4q
  refine own_end X4 (v := some (.int r4)) (fun h => by rw [Bd.returns] at h; cases h) (by decide) (by decide) (fun fs hr => pre0 _ ?_) ?_
  · show Steps pg.tables ee below (s₁.setTop (mkF mm 0 #[.val (.ref a), .val (.int c), .val (.int (0 : Int32))] [])) _
    refine XS.aloadN X0.here hx rfl (hb hby d19_0) rfl rfl ?_
    refine st1.trans ?_
    refine XS.ifNo X1.here hx rfl (hb hby d19_4) rfl ((if0 _ _).trans (feq (by decide : ¬ ((1 : Int32) = (0 : Int32)))).1) ?_
    refine XS.aloadN X1.here hx rfl (hb hby d19_7) rfl rfl ?_
    refine st2 _ ?_
    refine XS.iloadN X2.here hx rfl (hb hby d19_11) rfl ?_
    refine XS.iloadN X2.here hx rfl (hb hby d19_12) rfl ?_
    refine XS.aloadN X2.here hx rfl (hb hby d19_13) rfl rfl ?_
    show Steps pg.tables ee below (T2.setTop (mkF mm 14 #[.val (.ref a), .val (.int c), .val (.int (0 : Int32))] [(.ref a), (.int (0 : Int32)), (.int c), (.ref d)])) _
    refine st3.trans ?_
    refine st4 _ ?_
    refine XS.goto X4.here hx rfl (pc0 := 20) (pc' := 36) rfl (hb hby d19_20) (by decide) (by decide) ?_
    exact retOut X4 hx Bd.returns rfl (Or.inl ⟨rfl, Or.inl rfl, _, rfl⟩) (hb hby d19_36) hr
  · show QX Z c h0 n0 _ T4.heap _
    rw [e4]
    exact ⟨_, rfl, N4, rfl, hr4⟩
theorem d18_0 : decode jdk_42_method_79_code 0 = .ok (.aload_n 0, 1) := by decide +kernel
theorem d18_1 : decode jdk_42_method_79_code 1 = .ok (.iload_n 1, 1) := by decide +kernel
theorem d18_2 : decode jdk_42_method_79_code 2 = .ok (.iconst 0, 1) := by decide +kernel
theorem d18_3 : decode jdk_42_method_79_code 3 = .ok (.invokevirtual 633, 3) := by decide +kernel
theorem d18_6 : decode jdk_42_method_79_code 6 = .ok (.ireturn, 1) := by decide +kernel
theorem ef_18_224 (m : MethodId) (x0 : Addr) (x1 : Int32) : entryFrame m #[(.ref x0), (.int x1)] 2 = mkF m 0 #[.val (.ref x0), .val (.int x1)] [] := by first | (simp [entryFrame, mkF, argsToLocals, Value.category]; done) | rfl
set_option maxRecDepth 65536 in
set_option maxHeartbeats 40000000 in
theorem rmX1 (l : Launch) (Z : State) (a0 : Array Value) (hw : ∀ d ∈ tables_1, d.before a0 Z = true) (ws : List Jvm.Cond) (a : Addr) (d : Addr) (kd : ClassId) (c : Int32) (cs : Int32) (h0 : Heap) (n0 : Nat) (O0 : Old Z n0 h0) (Fc : Fld Z h0 a "java/lang/String" "coder" "B" (.int (0 : Int32))) (Fv : Fld Z h0 a "java/lang/String" "value" "[B" (.ref d)) (Vd : Arv Z h0 d kd .byte (15 : Int32) [(.int (33 : Int32)), (.int (35 : Int32)), (.int (36 : Int32)), (.int (37 : Int32)), (.int (38 : Int32)), (.int (39 : Int32)), (.int (42 : Int32)), (.int (43 : Int32)), (.int (45 : Int32)), (.int (46 : Int32)), (.int (94 : Int32)), (.int (95 : Int32)), (.int (96 : Int32)), (.int (124 : Int32)), (.int (126 : Int32))] (.int 0)) (Ea : Exa Z h0 a "java/lang/String") (hC : own_C Z cs) (hc0 : ¬ (c < (0 : Int32))) :
    own_M l Z h0 (⟨"java/lang/String", "indexOf", "(I)I"⟩ : MethodName) jdk_42_method_79_code 2 (some .int) ws ({ frames := 3, cells := 0, slots := 0, locals := 46 } : Room) #[(.ref a), (.int c)] (QX Z c h0 n0) := by
  refine own_start (plainFor_of_name pn_18) ?_
  intro pg ee s mm below meth cc s₁ Bd hZ hh hx hby hml hown0 hnm X0 e0
  have hown : s.vm.findClass "java/lang/String" = some mm.cls := hown0
  have N0 := Fr.nil n0
  have pre0 := fun tg_ => castTop (tb := pg.tables) (e := ee) (below := below) (T := s₁) (t := tg_) (ef_18_224 mm a c)
  obtain ⟨cq1, kq1, q1a, q1b, q1c⟩ := isOf hZ e0 Ea
  obtain ⟨_, _, ⟨T1, L1, k1, n1⟩, -, X1, ⟨Lc1, hQ1, l1, y1, z1⟩, st1⟩ := X0.virtualBack hx hown (mvT hZ (own_h hw 87 rfl)) (mvT hZ (own_h hw 88 rfl)) (notFace_of_selects (args := #[]) (mvT hZ (own_h hw 90 rfl))) (mvT hZ (own_h hw 90 rfl)) (mvT hZ (own_h hw 89 rfl)) (by decide) (backOf (W := 0) (rmX2 l Z a0 hw [] a d kd c cs h0 n0 O0 Fc Fv Vd Ea hC hc0) hZ (own_h hw 91 rfl) (own_h hw 7 rfl) (by decide) (by decide)) q1a q1c (g := (mkF mm 3 #[.val (.ref a), .val (.int c)] [(.int (0 : Int32)), (.int c), (.ref a)])) rfl (by rw [hml]; rfl) (Steps.refl _) (argsL := [(.int c), (.int (0 : Int32))]) (rest := []) (lenOf pd_188 rfl) rfl (Nat.le_of_eq rfl) (hb hby d18_3) (fun _ _ => ⟨rfl, e0, (by decide : 0 + 0 ≤ _), (by decide : 0 + 0 ≤ _)⟩)
  dsimp only [Pt.U, Pt.locs, Pt.cells, Pt.slots] at X1 l1 y1 z1 st1 hQ1
  subst l1 y1 z1
  obtain ⟨r1, rfl, N1q, e1, hr1⟩ := hQ1
  have N1 := Fr.app N0 N1q
  refine own_end X1 (v := some (.int r1)) (fun h => by rw [Bd.returns] at h; cases h) (by decide) (by decide) (fun fs hr => pre0 _ ?_) ?_
  · show Steps pg.tables ee below (s₁.setTop (mkF mm 0 #[.val (.ref a), .val (.int c)] [])) _
    refine XS.aloadN X0.here hx rfl (hb hby d18_0) rfl rfl ?_
    refine XS.iloadN X0.here hx rfl (hb hby d18_1) rfl ?_
    refine XS.iconst X0.here hx rfl (hb hby d18_2) ?_
    refine st1.trans ?_
    exact retOut X1 hx Bd.returns rfl (Or.inl ⟨rfl, Or.inl rfl, _, rfl⟩) (hb hby d18_6) hr
  · show QX Z c h0 n0 _ T1.heap _
    rw [e1]
    exact ⟨_, rfl, N1, rfl, hr1⟩
theorem d1_0 : decode method_3_code 0 = .ok (.iload_n 0, 1) := by decide +kernel
theorem d1_1 : decode method_3_code 1 = .ok (.bipush 16, 2) := by decide +kernel
theorem d1_3 : decode method_3_code 3 = .ok (.iushr, 1) := by decide +kernel
theorem d1_4 : decode method_3_code 4 = .ok (.iconst 1, 1) := by decide +kernel
theorem d1_5 : decode method_3_code 5 = .ok (.iand, 1) := by decide +kernel
theorem d1_6 : decode method_3_code 6 = .ok (.ifCond .ne 9, 3) := by decide +kernel
theorem d1_9 : decode method_3_code 9 = .ok (.iload_n 0, 1) := by decide +kernel
theorem d1_10 : decode method_3_code 10 = .ok (.bipush 127, 2) := by decide +kernel
theorem d1_12 : decode method_3_code 12 = .ok (.iand, 1) := by decide +kernel
theorem d1_13 : decode method_3_code 13 = .ok (.i2c, 1) := by decide +kernel
theorem d1_14 : decode method_3_code 14 = .ok (.ireturn, 1) := by decide +kernel
theorem d1_15 : decode method_3_code 15 = .ok (.iload_n 0, 1) := by decide +kernel
theorem d1_16 : decode method_3_code 16 = .ok (.i2c, 1) := by decide +kernel
theorem d1_17 : decode method_3_code 17 = .ok (.ireturn, 1) := by decide +kernel
theorem pn_239 : plainName "com/example/waxwing/waxwing/http/HeadTokenPinLaw" = true := by first | (simp [plainName, overriddenIn]; done) | decide +kernel
theorem ef_1_240 (m : MethodId) (x0 : Int32) : entryFrame m #[(.int x0)] 1 = mkF m 0 #[.val (.int x0)] [] := by first | (simp [entryFrame, mkF, argsToLocals, Value.category]; done) | rfl
def QrmDr (Z : State) (p : Int32) (h0 : Heap) (n0 : Nat) (v : Option Value) (h : Heap) (L : List Loc) : Prop := ∃ r : Int32, v = some (.int r) ∧ Fr n0 L ∧ h = h0 ∧ ¬ (r < (0 : Int32)) ∧ ¬ ((65535 : Int32) < r)
set_option maxRecDepth 65536 in
set_option maxHeartbeats 40000000 in
theorem rmDr (l : Launch) (Z : State) (a0 : Array Value) (hw : ∀ d ∈ tables_1, d.before a0 Z = true) (ws : List Jvm.Cond) (p : Int32) (h0 : Heap) (n0 : Nat) (O0 : Old Z n0 h0)  :
    own_M l Z h0 (⟨"com/example/waxwing/waxwing/http/HeadTokenPinLaw", "draw", "(I)C"⟩ : MethodName) method_3_code 1 (some .char) ws ({ frames := 0, cells := 0, slots := 0, locals := 0 } : Room) #[(.int p)] (QrmDr Z p h0 n0) := by
  refine own_start (plainFor_of_name pn_239) ?_
  intro pg ee s mm below meth cc s₁ Bd hZ hh hx hby hml hown0 hnm X0 e0
  have hown : s.vm.findClass "com/example/waxwing/waxwing/http/HeadTokenPinLaw" = some mm.cls := hown0
  have N0 := Fr.nil n0
  have pre0 := fun tg_ => castTop (tb := pg.tables) (e := ee) (below := below) (T := s₁) (t := tg_) (ef_1_240 mm p)
  have pre1 := fun tg_ (k_ : Steps pg.tables ee below (s₁.setTop (mkF mm 6 #[.val (.int p)] [(.int (((p.toUInt32 >>> ((16 : Int32) &&& 31).toUInt32).toInt32) &&& (1 : Int32)))])) tg_) => pre0 tg_ (by
    show Steps pg.tables ee below (s₁.setTop (mkF mm 0 #[.val (.int p)] [])) _
    refine XS.iloadN X0.here hx rfl (hb hby d1_0) rfl ?_
    refine XS.bipush X0.here hx rfl (hb hby d1_1) ?_
    refine XS.iushr X0.here hx rfl (hb hby d1_3) rfl ?_
    refine XS.iconst X0.here hx rfl (hb hby d1_4) ?_
    refine XS.iand X0.here hx rfl (hb hby d1_5) rfl ?_
    exact k_)
  by_cases hc2 : (((p.toUInt32 >>> ((16 : Int32) &&& 31).toUInt32).toInt32) &&& (1 : Int32)) = (0 : Int32)
  · refine own_end X0 (v := some (.int (nar .char ((p &&& (127 : Int32)).toUInt32.toUInt16.toUInt32.toInt32)))) (fun h => by rw [Bd.returns] at h; cases h) (by decide) (by decide) (fun fs hr => pre1 _ ?_) ?_
    · show Steps pg.tables ee below (s₁.setTop (mkF mm 6 #[.val (.int p)] [(.int (((p.toUInt32 >>> ((16 : Int32) &&& 31).toUInt32).toInt32) &&& (1 : Int32)))])) _
      refine XS.ifNo X0.here hx rfl (hb hby d1_6) rfl ((if0 _ _).trans (teq hc2).2) ?_
      refine XS.iloadN X0.here hx rfl (hb hby d1_9) rfl ?_
      refine XS.bipush X0.here hx rfl (hb hby d1_10) ?_
      show Steps pg.tables ee below (s₁.setTop (mkF mm 12 #[.val (.int p)] [(.int (127 : Int32)), (.int p)])) _
      refine XS.iand X0.here hx rfl (hb hby d1_12) rfl ?_
      refine XS.i2c X0.here hx rfl (hb hby d1_13) rfl ?_
      exact retN X0 hx (t := .char) Bd.returns (by simp) (hb hby d1_14) hr
    · show QrmDr Z p h0 n0 _ s₁.heap _
      rw [e0]
      exact ⟨_, rfl, N0, rfl, own_nlo _, own_nhi _⟩
  · refine own_end X0 (v := some (.int (nar .char (p.toUInt32.toUInt16.toUInt32.toInt32)))) (fun h => by rw [Bd.returns] at h; cases h) (by decide) (by decide) (fun fs hr => pre1 _ ?_) ?_
    · show Steps pg.tables ee below (s₁.setTop (mkF mm 6 #[.val (.int p)] [(.int (((p.toUInt32 >>> ((16 : Int32) &&& 31).toUInt32).toInt32) &&& (1 : Int32)))])) _
      refine XS.ifYes X0.here hx rfl (pc0 := 6) (pc' := 15) rfl (hb hby d1_6) rfl ((if0 _ _).trans (feq hc2).2) (by decide) (by decide) ?_
      refine XS.iloadN X0.here hx rfl (hb hby d1_15) rfl ?_
      refine XS.i2c X0.here hx rfl (hb hby d1_16) rfl ?_
      show Steps pg.tables ee below (s₁.setTop (mkF mm 17 #[.val (.int p)] [(.int (p.toUInt32.toUInt16.toUInt32.toInt32))])) _
      exact retN X0 hx (t := .char) Bd.returns (by simp) (hb hby d1_17) hr
    · show QrmDr Z p h0 n0 _ s₁.heap _
      rw [e0]
      exact ⟨_, rfl, N0, rfl, own_nlo _, own_nhi _⟩
def own_s (c : Int32) : Int32 := if c = (33 : Int32) ∨ c = (35 : Int32) ∨ c = (36 : Int32) ∨ c = (37 : Int32) ∨ c = (38 : Int32) ∨ c = (39 : Int32) ∨ c = (42 : Int32) ∨ c = (43 : Int32) ∨ c = (45 : Int32) ∨ c = (46 : Int32) ∨ c = (94 : Int32) ∨ c = (95 : Int32) ∨ c = (96 : Int32) ∨ c = (124 : Int32) ∨ c = (126 : Int32) then 1 else 0
theorem own_tz {c : Int32} (h : ¬ ((¬ (c < (65 : Int32)) ∧ ¬ ((90 : Int32) < c)) ∨ (¬ (c < (97 : Int32)) ∧ ¬ ((122 : Int32) < c)) ∨ (¬ (c < (48 : Int32)) ∧ ¬ ((57 : Int32) < c)))) : nar .boolean (own_s c) = own_t c := by
  unfold own_s own_t
  by_cases q : c = (33 : Int32) ∨ c = (35 : Int32) ∨ c = (36 : Int32) ∨ c = (37 : Int32) ∨ c = (38 : Int32) ∨ c = (39 : Int32) ∨ c = (42 : Int32) ∨ c = (43 : Int32) ∨ c = (45 : Int32) ∨ c = (46 : Int32) ∨ c = (94 : Int32) ∨ c = (95 : Int32) ∨ c = (96 : Int32) ∨ c = (124 : Int32) ∨ c = (126 : Int32)
  · rw [if_pos q, if_pos (Or.inr q)]; decide
  · rw [if_neg q, if_neg (fun z => z.elim h q)]; decide
theorem d12_42 : decode method_4_code 42 = .ok (.iload_n 0, 1) := by decide +kernel
theorem d12_43 : decode method_4_code 43 = .ok (.bipush 33, 2) := by decide +kernel
theorem d12_45 : decode method_4_code 45 = .ok (.if_icmp .eq 87, 3) := by decide +kernel
theorem d12_132 : decode method_4_code 132 = .ok (.iconst 1, 1) := by decide +kernel
theorem d12_133 : decode method_4_code 133 = .ok (.goto 4, 3) := by decide +kernel
theorem d12_48 : decode method_4_code 48 = .ok (.iload_n 0, 1) := by decide +kernel
theorem d12_49 : decode method_4_code 49 = .ok (.bipush 35, 2) := by decide +kernel
theorem d12_51 : decode method_4_code 51 = .ok (.if_icmp .eq 81, 3) := by decide +kernel
theorem d12_54 : decode method_4_code 54 = .ok (.iload_n 0, 1) := by decide +kernel
theorem d12_55 : decode method_4_code 55 = .ok (.bipush 36, 2) := by decide +kernel
theorem d12_57 : decode method_4_code 57 = .ok (.if_icmp .eq 75, 3) := by decide +kernel
theorem d12_60 : decode method_4_code 60 = .ok (.iload_n 0, 1) := by decide +kernel
theorem d12_61 : decode method_4_code 61 = .ok (.bipush 37, 2) := by decide +kernel
theorem d12_63 : decode method_4_code 63 = .ok (.if_icmp .eq 69, 3) := by decide +kernel
theorem d12_66 : decode method_4_code 66 = .ok (.iload_n 0, 1) := by decide +kernel
theorem d12_67 : decode method_4_code 67 = .ok (.bipush 38, 2) := by decide +kernel
theorem d12_69 : decode method_4_code 69 = .ok (.if_icmp .eq 63, 3) := by decide +kernel
theorem d12_72 : decode method_4_code 72 = .ok (.iload_n 0, 1) := by decide +kernel
theorem d12_73 : decode method_4_code 73 = .ok (.bipush 39, 2) := by decide +kernel
theorem d12_75 : decode method_4_code 75 = .ok (.if_icmp .eq 57, 3) := by decide +kernel
theorem d12_78 : decode method_4_code 78 = .ok (.iload_n 0, 1) := by decide +kernel
theorem d12_79 : decode method_4_code 79 = .ok (.bipush 42, 2) := by decide +kernel
theorem d12_81 : decode method_4_code 81 = .ok (.if_icmp .eq 51, 3) := by decide +kernel
theorem d12_84 : decode method_4_code 84 = .ok (.iload_n 0, 1) := by decide +kernel
theorem d12_85 : decode method_4_code 85 = .ok (.bipush 43, 2) := by decide +kernel
theorem d12_87 : decode method_4_code 87 = .ok (.if_icmp .eq 45, 3) := by decide +kernel
theorem d12_90 : decode method_4_code 90 = .ok (.iload_n 0, 1) := by decide +kernel
theorem d12_91 : decode method_4_code 91 = .ok (.bipush 45, 2) := by decide +kernel
theorem d12_93 : decode method_4_code 93 = .ok (.if_icmp .eq 39, 3) := by decide +kernel
theorem d12_96 : decode method_4_code 96 = .ok (.iload_n 0, 1) := by decide +kernel
theorem d12_97 : decode method_4_code 97 = .ok (.bipush 46, 2) := by decide +kernel
theorem d12_99 : decode method_4_code 99 = .ok (.if_icmp .eq 33, 3) := by decide +kernel
theorem d12_102 : decode method_4_code 102 = .ok (.iload_n 0, 1) := by decide +kernel
theorem d12_103 : decode method_4_code 103 = .ok (.bipush 94, 2) := by decide +kernel
theorem d12_105 : decode method_4_code 105 = .ok (.if_icmp .eq 27, 3) := by decide +kernel
theorem d12_108 : decode method_4_code 108 = .ok (.iload_n 0, 1) := by decide +kernel
theorem d12_109 : decode method_4_code 109 = .ok (.bipush 95, 2) := by decide +kernel
theorem d12_111 : decode method_4_code 111 = .ok (.if_icmp .eq 21, 3) := by decide +kernel
theorem d12_114 : decode method_4_code 114 = .ok (.iload_n 0, 1) := by decide +kernel
theorem d12_115 : decode method_4_code 115 = .ok (.bipush 96, 2) := by decide +kernel
theorem d12_117 : decode method_4_code 117 = .ok (.if_icmp .eq 15, 3) := by decide +kernel
theorem d12_120 : decode method_4_code 120 = .ok (.iload_n 0, 1) := by decide +kernel
theorem d12_121 : decode method_4_code 121 = .ok (.bipush 124, 2) := by decide +kernel
theorem d12_123 : decode method_4_code 123 = .ok (.if_icmp .eq 9, 3) := by decide +kernel
theorem d12_126 : decode method_4_code 126 = .ok (.iload_n 0, 1) := by decide +kernel
theorem d12_127 : decode method_4_code 127 = .ok (.bipush 126, 2) := by decide +kernel
theorem d12_129 : decode method_4_code 129 = .ok (.if_icmp .ne 7, 3) := by decide +kernel
theorem d12_136 : decode method_4_code 136 = .ok (.iconst 0, 1) := by decide +kernel
set_option maxRecDepth 65536 in
theorem pcSp {pg : Program} {l : Launch} {ee : Env} {R : Room} {s : State} {mm : MethodId} {args : Array Value} {below : List Frame} {meth : Method} {cc : Code} {T0 : State} {locs : List Loc} {cells slots : Nat} (X0 : Stand pg l ee R s mm args below meth cc T0 locs cells slots) (hx : pg.tables.exec = Jvm.exec) (hby : cc.code = method_4_code) (c : Int32) : ∀ tg_, Steps pg.tables ee below (T0.setTop (mkF mm 137 #[.val (.int c)] [(.int (own_s c))])) tg_ → Steps pg.tables ee below (T0.setTop (mkF mm 42 #[.val (.int c)] [])) tg_ := by
  intro tg_ kk
  have pre0 : ∀ tg_, Steps pg.tables ee below (T0.setTop (mkF mm 42 #[.val (.int c)] [])) tg_ → Steps pg.tables ee below (T0.setTop (mkF mm 42 #[.val (.int c)] [])) tg_ := fun _ k_ => k_
  have pre1 := fun tg_ (k_ : Steps pg.tables ee below (T0.setTop (mkF mm 45 #[.val (.int c)] [(.int (33 : Int32)), (.int c)])) tg_) => pre0 tg_ (by
    show Steps pg.tables ee below (T0.setTop (mkF mm 42 #[.val (.int c)] [])) _
    refine XS.iloadN X0.here hx rfl (hb hby d12_42) rfl ?_
    refine XS.bipush X0.here hx rfl (hb hby d12_43) ?_
    exact k_)
  by_cases hc2 : c = (33 : Int32)
  · have pre3 := fun tg_ (k_ : Steps pg.tables ee below (T0.setTop (mkF mm 137 #[.val (.int c)] [(.int (1 : Int32))])) tg_) => pre1 tg_ (by
      show Steps pg.tables ee below (T0.setTop (mkF mm 45 #[.val (.int c)] [(.int (33 : Int32)), (.int c)])) _
      refine XS.icmpYes X0.here hx rfl (pc0 := 45) (pc' := 132) rfl (hb hby d12_45) rfl (teq hc2).1 (by decide) (by decide) ?_
      refine XS.iconst X0.here hx rfl (hb hby d12_132) ?_
      refine XS.goto X0.here hx rfl (pc0 := 133) (pc' := 137) rfl (hb hby d12_133) (by decide) (by decide) ?_
      exact k_)
    have e_ : own_s c = (1 : Int32) := by rw [hc2]; decide
    rw [e_] at kk
    exact pre3 _ kk
  · have pre4 := fun tg_ (k_ : Steps pg.tables ee below (T0.setTop (mkF mm 51 #[.val (.int c)] [(.int (35 : Int32)), (.int c)])) tg_) => pre1 tg_ (by
      show Steps pg.tables ee below (T0.setTop (mkF mm 45 #[.val (.int c)] [(.int (33 : Int32)), (.int c)])) _
      refine XS.icmpNo X0.here hx rfl (hb hby d12_45) rfl (feq hc2).1 ?_
      refine XS.iloadN X0.here hx rfl (hb hby d12_48) rfl ?_
      refine XS.bipush X0.here hx rfl (hb hby d12_49) ?_
      exact k_)
    by_cases hc5 : c = (35 : Int32)
    · have pre6 := fun tg_ (k_ : Steps pg.tables ee below (T0.setTop (mkF mm 137 #[.val (.int c)] [(.int (1 : Int32))])) tg_) => pre4 tg_ (by
        show Steps pg.tables ee below (T0.setTop (mkF mm 51 #[.val (.int c)] [(.int (35 : Int32)), (.int c)])) _
        refine XS.icmpYes X0.here hx rfl (pc0 := 51) (pc' := 132) rfl (hb hby d12_51) rfl (teq hc5).1 (by decide) (by decide) ?_
        refine XS.iconst X0.here hx rfl (hb hby d12_132) ?_
        refine XS.goto X0.here hx rfl (pc0 := 133) (pc' := 137) rfl (hb hby d12_133) (by decide) (by decide) ?_
        exact k_)
      have e_ : own_s c = (1 : Int32) := by rw [hc5]; decide
      rw [e_] at kk
      exact pre6 _ kk
    · have pre7 := fun tg_ (k_ : Steps pg.tables ee below (T0.setTop (mkF mm 57 #[.val (.int c)] [(.int (36 : Int32)), (.int c)])) tg_) => pre4 tg_ (by
        show Steps pg.tables ee below (T0.setTop (mkF mm 51 #[.val (.int c)] [(.int (35 : Int32)), (.int c)])) _
        refine XS.icmpNo X0.here hx rfl (hb hby d12_51) rfl (feq hc5).1 ?_
        refine XS.iloadN X0.here hx rfl (hb hby d12_54) rfl ?_
        refine XS.bipush X0.here hx rfl (hb hby d12_55) ?_
        exact k_)
      by_cases hc8 : c = (36 : Int32)
      · have pre9 := fun tg_ (k_ : Steps pg.tables ee below (T0.setTop (mkF mm 137 #[.val (.int c)] [(.int (1 : Int32))])) tg_) => pre7 tg_ (by
          show Steps pg.tables ee below (T0.setTop (mkF mm 57 #[.val (.int c)] [(.int (36 : Int32)), (.int c)])) _
          refine XS.icmpYes X0.here hx rfl (pc0 := 57) (pc' := 132) rfl (hb hby d12_57) rfl (teq hc8).1 (by decide) (by decide) ?_
          refine XS.iconst X0.here hx rfl (hb hby d12_132) ?_
          refine XS.goto X0.here hx rfl (pc0 := 133) (pc' := 137) rfl (hb hby d12_133) (by decide) (by decide) ?_
          exact k_)
        have e_ : own_s c = (1 : Int32) := by rw [hc8]; decide
        rw [e_] at kk
        exact pre9 _ kk
      · have pre10 := fun tg_ (k_ : Steps pg.tables ee below (T0.setTop (mkF mm 63 #[.val (.int c)] [(.int (37 : Int32)), (.int c)])) tg_) => pre7 tg_ (by
          show Steps pg.tables ee below (T0.setTop (mkF mm 57 #[.val (.int c)] [(.int (36 : Int32)), (.int c)])) _
          refine XS.icmpNo X0.here hx rfl (hb hby d12_57) rfl (feq hc8).1 ?_
          refine XS.iloadN X0.here hx rfl (hb hby d12_60) rfl ?_
          refine XS.bipush X0.here hx rfl (hb hby d12_61) ?_
          exact k_)
        by_cases hc11 : c = (37 : Int32)
        · have pre12 := fun tg_ (k_ : Steps pg.tables ee below (T0.setTop (mkF mm 137 #[.val (.int c)] [(.int (1 : Int32))])) tg_) => pre10 tg_ (by
            show Steps pg.tables ee below (T0.setTop (mkF mm 63 #[.val (.int c)] [(.int (37 : Int32)), (.int c)])) _
            refine XS.icmpYes X0.here hx rfl (pc0 := 63) (pc' := 132) rfl (hb hby d12_63) rfl (teq hc11).1 (by decide) (by decide) ?_
            refine XS.iconst X0.here hx rfl (hb hby d12_132) ?_
            refine XS.goto X0.here hx rfl (pc0 := 133) (pc' := 137) rfl (hb hby d12_133) (by decide) (by decide) ?_
            exact k_)
          have e_ : own_s c = (1 : Int32) := by rw [hc11]; decide
          rw [e_] at kk
          exact pre12 _ kk
        · have pre13 := fun tg_ (k_ : Steps pg.tables ee below (T0.setTop (mkF mm 69 #[.val (.int c)] [(.int (38 : Int32)), (.int c)])) tg_) => pre10 tg_ (by
            show Steps pg.tables ee below (T0.setTop (mkF mm 63 #[.val (.int c)] [(.int (37 : Int32)), (.int c)])) _
            refine XS.icmpNo X0.here hx rfl (hb hby d12_63) rfl (feq hc11).1 ?_
            refine XS.iloadN X0.here hx rfl (hb hby d12_66) rfl ?_
            refine XS.bipush X0.here hx rfl (hb hby d12_67) ?_
            exact k_)
          by_cases hc14 : c = (38 : Int32)
          · have pre15 := fun tg_ (k_ : Steps pg.tables ee below (T0.setTop (mkF mm 137 #[.val (.int c)] [(.int (1 : Int32))])) tg_) => pre13 tg_ (by
              show Steps pg.tables ee below (T0.setTop (mkF mm 69 #[.val (.int c)] [(.int (38 : Int32)), (.int c)])) _
              refine XS.icmpYes X0.here hx rfl (pc0 := 69) (pc' := 132) rfl (hb hby d12_69) rfl (teq hc14).1 (by decide) (by decide) ?_
              refine XS.iconst X0.here hx rfl (hb hby d12_132) ?_
              show Steps pg.tables ee below (T0.setTop (mkF mm 133 #[.val (.int c)] [(.int (1 : Int32))])) _
              refine XS.goto X0.here hx rfl (pc0 := 133) (pc' := 137) rfl (hb hby d12_133) (by decide) (by decide) ?_
              exact k_)
            have e_ : own_s c = (1 : Int32) := by rw [hc14]; decide
            rw [e_] at kk
            exact pre15 _ kk
          · have pre16 := fun tg_ (k_ : Steps pg.tables ee below (T0.setTop (mkF mm 75 #[.val (.int c)] [(.int (39 : Int32)), (.int c)])) tg_) => pre13 tg_ (by
              show Steps pg.tables ee below (T0.setTop (mkF mm 69 #[.val (.int c)] [(.int (38 : Int32)), (.int c)])) _
              refine XS.icmpNo X0.here hx rfl (hb hby d12_69) rfl (feq hc14).1 ?_
              refine XS.iloadN X0.here hx rfl (hb hby d12_72) rfl ?_
              show Steps pg.tables ee below (T0.setTop (mkF mm 73 #[.val (.int c)] [(.int c)])) _
              refine XS.bipush X0.here hx rfl (hb hby d12_73) ?_
              exact k_)
            by_cases hc17 : c = (39 : Int32)
            · have pre18 := fun tg_ (k_ : Steps pg.tables ee below (T0.setTop (mkF mm 137 #[.val (.int c)] [(.int (1 : Int32))])) tg_) => pre16 tg_ (by
                show Steps pg.tables ee below (T0.setTop (mkF mm 75 #[.val (.int c)] [(.int (39 : Int32)), (.int c)])) _
                refine XS.icmpYes X0.here hx rfl (pc0 := 75) (pc' := 132) rfl (hb hby d12_75) rfl (teq hc17).1 (by decide) (by decide) ?_
                refine XS.iconst X0.here hx rfl (hb hby d12_132) ?_
                refine XS.goto X0.here hx rfl (pc0 := 133) (pc' := 137) rfl (hb hby d12_133) (by decide) (by decide) ?_
                exact k_)
              have e_ : own_s c = (1 : Int32) := by rw [hc17]; decide
              rw [e_] at kk
              exact pre18 _ kk
            · have pre19 := fun tg_ (k_ : Steps pg.tables ee below (T0.setTop (mkF mm 81 #[.val (.int c)] [(.int (42 : Int32)), (.int c)])) tg_) => pre16 tg_ (by
                show Steps pg.tables ee below (T0.setTop (mkF mm 75 #[.val (.int c)] [(.int (39 : Int32)), (.int c)])) _
                refine XS.icmpNo X0.here hx rfl (hb hby d12_75) rfl (feq hc17).1 ?_
                refine XS.iloadN X0.here hx rfl (hb hby d12_78) rfl ?_
                refine XS.bipush X0.here hx rfl (hb hby d12_79) ?_
                exact k_)
              by_cases hc20 : c = (42 : Int32)
              · have pre21 := fun tg_ (k_ : Steps pg.tables ee below (T0.setTop (mkF mm 137 #[.val (.int c)] [(.int (1 : Int32))])) tg_) => pre19 tg_ (by
                  show Steps pg.tables ee below (T0.setTop (mkF mm 81 #[.val (.int c)] [(.int (42 : Int32)), (.int c)])) _
                  refine XS.icmpYes X0.here hx rfl (pc0 := 81) (pc' := 132) rfl (hb hby d12_81) rfl (teq hc20).1 (by decide) (by decide) ?_
                  refine XS.iconst X0.here hx rfl (hb hby d12_132) ?_
                  refine XS.goto X0.here hx rfl (pc0 := 133) (pc' := 137) rfl (hb hby d12_133) (by decide) (by decide) ?_
                  exact k_)
                have e_ : own_s c = (1 : Int32) := by rw [hc20]; decide
                rw [e_] at kk
                exact pre21 _ kk
              · have pre22 := fun tg_ (k_ : Steps pg.tables ee below (T0.setTop (mkF mm 87 #[.val (.int c)] [(.int (43 : Int32)), (.int c)])) tg_) => pre19 tg_ (by
                  show Steps pg.tables ee below (T0.setTop (mkF mm 81 #[.val (.int c)] [(.int (42 : Int32)), (.int c)])) _
                  refine XS.icmpNo X0.here hx rfl (hb hby d12_81) rfl (feq hc20).1 ?_
                  refine XS.iloadN X0.here hx rfl (hb hby d12_84) rfl ?_
                  refine XS.bipush X0.here hx rfl (hb hby d12_85) ?_
                  exact k_)
                by_cases hc23 : c = (43 : Int32)
                · have pre24 := fun tg_ (k_ : Steps pg.tables ee below (T0.setTop (mkF mm 137 #[.val (.int c)] [(.int (1 : Int32))])) tg_) => pre22 tg_ (by
                    show Steps pg.tables ee below (T0.setTop (mkF mm 87 #[.val (.int c)] [(.int (43 : Int32)), (.int c)])) _
                    refine XS.icmpYes X0.here hx rfl (pc0 := 87) (pc' := 132) rfl (hb hby d12_87) rfl (teq hc23).1 (by decide) (by decide) ?_
                    show Steps pg.tables ee below (T0.setTop (mkF mm 132 #[.val (.int c)] [])) _
                    refine XS.iconst X0.here hx rfl (hb hby d12_132) ?_
                    refine XS.goto X0.here hx rfl (pc0 := 133) (pc' := 137) rfl (hb hby d12_133) (by decide) (by decide) ?_
                    exact k_)
                  have e_ : own_s c = (1 : Int32) := by rw [hc23]; decide
                  rw [e_] at kk
                  exact pre24 _ kk
                · have pre25 := fun tg_ (k_ : Steps pg.tables ee below (T0.setTop (mkF mm 93 #[.val (.int c)] [(.int (45 : Int32)), (.int c)])) tg_) => pre22 tg_ (by
                    show Steps pg.tables ee below (T0.setTop (mkF mm 87 #[.val (.int c)] [(.int (43 : Int32)), (.int c)])) _
                    refine XS.icmpNo X0.here hx rfl (hb hby d12_87) rfl (feq hc23).1 ?_
                    show Steps pg.tables ee below (T0.setTop (mkF mm 90 #[.val (.int c)] [])) _
                    refine XS.iloadN X0.here hx rfl (hb hby d12_90) rfl ?_
                    refine XS.bipush X0.here hx rfl (hb hby d12_91) ?_
                    exact k_)
                  by_cases hc26 : c = (45 : Int32)
                  · have pre27 := fun tg_ (k_ : Steps pg.tables ee below (T0.setTop (mkF mm 137 #[.val (.int c)] [(.int (1 : Int32))])) tg_) => pre25 tg_ (by
                      show Steps pg.tables ee below (T0.setTop (mkF mm 93 #[.val (.int c)] [(.int (45 : Int32)), (.int c)])) _
                      refine XS.icmpYes X0.here hx rfl (pc0 := 93) (pc' := 132) rfl (hb hby d12_93) rfl (teq hc26).1 (by decide) (by decide) ?_
                      refine XS.iconst X0.here hx rfl (hb hby d12_132) ?_
                      refine XS.goto X0.here hx rfl (pc0 := 133) (pc' := 137) rfl (hb hby d12_133) (by decide) (by decide) ?_
                      exact k_)
                    have e_ : own_s c = (1 : Int32) := by rw [hc26]; decide
                    rw [e_] at kk
                    exact pre27 _ kk
                  · have pre28 := fun tg_ (k_ : Steps pg.tables ee below (T0.setTop (mkF mm 99 #[.val (.int c)] [(.int (46 : Int32)), (.int c)])) tg_) => pre25 tg_ (by
                      show Steps pg.tables ee below (T0.setTop (mkF mm 93 #[.val (.int c)] [(.int (45 : Int32)), (.int c)])) _
                      refine XS.icmpNo X0.here hx rfl (hb hby d12_93) rfl (feq hc26).1 ?_
                      refine XS.iloadN X0.here hx rfl (hb hby d12_96) rfl ?_
                      refine XS.bipush X0.here hx rfl (hb hby d12_97) ?_
                      exact k_)
                    by_cases hc29 : c = (46 : Int32)
                    · have pre30 := fun tg_ (k_ : Steps pg.tables ee below (T0.setTop (mkF mm 137 #[.val (.int c)] [(.int (1 : Int32))])) tg_) => pre28 tg_ (by
                        show Steps pg.tables ee below (T0.setTop (mkF mm 99 #[.val (.int c)] [(.int (46 : Int32)), (.int c)])) _
                        refine XS.icmpYes X0.here hx rfl (pc0 := 99) (pc' := 132) rfl (hb hby d12_99) rfl (teq hc29).1 (by decide) (by decide) ?_
                        refine XS.iconst X0.here hx rfl (hb hby d12_132) ?_
                        refine XS.goto X0.here hx rfl (pc0 := 133) (pc' := 137) rfl (hb hby d12_133) (by decide) (by decide) ?_
                        exact k_)
                      have e_ : own_s c = (1 : Int32) := by rw [hc29]; decide
                      rw [e_] at kk
                      exact pre30 _ kk
                    · have pre31 := fun tg_ (k_ : Steps pg.tables ee below (T0.setTop (mkF mm 105 #[.val (.int c)] [(.int (94 : Int32)), (.int c)])) tg_) => pre28 tg_ (by
                        show Steps pg.tables ee below (T0.setTop (mkF mm 99 #[.val (.int c)] [(.int (46 : Int32)), (.int c)])) _
                        refine XS.icmpNo X0.here hx rfl (hb hby d12_99) rfl (feq hc29).1 ?_
                        refine XS.iloadN X0.here hx rfl (hb hby d12_102) rfl ?_
                        refine XS.bipush X0.here hx rfl (hb hby d12_103) ?_
                        exact k_)
                      by_cases hc32 : c = (94 : Int32)
                      · have pre33 := fun tg_ (k_ : Steps pg.tables ee below (T0.setTop (mkF mm 137 #[.val (.int c)] [(.int (1 : Int32))])) tg_) => pre31 tg_ (by
                          show Steps pg.tables ee below (T0.setTop (mkF mm 105 #[.val (.int c)] [(.int (94 : Int32)), (.int c)])) _
                          refine XS.icmpYes X0.here hx rfl (pc0 := 105) (pc' := 132) rfl (hb hby d12_105) rfl (teq hc32).1 (by decide) (by decide) ?_
                          refine XS.iconst X0.here hx rfl (hb hby d12_132) ?_
                          refine XS.goto X0.here hx rfl (pc0 := 133) (pc' := 137) rfl (hb hby d12_133) (by decide) (by decide) ?_
                          exact k_)
                        have e_ : own_s c = (1 : Int32) := by rw [hc32]; decide
                        rw [e_] at kk
                        exact pre33 _ kk
                      · have pre34 := fun tg_ (k_ : Steps pg.tables ee below (T0.setTop (mkF mm 111 #[.val (.int c)] [(.int (95 : Int32)), (.int c)])) tg_) => pre31 tg_ (by
                          show Steps pg.tables ee below (T0.setTop (mkF mm 105 #[.val (.int c)] [(.int (94 : Int32)), (.int c)])) _
                          refine XS.icmpNo X0.here hx rfl (hb hby d12_105) rfl (feq hc32).1 ?_
                          refine XS.iloadN X0.here hx rfl (hb hby d12_108) rfl ?_
                          refine XS.bipush X0.here hx rfl (hb hby d12_109) ?_
                          exact k_)
                        by_cases hc35 : c = (95 : Int32)
                        · have pre36 := fun tg_ (k_ : Steps pg.tables ee below (T0.setTop (mkF mm 137 #[.val (.int c)] [(.int (1 : Int32))])) tg_) => pre34 tg_ (by
                            show Steps pg.tables ee below (T0.setTop (mkF mm 111 #[.val (.int c)] [(.int (95 : Int32)), (.int c)])) _
                            refine XS.icmpYes X0.here hx rfl (pc0 := 111) (pc' := 132) rfl (hb hby d12_111) rfl (teq hc35).1 (by decide) (by decide) ?_
                            refine XS.iconst X0.here hx rfl (hb hby d12_132) ?_
                            refine XS.goto X0.here hx rfl (pc0 := 133) (pc' := 137) rfl (hb hby d12_133) (by decide) (by decide) ?_
                            exact k_)
                          have e_ : own_s c = (1 : Int32) := by rw [hc35]; decide
                          rw [e_] at kk
                          exact pre36 _ kk
                        · have pre37 := fun tg_ (k_ : Steps pg.tables ee below (T0.setTop (mkF mm 117 #[.val (.int c)] [(.int (96 : Int32)), (.int c)])) tg_) => pre34 tg_ (by
                            show Steps pg.tables ee below (T0.setTop (mkF mm 111 #[.val (.int c)] [(.int (95 : Int32)), (.int c)])) _
                            refine XS.icmpNo X0.here hx rfl (hb hby d12_111) rfl (feq hc35).1 ?_
                            refine XS.iloadN X0.here hx rfl (hb hby d12_114) rfl ?_
                            refine XS.bipush X0.here hx rfl (hb hby d12_115) ?_
                            exact k_)
                          by_cases hc38 : c = (96 : Int32)
                          · have pre39 := fun tg_ (k_ : Steps pg.tables ee below (T0.setTop (mkF mm 137 #[.val (.int c)] [(.int (1 : Int32))])) tg_) => pre37 tg_ (by
                              show Steps pg.tables ee below (T0.setTop (mkF mm 117 #[.val (.int c)] [(.int (96 : Int32)), (.int c)])) _
                              refine XS.icmpYes X0.here hx rfl (pc0 := 117) (pc' := 132) rfl (hb hby d12_117) rfl (teq hc38).1 (by decide) (by decide) ?_
                              refine XS.iconst X0.here hx rfl (hb hby d12_132) ?_
                              show Steps pg.tables ee below (T0.setTop (mkF mm 133 #[.val (.int c)] [(.int (1 : Int32))])) _
                              refine XS.goto X0.here hx rfl (pc0 := 133) (pc' := 137) rfl (hb hby d12_133) (by decide) (by decide) ?_
                              exact k_)
                            have e_ : own_s c = (1 : Int32) := by rw [hc38]; decide
                            rw [e_] at kk
                            exact pre39 _ kk
                          · have pre40 := fun tg_ (k_ : Steps pg.tables ee below (T0.setTop (mkF mm 123 #[.val (.int c)] [(.int (124 : Int32)), (.int c)])) tg_) => pre37 tg_ (by
                              show Steps pg.tables ee below (T0.setTop (mkF mm 117 #[.val (.int c)] [(.int (96 : Int32)), (.int c)])) _
                              refine XS.icmpNo X0.here hx rfl (hb hby d12_117) rfl (feq hc38).1 ?_
                              refine XS.iloadN X0.here hx rfl (hb hby d12_120) rfl ?_
                              show Steps pg.tables ee below (T0.setTop (mkF mm 121 #[.val (.int c)] [(.int c)])) _
                              refine XS.bipush X0.here hx rfl (hb hby d12_121) ?_
                              exact k_)
                            by_cases hc41 : c = (124 : Int32)
                            · have pre42 := fun tg_ (k_ : Steps pg.tables ee below (T0.setTop (mkF mm 137 #[.val (.int c)] [(.int (1 : Int32))])) tg_) => pre40 tg_ (by
                                show Steps pg.tables ee below (T0.setTop (mkF mm 123 #[.val (.int c)] [(.int (124 : Int32)), (.int c)])) _
                                refine XS.icmpYes X0.here hx rfl (pc0 := 123) (pc' := 132) rfl (hb hby d12_123) rfl (teq hc41).1 (by decide) (by decide) ?_
                                refine XS.iconst X0.here hx rfl (hb hby d12_132) ?_
                                refine XS.goto X0.here hx rfl (pc0 := 133) (pc' := 137) rfl (hb hby d12_133) (by decide) (by decide) ?_
                                exact k_)
                              have e_ : own_s c = (1 : Int32) := by rw [hc41]; decide
                              rw [e_] at kk
                              exact pre42 _ kk
                            · have pre43 := fun tg_ (k_ : Steps pg.tables ee below (T0.setTop (mkF mm 129 #[.val (.int c)] [(.int (126 : Int32)), (.int c)])) tg_) => pre40 tg_ (by
                                show Steps pg.tables ee below (T0.setTop (mkF mm 123 #[.val (.int c)] [(.int (124 : Int32)), (.int c)])) _
                                refine XS.icmpNo X0.here hx rfl (hb hby d12_123) rfl (feq hc41).1 ?_
                                refine XS.iloadN X0.here hx rfl (hb hby d12_126) rfl ?_
                                refine XS.bipush X0.here hx rfl (hb hby d12_127) ?_
                                exact k_)
                              by_cases hc44 : c = (126 : Int32)
                              · have pre45 := fun tg_ (k_ : Steps pg.tables ee below (T0.setTop (mkF mm 137 #[.val (.int c)] [(.int (1 : Int32))])) tg_) => pre43 tg_ (by
                                  show Steps pg.tables ee below (T0.setTop (mkF mm 129 #[.val (.int c)] [(.int (126 : Int32)), (.int c)])) _
                                  refine XS.icmpNo X0.here hx rfl (hb hby d12_129) rfl (teq hc44).2 ?_
                                  refine XS.iconst X0.here hx rfl (hb hby d12_132) ?_
                                  refine XS.goto X0.here hx rfl (pc0 := 133) (pc' := 137) rfl (hb hby d12_133) (by decide) (by decide) ?_
                                  exact k_)
                                have e_ : own_s c = (1 : Int32) := by rw [hc44]; decide
                                rw [e_] at kk
                                exact pre45 _ kk
                              · have pre46 := fun tg_ (k_ : Steps pg.tables ee below (T0.setTop (mkF mm 137 #[.val (.int c)] [(.int (0 : Int32))])) tg_) => pre43 tg_ (by
                                  show Steps pg.tables ee below (T0.setTop (mkF mm 129 #[.val (.int c)] [(.int (126 : Int32)), (.int c)])) _
                                  refine XS.icmpYes X0.here hx rfl (pc0 := 129) (pc' := 136) rfl (hb hby d12_129) rfl (feq hc44).2 (by decide) (by decide) ?_
                                  refine XS.iconst X0.here hx rfl (hb hby d12_136) ?_
                                  exact k_)
                                have e_ : own_s c = (0 : Int32) := by simp [own_s, hc2, hc5, hc8, hc11, hc14, hc17, hc20, hc23, hc26, hc29, hc32, hc35, hc38, hc41, hc44]
                                rw [e_] at kk
                                exact pre46 _ kk
theorem d12_0 : decode method_4_code 0 = .ok (.iload_n 0, 1) := by decide +kernel
theorem d12_1 : decode method_4_code 1 = .ok (.bipush 65, 2) := by decide +kernel
theorem d12_3 : decode method_4_code 3 = .ok (.if_icmp .lt 11, 3) := by decide +kernel
theorem d12_14 : decode method_4_code 14 = .ok (.iload_n 0, 1) := by decide +kernel
theorem d12_15 : decode method_4_code 15 = .ok (.bipush 97, 2) := by decide +kernel
theorem d12_17 : decode method_4_code 17 = .ok (.if_icmp .lt 11, 3) := by decide +kernel
theorem d12_28 : decode method_4_code 28 = .ok (.iload_n 0, 1) := by decide +kernel
theorem d12_29 : decode method_4_code 29 = .ok (.bipush 48, 2) := by decide +kernel
theorem d12_31 : decode method_4_code 31 = .ok (.if_icmp .lt 11, 3) := by decide +kernel
theorem d12_137 : decode method_4_code 137 = .ok (.ireturn, 1) := by decide +kernel
theorem d12_34 : decode method_4_code 34 = .ok (.iload_n 0, 1) := by decide +kernel
theorem d12_35 : decode method_4_code 35 = .ok (.bipush 57, 2) := by decide +kernel
theorem d12_37 : decode method_4_code 37 = .ok (.if_icmp .gt 5, 3) := by decide +kernel
theorem d12_40 : decode method_4_code 40 = .ok (.iconst 1, 1) := by decide +kernel
theorem d12_41 : decode method_4_code 41 = .ok (.ireturn, 1) := by decide +kernel
theorem d12_20 : decode method_4_code 20 = .ok (.iload_n 0, 1) := by decide +kernel
theorem d12_21 : decode method_4_code 21 = .ok (.bipush 122, 2) := by decide +kernel
theorem d12_23 : decode method_4_code 23 = .ok (.if_icmp .gt 5, 3) := by decide +kernel
theorem d12_26 : decode method_4_code 26 = .ok (.iconst 1, 1) := by decide +kernel
theorem d12_27 : decode method_4_code 27 = .ok (.ireturn, 1) := by decide +kernel
theorem d12_6 : decode method_4_code 6 = .ok (.iload_n 0, 1) := by decide +kernel
theorem d12_7 : decode method_4_code 7 = .ok (.bipush 90, 2) := by decide +kernel
theorem d12_9 : decode method_4_code 9 = .ok (.if_icmp .gt 5, 3) := by decide +kernel
theorem d12_12 : decode method_4_code 12 = .ok (.iconst 1, 1) := by decide +kernel
theorem d12_13 : decode method_4_code 13 = .ok (.ireturn, 1) := by decide +kernel
theorem ef_12_314 (m : MethodId) (x0 : Int32) : entryFrame m #[(.int x0)] 1 = mkF m 0 #[.val (.int x0)] [] := by first | (simp [entryFrame, mkF, argsToLocals, Value.category]; done) | rfl
def QrmTc (Z : State) (c : Int32) (h0 : Heap) (n0 : Nat) (v : Option Value) (h : Heap) (L : List Loc) : Prop := v = some (.int (own_t c)) ∧ Fr n0 L ∧ h = h0
set_option maxRecDepth 65536 in
set_option maxHeartbeats 40000000 in
theorem rmTc (l : Launch) (Z : State) (a0 : Array Value) (hw : ∀ d ∈ tables_1, d.before a0 Z = true) (ws : List Jvm.Cond) (c : Int32) (h0 : Heap) (n0 : Nat) (O0 : Old Z n0 h0)  :
    own_M l Z h0 (⟨"com/example/waxwing/waxwing/http/HeadTokenPinLaw", "tchar", "(C)Z"⟩ : MethodName) method_4_code 1 (some .boolean) ws ({ frames := 0, cells := 0, slots := 0, locals := 0 } : Room) #[(.int c)] (QrmTc Z c h0 n0) := by
  refine own_start (plainFor_of_name pn_239) ?_
  intro pg ee s mm below meth cc s₁ Bd hZ hh hx hby hml hown0 hnm X0 e0
  have hown : s.vm.findClass "com/example/waxwing/waxwing/http/HeadTokenPinLaw" = some mm.cls := hown0
  have N0 := Fr.nil n0
  have pre0 := fun tg_ => castTop (tb := pg.tables) (e := ee) (below := below) (T := s₁) (t := tg_) (ef_12_314 mm c)
  have pre1 := fun tg_ (k_ : Steps pg.tables ee below (s₁.setTop (mkF mm 3 #[.val (.int c)] [(.int (65 : Int32)), (.int c)])) tg_) => pre0 tg_ (by
    show Steps pg.tables ee below (s₁.setTop (mkF mm 0 #[.val (.int c)] [])) _
    refine XS.iloadN X0.here hx rfl (hb hby d12_0) rfl ?_
    refine XS.bipush X0.here hx rfl (hb hby d12_1) ?_
    exact k_)
  by_cases hc2 : c < (65 : Int32)
  · have pre3 := fun tg_ (k_ : Steps pg.tables ee below (s₁.setTop (mkF mm 17 #[.val (.int c)] [(.int (97 : Int32)), (.int c)])) tg_) => pre1 tg_ (by
      show Steps pg.tables ee below (s₁.setTop (mkF mm 3 #[.val (.int c)] [(.int (65 : Int32)), (.int c)])) _
      refine XS.icmpYes X0.here hx rfl (pc0 := 3) (pc' := 14) rfl (hb hby d12_3) rfl (tlt hc2).1 (by decide) (by decide) ?_
      refine XS.iloadN X0.here hx rfl (hb hby d12_14) rfl ?_
      refine XS.bipush X0.here hx rfl (hb hby d12_15) ?_
      exact k_)
    by_cases hc4 : c < (97 : Int32)
    · have pre5 := fun tg_ (k_ : Steps pg.tables ee below (s₁.setTop (mkF mm 31 #[.val (.int c)] [(.int (48 : Int32)), (.int c)])) tg_) => pre3 tg_ (by
        show Steps pg.tables ee below (s₁.setTop (mkF mm 17 #[.val (.int c)] [(.int (97 : Int32)), (.int c)])) _
        refine XS.icmpYes X0.here hx rfl (pc0 := 17) (pc' := 28) rfl (hb hby d12_17) rfl (tlt hc4).1 (by decide) (by decide) ?_
        refine XS.iloadN X0.here hx rfl (hb hby d12_28) rfl ?_
        refine XS.bipush X0.here hx rfl (hb hby d12_29) ?_
        exact k_)
      by_cases hc6 : c < (48 : Int32)
      · have pre7 := fun tg_ (k_ : Steps pg.tables ee below (s₁.setTop (mkF mm 42 #[.val (.int c)] [])) tg_) => pre5 tg_ (by
          show Steps pg.tables ee below (s₁.setTop (mkF mm 31 #[.val (.int c)] [(.int (48 : Int32)), (.int c)])) _
          refine XS.icmpYes X0.here hx rfl (pc0 := 31) (pc' := 42) rfl (hb hby d12_31) rfl (tlt hc6).1 (by decide) (by decide) ?_
          exact k_)
        have pre8 : ∀ tg_, Steps pg.tables ee below (s₁.setTop (mkF mm 137 #[.val (.int c)] [(.int (own_s c))])) tg_ → Steps pg.tables ee below (s₁.setTop (entryFrame mm #[(.int c)] 1)) tg_ := fun tg_ k_ => pre7 tg_ (pcSp X0 hx hby c tg_ k_)
        refine own_end X0 (v := some (.int (nar .boolean (own_s c)))) (fun h => by rw [Bd.returns] at h; cases h) (by decide) (by decide) (fun fs hr => pre8 _ ?_) ?_
        · show Steps pg.tables ee below (s₁.setTop (mkF mm 137 #[.val (.int c)] [(.int (own_s c))])) _
          exact retN X0 hx (t := .boolean) Bd.returns (by simp) (hb hby d12_137) hr
        · show QrmTc Z c h0 n0 _ s₁.heap _
          rw [e0]
          exact ⟨congrArg (fun z => some (Value.int z)) (own_tz (by simp [hc2, hc4, hc6])), N0, rfl⟩
      · have pre9 := fun tg_ (k_ : Steps pg.tables ee below (s₁.setTop (mkF mm 37 #[.val (.int c)] [(.int (57 : Int32)), (.int c)])) tg_) => pre5 tg_ (by
          show Steps pg.tables ee below (s₁.setTop (mkF mm 31 #[.val (.int c)] [(.int (48 : Int32)), (.int c)])) _
          refine XS.icmpNo X0.here hx rfl (hb hby d12_31) rfl (flt hc6).1 ?_
          refine XS.iloadN X0.here hx rfl (hb hby d12_34) rfl ?_
          refine XS.bipush X0.here hx rfl (hb hby d12_35) ?_
          exact k_)
        by_cases hc10 : (57 : Int32) < c
        · have pre11 := fun tg_ (k_ : Steps pg.tables ee below (s₁.setTop (mkF mm 42 #[.val (.int c)] [])) tg_) => pre9 tg_ (by
            show Steps pg.tables ee below (s₁.setTop (mkF mm 37 #[.val (.int c)] [(.int (57 : Int32)), (.int c)])) _
            refine XS.icmpYes X0.here hx rfl (pc0 := 37) (pc' := 42) rfl (hb hby d12_37) rfl (tlt hc10).2.2.1 (by decide) (by decide) ?_
            exact k_)
          have pre12 : ∀ tg_, Steps pg.tables ee below (s₁.setTop (mkF mm 137 #[.val (.int c)] [(.int (own_s c))])) tg_ → Steps pg.tables ee below (s₁.setTop (entryFrame mm #[(.int c)] 1)) tg_ := fun tg_ k_ => pre11 tg_ (pcSp X0 hx hby c tg_ k_)
          refine own_end X0 (v := some (.int (nar .boolean (own_s c)))) (fun h => by rw [Bd.returns] at h; cases h) (by decide) (by decide) (fun fs hr => pre12 _ ?_) ?_
          · show Steps pg.tables ee below (s₁.setTop (mkF mm 137 #[.val (.int c)] [(.int (own_s c))])) _
            exact retN X0 hx (t := .boolean) Bd.returns (by simp) (hb hby d12_137) hr
          · show QrmTc Z c h0 n0 _ s₁.heap _
            rw [e0]
            exact ⟨congrArg (fun z => some (Value.int z)) (own_tz (by simp [hc2, hc4, hc6, hc10])), N0, rfl⟩
        · refine own_end X0 (v := some (.int (1 : Int32))) (fun h => by rw [Bd.returns] at h; cases h) (by decide) (by decide) (fun fs hr => pre9 _ ?_) ?_
          · show Steps pg.tables ee below (s₁.setTop (mkF mm 37 #[.val (.int c)] [(.int (57 : Int32)), (.int c)])) _
            refine XS.icmpNo X0.here hx rfl (hb hby d12_37) rfl (flt hc10).2.2.1 ?_
            refine XS.iconst X0.here hx rfl (hb hby d12_40) ?_
            exact retN X0 hx (t := .boolean) Bd.returns (by simp) (hb hby d12_41) hr
          · show QrmTc Z c h0 n0 _ s₁.heap _
            rw [e0]
            exact ⟨congrArg (fun z => some (Value.int z)) ((by simp [own_t, hc2, hc4, hc6, hc10] : (1 : Int32) = own_t c)), N0, rfl⟩
    · have pre13 := fun tg_ (k_ : Steps pg.tables ee below (s₁.setTop (mkF mm 23 #[.val (.int c)] [(.int (122 : Int32)), (.int c)])) tg_) => pre3 tg_ (by
        show Steps pg.tables ee below (s₁.setTop (mkF mm 17 #[.val (.int c)] [(.int (97 : Int32)), (.int c)])) _
        refine XS.icmpNo X0.here hx rfl (hb hby d12_17) rfl (flt hc4).1 ?_
        refine XS.iloadN X0.here hx rfl (hb hby d12_20) rfl ?_
        refine XS.bipush X0.here hx rfl (hb hby d12_21) ?_
        exact k_)
      by_cases hc14 : (122 : Int32) < c
      · have pre15 := fun tg_ (k_ : Steps pg.tables ee below (s₁.setTop (mkF mm 31 #[.val (.int c)] [(.int (48 : Int32)), (.int c)])) tg_) => pre13 tg_ (by
          show Steps pg.tables ee below (s₁.setTop (mkF mm 23 #[.val (.int c)] [(.int (122 : Int32)), (.int c)])) _
          refine XS.icmpYes X0.here hx rfl (pc0 := 23) (pc' := 28) rfl (hb hby d12_23) rfl (tlt hc14).2.2.1 (by decide) (by decide) ?_
          refine XS.iloadN X0.here hx rfl (hb hby d12_28) rfl ?_
          refine XS.bipush X0.here hx rfl (hb hby d12_29) ?_
          exact k_)
        by_cases hc16 : c < (48 : Int32)
        · have pre17 := fun tg_ (k_ : Steps pg.tables ee below (s₁.setTop (mkF mm 42 #[.val (.int c)] [])) tg_) => pre15 tg_ (by
            show Steps pg.tables ee below (s₁.setTop (mkF mm 31 #[.val (.int c)] [(.int (48 : Int32)), (.int c)])) _
            refine XS.icmpYes X0.here hx rfl (pc0 := 31) (pc' := 42) rfl (hb hby d12_31) rfl (tlt hc16).1 (by decide) (by decide) ?_
            exact k_)
          have pre18 : ∀ tg_, Steps pg.tables ee below (s₁.setTop (mkF mm 137 #[.val (.int c)] [(.int (own_s c))])) tg_ → Steps pg.tables ee below (s₁.setTop (entryFrame mm #[(.int c)] 1)) tg_ := fun tg_ k_ => pre17 tg_ (pcSp X0 hx hby c tg_ k_)
          refine own_end X0 (v := some (.int (nar .boolean (own_s c)))) (fun h => by rw [Bd.returns] at h; cases h) (by decide) (by decide) (fun fs hr => pre18 _ ?_) ?_
          · show Steps pg.tables ee below (s₁.setTop (mkF mm 137 #[.val (.int c)] [(.int (own_s c))])) _
            exact retN X0 hx (t := .boolean) Bd.returns (by simp) (hb hby d12_137) hr
          · show QrmTc Z c h0 n0 _ s₁.heap _
            rw [e0]
            exact ⟨congrArg (fun z => some (Value.int z)) (own_tz (by simp [hc2, hc4, hc14, hc16])), N0, rfl⟩
        · have pre19 := fun tg_ (k_ : Steps pg.tables ee below (s₁.setTop (mkF mm 37 #[.val (.int c)] [(.int (57 : Int32)), (.int c)])) tg_) => pre15 tg_ (by
            show Steps pg.tables ee below (s₁.setTop (mkF mm 31 #[.val (.int c)] [(.int (48 : Int32)), (.int c)])) _
            refine XS.icmpNo X0.here hx rfl (hb hby d12_31) rfl (flt hc16).1 ?_
            refine XS.iloadN X0.here hx rfl (hb hby d12_34) rfl ?_
            refine XS.bipush X0.here hx rfl (hb hby d12_35) ?_
            exact k_)
          by_cases hc20 : (57 : Int32) < c
          · have pre21 := fun tg_ (k_ : Steps pg.tables ee below (s₁.setTop (mkF mm 42 #[.val (.int c)] [])) tg_) => pre19 tg_ (by
              show Steps pg.tables ee below (s₁.setTop (mkF mm 37 #[.val (.int c)] [(.int (57 : Int32)), (.int c)])) _
              refine XS.icmpYes X0.here hx rfl (pc0 := 37) (pc' := 42) rfl (hb hby d12_37) rfl (tlt hc20).2.2.1 (by decide) (by decide) ?_
              exact k_)
            have pre22 : ∀ tg_, Steps pg.tables ee below (s₁.setTop (mkF mm 137 #[.val (.int c)] [(.int (own_s c))])) tg_ → Steps pg.tables ee below (s₁.setTop (entryFrame mm #[(.int c)] 1)) tg_ := fun tg_ k_ => pre21 tg_ (pcSp X0 hx hby c tg_ k_)
            refine own_end X0 (v := some (.int (nar .boolean (own_s c)))) (fun h => by rw [Bd.returns] at h; cases h) (by decide) (by decide) (fun fs hr => pre22 _ ?_) ?_
            · show Steps pg.tables ee below (s₁.setTop (mkF mm 137 #[.val (.int c)] [(.int (own_s c))])) _
              exact retN X0 hx (t := .boolean) Bd.returns (by simp) (hb hby d12_137) hr
            · show QrmTc Z c h0 n0 _ s₁.heap _
              rw [e0]
              exact ⟨congrArg (fun z => some (Value.int z)) (own_tz (by simp [hc2, hc4, hc14, hc16, hc20])), N0, rfl⟩
          · refine own_end X0 (v := some (.int (1 : Int32))) (fun h => by rw [Bd.returns] at h; cases h) (by decide) (by decide) (fun fs hr => pre19 _ ?_) ?_
            · show Steps pg.tables ee below (s₁.setTop (mkF mm 37 #[.val (.int c)] [(.int (57 : Int32)), (.int c)])) _
              refine XS.icmpNo X0.here hx rfl (hb hby d12_37) rfl (flt hc20).2.2.1 ?_
              refine XS.iconst X0.here hx rfl (hb hby d12_40) ?_
              show Steps pg.tables ee below (s₁.setTop (mkF mm 41 #[.val (.int c)] [(.int (1 : Int32))])) _
              exact retN X0 hx (t := .boolean) Bd.returns (by simp) (hb hby d12_41) hr
            · show QrmTc Z c h0 n0 _ s₁.heap _
              rw [e0]
              exact ⟨congrArg (fun z => some (Value.int z)) ((by simp [own_t, hc2, hc4, hc14, hc16, hc20] : (1 : Int32) = own_t c)), N0, rfl⟩
      · refine own_end X0 (v := some (.int (1 : Int32))) (fun h => by rw [Bd.returns] at h; cases h) (by decide) (by decide) (fun fs hr => pre13 _ ?_) ?_
        · show Steps pg.tables ee below (s₁.setTop (mkF mm 23 #[.val (.int c)] [(.int (122 : Int32)), (.int c)])) _
          refine XS.icmpNo X0.here hx rfl (hb hby d12_23) rfl (flt hc14).2.2.1 ?_
          refine XS.iconst X0.here hx rfl (hb hby d12_26) ?_
          exact retN X0 hx (t := .boolean) Bd.returns (by simp) (hb hby d12_27) hr
        · show QrmTc Z c h0 n0 _ s₁.heap _
          rw [e0]
          exact ⟨congrArg (fun z => some (Value.int z)) ((by simp [own_t, hc2, hc4, hc14] : (1 : Int32) = own_t c)), N0, rfl⟩
  · have pre23 := fun tg_ (k_ : Steps pg.tables ee below (s₁.setTop (mkF mm 9 #[.val (.int c)] [(.int (90 : Int32)), (.int c)])) tg_) => pre1 tg_ (by
      show Steps pg.tables ee below (s₁.setTop (mkF mm 3 #[.val (.int c)] [(.int (65 : Int32)), (.int c)])) _
      refine XS.icmpNo X0.here hx rfl (hb hby d12_3) rfl (flt hc2).1 ?_
      refine XS.iloadN X0.here hx rfl (hb hby d12_6) rfl ?_
      refine XS.bipush X0.here hx rfl (hb hby d12_7) ?_
      exact k_)
    by_cases hc24 : (90 : Int32) < c
    · have pre25 := fun tg_ (k_ : Steps pg.tables ee below (s₁.setTop (mkF mm 17 #[.val (.int c)] [(.int (97 : Int32)), (.int c)])) tg_) => pre23 tg_ (by
        show Steps pg.tables ee below (s₁.setTop (mkF mm 9 #[.val (.int c)] [(.int (90 : Int32)), (.int c)])) _
        refine XS.icmpYes X0.here hx rfl (pc0 := 9) (pc' := 14) rfl (hb hby d12_9) rfl (tlt hc24).2.2.1 (by decide) (by decide) ?_
        refine XS.iloadN X0.here hx rfl (hb hby d12_14) rfl ?_
        refine XS.bipush X0.here hx rfl (hb hby d12_15) ?_
        exact k_)
      by_cases hc26 : c < (97 : Int32)
      · have pre27 := fun tg_ (k_ : Steps pg.tables ee below (s₁.setTop (mkF mm 31 #[.val (.int c)] [(.int (48 : Int32)), (.int c)])) tg_) => pre25 tg_ (by
          show Steps pg.tables ee below (s₁.setTop (mkF mm 17 #[.val (.int c)] [(.int (97 : Int32)), (.int c)])) _
          refine XS.icmpYes X0.here hx rfl (pc0 := 17) (pc' := 28) rfl (hb hby d12_17) rfl (tlt hc26).1 (by decide) (by decide) ?_
          refine XS.iloadN X0.here hx rfl (hb hby d12_28) rfl ?_
          refine XS.bipush X0.here hx rfl (hb hby d12_29) ?_
          exact k_)
        by_cases hc28 : c < (48 : Int32)
        · have pre29 := fun tg_ (k_ : Steps pg.tables ee below (s₁.setTop (mkF mm 42 #[.val (.int c)] [])) tg_) => pre27 tg_ (by
            show Steps pg.tables ee below (s₁.setTop (mkF mm 31 #[.val (.int c)] [(.int (48 : Int32)), (.int c)])) _
            refine XS.icmpYes X0.here hx rfl (pc0 := 31) (pc' := 42) rfl (hb hby d12_31) rfl (tlt hc28).1 (by decide) (by decide) ?_
            exact k_)
          have pre30 : ∀ tg_, Steps pg.tables ee below (s₁.setTop (mkF mm 137 #[.val (.int c)] [(.int (own_s c))])) tg_ → Steps pg.tables ee below (s₁.setTop (entryFrame mm #[(.int c)] 1)) tg_ := fun tg_ k_ => pre29 tg_ (pcSp X0 hx hby c tg_ k_)
          refine own_end X0 (v := some (.int (nar .boolean (own_s c)))) (fun h => by rw [Bd.returns] at h; cases h) (by decide) (by decide) (fun fs hr => pre30 _ ?_) ?_
          · show Steps pg.tables ee below (s₁.setTop (mkF mm 137 #[.val (.int c)] [(.int (own_s c))])) _
            exact retN X0 hx (t := .boolean) Bd.returns (by simp) (hb hby d12_137) hr
          · show QrmTc Z c h0 n0 _ s₁.heap _
            rw [e0]
            exact ⟨congrArg (fun z => some (Value.int z)) (own_tz (by simp [hc2, hc24, hc26, hc28])), N0, rfl⟩
        · have pre31 := fun tg_ (k_ : Steps pg.tables ee below (s₁.setTop (mkF mm 37 #[.val (.int c)] [(.int (57 : Int32)), (.int c)])) tg_) => pre27 tg_ (by
            show Steps pg.tables ee below (s₁.setTop (mkF mm 31 #[.val (.int c)] [(.int (48 : Int32)), (.int c)])) _
            refine XS.icmpNo X0.here hx rfl (hb hby d12_31) rfl (flt hc28).1 ?_
            refine XS.iloadN X0.here hx rfl (hb hby d12_34) rfl ?_
            refine XS.bipush X0.here hx rfl (hb hby d12_35) ?_
            exact k_)
          by_cases hc32 : (57 : Int32) < c
          · have pre33 := fun tg_ (k_ : Steps pg.tables ee below (s₁.setTop (mkF mm 42 #[.val (.int c)] [])) tg_) => pre31 tg_ (by
              show Steps pg.tables ee below (s₁.setTop (mkF mm 37 #[.val (.int c)] [(.int (57 : Int32)), (.int c)])) _
              refine XS.icmpYes X0.here hx rfl (pc0 := 37) (pc' := 42) rfl (hb hby d12_37) rfl (tlt hc32).2.2.1 (by decide) (by decide) ?_
              exact k_)
            have pre34 : ∀ tg_, Steps pg.tables ee below (s₁.setTop (mkF mm 137 #[.val (.int c)] [(.int (own_s c))])) tg_ → Steps pg.tables ee below (s₁.setTop (entryFrame mm #[(.int c)] 1)) tg_ := fun tg_ k_ => pre33 tg_ (pcSp X0 hx hby c tg_ k_)
            refine own_end X0 (v := some (.int (nar .boolean (own_s c)))) (fun h => by rw [Bd.returns] at h; cases h) (by decide) (by decide) (fun fs hr => pre34 _ ?_) ?_
            · show Steps pg.tables ee below (s₁.setTop (mkF mm 137 #[.val (.int c)] [(.int (own_s c))])) _
              exact retN X0 hx (t := .boolean) Bd.returns (by simp) (hb hby d12_137) hr
            · show QrmTc Z c h0 n0 _ s₁.heap _
              rw [e0]
              exact ⟨congrArg (fun z => some (Value.int z)) (own_tz (by simp [hc2, hc24, hc26, hc28, hc32])), N0, rfl⟩
          · refine own_end X0 (v := some (.int (1 : Int32))) (fun h => by rw [Bd.returns] at h; cases h) (by decide) (by decide) (fun fs hr => pre31 _ ?_) ?_
            · show Steps pg.tables ee below (s₁.setTop (mkF mm 37 #[.val (.int c)] [(.int (57 : Int32)), (.int c)])) _
              refine XS.icmpNo X0.here hx rfl (hb hby d12_37) rfl (flt hc32).2.2.1 ?_
              refine XS.iconst X0.here hx rfl (hb hby d12_40) ?_
              show Steps pg.tables ee below (s₁.setTop (mkF mm 41 #[.val (.int c)] [(.int (1 : Int32))])) _
              exact retN X0 hx (t := .boolean) Bd.returns (by simp) (hb hby d12_41) hr
            · show QrmTc Z c h0 n0 _ s₁.heap _
              rw [e0]
              exact ⟨congrArg (fun z => some (Value.int z)) ((by simp [own_t, hc2, hc24, hc26, hc28, hc32] : (1 : Int32) = own_t c)), N0, rfl⟩
      · have pre35 := fun tg_ (k_ : Steps pg.tables ee below (s₁.setTop (mkF mm 23 #[.val (.int c)] [(.int (122 : Int32)), (.int c)])) tg_) => pre25 tg_ (by
          show Steps pg.tables ee below (s₁.setTop (mkF mm 17 #[.val (.int c)] [(.int (97 : Int32)), (.int c)])) _
          refine XS.icmpNo X0.here hx rfl (hb hby d12_17) rfl (flt hc26).1 ?_
          refine XS.iloadN X0.here hx rfl (hb hby d12_20) rfl ?_
          refine XS.bipush X0.here hx rfl (hb hby d12_21) ?_
          exact k_)
        by_cases hc36 : (122 : Int32) < c
        · have pre37 := fun tg_ (k_ : Steps pg.tables ee below (s₁.setTop (mkF mm 31 #[.val (.int c)] [(.int (48 : Int32)), (.int c)])) tg_) => pre35 tg_ (by
            show Steps pg.tables ee below (s₁.setTop (mkF mm 23 #[.val (.int c)] [(.int (122 : Int32)), (.int c)])) _
            refine XS.icmpYes X0.here hx rfl (pc0 := 23) (pc' := 28) rfl (hb hby d12_23) rfl (tlt hc36).2.2.1 (by decide) (by decide) ?_
            refine XS.iloadN X0.here hx rfl (hb hby d12_28) rfl ?_
            refine XS.bipush X0.here hx rfl (hb hby d12_29) ?_
            exact k_)
          by_cases hc38 : c < (48 : Int32)
          · have pre39 := fun tg_ (k_ : Steps pg.tables ee below (s₁.setTop (mkF mm 42 #[.val (.int c)] [])) tg_) => pre37 tg_ (by
              show Steps pg.tables ee below (s₁.setTop (mkF mm 31 #[.val (.int c)] [(.int (48 : Int32)), (.int c)])) _
              refine XS.icmpYes X0.here hx rfl (pc0 := 31) (pc' := 42) rfl (hb hby d12_31) rfl (tlt hc38).1 (by decide) (by decide) ?_
              exact k_)
            have pre40 : ∀ tg_, Steps pg.tables ee below (s₁.setTop (mkF mm 137 #[.val (.int c)] [(.int (own_s c))])) tg_ → Steps pg.tables ee below (s₁.setTop (entryFrame mm #[(.int c)] 1)) tg_ := fun tg_ k_ => pre39 tg_ (pcSp X0 hx hby c tg_ k_)
            refine own_end X0 (v := some (.int (nar .boolean (own_s c)))) (fun h => by rw [Bd.returns] at h; cases h) (by decide) (by decide) (fun fs hr => pre40 _ ?_) ?_
            · show Steps pg.tables ee below (s₁.setTop (mkF mm 137 #[.val (.int c)] [(.int (own_s c))])) _
              exact retN X0 hx (t := .boolean) Bd.returns (by simp) (hb hby d12_137) hr
            · show QrmTc Z c h0 n0 _ s₁.heap _
              rw [e0]
              exact ⟨congrArg (fun z => some (Value.int z)) (own_tz (by simp [hc2, hc24, hc26, hc36, hc38])), N0, rfl⟩
          · have pre41 := fun tg_ (k_ : Steps pg.tables ee below (s₁.setTop (mkF mm 37 #[.val (.int c)] [(.int (57 : Int32)), (.int c)])) tg_) => pre37 tg_ (by
              show Steps pg.tables ee below (s₁.setTop (mkF mm 31 #[.val (.int c)] [(.int (48 : Int32)), (.int c)])) _
              refine XS.icmpNo X0.here hx rfl (hb hby d12_31) rfl (flt hc38).1 ?_
              refine XS.iloadN X0.here hx rfl (hb hby d12_34) rfl ?_
              show Steps pg.tables ee below (s₁.setTop (mkF mm 35 #[.val (.int c)] [(.int c)])) _
              refine XS.bipush X0.here hx rfl (hb hby d12_35) ?_
              exact k_)
            by_cases hc42 : (57 : Int32) < c
            · have pre43 := fun tg_ (k_ : Steps pg.tables ee below (s₁.setTop (mkF mm 42 #[.val (.int c)] [])) tg_) => pre41 tg_ (by
                show Steps pg.tables ee below (s₁.setTop (mkF mm 37 #[.val (.int c)] [(.int (57 : Int32)), (.int c)])) _
                refine XS.icmpYes X0.here hx rfl (pc0 := 37) (pc' := 42) rfl (hb hby d12_37) rfl (tlt hc42).2.2.1 (by decide) (by decide) ?_
                exact k_)
              have pre44 : ∀ tg_, Steps pg.tables ee below (s₁.setTop (mkF mm 137 #[.val (.int c)] [(.int (own_s c))])) tg_ → Steps pg.tables ee below (s₁.setTop (entryFrame mm #[(.int c)] 1)) tg_ := fun tg_ k_ => pre43 tg_ (pcSp X0 hx hby c tg_ k_)
              refine own_end X0 (v := some (.int (nar .boolean (own_s c)))) (fun h => by rw [Bd.returns] at h; cases h) (by decide) (by decide) (fun fs hr => pre44 _ ?_) ?_
              · show Steps pg.tables ee below (s₁.setTop (mkF mm 137 #[.val (.int c)] [(.int (own_s c))])) _
                exact retN X0 hx (t := .boolean) Bd.returns (by simp) (hb hby d12_137) hr
              · show QrmTc Z c h0 n0 _ s₁.heap _
                rw [e0]
                exact ⟨congrArg (fun z => some (Value.int z)) (own_tz (by simp [hc2, hc24, hc26, hc36, hc38, hc42])), N0, rfl⟩
            · refine own_end X0 (v := some (.int (1 : Int32))) (fun h => by rw [Bd.returns] at h; cases h) (by decide) (by decide) (fun fs hr => pre41 _ ?_) ?_
              · show Steps pg.tables ee below (s₁.setTop (mkF mm 37 #[.val (.int c)] [(.int (57 : Int32)), (.int c)])) _
                refine XS.icmpNo X0.here hx rfl (hb hby d12_37) rfl (flt hc42).2.2.1 ?_
                refine XS.iconst X0.here hx rfl (hb hby d12_40) ?_
                exact retN X0 hx (t := .boolean) Bd.returns (by simp) (hb hby d12_41) hr
              · show QrmTc Z c h0 n0 _ s₁.heap _
                rw [e0]
                exact ⟨congrArg (fun z => some (Value.int z)) ((by simp [own_t, hc2, hc24, hc26, hc36, hc38, hc42] : (1 : Int32) = own_t c)), N0, rfl⟩
        · refine own_end X0 (v := some (.int (1 : Int32))) (fun h => by rw [Bd.returns] at h; cases h) (by decide) (by decide) (fun fs hr => pre35 _ ?_) ?_
          · show Steps pg.tables ee below (s₁.setTop (mkF mm 23 #[.val (.int c)] [(.int (122 : Int32)), (.int c)])) _
            refine XS.icmpNo X0.here hx rfl (hb hby d12_23) rfl (flt hc36).2.2.1 ?_
            refine XS.iconst X0.here hx rfl (hb hby d12_26) ?_
            exact retN X0 hx (t := .boolean) Bd.returns (by simp) (hb hby d12_27) hr
          · show QrmTc Z c h0 n0 _ s₁.heap _
            rw [e0]
            exact ⟨congrArg (fun z => some (Value.int z)) ((by simp [own_t, hc2, hc24, hc26, hc36] : (1 : Int32) = own_t c)), N0, rfl⟩
    · refine own_end X0 (v := some (.int (1 : Int32))) (fun h => by rw [Bd.returns] at h; cases h) (by decide) (by decide) (fun fs hr => pre23 _ ?_) ?_
      · show Steps pg.tables ee below (s₁.setTop (mkF mm 9 #[.val (.int c)] [(.int (90 : Int32)), (.int c)])) _
        refine XS.icmpNo X0.here hx rfl (hb hby d12_9) rfl (flt hc24).2.2.1 ?_
        refine XS.iconst X0.here hx rfl (hb hby d12_12) ?_
        exact retN X0 hx (t := .boolean) Bd.returns (by simp) (hb hby d12_13) hr
      · show QrmTc Z c h0 n0 _ s₁.heap _
        rw [e0]
        exact ⟨congrArg (fun z => some (Value.int z)) ((by simp [own_t, hc2, hc24] : (1 : Int32) = own_t c)), N0, rfl⟩
theorem d5_16 : decode prog_14_method_3_code 16 = .ok (.iload_n 2, 1) := by decide +kernel
theorem d5_17 : decode prog_14_method_3_code 17 = .ok (.bipush 65, 2) := by decide +kernel
theorem d5_19 : decode prog_14_method_3_code 19 = .ok (.if_icmp .lt 9, 3) := by decide +kernel
theorem d5_28 : decode prog_14_method_3_code 28 = .ok (.iload_n 2, 1) := by decide +kernel
theorem d5_29 : decode prog_14_method_3_code 29 = .ok (.bipush 97, 2) := by decide +kernel
theorem d5_31 : decode prog_14_method_3_code 31 = .ok (.if_icmp .lt 9, 3) := by decide +kernel
theorem d5_40 : decode prog_14_method_3_code 40 = .ok (.iload_n 2, 1) := by decide +kernel
theorem d5_41 : decode prog_14_method_3_code 41 = .ok (.bipush 48, 2) := by decide +kernel
theorem d5_43 : decode prog_14_method_3_code 43 = .ok (.if_icmp .lt 13, 3) := by decide +kernel
theorem d5_56 : decode prog_14_method_3_code 56 = .ok (.iconst 0, 1) := by decide +kernel
theorem d5_57 : decode prog_14_method_3_code 57 = .ok (.istore_n 3, 1) := by decide +kernel
theorem d5_46 : decode prog_14_method_3_code 46 = .ok (.iload_n 2, 1) := by decide +kernel
theorem d5_47 : decode prog_14_method_3_code 47 = .ok (.bipush 57, 2) := by decide +kernel
theorem d5_49 : decode prog_14_method_3_code 49 = .ok (.if_icmp .gt 7, 3) := by decide +kernel
theorem d5_52 : decode prog_14_method_3_code 52 = .ok (.iconst 1, 1) := by decide +kernel
theorem d5_53 : decode prog_14_method_3_code 53 = .ok (.goto 4, 3) := by decide +kernel
theorem d5_34 : decode prog_14_method_3_code 34 = .ok (.iload_n 2, 1) := by decide +kernel
theorem d5_35 : decode prog_14_method_3_code 35 = .ok (.bipush 122, 2) := by decide +kernel
theorem d5_37 : decode prog_14_method_3_code 37 = .ok (.if_icmp .le 15, 3) := by decide +kernel
theorem d5_22 : decode prog_14_method_3_code 22 = .ok (.iload_n 2, 1) := by decide +kernel
theorem d5_23 : decode prog_14_method_3_code 23 = .ok (.bipush 90, 2) := by decide +kernel
theorem d5_25 : decode prog_14_method_3_code 25 = .ok (.if_icmp .le 27, 3) := by decide +kernel
set_option maxRecDepth 65536 in
theorem pcAlu {pg : Program} {l : Launch} {ee : Env} {R : Room} {s : State} {mm : MethodId} {args : Array Value} {below : List Frame} {meth : Method} {cc : Code} {T0 : State} {locs : List Loc} {cells slots : Nat} (X0 : Stand pg l ee R s mm args below meth cc T0 locs cells slots) (hx : pg.tables.exec = Jvm.exec) (hby : cc.code = prog_14_method_3_code) (x : Addr) (i : Int32) (c : Int32) : ∀ tg_, Steps pg.tables ee below (T0.setTop (mkF mm 58 #[.val (.ref x), .val (.int i), .val (.int c), .val (.int (own_al c))] [])) tg_ → Steps pg.tables ee below (T0.setTop (mkF mm 16 #[.val (.ref x), .val (.int i), .val (.int c), .unset] [])) tg_ := by
  intro tg_ kk
  have pre0 : ∀ tg_, Steps pg.tables ee below (T0.setTop (mkF mm 16 #[.val (.ref x), .val (.int i), .val (.int c), .unset] [])) tg_ → Steps pg.tables ee below (T0.setTop (mkF mm 16 #[.val (.ref x), .val (.int i), .val (.int c), .unset] [])) tg_ := fun _ k_ => k_
  have pre1 := fun tg_ (k_ : Steps pg.tables ee below (T0.setTop (mkF mm 19 #[.val (.ref x), .val (.int i), .val (.int c), .unset] [(.int (65 : Int32)), (.int c)])) tg_) => pre0 tg_ (by
    show Steps pg.tables ee below (T0.setTop (mkF mm 16 #[.val (.ref x), .val (.int i), .val (.int c), .unset] [])) _
    refine XS.iloadN X0.here hx rfl (hb hby d5_16) rfl ?_
    refine XS.bipush X0.here hx rfl (hb hby d5_17) ?_
    exact k_)
  by_cases hc2 : c < (65 : Int32)
  · have pre3 := fun tg_ (k_ : Steps pg.tables ee below (T0.setTop (mkF mm 31 #[.val (.ref x), .val (.int i), .val (.int c), .unset] [(.int (97 : Int32)), (.int c)])) tg_) => pre1 tg_ (by
      show Steps pg.tables ee below (T0.setTop (mkF mm 19 #[.val (.ref x), .val (.int i), .val (.int c), .unset] [(.int (65 : Int32)), (.int c)])) _
      refine XS.icmpYes X0.here hx rfl (pc0 := 19) (pc' := 28) rfl (hb hby d5_19) rfl (tlt hc2).1 (by decide) (by decide) ?_
      refine XS.iloadN X0.here hx rfl (hb hby d5_28) rfl ?_
      refine XS.bipush X0.here hx rfl (hb hby d5_29) ?_
      exact k_)
    by_cases hc4 : c < (97 : Int32)
    · have pre5 := fun tg_ (k_ : Steps pg.tables ee below (T0.setTop (mkF mm 43 #[.val (.ref x), .val (.int i), .val (.int c), .unset] [(.int (48 : Int32)), (.int c)])) tg_) => pre3 tg_ (by
        show Steps pg.tables ee below (T0.setTop (mkF mm 31 #[.val (.ref x), .val (.int i), .val (.int c), .unset] [(.int (97 : Int32)), (.int c)])) _
        refine XS.icmpYes X0.here hx rfl (pc0 := 31) (pc' := 40) rfl (hb hby d5_31) rfl (tlt hc4).1 (by decide) (by decide) ?_
        refine XS.iloadN X0.here hx rfl (hb hby d5_40) rfl ?_
        refine XS.bipush X0.here hx rfl (hb hby d5_41) ?_
        exact k_)
      by_cases hc6 : c < (48 : Int32)
      · have pre7 := fun tg_ (k_ : Steps pg.tables ee below (T0.setTop (mkF mm 58 #[.val (.ref x), .val (.int i), .val (.int c), .val (.int (0 : Int32))] [])) tg_) => pre5 tg_ (by
          show Steps pg.tables ee below (T0.setTop (mkF mm 43 #[.val (.ref x), .val (.int i), .val (.int c), .unset] [(.int (48 : Int32)), (.int c)])) _
          refine XS.icmpYes X0.here hx rfl (pc0 := 43) (pc' := 56) rfl (hb hby d5_43) rfl (tlt hc6).1 (by decide) (by decide) ?_
          refine XS.iconst X0.here hx rfl (hb hby d5_56) ?_
          refine XS.istoreN X0.here hx rfl (hb hby d5_57) rfl (l' := #[.val (.ref x), .val (.int i), .val (.int c), .val (.int (0 : Int32))]) rfl ?_
          exact k_)
        have e_ : own_al c = (0 : Int32) := by simp [own_al, hc2, hc4, hc6]
        rw [e_] at kk
        exact pre7 _ kk
      · have pre8 := fun tg_ (k_ : Steps pg.tables ee below (T0.setTop (mkF mm 49 #[.val (.ref x), .val (.int i), .val (.int c), .unset] [(.int (57 : Int32)), (.int c)])) tg_) => pre5 tg_ (by
          show Steps pg.tables ee below (T0.setTop (mkF mm 43 #[.val (.ref x), .val (.int i), .val (.int c), .unset] [(.int (48 : Int32)), (.int c)])) _
          refine XS.icmpNo X0.here hx rfl (hb hby d5_43) rfl (flt hc6).1 ?_
          refine XS.iloadN X0.here hx rfl (hb hby d5_46) rfl ?_
          refine XS.bipush X0.here hx rfl (hb hby d5_47) ?_
          exact k_)
        by_cases hc9 : (57 : Int32) < c
        · have pre10 := fun tg_ (k_ : Steps pg.tables ee below (T0.setTop (mkF mm 58 #[.val (.ref x), .val (.int i), .val (.int c), .val (.int (0 : Int32))] [])) tg_) => pre8 tg_ (by
            show Steps pg.tables ee below (T0.setTop (mkF mm 49 #[.val (.ref x), .val (.int i), .val (.int c), .unset] [(.int (57 : Int32)), (.int c)])) _
            refine XS.icmpYes X0.here hx rfl (pc0 := 49) (pc' := 56) rfl (hb hby d5_49) rfl (tlt hc9).2.2.1 (by decide) (by decide) ?_
            refine XS.iconst X0.here hx rfl (hb hby d5_56) ?_
            refine XS.istoreN X0.here hx rfl (hb hby d5_57) rfl (l' := #[.val (.ref x), .val (.int i), .val (.int c), .val (.int (0 : Int32))]) rfl ?_
            exact k_)
          have e_ : own_al c = (0 : Int32) := by simp [own_al, hc2, hc4, hc6, hc9]
          rw [e_] at kk
          exact pre10 _ kk
        · have pre11 := fun tg_ (k_ : Steps pg.tables ee below (T0.setTop (mkF mm 58 #[.val (.ref x), .val (.int i), .val (.int c), .val (.int (1 : Int32))] [])) tg_) => pre8 tg_ (by
            show Steps pg.tables ee below (T0.setTop (mkF mm 49 #[.val (.ref x), .val (.int i), .val (.int c), .unset] [(.int (57 : Int32)), (.int c)])) _
            refine XS.icmpNo X0.here hx rfl (hb hby d5_49) rfl (flt hc9).2.2.1 ?_
            refine XS.iconst X0.here hx rfl (hb hby d5_52) ?_
            refine XS.goto X0.here hx rfl (pc0 := 53) (pc' := 57) rfl (hb hby d5_53) (by decide) (by decide) ?_
            refine XS.istoreN X0.here hx rfl (hb hby d5_57) rfl (l' := #[.val (.ref x), .val (.int i), .val (.int c), .val (.int (1 : Int32))]) rfl ?_
            exact k_)
          have e_ : own_al c = (1 : Int32) := by simp [own_al, hc2, hc4, hc6, hc9]
          rw [e_] at kk
          exact pre11 _ kk
    · have pre12 := fun tg_ (k_ : Steps pg.tables ee below (T0.setTop (mkF mm 37 #[.val (.ref x), .val (.int i), .val (.int c), .unset] [(.int (122 : Int32)), (.int c)])) tg_) => pre3 tg_ (by
        show Steps pg.tables ee below (T0.setTop (mkF mm 31 #[.val (.ref x), .val (.int i), .val (.int c), .unset] [(.int (97 : Int32)), (.int c)])) _
        refine XS.icmpNo X0.here hx rfl (hb hby d5_31) rfl (flt hc4).1 ?_
        refine XS.iloadN X0.here hx rfl (hb hby d5_34) rfl ?_
        refine XS.bipush X0.here hx rfl (hb hby d5_35) ?_
        exact k_)
      by_cases hc13 : (122 : Int32) < c
      · have pre14 := fun tg_ (k_ : Steps pg.tables ee below (T0.setTop (mkF mm 43 #[.val (.ref x), .val (.int i), .val (.int c), .unset] [(.int (48 : Int32)), (.int c)])) tg_) => pre12 tg_ (by
          show Steps pg.tables ee below (T0.setTop (mkF mm 37 #[.val (.ref x), .val (.int i), .val (.int c), .unset] [(.int (122 : Int32)), (.int c)])) _
          refine XS.icmpNo X0.here hx rfl (hb hby d5_37) rfl (tlt hc13).2.2.2 ?_
          refine XS.iloadN X0.here hx rfl (hb hby d5_40) rfl ?_
          refine XS.bipush X0.here hx rfl (hb hby d5_41) ?_
          exact k_)
        by_cases hc15 : c < (48 : Int32)
        · have pre16 := fun tg_ (k_ : Steps pg.tables ee below (T0.setTop (mkF mm 58 #[.val (.ref x), .val (.int i), .val (.int c), .val (.int (0 : Int32))] [])) tg_) => pre14 tg_ (by
            show Steps pg.tables ee below (T0.setTop (mkF mm 43 #[.val (.ref x), .val (.int i), .val (.int c), .unset] [(.int (48 : Int32)), (.int c)])) _
            refine XS.icmpYes X0.here hx rfl (pc0 := 43) (pc' := 56) rfl (hb hby d5_43) rfl (tlt hc15).1 (by decide) (by decide) ?_
            refine XS.iconst X0.here hx rfl (hb hby d5_56) ?_
            refine XS.istoreN X0.here hx rfl (hb hby d5_57) rfl (l' := #[.val (.ref x), .val (.int i), .val (.int c), .val (.int (0 : Int32))]) rfl ?_
            exact k_)
          have e_ : own_al c = (0 : Int32) := by simp [own_al, hc2, hc4, hc13, hc15]
          rw [e_] at kk
          exact pre16 _ kk
        · have pre17 := fun tg_ (k_ : Steps pg.tables ee below (T0.setTop (mkF mm 49 #[.val (.ref x), .val (.int i), .val (.int c), .unset] [(.int (57 : Int32)), (.int c)])) tg_) => pre14 tg_ (by
            show Steps pg.tables ee below (T0.setTop (mkF mm 43 #[.val (.ref x), .val (.int i), .val (.int c), .unset] [(.int (48 : Int32)), (.int c)])) _
            refine XS.icmpNo X0.here hx rfl (hb hby d5_43) rfl (flt hc15).1 ?_
            refine XS.iloadN X0.here hx rfl (hb hby d5_46) rfl ?_
            refine XS.bipush X0.here hx rfl (hb hby d5_47) ?_
            exact k_)
          by_cases hc18 : (57 : Int32) < c
          · have pre19 := fun tg_ (k_ : Steps pg.tables ee below (T0.setTop (mkF mm 58 #[.val (.ref x), .val (.int i), .val (.int c), .val (.int (0 : Int32))] [])) tg_) => pre17 tg_ (by
              show Steps pg.tables ee below (T0.setTop (mkF mm 49 #[.val (.ref x), .val (.int i), .val (.int c), .unset] [(.int (57 : Int32)), (.int c)])) _
              refine XS.icmpYes X0.here hx rfl (pc0 := 49) (pc' := 56) rfl (hb hby d5_49) rfl (tlt hc18).2.2.1 (by decide) (by decide) ?_
              refine XS.iconst X0.here hx rfl (hb hby d5_56) ?_
              show Steps pg.tables ee below (T0.setTop (mkF mm 57 #[.val (.ref x), .val (.int i), .val (.int c), .unset] [(.int (0 : Int32))])) _
              refine XS.istoreN X0.here hx rfl (hb hby d5_57) rfl (l' := #[.val (.ref x), .val (.int i), .val (.int c), .val (.int (0 : Int32))]) rfl ?_
              exact k_)
            have e_ : own_al c = (0 : Int32) := by simp [own_al, hc2, hc4, hc13, hc15, hc18]
            rw [e_] at kk
            exact pre19 _ kk
          · have pre20 := fun tg_ (k_ : Steps pg.tables ee below (T0.setTop (mkF mm 58 #[.val (.ref x), .val (.int i), .val (.int c), .val (.int (1 : Int32))] [])) tg_) => pre17 tg_ (by
              show Steps pg.tables ee below (T0.setTop (mkF mm 49 #[.val (.ref x), .val (.int i), .val (.int c), .unset] [(.int (57 : Int32)), (.int c)])) _
              refine XS.icmpNo X0.here hx rfl (hb hby d5_49) rfl (flt hc18).2.2.1 ?_
              refine XS.iconst X0.here hx rfl (hb hby d5_52) ?_
              show Steps pg.tables ee below (T0.setTop (mkF mm 53 #[.val (.ref x), .val (.int i), .val (.int c), .unset] [(.int (1 : Int32))])) _
              refine XS.goto X0.here hx rfl (pc0 := 53) (pc' := 57) rfl (hb hby d5_53) (by decide) (by decide) ?_
              refine XS.istoreN X0.here hx rfl (hb hby d5_57) rfl (l' := #[.val (.ref x), .val (.int i), .val (.int c), .val (.int (1 : Int32))]) rfl ?_
              exact k_)
            have e_ : own_al c = (1 : Int32) := by simp [own_al, hc2, hc4, hc13, hc15, hc18]
            rw [e_] at kk
            exact pre20 _ kk
      · have pre21 := fun tg_ (k_ : Steps pg.tables ee below (T0.setTop (mkF mm 58 #[.val (.ref x), .val (.int i), .val (.int c), .val (.int (1 : Int32))] [])) tg_) => pre12 tg_ (by
          show Steps pg.tables ee below (T0.setTop (mkF mm 37 #[.val (.ref x), .val (.int i), .val (.int c), .unset] [(.int (122 : Int32)), (.int c)])) _
          refine XS.icmpYes X0.here hx rfl (pc0 := 37) (pc' := 52) rfl (hb hby d5_37) rfl (flt hc13).2.2.2 (by decide) (by decide) ?_
          refine XS.iconst X0.here hx rfl (hb hby d5_52) ?_
          refine XS.goto X0.here hx rfl (pc0 := 53) (pc' := 57) rfl (hb hby d5_53) (by decide) (by decide) ?_
          refine XS.istoreN X0.here hx rfl (hb hby d5_57) rfl (l' := #[.val (.ref x), .val (.int i), .val (.int c), .val (.int (1 : Int32))]) rfl ?_
          exact k_)
        have e_ : own_al c = (1 : Int32) := by simp [own_al, hc2, hc4, hc13]
        rw [e_] at kk
        exact pre21 _ kk
  · have pre22 := fun tg_ (k_ : Steps pg.tables ee below (T0.setTop (mkF mm 25 #[.val (.ref x), .val (.int i), .val (.int c), .unset] [(.int (90 : Int32)), (.int c)])) tg_) => pre1 tg_ (by
      show Steps pg.tables ee below (T0.setTop (mkF mm 19 #[.val (.ref x), .val (.int i), .val (.int c), .unset] [(.int (65 : Int32)), (.int c)])) _
      refine XS.icmpNo X0.here hx rfl (hb hby d5_19) rfl (flt hc2).1 ?_
      refine XS.iloadN X0.here hx rfl (hb hby d5_22) rfl ?_
      refine XS.bipush X0.here hx rfl (hb hby d5_23) ?_
      exact k_)
    by_cases hc23 : (90 : Int32) < c
    · have pre24 := fun tg_ (k_ : Steps pg.tables ee below (T0.setTop (mkF mm 31 #[.val (.ref x), .val (.int i), .val (.int c), .unset] [(.int (97 : Int32)), (.int c)])) tg_) => pre22 tg_ (by
        show Steps pg.tables ee below (T0.setTop (mkF mm 25 #[.val (.ref x), .val (.int i), .val (.int c), .unset] [(.int (90 : Int32)), (.int c)])) _
        refine XS.icmpNo X0.here hx rfl (hb hby d5_25) rfl (tlt hc23).2.2.2 ?_
        refine XS.iloadN X0.here hx rfl (hb hby d5_28) rfl ?_
        refine XS.bipush X0.here hx rfl (hb hby d5_29) ?_
        exact k_)
      by_cases hc25 : c < (97 : Int32)
      · have pre26 := fun tg_ (k_ : Steps pg.tables ee below (T0.setTop (mkF mm 43 #[.val (.ref x), .val (.int i), .val (.int c), .unset] [(.int (48 : Int32)), (.int c)])) tg_) => pre24 tg_ (by
          show Steps pg.tables ee below (T0.setTop (mkF mm 31 #[.val (.ref x), .val (.int i), .val (.int c), .unset] [(.int (97 : Int32)), (.int c)])) _
          refine XS.icmpYes X0.here hx rfl (pc0 := 31) (pc' := 40) rfl (hb hby d5_31) rfl (tlt hc25).1 (by decide) (by decide) ?_
          refine XS.iloadN X0.here hx rfl (hb hby d5_40) rfl ?_
          refine XS.bipush X0.here hx rfl (hb hby d5_41) ?_
          exact k_)
        by_cases hc27 : c < (48 : Int32)
        · have pre28 := fun tg_ (k_ : Steps pg.tables ee below (T0.setTop (mkF mm 58 #[.val (.ref x), .val (.int i), .val (.int c), .val (.int (0 : Int32))] [])) tg_) => pre26 tg_ (by
            show Steps pg.tables ee below (T0.setTop (mkF mm 43 #[.val (.ref x), .val (.int i), .val (.int c), .unset] [(.int (48 : Int32)), (.int c)])) _
            refine XS.icmpYes X0.here hx rfl (pc0 := 43) (pc' := 56) rfl (hb hby d5_43) rfl (tlt hc27).1 (by decide) (by decide) ?_
            refine XS.iconst X0.here hx rfl (hb hby d5_56) ?_
            refine XS.istoreN X0.here hx rfl (hb hby d5_57) rfl (l' := #[.val (.ref x), .val (.int i), .val (.int c), .val (.int (0 : Int32))]) rfl ?_
            exact k_)
          have e_ : own_al c = (0 : Int32) := by simp [own_al, hc2, hc23, hc25, hc27]
          rw [e_] at kk
          exact pre28 _ kk
        · have pre29 := fun tg_ (k_ : Steps pg.tables ee below (T0.setTop (mkF mm 49 #[.val (.ref x), .val (.int i), .val (.int c), .unset] [(.int (57 : Int32)), (.int c)])) tg_) => pre26 tg_ (by
            show Steps pg.tables ee below (T0.setTop (mkF mm 43 #[.val (.ref x), .val (.int i), .val (.int c), .unset] [(.int (48 : Int32)), (.int c)])) _
            refine XS.icmpNo X0.here hx rfl (hb hby d5_43) rfl (flt hc27).1 ?_
            refine XS.iloadN X0.here hx rfl (hb hby d5_46) rfl ?_
            refine XS.bipush X0.here hx rfl (hb hby d5_47) ?_
            exact k_)
          by_cases hc30 : (57 : Int32) < c
          · have pre31 := fun tg_ (k_ : Steps pg.tables ee below (T0.setTop (mkF mm 58 #[.val (.ref x), .val (.int i), .val (.int c), .val (.int (0 : Int32))] [])) tg_) => pre29 tg_ (by
              show Steps pg.tables ee below (T0.setTop (mkF mm 49 #[.val (.ref x), .val (.int i), .val (.int c), .unset] [(.int (57 : Int32)), (.int c)])) _
              refine XS.icmpYes X0.here hx rfl (pc0 := 49) (pc' := 56) rfl (hb hby d5_49) rfl (tlt hc30).2.2.1 (by decide) (by decide) ?_
              refine XS.iconst X0.here hx rfl (hb hby d5_56) ?_
              show Steps pg.tables ee below (T0.setTop (mkF mm 57 #[.val (.ref x), .val (.int i), .val (.int c), .unset] [(.int (0 : Int32))])) _
              refine XS.istoreN X0.here hx rfl (hb hby d5_57) rfl (l' := #[.val (.ref x), .val (.int i), .val (.int c), .val (.int (0 : Int32))]) rfl ?_
              exact k_)
            have e_ : own_al c = (0 : Int32) := by simp [own_al, hc2, hc23, hc25, hc27, hc30]
            rw [e_] at kk
            exact pre31 _ kk
          · have pre32 := fun tg_ (k_ : Steps pg.tables ee below (T0.setTop (mkF mm 58 #[.val (.ref x), .val (.int i), .val (.int c), .val (.int (1 : Int32))] [])) tg_) => pre29 tg_ (by
              show Steps pg.tables ee below (T0.setTop (mkF mm 49 #[.val (.ref x), .val (.int i), .val (.int c), .unset] [(.int (57 : Int32)), (.int c)])) _
              refine XS.icmpNo X0.here hx rfl (hb hby d5_49) rfl (flt hc30).2.2.1 ?_
              refine XS.iconst X0.here hx rfl (hb hby d5_52) ?_
              show Steps pg.tables ee below (T0.setTop (mkF mm 53 #[.val (.ref x), .val (.int i), .val (.int c), .unset] [(.int (1 : Int32))])) _
              refine XS.goto X0.here hx rfl (pc0 := 53) (pc' := 57) rfl (hb hby d5_53) (by decide) (by decide) ?_
              refine XS.istoreN X0.here hx rfl (hb hby d5_57) rfl (l' := #[.val (.ref x), .val (.int i), .val (.int c), .val (.int (1 : Int32))]) rfl ?_
              exact k_)
            have e_ : own_al c = (1 : Int32) := by simp [own_al, hc2, hc23, hc25, hc27, hc30]
            rw [e_] at kk
            exact pre32 _ kk
      · have pre33 := fun tg_ (k_ : Steps pg.tables ee below (T0.setTop (mkF mm 37 #[.val (.ref x), .val (.int i), .val (.int c), .unset] [(.int (122 : Int32)), (.int c)])) tg_) => pre24 tg_ (by
          show Steps pg.tables ee below (T0.setTop (mkF mm 31 #[.val (.ref x), .val (.int i), .val (.int c), .unset] [(.int (97 : Int32)), (.int c)])) _
          refine XS.icmpNo X0.here hx rfl (hb hby d5_31) rfl (flt hc25).1 ?_
          refine XS.iloadN X0.here hx rfl (hb hby d5_34) rfl ?_
          refine XS.bipush X0.here hx rfl (hb hby d5_35) ?_
          exact k_)
        by_cases hc34 : (122 : Int32) < c
        · have pre35 := fun tg_ (k_ : Steps pg.tables ee below (T0.setTop (mkF mm 43 #[.val (.ref x), .val (.int i), .val (.int c), .unset] [(.int (48 : Int32)), (.int c)])) tg_) => pre33 tg_ (by
            show Steps pg.tables ee below (T0.setTop (mkF mm 37 #[.val (.ref x), .val (.int i), .val (.int c), .unset] [(.int (122 : Int32)), (.int c)])) _
            refine XS.icmpNo X0.here hx rfl (hb hby d5_37) rfl (tlt hc34).2.2.2 ?_
            refine XS.iloadN X0.here hx rfl (hb hby d5_40) rfl ?_
            refine XS.bipush X0.here hx rfl (hb hby d5_41) ?_
            exact k_)
          by_cases hc36 : c < (48 : Int32)
          · have pre37 := fun tg_ (k_ : Steps pg.tables ee below (T0.setTop (mkF mm 58 #[.val (.ref x), .val (.int i), .val (.int c), .val (.int (0 : Int32))] [])) tg_) => pre35 tg_ (by
              show Steps pg.tables ee below (T0.setTop (mkF mm 43 #[.val (.ref x), .val (.int i), .val (.int c), .unset] [(.int (48 : Int32)), (.int c)])) _
              refine XS.icmpYes X0.here hx rfl (pc0 := 43) (pc' := 56) rfl (hb hby d5_43) rfl (tlt hc36).1 (by decide) (by decide) ?_
              refine XS.iconst X0.here hx rfl (hb hby d5_56) ?_
              show Steps pg.tables ee below (T0.setTop (mkF mm 57 #[.val (.ref x), .val (.int i), .val (.int c), .unset] [(.int (0 : Int32))])) _
              refine XS.istoreN X0.here hx rfl (hb hby d5_57) rfl (l' := #[.val (.ref x), .val (.int i), .val (.int c), .val (.int (0 : Int32))]) rfl ?_
              exact k_)
            have e_ : own_al c = (0 : Int32) := by simp [own_al, hc2, hc23, hc25, hc34, hc36]
            rw [e_] at kk
            exact pre37 _ kk
          · have pre38 := fun tg_ (k_ : Steps pg.tables ee below (T0.setTop (mkF mm 49 #[.val (.ref x), .val (.int i), .val (.int c), .unset] [(.int (57 : Int32)), (.int c)])) tg_) => pre35 tg_ (by
              show Steps pg.tables ee below (T0.setTop (mkF mm 43 #[.val (.ref x), .val (.int i), .val (.int c), .unset] [(.int (48 : Int32)), (.int c)])) _
              refine XS.icmpNo X0.here hx rfl (hb hby d5_43) rfl (flt hc36).1 ?_
              refine XS.iloadN X0.here hx rfl (hb hby d5_46) rfl ?_
              show Steps pg.tables ee below (T0.setTop (mkF mm 47 #[.val (.ref x), .val (.int i), .val (.int c), .unset] [(.int c)])) _
              refine XS.bipush X0.here hx rfl (hb hby d5_47) ?_
              exact k_)
            by_cases hc39 : (57 : Int32) < c
            · have pre40 := fun tg_ (k_ : Steps pg.tables ee below (T0.setTop (mkF mm 58 #[.val (.ref x), .val (.int i), .val (.int c), .val (.int (0 : Int32))] [])) tg_) => pre38 tg_ (by
                show Steps pg.tables ee below (T0.setTop (mkF mm 49 #[.val (.ref x), .val (.int i), .val (.int c), .unset] [(.int (57 : Int32)), (.int c)])) _
                refine XS.icmpYes X0.here hx rfl (pc0 := 49) (pc' := 56) rfl (hb hby d5_49) rfl (tlt hc39).2.2.1 (by decide) (by decide) ?_
                refine XS.iconst X0.here hx rfl (hb hby d5_56) ?_
                refine XS.istoreN X0.here hx rfl (hb hby d5_57) rfl (l' := #[.val (.ref x), .val (.int i), .val (.int c), .val (.int (0 : Int32))]) rfl ?_
                exact k_)
              have e_ : own_al c = (0 : Int32) := by simp [own_al, hc2, hc23, hc25, hc34, hc36, hc39]
              rw [e_] at kk
              exact pre40 _ kk
            · have pre41 := fun tg_ (k_ : Steps pg.tables ee below (T0.setTop (mkF mm 58 #[.val (.ref x), .val (.int i), .val (.int c), .val (.int (1 : Int32))] [])) tg_) => pre38 tg_ (by
                show Steps pg.tables ee below (T0.setTop (mkF mm 49 #[.val (.ref x), .val (.int i), .val (.int c), .unset] [(.int (57 : Int32)), (.int c)])) _
                refine XS.icmpNo X0.here hx rfl (hb hby d5_49) rfl (flt hc39).2.2.1 ?_
                refine XS.iconst X0.here hx rfl (hb hby d5_52) ?_
                refine XS.goto X0.here hx rfl (pc0 := 53) (pc' := 57) rfl (hb hby d5_53) (by decide) (by decide) ?_
                refine XS.istoreN X0.here hx rfl (hb hby d5_57) rfl (l' := #[.val (.ref x), .val (.int i), .val (.int c), .val (.int (1 : Int32))]) rfl ?_
                exact k_)
              have e_ : own_al c = (1 : Int32) := by simp [own_al, hc2, hc23, hc25, hc34, hc36, hc39]
              rw [e_] at kk
              exact pre41 _ kk
        · have pre42 := fun tg_ (k_ : Steps pg.tables ee below (T0.setTop (mkF mm 58 #[.val (.ref x), .val (.int i), .val (.int c), .val (.int (1 : Int32))] [])) tg_) => pre33 tg_ (by
            show Steps pg.tables ee below (T0.setTop (mkF mm 37 #[.val (.ref x), .val (.int i), .val (.int c), .unset] [(.int (122 : Int32)), (.int c)])) _
            refine XS.icmpYes X0.here hx rfl (pc0 := 37) (pc' := 52) rfl (hb hby d5_37) rfl (flt hc34).2.2.2 (by decide) (by decide) ?_
            refine XS.iconst X0.here hx rfl (hb hby d5_52) ?_
            refine XS.goto X0.here hx rfl (pc0 := 53) (pc' := 57) rfl (hb hby d5_53) (by decide) (by decide) ?_
            refine XS.istoreN X0.here hx rfl (hb hby d5_57) rfl (l' := #[.val (.ref x), .val (.int i), .val (.int c), .val (.int (1 : Int32))]) rfl ?_
            exact k_)
          have e_ : own_al c = (1 : Int32) := by simp [own_al, hc2, hc23, hc25, hc34]
          rw [e_] at kk
          exact pre42 _ kk
    · have pre43 := fun tg_ (k_ : Steps pg.tables ee below (T0.setTop (mkF mm 58 #[.val (.ref x), .val (.int i), .val (.int c), .val (.int (1 : Int32))] [])) tg_) => pre22 tg_ (by
        show Steps pg.tables ee below (T0.setTop (mkF mm 25 #[.val (.ref x), .val (.int i), .val (.int c), .unset] [(.int (90 : Int32)), (.int c)])) _
        refine XS.icmpYes X0.here hx rfl (pc0 := 25) (pc' := 52) rfl (hb hby d5_25) rfl (flt hc23).2.2.2 (by decide) (by decide) ?_
        refine XS.iconst X0.here hx rfl (hb hby d5_52) ?_
        refine XS.goto X0.here hx rfl (pc0 := 53) (pc' := 57) rfl (hb hby d5_53) (by decide) (by decide) ?_
        show Steps pg.tables ee below (T0.setTop (mkF mm 57 #[.val (.ref x), .val (.int i), .val (.int c), .unset] [(.int (1 : Int32))])) _
        refine XS.istoreN X0.here hx rfl (hb hby d5_57) rfl (l' := #[.val (.ref x), .val (.int i), .val (.int c), .val (.int (1 : Int32))]) rfl ?_
        exact k_)
      have e_ : own_al c = (1 : Int32) := by simp [own_al, hc2, hc23]
      rw [e_] at kk
      exact pre43 _ kk
set_option maxRecDepth 65536 in
theorem pcAli {pg : Program} {l : Launch} {ee : Env} {R : Room} {s : State} {mm : MethodId} {args : Array Value} {below : List Frame} {meth : Method} {cc : Code} {T0 : State} {locs : List Loc} {cells slots : Nat} (X0 : Stand pg l ee R s mm args below meth cc T0 locs cells slots) (hx : pg.tables.exec = Jvm.exec) (hby : cc.code = prog_14_method_3_code) (x : Addr) (i : Int32) (c : Int32) (f3 : Int32) : ∀ tg_, Steps pg.tables ee below (T0.setTop (mkF mm 58 #[.val (.ref x), .val (.int i), .val (.int c), .val (.int (own_al c))] [])) tg_ → Steps pg.tables ee below (T0.setTop (mkF mm 16 #[.val (.ref x), .val (.int i), .val (.int c), .val (.int f3)] [])) tg_ := by
  intro tg_ kk
  have pre0 : ∀ tg_, Steps pg.tables ee below (T0.setTop (mkF mm 16 #[.val (.ref x), .val (.int i), .val (.int c), .val (.int f3)] [])) tg_ → Steps pg.tables ee below (T0.setTop (mkF mm 16 #[.val (.ref x), .val (.int i), .val (.int c), .val (.int f3)] [])) tg_ := fun _ k_ => k_
  have pre1 := fun tg_ (k_ : Steps pg.tables ee below (T0.setTop (mkF mm 19 #[.val (.ref x), .val (.int i), .val (.int c), .val (.int f3)] [(.int (65 : Int32)), (.int c)])) tg_) => pre0 tg_ (by
    show Steps pg.tables ee below (T0.setTop (mkF mm 16 #[.val (.ref x), .val (.int i), .val (.int c), .val (.int f3)] [])) _
    refine XS.iloadN X0.here hx rfl (hb hby d5_16) rfl ?_
    refine XS.bipush X0.here hx rfl (hb hby d5_17) ?_
    exact k_)
  by_cases hc2 : c < (65 : Int32)
  · have pre3 := fun tg_ (k_ : Steps pg.tables ee below (T0.setTop (mkF mm 31 #[.val (.ref x), .val (.int i), .val (.int c), .val (.int f3)] [(.int (97 : Int32)), (.int c)])) tg_) => pre1 tg_ (by
      show Steps pg.tables ee below (T0.setTop (mkF mm 19 #[.val (.ref x), .val (.int i), .val (.int c), .val (.int f3)] [(.int (65 : Int32)), (.int c)])) _
      refine XS.icmpYes X0.here hx rfl (pc0 := 19) (pc' := 28) rfl (hb hby d5_19) rfl (tlt hc2).1 (by decide) (by decide) ?_
      refine XS.iloadN X0.here hx rfl (hb hby d5_28) rfl ?_
      refine XS.bipush X0.here hx rfl (hb hby d5_29) ?_
      exact k_)
    by_cases hc4 : c < (97 : Int32)
    · have pre5 := fun tg_ (k_ : Steps pg.tables ee below (T0.setTop (mkF mm 43 #[.val (.ref x), .val (.int i), .val (.int c), .val (.int f3)] [(.int (48 : Int32)), (.int c)])) tg_) => pre3 tg_ (by
        show Steps pg.tables ee below (T0.setTop (mkF mm 31 #[.val (.ref x), .val (.int i), .val (.int c), .val (.int f3)] [(.int (97 : Int32)), (.int c)])) _
        refine XS.icmpYes X0.here hx rfl (pc0 := 31) (pc' := 40) rfl (hb hby d5_31) rfl (tlt hc4).1 (by decide) (by decide) ?_
        refine XS.iloadN X0.here hx rfl (hb hby d5_40) rfl ?_
        refine XS.bipush X0.here hx rfl (hb hby d5_41) ?_
        exact k_)
      by_cases hc6 : c < (48 : Int32)
      · have pre7 := fun tg_ (k_ : Steps pg.tables ee below (T0.setTop (mkF mm 58 #[.val (.ref x), .val (.int i), .val (.int c), .val (.int (0 : Int32))] [])) tg_) => pre5 tg_ (by
          show Steps pg.tables ee below (T0.setTop (mkF mm 43 #[.val (.ref x), .val (.int i), .val (.int c), .val (.int f3)] [(.int (48 : Int32)), (.int c)])) _
          refine XS.icmpYes X0.here hx rfl (pc0 := 43) (pc' := 56) rfl (hb hby d5_43) rfl (tlt hc6).1 (by decide) (by decide) ?_
          refine XS.iconst X0.here hx rfl (hb hby d5_56) ?_
          refine XS.istoreN X0.here hx rfl (hb hby d5_57) rfl (l' := #[.val (.ref x), .val (.int i), .val (.int c), .val (.int (0 : Int32))]) rfl ?_
          exact k_)
        have e_ : own_al c = (0 : Int32) := by simp [own_al, hc2, hc4, hc6]
        rw [e_] at kk
        exact pre7 _ kk
      · have pre8 := fun tg_ (k_ : Steps pg.tables ee below (T0.setTop (mkF mm 49 #[.val (.ref x), .val (.int i), .val (.int c), .val (.int f3)] [(.int (57 : Int32)), (.int c)])) tg_) => pre5 tg_ (by
          show Steps pg.tables ee below (T0.setTop (mkF mm 43 #[.val (.ref x), .val (.int i), .val (.int c), .val (.int f3)] [(.int (48 : Int32)), (.int c)])) _
          refine XS.icmpNo X0.here hx rfl (hb hby d5_43) rfl (flt hc6).1 ?_
          refine XS.iloadN X0.here hx rfl (hb hby d5_46) rfl ?_
          refine XS.bipush X0.here hx rfl (hb hby d5_47) ?_
          exact k_)
        by_cases hc9 : (57 : Int32) < c
        · have pre10 := fun tg_ (k_ : Steps pg.tables ee below (T0.setTop (mkF mm 58 #[.val (.ref x), .val (.int i), .val (.int c), .val (.int (0 : Int32))] [])) tg_) => pre8 tg_ (by
            show Steps pg.tables ee below (T0.setTop (mkF mm 49 #[.val (.ref x), .val (.int i), .val (.int c), .val (.int f3)] [(.int (57 : Int32)), (.int c)])) _
            refine XS.icmpYes X0.here hx rfl (pc0 := 49) (pc' := 56) rfl (hb hby d5_49) rfl (tlt hc9).2.2.1 (by decide) (by decide) ?_
            refine XS.iconst X0.here hx rfl (hb hby d5_56) ?_
            refine XS.istoreN X0.here hx rfl (hb hby d5_57) rfl (l' := #[.val (.ref x), .val (.int i), .val (.int c), .val (.int (0 : Int32))]) rfl ?_
            exact k_)
          have e_ : own_al c = (0 : Int32) := by simp [own_al, hc2, hc4, hc6, hc9]
          rw [e_] at kk
          exact pre10 _ kk
        · have pre11 := fun tg_ (k_ : Steps pg.tables ee below (T0.setTop (mkF mm 58 #[.val (.ref x), .val (.int i), .val (.int c), .val (.int (1 : Int32))] [])) tg_) => pre8 tg_ (by
            show Steps pg.tables ee below (T0.setTop (mkF mm 49 #[.val (.ref x), .val (.int i), .val (.int c), .val (.int f3)] [(.int (57 : Int32)), (.int c)])) _
            refine XS.icmpNo X0.here hx rfl (hb hby d5_49) rfl (flt hc9).2.2.1 ?_
            refine XS.iconst X0.here hx rfl (hb hby d5_52) ?_
            refine XS.goto X0.here hx rfl (pc0 := 53) (pc' := 57) rfl (hb hby d5_53) (by decide) (by decide) ?_
            refine XS.istoreN X0.here hx rfl (hb hby d5_57) rfl (l' := #[.val (.ref x), .val (.int i), .val (.int c), .val (.int (1 : Int32))]) rfl ?_
            exact k_)
          have e_ : own_al c = (1 : Int32) := by simp [own_al, hc2, hc4, hc6, hc9]
          rw [e_] at kk
          exact pre11 _ kk
    · have pre12 := fun tg_ (k_ : Steps pg.tables ee below (T0.setTop (mkF mm 37 #[.val (.ref x), .val (.int i), .val (.int c), .val (.int f3)] [(.int (122 : Int32)), (.int c)])) tg_) => pre3 tg_ (by
        show Steps pg.tables ee below (T0.setTop (mkF mm 31 #[.val (.ref x), .val (.int i), .val (.int c), .val (.int f3)] [(.int (97 : Int32)), (.int c)])) _
        refine XS.icmpNo X0.here hx rfl (hb hby d5_31) rfl (flt hc4).1 ?_
        refine XS.iloadN X0.here hx rfl (hb hby d5_34) rfl ?_
        refine XS.bipush X0.here hx rfl (hb hby d5_35) ?_
        exact k_)
      by_cases hc13 : (122 : Int32) < c
      · have pre14 := fun tg_ (k_ : Steps pg.tables ee below (T0.setTop (mkF mm 43 #[.val (.ref x), .val (.int i), .val (.int c), .val (.int f3)] [(.int (48 : Int32)), (.int c)])) tg_) => pre12 tg_ (by
          show Steps pg.tables ee below (T0.setTop (mkF mm 37 #[.val (.ref x), .val (.int i), .val (.int c), .val (.int f3)] [(.int (122 : Int32)), (.int c)])) _
          refine XS.icmpNo X0.here hx rfl (hb hby d5_37) rfl (tlt hc13).2.2.2 ?_
          refine XS.iloadN X0.here hx rfl (hb hby d5_40) rfl ?_
          refine XS.bipush X0.here hx rfl (hb hby d5_41) ?_
          exact k_)
        by_cases hc15 : c < (48 : Int32)
        · have pre16 := fun tg_ (k_ : Steps pg.tables ee below (T0.setTop (mkF mm 58 #[.val (.ref x), .val (.int i), .val (.int c), .val (.int (0 : Int32))] [])) tg_) => pre14 tg_ (by
            show Steps pg.tables ee below (T0.setTop (mkF mm 43 #[.val (.ref x), .val (.int i), .val (.int c), .val (.int f3)] [(.int (48 : Int32)), (.int c)])) _
            refine XS.icmpYes X0.here hx rfl (pc0 := 43) (pc' := 56) rfl (hb hby d5_43) rfl (tlt hc15).1 (by decide) (by decide) ?_
            refine XS.iconst X0.here hx rfl (hb hby d5_56) ?_
            refine XS.istoreN X0.here hx rfl (hb hby d5_57) rfl (l' := #[.val (.ref x), .val (.int i), .val (.int c), .val (.int (0 : Int32))]) rfl ?_
            exact k_)
          have e_ : own_al c = (0 : Int32) := by simp [own_al, hc2, hc4, hc13, hc15]
          rw [e_] at kk
          exact pre16 _ kk
        · have pre17 := fun tg_ (k_ : Steps pg.tables ee below (T0.setTop (mkF mm 49 #[.val (.ref x), .val (.int i), .val (.int c), .val (.int f3)] [(.int (57 : Int32)), (.int c)])) tg_) => pre14 tg_ (by
            show Steps pg.tables ee below (T0.setTop (mkF mm 43 #[.val (.ref x), .val (.int i), .val (.int c), .val (.int f3)] [(.int (48 : Int32)), (.int c)])) _
            refine XS.icmpNo X0.here hx rfl (hb hby d5_43) rfl (flt hc15).1 ?_
            refine XS.iloadN X0.here hx rfl (hb hby d5_46) rfl ?_
            refine XS.bipush X0.here hx rfl (hb hby d5_47) ?_
            exact k_)
          by_cases hc18 : (57 : Int32) < c
          · have pre19 := fun tg_ (k_ : Steps pg.tables ee below (T0.setTop (mkF mm 58 #[.val (.ref x), .val (.int i), .val (.int c), .val (.int (0 : Int32))] [])) tg_) => pre17 tg_ (by
              show Steps pg.tables ee below (T0.setTop (mkF mm 49 #[.val (.ref x), .val (.int i), .val (.int c), .val (.int f3)] [(.int (57 : Int32)), (.int c)])) _
              refine XS.icmpYes X0.here hx rfl (pc0 := 49) (pc' := 56) rfl (hb hby d5_49) rfl (tlt hc18).2.2.1 (by decide) (by decide) ?_
              refine XS.iconst X0.here hx rfl (hb hby d5_56) ?_
              show Steps pg.tables ee below (T0.setTop (mkF mm 57 #[.val (.ref x), .val (.int i), .val (.int c), .val (.int f3)] [(.int (0 : Int32))])) _
              refine XS.istoreN X0.here hx rfl (hb hby d5_57) rfl (l' := #[.val (.ref x), .val (.int i), .val (.int c), .val (.int (0 : Int32))]) rfl ?_
              exact k_)
            have e_ : own_al c = (0 : Int32) := by simp [own_al, hc2, hc4, hc13, hc15, hc18]
            rw [e_] at kk
            exact pre19 _ kk
          · have pre20 := fun tg_ (k_ : Steps pg.tables ee below (T0.setTop (mkF mm 58 #[.val (.ref x), .val (.int i), .val (.int c), .val (.int (1 : Int32))] [])) tg_) => pre17 tg_ (by
              show Steps pg.tables ee below (T0.setTop (mkF mm 49 #[.val (.ref x), .val (.int i), .val (.int c), .val (.int f3)] [(.int (57 : Int32)), (.int c)])) _
              refine XS.icmpNo X0.here hx rfl (hb hby d5_49) rfl (flt hc18).2.2.1 ?_
              refine XS.iconst X0.here hx rfl (hb hby d5_52) ?_
              show Steps pg.tables ee below (T0.setTop (mkF mm 53 #[.val (.ref x), .val (.int i), .val (.int c), .val (.int f3)] [(.int (1 : Int32))])) _
              refine XS.goto X0.here hx rfl (pc0 := 53) (pc' := 57) rfl (hb hby d5_53) (by decide) (by decide) ?_
              refine XS.istoreN X0.here hx rfl (hb hby d5_57) rfl (l' := #[.val (.ref x), .val (.int i), .val (.int c), .val (.int (1 : Int32))]) rfl ?_
              exact k_)
            have e_ : own_al c = (1 : Int32) := by simp [own_al, hc2, hc4, hc13, hc15, hc18]
            rw [e_] at kk
            exact pre20 _ kk
      · have pre21 := fun tg_ (k_ : Steps pg.tables ee below (T0.setTop (mkF mm 58 #[.val (.ref x), .val (.int i), .val (.int c), .val (.int (1 : Int32))] [])) tg_) => pre12 tg_ (by
          show Steps pg.tables ee below (T0.setTop (mkF mm 37 #[.val (.ref x), .val (.int i), .val (.int c), .val (.int f3)] [(.int (122 : Int32)), (.int c)])) _
          refine XS.icmpYes X0.here hx rfl (pc0 := 37) (pc' := 52) rfl (hb hby d5_37) rfl (flt hc13).2.2.2 (by decide) (by decide) ?_
          refine XS.iconst X0.here hx rfl (hb hby d5_52) ?_
          refine XS.goto X0.here hx rfl (pc0 := 53) (pc' := 57) rfl (hb hby d5_53) (by decide) (by decide) ?_
          refine XS.istoreN X0.here hx rfl (hb hby d5_57) rfl (l' := #[.val (.ref x), .val (.int i), .val (.int c), .val (.int (1 : Int32))]) rfl ?_
          exact k_)
        have e_ : own_al c = (1 : Int32) := by simp [own_al, hc2, hc4, hc13]
        rw [e_] at kk
        exact pre21 _ kk
  · have pre22 := fun tg_ (k_ : Steps pg.tables ee below (T0.setTop (mkF mm 25 #[.val (.ref x), .val (.int i), .val (.int c), .val (.int f3)] [(.int (90 : Int32)), (.int c)])) tg_) => pre1 tg_ (by
      show Steps pg.tables ee below (T0.setTop (mkF mm 19 #[.val (.ref x), .val (.int i), .val (.int c), .val (.int f3)] [(.int (65 : Int32)), (.int c)])) _
      refine XS.icmpNo X0.here hx rfl (hb hby d5_19) rfl (flt hc2).1 ?_
      refine XS.iloadN X0.here hx rfl (hb hby d5_22) rfl ?_
      refine XS.bipush X0.here hx rfl (hb hby d5_23) ?_
      exact k_)
    by_cases hc23 : (90 : Int32) < c
    · have pre24 := fun tg_ (k_ : Steps pg.tables ee below (T0.setTop (mkF mm 31 #[.val (.ref x), .val (.int i), .val (.int c), .val (.int f3)] [(.int (97 : Int32)), (.int c)])) tg_) => pre22 tg_ (by
        show Steps pg.tables ee below (T0.setTop (mkF mm 25 #[.val (.ref x), .val (.int i), .val (.int c), .val (.int f3)] [(.int (90 : Int32)), (.int c)])) _
        refine XS.icmpNo X0.here hx rfl (hb hby d5_25) rfl (tlt hc23).2.2.2 ?_
        refine XS.iloadN X0.here hx rfl (hb hby d5_28) rfl ?_
        refine XS.bipush X0.here hx rfl (hb hby d5_29) ?_
        exact k_)
      by_cases hc25 : c < (97 : Int32)
      · have pre26 := fun tg_ (k_ : Steps pg.tables ee below (T0.setTop (mkF mm 43 #[.val (.ref x), .val (.int i), .val (.int c), .val (.int f3)] [(.int (48 : Int32)), (.int c)])) tg_) => pre24 tg_ (by
          show Steps pg.tables ee below (T0.setTop (mkF mm 31 #[.val (.ref x), .val (.int i), .val (.int c), .val (.int f3)] [(.int (97 : Int32)), (.int c)])) _
          refine XS.icmpYes X0.here hx rfl (pc0 := 31) (pc' := 40) rfl (hb hby d5_31) rfl (tlt hc25).1 (by decide) (by decide) ?_
          refine XS.iloadN X0.here hx rfl (hb hby d5_40) rfl ?_
          refine XS.bipush X0.here hx rfl (hb hby d5_41) ?_
          exact k_)
        by_cases hc27 : c < (48 : Int32)
        · have pre28 := fun tg_ (k_ : Steps pg.tables ee below (T0.setTop (mkF mm 58 #[.val (.ref x), .val (.int i), .val (.int c), .val (.int (0 : Int32))] [])) tg_) => pre26 tg_ (by
            show Steps pg.tables ee below (T0.setTop (mkF mm 43 #[.val (.ref x), .val (.int i), .val (.int c), .val (.int f3)] [(.int (48 : Int32)), (.int c)])) _
            refine XS.icmpYes X0.here hx rfl (pc0 := 43) (pc' := 56) rfl (hb hby d5_43) rfl (tlt hc27).1 (by decide) (by decide) ?_
            refine XS.iconst X0.here hx rfl (hb hby d5_56) ?_
            refine XS.istoreN X0.here hx rfl (hb hby d5_57) rfl (l' := #[.val (.ref x), .val (.int i), .val (.int c), .val (.int (0 : Int32))]) rfl ?_
            exact k_)
          have e_ : own_al c = (0 : Int32) := by simp [own_al, hc2, hc23, hc25, hc27]
          rw [e_] at kk
          exact pre28 _ kk
        · have pre29 := fun tg_ (k_ : Steps pg.tables ee below (T0.setTop (mkF mm 49 #[.val (.ref x), .val (.int i), .val (.int c), .val (.int f3)] [(.int (57 : Int32)), (.int c)])) tg_) => pre26 tg_ (by
            show Steps pg.tables ee below (T0.setTop (mkF mm 43 #[.val (.ref x), .val (.int i), .val (.int c), .val (.int f3)] [(.int (48 : Int32)), (.int c)])) _
            refine XS.icmpNo X0.here hx rfl (hb hby d5_43) rfl (flt hc27).1 ?_
            refine XS.iloadN X0.here hx rfl (hb hby d5_46) rfl ?_
            refine XS.bipush X0.here hx rfl (hb hby d5_47) ?_
            exact k_)
          by_cases hc30 : (57 : Int32) < c
          · have pre31 := fun tg_ (k_ : Steps pg.tables ee below (T0.setTop (mkF mm 58 #[.val (.ref x), .val (.int i), .val (.int c), .val (.int (0 : Int32))] [])) tg_) => pre29 tg_ (by
              show Steps pg.tables ee below (T0.setTop (mkF mm 49 #[.val (.ref x), .val (.int i), .val (.int c), .val (.int f3)] [(.int (57 : Int32)), (.int c)])) _
              refine XS.icmpYes X0.here hx rfl (pc0 := 49) (pc' := 56) rfl (hb hby d5_49) rfl (tlt hc30).2.2.1 (by decide) (by decide) ?_
              refine XS.iconst X0.here hx rfl (hb hby d5_56) ?_
              show Steps pg.tables ee below (T0.setTop (mkF mm 57 #[.val (.ref x), .val (.int i), .val (.int c), .val (.int f3)] [(.int (0 : Int32))])) _
              refine XS.istoreN X0.here hx rfl (hb hby d5_57) rfl (l' := #[.val (.ref x), .val (.int i), .val (.int c), .val (.int (0 : Int32))]) rfl ?_
              exact k_)
            have e_ : own_al c = (0 : Int32) := by simp [own_al, hc2, hc23, hc25, hc27, hc30]
            rw [e_] at kk
            exact pre31 _ kk
          · have pre32 := fun tg_ (k_ : Steps pg.tables ee below (T0.setTop (mkF mm 58 #[.val (.ref x), .val (.int i), .val (.int c), .val (.int (1 : Int32))] [])) tg_) => pre29 tg_ (by
              show Steps pg.tables ee below (T0.setTop (mkF mm 49 #[.val (.ref x), .val (.int i), .val (.int c), .val (.int f3)] [(.int (57 : Int32)), (.int c)])) _
              refine XS.icmpNo X0.here hx rfl (hb hby d5_49) rfl (flt hc30).2.2.1 ?_
              refine XS.iconst X0.here hx rfl (hb hby d5_52) ?_
              show Steps pg.tables ee below (T0.setTop (mkF mm 53 #[.val (.ref x), .val (.int i), .val (.int c), .val (.int f3)] [(.int (1 : Int32))])) _
              refine XS.goto X0.here hx rfl (pc0 := 53) (pc' := 57) rfl (hb hby d5_53) (by decide) (by decide) ?_
              refine XS.istoreN X0.here hx rfl (hb hby d5_57) rfl (l' := #[.val (.ref x), .val (.int i), .val (.int c), .val (.int (1 : Int32))]) rfl ?_
              exact k_)
            have e_ : own_al c = (1 : Int32) := by simp [own_al, hc2, hc23, hc25, hc27, hc30]
            rw [e_] at kk
            exact pre32 _ kk
      · have pre33 := fun tg_ (k_ : Steps pg.tables ee below (T0.setTop (mkF mm 37 #[.val (.ref x), .val (.int i), .val (.int c), .val (.int f3)] [(.int (122 : Int32)), (.int c)])) tg_) => pre24 tg_ (by
          show Steps pg.tables ee below (T0.setTop (mkF mm 31 #[.val (.ref x), .val (.int i), .val (.int c), .val (.int f3)] [(.int (97 : Int32)), (.int c)])) _
          refine XS.icmpNo X0.here hx rfl (hb hby d5_31) rfl (flt hc25).1 ?_
          refine XS.iloadN X0.here hx rfl (hb hby d5_34) rfl ?_
          refine XS.bipush X0.here hx rfl (hb hby d5_35) ?_
          exact k_)
        by_cases hc34 : (122 : Int32) < c
        · have pre35 := fun tg_ (k_ : Steps pg.tables ee below (T0.setTop (mkF mm 43 #[.val (.ref x), .val (.int i), .val (.int c), .val (.int f3)] [(.int (48 : Int32)), (.int c)])) tg_) => pre33 tg_ (by
            show Steps pg.tables ee below (T0.setTop (mkF mm 37 #[.val (.ref x), .val (.int i), .val (.int c), .val (.int f3)] [(.int (122 : Int32)), (.int c)])) _
            refine XS.icmpNo X0.here hx rfl (hb hby d5_37) rfl (tlt hc34).2.2.2 ?_
            refine XS.iloadN X0.here hx rfl (hb hby d5_40) rfl ?_
            refine XS.bipush X0.here hx rfl (hb hby d5_41) ?_
            exact k_)
          by_cases hc36 : c < (48 : Int32)
          · have pre37 := fun tg_ (k_ : Steps pg.tables ee below (T0.setTop (mkF mm 58 #[.val (.ref x), .val (.int i), .val (.int c), .val (.int (0 : Int32))] [])) tg_) => pre35 tg_ (by
              show Steps pg.tables ee below (T0.setTop (mkF mm 43 #[.val (.ref x), .val (.int i), .val (.int c), .val (.int f3)] [(.int (48 : Int32)), (.int c)])) _
              refine XS.icmpYes X0.here hx rfl (pc0 := 43) (pc' := 56) rfl (hb hby d5_43) rfl (tlt hc36).1 (by decide) (by decide) ?_
              refine XS.iconst X0.here hx rfl (hb hby d5_56) ?_
              show Steps pg.tables ee below (T0.setTop (mkF mm 57 #[.val (.ref x), .val (.int i), .val (.int c), .val (.int f3)] [(.int (0 : Int32))])) _
              refine XS.istoreN X0.here hx rfl (hb hby d5_57) rfl (l' := #[.val (.ref x), .val (.int i), .val (.int c), .val (.int (0 : Int32))]) rfl ?_
              exact k_)
            have e_ : own_al c = (0 : Int32) := by simp [own_al, hc2, hc23, hc25, hc34, hc36]
            rw [e_] at kk
            exact pre37 _ kk
          · have pre38 := fun tg_ (k_ : Steps pg.tables ee below (T0.setTop (mkF mm 49 #[.val (.ref x), .val (.int i), .val (.int c), .val (.int f3)] [(.int (57 : Int32)), (.int c)])) tg_) => pre35 tg_ (by
              show Steps pg.tables ee below (T0.setTop (mkF mm 43 #[.val (.ref x), .val (.int i), .val (.int c), .val (.int f3)] [(.int (48 : Int32)), (.int c)])) _
              refine XS.icmpNo X0.here hx rfl (hb hby d5_43) rfl (flt hc36).1 ?_
              refine XS.iloadN X0.here hx rfl (hb hby d5_46) rfl ?_
              show Steps pg.tables ee below (T0.setTop (mkF mm 47 #[.val (.ref x), .val (.int i), .val (.int c), .val (.int f3)] [(.int c)])) _
              refine XS.bipush X0.here hx rfl (hb hby d5_47) ?_
              exact k_)
            by_cases hc39 : (57 : Int32) < c
            · have pre40 := fun tg_ (k_ : Steps pg.tables ee below (T0.setTop (mkF mm 58 #[.val (.ref x), .val (.int i), .val (.int c), .val (.int (0 : Int32))] [])) tg_) => pre38 tg_ (by
                show Steps pg.tables ee below (T0.setTop (mkF mm 49 #[.val (.ref x), .val (.int i), .val (.int c), .val (.int f3)] [(.int (57 : Int32)), (.int c)])) _
                refine XS.icmpYes X0.here hx rfl (pc0 := 49) (pc' := 56) rfl (hb hby d5_49) rfl (tlt hc39).2.2.1 (by decide) (by decide) ?_
                refine XS.iconst X0.here hx rfl (hb hby d5_56) ?_
                refine XS.istoreN X0.here hx rfl (hb hby d5_57) rfl (l' := #[.val (.ref x), .val (.int i), .val (.int c), .val (.int (0 : Int32))]) rfl ?_
                exact k_)
              have e_ : own_al c = (0 : Int32) := by simp [own_al, hc2, hc23, hc25, hc34, hc36, hc39]
              rw [e_] at kk
              exact pre40 _ kk
            · have pre41 := fun tg_ (k_ : Steps pg.tables ee below (T0.setTop (mkF mm 58 #[.val (.ref x), .val (.int i), .val (.int c), .val (.int (1 : Int32))] [])) tg_) => pre38 tg_ (by
                show Steps pg.tables ee below (T0.setTop (mkF mm 49 #[.val (.ref x), .val (.int i), .val (.int c), .val (.int f3)] [(.int (57 : Int32)), (.int c)])) _
                refine XS.icmpNo X0.here hx rfl (hb hby d5_49) rfl (flt hc39).2.2.1 ?_
                refine XS.iconst X0.here hx rfl (hb hby d5_52) ?_
                refine XS.goto X0.here hx rfl (pc0 := 53) (pc' := 57) rfl (hb hby d5_53) (by decide) (by decide) ?_
                refine XS.istoreN X0.here hx rfl (hb hby d5_57) rfl (l' := #[.val (.ref x), .val (.int i), .val (.int c), .val (.int (1 : Int32))]) rfl ?_
                exact k_)
              have e_ : own_al c = (1 : Int32) := by simp [own_al, hc2, hc23, hc25, hc34, hc36, hc39]
              rw [e_] at kk
              exact pre41 _ kk
        · have pre42 := fun tg_ (k_ : Steps pg.tables ee below (T0.setTop (mkF mm 58 #[.val (.ref x), .val (.int i), .val (.int c), .val (.int (1 : Int32))] [])) tg_) => pre33 tg_ (by
            show Steps pg.tables ee below (T0.setTop (mkF mm 37 #[.val (.ref x), .val (.int i), .val (.int c), .val (.int f3)] [(.int (122 : Int32)), (.int c)])) _
            refine XS.icmpYes X0.here hx rfl (pc0 := 37) (pc' := 52) rfl (hb hby d5_37) rfl (flt hc34).2.2.2 (by decide) (by decide) ?_
            refine XS.iconst X0.here hx rfl (hb hby d5_52) ?_
            refine XS.goto X0.here hx rfl (pc0 := 53) (pc' := 57) rfl (hb hby d5_53) (by decide) (by decide) ?_
            refine XS.istoreN X0.here hx rfl (hb hby d5_57) rfl (l' := #[.val (.ref x), .val (.int i), .val (.int c), .val (.int (1 : Int32))]) rfl ?_
            exact k_)
          have e_ : own_al c = (1 : Int32) := by simp [own_al, hc2, hc23, hc25, hc34]
          rw [e_] at kk
          exact pre42 _ kk
    · have pre43 := fun tg_ (k_ : Steps pg.tables ee below (T0.setTop (mkF mm 58 #[.val (.ref x), .val (.int i), .val (.int c), .val (.int (1 : Int32))] [])) tg_) => pre22 tg_ (by
        show Steps pg.tables ee below (T0.setTop (mkF mm 25 #[.val (.ref x), .val (.int i), .val (.int c), .val (.int f3)] [(.int (90 : Int32)), (.int c)])) _
        refine XS.icmpYes X0.here hx rfl (pc0 := 25) (pc' := 52) rfl (hb hby d5_25) rfl (flt hc23).2.2.2 (by decide) (by decide) ?_
        refine XS.iconst X0.here hx rfl (hb hby d5_52) ?_
        refine XS.goto X0.here hx rfl (pc0 := 53) (pc' := 57) rfl (hb hby d5_53) (by decide) (by decide) ?_
        show Steps pg.tables ee below (T0.setTop (mkF mm 57 #[.val (.ref x), .val (.int i), .val (.int c), .val (.int f3)] [(.int (1 : Int32))])) _
        refine XS.istoreN X0.here hx rfl (hb hby d5_57) rfl (l' := #[.val (.ref x), .val (.int i), .val (.int c), .val (.int (1 : Int32))]) rfl ?_
        exact k_)
      have e_ : own_al c = (1 : Int32) := by simp [own_al, hc2, hc23]
      rw [e_] at kk
      exact pre43 _ kk
def own_S0 (Z : State) (h : Heap) (a : Addr)  : Prop := Exa Z h a "java/lang/String" ∧ ∃ (d : Addr) (kd : ClassId), Fld Z h a "java/lang/String" "value" "[B" (.ref d) ∧ ((Fld Z h a "java/lang/String" "coder" "B" (.int (0 : Int32)) ∧ Arv Z h d kd .byte (0 : Int32) [] (.int 0)))
theorem own_S0.ext {Z : State} {h h' : Heap} {a : Addr} (F : own_S0 Z h a) (X : Ext h h') : own_S0 Z h' a := by
  obtain ⟨E, d, kd, Fv, Fc, V⟩ := F
  exact ⟨E.ext X, d, kd, Fv.ext X, Fc.ext X, V.ext X⟩
def own_S1 (Z : State) (h : Heap) (a : Addr) (x0 : Int32) : Prop := Exa Z h a "java/lang/String" ∧ ∃ (d : Addr) (kd : ClassId), Fld Z h a "java/lang/String" "value" "[B" (.ref d) ∧ ((Fld Z h a "java/lang/String" "coder" "B" (.int (0 : Int32)) ∧ ¬ ((255 : Int32) < x0) ∧ Arv Z h d kd .byte (1 : Int32) [(own_l x0)] (.int 0)) ∨ (Fld Z h a "java/lang/String" "coder" "B" (.int (1 : Int32)) ∧ Arv Z h d kd .byte (2 : Int32) [(own_u x0), (own_v x0)] (.int 0)))
theorem own_S1.ext {Z : State} {h h' : Heap} {a : Addr} {x0 : Int32} (F : own_S1 Z h a x0) (X : Ext h h') : own_S1 Z h' a x0 := by
  obtain ⟨E, d, kd, Fv, ⟨Fc, g0, V⟩ | ⟨Fc, V⟩⟩ := F
  · exact ⟨E.ext X, d, kd, Fv.ext X, Or.inl ⟨Fc.ext X, g0, V.ext X⟩⟩
  · exact ⟨E.ext X, d, kd, Fv.ext X, Or.inr ⟨Fc.ext X, V.ext X⟩⟩
def own_S2 (Z : State) (h : Heap) (a : Addr) (x0 : Int32) (x1 : Int32) : Prop := Exa Z h a "java/lang/String" ∧ ∃ (d : Addr) (kd : ClassId), Fld Z h a "java/lang/String" "value" "[B" (.ref d) ∧ ((Fld Z h a "java/lang/String" "coder" "B" (.int (0 : Int32)) ∧ ¬ ((255 : Int32) < x0) ∧ ¬ ((255 : Int32) < x1) ∧ Arv Z h d kd .byte (2 : Int32) [(own_l x0), (own_l x1)] (.int 0)) ∨ (Fld Z h a "java/lang/String" "coder" "B" (.int (1 : Int32)) ∧ Arv Z h d kd .byte (4 : Int32) [(own_u x0), (own_v x0), (own_u x1), (own_v x1)] (.int 0)))
theorem own_S2.ext {Z : State} {h h' : Heap} {a : Addr} {x0 x1 : Int32} (F : own_S2 Z h a x0 x1) (X : Ext h h') : own_S2 Z h' a x0 x1 := by
  obtain ⟨E, d, kd, Fv, ⟨Fc, g0, g1, V⟩ | ⟨Fc, V⟩⟩ := F
  · exact ⟨E.ext X, d, kd, Fv.ext X, Or.inl ⟨Fc.ext X, g0, g1, V.ext X⟩⟩
  · exact ⟨E.ext X, d, kd, Fv.ext X, Or.inr ⟨Fc.ext X, V.ext X⟩⟩
def own_S3 (Z : State) (h : Heap) (a : Addr) (x0 : Int32) (x1 : Int32) (x2 : Int32) : Prop := Exa Z h a "java/lang/String" ∧ ∃ (d : Addr) (kd : ClassId), Fld Z h a "java/lang/String" "value" "[B" (.ref d) ∧ ((Fld Z h a "java/lang/String" "coder" "B" (.int (0 : Int32)) ∧ ¬ ((255 : Int32) < x0) ∧ ¬ ((255 : Int32) < x1) ∧ ¬ ((255 : Int32) < x2) ∧ Arv Z h d kd .byte (3 : Int32) [(own_l x0), (own_l x1), (own_l x2)] (.int 0)) ∨ (Fld Z h a "java/lang/String" "coder" "B" (.int (1 : Int32)) ∧ Arv Z h d kd .byte (6 : Int32) [(own_u x0), (own_v x0), (own_u x1), (own_v x1), (own_u x2), (own_v x2)] (.int 0)))
theorem own_S3.ext {Z : State} {h h' : Heap} {a : Addr} {x0 x1 x2 : Int32} (F : own_S3 Z h a x0 x1 x2) (X : Ext h h') : own_S3 Z h' a x0 x1 x2 := by
  obtain ⟨E, d, kd, Fv, ⟨Fc, g0, g1, g2, V⟩ | ⟨Fc, V⟩⟩ := F
  · exact ⟨E.ext X, d, kd, Fv.ext X, Or.inl ⟨Fc.ext X, g0, g1, g2, V.ext X⟩⟩
  · exact ⟨E.ext X, d, kd, Fv.ext X, Or.inr ⟨Fc.ext X, V.ext X⟩⟩
def QL0 (Z : State) (h0 : Heap) (n0 : Nat) (v : Option Value) (h : Heap) (L : List Loc) : Prop := v = some (.int (0 : Int32)) ∧ Fr n0 L ∧ h = h0
set_option maxRecDepth 65536 in
theorem rmLenS0 (l : Launch) (Z : State) (a0 : Array Value) (hw : ∀ d ∈ tables_1, d.before a0 Z = true) (ws : List Jvm.Cond) (a : Addr) (cs : Int32) (h0 : Heap) (n0 : Nat) (O0 : Old Z n0 h0) (Sa : own_S0 Z h0 a) (hC : own_C Z cs) :
    own_M l Z h0 (⟨"java/lang/String", "length", "()I"⟩ : MethodName) jdk_42_method_54_code 1 (some .int) ws ({ frames := 1, cells := 0, slots := 0, locals := 13 } : Room) #[(.ref a)] (QL0 Z h0 n0) := by
  obtain ⟨E, d, kd, Fv, ⟨Fc, V⟩⟩ := Sa
  exact rmLen0 l Z a0 hw ws a d kd _ _ cs (0 : Int32) h0 n0 O0 Fc Fv V E hC rfl
def QE0 (Z : State) (h0 : Heap) (n0 : Nat) (v : Option Value) (h : Heap) (L : List Loc) : Prop := v = some (.int (1 : Int32)) ∧ Fr n0 L ∧ h = h0
set_option maxRecDepth 65536 in
theorem rmEmS0 (l : Launch) (Z : State) (a0 : Array Value) (hw : ∀ d ∈ tables_1, d.before a0 Z = true) (ws : List Jvm.Cond) (a : Addr) (h0 : Heap) (n0 : Nat) (O0 : Old Z n0 h0) (Sa : own_S0 Z h0 a) :
    own_M l Z h0 (⟨"java/lang/String", "isEmpty", "()Z"⟩ : MethodName) jdk_42_method_55_code 1 (some .boolean) ws ({ frames := 0, cells := 0, slots := 0, locals := 0 } : Room) #[(.ref a)] (QE0 Z h0 n0) := by
  obtain ⟨E, d, kd, Fv, ⟨Fc, V⟩⟩ := Sa
  exact rmEmp1 l Z a0 hw ws a d kd _ _ h0 n0 O0 Fv V rfl
def QL1 (Z : State) (h0 : Heap) (n0 : Nat) (v : Option Value) (h : Heap) (L : List Loc) : Prop := v = some (.int (1 : Int32)) ∧ Fr n0 L ∧ h = h0
set_option maxRecDepth 65536 in
theorem rmLenS1 (l : Launch) (Z : State) (a0 : Array Value) (hw : ∀ d ∈ tables_1, d.before a0 Z = true) (ws : List Jvm.Cond) (a : Addr) (x0 : Int32) (cs : Int32) (h0 : Heap) (n0 : Nat) (O0 : Old Z n0 h0) (Sa : own_S1 Z h0 a x0) (hC : own_C Z cs) :
    own_M l Z h0 (⟨"java/lang/String", "length", "()I"⟩ : MethodName) jdk_42_method_54_code 1 (some .int) ws ({ frames := 1, cells := 0, slots := 0, locals := 13 } : Room) #[(.ref a)] (QL1 Z h0 n0) := by
  obtain ⟨E, d, kd, Fv, ⟨Fc, g0, V⟩ | ⟨Fc, V⟩⟩ := Sa
  · exact rmLen0 l Z a0 hw ws a d kd _ _ cs (1 : Int32) h0 n0 O0 Fc Fv V E hC rfl
  · exact rmLen1 l Z a0 hw ws a d kd _ _ cs (1 : Int32) h0 n0 O0 Fc Fv V E hC rfl
def QE1 (Z : State) (h0 : Heap) (n0 : Nat) (v : Option Value) (h : Heap) (L : List Loc) : Prop := v = some (.int (0 : Int32)) ∧ Fr n0 L ∧ h = h0
set_option maxRecDepth 65536 in
theorem rmEmS1 (l : Launch) (Z : State) (a0 : Array Value) (hw : ∀ d ∈ tables_1, d.before a0 Z = true) (ws : List Jvm.Cond) (a : Addr) (x0 : Int32) (h0 : Heap) (n0 : Nat) (O0 : Old Z n0 h0) (Sa : own_S1 Z h0 a x0) :
    own_M l Z h0 (⟨"java/lang/String", "isEmpty", "()Z"⟩ : MethodName) jdk_42_method_55_code 1 (some .boolean) ws ({ frames := 0, cells := 0, slots := 0, locals := 0 } : Room) #[(.ref a)] (QE1 Z h0 n0) := by
  obtain ⟨E, d, kd, Fv, ⟨Fc, g0, V⟩ | ⟨Fc, V⟩⟩ := Sa
  · exact rmEmp0 l Z a0 hw ws a d kd _ _ h0 n0 O0 Fv V (by decide)
  · exact rmEmp0 l Z a0 hw ws a d kd _ _ h0 n0 O0 Fv V (by decide)
def QC1_0 (Z : State) (x0 : Int32) (h0 : Heap) (n0 : Nat) (v : Option Value) (h : Heap) (L : List Loc) : Prop := v = some (.int x0) ∧ Fr n0 L ∧ h = h0
set_option maxRecDepth 65536 in
theorem rmChS1_0 (l : Launch) (Z : State) (a0 : Array Value) (hw : ∀ d ∈ tables_1, d.before a0 Z = true) (ws : List Jvm.Cond) (a : Addr) (x0 : Int32) (cs : Int32) (fm : Value) (h0 : Heap) (n0 : Nat) (O0 : Old Z n0 h0) (Sa : own_S1 Z h0 a x0) (hC : own_C Z cs) (hG : own_G Z) (hF : own_F Z fm) (ha0 : ¬ (x0 < (0 : Int32))) (hb0 : ¬ ((65535 : Int32) < x0)) :
    own_M l Z h0 (⟨"java/lang/String", "charAt", "(I)C"⟩ : MethodName) jdk_42_method_56_code 2 (some .char) ws ({ frames := 4, cells := 0, slots := 0, locals := 53 } : Room) #[(.ref a), (.int (0 : Int32))] (QC1_0 Z x0 h0 n0) := by
  obtain ⟨E, d, kd, Fv, ⟨Fc, g0, V⟩ | ⟨Fc, V⟩⟩ := Sa
  · exact rmCha0 l Z a0 hw ws a d kd _ _ cs (0 : Int32) x0 fm h0 n0 O0 Fc Fv V E hC (by decide) (by decide) rfl ha0 g0 hF
  · exact rmCha1 l Z a0 hw ws a d kd _ _ cs (0 : Int32) x0 fm h0 n0 O0 Fc Fv V E hC hG ⟨by decide, by decide⟩ ⟨by decide, by decide⟩ rfl rfl ha0 hb0 (by decide) (by decide) hF
def QL2 (Z : State) (h0 : Heap) (n0 : Nat) (v : Option Value) (h : Heap) (L : List Loc) : Prop := v = some (.int (2 : Int32)) ∧ Fr n0 L ∧ h = h0
set_option maxRecDepth 65536 in
theorem rmLenS2 (l : Launch) (Z : State) (a0 : Array Value) (hw : ∀ d ∈ tables_1, d.before a0 Z = true) (ws : List Jvm.Cond) (a : Addr) (x0 : Int32) (x1 : Int32) (cs : Int32) (h0 : Heap) (n0 : Nat) (O0 : Old Z n0 h0) (Sa : own_S2 Z h0 a x0 x1) (hC : own_C Z cs) :
    own_M l Z h0 (⟨"java/lang/String", "length", "()I"⟩ : MethodName) jdk_42_method_54_code 1 (some .int) ws ({ frames := 1, cells := 0, slots := 0, locals := 13 } : Room) #[(.ref a)] (QL2 Z h0 n0) := by
  obtain ⟨E, d, kd, Fv, ⟨Fc, g0, g1, V⟩ | ⟨Fc, V⟩⟩ := Sa
  · exact rmLen0 l Z a0 hw ws a d kd _ _ cs (2 : Int32) h0 n0 O0 Fc Fv V E hC rfl
  · exact rmLen1 l Z a0 hw ws a d kd _ _ cs (2 : Int32) h0 n0 O0 Fc Fv V E hC rfl
def QE2 (Z : State) (h0 : Heap) (n0 : Nat) (v : Option Value) (h : Heap) (L : List Loc) : Prop := v = some (.int (0 : Int32)) ∧ Fr n0 L ∧ h = h0
set_option maxRecDepth 65536 in
theorem rmEmS2 (l : Launch) (Z : State) (a0 : Array Value) (hw : ∀ d ∈ tables_1, d.before a0 Z = true) (ws : List Jvm.Cond) (a : Addr) (x0 : Int32) (x1 : Int32) (h0 : Heap) (n0 : Nat) (O0 : Old Z n0 h0) (Sa : own_S2 Z h0 a x0 x1) :
    own_M l Z h0 (⟨"java/lang/String", "isEmpty", "()Z"⟩ : MethodName) jdk_42_method_55_code 1 (some .boolean) ws ({ frames := 0, cells := 0, slots := 0, locals := 0 } : Room) #[(.ref a)] (QE2 Z h0 n0) := by
  obtain ⟨E, d, kd, Fv, ⟨Fc, g0, g1, V⟩ | ⟨Fc, V⟩⟩ := Sa
  · exact rmEmp0 l Z a0 hw ws a d kd _ _ h0 n0 O0 Fv V (by decide)
  · exact rmEmp0 l Z a0 hw ws a d kd _ _ h0 n0 O0 Fv V (by decide)
def QC2_0 (Z : State) (x0 : Int32) (h0 : Heap) (n0 : Nat) (v : Option Value) (h : Heap) (L : List Loc) : Prop := v = some (.int x0) ∧ Fr n0 L ∧ h = h0
set_option maxRecDepth 65536 in
theorem rmChS2_0 (l : Launch) (Z : State) (a0 : Array Value) (hw : ∀ d ∈ tables_1, d.before a0 Z = true) (ws : List Jvm.Cond) (a : Addr) (x0 : Int32) (x1 : Int32) (cs : Int32) (fm : Value) (h0 : Heap) (n0 : Nat) (O0 : Old Z n0 h0) (Sa : own_S2 Z h0 a x0 x1) (hC : own_C Z cs) (hG : own_G Z) (hF : own_F Z fm) (ha0 : ¬ (x0 < (0 : Int32))) (hb0 : ¬ ((65535 : Int32) < x0)) (ha1 : ¬ (x1 < (0 : Int32))) (hb1 : ¬ ((65535 : Int32) < x1)) :
    own_M l Z h0 (⟨"java/lang/String", "charAt", "(I)C"⟩ : MethodName) jdk_42_method_56_code 2 (some .char) ws ({ frames := 4, cells := 0, slots := 0, locals := 53 } : Room) #[(.ref a), (.int (0 : Int32))] (QC2_0 Z x0 h0 n0) := by
  obtain ⟨E, d, kd, Fv, ⟨Fc, g0, g1, V⟩ | ⟨Fc, V⟩⟩ := Sa
  · exact rmCha0 l Z a0 hw ws a d kd _ _ cs (0 : Int32) x0 fm h0 n0 O0 Fc Fv V E hC (by decide) (by decide) rfl ha0 g0 hF
  · exact rmCha1 l Z a0 hw ws a d kd _ _ cs (0 : Int32) x0 fm h0 n0 O0 Fc Fv V E hC hG ⟨by decide, by decide⟩ ⟨by decide, by decide⟩ rfl rfl ha0 hb0 (by decide) (by decide) hF
def QC2_1 (Z : State) (x1 : Int32) (h0 : Heap) (n0 : Nat) (v : Option Value) (h : Heap) (L : List Loc) : Prop := v = some (.int x1) ∧ Fr n0 L ∧ h = h0
set_option maxRecDepth 65536 in
theorem rmChS2_1 (l : Launch) (Z : State) (a0 : Array Value) (hw : ∀ d ∈ tables_1, d.before a0 Z = true) (ws : List Jvm.Cond) (a : Addr) (x0 : Int32) (x1 : Int32) (cs : Int32) (fm : Value) (h0 : Heap) (n0 : Nat) (O0 : Old Z n0 h0) (Sa : own_S2 Z h0 a x0 x1) (hC : own_C Z cs) (hG : own_G Z) (hF : own_F Z fm) (ha0 : ¬ (x0 < (0 : Int32))) (hb0 : ¬ ((65535 : Int32) < x0)) (ha1 : ¬ (x1 < (0 : Int32))) (hb1 : ¬ ((65535 : Int32) < x1)) :
    own_M l Z h0 (⟨"java/lang/String", "charAt", "(I)C"⟩ : MethodName) jdk_42_method_56_code 2 (some .char) ws ({ frames := 4, cells := 0, slots := 0, locals := 53 } : Room) #[(.ref a), (.int (1 : Int32))] (QC2_1 Z x1 h0 n0) := by
  obtain ⟨E, d, kd, Fv, ⟨Fc, g0, g1, V⟩ | ⟨Fc, V⟩⟩ := Sa
  · exact rmCha0 l Z a0 hw ws a d kd _ _ cs (1 : Int32) x1 fm h0 n0 O0 Fc Fv V E hC (by decide) (by decide) rfl ha1 g1 hF
  · exact rmCha1 l Z a0 hw ws a d kd _ _ cs (1 : Int32) x1 fm h0 n0 O0 Fc Fv V E hC hG ⟨by decide, by decide⟩ ⟨by decide, by decide⟩ rfl rfl ha1 hb1 (by decide) (by decide) hF
def QL3 (Z : State) (h0 : Heap) (n0 : Nat) (v : Option Value) (h : Heap) (L : List Loc) : Prop := v = some (.int (3 : Int32)) ∧ Fr n0 L ∧ h = h0
set_option maxRecDepth 65536 in
theorem rmLenS3 (l : Launch) (Z : State) (a0 : Array Value) (hw : ∀ d ∈ tables_1, d.before a0 Z = true) (ws : List Jvm.Cond) (a : Addr) (x0 : Int32) (x1 : Int32) (x2 : Int32) (cs : Int32) (h0 : Heap) (n0 : Nat) (O0 : Old Z n0 h0) (Sa : own_S3 Z h0 a x0 x1 x2) (hC : own_C Z cs) :
    own_M l Z h0 (⟨"java/lang/String", "length", "()I"⟩ : MethodName) jdk_42_method_54_code 1 (some .int) ws ({ frames := 1, cells := 0, slots := 0, locals := 13 } : Room) #[(.ref a)] (QL3 Z h0 n0) := by
  obtain ⟨E, d, kd, Fv, ⟨Fc, g0, g1, g2, V⟩ | ⟨Fc, V⟩⟩ := Sa
  · exact rmLen0 l Z a0 hw ws a d kd _ _ cs (3 : Int32) h0 n0 O0 Fc Fv V E hC rfl
  · exact rmLen1 l Z a0 hw ws a d kd _ _ cs (3 : Int32) h0 n0 O0 Fc Fv V E hC rfl
def QE3 (Z : State) (h0 : Heap) (n0 : Nat) (v : Option Value) (h : Heap) (L : List Loc) : Prop := v = some (.int (0 : Int32)) ∧ Fr n0 L ∧ h = h0
set_option maxRecDepth 65536 in
theorem rmEmS3 (l : Launch) (Z : State) (a0 : Array Value) (hw : ∀ d ∈ tables_1, d.before a0 Z = true) (ws : List Jvm.Cond) (a : Addr) (x0 : Int32) (x1 : Int32) (x2 : Int32) (h0 : Heap) (n0 : Nat) (O0 : Old Z n0 h0) (Sa : own_S3 Z h0 a x0 x1 x2) :
    own_M l Z h0 (⟨"java/lang/String", "isEmpty", "()Z"⟩ : MethodName) jdk_42_method_55_code 1 (some .boolean) ws ({ frames := 0, cells := 0, slots := 0, locals := 0 } : Room) #[(.ref a)] (QE3 Z h0 n0) := by
  obtain ⟨E, d, kd, Fv, ⟨Fc, g0, g1, g2, V⟩ | ⟨Fc, V⟩⟩ := Sa
  · exact rmEmp0 l Z a0 hw ws a d kd _ _ h0 n0 O0 Fv V (by decide)
  · exact rmEmp0 l Z a0 hw ws a d kd _ _ h0 n0 O0 Fv V (by decide)
def QC3_0 (Z : State) (x0 : Int32) (h0 : Heap) (n0 : Nat) (v : Option Value) (h : Heap) (L : List Loc) : Prop := v = some (.int x0) ∧ Fr n0 L ∧ h = h0
set_option maxRecDepth 65536 in
theorem rmChS3_0 (l : Launch) (Z : State) (a0 : Array Value) (hw : ∀ d ∈ tables_1, d.before a0 Z = true) (ws : List Jvm.Cond) (a : Addr) (x0 : Int32) (x1 : Int32) (x2 : Int32) (cs : Int32) (fm : Value) (h0 : Heap) (n0 : Nat) (O0 : Old Z n0 h0) (Sa : own_S3 Z h0 a x0 x1 x2) (hC : own_C Z cs) (hG : own_G Z) (hF : own_F Z fm) (ha0 : ¬ (x0 < (0 : Int32))) (hb0 : ¬ ((65535 : Int32) < x0)) (ha1 : ¬ (x1 < (0 : Int32))) (hb1 : ¬ ((65535 : Int32) < x1)) (ha2 : ¬ (x2 < (0 : Int32))) (hb2 : ¬ ((65535 : Int32) < x2)) :
    own_M l Z h0 (⟨"java/lang/String", "charAt", "(I)C"⟩ : MethodName) jdk_42_method_56_code 2 (some .char) ws ({ frames := 4, cells := 0, slots := 0, locals := 53 } : Room) #[(.ref a), (.int (0 : Int32))] (QC3_0 Z x0 h0 n0) := by
  obtain ⟨E, d, kd, Fv, ⟨Fc, g0, g1, g2, V⟩ | ⟨Fc, V⟩⟩ := Sa
  · exact rmCha0 l Z a0 hw ws a d kd _ _ cs (0 : Int32) x0 fm h0 n0 O0 Fc Fv V E hC (by decide) (by decide) rfl ha0 g0 hF
  · exact rmCha1 l Z a0 hw ws a d kd _ _ cs (0 : Int32) x0 fm h0 n0 O0 Fc Fv V E hC hG ⟨by decide, by decide⟩ ⟨by decide, by decide⟩ rfl rfl ha0 hb0 (by decide) (by decide) hF
def QC3_1 (Z : State) (x1 : Int32) (h0 : Heap) (n0 : Nat) (v : Option Value) (h : Heap) (L : List Loc) : Prop := v = some (.int x1) ∧ Fr n0 L ∧ h = h0
set_option maxRecDepth 65536 in
theorem rmChS3_1 (l : Launch) (Z : State) (a0 : Array Value) (hw : ∀ d ∈ tables_1, d.before a0 Z = true) (ws : List Jvm.Cond) (a : Addr) (x0 : Int32) (x1 : Int32) (x2 : Int32) (cs : Int32) (fm : Value) (h0 : Heap) (n0 : Nat) (O0 : Old Z n0 h0) (Sa : own_S3 Z h0 a x0 x1 x2) (hC : own_C Z cs) (hG : own_G Z) (hF : own_F Z fm) (ha0 : ¬ (x0 < (0 : Int32))) (hb0 : ¬ ((65535 : Int32) < x0)) (ha1 : ¬ (x1 < (0 : Int32))) (hb1 : ¬ ((65535 : Int32) < x1)) (ha2 : ¬ (x2 < (0 : Int32))) (hb2 : ¬ ((65535 : Int32) < x2)) :
    own_M l Z h0 (⟨"java/lang/String", "charAt", "(I)C"⟩ : MethodName) jdk_42_method_56_code 2 (some .char) ws ({ frames := 4, cells := 0, slots := 0, locals := 53 } : Room) #[(.ref a), (.int (1 : Int32))] (QC3_1 Z x1 h0 n0) := by
  obtain ⟨E, d, kd, Fv, ⟨Fc, g0, g1, g2, V⟩ | ⟨Fc, V⟩⟩ := Sa
  · exact rmCha0 l Z a0 hw ws a d kd _ _ cs (1 : Int32) x1 fm h0 n0 O0 Fc Fv V E hC (by decide) (by decide) rfl ha1 g1 hF
  · exact rmCha1 l Z a0 hw ws a d kd _ _ cs (1 : Int32) x1 fm h0 n0 O0 Fc Fv V E hC hG ⟨by decide, by decide⟩ ⟨by decide, by decide⟩ rfl rfl ha1 hb1 (by decide) (by decide) hF
def QC3_2 (Z : State) (x2 : Int32) (h0 : Heap) (n0 : Nat) (v : Option Value) (h : Heap) (L : List Loc) : Prop := v = some (.int x2) ∧ Fr n0 L ∧ h = h0
set_option maxRecDepth 65536 in
theorem rmChS3_2 (l : Launch) (Z : State) (a0 : Array Value) (hw : ∀ d ∈ tables_1, d.before a0 Z = true) (ws : List Jvm.Cond) (a : Addr) (x0 : Int32) (x1 : Int32) (x2 : Int32) (cs : Int32) (fm : Value) (h0 : Heap) (n0 : Nat) (O0 : Old Z n0 h0) (Sa : own_S3 Z h0 a x0 x1 x2) (hC : own_C Z cs) (hG : own_G Z) (hF : own_F Z fm) (ha0 : ¬ (x0 < (0 : Int32))) (hb0 : ¬ ((65535 : Int32) < x0)) (ha1 : ¬ (x1 < (0 : Int32))) (hb1 : ¬ ((65535 : Int32) < x1)) (ha2 : ¬ (x2 < (0 : Int32))) (hb2 : ¬ ((65535 : Int32) < x2)) :
    own_M l Z h0 (⟨"java/lang/String", "charAt", "(I)C"⟩ : MethodName) jdk_42_method_56_code 2 (some .char) ws ({ frames := 4, cells := 0, slots := 0, locals := 53 } : Room) #[(.ref a), (.int (2 : Int32))] (QC3_2 Z x2 h0 n0) := by
  obtain ⟨E, d, kd, Fv, ⟨Fc, g0, g1, g2, V⟩ | ⟨Fc, V⟩⟩ := Sa
  · exact rmCha0 l Z a0 hw ws a d kd _ _ cs (2 : Int32) x2 fm h0 n0 O0 Fc Fv V E hC (by decide) (by decide) rfl ha2 g2 hF
  · exact rmCha1 l Z a0 hw ws a d kd _ _ cs (2 : Int32) x2 fm h0 n0 O0 Fc Fv V E hC hG ⟨by decide, by decide⟩ ⟨by decide, by decide⟩ rfl rfl ha2 hb2 (by decide) (by decide) hF
theorem own_int0 : (.int 0 : Value) = .int (0 : Int32) := rfl
theorem d10_0 : decode jdk_52_method_21_code 0 = .ok (.iconst 0, 1) := by decide +kernel
theorem d10_1 : decode jdk_52_method_21_code 1 = .ok (.istore 5, 2) := by decide +kernel
theorem d10_3 : decode jdk_52_method_21_code 3 = .ok (.iload 5, 2) := by decide +kernel
theorem d10_5 : decode jdk_52_method_21_code 5 = .ok (.iload 4, 2) := by decide +kernel
theorem d10_7 : decode jdk_52_method_21_code 7 = .ok (.if_icmp .ge 37, 3) := by decide +kernel
theorem d10_10 : decode jdk_52_method_21_code 10 = .ok (.aload_n 0, 1) := by decide +kernel
theorem d10_11 : decode jdk_52_method_21_code 11 = .ok (.iload_n 1, 1) := by decide +kernel
theorem d10_12 : decode jdk_52_method_21_code 12 = .ok (.caload, 1) := by decide +kernel
theorem d10_13 : decode jdk_52_method_21_code 13 = .ok (.istore 6, 2) := by decide +kernel
theorem d10_15 : decode jdk_52_method_21_code 15 = .ok (.iload 6, 2) := by decide +kernel
theorem d10_17 : decode jdk_52_method_21_code 17 = .ok (.sipush 255, 3) := by decide +kernel
theorem d10_20 : decode jdk_52_method_21_code 20 = .ok (.if_icmp .le 6, 3) := by decide +kernel
theorem d10_23 : decode jdk_52_method_21_code 23 = .ok (.iload 5, 2) := by decide +kernel
theorem d10_25 : decode jdk_52_method_21_code 25 = .ok (.ireturn, 1) := by decide +kernel
theorem ef_10_351 (m : MethodId) (x0 : Addr) (x1 : Int32) (x2 : Addr) (x3 : Int32) (x4 : Int32) : entryFrame m #[(.ref x0), (.int x1), (.ref x2), (.int x3), (.int x4)] 7 = mkF m 0 #[.val (.ref x0), .val (.int x1), .val (.ref x2), .val (.int x3), .val (.int x4), .unset, .unset] [] := by first | (simp [entryFrame, mkF, argsToLocals, Value.category]; done) | rfl
def QrmIn1_0 (Z : State) (ch : Addr) (kc : ClassId) (x0 : Int32) (bb : Addr) (kb : ClassId) (h0 : Heap) (n0 : Nat) (v : Option Value) (h : Heap) (L : List Loc) : Prop := v = some (.int (0 : Int32)) ∧ Fr n0 L ∧ Keep h0 h [bb]
set_option maxRecDepth 65536 in
set_option maxHeartbeats 40000000 in
theorem rmIn1_0 (l : Launch) (Z : State) (a0 : Array Value) (hw : ∀ d ∈ tables_1, d.before a0 Z = true) (ws : List Jvm.Cond) (ch : Addr) (kc : ClassId) (x0 : Int32) (bb : Addr) (kb : ClassId) (h0 : Heap) (n0 : Nat) (O0 : Old Z n0 h0) (Vc : Arv Z h0 ch kc .char (1 : Int32) [(.int x0)] (.int (0 : Int32))) (Vb : Arv Z h0 bb kb .byte (1 : Int32) [(.int (0 : Int32))] (.int (0 : Int32))) (g_bb : n0 ≤ bb) (hne : ch ≠ bb) (hl0 : (255 : Int32) < x0) :
    own_M l Z h0 (⟨"java/lang/StringUTF16", "compress", "([CI[BII)I"⟩ : MethodName) jdk_52_method_21_code 7 (some .int) ws ({ frames := 0, cells := 0, slots := 0, locals := 0 } : Room) #[(.ref ch), (.int (0 : Int32)), (.ref bb), (.int (0 : Int32)), (.int (1 : Int32))] (QrmIn1_0 Z ch kc x0 bb kb h0 n0) := by
  refine own_start (plainFor_of_name pn_26) ?_
  intro pg ee s mm below meth cc s₁ Bd hZ hh hx hby hml hown0 hnm X0 e0
  have hown : s.vm.findClass "java/lang/StringUTF16" = some mm.cls := hown0
  have N0 := Fr.nil n0
  have K0 : Keep h0 h0 ([bb] : List Addr) := Keep.refl _ _
  have pre0 := fun tg_ => castTop (tb := pg.tables) (e := ee) (below := below) (T := s₁) (t := tg_) (ef_10_351 mm ch (0 : Int32) bb (0 : Int32) (1 : Int32))
  obtain ⟨cl1, Ar1, qk1, Sz1, Nn1, Hh1, Gg1⟩ := id Vc
  have hin1 : ¬ ((0 : Int32) < 0 ∨ cl1.slots.size ≤ ((0 : Int32)).toNatClampNeg) := inb_of Sz1 ⟨by decide, by decide⟩
  refine own_end X0 (v := some (.int (0 : Int32))) (fun h => by rw [Bd.returns] at h; cases h) (by decide) (by decide) (fun fs hr => pre0 _ ?_) ?_
  · show Steps pg.tables ee below (s₁.setTop (mkF mm 0 #[.val (.ref ch), .val (.int (0 : Int32)), .val (.ref bb), .val (.int (0 : Int32)), .val (.int (1 : Int32)), .unset, .unset] [])) _
    refine XS.iconst X0.here hx rfl (hb hby d10_0) ?_
    refine XS.istore X0.here hx rfl (hb hby d10_1) rfl (l' := #[.val (.ref ch), .val (.int (0 : Int32)), .val (.ref bb), .val (.int (0 : Int32)), .val (.int (1 : Int32)), .val (.int (0 : Int32)), .unset]) rfl ?_
    refine XS.iload X0.here hx rfl (hb hby d10_3) rfl ?_
    refine XS.iload X0.here hx rfl (hb hby d10_5) rfl ?_
    refine XS.icmpNo X0.here hx rfl (hb hby d10_7) rfl (tlt (by decide : (0 : Int32) < (1 : Int32))).2.1 ?_
    refine XS.aloadN X0.here hx rfl (hb hby d10_10) rfl rfl ?_
    refine XS.iloadN X0.here hx rfl (hb hby d10_11) rfl ?_
    refine X0.caload hx (j := (0 : Int32)) (v := (.int x0)) (by rw [e0]; exact Ar1.1) (State.isArrayOf_alike hZ.alike Ar1.2.1) Ar1.2.2 hin1 (Has.at Hh1 hin1 rfl) (g := (mkF mm 12 #[.val (.ref ch), .val (.int (0 : Int32)), .val (.ref bb), .val (.int (0 : Int32)), .val (.int (1 : Int32)), .val (.int (0 : Int32)), .unset] [(.int (0 : Int32)), (.ref ch)])) rfl rfl (hb hby d10_12) _ ?_
    show Steps pg.tables ee below (s₁.setTop (mkF mm 13 #[.val (.ref ch), .val (.int (0 : Int32)), .val (.ref bb), .val (.int (0 : Int32)), .val (.int (1 : Int32)), .val (.int (0 : Int32)), .unset] [(.int x0)])) _
    refine XS.istore X0.here hx rfl (hb hby d10_13) rfl (l' := #[.val (.ref ch), .val (.int (0 : Int32)), .val (.ref bb), .val (.int (0 : Int32)), .val (.int (1 : Int32)), .val (.int (0 : Int32)), .val (.int x0)]) rfl ?_
    refine XS.iload X0.here hx rfl (hb hby d10_15) rfl ?_
    refine XS.sipush X0.here hx rfl (hb hby d10_17) ?_
    refine XS.icmpNo X0.here hx rfl (hb hby d10_20) rfl (tlt hl0).2.2.2 ?_
    refine XS.iload X0.here hx rfl (hb hby d10_23) rfl ?_
    exact retOut X0 hx Bd.returns rfl (Or.inl ⟨rfl, Or.inl rfl, _, rfl⟩) (hb hby d10_25) hr
  · show QrmIn1_0 Z ch kc x0 bb kb h0 n0 _ s₁.heap _
    rw [e0]
    exact ⟨rfl, N0, K0⟩
theorem d10_26 : decode jdk_52_method_21_code 26 = .ok (.aload_n 2, 1) := by decide +kernel
theorem d10_27 : decode jdk_52_method_21_code 27 = .ok (.iload_n 3, 1) := by decide +kernel
theorem d10_28 : decode jdk_52_method_21_code 28 = .ok (.iload 6, 2) := by decide +kernel
theorem d10_30 : decode jdk_52_method_21_code 30 = .ok (.i2b, 1) := by decide +kernel
theorem d10_31 : decode jdk_52_method_21_code 31 = .ok (.bastore, 1) := by decide +kernel
theorem d10_32 : decode jdk_52_method_21_code 32 = .ok (.iinc 1 1, 3) := by decide +kernel
theorem d10_35 : decode jdk_52_method_21_code 35 = .ok (.iinc 3 1, 3) := by decide +kernel
theorem d10_38 : decode jdk_52_method_21_code 38 = .ok (.iinc 5 1, 3) := by decide +kernel
theorem d10_41 : decode jdk_52_method_21_code 41 = .ok (.goto (-38), 3) := by decide +kernel
theorem d10_44 : decode jdk_52_method_21_code 44 = .ok (.iload 4, 2) := by decide +kernel
theorem d10_46 : decode jdk_52_method_21_code 46 = .ok (.ireturn, 1) := by decide +kernel
def QrmIn1_1 (Z : State) (ch : Addr) (kc : ClassId) (x0 : Int32) (bb : Addr) (kb : ClassId) (h0 : Heap) (n0 : Nat) (v : Option Value) (h : Heap) (L : List Loc) : Prop := v = some (.int (1 : Int32)) ∧ Fr n0 L ∧ Keep h0 h [bb] ∧ Arv Z h bb kb .byte (1 : Int32) [(own_l x0)] (.int (0 : Int32))
set_option maxRecDepth 65536 in
set_option maxHeartbeats 40000000 in
theorem rmIn1_1 (l : Launch) (Z : State) (a0 : Array Value) (hw : ∀ d ∈ tables_1, d.before a0 Z = true) (ws : List Jvm.Cond) (ch : Addr) (kc : ClassId) (x0 : Int32) (bb : Addr) (kb : ClassId) (h0 : Heap) (n0 : Nat) (O0 : Old Z n0 h0) (Vc : Arv Z h0 ch kc .char (1 : Int32) [(.int x0)] (.int (0 : Int32))) (Vb : Arv Z h0 bb kb .byte (1 : Int32) [(.int (0 : Int32))] (.int (0 : Int32))) (g_bb : n0 ≤ bb) (hne : ch ≠ bb) (hl0 : ¬ ((255 : Int32) < x0)) :
    own_M l Z h0 (⟨"java/lang/StringUTF16", "compress", "([CI[BII)I"⟩ : MethodName) jdk_52_method_21_code 7 (some .int) ws ({ frames := 0, cells := 0, slots := 0, locals := 0 } : Room) #[(.ref ch), (.int (0 : Int32)), (.ref bb), (.int (0 : Int32)), (.int (1 : Int32))] (QrmIn1_1 Z ch kc x0 bb kb h0 n0) := by
  refine own_start (plainFor_of_name pn_26) ?_
  intro pg ee s mm below meth cc s₁ Bd hZ hh hx hby hml hown0 hnm X0 e0
  have hown : s.vm.findClass "java/lang/StringUTF16" = some mm.cls := hown0
  have N0 := Fr.nil n0
  have K0 : Keep h0 h0 ([bb] : List Addr) := Keep.refl _ _
  have pre0 := fun tg_ => castTop (tb := pg.tables) (e := ee) (below := below) (T := s₁) (t := tg_) (ef_10_351 mm ch (0 : Int32) bb (0 : Int32) (1 : Int32))
  obtain ⟨cl1, Ar1, qk1, Sz1, Nn1, Hh1, Gg1⟩ := id Vc
  have hin1 : ¬ ((0 : Int32) < 0 ∨ cl1.slots.size ≤ ((0 : Int32)).toNatClampNeg) := inb_of Sz1 ⟨by decide, by decide⟩
  obtain ⟨cl2, Ar2, qk2, Sz2, Nn2, Hh2, Gg2⟩ := id Vb
  have hin2 : ¬ ((0 : Int32) < 0 ∨ cl2.slots.size ≤ ((0 : Int32)).toNatClampNeg) := inb_of Sz2 ⟨by decide, by decide⟩
  obtain ⟨T3, h3, X3, e3, W3, st3⟩ := stB X0 hx hZ e0 Ar2 (j := (0 : Int32)) hin2 (g := (mkF mm 31 #[.val (.ref ch), .val (.int (0 : Int32)), .val (.ref bb), .val (.int (0 : Int32)), .val (.int (1 : Int32)), .val (.int (0 : Int32)), .val (.int x0)] [(.int (x0.toInt8.toInt32)), (.int (0 : Int32)), (.ref bb)])) rfl rfl (hb hby d10_31)
  have V3 : Arv Z h3 bb kb .byte (1 : Int32) [(own_l x0)] (.int (0 : Int32)) := Arv.set Ar2 qk2 Sz2 Nn2 Hh2 Gg2 (fits_nar_byte _) W3 0 rfl (Nat.le_of_ble_eq_true rfl)
  have N3 := Fr.snoc X3 N0 g_bb
  have O3 := O0.wr W3 g_bb
  have KK3 := K0.wr W3 (Or.inl (by simp))
  refine own_end X3 (v := some (.int (1 : Int32))) (fun h => by rw [Bd.returns] at h; cases h) (by decide) (by decide) (fun fs hr => pre0 _ ?_) ?_
  · show Steps pg.tables ee below (s₁.setTop (mkF mm 0 #[.val (.ref ch), .val (.int (0 : Int32)), .val (.ref bb), .val (.int (0 : Int32)), .val (.int (1 : Int32)), .unset, .unset] [])) _
    refine XS.iconst X0.here hx rfl (hb hby d10_0) ?_
    refine XS.istore X0.here hx rfl (hb hby d10_1) rfl (l' := #[.val (.ref ch), .val (.int (0 : Int32)), .val (.ref bb), .val (.int (0 : Int32)), .val (.int (1 : Int32)), .val (.int (0 : Int32)), .unset]) rfl ?_
    refine XS.iload X0.here hx rfl (hb hby d10_3) rfl ?_
    refine XS.iload X0.here hx rfl (hb hby d10_5) rfl ?_
    refine XS.icmpNo X0.here hx rfl (hb hby d10_7) rfl (tlt (by decide : (0 : Int32) < (1 : Int32))).2.1 ?_
    refine XS.aloadN X0.here hx rfl (hb hby d10_10) rfl rfl ?_
    refine XS.iloadN X0.here hx rfl (hb hby d10_11) rfl ?_
    refine X0.caload hx (j := (0 : Int32)) (v := (.int x0)) (by rw [e0]; exact Ar1.1) (State.isArrayOf_alike hZ.alike Ar1.2.1) Ar1.2.2 hin1 (Has.at Hh1 hin1 rfl) (g := (mkF mm 12 #[.val (.ref ch), .val (.int (0 : Int32)), .val (.ref bb), .val (.int (0 : Int32)), .val (.int (1 : Int32)), .val (.int (0 : Int32)), .unset] [(.int (0 : Int32)), (.ref ch)])) rfl rfl (hb hby d10_12) _ ?_
    show Steps pg.tables ee below (s₁.setTop (mkF mm 13 #[.val (.ref ch), .val (.int (0 : Int32)), .val (.ref bb), .val (.int (0 : Int32)), .val (.int (1 : Int32)), .val (.int (0 : Int32)), .unset] [(.int x0)])) _
    refine XS.istore X0.here hx rfl (hb hby d10_13) rfl (l' := #[.val (.ref ch), .val (.int (0 : Int32)), .val (.ref bb), .val (.int (0 : Int32)), .val (.int (1 : Int32)), .val (.int (0 : Int32)), .val (.int x0)]) rfl ?_
    refine XS.iload X0.here hx rfl (hb hby d10_15) rfl ?_
    refine XS.sipush X0.here hx rfl (hb hby d10_17) ?_
    refine XS.icmpYes X0.here hx rfl (pc0 := 20) (pc' := 26) rfl (hb hby d10_20) rfl (flt hl0).2.2.2 (by decide) (by decide) ?_
    refine XS.aloadN X0.here hx rfl (hb hby d10_26) rfl rfl ?_
    refine XS.iloadN X0.here hx rfl (hb hby d10_27) rfl ?_
    refine XS.iload X0.here hx rfl (hb hby d10_28) rfl ?_
    refine XS.i2b X0.here hx rfl (hb hby d10_30) rfl ?_
    show Steps pg.tables ee below (s₁.setTop (mkF mm 31 #[.val (.ref ch), .val (.int (0 : Int32)), .val (.ref bb), .val (.int (0 : Int32)), .val (.int (1 : Int32)), .val (.int (0 : Int32)), .val (.int x0)] [(.int (x0.toInt8.toInt32)), (.int (0 : Int32)), (.ref bb)])) _
    refine st3 _ ?_
    refine XS.iinc X3.here hx rfl (hb hby d10_32) rfl (l' := #[.val (.ref ch), .val (.int (1 : Int32)), .val (.ref bb), .val (.int (0 : Int32)), .val (.int (1 : Int32)), .val (.int (0 : Int32)), .val (.int x0)]) rfl ?_
    refine XS.iinc X3.here hx rfl (hb hby d10_35) rfl (l' := #[.val (.ref ch), .val (.int (1 : Int32)), .val (.ref bb), .val (.int (1 : Int32)), .val (.int (1 : Int32)), .val (.int (0 : Int32)), .val (.int x0)]) rfl ?_
    refine XS.iinc X3.here hx rfl (hb hby d10_38) rfl (l' := #[.val (.ref ch), .val (.int (1 : Int32)), .val (.ref bb), .val (.int (1 : Int32)), .val (.int (1 : Int32)), .val (.int (1 : Int32)), .val (.int x0)]) rfl ?_
    refine XS.goto X3.here hx rfl (pc0 := 41) (pc' := 3) rfl (hb hby d10_41) (by decide) (by decide) ?_
    refine XS.iload X3.here hx rfl (hb hby d10_3) rfl ?_
    refine XS.iload X3.here hx rfl (hb hby d10_5) rfl ?_
    refine XS.icmpYes X3.here hx rfl (pc0 := 7) (pc' := 44) rfl (hb hby d10_7) rfl (flt (by decide : ¬ ((1 : Int32) < (1 : Int32)))).2.1 (by decide) (by decide) ?_
    show Steps pg.tables ee below (T3.setTop (mkF mm 44 #[.val (.ref ch), .val (.int (1 : Int32)), .val (.ref bb), .val (.int (1 : Int32)), .val (.int (1 : Int32)), .val (.int (1 : Int32)), .val (.int x0)] [])) _
    refine XS.iload X3.here hx rfl (hb hby d10_44) rfl ?_
    exact retOut X3 hx Bd.returns rfl (Or.inl ⟨rfl, Or.inl rfl, _, rfl⟩) (hb hby d10_46) hr
  · show QrmIn1_1 Z ch kc x0 bb kb h0 n0 _ T3.heap _
    rw [e3]
    exact ⟨rfl, N3, KK3, V3⟩
theorem d27_0 : decode jdk_52_method_3_code 0 = .ok (.iload_n 0, 1) := by decide +kernel
theorem d27_1 : decode jdk_52_method_3_code 1 = .ok (.ifCond .ge 11, 3) := by decide +kernel
theorem d27_12 : decode jdk_52_method_3_code 12 = .ok (.iload_n 0, 1) := by decide +kernel
theorem d27_13 : decode jdk_52_method_3_code 13 = .ok (.ldc 20, 2) := by decide +kernel
theorem d27_15 : decode jdk_52_method_3_code 15 = .ok (.if_icmp .lt 40, 3) := by decide +kernel
theorem d27_55 : decode jdk_52_method_3_code 55 = .ok (.iload_n 0, 1) := by decide +kernel
theorem d27_56 : decode jdk_52_method_3_code 56 = .ok (.iconst 1, 1) := by decide +kernel
theorem d27_57 : decode jdk_52_method_3_code 57 = .ok (.ishl, 1) := by decide +kernel
theorem d27_58 : decode jdk_52_method_3_code 58 = .ok (.ireturn, 1) := by decide +kernel
theorem ef_27_372 (m : MethodId) (x0 : Int32) : entryFrame m #[(.int x0)] 1 = mkF m 0 #[.val (.int x0)] [] := by first | (simp [entryFrame, mkF, argsToLocals, Value.category]; done) | rfl
def QrmNl1 (Z : State)  (h0 : Heap) (n0 : Nat) (v : Option Value) (h : Heap) (L : List Loc) : Prop := v = some (.int (2 : Int32)) ∧ Fr n0 L ∧ h = h0
set_option maxRecDepth 65536 in
set_option maxHeartbeats 40000000 in
theorem rmNl1 (l : Launch) (Z : State) (a0 : Array Value) (hw : ∀ d ∈ tables_1, d.before a0 Z = true) (ws : List Jvm.Cond)  (h0 : Heap) (n0 : Nat) (O0 : Old Z n0 h0)  :
    own_M l Z h0 (⟨"java/lang/StringUTF16", "newBytesLength", "(I)I"⟩ : MethodName) jdk_52_method_3_code 1 (some .int) ws ({ frames := 0, cells := 0, slots := 0, locals := 0 } : Room) #[(.int (1 : Int32))] (QrmNl1 Z  h0 n0) := by
  refine own_start (plainFor_of_name pn_26) ?_
  intro pg ee s mm below meth cc s₁ Bd hZ hh hx hby hml hown0 hnm X0 e0
  have hown : s.vm.findClass "java/lang/StringUTF16" = some mm.cls := hown0
  have N0 := Fr.nil n0
  have pre0 := fun tg_ => castTop (tb := pg.tables) (e := ee) (below := below) (T := s₁) (t := tg_) (ef_27_372 mm (1 : Int32))
  refine own_end X0 (v := some (.int (2 : Int32))) (fun h => by rw [Bd.returns] at h; cases h) (by decide) (by decide) (fun fs hr => pre0 _ ?_) ?_
  · show Steps pg.tables ee below (s₁.setTop (mkF mm 0 #[.val (.int (1 : Int32))] [])) _
    refine XS.iloadN X0.here hx rfl (hb hby d27_0) rfl ?_
    refine XS.ifYes X0.here hx rfl (pc0 := 1) (pc' := 12) rfl (hb hby d27_1) rfl ((if0 _ _).trans (flt (by decide : ¬ ((1 : Int32) < (0 : Int32)))).2.1) (by decide) (by decide) ?_
    refine XS.iloadN X0.here hx rfl (hb hby d27_12) rfl ?_
    refine X0.ldcInt hx hown (mvT hZ (own_h hw 118 rfl)) (g := (mkF mm 13 #[.val (.int (1 : Int32))] [(.int (1 : Int32))])) rfl (hb hby d27_13) _ ?_
    refine XS.icmpYes X0.here hx rfl (pc0 := 15) (pc' := 55) rfl (hb hby d27_15) rfl (tlt (by decide : (1 : Int32) < (1073741823 : Int32))).1 (by decide) (by decide) ?_
    refine XS.iloadN X0.here hx rfl (hb hby d27_55) rfl ?_
    refine XS.iconst X0.here hx rfl (hb hby d27_56) ?_
    refine XS.ishl X0.here hx rfl (hb hby d27_57) rfl ?_
    show Steps pg.tables ee below (s₁.setTop (mkF mm 58 #[.val (.int (1 : Int32))] [(.int (2 : Int32))])) _
    exact retOut X0 hx Bd.returns rfl (Or.inl ⟨rfl, Or.inl rfl, _, rfl⟩) (hb hby d27_58) hr
  · show QrmNl1 Z  h0 n0 _ s₁.heap _
    rw [e0]
    exact ⟨rfl, N0, rfl⟩
theorem d26_0 : decode jdk_52_method_2_code 0 = .ok (.iload_n 0, 1) := by decide +kernel
theorem d26_1 : decode jdk_52_method_2_code 1 = .ok (.invokestatic 11, 3) := by decide +kernel
theorem pd_375 : parseMethodDescriptor "(I)I" = some ⟨[.int], some .int⟩ := by decide +kernel
theorem d26_4 : decode jdk_52_method_2_code 4 = .ok (.newarray .byte, 2) := by decide +kernel
theorem d26_6 : decode jdk_52_method_2_code 6 = .ok (.areturn, 1) := by decide +kernel
theorem ef_26_378 (m : MethodId) (x0 : Int32) : entryFrame m #[(.int x0)] 1 = mkF m 0 #[.val (.int x0)] [] := by first | (simp [entryFrame, mkF, argsToLocals, Value.category]; done) | rfl
def QrmNf1 (Z : State)  (h0 : Heap) (n0 : Nat) (v : Option Value) (h : Heap) (L : List Loc) : Prop := ∃ (b : Addr) (kb : ClassId), v = some (.ref b) ∧ Fr n0 L ∧ Keep h0 h [] ∧ n0 ≤ b ∧ h0.size ≤ b ∧ Arv Z h b kb .byte (2 : Int32) [(.int (0 : Int32)), (.int (0 : Int32))] (.int (0 : Int32))
set_option maxRecDepth 65536 in
set_option maxHeartbeats 40000000 in
theorem rmNf1 (l : Launch) (Z : State) (a0 : Array Value) (hw : ∀ d ∈ tables_1, d.before a0 Z = true) (ws : List Jvm.Cond)  (h0 : Heap) (n0 : Nat) (O0 : Old Z n0 h0)  :
    own_M l Z h0 (⟨"java/lang/StringUTF16", "newBytesFor", "(I)[B"⟩ : MethodName) jdk_52_method_2_code 1 (some (.array .byte)) ws ({ frames := 1, cells := 1, slots := 2, locals := 12 } : Room) #[(.int (1 : Int32))] (QrmNf1 Z  h0 n0) := by
  refine own_start (plainFor_of_name pn_26) ?_
  intro pg ee s mm below meth cc s₁ Bd hZ hh hx hby hml hown0 hnm X0 e0
  have hown : s.vm.findClass "java/lang/StringUTF16" = some mm.cls := hown0
  have N0 := Fr.nil n0
  have K0 : Keep h0 h0 ([] : List Addr) := Keep.refl _ _
  have pre0 := fun tg_ => castTop (tb := pg.tables) (e := ee) (below := below) (T := s₁) (t := tg_) (ef_26_378 mm (1 : Int32))
  obtain ⟨_, _, ⟨T1, L1, k1, n1⟩, -, X1, ⟨Lc1, hQ1, l1, y1, z1⟩, st1⟩ := Jvm.LawKit.callS X0 hx hown (mvT hZ (own_h hw 115 rfl)) (mvT hZ (own_h hw 116 rfl)) (mvT hZ (own_h hw 48 rfl)) (mvT hZ (own_h hw 117 rfl)) (by decide) (backOf (W := 0) (rmNl1 l Z a0 hw [] h0 n0 O0) hZ (own_h hw 117 rfl) (own_h hw 48 rfl) (by decide) (by decide)) (g := (mkF mm 1 #[.val (.int (1 : Int32))] [(.int (1 : Int32))])) rfl (by rw [hml]; rfl) (argsL := [(.int (1 : Int32))]) (rest := []) (lenOf pd_375 rfl) rfl (Nat.le_of_eq rfl) (hb hby d26_1) (fun _ _ => ⟨rfl, e0, (by decide : 0 + 0 ≤ _), (by decide : 0 + 0 ≤ _)⟩)
  dsimp only [Pt.U, Pt.locs, Pt.cells, Pt.slots] at X1 l1 y1 z1 st1 hQ1
  subst l1 y1 z1
  obtain ⟨rfl, N1q, e1⟩ := hQ1
  have N1 := Fr.app N0 N1q
  obtain ⟨T2, h2, k2, X2, e2, E2, A2, st2⟩ := newP X1 hx hZ (own_h hw 19 rfl) e1 (g := (mkF mm 4 #[.val (.int (1 : Int32))] [(.int (2 : Int32))])) rfl (hb hby d26_4) rfl (by decide) (cap := 2) (by decide) (by decide) (by decide) (by decide)
  obtain ⟨b2, g2⟩ : ∃ z, z = h0.size := ⟨_, rfl⟩
  rw [← g2] at A2 st2
  have g_b2 : n0 ≤ b2 := Nat.le_trans (O0.1 ▸ O0.2.1) (Nat.le_of_eq g2.symm)
  have sz_b2 : h0.size ≤ b2 := Nat.le_trans K0.1 (Nat.le_of_eq g2.symm)
  have O2 := O0.ext E2
  have KK2 := K0.ext E2
  have V2 : Arv Z h2 b2 k2 .byte (2 : Int32) [(.int (0 : Int32)), (.int (0 : Int32))] (.int (0 : Int32)) := (Arv.new A2 (by decide)).pad (pad_rep [] (.int (0 : Int32)) 2)
  refine own_end X2 (v := some (.ref b2)) (fun h => by rw [Bd.returns] at h; cases h) (by decide) (by decide) (fun fs hr => pre0 _ ?_) ?_
  · show Steps pg.tables ee below (s₁.setTop (mkF mm 0 #[.val (.int (1 : Int32))] [])) _
    refine XS.iloadN X0.here hx rfl (hb hby d26_0) rfl ?_
    refine st1 _ ?_
    refine st2 _ ?_
    exact retOut X2 hx Bd.returns rfl (Or.inr (Or.inr (Or.inr (Or.inr ⟨rfl, rfl, rfl⟩)))) (hb hby d26_6) hr
  · show QrmNf1 Z  h0 n0 _ T2.heap _
    rw [e2]
    exact ⟨_, _, rfl, N1, KK2, g_b2, sz_b2, V2⟩
theorem d28_0 : decode jdk_52_method_4_code 0 = .ok (.getstatic 44, 3) := by decide +kernel
theorem d28_3 : decode jdk_52_method_4_code 3 = .ok (.ifCond .ne 25, 3) := by decide +kernel
theorem d28_28 : decode jdk_52_method_4_code 28 = .ok (.iload_n 1, 1) := by decide +kernel
theorem d28_29 : decode jdk_52_method_4_code 29 = .ok (.iconst 1, 1) := by decide +kernel
theorem d28_30 : decode jdk_52_method_4_code 30 = .ok (.ishl, 1) := by decide +kernel
theorem d28_31 : decode jdk_52_method_4_code 31 = .ok (.istore_n 1, 1) := by decide +kernel
theorem d28_32 : decode jdk_52_method_4_code 32 = .ok (.aload_n 0, 1) := by decide +kernel
theorem d28_33 : decode jdk_52_method_4_code 33 = .ok (.iload_n 1, 1) := by decide +kernel
theorem d28_34 : decode jdk_52_method_4_code 34 = .ok (.iinc 1 1, 3) := by decide +kernel
theorem d28_37 : decode jdk_52_method_4_code 37 = .ok (.iload_n 2, 1) := by decide +kernel
theorem d28_38 : decode jdk_52_method_4_code 38 = .ok (.getstatic 59, 3) := by decide +kernel
theorem d28_41 : decode jdk_52_method_4_code 41 = .ok (.ishr, 1) := by decide +kernel
theorem d28_42 : decode jdk_52_method_4_code 42 = .ok (.i2b, 1) := by decide +kernel
theorem d28_43 : decode jdk_52_method_4_code 43 = .ok (.bastore, 1) := by decide +kernel
theorem d28_44 : decode jdk_52_method_4_code 44 = .ok (.aload_n 0, 1) := by decide +kernel
theorem d28_45 : decode jdk_52_method_4_code 45 = .ok (.iload_n 1, 1) := by decide +kernel
theorem d28_46 : decode jdk_52_method_4_code 46 = .ok (.iload_n 2, 1) := by decide +kernel
theorem d28_47 : decode jdk_52_method_4_code 47 = .ok (.getstatic 63, 3) := by decide +kernel
theorem d28_50 : decode jdk_52_method_4_code 50 = .ok (.ishr, 1) := by decide +kernel
theorem d28_51 : decode jdk_52_method_4_code 51 = .ok (.i2b, 1) := by decide +kernel
theorem d28_52 : decode jdk_52_method_4_code 52 = .ok (.bastore, 1) := by decide +kernel
theorem d28_53 : decode jdk_52_method_4_code 53 = .ok (.return_, 1) := by decide +kernel
theorem ef_28_401 (m : MethodId) (x0 : Addr) (x1 : Int32) (x2 : Int32) : entryFrame m #[(.ref x0), (.int x1), (.int x2)] 3 = mkF m 0 #[.val (.ref x0), .val (.int x1), .val (.int x2)] [] := by first | (simp [entryFrame, mkF, argsToLocals, Value.category]; done) | rfl
def QrmPc1_0 (Z : State) (bb : Addr) (kb : ClassId) (x0 : Int32) (h0 : Heap) (n0 : Nat) (v : Option Value) (h : Heap) (L : List Loc) : Prop := v = none ∧ Fr n0 L ∧ Keep h0 h [bb] ∧ Arv Z h bb kb .byte (2 : Int32) [(own_u x0), (own_v x0)] (.int (0 : Int32))
set_option maxRecDepth 65536 in
set_option maxHeartbeats 40000000 in
theorem rmPc1_0 (l : Launch) (Z : State) (a0 : Array Value) (hw : ∀ d ∈ tables_1, d.before a0 Z = true) (ws : List Jvm.Cond) (bb : Addr) (kb : ClassId) (x0 : Int32) (h0 : Heap) (n0 : Nat) (O0 : Old Z n0 h0) (Vb : Arv Z h0 bb kb .byte (2 : Int32) [(.int (0 : Int32)), (.int (0 : Int32))] (.int (0 : Int32))) (g_bb : n0 ≤ bb) (hG : own_G Z) :
    own_M l Z h0 (⟨"java/lang/StringUTF16", "putChar", "([BII)V"⟩ : MethodName) jdk_52_method_4_code 3 none ws ({ frames := 0, cells := 0, slots := 0, locals := 0 } : Room) #[(.ref bb), (.int (0 : Int32)), (.int x0)] (QrmPc1_0 Z bb kb x0 h0 n0) := by
  refine own_start (plainFor_of_name pn_26) ?_
  intro pg ee s mm below meth cc s₁ Bd hZ hh hx hby hml hown0 hnm X0 e0
  have hown : s.vm.findClass "java/lang/StringUTF16" = some mm.cls := hown0
  have N0 := Fr.nil n0
  have K0 : Keep h0 h0 ([bb] : List Addr) := Keep.refl _ _
  have pre0 := fun tg_ => castTop (tb := pg.tables) (e := ee) (below := below) (T := s₁) (t := tg_) (ef_28_401 mm bb (0 : Int32) x0)
  obtain ⟨T1, X1, e1, st1⟩ := getS2 X0 hx hZ hown (host := "") (Or.inl (own_h hw 122 rfl)) Via.refl e0 (hG.1.ext O0.2) (g := (mkF mm 0 #[.val (.ref bb), .val (.int (0 : Int32)), .val (.int x0)] [])) rfl (hb hby d28_0)
  obtain ⟨T2, X2, e2, st2⟩ := getS2 X1 hx hZ hown (host := "") (Or.inl (own_h hw 123 rfl)) Via.refl e1 (hG.2.1.ext O0.2) (g := (mkF mm 38 #[.val (.ref bb), .val (.int (1 : Int32)), .val (.int x0)] [(.int x0), (.int (0 : Int32)), (.ref bb)])) rfl (hb hby d28_38)
  obtain ⟨cl3, Ar3, qk3, Sz3, Nn3, Hh3, Gg3⟩ := id Vb
  have hin3 : ¬ ((0 : Int32) < 0 ∨ cl3.slots.size ≤ ((0 : Int32)).toNatClampNeg) := inb_of Sz3 ⟨by decide, by decide⟩
  obtain ⟨T4, h4, X4, e4, W4, st4⟩ := stB X2 hx hZ e2 Ar3 (j := (0 : Int32)) hin3 (g := (mkF mm 43 #[.val (.ref bb), .val (.int (1 : Int32)), .val (.int x0)] [(.int ((x0 >>> ((0 : Int32) &&& 31)).toInt8.toInt32)), (.int (0 : Int32)), (.ref bb)])) rfl rfl (hb hby d28_43)
  have V4 : Arv Z h4 bb kb .byte (2 : Int32) [(own_u x0), (.int (0 : Int32))] (.int (0 : Int32)) := Arv.set Ar3 qk3 Sz3 Nn3 Hh3 Gg3 (fits_nar_byte _) W4 0 rfl (Nat.le_of_ble_eq_true rfl)
  have N4 := Fr.snoc X4 N0 g_bb
  have O4 := O0.wr W4 g_bb
  have KK4 := K0.wr W4 (Or.inl (by simp))
  obtain ⟨T5, X5, e5, st5⟩ := getS2 X4 hx hZ hown (host := "") (Or.inl (own_h hw 124 rfl)) Via.refl e4 (hG.2.2.ext O4.2) (g := (mkF mm 47 #[.val (.ref bb), .val (.int (1 : Int32)), .val (.int x0)] [(.int x0), (.int (1 : Int32)), (.ref bb)])) rfl (hb hby d28_47)
  obtain ⟨cl6, Ar6, qk6, Sz6, Nn6, Hh6, Gg6⟩ := id V4
  have hin6 : ¬ ((1 : Int32) < 0 ∨ cl6.slots.size ≤ ((1 : Int32)).toNatClampNeg) := inb_of Sz6 ⟨by decide, by decide⟩
  obtain ⟨T7, h7, X7, e7, W7, st7⟩ := stB X5 hx hZ e5 Ar6 (j := (1 : Int32)) hin6 (g := (mkF mm 52 #[.val (.ref bb), .val (.int (1 : Int32)), .val (.int x0)] [(.int ((x0 >>> ((8 : Int32) &&& 31)).toInt8.toInt32)), (.int (1 : Int32)), (.ref bb)])) rfl rfl (hb hby d28_52)
  have V7 : Arv Z h7 bb kb .byte (2 : Int32) [(own_u x0), (own_v x0)] (.int (0 : Int32)) := Arv.set Ar6 qk6 Sz6 Nn6 Hh6 Gg6 (fits_nar_byte _) W7 1 rfl (Nat.le_of_ble_eq_true rfl)
  have N7 := Fr.snoc X7 N4 g_bb
  have O7 := O4.wr W7 g_bb
  have KK7 := KK4.wr W7 (Or.inl (by simp))
  refine own_end X7 (v := none) (fun _ => rfl) (by decide) (by decide) (fun fs hr => pre0 _ ?_) ?_
  · show Steps pg.tables ee below (s₁.setTop (mkF mm 0 #[.val (.ref bb), .val (.int (0 : Int32)), .val (.int x0)] [])) _
    refine st1 _ ?_
    refine XS.ifYes X1.here hx rfl (pc0 := 3) (pc' := 28) rfl (hb hby d28_3) rfl ((if0 _ _).trans (feq (by decide : ¬ ((1 : Int32) = (0 : Int32)))).2) (by decide) (by decide) ?_
    refine XS.iloadN X1.here hx rfl (hb hby d28_28) rfl ?_
    refine XS.iconst X1.here hx rfl (hb hby d28_29) ?_
    refine XS.ishl X1.here hx rfl (hb hby d28_30) rfl ?_
    refine XS.istoreN X1.here hx rfl (hb hby d28_31) rfl (l' := #[.val (.ref bb), .val (.int (0 : Int32)), .val (.int x0)]) rfl ?_
    refine XS.aloadN X1.here hx rfl (hb hby d28_32) rfl rfl ?_
    refine XS.iloadN X1.here hx rfl (hb hby d28_33) rfl ?_
    show Steps pg.tables ee below (T1.setTop (mkF mm 34 #[.val (.ref bb), .val (.int (0 : Int32)), .val (.int x0)] [(.int (0 : Int32)), (.ref bb)])) _
    refine XS.iinc X1.here hx rfl (hb hby d28_34) rfl (l' := #[.val (.ref bb), .val (.int (1 : Int32)), .val (.int x0)]) rfl ?_
    refine XS.iloadN X1.here hx rfl (hb hby d28_37) rfl ?_
    refine st2 _ ?_
    refine XS.ishr X2.here hx rfl (hb hby d28_41) rfl ?_
    refine XS.i2b X2.here hx rfl (hb hby d28_42) rfl ?_
    refine st4 _ ?_
    refine XS.aloadN X4.here hx rfl (hb hby d28_44) rfl rfl ?_
    refine XS.iloadN X4.here hx rfl (hb hby d28_45) rfl ?_
    show Steps pg.tables ee below (T4.setTop (mkF mm 46 #[.val (.ref bb), .val (.int (1 : Int32)), .val (.int x0)] [(.int (1 : Int32)), (.ref bb)])) _
    refine XS.iloadN X4.here hx rfl (hb hby d28_46) rfl ?_
    refine st5 _ ?_
    refine XS.ishr X5.here hx rfl (hb hby d28_50) rfl ?_
    refine XS.i2b X5.here hx rfl (hb hby d28_51) rfl ?_
    refine st7 _ ?_
    exact X7.returnOut hx Bd.returns (hb hby d28_53) hr
  · show QrmPc1_0 Z bb kb x0 h0 n0 _ T7.heap _
    rw [e7]
    exact ⟨rfl, N7, KK7, V7⟩
theorem d25_0 : decode jdk_52_method_14_code 0 = .ok (.iload_n 2, 1) := by decide +kernel
theorem d25_1 : decode jdk_52_method_14_code 1 = .ok (.invokestatic 107, 3) := by decide +kernel
theorem pd_404 : parseMethodDescriptor "(I)[B" = some ⟨[.int], some (.array .byte)⟩ := by decide +kernel
theorem d25_4 : decode jdk_52_method_14_code 4 = .ok (.astore_n 3, 1) := by decide +kernel
theorem d25_5 : decode jdk_52_method_14_code 5 = .ok (.iconst 0, 1) := by decide +kernel
theorem d25_6 : decode jdk_52_method_14_code 6 = .ok (.istore 4, 2) := by decide +kernel
theorem d25_8 : decode jdk_52_method_14_code 8 = .ok (.iload 4, 2) := by decide +kernel
theorem d25_10 : decode jdk_52_method_14_code 10 = .ok (.iload_n 2, 1) := by decide +kernel
theorem d25_11 : decode jdk_52_method_14_code 11 = .ok (.if_icmp .ge 21, 3) := by decide +kernel
theorem d25_14 : decode jdk_52_method_14_code 14 = .ok (.aload_n 3, 1) := by decide +kernel
theorem d25_15 : decode jdk_52_method_14_code 15 = .ok (.iload 4, 2) := by decide +kernel
theorem d25_17 : decode jdk_52_method_14_code 17 = .ok (.aload_n 0, 1) := by decide +kernel
theorem d25_18 : decode jdk_52_method_14_code 18 = .ok (.iload_n 1, 1) := by decide +kernel
theorem d25_19 : decode jdk_52_method_14_code 19 = .ok (.caload, 1) := by decide +kernel
theorem d25_20 : decode jdk_52_method_14_code 20 = .ok (.invokestatic 111, 3) := by decide +kernel
theorem pd_417 : parseMethodDescriptor "([BII)V" = some ⟨[(.array .byte), .int, .int], none⟩ := by decide +kernel
theorem d25_23 : decode jdk_52_method_14_code 23 = .ok (.iinc 1 1, 3) := by decide +kernel
theorem d25_26 : decode jdk_52_method_14_code 26 = .ok (.iinc 4 1, 3) := by decide +kernel
theorem d25_29 : decode jdk_52_method_14_code 29 = .ok (.goto (-21), 3) := by decide +kernel
theorem d25_32 : decode jdk_52_method_14_code 32 = .ok (.aload_n 3, 1) := by decide +kernel
theorem d25_33 : decode jdk_52_method_14_code 33 = .ok (.areturn, 1) := by decide +kernel
theorem ef_25_423 (m : MethodId) (x0 : Addr) (x1 : Int32) (x2 : Int32) : entryFrame m #[(.ref x0), (.int x1), (.int x2)] 5 = mkF m 0 #[.val (.ref x0), .val (.int x1), .val (.int x2), .unset, .unset] [] := by first | (simp [entryFrame, mkF, argsToLocals, Value.category]; done) | rfl
def QrmTb1 (Z : State) (ch : Addr) (kc : ClassId) (x0 : Int32) (h0 : Heap) (n0 : Nat) (v : Option Value) (h : Heap) (L : List Loc) : Prop := ∃ (b : Addr) (kb : ClassId), v = some (.ref b) ∧ Fr n0 L ∧ Keep h0 h [] ∧ n0 ≤ b ∧ h0.size ≤ b ∧ Arv Z h b kb .byte (2 : Int32) [(own_u x0), (own_v x0)] (.int (0 : Int32))
set_option maxRecDepth 65536 in
set_option maxHeartbeats 40000000 in
theorem rmTb1 (l : Launch) (Z : State) (a0 : Array Value) (hw : ∀ d ∈ tables_1, d.before a0 Z = true) (ws : List Jvm.Cond) (ch : Addr) (kc : ClassId) (x0 : Int32) (h0 : Heap) (n0 : Nat) (O0 : Old Z n0 h0) (Vc : Arv Z h0 ch kc .char (1 : Int32) [(.int x0)] (.int (0 : Int32))) (hG : own_G Z) :
    own_M l Z h0 (⟨"java/lang/StringUTF16", "toBytes", "([CII)[B"⟩ : MethodName) jdk_52_method_14_code 5 (some (.array .byte)) ws ({ frames := 2, cells := 1, slots := 2, locals := 24 } : Room) #[(.ref ch), (.int (0 : Int32)), (.int (1 : Int32))] (QrmTb1 Z ch kc x0 h0 n0) := by
  refine own_start (plainFor_of_name pn_26) ?_
  intro pg ee s mm below meth cc s₁ Bd hZ hh hx hby hml hown0 hnm X0 e0
  have hown : s.vm.findClass "java/lang/StringUTF16" = some mm.cls := hown0
  have N0 := Fr.nil n0
  have K0 : Keep h0 h0 ([] : List Addr) := Keep.refl _ _
  have pre0 := fun tg_ => castTop (tb := pg.tables) (e := ee) (below := below) (T := s₁) (t := tg_) (ef_25_423 mm ch (0 : Int32) (1 : Int32))
  obtain ⟨_, _, ⟨T1, L1, k1, n1⟩, -, X1, ⟨Lc1, hQ1, l1, y1, z1⟩, st1⟩ := Jvm.LawKit.callS X0 hx hown (mvT hZ (own_h hw 112 rfl)) (mvT hZ (own_h hw 113 rfl)) (mvT hZ (own_h hw 48 rfl)) (mvT hZ (own_h hw 114 rfl)) (by decide) (backOf (W := 0) (rmNf1 l Z a0 hw [] h0 n0 O0) hZ (own_h hw 114 rfl) (own_h hw 48 rfl) (by decide) (by decide)) (g := (mkF mm 1 #[.val (.ref ch), .val (.int (0 : Int32)), .val (.int (1 : Int32)), .unset, .unset] [(.int (1 : Int32))])) rfl (by rw [hml]; rfl) (argsL := [(.int (1 : Int32))]) (rest := []) (lenOf pd_404 rfl) rfl (Nat.le_of_eq rfl) (hb hby d25_1) (fun _ _ => ⟨rfl, e0, (by decide : 0 + 1 ≤ _), (by decide : 0 + 2 ≤ _)⟩)
  dsimp only [Pt.U, Pt.locs, Pt.cells, Pt.slots] at X1 l1 y1 z1 st1 hQ1
  subst l1 y1 z1
  obtain ⟨tb1, kt1, rfl, N1q, K1, g_tb1, sz_tb1, Vt1⟩ := hQ1
  have O1 := O0.keep K1 all0
  have KK1 := K0.trans K1 all0
  have N1 := Fr.app N0 N1q
  obtain ⟨cl2, Ar2, qk2, Sz2, Nn2, Hh2, Gg2⟩ := id (Vc.keep K1 nin0)
  have hin2 : ¬ ((0 : Int32) < 0 ∨ cl2.slots.size ≤ ((0 : Int32)).toNatClampNeg) := inb_of Sz2 ⟨by decide, by decide⟩
  obtain ⟨_, _, ⟨T3, L3, k3, n3⟩, -, X3, ⟨Lc3, hQ3, l3, y3, z3⟩, st3⟩ := Jvm.LawKit.callS X1 hx hown (mvT hZ (own_h hw 119 rfl)) (mvT hZ (own_h hw 120 rfl)) (mvT hZ (own_h hw 48 rfl)) (mvT hZ (own_h hw 121 rfl)) (by decide) (backOf (W := 0) (rmPc1_0 l Z a0 hw [] tb1 kt1 x0 T1.heap n0 O1 Vt1 g_tb1 hG) hZ (own_h hw 121 rfl) (own_h hw 48 rfl) (by decide) (by decide)) (g := (mkF mm 20 #[.val (.ref ch), .val (.int (0 : Int32)), .val (.int (1 : Int32)), .val (.ref tb1), .val (.int (0 : Int32))] [(.int x0), (.int (0 : Int32)), (.ref tb1)])) rfl (by rw [hml]; rfl) (argsL := [(.ref tb1), (.int (0 : Int32)), (.int x0)]) (rest := []) (lenOf pd_417 rfl) rfl (Nat.le_of_eq rfl) (hb hby d25_20) (fun _ _ => ⟨rfl, rfl, (by decide : 1 + 0 ≤ _), (by decide : 2 + 0 ≤ _)⟩)
  dsimp only [Pt.U, Pt.locs, Pt.cells, Pt.slots] at X3 l3 y3 z3 st3 hQ3
  subst l3 y3 z3
  obtain ⟨rfl, N3q, K3, Vp3⟩ := hQ3
  have O3 := O1.keep K3 (allS g_tb1 all0)
  have KK3 := KK1.trans K3 (allS (Or.inr sz_tb1) all0)
  have N3 := Fr.app N1 N3q
  refine own_end X3 (v := some (.ref tb1)) (fun h => by rw [Bd.returns] at h; cases h) (by decide) (by decide) (fun fs hr => pre0 _ ?_) ?_
  · show Steps pg.tables ee below (s₁.setTop (mkF mm 0 #[.val (.ref ch), .val (.int (0 : Int32)), .val (.int (1 : Int32)), .unset, .unset] [])) _
    refine XS.iloadN X0.here hx rfl (hb hby d25_0) rfl ?_
    refine st1 _ ?_
    refine XS.astoreN X1.here hx rfl (hb hby d25_4) rfl rfl (l' := #[.val (.ref ch), .val (.int (0 : Int32)), .val (.int (1 : Int32)), .val (.ref tb1), .unset]) rfl ?_
    refine XS.iconst X1.here hx rfl (hb hby d25_5) ?_
    refine XS.istore X1.here hx rfl (hb hby d25_6) rfl (l' := #[.val (.ref ch), .val (.int (0 : Int32)), .val (.int (1 : Int32)), .val (.ref tb1), .val (.int (0 : Int32))]) rfl ?_
    refine XS.iload X1.here hx rfl (hb hby d25_8) rfl ?_
    refine XS.iloadN X1.here hx rfl (hb hby d25_10) rfl ?_
    refine XS.icmpNo X1.here hx rfl (hb hby d25_11) rfl (tlt (by decide : (0 : Int32) < (1 : Int32))).2.1 ?_
    show Steps pg.tables ee below (T1.setTop (mkF mm 14 #[.val (.ref ch), .val (.int (0 : Int32)), .val (.int (1 : Int32)), .val (.ref tb1), .val (.int (0 : Int32))] [])) _
    refine XS.aloadN X1.here hx rfl (hb hby d25_14) rfl rfl ?_
    refine XS.iload X1.here hx rfl (hb hby d25_15) rfl ?_
    refine XS.aloadN X1.here hx rfl (hb hby d25_17) rfl rfl ?_
    refine XS.iloadN X1.here hx rfl (hb hby d25_18) rfl ?_
    refine X1.caload hx (j := (0 : Int32)) (v := (.int x0)) Ar2.1 (State.isArrayOf_alike hZ.alike Ar2.2.1) Ar2.2.2 hin2 (Has.at Hh2 hin2 rfl) (g := (mkF mm 19 #[.val (.ref ch), .val (.int (0 : Int32)), .val (.int (1 : Int32)), .val (.ref tb1), .val (.int (0 : Int32))] [(.int (0 : Int32)), (.ref ch), (.int (0 : Int32)), (.ref tb1)])) rfl rfl (hb hby d25_19) _ ?_
    refine st3 _ ?_
    refine XS.iinc X3.here hx rfl (hb hby d25_23) rfl (l' := #[.val (.ref ch), .val (.int (1 : Int32)), .val (.int (1 : Int32)), .val (.ref tb1), .val (.int (0 : Int32))]) rfl ?_
    refine XS.iinc X3.here hx rfl (hb hby d25_26) rfl (l' := #[.val (.ref ch), .val (.int (1 : Int32)), .val (.int (1 : Int32)), .val (.ref tb1), .val (.int (1 : Int32))]) rfl ?_
    show Steps pg.tables ee below (T3.setTop (mkF mm 29 #[.val (.ref ch), .val (.int (1 : Int32)), .val (.int (1 : Int32)), .val (.ref tb1), .val (.int (1 : Int32))] [])) _
    refine XS.goto X3.here hx rfl (pc0 := 29) (pc' := 8) rfl (hb hby d25_29) (by decide) (by decide) ?_
    refine XS.iload X3.here hx rfl (hb hby d25_8) rfl ?_
    refine XS.iloadN X3.here hx rfl (hb hby d25_10) rfl ?_
    refine XS.icmpYes X3.here hx rfl (pc0 := 11) (pc' := 32) rfl (hb hby d25_11) rfl (flt (by decide : ¬ ((1 : Int32) < (1 : Int32)))).2.1 (by decide) (by decide) ?_
    refine XS.aloadN X3.here hx rfl (hb hby d25_32) rfl rfl ?_
    exact retOut X3 hx Bd.returns rfl (Or.inr (Or.inr (Or.inr (Or.inr ⟨rfl, rfl, rfl⟩)))) (hb hby d25_33) hr
  · show QrmTb1 Z ch kc x0 h0 n0 _ T3.heap _
    exact ⟨_, _, rfl, N3, KK3, g_tb1, sz_tb1, Vp3⟩
theorem d9_0 : decode jdk_52_method_16_code 0 = .ok (.iload_n 2, 1) := by decide +kernel
theorem d9_1 : decode jdk_52_method_16_code 1 = .ok (.newarray .byte, 2) := by decide +kernel
theorem d9_3 : decode jdk_52_method_16_code 3 = .ok (.astore_n 3, 1) := by decide +kernel
theorem d9_4 : decode jdk_52_method_16_code 4 = .ok (.aload_n 0, 1) := by decide +kernel
theorem d9_5 : decode jdk_52_method_16_code 5 = .ok (.iload_n 1, 1) := by decide +kernel
theorem d9_6 : decode jdk_52_method_16_code 6 = .ok (.aload_n 3, 1) := by decide +kernel
theorem d9_7 : decode jdk_52_method_16_code 7 = .ok (.iconst 0, 1) := by decide +kernel
theorem d9_8 : decode jdk_52_method_16_code 8 = .ok (.iload_n 2, 1) := by decide +kernel
theorem d9_9 : decode jdk_52_method_16_code 9 = .ok (.invokestatic 115, 3) := by decide +kernel
theorem pd_433 : parseMethodDescriptor "([CI[BII)I" = some ⟨[(.array .char), .int, (.array .byte), .int, .int], some .int⟩ := by decide +kernel
theorem d9_12 : decode jdk_52_method_16_code 12 = .ok (.istore 4, 2) := by decide +kernel
theorem d9_14 : decode jdk_52_method_16_code 14 = .ok (.iload 4, 2) := by decide +kernel
theorem d9_16 : decode jdk_52_method_16_code 16 = .ok (.iload_n 2, 1) := by decide +kernel
theorem d9_17 : decode jdk_52_method_16_code 17 = .ok (.if_icmp .eq 40, 3) := by decide +kernel
theorem d9_57 : decode jdk_52_method_16_code 57 = .ok (.aload_n 3, 1) := by decide +kernel
theorem d9_58 : decode jdk_52_method_16_code 58 = .ok (.areturn, 1) := by decide +kernel
theorem ef_9_440 (m : MethodId) (x0 : Addr) (x1 : Int32) (x2 : Int32) : entryFrame m #[(.ref x0), (.int x1), (.int x2)] 6 = mkF m 0 #[.val (.ref x0), .val (.int x1), .val (.int x2), .unset, .unset, .unset] [] := by first | (simp [entryFrame, mkF, argsToLocals, Value.category]; done) | rfl
def QrmCmL1 (Z : State) (ch : Addr) (kc : ClassId) (x0 : Int32) (h0 : Heap) (n0 : Nat) (v : Option Value) (h : Heap) (L : List Loc) : Prop := ∃ (b : Addr) (kb : ClassId), v = some (.ref b) ∧ Fr n0 L ∧ Keep h0 h [] ∧ n0 ≤ b ∧ h0.size ≤ b ∧ Arv Z h b kb .byte (1 : Int32) [(own_l x0)] (.int (0 : Int32))
set_option maxRecDepth 65536 in
set_option maxHeartbeats 40000000 in
theorem rmCmL1 (l : Launch) (Z : State) (a0 : Array Value) (hw : ∀ d ∈ tables_1, d.before a0 Z = true) (ws : List Jvm.Cond) (ch : Addr) (kc : ClassId) (x0 : Int32) (h0 : Heap) (n0 : Nat) (O0 : Old Z n0 h0) (Vc : Arv Z h0 ch kc .char (1 : Int32) [(.int x0)] (.int (0 : Int32))) (hl0 : ¬ ((255 : Int32) < x0)) :
    own_M l Z h0 (⟨"java/lang/StringUTF16", "compress", "([CII)[B"⟩ : MethodName) jdk_52_method_16_code 6 (some (.array .byte)) ws ({ frames := 1, cells := 1, slots := 1, locals := 18 } : Room) #[(.ref ch), (.int (0 : Int32)), (.int (1 : Int32))] (QrmCmL1 Z ch kc x0 h0 n0) := by
  refine own_start (plainFor_of_name pn_26) ?_
  intro pg ee s mm below meth cc s₁ Bd hZ hh hx hby hml hown0 hnm X0 e0
  have hown : s.vm.findClass "java/lang/StringUTF16" = some mm.cls := hown0
  have N0 := Fr.nil n0
  have K0 : Keep h0 h0 ([] : List Addr) := Keep.refl _ _
  have pre0 := fun tg_ => castTop (tb := pg.tables) (e := ee) (below := below) (T := s₁) (t := tg_) (ef_9_440 mm ch (0 : Int32) (1 : Int32))
  obtain ⟨T1, h1, k1, X1, e1, E1, A1, st1⟩ := newP X0 hx hZ (own_h hw 19 rfl) e0 (g := (mkF mm 1 #[.val (.ref ch), .val (.int (0 : Int32)), .val (.int (1 : Int32)), .unset, .unset, .unset] [(.int (1 : Int32))])) rfl (hb hby d9_1) rfl (by decide) (cap := 1) (by decide) (by decide) (by decide) (by decide)
  obtain ⟨b1, g1⟩ : ∃ z, z = h0.size := ⟨_, rfl⟩
  rw [← g1] at A1 st1
  have g_b1 : n0 ≤ b1 := Nat.le_trans (O0.1 ▸ O0.2.1) (Nat.le_of_eq g1.symm)
  have sz_b1 : h0.size ≤ b1 := Nat.le_trans K0.1 (Nat.le_of_eq g1.symm)
  have O1 := O0.ext E1
  have KK1 := K0.ext E1
  have V1 : Arv Z h1 b1 k1 .byte (1 : Int32) [(.int (0 : Int32))] (.int (0 : Int32)) := (Arv.new A1 (by decide)).pad (pad_rep [] (.int (0 : Int32)) 1)
  obtain ⟨_, _, ⟨T2, L2, k2, n2⟩, -, X2, ⟨Lc2, hQ2, l2, y2, z2⟩, st2⟩ := Jvm.LawKit.callS X1 hx hown (mvT hZ (own_h hw 50 rfl)) (mvT hZ (own_h hw 51 rfl)) (mvT hZ (own_h hw 48 rfl)) (mvT hZ (own_h hw 52 rfl)) (by decide) (backOf (W := 0) (rmIn1_1 l Z a0 hw [] ch kc x0 b1 k1 h1 n0 O1 (Vc.ext E1) V1 g_b1 (Nat.ne_of_lt (Nat.lt_of_lt_of_le Vc.lt (Nat.le_of_eq g1.symm))) hl0) hZ (own_h hw 52 rfl) (own_h hw 48 rfl) (by decide) (by decide)) (g := (mkF mm 9 #[.val (.ref ch), .val (.int (0 : Int32)), .val (.int (1 : Int32)), .val (.ref b1), .unset, .unset] [(.int (1 : Int32)), (.int (0 : Int32)), (.ref b1), (.int (0 : Int32)), (.ref ch)])) rfl (by rw [hml]; rfl) (argsL := [(.ref ch), (.int (0 : Int32)), (.ref b1), (.int (0 : Int32)), (.int (1 : Int32))]) (rest := []) (lenOf pd_433 rfl) rfl (Nat.le_of_eq rfl) (hb hby d9_9) (fun _ _ => ⟨rfl, e1, (by decide : 1 + 0 ≤ _), (by decide : 1 + 0 ≤ _)⟩)
  dsimp only [Pt.U, Pt.locs, Pt.cells, Pt.slots] at X2 l2 y2 z2 st2 hQ2
  subst l2 y2 z2
  obtain ⟨rfl, N2q, K2, Vw2⟩ := hQ2
  have O2 := O1.keep K2 (allS g_b1 all0)
  have KK2 := KK1.trans K2 (allS (Or.inr sz_b1) all0)
  have N2 := Fr.app N0 N2q
  refine own_end X2 (v := some (.ref b1)) (fun h => by rw [Bd.returns] at h; cases h) (by decide) (by decide) (fun fs hr => pre0 _ ?_) ?_
  · show Steps pg.tables ee below (s₁.setTop (mkF mm 0 #[.val (.ref ch), .val (.int (0 : Int32)), .val (.int (1 : Int32)), .unset, .unset, .unset] [])) _
    refine XS.iloadN X0.here hx rfl (hb hby d9_0) rfl ?_
    refine st1 _ ?_
    refine XS.astoreN X1.here hx rfl (hb hby d9_3) rfl rfl (l' := #[.val (.ref ch), .val (.int (0 : Int32)), .val (.int (1 : Int32)), .val (.ref b1), .unset, .unset]) rfl ?_
    refine XS.aloadN X1.here hx rfl (hb hby d9_4) rfl rfl ?_
    refine XS.iloadN X1.here hx rfl (hb hby d9_5) rfl ?_
    refine XS.aloadN X1.here hx rfl (hb hby d9_6) rfl rfl ?_
    refine XS.iconst X1.here hx rfl (hb hby d9_7) ?_
    refine XS.iloadN X1.here hx rfl (hb hby d9_8) rfl ?_
    show Steps pg.tables ee below (T1.setTop (mkF mm 9 #[.val (.ref ch), .val (.int (0 : Int32)), .val (.int (1 : Int32)), .val (.ref b1), .unset, .unset] [(.int (1 : Int32)), (.int (0 : Int32)), (.ref b1), (.int (0 : Int32)), (.ref ch)])) _
    refine st2 _ ?_
    refine XS.istore X2.here hx rfl (hb hby d9_12) rfl (l' := #[.val (.ref ch), .val (.int (0 : Int32)), .val (.int (1 : Int32)), .val (.ref b1), .val (.int (1 : Int32)), .unset]) rfl ?_
    refine XS.iload X2.here hx rfl (hb hby d9_14) rfl ?_
    refine XS.iloadN X2.here hx rfl (hb hby d9_16) rfl ?_
    refine XS.icmpYes X2.here hx rfl (pc0 := 17) (pc' := 57) rfl (hb hby d9_17) rfl (teq (by decide : (1 : Int32) = (1 : Int32))).1 (by decide) (by decide) ?_
    refine XS.aloadN X2.here hx rfl (hb hby d9_57) rfl rfl ?_
    exact retOut X2 hx Bd.returns rfl (Or.inr (Or.inr (Or.inr (Or.inr ⟨rfl, rfl, rfl⟩)))) (hb hby d9_58) hr
  · show QrmCmL1 Z ch kc x0 h0 n0 _ T2.heap _
    exact ⟨_, _, rfl, N2, KK2, g_b1, sz_b1, Vw2⟩
def QU1 (Z : State) (x0 : Int32) (h0 : Heap) (n0 : Nat) (v : Option Value) (h : Heap) (L : List Loc) : Prop := ∃ (b : Addr) (kb : ClassId), v = some (.ref b) ∧ Fr n0 L ∧ Keep h0 h [] ∧ n0 ≤ b ∧ h0.size ≤ b ∧ Arv Z h b kb .byte (2 : Int32) [(own_u x0), (own_v x0)] (.int (0 : Int32))
theorem d9_20 : decode jdk_52_method_16_code 20 = .ok (.aload_n 0, 1) := by decide +kernel
theorem d9_21 : decode jdk_52_method_16_code 21 = .ok (.iload_n 1, 1) := by decide +kernel
theorem d9_22 : decode jdk_52_method_16_code 22 = .ok (.iload_n 2, 1) := by decide +kernel
theorem d9_23 : decode jdk_52_method_16_code 23 = .ok (.invokestatic 119, 3) := by decide +kernel
theorem pd_445 : parseMethodDescriptor "([CII)[B" = some ⟨[(.array .char), .int, .int], some (.array .byte)⟩ := by decide +kernel
theorem d9_26 : decode jdk_52_method_16_code 26 = .ok (.astore 5, 2) := by decide +kernel
theorem d9_28 : decode jdk_52_method_16_code 28 = .ok (.aload 5, 2) := by decide +kernel
theorem d9_30 : decode jdk_52_method_16_code 30 = .ok (.iload 4, 2) := by decide +kernel
theorem d9_32 : decode jdk_52_method_16_code 32 = .ok (.invokestatic 71, 3) := by decide +kernel
theorem d9_35 : decode jdk_52_method_16_code 35 = .ok (.sipush 255, 3) := by decide +kernel
theorem d9_38 : decode jdk_52_method_16_code 38 = .ok (.if_icmp .gt 16, 3) := by decide +kernel
theorem d9_54 : decode jdk_52_method_16_code 54 = .ok (.aload 5, 2) := by decide +kernel
theorem d9_56 : decode jdk_52_method_16_code 56 = .ok (.areturn, 1) := by decide +kernel
set_option maxRecDepth 65536 in
set_option maxHeartbeats 40000000 in
theorem rmCmU1_0 (l : Launch) (Z : State) (a0 : Array Value) (hw : ∀ d ∈ tables_1, d.before a0 Z = true) (ws : List Jvm.Cond) (ch : Addr) (kc : ClassId) (x0 : Int32) (h0 : Heap) (n0 : Nat) (O0 : Old Z n0 h0) (Vc : Arv Z h0 ch kc .char (1 : Int32) [(.int x0)] (.int (0 : Int32))) (hG : own_G Z) (hl0 : (255 : Int32) < x0) (ha0 : ¬ (x0 < (0 : Int32))) (hb0 : ¬ ((65535 : Int32) < x0)) :
    own_M l Z h0 (⟨"java/lang/StringUTF16", "compress", "([CII)[B"⟩ : MethodName) jdk_52_method_16_code 6 (some (.array .byte)) ws ({ frames := 3, cells := 2, slots := 3, locals := 40 } : Room) #[(.ref ch), (.int (0 : Int32)), (.int (1 : Int32))] (QU1 Z x0 h0 n0) := by
  refine own_start (plainFor_of_name pn_26) ?_
  intro pg ee s mm below meth cc s₁ Bd hZ hh hx hby hml hown0 hnm X0 e0
  have hown : s.vm.findClass "java/lang/StringUTF16" = some mm.cls := hown0
  have N0 := Fr.nil n0
  have K0 : Keep h0 h0 ([] : List Addr) := Keep.refl _ _
  have pre0 := fun tg_ => castTop (tb := pg.tables) (e := ee) (below := below) (T := s₁) (t := tg_) (ef_9_440 mm ch (0 : Int32) (1 : Int32))
  obtain ⟨T1, h1, k1, X1, e1, E1, A1, st1⟩ := newP X0 hx hZ (own_h hw 19 rfl) e0 (g := (mkF mm 1 #[.val (.ref ch), .val (.int (0 : Int32)), .val (.int (1 : Int32)), .unset, .unset, .unset] [(.int (1 : Int32))])) rfl (hb hby d9_1) rfl (by decide) (cap := 1) (by decide) (by decide) (by decide) (by decide)
  obtain ⟨b1, g1⟩ : ∃ z, z = h0.size := ⟨_, rfl⟩
  rw [← g1] at A1 st1
  have g_b1 : n0 ≤ b1 := Nat.le_trans (O0.1 ▸ O0.2.1) (Nat.le_of_eq g1.symm)
  have sz_b1 : h0.size ≤ b1 := Nat.le_trans K0.1 (Nat.le_of_eq g1.symm)
  have O1 := O0.ext E1
  have KK1 := K0.ext E1
  have V1 : Arv Z h1 b1 k1 .byte (1 : Int32) [(.int (0 : Int32))] (.int (0 : Int32)) := (Arv.new A1 (by decide)).pad (pad_rep [] (.int (0 : Int32)) 1)
  obtain ⟨_, _, ⟨T2, L2, k2, n2⟩, -, X2, ⟨Lc2, hQ2, l2, y2, z2⟩, st2⟩ := Jvm.LawKit.callS X1 hx hown (mvT hZ (own_h hw 50 rfl)) (mvT hZ (own_h hw 51 rfl)) (mvT hZ (own_h hw 48 rfl)) (mvT hZ (own_h hw 52 rfl)) (by decide) (backOf (W := 0) (rmIn1_0 l Z a0 hw [] ch kc x0 b1 k1 h1 n0 O1 (Vc.ext E1) V1 g_b1 (Nat.ne_of_lt (Nat.lt_of_lt_of_le Vc.lt (Nat.le_of_eq g1.symm))) hl0) hZ (own_h hw 52 rfl) (own_h hw 48 rfl) (by decide) (by decide)) (g := (mkF mm 9 #[.val (.ref ch), .val (.int (0 : Int32)), .val (.int (1 : Int32)), .val (.ref b1), .unset, .unset] [(.int (1 : Int32)), (.int (0 : Int32)), (.ref b1), (.int (0 : Int32)), (.ref ch)])) rfl (by rw [hml]; rfl) (argsL := [(.ref ch), (.int (0 : Int32)), (.ref b1), (.int (0 : Int32)), (.int (1 : Int32))]) (rest := []) (lenOf pd_433 rfl) rfl (Nat.le_of_eq rfl) (hb hby d9_9) (fun _ _ => ⟨rfl, e1, (by decide : 1 + 0 ≤ _), (by decide : 1 + 0 ≤ _)⟩)
  dsimp only [Pt.U, Pt.locs, Pt.cells, Pt.slots] at X2 l2 y2 z2 st2 hQ2
  subst l2 y2 z2
  obtain ⟨rfl, N2q, K2⟩ := hQ2
  have O2 := O1.keep K2 (allS g_b1 all0)
  have KK2 := KK1.trans K2 (allS (Or.inr sz_b1) all0)
  have N2 := Fr.app N0 N2q
  obtain ⟨_, _, ⟨T3, L3, k3, n3⟩, -, X3, ⟨Lc3, hQ3, l3, y3, z3⟩, st3⟩ := Jvm.LawKit.callS X2 hx hown (mvT hZ (own_h hw 109 rfl)) (mvT hZ (own_h hw 110 rfl)) (mvT hZ (own_h hw 48 rfl)) (mvT hZ (own_h hw 111 rfl)) (by decide) (backOf (W := 0) (rmTb1 l Z a0 hw [] ch kc x0 T2.heap n0 O2 ((Vc.ext E1).keep K2 (ninS (Nat.ne_of_lt (Nat.lt_of_lt_of_le Vc.lt (Nat.le_of_eq g1.symm))) nin0)) hG) hZ (own_h hw 111 rfl) (own_h hw 48 rfl) (by decide) (by decide)) (g := (mkF mm 23 #[.val (.ref ch), .val (.int (0 : Int32)), .val (.int (1 : Int32)), .val (.ref b1), .val (.int (0 : Int32)), .unset] [(.int (1 : Int32)), (.int (0 : Int32)), (.ref ch)])) rfl (by rw [hml]; rfl) (argsL := [(.ref ch), (.int (0 : Int32)), (.int (1 : Int32))]) (rest := []) (lenOf pd_445 rfl) rfl (Nat.le_of_eq rfl) (hb hby d9_23) (fun _ _ => ⟨rfl, rfl, (by decide : 1 + 1 ≤ _), (by decide : 1 + 2 ≤ _)⟩)
  dsimp only [Pt.U, Pt.locs, Pt.cells, Pt.slots] at X3 l3 y3 z3 st3 hQ3
  subst l3 y3 z3
  obtain ⟨ub3, ku3, rfl, N3q, K3, g_ub3, sz_ub3, Vu3⟩ := hQ3
  have O3 := O2.keep K3 all0
  have KK3 := KK2.trans K3 all0
  have N3 := Fr.app N2 N3q
  replace sz_ub3 := Nat.le_trans KK2.1 sz_ub3
  obtain ⟨_, _, ⟨T4, L4, k4, n4⟩, -, X4, ⟨Lc4, hQ4, l4, y4, z4⟩, st4⟩ := Jvm.LawKit.callS X3 hx hown (mvT hZ (own_h hw 125 rfl)) (mvT hZ (own_h hw 126 rfl)) (mvT hZ (own_h hw 48 rfl)) (mvT hZ (own_h hw 127 rfl)) (by decide) (backOf (W := 0) (rmGc l Z a0 hw [] ub3 ku3 (2 : Int32) [(own_u x0), (own_v x0)] (0 : Int32) x0 T3.heap n0 O3 Vu3 hG ⟨by decide, by decide⟩ ⟨by decide, by decide⟩ rfl rfl ha0 hb0) hZ (own_h hw 127 rfl) (own_h hw 48 rfl) (by decide) (by decide)) (g := (mkF mm 32 #[.val (.ref ch), .val (.int (0 : Int32)), .val (.int (1 : Int32)), .val (.ref b1), .val (.int (0 : Int32)), .val (.ref ub3)] [(.int (0 : Int32)), (.ref ub3)])) rfl (by rw [hml]; rfl) (argsL := [(.ref ub3), (.int (0 : Int32))]) (rest := []) (lenOf pd_68 rfl) rfl (Nat.le_of_eq rfl) (hb hby d9_32) (fun _ _ => ⟨rfl, rfl, (by decide : 2 + 0 ≤ _), (by decide : 3 + 0 ≤ _)⟩)
  dsimp only [Pt.U, Pt.locs, Pt.cells, Pt.slots] at X4 l4 y4 z4 st4 hQ4
  subst l4 y4 z4
  obtain ⟨rfl, N4q, e4⟩ := hQ4
  have N4 := Fr.app N3 N4q
  refine own_end X4 (v := some (.ref ub3)) (fun h => by rw [Bd.returns] at h; cases h) (by decide) (by decide) (fun fs hr => pre0 _ ?_) ?_
  · show Steps pg.tables ee below (s₁.setTop (mkF mm 0 #[.val (.ref ch), .val (.int (0 : Int32)), .val (.int (1 : Int32)), .unset, .unset, .unset] [])) _
    refine XS.iloadN X0.here hx rfl (hb hby d9_0) rfl ?_
    refine st1 _ ?_
    refine XS.astoreN X1.here hx rfl (hb hby d9_3) rfl rfl (l' := #[.val (.ref ch), .val (.int (0 : Int32)), .val (.int (1 : Int32)), .val (.ref b1), .unset, .unset]) rfl ?_
    refine XS.aloadN X1.here hx rfl (hb hby d9_4) rfl rfl ?_
    refine XS.iloadN X1.here hx rfl (hb hby d9_5) rfl ?_
    refine XS.aloadN X1.here hx rfl (hb hby d9_6) rfl rfl ?_
    refine XS.iconst X1.here hx rfl (hb hby d9_7) ?_
    refine XS.iloadN X1.here hx rfl (hb hby d9_8) rfl ?_
    show Steps pg.tables ee below (T1.setTop (mkF mm 9 #[.val (.ref ch), .val (.int (0 : Int32)), .val (.int (1 : Int32)), .val (.ref b1), .unset, .unset] [(.int (1 : Int32)), (.int (0 : Int32)), (.ref b1), (.int (0 : Int32)), (.ref ch)])) _
    refine st2 _ ?_
    refine XS.istore X2.here hx rfl (hb hby d9_12) rfl (l' := #[.val (.ref ch), .val (.int (0 : Int32)), .val (.int (1 : Int32)), .val (.ref b1), .val (.int (0 : Int32)), .unset]) rfl ?_
    refine XS.iload X2.here hx rfl (hb hby d9_14) rfl ?_
    refine XS.iloadN X2.here hx rfl (hb hby d9_16) rfl ?_
    refine XS.icmpNo X2.here hx rfl (hb hby d9_17) rfl (feq (by decide : ¬ ((0 : Int32) = (1 : Int32)))).1 ?_
    refine XS.aloadN X2.here hx rfl (hb hby d9_20) rfl rfl ?_
    refine XS.iloadN X2.here hx rfl (hb hby d9_21) rfl ?_
    refine XS.iloadN X2.here hx rfl (hb hby d9_22) rfl ?_
    show Steps pg.tables ee below (T2.setTop (mkF mm 23 #[.val (.ref ch), .val (.int (0 : Int32)), .val (.int (1 : Int32)), .val (.ref b1), .val (.int (0 : Int32)), .unset] [(.int (1 : Int32)), (.int (0 : Int32)), (.ref ch)])) _
    refine st3 _ ?_
    refine XS.astore X3.here hx rfl (hb hby d9_26) rfl rfl (l' := #[.val (.ref ch), .val (.int (0 : Int32)), .val (.int (1 : Int32)), .val (.ref b1), .val (.int (0 : Int32)), .val (.ref ub3)]) rfl ?_
    refine XS.aload X3.here hx rfl (hb hby d9_28) rfl rfl ?_
    refine XS.iload X3.here hx rfl (hb hby d9_30) rfl ?_
    refine st4 _ ?_
    refine XS.sipush X4.here hx rfl (hb hby d9_35) ?_
    refine XS.icmpYes X4.here hx rfl (pc0 := 38) (pc' := 54) rfl (hb hby d9_38) rfl (tlt hl0).2.2.1 (by decide) (by decide) ?_
    refine XS.aload X4.here hx rfl (hb hby d9_54) rfl rfl ?_
    show Steps pg.tables ee below (T4.setTop (mkF mm 56 #[.val (.ref ch), .val (.int (0 : Int32)), .val (.int (1 : Int32)), .val (.ref b1), .val (.int (0 : Int32)), .val (.ref ub3)] [(.ref ub3)])) _
    exact retOut X4 hx Bd.returns rfl (Or.inr (Or.inr (Or.inr (Or.inr ⟨rfl, rfl, rfl⟩)))) (hb hby d9_56) hr
  · show QU1 Z x0 h0 n0 _ T4.heap _
    rw [e4]
    exact ⟨_, _, rfl, N4, KK3, g_ub3, sz_ub3, Vu3⟩
set_option maxRecDepth 65536 in
theorem rmCmU1 (l : Launch) (Z : State) (a0 : Array Value) (hw : ∀ d ∈ tables_1, d.before a0 Z = true) (ws : List Jvm.Cond) (ch : Addr) (kc : ClassId) (x0 : Int32) (h0 : Heap) (n0 : Nat) (O0 : Old Z n0 h0) (Vc : Arv Z h0 ch kc .char (1 : Int32) [(.int x0)] (.int (0 : Int32))) (hG : own_G Z) (hU : (255 : Int32) < x0) (ha0 : ¬ (x0 < (0 : Int32))) (hb0 : ¬ ((65535 : Int32) < x0)) :
    own_M l Z h0 (⟨"java/lang/StringUTF16", "compress", "([CII)[B"⟩ : MethodName) jdk_52_method_16_code 6 (some (.array .byte)) ws ({ frames := 3, cells := 2, slots := 3, locals := 40 } : Room) #[(.ref ch), (.int (0 : Int32)), (.int (1 : Int32))] (QU1 Z x0 h0 n0) := by
  have hl0 := hU
  exact rmCmU1_0 l Z a0 hw ws ch kc x0 h0 n0 O0 Vc hG hl0 ha0 hb0
def QS1 (Z : State) (a : Addr) (x0 : Int32) (h0 : Heap) (n0 : Nat) (v : Option Value) (h : Heap) (L : List Loc) : Prop := v = none ∧ Fr n0 L ∧ Keep h0 h [a] ∧ own_S1 Z h a x0
theorem d11_0 : decode jdk_52_method_15_code 0 = .ok (.iload_n 1, 1) := by decide +kernel
theorem d11_1 : decode jdk_52_method_15_code 1 = .ok (.aload_n 0, 1) := by decide +kernel
theorem d11_2 : decode jdk_52_method_15_code 2 = .ok (.arraylength, 1) := by decide +kernel
theorem d11_3 : decode jdk_52_method_15_code 3 = .ok (.isub, 1) := by decide +kernel
theorem d11_4 : decode jdk_52_method_15_code 4 = .ok (.bipush 31, 2) := by decide +kernel
theorem d11_6 : decode jdk_52_method_15_code 6 = .ok (.iushr, 1) := by decide +kernel
theorem d11_7 : decode jdk_52_method_15_code 7 = .ok (.i2b, 1) := by decide +kernel
theorem d11_8 : decode jdk_52_method_15_code 8 = .ok (.ireturn, 1) := by decide +kernel
theorem ef_11_462 (m : MethodId) (x0 : Addr) (x1 : Int32) : entryFrame m #[(.ref x0), (.int x1)] 2 = mkF m 0 #[.val (.ref x0), .val (.int x1)] [] := by first | (simp [entryFrame, mkF, argsToLocals, Value.category]; done) | rfl
def QrmCf1_0 (Z : State) (bb : Addr) (kb : ClassId) (vs : List Value) (h0 : Heap) (n0 : Nat) (v : Option Value) (h : Heap) (L : List Loc) : Prop := v = some (.int (0 : Int32)) ∧ Fr n0 L ∧ h = h0
set_option maxRecDepth 65536 in
set_option maxHeartbeats 40000000 in
theorem rmCf1_0 (l : Launch) (Z : State) (a0 : Array Value) (hw : ∀ d ∈ tables_1, d.before a0 Z = true) (ws : List Jvm.Cond) (bb : Addr) (kb : ClassId) (vs : List Value) (h0 : Heap) (n0 : Nat) (O0 : Old Z n0 h0) (Vb : Arv Z h0 bb kb .byte (1 : Int32) vs (.int (0 : Int32))) :
    own_M l Z h0 (⟨"java/lang/StringUTF16", "coderFromArrayLen", "([BI)B"⟩ : MethodName) jdk_52_method_15_code 2 (some .byte) ws ({ frames := 0, cells := 0, slots := 0, locals := 0 } : Room) #[(.ref bb), (.int (1 : Int32))] (QrmCf1_0 Z bb kb vs h0 n0) := by
  refine own_start (plainFor_of_name pn_26) ?_
  intro pg ee s mm below meth cc s₁ Bd hZ hh hx hby hml hown0 hnm X0 e0
  have hown : s.vm.findClass "java/lang/StringUTF16" = some mm.cls := hown0
  have N0 := Fr.nil n0
  have pre0 := fun tg_ => castTop (tb := pg.tables) (e := ee) (below := below) (T := s₁) (t := tg_) (ef_11_462 mm bb (1 : Int32))
  obtain ⟨cl1, Ar1, qk1, Sz1, Nn1, Hh1, Gg1⟩ := id Vb
  refine own_end X0 (v := some (.int (0 : Int32))) (fun h => by rw [Bd.returns] at h; cases h) (by decide) (by decide) (fun fs hr => pre0 _ ?_) ?_
  · show Steps pg.tables ee below (s₁.setTop (mkF mm 0 #[.val (.ref bb), .val (.int (1 : Int32))] [])) _
    refine XS.iloadN X0.here hx rfl (hb hby d11_0) rfl ?_
    refine XS.aloadN X0.here hx rfl (hb hby d11_1) rfl rfl ?_
    refine X0.arraylength hx (by rw [e0]; exact Ar1.1) (State.isArrayOf_alike hZ.alike Ar1.2.1) (g := (mkF mm 2 #[.val (.ref bb), .val (.int (1 : Int32))] [(.ref bb), (.int (1 : Int32))])) rfl rfl (hb hby d11_2) _ ?_
    rw [len_of Sz1 Nn1]
    refine XS.isub X0.here hx rfl (hb hby d11_3) rfl ?_
    refine XS.bipush X0.here hx rfl (hb hby d11_4) ?_
    refine XS.iushr X0.here hx rfl (hb hby d11_6) rfl ?_
    refine XS.i2b X0.here hx rfl (hb hby d11_7) rfl ?_
    exact retN X0 hx (t := .byte) Bd.returns (by simp) (hb hby d11_8) hr
  · show QrmCf1_0 Z bb kb vs h0 n0 _ s₁.heap _
    rw [e0]
    exact ⟨rfl, N0, rfl⟩
def QrmCf1_1 (Z : State) (bb : Addr) (kb : ClassId) (vs : List Value) (h0 : Heap) (n0 : Nat) (v : Option Value) (h : Heap) (L : List Loc) : Prop := v = some (.int (1 : Int32)) ∧ Fr n0 L ∧ h = h0
set_option maxRecDepth 65536 in
set_option maxHeartbeats 40000000 in
theorem rmCf1_1 (l : Launch) (Z : State) (a0 : Array Value) (hw : ∀ d ∈ tables_1, d.before a0 Z = true) (ws : List Jvm.Cond) (bb : Addr) (kb : ClassId) (vs : List Value) (h0 : Heap) (n0 : Nat) (O0 : Old Z n0 h0) (Vb : Arv Z h0 bb kb .byte (2 : Int32) vs (.int (0 : Int32))) :
    own_M l Z h0 (⟨"java/lang/StringUTF16", "coderFromArrayLen", "([BI)B"⟩ : MethodName) jdk_52_method_15_code 2 (some .byte) ws ({ frames := 0, cells := 0, slots := 0, locals := 0 } : Room) #[(.ref bb), (.int (1 : Int32))] (QrmCf1_1 Z bb kb vs h0 n0) := by
  refine own_start (plainFor_of_name pn_26) ?_
  intro pg ee s mm below meth cc s₁ Bd hZ hh hx hby hml hown0 hnm X0 e0
  have hown : s.vm.findClass "java/lang/StringUTF16" = some mm.cls := hown0
  have N0 := Fr.nil n0
  have pre0 := fun tg_ => castTop (tb := pg.tables) (e := ee) (below := below) (T := s₁) (t := tg_) (ef_11_462 mm bb (1 : Int32))
  obtain ⟨cl1, Ar1, qk1, Sz1, Nn1, Hh1, Gg1⟩ := id Vb
  refine own_end X0 (v := some (.int (1 : Int32))) (fun h => by rw [Bd.returns] at h; cases h) (by decide) (by decide) (fun fs hr => pre0 _ ?_) ?_
  · show Steps pg.tables ee below (s₁.setTop (mkF mm 0 #[.val (.ref bb), .val (.int (1 : Int32))] [])) _
    refine XS.iloadN X0.here hx rfl (hb hby d11_0) rfl ?_
    refine XS.aloadN X0.here hx rfl (hb hby d11_1) rfl rfl ?_
    refine X0.arraylength hx (by rw [e0]; exact Ar1.1) (State.isArrayOf_alike hZ.alike Ar1.2.1) (g := (mkF mm 2 #[.val (.ref bb), .val (.int (1 : Int32))] [(.ref bb), (.int (1 : Int32))])) rfl rfl (hb hby d11_2) _ ?_
    rw [len_of Sz1 Nn1]
    refine XS.isub X0.here hx rfl (hb hby d11_3) rfl ?_
    refine XS.bipush X0.here hx rfl (hb hby d11_4) ?_
    refine XS.iushr X0.here hx rfl (hb hby d11_6) rfl ?_
    refine XS.i2b X0.here hx rfl (hb hby d11_7) rfl ?_
    exact retN X0 hx (t := .byte) Bd.returns (by simp) (hb hby d11_8) hr
  · show QrmCf1_1 Z bb kb vs h0 n0 _ s₁.heap _
    rw [e0]
    exact ⟨rfl, N0, rfl⟩
theorem d3_0 : decode jdk_42_method_149_code 0 = .ok (.aload_n 0, 1) := by decide +kernel
theorem d3_1 : decode jdk_42_method_149_code 1 = .ok (.invokespecial 1, 3) := by decide +kernel
theorem d3_4 : decode jdk_42_method_149_code 4 = .ok (.iload_n 3, 1) := by decide +kernel
theorem d3_5 : decode jdk_42_method_149_code 5 = .ok (.ifCond .ne 22, 3) := by decide +kernel
theorem d3_27 : decode jdk_42_method_149_code 27 = .ok (.getstatic 38, 3) := by decide +kernel
theorem d3_30 : decode jdk_42_method_149_code 30 = .ok (.ifCond .eq 28, 3) := by decide +kernel
theorem d3_33 : decode jdk_42_method_149_code 33 = .ok (.aload_n 1, 1) := by decide +kernel
theorem d3_34 : decode jdk_42_method_149_code 34 = .ok (.iload_n 2, 1) := by decide +kernel
theorem d3_35 : decode jdk_42_method_149_code 35 = .ok (.iload_n 3, 1) := by decide +kernel
theorem d3_36 : decode jdk_42_method_149_code 36 = .ok (.invokestatic 177, 3) := by decide +kernel
theorem d3_39 : decode jdk_42_method_149_code 39 = .ok (.astore 5, 2) := by decide +kernel
theorem d3_41 : decode jdk_42_method_149_code 41 = .ok (.aload_n 0, 1) := by decide +kernel
theorem d3_42 : decode jdk_42_method_149_code 42 = .ok (.aload 5, 2) := by decide +kernel
theorem d3_44 : decode jdk_42_method_149_code 44 = .ok (.iload_n 3, 1) := by decide +kernel
theorem d3_45 : decode jdk_42_method_149_code 45 = .ok (.invokestatic 47, 3) := by decide +kernel
theorem pd_478 : parseMethodDescriptor "([BI)B" = some ⟨[(.array .byte), .int], some .byte⟩ := by decide +kernel
theorem d3_48 : decode jdk_42_method_149_code 48 = .ok (.putfield 15, 3) := by decide +kernel
theorem d3_51 : decode jdk_42_method_149_code 51 = .ok (.aload_n 0, 1) := by decide +kernel
theorem d3_52 : decode jdk_42_method_149_code 52 = .ok (.aload 5, 2) := by decide +kernel
theorem d3_54 : decode jdk_42_method_149_code 54 = .ok (.putfield 9, 3) := by decide +kernel
theorem d3_57 : decode jdk_42_method_149_code 57 = .ok (.return_, 1) := by decide +kernel
theorem ef_3_484 (m : MethodId) (x0 : Addr) (x1 : Addr) (x2 : Int32) (x3 : Int32) : entryFrame m #[(.ref x0), (.ref x1), (.int x2), (.int x3), .null] 6 = mkF m 0 #[.val (.ref x0), .val (.ref x1), .val (.int x2), .val (.int x3), .val .null, .unset] [] := by first | (simp [entryFrame, mkF, argsToLocals, Value.category]; done) | rfl
set_option maxRecDepth 65536 in
set_option maxHeartbeats 40000000 in
theorem rmV1_0 (l : Launch) (Z : State) (a0 : Array Value) (hw : ∀ d ∈ tables_1, d.before a0 Z = true) (ws : List Jvm.Cond) (a : Addr) (ch : Addr) (kc : ClassId) (x0 : Int32) (cs : Int32) (h0 : Heap) (n0 : Nat) (O0 : Old Z n0 h0) (E_a : Exa Z h0 a "java/lang/String") (F_value_a : Fld Z h0 a "java/lang/String" "value" "[B" .null) (F_coder_a : Fld Z h0 a "java/lang/String" "coder" "B" (.int (0 : Int32))) (g_a : n0 ≤ a) (Vc : Arv Z h0 ch kc .char (1 : Int32) [(.int x0)] (.int (0 : Int32))) (hca : ch ≠ a) (hC : own_C Z cs) (hl0 : ¬ ((255 : Int32) < x0)) :
    own_M l Z h0 (⟨"java/lang/String", "<init>", "([CIILjava/lang/Void;)V"⟩ : MethodName) jdk_42_method_149_code 6 none ws ({ frames := 4, cells := 2, slots := 3, locals := 57 } : Room) #[(.ref a), (.ref ch), (.int (0 : Int32)), (.int (1 : Int32)), .null] (QS1 Z a x0 h0 n0) := by
  refine own_start (plainFor_of_name pn_18) ?_
  intro pg ee s mm below meth cc s₁ Bd hZ hh hx hby hml hown0 hnm X0 e0
  have hown : s.vm.findClass "java/lang/String" = some mm.cls := hown0
  have N0 := Fr.nil n0
  have K0 : Keep h0 h0 ([a] : List Addr) := Keep.refl _ _
  have pre0 := fun tg_ => castTop (tb := pg.tables) (e := ee) (below := below) (T := s₁) (t := tg_) (ef_3_484 mm a ch (0 : Int32) (1 : Int32))
  obtain ⟨T1, X1, e1, st1⟩ := initO X0 hx hZ hown (own_h hw 15 rfl) (own_h hw 16 rfl) (own_h hw 17 rfl) e0 (g := (mkF mm 1 #[.val (.ref a), .val (.ref ch), .val (.int (0 : Int32)), .val (.int (1 : Int32)), .val .null, .unset] [(.ref a)])) rfl (by rw [hml]; rfl) rfl (hb hby d3_1) (by decide) (W := 0) (by show 2 * 0 + _ ≤ _; exact Nat.le_of_eq rfl) (by decide)
  obtain ⟨T2, X2, e2, st2⟩ := getS2 X1 hx hZ hown (host := "") (Or.inl (own_h hw 40 rfl)) Via.refl e1 (hC.1.ext O0.2) (g := (mkF mm 27 #[.val (.ref a), .val (.ref ch), .val (.int (0 : Int32)), .val (.int (1 : Int32)), .val .null, .unset] [])) rfl (hb hby d3_27)
  obtain ⟨_, _, ⟨T3, L3, k3, n3⟩, -, X3, ⟨Lc3, hQ3, l3, y3, z3⟩, st3⟩ := Jvm.LawKit.callS X2 hx hown (mvT hZ (own_h hw 46 rfl)) (mvT hZ (own_h hw 47 rfl)) (mvT hZ (own_h hw 48 rfl)) (mvT hZ (own_h hw 49 rfl)) (by decide) (backOf (W := 0) (rmCmL1 l Z a0 hw [] ch kc x0 h0 n0 O0 Vc hl0) hZ (own_h hw 49 rfl) (own_h hw 48 rfl) (by decide) (by decide)) (g := (mkF mm 36 #[.val (.ref a), .val (.ref ch), .val (.int (0 : Int32)), .val (.int (1 : Int32)), .val .null, .unset] [(.int (1 : Int32)), (.int (0 : Int32)), (.ref ch)])) rfl (by rw [hml]; rfl) (argsL := [(.ref ch), (.int (0 : Int32)), (.int (1 : Int32))]) (rest := []) (lenOf pd_445 rfl) rfl (Nat.le_of_eq rfl) (hb hby d3_36) (fun _ _ => ⟨rfl, e2, (by decide : 0 + 1 ≤ _), (by decide : 0 + 1 ≤ _)⟩)
  dsimp only [Pt.U, Pt.locs, Pt.cells, Pt.slots] at X3 l3 y3 z3 st3 hQ3
  subst l3 y3 z3
  obtain ⟨bb3, kb3, rfl, N3q, K3, g_bb3, sz_bb3, Vw3⟩ := hQ3
  have O3 := O0.keep K3 all0
  have KK3 := K0.trans K3 all0
  have N3 := Fr.app N0 N3q
  obtain ⟨_, _, ⟨T4, L4, k4, n4⟩, -, X4, ⟨Lc4, hQ4, l4, y4, z4⟩, st4⟩ := Jvm.LawKit.callS X3 hx hown (mvT hZ (own_h hw 53 rfl)) (mvT hZ (own_h hw 54 rfl)) (mvT hZ (own_h hw 48 rfl)) (mvT hZ (own_h hw 55 rfl)) (by decide) (backOf (W := 1) (rmCf1_0 l Z a0 hw [] bb3 kb3 [(own_l x0)] T3.heap n0 O3 Vw3) hZ (own_h hw 55 rfl) (own_h hw 48 rfl) (by decide) (by decide)) (g := (mkF mm 45 #[.val (.ref a), .val (.ref ch), .val (.int (0 : Int32)), .val (.int (1 : Int32)), .val .null, .val (.ref bb3)] [(.int (1 : Int32)), (.ref bb3), (.ref a)])) rfl (by rw [hml]; rfl) (argsL := [(.ref bb3), (.int (1 : Int32))]) (rest := [(.ref a)]) (lenOf pd_478 rfl) rfl (Nat.le_of_eq rfl) (hb hby d3_45) (fun _ _ => ⟨rfl, rfl, (by decide : 1 + 0 ≤ _), (by decide : 1 + 0 ≤ _)⟩)
  dsimp only [Pt.U, Pt.locs, Pt.cells, Pt.slots] at X4 l4 y4 z4 st4 hQ4
  subst l4 y4 z4
  obtain ⟨rfl, N4q, e4⟩ := hQ4
  have N4 := Fr.app N3 N4q
  obtain ⟨T5, h5, X5, e5, W5, st5⟩ := putFN X4 hx hZ hown (own_h hw 25 rfl) Via.refl e4 (F_coder_a.keep K3 nin0) (E_a.keep K3) (Or.inr ⟨(own_h hw 21 rfl), rfl, hnm⟩) (own_h hw 6 rfl) (ty := .byte) (v' := (.int (0 : Int32))) (by decide) rfl (by decide) (g := (mkF mm 48 #[.val (.ref a), .val (.ref ch), .val (.int (0 : Int32)), .val (.int (1 : Int32)), .val .null, .val (.ref bb3)] [(.int (0 : Int32)), (.ref a)])) rfl rfl (hb hby d3_48)
  have Fw5 : Fld Z h5 a "java/lang/String" "coder" "B" (.int (0 : Int32)) := (F_coder_a.keep K3 nin0).same W5
  have N5 := Fr.snoc X5 N4 g_a
  have O5 := O3.wr W5 g_a
  have KK5 := KK3.wr W5 (Or.inl (by simp))
  obtain ⟨T6, h6, X6, e6, W6, st6⟩ := putF X5 hx hZ hown (host := "") (Or.inl (own_h hw 24 rfl)) Via.refl e5 ((F_value_a.keep K3 nin0).other W5 (Or.inr (slot_ne (Or.inr (own_h hw 20 rfl)) (Or.inr (own_h hw 21 rfl)) (by decide) (t := (.array .byte)) (t' := .byte) (by decide) (by decide)))) ((E_a.keep K3).wr W5) (Or.inr ⟨(own_h hw 20 rfl), rfl, hnm⟩) (own_h hw 6 rfl) (ty := (.array .byte)) (by decide) rfl rfl (g := (mkF mm 54 #[.val (.ref a), .val (.ref ch), .val (.int (0 : Int32)), .val (.int (1 : Int32)), .val .null, .val (.ref bb3)] [(.ref bb3), (.ref a)])) rfl rfl (hb hby d3_54)
  have Fw6 : Fld Z h6 a "java/lang/String" "value" "[B" (.ref bb3) := ((F_value_a.keep K3 nin0).other W5 (Or.inr (slot_ne (Or.inr (own_h hw 20 rfl)) (Or.inr (own_h hw 21 rfl)) (by decide) (t := (.array .byte)) (t' := .byte) (by decide) (by decide)))).same W6
  have N6 := Fr.snoc X6 N5 g_a
  have O6 := O5.wr W6 g_a
  have KK6 := KK5.wr W6 (Or.inl (by simp))
  refine own_end X6 (v := none) (fun _ => rfl) (by decide) (by decide) (fun fs hr => pre0 _ ?_) ?_
  · show Steps pg.tables ee below (s₁.setTop (mkF mm 0 #[.val (.ref a), .val (.ref ch), .val (.int (0 : Int32)), .val (.int (1 : Int32)), .val .null, .unset] [])) _
    refine XS.aloadN X0.here hx rfl (hb hby d3_0) rfl rfl ?_
    refine st1 _ ?_
    refine XS.iloadN X1.here hx rfl (hb hby d3_4) rfl ?_
    refine XS.ifYes X1.here hx rfl (pc0 := 5) (pc' := 27) rfl (hb hby d3_5) rfl ((if0 _ _).trans (feq (by decide : ¬ ((1 : Int32) = (0 : Int32)))).2) (by decide) (by decide) ?_
    refine st2 _ ?_
    refine XS.ifNo X2.here hx rfl (hb hby d3_30) rfl ((if0 _ _).trans (feq hC.2).1) ?_
    refine XS.aloadN X2.here hx rfl (hb hby d3_33) rfl rfl ?_
    refine XS.iloadN X2.here hx rfl (hb hby d3_34) rfl ?_
    show Steps pg.tables ee below (T2.setTop (mkF mm 35 #[.val (.ref a), .val (.ref ch), .val (.int (0 : Int32)), .val (.int (1 : Int32)), .val .null, .unset] [(.int (0 : Int32)), (.ref ch)])) _
    refine XS.iloadN X2.here hx rfl (hb hby d3_35) rfl ?_
    refine st3 _ ?_
    refine XS.astore X3.here hx rfl (hb hby d3_39) rfl rfl (l' := #[.val (.ref a), .val (.ref ch), .val (.int (0 : Int32)), .val (.int (1 : Int32)), .val .null, .val (.ref bb3)]) rfl ?_
    refine XS.aloadN X3.here hx rfl (hb hby d3_41) rfl rfl ?_
    refine XS.aload X3.here hx rfl (hb hby d3_42) rfl rfl ?_
    refine XS.iloadN X3.here hx rfl (hb hby d3_44) rfl ?_
    refine st4 _ ?_
    refine st5 _ ?_
    show Steps pg.tables ee below (T5.setTop (mkF mm 51 #[.val (.ref a), .val (.ref ch), .val (.int (0 : Int32)), .val (.int (1 : Int32)), .val .null, .val (.ref bb3)] [])) _
    refine XS.aloadN X5.here hx rfl (hb hby d3_51) rfl rfl ?_
    refine XS.aload X5.here hx rfl (hb hby d3_52) rfl rfl ?_
    refine st6 _ ?_
    exact X6.returnOut hx Bd.returns (hb hby d3_57) hr
  · show QS1 Z a x0 h0 n0 _ T6.heap _
    rw [e6]
    exact ⟨rfl, N6, KK6, (((E_a.keep K3).wr W5).wr W6), _, _, Fw6, Or.inl ⟨(Fw5.other W6 (Or.inr (slot_ne (Or.inr (own_h hw 21 rfl)) (Or.inr (own_h hw 20 rfl)) (by decide) (t := .byte) (t' := (.array .byte)) (by decide) (by decide)))), hl0, ((Vw3.other W5 (Ne.symm (Nat.ne_of_lt (Nat.lt_of_lt_of_le E_a.lt sz_bb3)))).other W6 (Ne.symm (Nat.ne_of_lt (Nat.lt_of_lt_of_le E_a.lt sz_bb3))))⟩⟩
set_option maxRecDepth 65536 in
set_option maxHeartbeats 40000000 in
theorem rmV1_1 (l : Launch) (Z : State) (a0 : Array Value) (hw : ∀ d ∈ tables_1, d.before a0 Z = true) (ws : List Jvm.Cond) (a : Addr) (ch : Addr) (kc : ClassId) (x0 : Int32) (cs : Int32) (h0 : Heap) (n0 : Nat) (O0 : Old Z n0 h0) (E_a : Exa Z h0 a "java/lang/String") (F_value_a : Fld Z h0 a "java/lang/String" "value" "[B" .null) (F_coder_a : Fld Z h0 a "java/lang/String" "coder" "B" (.int (0 : Int32))) (g_a : n0 ≤ a) (Vc : Arv Z h0 ch kc .char (1 : Int32) [(.int x0)] (.int (0 : Int32))) (hca : ch ≠ a) (hC : own_C Z cs) (hU : (255 : Int32) < x0) (ha0 : ¬ (x0 < (0 : Int32))) (hb0 : ¬ ((65535 : Int32) < x0)) (hG : own_G Z) :
    own_M l Z h0 (⟨"java/lang/String", "<init>", "([CIILjava/lang/Void;)V"⟩ : MethodName) jdk_42_method_149_code 6 none ws ({ frames := 4, cells := 2, slots := 3, locals := 57 } : Room) #[(.ref a), (.ref ch), (.int (0 : Int32)), (.int (1 : Int32)), .null] (QS1 Z a x0 h0 n0) := by
  refine own_start (plainFor_of_name pn_18) ?_
  intro pg ee s mm below meth cc s₁ Bd hZ hh hx hby hml hown0 hnm X0 e0
  have hown : s.vm.findClass "java/lang/String" = some mm.cls := hown0
  have N0 := Fr.nil n0
  have K0 : Keep h0 h0 ([a] : List Addr) := Keep.refl _ _
  have pre0 := fun tg_ => castTop (tb := pg.tables) (e := ee) (below := below) (T := s₁) (t := tg_) (ef_3_484 mm a ch (0 : Int32) (1 : Int32))
  obtain ⟨T1, X1, e1, st1⟩ := initO X0 hx hZ hown (own_h hw 15 rfl) (own_h hw 16 rfl) (own_h hw 17 rfl) e0 (g := (mkF mm 1 #[.val (.ref a), .val (.ref ch), .val (.int (0 : Int32)), .val (.int (1 : Int32)), .val .null, .unset] [(.ref a)])) rfl (by rw [hml]; rfl) rfl (hb hby d3_1) (by decide) (W := 0) (by show 2 * 0 + _ ≤ _; exact Nat.le_of_eq rfl) (by decide)
  obtain ⟨T2, X2, e2, st2⟩ := getS2 X1 hx hZ hown (host := "") (Or.inl (own_h hw 40 rfl)) Via.refl e1 (hC.1.ext O0.2) (g := (mkF mm 27 #[.val (.ref a), .val (.ref ch), .val (.int (0 : Int32)), .val (.int (1 : Int32)), .val .null, .unset] [])) rfl (hb hby d3_27)
  obtain ⟨_, _, ⟨T3, L3, k3, n3⟩, -, X3, ⟨Lc3, hQ3, l3, y3, z3⟩, st3⟩ := Jvm.LawKit.callS X2 hx hown (mvT hZ (own_h hw 46 rfl)) (mvT hZ (own_h hw 47 rfl)) (mvT hZ (own_h hw 48 rfl)) (mvT hZ (own_h hw 49 rfl)) (by decide) (backOf (W := 0) (rmCmU1 l Z a0 hw [] ch kc x0 h0 n0 O0 Vc hG hU ha0 hb0) hZ (own_h hw 49 rfl) (own_h hw 48 rfl) (by decide) (by decide)) (g := (mkF mm 36 #[.val (.ref a), .val (.ref ch), .val (.int (0 : Int32)), .val (.int (1 : Int32)), .val .null, .unset] [(.int (1 : Int32)), (.int (0 : Int32)), (.ref ch)])) rfl (by rw [hml]; rfl) (argsL := [(.ref ch), (.int (0 : Int32)), (.int (1 : Int32))]) (rest := []) (lenOf pd_445 rfl) rfl (Nat.le_of_eq rfl) (hb hby d3_36) (fun _ _ => ⟨rfl, e2, (by decide : 0 + 2 ≤ _), (by decide : 0 + 3 ≤ _)⟩)
  dsimp only [Pt.U, Pt.locs, Pt.cells, Pt.slots] at X3 l3 y3 z3 st3 hQ3
  subst l3 y3 z3
  obtain ⟨bb3, kb3, rfl, N3q, K3, g_bb3, sz_bb3, Vw3⟩ := hQ3
  have O3 := O0.keep K3 all0
  have KK3 := K0.trans K3 all0
  have N3 := Fr.app N0 N3q
  obtain ⟨_, _, ⟨T4, L4, k4, n4⟩, -, X4, ⟨Lc4, hQ4, l4, y4, z4⟩, st4⟩ := Jvm.LawKit.callS X3 hx hown (mvT hZ (own_h hw 53 rfl)) (mvT hZ (own_h hw 54 rfl)) (mvT hZ (own_h hw 48 rfl)) (mvT hZ (own_h hw 55 rfl)) (by decide) (backOf (W := 1) (rmCf1_1 l Z a0 hw [] bb3 kb3 [(own_u x0), (own_v x0)] T3.heap n0 O3 Vw3) hZ (own_h hw 55 rfl) (own_h hw 48 rfl) (by decide) (by decide)) (g := (mkF mm 45 #[.val (.ref a), .val (.ref ch), .val (.int (0 : Int32)), .val (.int (1 : Int32)), .val .null, .val (.ref bb3)] [(.int (1 : Int32)), (.ref bb3), (.ref a)])) rfl (by rw [hml]; rfl) (argsL := [(.ref bb3), (.int (1 : Int32))]) (rest := [(.ref a)]) (lenOf pd_478 rfl) rfl (Nat.le_of_eq rfl) (hb hby d3_45) (fun _ _ => ⟨rfl, rfl, (by decide : 2 + 0 ≤ _), (by decide : 3 + 0 ≤ _)⟩)
  dsimp only [Pt.U, Pt.locs, Pt.cells, Pt.slots] at X4 l4 y4 z4 st4 hQ4
  subst l4 y4 z4
  obtain ⟨rfl, N4q, e4⟩ := hQ4
  have N4 := Fr.app N3 N4q
  obtain ⟨T5, h5, X5, e5, W5, st5⟩ := putFN X4 hx hZ hown (own_h hw 25 rfl) Via.refl e4 (F_coder_a.keep K3 nin0) (E_a.keep K3) (Or.inr ⟨(own_h hw 21 rfl), rfl, hnm⟩) (own_h hw 6 rfl) (ty := .byte) (v' := (.int (1 : Int32))) (by decide) rfl (by decide) (g := (mkF mm 48 #[.val (.ref a), .val (.ref ch), .val (.int (0 : Int32)), .val (.int (1 : Int32)), .val .null, .val (.ref bb3)] [(.int (1 : Int32)), (.ref a)])) rfl rfl (hb hby d3_48)
  have Fw5 : Fld Z h5 a "java/lang/String" "coder" "B" (.int (1 : Int32)) := (F_coder_a.keep K3 nin0).same W5
  have N5 := Fr.snoc X5 N4 g_a
  have O5 := O3.wr W5 g_a
  have KK5 := KK3.wr W5 (Or.inl (by simp))
  obtain ⟨T6, h6, X6, e6, W6, st6⟩ := putF X5 hx hZ hown (host := "") (Or.inl (own_h hw 24 rfl)) Via.refl e5 ((F_value_a.keep K3 nin0).other W5 (Or.inr (slot_ne (Or.inr (own_h hw 20 rfl)) (Or.inr (own_h hw 21 rfl)) (by decide) (t := (.array .byte)) (t' := .byte) (by decide) (by decide)))) ((E_a.keep K3).wr W5) (Or.inr ⟨(own_h hw 20 rfl), rfl, hnm⟩) (own_h hw 6 rfl) (ty := (.array .byte)) (by decide) rfl rfl (g := (mkF mm 54 #[.val (.ref a), .val (.ref ch), .val (.int (0 : Int32)), .val (.int (1 : Int32)), .val .null, .val (.ref bb3)] [(.ref bb3), (.ref a)])) rfl rfl (hb hby d3_54)
  have Fw6 : Fld Z h6 a "java/lang/String" "value" "[B" (.ref bb3) := ((F_value_a.keep K3 nin0).other W5 (Or.inr (slot_ne (Or.inr (own_h hw 20 rfl)) (Or.inr (own_h hw 21 rfl)) (by decide) (t := (.array .byte)) (t' := .byte) (by decide) (by decide)))).same W6
  have N6 := Fr.snoc X6 N5 g_a
  have O6 := O5.wr W6 g_a
  have KK6 := KK5.wr W6 (Or.inl (by simp))
  refine own_end X6 (v := none) (fun _ => rfl) (by decide) (by decide) (fun fs hr => pre0 _ ?_) ?_
  · show Steps pg.tables ee below (s₁.setTop (mkF mm 0 #[.val (.ref a), .val (.ref ch), .val (.int (0 : Int32)), .val (.int (1 : Int32)), .val .null, .unset] [])) _
    refine XS.aloadN X0.here hx rfl (hb hby d3_0) rfl rfl ?_
    refine st1 _ ?_
    refine XS.iloadN X1.here hx rfl (hb hby d3_4) rfl ?_
    refine XS.ifYes X1.here hx rfl (pc0 := 5) (pc' := 27) rfl (hb hby d3_5) rfl ((if0 _ _).trans (feq (by decide : ¬ ((1 : Int32) = (0 : Int32)))).2) (by decide) (by decide) ?_
    refine st2 _ ?_
    refine XS.ifNo X2.here hx rfl (hb hby d3_30) rfl ((if0 _ _).trans (feq hC.2).1) ?_
    refine XS.aloadN X2.here hx rfl (hb hby d3_33) rfl rfl ?_
    refine XS.iloadN X2.here hx rfl (hb hby d3_34) rfl ?_
    show Steps pg.tables ee below (T2.setTop (mkF mm 35 #[.val (.ref a), .val (.ref ch), .val (.int (0 : Int32)), .val (.int (1 : Int32)), .val .null, .unset] [(.int (0 : Int32)), (.ref ch)])) _
    refine XS.iloadN X2.here hx rfl (hb hby d3_35) rfl ?_
    refine st3 _ ?_
    refine XS.astore X3.here hx rfl (hb hby d3_39) rfl rfl (l' := #[.val (.ref a), .val (.ref ch), .val (.int (0 : Int32)), .val (.int (1 : Int32)), .val .null, .val (.ref bb3)]) rfl ?_
    refine XS.aloadN X3.here hx rfl (hb hby d3_41) rfl rfl ?_
    refine XS.aload X3.here hx rfl (hb hby d3_42) rfl rfl ?_
    refine XS.iloadN X3.here hx rfl (hb hby d3_44) rfl ?_
    refine st4 _ ?_
    refine st5 _ ?_
    show Steps pg.tables ee below (T5.setTop (mkF mm 51 #[.val (.ref a), .val (.ref ch), .val (.int (0 : Int32)), .val (.int (1 : Int32)), .val .null, .val (.ref bb3)] [])) _
    refine XS.aloadN X5.here hx rfl (hb hby d3_51) rfl rfl ?_
    refine XS.aload X5.here hx rfl (hb hby d3_52) rfl rfl ?_
    refine st6 _ ?_
    exact X6.returnOut hx Bd.returns (hb hby d3_57) hr
  · show QS1 Z a x0 h0 n0 _ T6.heap _
    rw [e6]
    exact ⟨rfl, N6, KK6, (((E_a.keep K3).wr W5).wr W6), _, _, Fw6, Or.inr ⟨(Fw5.other W6 (Or.inr (slot_ne (Or.inr (own_h hw 21 rfl)) (Or.inr (own_h hw 20 rfl)) (by decide) (t := .byte) (t' := (.array .byte)) (by decide) (by decide)))), ((Vw3.other W5 (Ne.symm (Nat.ne_of_lt (Nat.lt_of_lt_of_le E_a.lt sz_bb3)))).other W6 (Ne.symm (Nat.ne_of_lt (Nat.lt_of_lt_of_le E_a.lt sz_bb3))))⟩⟩
set_option maxRecDepth 65536 in
theorem rmV1 (l : Launch) (Z : State) (a0 : Array Value) (hw : ∀ d ∈ tables_1, d.before a0 Z = true) (ws : List Jvm.Cond) (a : Addr) (ch : Addr) (kc : ClassId) (x0 : Int32) (cs : Int32) (h0 : Heap) (n0 : Nat) (O0 : Old Z n0 h0) (E_a : Exa Z h0 a "java/lang/String") (F_value_a : Fld Z h0 a "java/lang/String" "value" "[B" .null) (F_coder_a : Fld Z h0 a "java/lang/String" "coder" "B" (.int (0 : Int32))) (g_a : n0 ≤ a) (Vc : Arv Z h0 ch kc .char (1 : Int32) [(.int x0)] (.int (0 : Int32))) (hca : ch ≠ a) (hC : own_C Z cs) (ha0 : ¬ (x0 < (0 : Int32))) (hb0 : ¬ ((65535 : Int32) < x0)) (hG : own_G Z) :
    own_M l Z h0 (⟨"java/lang/String", "<init>", "([CIILjava/lang/Void;)V"⟩ : MethodName) jdk_42_method_149_code 6 none ws ({ frames := 4, cells := 2, slots := 3, locals := 57 } : Room) #[(.ref a), (.ref ch), (.int (0 : Int32)), (.int (1 : Int32)), .null] (QS1 Z a x0 h0 n0) := by
  by_cases hl0 : (255 : Int32) < x0
  · exact rmV1_1 l Z a0 hw ws a ch kc x0 cs h0 n0 O0 E_a F_value_a F_coder_a g_a Vc hca hC (hl0) ha0 hb0 hG
  exact rmV1_0 l Z a0 hw ws a ch kc x0 cs h0 n0 O0 E_a F_value_a F_coder_a g_a Vc hca hC hl0
theorem d2_0 : decode jdk_42_method_3_code 0 = .ok (.aload_n 0, 1) := by decide +kernel
theorem d2_1 : decode jdk_42_method_3_code 1 = .ok (.aload_n 1, 1) := by decide +kernel
theorem d2_2 : decode jdk_42_method_3_code 2 = .ok (.iconst 0, 1) := by decide +kernel
theorem d2_3 : decode jdk_42_method_3_code 3 = .ok (.aload_n 1, 1) := by decide +kernel
theorem d2_4 : decode jdk_42_method_3_code 4 = .ok (.arraylength, 1) := by decide +kernel
theorem d2_5 : decode jdk_42_method_3_code 5 = .ok (.aconst_null, 1) := by decide +kernel
theorem d2_6 : decode jdk_42_method_3_code 6 = .ok (.invokespecial 27, 3) := by decide +kernel
theorem pd_492 : parseMethodDescriptor "([CIILjava/lang/Void;)V" = some ⟨[(.array .char), .int, .int, (.object "java/lang/Void")], none⟩ := by decide +kernel
theorem d2_9 : decode jdk_42_method_3_code 9 = .ok (.return_, 1) := by decide +kernel
theorem ef_2_494 (m : MethodId) (x0 : Addr) (x1 : Addr) : entryFrame m #[(.ref x0), (.ref x1)] 2 = mkF m 0 #[.val (.ref x0), .val (.ref x1)] [] := by first | (simp [entryFrame, mkF, argsToLocals, Value.category]; done) | rfl
set_option maxRecDepth 65536 in
set_option maxHeartbeats 40000000 in
theorem rmC1 (l : Launch) (Z : State) (a0 : Array Value) (hw : ∀ d ∈ tables_1, d.before a0 Z = true) (ws : List Jvm.Cond) (a : Addr) (ch : Addr) (kc : ClassId) (x0 : Int32) (cs : Int32) (h0 : Heap) (n0 : Nat) (O0 : Old Z n0 h0) (E_a : Exa Z h0 a "java/lang/String") (F_value_a : Fld Z h0 a "java/lang/String" "value" "[B" .null) (F_coder_a : Fld Z h0 a "java/lang/String" "coder" "B" (.int (0 : Int32))) (g_a : n0 ≤ a) (Vc : Arv Z h0 ch kc .char (1 : Int32) [(.int x0)] (.int (0 : Int32))) (hca : ch ≠ a) (hC : own_C Z cs) (ha0 : ¬ (x0 < (0 : Int32))) (hb0 : ¬ ((65535 : Int32) < x0)) (hG : own_G Z) :
    own_M l Z h0 (⟨"java/lang/String", "<init>", "([C)V"⟩ : MethodName) jdk_42_method_3_code 2 none ws ({ frames := 5, cells := 2, slots := 3, locals := 74 } : Room) #[(.ref a), (.ref ch)] (QS1 Z a x0 h0 n0) := by
  refine own_start (plainFor_of_name pn_18) ?_
  intro pg ee s mm below meth cc s₁ Bd hZ hh hx hby hml hown0 hnm X0 e0
  have hown : s.vm.findClass "java/lang/String" = some mm.cls := hown0
  have N0 := Fr.nil n0
  have K0 : Keep h0 h0 ([a] : List Addr) := Keep.refl _ _
  have pre0 := fun tg_ => castTop (tb := pg.tables) (e := ee) (below := below) (T := s₁) (t := tg_) (ef_2_494 mm a ch)
  obtain ⟨cl1, Ar1, qk1, Sz1, Nn1, Hh1, Gg1⟩ := id Vc
  obtain ⟨_, _, ⟨T2, L2, k2, n2⟩, -, X2, ⟨Lc2, hQ2, l2, y2, z2⟩, st2⟩ := X0.specialBack hx rfl hown (mvT hZ (own_h hw 11 rfl)) (mvT hZ (own_h hw 12 rfl)) (mvT hZ (own_h hw 14 rfl)) (by decide) (backOf (W := 0) (rmV1 l Z a0 hw [] a ch kc x0 cs h0 n0 O0 E_a F_value_a F_coder_a g_a Vc hca hC ha0 hb0 hG) hZ (own_h hw 14 rfl) (own_h hw 7 rfl) (by decide) (by decide)) (g := (mkF mm 6 #[.val (.ref a), .val (.ref ch)] [.null, (.int (1 : Int32)), (.int (0 : Int32)), (.ref ch), (.ref a)])) rfl (by rw [hml]; rfl) (Steps.refl _) (a := a) (argsL := [(.ref ch), (.int (0 : Int32)), (.int (1 : Int32)), .null]) (rest := []) (lenOf pd_492 rfl) rfl (Nat.le_of_eq rfl) (hb hby d2_6) (fun _ _ => ⟨rfl, e0, (by decide : 0 + 2 ≤ _), (by decide : 0 + 3 ≤ _)⟩)
  dsimp only [Pt.U, Pt.locs, Pt.cells, Pt.slots] at X2 l2 y2 z2 st2 hQ2
  subst l2 y2 z2
  obtain ⟨rfl, N2q, K2, Sp2⟩ := hQ2
  have O2 := O0.keep K2 (allS g_a all0)
  have KK2 := K0.trans K2 (allS (Or.inl (by simp)) all0)
  have N2 := Fr.app N0 N2q
  refine own_end X2 (v := none) (fun _ => rfl) (by decide) (by decide) (fun fs hr => pre0 _ ?_) ?_
  · show Steps pg.tables ee below (s₁.setTop (mkF mm 0 #[.val (.ref a), .val (.ref ch)] [])) _
    refine XS.aloadN X0.here hx rfl (hb hby d2_0) rfl rfl ?_
    refine XS.aloadN X0.here hx rfl (hb hby d2_1) rfl rfl ?_
    refine XS.iconst X0.here hx rfl (hb hby d2_2) ?_
    refine XS.aloadN X0.here hx rfl (hb hby d2_3) rfl rfl ?_
    refine X0.arraylength hx (by rw [e0]; exact Ar1.1) (State.isArrayOf_alike hZ.alike Ar1.2.1) (g := (mkF mm 4 #[.val (.ref a), .val (.ref ch)] [(.ref ch), (.int (0 : Int32)), (.ref ch), (.ref a)])) rfl rfl (hb hby d2_4) _ ?_
    rw [len_of Sz1 Nn1]
    refine XS.aconstNull X0.here hx rfl (hb hby d2_5) ?_
    refine st2.trans ?_
    exact X2.returnOut hx Bd.returns (hb hby d2_9) hr
  · show QS1 Z a x0 h0 n0 _ T2.heap _
    exact ⟨rfl, N2, KK2, Sp2⟩
def QrmIn2_0 (Z : State) (ch : Addr) (kc : ClassId) (x0 : Int32) (x1 : Int32) (bb : Addr) (kb : ClassId) (h0 : Heap) (n0 : Nat) (v : Option Value) (h : Heap) (L : List Loc) : Prop := v = some (.int (0 : Int32)) ∧ Fr n0 L ∧ Keep h0 h [bb]
set_option maxRecDepth 65536 in
set_option maxHeartbeats 40000000 in
theorem rmIn2_0 (l : Launch) (Z : State) (a0 : Array Value) (hw : ∀ d ∈ tables_1, d.before a0 Z = true) (ws : List Jvm.Cond) (ch : Addr) (kc : ClassId) (x0 : Int32) (x1 : Int32) (bb : Addr) (kb : ClassId) (h0 : Heap) (n0 : Nat) (O0 : Old Z n0 h0) (Vc : Arv Z h0 ch kc .char (2 : Int32) [(.int x0), (.int x1)] (.int (0 : Int32))) (Vb : Arv Z h0 bb kb .byte (2 : Int32) [(.int (0 : Int32)), (.int (0 : Int32))] (.int (0 : Int32))) (g_bb : n0 ≤ bb) (hne : ch ≠ bb) (hl0 : (255 : Int32) < x0) :
    own_M l Z h0 (⟨"java/lang/StringUTF16", "compress", "([CI[BII)I"⟩ : MethodName) jdk_52_method_21_code 7 (some .int) ws ({ frames := 0, cells := 0, slots := 0, locals := 0 } : Room) #[(.ref ch), (.int (0 : Int32)), (.ref bb), (.int (0 : Int32)), (.int (2 : Int32))] (QrmIn2_0 Z ch kc x0 x1 bb kb h0 n0) := by
  refine own_start (plainFor_of_name pn_26) ?_
  intro pg ee s mm below meth cc s₁ Bd hZ hh hx hby hml hown0 hnm X0 e0
  have hown : s.vm.findClass "java/lang/StringUTF16" = some mm.cls := hown0
  have N0 := Fr.nil n0
  have K0 : Keep h0 h0 ([bb] : List Addr) := Keep.refl _ _
  have pre0 := fun tg_ => castTop (tb := pg.tables) (e := ee) (below := below) (T := s₁) (t := tg_) (ef_10_351 mm ch (0 : Int32) bb (0 : Int32) (2 : Int32))
  obtain ⟨cl1, Ar1, qk1, Sz1, Nn1, Hh1, Gg1⟩ := id Vc
  have hin1 : ¬ ((0 : Int32) < 0 ∨ cl1.slots.size ≤ ((0 : Int32)).toNatClampNeg) := inb_of Sz1 ⟨by decide, by decide⟩
  refine own_end X0 (v := some (.int (0 : Int32))) (fun h => by rw [Bd.returns] at h; cases h) (by decide) (by decide) (fun fs hr => pre0 _ ?_) ?_
  · show Steps pg.tables ee below (s₁.setTop (mkF mm 0 #[.val (.ref ch), .val (.int (0 : Int32)), .val (.ref bb), .val (.int (0 : Int32)), .val (.int (2 : Int32)), .unset, .unset] [])) _
    refine XS.iconst X0.here hx rfl (hb hby d10_0) ?_
    refine XS.istore X0.here hx rfl (hb hby d10_1) rfl (l' := #[.val (.ref ch), .val (.int (0 : Int32)), .val (.ref bb), .val (.int (0 : Int32)), .val (.int (2 : Int32)), .val (.int (0 : Int32)), .unset]) rfl ?_
    refine XS.iload X0.here hx rfl (hb hby d10_3) rfl ?_
    refine XS.iload X0.here hx rfl (hb hby d10_5) rfl ?_
    refine XS.icmpNo X0.here hx rfl (hb hby d10_7) rfl (tlt (by decide : (0 : Int32) < (2 : Int32))).2.1 ?_
    refine XS.aloadN X0.here hx rfl (hb hby d10_10) rfl rfl ?_
    refine XS.iloadN X0.here hx rfl (hb hby d10_11) rfl ?_
    refine X0.caload hx (j := (0 : Int32)) (v := (.int x0)) (by rw [e0]; exact Ar1.1) (State.isArrayOf_alike hZ.alike Ar1.2.1) Ar1.2.2 hin1 (Has.at Hh1 hin1 rfl) (g := (mkF mm 12 #[.val (.ref ch), .val (.int (0 : Int32)), .val (.ref bb), .val (.int (0 : Int32)), .val (.int (2 : Int32)), .val (.int (0 : Int32)), .unset] [(.int (0 : Int32)), (.ref ch)])) rfl rfl (hb hby d10_12) _ ?_
    show Steps pg.tables ee below (s₁.setTop (mkF mm 13 #[.val (.ref ch), .val (.int (0 : Int32)), .val (.ref bb), .val (.int (0 : Int32)), .val (.int (2 : Int32)), .val (.int (0 : Int32)), .unset] [(.int x0)])) _
    refine XS.istore X0.here hx rfl (hb hby d10_13) rfl (l' := #[.val (.ref ch), .val (.int (0 : Int32)), .val (.ref bb), .val (.int (0 : Int32)), .val (.int (2 : Int32)), .val (.int (0 : Int32)), .val (.int x0)]) rfl ?_
    refine XS.iload X0.here hx rfl (hb hby d10_15) rfl ?_
    refine XS.sipush X0.here hx rfl (hb hby d10_17) ?_
    refine XS.icmpNo X0.here hx rfl (hb hby d10_20) rfl (tlt hl0).2.2.2 ?_
    refine XS.iload X0.here hx rfl (hb hby d10_23) rfl ?_
    exact retOut X0 hx Bd.returns rfl (Or.inl ⟨rfl, Or.inl rfl, _, rfl⟩) (hb hby d10_25) hr
  · show QrmIn2_0 Z ch kc x0 x1 bb kb h0 n0 _ s₁.heap _
    rw [e0]
    exact ⟨rfl, N0, K0⟩
def QrmIn2_1 (Z : State) (ch : Addr) (kc : ClassId) (x0 : Int32) (x1 : Int32) (bb : Addr) (kb : ClassId) (h0 : Heap) (n0 : Nat) (v : Option Value) (h : Heap) (L : List Loc) : Prop := v = some (.int (1 : Int32)) ∧ Fr n0 L ∧ Keep h0 h [bb]
set_option maxRecDepth 65536 in
set_option maxHeartbeats 40000000 in
theorem rmIn2_1 (l : Launch) (Z : State) (a0 : Array Value) (hw : ∀ d ∈ tables_1, d.before a0 Z = true) (ws : List Jvm.Cond) (ch : Addr) (kc : ClassId) (x0 : Int32) (x1 : Int32) (bb : Addr) (kb : ClassId) (h0 : Heap) (n0 : Nat) (O0 : Old Z n0 h0) (Vc : Arv Z h0 ch kc .char (2 : Int32) [(.int x0), (.int x1)] (.int (0 : Int32))) (Vb : Arv Z h0 bb kb .byte (2 : Int32) [(.int (0 : Int32)), (.int (0 : Int32))] (.int (0 : Int32))) (g_bb : n0 ≤ bb) (hne : ch ≠ bb) (hl0 : ¬ ((255 : Int32) < x0)) (hl1 : (255 : Int32) < x1) :
    own_M l Z h0 (⟨"java/lang/StringUTF16", "compress", "([CI[BII)I"⟩ : MethodName) jdk_52_method_21_code 7 (some .int) ws ({ frames := 0, cells := 0, slots := 0, locals := 0 } : Room) #[(.ref ch), (.int (0 : Int32)), (.ref bb), (.int (0 : Int32)), (.int (2 : Int32))] (QrmIn2_1 Z ch kc x0 x1 bb kb h0 n0) := by
  refine own_start (plainFor_of_name pn_26) ?_
  intro pg ee s mm below meth cc s₁ Bd hZ hh hx hby hml hown0 hnm X0 e0
  have hown : s.vm.findClass "java/lang/StringUTF16" = some mm.cls := hown0
  have N0 := Fr.nil n0
  have K0 : Keep h0 h0 ([bb] : List Addr) := Keep.refl _ _
  have pre0 := fun tg_ => castTop (tb := pg.tables) (e := ee) (below := below) (T := s₁) (t := tg_) (ef_10_351 mm ch (0 : Int32) bb (0 : Int32) (2 : Int32))
  obtain ⟨cl1, Ar1, qk1, Sz1, Nn1, Hh1, Gg1⟩ := id Vc
  have hin1 : ¬ ((0 : Int32) < 0 ∨ cl1.slots.size ≤ ((0 : Int32)).toNatClampNeg) := inb_of Sz1 ⟨by decide, by decide⟩
  obtain ⟨cl2, Ar2, qk2, Sz2, Nn2, Hh2, Gg2⟩ := id Vb
  have hin2 : ¬ ((0 : Int32) < 0 ∨ cl2.slots.size ≤ ((0 : Int32)).toNatClampNeg) := inb_of Sz2 ⟨by decide, by decide⟩
  obtain ⟨T3, h3, X3, e3, W3, st3⟩ := stB X0 hx hZ e0 Ar2 (j := (0 : Int32)) hin2 (g := (mkF mm 31 #[.val (.ref ch), .val (.int (0 : Int32)), .val (.ref bb), .val (.int (0 : Int32)), .val (.int (2 : Int32)), .val (.int (0 : Int32)), .val (.int x0)] [(.int (x0.toInt8.toInt32)), (.int (0 : Int32)), (.ref bb)])) rfl rfl (hb hby d10_31)
  have V3 : Arv Z h3 bb kb .byte (2 : Int32) [(own_l x0), (.int (0 : Int32))] (.int (0 : Int32)) := Arv.set Ar2 qk2 Sz2 Nn2 Hh2 Gg2 (fits_nar_byte _) W3 0 rfl (Nat.le_of_ble_eq_true rfl)
  have N3 := Fr.snoc X3 N0 g_bb
  have O3 := O0.wr W3 g_bb
  have KK3 := K0.wr W3 (Or.inl (by simp))
  obtain ⟨cl4, Ar4, qk4, Sz4, Nn4, Hh4, Gg4⟩ := id (Vc.other W3 hne)
  have hin4 : ¬ ((1 : Int32) < 0 ∨ cl4.slots.size ≤ ((1 : Int32)).toNatClampNeg) := inb_of Sz4 ⟨by decide, by decide⟩
  refine own_end X3 (v := some (.int (1 : Int32))) (fun h => by rw [Bd.returns] at h; cases h) (by decide) (by decide) (fun fs hr => pre0 _ ?_) ?_
  · show Steps pg.tables ee below (s₁.setTop (mkF mm 0 #[.val (.ref ch), .val (.int (0 : Int32)), .val (.ref bb), .val (.int (0 : Int32)), .val (.int (2 : Int32)), .unset, .unset] [])) _
    refine XS.iconst X0.here hx rfl (hb hby d10_0) ?_
    refine XS.istore X0.here hx rfl (hb hby d10_1) rfl (l' := #[.val (.ref ch), .val (.int (0 : Int32)), .val (.ref bb), .val (.int (0 : Int32)), .val (.int (2 : Int32)), .val (.int (0 : Int32)), .unset]) rfl ?_
    refine XS.iload X0.here hx rfl (hb hby d10_3) rfl ?_
    refine XS.iload X0.here hx rfl (hb hby d10_5) rfl ?_
    refine XS.icmpNo X0.here hx rfl (hb hby d10_7) rfl (tlt (by decide : (0 : Int32) < (2 : Int32))).2.1 ?_
    refine XS.aloadN X0.here hx rfl (hb hby d10_10) rfl rfl ?_
    refine XS.iloadN X0.here hx rfl (hb hby d10_11) rfl ?_
    refine X0.caload hx (j := (0 : Int32)) (v := (.int x0)) (by rw [e0]; exact Ar1.1) (State.isArrayOf_alike hZ.alike Ar1.2.1) Ar1.2.2 hin1 (Has.at Hh1 hin1 rfl) (g := (mkF mm 12 #[.val (.ref ch), .val (.int (0 : Int32)), .val (.ref bb), .val (.int (0 : Int32)), .val (.int (2 : Int32)), .val (.int (0 : Int32)), .unset] [(.int (0 : Int32)), (.ref ch)])) rfl rfl (hb hby d10_12) _ ?_
    show Steps pg.tables ee below (s₁.setTop (mkF mm 13 #[.val (.ref ch), .val (.int (0 : Int32)), .val (.ref bb), .val (.int (0 : Int32)), .val (.int (2 : Int32)), .val (.int (0 : Int32)), .unset] [(.int x0)])) _
    refine XS.istore X0.here hx rfl (hb hby d10_13) rfl (l' := #[.val (.ref ch), .val (.int (0 : Int32)), .val (.ref bb), .val (.int (0 : Int32)), .val (.int (2 : Int32)), .val (.int (0 : Int32)), .val (.int x0)]) rfl ?_
    refine XS.iload X0.here hx rfl (hb hby d10_15) rfl ?_
    refine XS.sipush X0.here hx rfl (hb hby d10_17) ?_
    refine XS.icmpYes X0.here hx rfl (pc0 := 20) (pc' := 26) rfl (hb hby d10_20) rfl (flt hl0).2.2.2 (by decide) (by decide) ?_
    refine XS.aloadN X0.here hx rfl (hb hby d10_26) rfl rfl ?_
    refine XS.iloadN X0.here hx rfl (hb hby d10_27) rfl ?_
    refine XS.iload X0.here hx rfl (hb hby d10_28) rfl ?_
    refine XS.i2b X0.here hx rfl (hb hby d10_30) rfl ?_
    show Steps pg.tables ee below (s₁.setTop (mkF mm 31 #[.val (.ref ch), .val (.int (0 : Int32)), .val (.ref bb), .val (.int (0 : Int32)), .val (.int (2 : Int32)), .val (.int (0 : Int32)), .val (.int x0)] [(.int (x0.toInt8.toInt32)), (.int (0 : Int32)), (.ref bb)])) _
    refine st3 _ ?_
    refine XS.iinc X3.here hx rfl (hb hby d10_32) rfl (l' := #[.val (.ref ch), .val (.int (1 : Int32)), .val (.ref bb), .val (.int (0 : Int32)), .val (.int (2 : Int32)), .val (.int (0 : Int32)), .val (.int x0)]) rfl ?_
    refine XS.iinc X3.here hx rfl (hb hby d10_35) rfl (l' := #[.val (.ref ch), .val (.int (1 : Int32)), .val (.ref bb), .val (.int (1 : Int32)), .val (.int (2 : Int32)), .val (.int (0 : Int32)), .val (.int x0)]) rfl ?_
    refine XS.iinc X3.here hx rfl (hb hby d10_38) rfl (l' := #[.val (.ref ch), .val (.int (1 : Int32)), .val (.ref bb), .val (.int (1 : Int32)), .val (.int (2 : Int32)), .val (.int (1 : Int32)), .val (.int x0)]) rfl ?_
    refine XS.goto X3.here hx rfl (pc0 := 41) (pc' := 3) rfl (hb hby d10_41) (by decide) (by decide) ?_
    refine XS.iload X3.here hx rfl (hb hby d10_3) rfl ?_
    refine XS.iload X3.here hx rfl (hb hby d10_5) rfl ?_
    refine XS.icmpNo X3.here hx rfl (hb hby d10_7) rfl (tlt (by decide : (1 : Int32) < (2 : Int32))).2.1 ?_
    show Steps pg.tables ee below (T3.setTop (mkF mm 10 #[.val (.ref ch), .val (.int (1 : Int32)), .val (.ref bb), .val (.int (1 : Int32)), .val (.int (2 : Int32)), .val (.int (1 : Int32)), .val (.int x0)] [])) _
    refine XS.aloadN X3.here hx rfl (hb hby d10_10) rfl rfl ?_
    refine XS.iloadN X3.here hx rfl (hb hby d10_11) rfl ?_
    refine X3.caload hx (j := (1 : Int32)) (v := (.int x1)) (by rw [e3]; exact Ar4.1) (State.isArrayOf_alike hZ.alike Ar4.2.1) Ar4.2.2 hin4 (Has.at Hh4 hin4 rfl) (g := (mkF mm 12 #[.val (.ref ch), .val (.int (1 : Int32)), .val (.ref bb), .val (.int (1 : Int32)), .val (.int (2 : Int32)), .val (.int (1 : Int32)), .val (.int x0)] [(.int (1 : Int32)), (.ref ch)])) rfl rfl (hb hby d10_12) _ ?_
    refine XS.istore X3.here hx rfl (hb hby d10_13) rfl (l' := #[.val (.ref ch), .val (.int (1 : Int32)), .val (.ref bb), .val (.int (1 : Int32)), .val (.int (2 : Int32)), .val (.int (1 : Int32)), .val (.int x1)]) rfl ?_
    refine XS.iload X3.here hx rfl (hb hby d10_15) rfl ?_
    refine XS.sipush X3.here hx rfl (hb hby d10_17) ?_
    refine XS.icmpNo X3.here hx rfl (hb hby d10_20) rfl (tlt hl1).2.2.2 ?_
    refine XS.iload X3.here hx rfl (hb hby d10_23) rfl ?_
    show Steps pg.tables ee below (T3.setTop (mkF mm 25 #[.val (.ref ch), .val (.int (1 : Int32)), .val (.ref bb), .val (.int (1 : Int32)), .val (.int (2 : Int32)), .val (.int (1 : Int32)), .val (.int x1)] [(.int (1 : Int32))])) _
    exact retOut X3 hx Bd.returns rfl (Or.inl ⟨rfl, Or.inl rfl, _, rfl⟩) (hb hby d10_25) hr
  · show QrmIn2_1 Z ch kc x0 x1 bb kb h0 n0 _ T3.heap _
    rw [e3]
    exact ⟨rfl, N3, KK3⟩
def QrmIn2_2 (Z : State) (ch : Addr) (kc : ClassId) (x0 : Int32) (x1 : Int32) (bb : Addr) (kb : ClassId) (h0 : Heap) (n0 : Nat) (v : Option Value) (h : Heap) (L : List Loc) : Prop := v = some (.int (2 : Int32)) ∧ Fr n0 L ∧ Keep h0 h [bb] ∧ Arv Z h bb kb .byte (2 : Int32) [(own_l x0), (own_l x1)] (.int (0 : Int32))
set_option maxRecDepth 65536 in
set_option maxHeartbeats 40000000 in
theorem rmIn2_2 (l : Launch) (Z : State) (a0 : Array Value) (hw : ∀ d ∈ tables_1, d.before a0 Z = true) (ws : List Jvm.Cond) (ch : Addr) (kc : ClassId) (x0 : Int32) (x1 : Int32) (bb : Addr) (kb : ClassId) (h0 : Heap) (n0 : Nat) (O0 : Old Z n0 h0) (Vc : Arv Z h0 ch kc .char (2 : Int32) [(.int x0), (.int x1)] (.int (0 : Int32))) (Vb : Arv Z h0 bb kb .byte (2 : Int32) [(.int (0 : Int32)), (.int (0 : Int32))] (.int (0 : Int32))) (g_bb : n0 ≤ bb) (hne : ch ≠ bb) (hl0 : ¬ ((255 : Int32) < x0)) (hl1 : ¬ ((255 : Int32) < x1)) :
    own_M l Z h0 (⟨"java/lang/StringUTF16", "compress", "([CI[BII)I"⟩ : MethodName) jdk_52_method_21_code 7 (some .int) ws ({ frames := 0, cells := 0, slots := 0, locals := 0 } : Room) #[(.ref ch), (.int (0 : Int32)), (.ref bb), (.int (0 : Int32)), (.int (2 : Int32))] (QrmIn2_2 Z ch kc x0 x1 bb kb h0 n0) := by
  refine own_start (plainFor_of_name pn_26) ?_
  intro pg ee s mm below meth cc s₁ Bd hZ hh hx hby hml hown0 hnm X0 e0
  have hown : s.vm.findClass "java/lang/StringUTF16" = some mm.cls := hown0
  have N0 := Fr.nil n0
  have K0 : Keep h0 h0 ([bb] : List Addr) := Keep.refl _ _
  have pre0 := fun tg_ => castTop (tb := pg.tables) (e := ee) (below := below) (T := s₁) (t := tg_) (ef_10_351 mm ch (0 : Int32) bb (0 : Int32) (2 : Int32))
  obtain ⟨cl1, Ar1, qk1, Sz1, Nn1, Hh1, Gg1⟩ := id Vc
  have hin1 : ¬ ((0 : Int32) < 0 ∨ cl1.slots.size ≤ ((0 : Int32)).toNatClampNeg) := inb_of Sz1 ⟨by decide, by decide⟩
  obtain ⟨cl2, Ar2, qk2, Sz2, Nn2, Hh2, Gg2⟩ := id Vb
  have hin2 : ¬ ((0 : Int32) < 0 ∨ cl2.slots.size ≤ ((0 : Int32)).toNatClampNeg) := inb_of Sz2 ⟨by decide, by decide⟩
  obtain ⟨T3, h3, X3, e3, W3, st3⟩ := stB X0 hx hZ e0 Ar2 (j := (0 : Int32)) hin2 (g := (mkF mm 31 #[.val (.ref ch), .val (.int (0 : Int32)), .val (.ref bb), .val (.int (0 : Int32)), .val (.int (2 : Int32)), .val (.int (0 : Int32)), .val (.int x0)] [(.int (x0.toInt8.toInt32)), (.int (0 : Int32)), (.ref bb)])) rfl rfl (hb hby d10_31)
  have V3 : Arv Z h3 bb kb .byte (2 : Int32) [(own_l x0), (.int (0 : Int32))] (.int (0 : Int32)) := Arv.set Ar2 qk2 Sz2 Nn2 Hh2 Gg2 (fits_nar_byte _) W3 0 rfl (Nat.le_of_ble_eq_true rfl)
  have N3 := Fr.snoc X3 N0 g_bb
  have O3 := O0.wr W3 g_bb
  have KK3 := K0.wr W3 (Or.inl (by simp))
  obtain ⟨cl4, Ar4, qk4, Sz4, Nn4, Hh4, Gg4⟩ := id (Vc.other W3 hne)
  have hin4 : ¬ ((1 : Int32) < 0 ∨ cl4.slots.size ≤ ((1 : Int32)).toNatClampNeg) := inb_of Sz4 ⟨by decide, by decide⟩
  obtain ⟨cl5, Ar5, qk5, Sz5, Nn5, Hh5, Gg5⟩ := id V3
  have hin5 : ¬ ((1 : Int32) < 0 ∨ cl5.slots.size ≤ ((1 : Int32)).toNatClampNeg) := inb_of Sz5 ⟨by decide, by decide⟩
  obtain ⟨T6, h6, X6, e6, W6, st6⟩ := stB X3 hx hZ e3 Ar5 (j := (1 : Int32)) hin5 (g := (mkF mm 31 #[.val (.ref ch), .val (.int (1 : Int32)), .val (.ref bb), .val (.int (1 : Int32)), .val (.int (2 : Int32)), .val (.int (1 : Int32)), .val (.int x1)] [(.int (x1.toInt8.toInt32)), (.int (1 : Int32)), (.ref bb)])) rfl rfl (hb hby d10_31)
  have V6 : Arv Z h6 bb kb .byte (2 : Int32) [(own_l x0), (own_l x1)] (.int (0 : Int32)) := Arv.set Ar5 qk5 Sz5 Nn5 Hh5 Gg5 (fits_nar_byte _) W6 1 rfl (Nat.le_of_ble_eq_true rfl)
  have N6 := Fr.snoc X6 N3 g_bb
  have O6 := O3.wr W6 g_bb
  have KK6 := KK3.wr W6 (Or.inl (by simp))
  refine own_end X6 (v := some (.int (2 : Int32))) (fun h => by rw [Bd.returns] at h; cases h) (by decide) (by decide) (fun fs hr => pre0 _ ?_) ?_
  · show Steps pg.tables ee below (s₁.setTop (mkF mm 0 #[.val (.ref ch), .val (.int (0 : Int32)), .val (.ref bb), .val (.int (0 : Int32)), .val (.int (2 : Int32)), .unset, .unset] [])) _
    refine XS.iconst X0.here hx rfl (hb hby d10_0) ?_
    refine XS.istore X0.here hx rfl (hb hby d10_1) rfl (l' := #[.val (.ref ch), .val (.int (0 : Int32)), .val (.ref bb), .val (.int (0 : Int32)), .val (.int (2 : Int32)), .val (.int (0 : Int32)), .unset]) rfl ?_
    refine XS.iload X0.here hx rfl (hb hby d10_3) rfl ?_
    refine XS.iload X0.here hx rfl (hb hby d10_5) rfl ?_
    refine XS.icmpNo X0.here hx rfl (hb hby d10_7) rfl (tlt (by decide : (0 : Int32) < (2 : Int32))).2.1 ?_
    refine XS.aloadN X0.here hx rfl (hb hby d10_10) rfl rfl ?_
    refine XS.iloadN X0.here hx rfl (hb hby d10_11) rfl ?_
    refine X0.caload hx (j := (0 : Int32)) (v := (.int x0)) (by rw [e0]; exact Ar1.1) (State.isArrayOf_alike hZ.alike Ar1.2.1) Ar1.2.2 hin1 (Has.at Hh1 hin1 rfl) (g := (mkF mm 12 #[.val (.ref ch), .val (.int (0 : Int32)), .val (.ref bb), .val (.int (0 : Int32)), .val (.int (2 : Int32)), .val (.int (0 : Int32)), .unset] [(.int (0 : Int32)), (.ref ch)])) rfl rfl (hb hby d10_12) _ ?_
    show Steps pg.tables ee below (s₁.setTop (mkF mm 13 #[.val (.ref ch), .val (.int (0 : Int32)), .val (.ref bb), .val (.int (0 : Int32)), .val (.int (2 : Int32)), .val (.int (0 : Int32)), .unset] [(.int x0)])) _
    refine XS.istore X0.here hx rfl (hb hby d10_13) rfl (l' := #[.val (.ref ch), .val (.int (0 : Int32)), .val (.ref bb), .val (.int (0 : Int32)), .val (.int (2 : Int32)), .val (.int (0 : Int32)), .val (.int x0)]) rfl ?_
    refine XS.iload X0.here hx rfl (hb hby d10_15) rfl ?_
    refine XS.sipush X0.here hx rfl (hb hby d10_17) ?_
    refine XS.icmpYes X0.here hx rfl (pc0 := 20) (pc' := 26) rfl (hb hby d10_20) rfl (flt hl0).2.2.2 (by decide) (by decide) ?_
    refine XS.aloadN X0.here hx rfl (hb hby d10_26) rfl rfl ?_
    refine XS.iloadN X0.here hx rfl (hb hby d10_27) rfl ?_
    refine XS.iload X0.here hx rfl (hb hby d10_28) rfl ?_
    refine XS.i2b X0.here hx rfl (hb hby d10_30) rfl ?_
    show Steps pg.tables ee below (s₁.setTop (mkF mm 31 #[.val (.ref ch), .val (.int (0 : Int32)), .val (.ref bb), .val (.int (0 : Int32)), .val (.int (2 : Int32)), .val (.int (0 : Int32)), .val (.int x0)] [(.int (x0.toInt8.toInt32)), (.int (0 : Int32)), (.ref bb)])) _
    refine st3 _ ?_
    refine XS.iinc X3.here hx rfl (hb hby d10_32) rfl (l' := #[.val (.ref ch), .val (.int (1 : Int32)), .val (.ref bb), .val (.int (0 : Int32)), .val (.int (2 : Int32)), .val (.int (0 : Int32)), .val (.int x0)]) rfl ?_
    refine XS.iinc X3.here hx rfl (hb hby d10_35) rfl (l' := #[.val (.ref ch), .val (.int (1 : Int32)), .val (.ref bb), .val (.int (1 : Int32)), .val (.int (2 : Int32)), .val (.int (0 : Int32)), .val (.int x0)]) rfl ?_
    refine XS.iinc X3.here hx rfl (hb hby d10_38) rfl (l' := #[.val (.ref ch), .val (.int (1 : Int32)), .val (.ref bb), .val (.int (1 : Int32)), .val (.int (2 : Int32)), .val (.int (1 : Int32)), .val (.int x0)]) rfl ?_
    refine XS.goto X3.here hx rfl (pc0 := 41) (pc' := 3) rfl (hb hby d10_41) (by decide) (by decide) ?_
    refine XS.iload X3.here hx rfl (hb hby d10_3) rfl ?_
    refine XS.iload X3.here hx rfl (hb hby d10_5) rfl ?_
    refine XS.icmpNo X3.here hx rfl (hb hby d10_7) rfl (tlt (by decide : (1 : Int32) < (2 : Int32))).2.1 ?_
    show Steps pg.tables ee below (T3.setTop (mkF mm 10 #[.val (.ref ch), .val (.int (1 : Int32)), .val (.ref bb), .val (.int (1 : Int32)), .val (.int (2 : Int32)), .val (.int (1 : Int32)), .val (.int x0)] [])) _
    refine XS.aloadN X3.here hx rfl (hb hby d10_10) rfl rfl ?_
    refine XS.iloadN X3.here hx rfl (hb hby d10_11) rfl ?_
    refine X3.caload hx (j := (1 : Int32)) (v := (.int x1)) (by rw [e3]; exact Ar4.1) (State.isArrayOf_alike hZ.alike Ar4.2.1) Ar4.2.2 hin4 (Has.at Hh4 hin4 rfl) (g := (mkF mm 12 #[.val (.ref ch), .val (.int (1 : Int32)), .val (.ref bb), .val (.int (1 : Int32)), .val (.int (2 : Int32)), .val (.int (1 : Int32)), .val (.int x0)] [(.int (1 : Int32)), (.ref ch)])) rfl rfl (hb hby d10_12) _ ?_
    refine XS.istore X3.here hx rfl (hb hby d10_13) rfl (l' := #[.val (.ref ch), .val (.int (1 : Int32)), .val (.ref bb), .val (.int (1 : Int32)), .val (.int (2 : Int32)), .val (.int (1 : Int32)), .val (.int x1)]) rfl ?_
    refine XS.iload X3.here hx rfl (hb hby d10_15) rfl ?_
    refine XS.sipush X3.here hx rfl (hb hby d10_17) ?_
    refine XS.icmpYes X3.here hx rfl (pc0 := 20) (pc' := 26) rfl (hb hby d10_20) rfl (flt hl1).2.2.2 (by decide) (by decide) ?_
    refine XS.aloadN X3.here hx rfl (hb hby d10_26) rfl rfl ?_
    show Steps pg.tables ee below (T3.setTop (mkF mm 27 #[.val (.ref ch), .val (.int (1 : Int32)), .val (.ref bb), .val (.int (1 : Int32)), .val (.int (2 : Int32)), .val (.int (1 : Int32)), .val (.int x1)] [(.ref bb)])) _
    refine XS.iloadN X3.here hx rfl (hb hby d10_27) rfl ?_
    refine XS.iload X3.here hx rfl (hb hby d10_28) rfl ?_
    refine XS.i2b X3.here hx rfl (hb hby d10_30) rfl ?_
    refine st6 _ ?_
    refine XS.iinc X6.here hx rfl (hb hby d10_32) rfl (l' := #[.val (.ref ch), .val (.int (2 : Int32)), .val (.ref bb), .val (.int (1 : Int32)), .val (.int (2 : Int32)), .val (.int (1 : Int32)), .val (.int x1)]) rfl ?_
    refine XS.iinc X6.here hx rfl (hb hby d10_35) rfl (l' := #[.val (.ref ch), .val (.int (2 : Int32)), .val (.ref bb), .val (.int (2 : Int32)), .val (.int (2 : Int32)), .val (.int (1 : Int32)), .val (.int x1)]) rfl ?_
    refine XS.iinc X6.here hx rfl (hb hby d10_38) rfl (l' := #[.val (.ref ch), .val (.int (2 : Int32)), .val (.ref bb), .val (.int (2 : Int32)), .val (.int (2 : Int32)), .val (.int (2 : Int32)), .val (.int x1)]) rfl ?_
    refine XS.goto X6.here hx rfl (pc0 := 41) (pc' := 3) rfl (hb hby d10_41) (by decide) (by decide) ?_
    show Steps pg.tables ee below (T6.setTop (mkF mm 3 #[.val (.ref ch), .val (.int (2 : Int32)), .val (.ref bb), .val (.int (2 : Int32)), .val (.int (2 : Int32)), .val (.int (2 : Int32)), .val (.int x1)] [])) _
    refine XS.iload X6.here hx rfl (hb hby d10_3) rfl ?_
    refine XS.iload X6.here hx rfl (hb hby d10_5) rfl ?_
    refine XS.icmpYes X6.here hx rfl (pc0 := 7) (pc' := 44) rfl (hb hby d10_7) rfl (flt (by decide : ¬ ((2 : Int32) < (2 : Int32)))).2.1 (by decide) (by decide) ?_
    refine XS.iload X6.here hx rfl (hb hby d10_44) rfl ?_
    exact retOut X6 hx Bd.returns rfl (Or.inl ⟨rfl, Or.inl rfl, _, rfl⟩) (hb hby d10_46) hr
  · show QrmIn2_2 Z ch kc x0 x1 bb kb h0 n0 _ T6.heap _
    rw [e6]
    exact ⟨rfl, N6, KK6, V6⟩
def QrmNl2 (Z : State)  (h0 : Heap) (n0 : Nat) (v : Option Value) (h : Heap) (L : List Loc) : Prop := v = some (.int (4 : Int32)) ∧ Fr n0 L ∧ h = h0
set_option maxRecDepth 65536 in
set_option maxHeartbeats 40000000 in
theorem rmNl2 (l : Launch) (Z : State) (a0 : Array Value) (hw : ∀ d ∈ tables_1, d.before a0 Z = true) (ws : List Jvm.Cond)  (h0 : Heap) (n0 : Nat) (O0 : Old Z n0 h0)  :
    own_M l Z h0 (⟨"java/lang/StringUTF16", "newBytesLength", "(I)I"⟩ : MethodName) jdk_52_method_3_code 1 (some .int) ws ({ frames := 0, cells := 0, slots := 0, locals := 0 } : Room) #[(.int (2 : Int32))] (QrmNl2 Z  h0 n0) := by
  refine own_start (plainFor_of_name pn_26) ?_
  intro pg ee s mm below meth cc s₁ Bd hZ hh hx hby hml hown0 hnm X0 e0
  have hown : s.vm.findClass "java/lang/StringUTF16" = some mm.cls := hown0
  have N0 := Fr.nil n0
  have pre0 := fun tg_ => castTop (tb := pg.tables) (e := ee) (below := below) (T := s₁) (t := tg_) (ef_27_372 mm (2 : Int32))
  refine own_end X0 (v := some (.int (4 : Int32))) (fun h => by rw [Bd.returns] at h; cases h) (by decide) (by decide) (fun fs hr => pre0 _ ?_) ?_
  · show Steps pg.tables ee below (s₁.setTop (mkF mm 0 #[.val (.int (2 : Int32))] [])) _
    refine XS.iloadN X0.here hx rfl (hb hby d27_0) rfl ?_
    refine XS.ifYes X0.here hx rfl (pc0 := 1) (pc' := 12) rfl (hb hby d27_1) rfl ((if0 _ _).trans (flt (by decide : ¬ ((2 : Int32) < (0 : Int32)))).2.1) (by decide) (by decide) ?_
    refine XS.iloadN X0.here hx rfl (hb hby d27_12) rfl ?_
    refine X0.ldcInt hx hown (mvT hZ (own_h hw 118 rfl)) (g := (mkF mm 13 #[.val (.int (2 : Int32))] [(.int (2 : Int32))])) rfl (hb hby d27_13) _ ?_
    refine XS.icmpYes X0.here hx rfl (pc0 := 15) (pc' := 55) rfl (hb hby d27_15) rfl (tlt (by decide : (2 : Int32) < (1073741823 : Int32))).1 (by decide) (by decide) ?_
    refine XS.iloadN X0.here hx rfl (hb hby d27_55) rfl ?_
    refine XS.iconst X0.here hx rfl (hb hby d27_56) ?_
    refine XS.ishl X0.here hx rfl (hb hby d27_57) rfl ?_
    show Steps pg.tables ee below (s₁.setTop (mkF mm 58 #[.val (.int (2 : Int32))] [(.int (4 : Int32))])) _
    exact retOut X0 hx Bd.returns rfl (Or.inl ⟨rfl, Or.inl rfl, _, rfl⟩) (hb hby d27_58) hr
  · show QrmNl2 Z  h0 n0 _ s₁.heap _
    rw [e0]
    exact ⟨rfl, N0, rfl⟩
def QrmNf2 (Z : State)  (h0 : Heap) (n0 : Nat) (v : Option Value) (h : Heap) (L : List Loc) : Prop := ∃ (b : Addr) (kb : ClassId), v = some (.ref b) ∧ Fr n0 L ∧ Keep h0 h [] ∧ n0 ≤ b ∧ h0.size ≤ b ∧ Arv Z h b kb .byte (4 : Int32) [(.int (0 : Int32)), (.int (0 : Int32)), (.int (0 : Int32)), (.int (0 : Int32))] (.int (0 : Int32))
set_option maxRecDepth 65536 in
set_option maxHeartbeats 40000000 in
theorem rmNf2 (l : Launch) (Z : State) (a0 : Array Value) (hw : ∀ d ∈ tables_1, d.before a0 Z = true) (ws : List Jvm.Cond)  (h0 : Heap) (n0 : Nat) (O0 : Old Z n0 h0)  :
    own_M l Z h0 (⟨"java/lang/StringUTF16", "newBytesFor", "(I)[B"⟩ : MethodName) jdk_52_method_2_code 1 (some (.array .byte)) ws ({ frames := 1, cells := 1, slots := 4, locals := 12 } : Room) #[(.int (2 : Int32))] (QrmNf2 Z  h0 n0) := by
  refine own_start (plainFor_of_name pn_26) ?_
  intro pg ee s mm below meth cc s₁ Bd hZ hh hx hby hml hown0 hnm X0 e0
  have hown : s.vm.findClass "java/lang/StringUTF16" = some mm.cls := hown0
  have N0 := Fr.nil n0
  have K0 : Keep h0 h0 ([] : List Addr) := Keep.refl _ _
  have pre0 := fun tg_ => castTop (tb := pg.tables) (e := ee) (below := below) (T := s₁) (t := tg_) (ef_26_378 mm (2 : Int32))
  obtain ⟨_, _, ⟨T1, L1, k1, n1⟩, -, X1, ⟨Lc1, hQ1, l1, y1, z1⟩, st1⟩ := Jvm.LawKit.callS X0 hx hown (mvT hZ (own_h hw 115 rfl)) (mvT hZ (own_h hw 116 rfl)) (mvT hZ (own_h hw 48 rfl)) (mvT hZ (own_h hw 117 rfl)) (by decide) (backOf (W := 0) (rmNl2 l Z a0 hw [] h0 n0 O0) hZ (own_h hw 117 rfl) (own_h hw 48 rfl) (by decide) (by decide)) (g := (mkF mm 1 #[.val (.int (2 : Int32))] [(.int (2 : Int32))])) rfl (by rw [hml]; rfl) (argsL := [(.int (2 : Int32))]) (rest := []) (lenOf pd_375 rfl) rfl (Nat.le_of_eq rfl) (hb hby d26_1) (fun _ _ => ⟨rfl, e0, (by decide : 0 + 0 ≤ _), (by decide : 0 + 0 ≤ _)⟩)
  dsimp only [Pt.U, Pt.locs, Pt.cells, Pt.slots] at X1 l1 y1 z1 st1 hQ1
  subst l1 y1 z1
  obtain ⟨rfl, N1q, e1⟩ := hQ1
  have N1 := Fr.app N0 N1q
  obtain ⟨T2, h2, k2, X2, e2, E2, A2, st2⟩ := newP X1 hx hZ (own_h hw 19 rfl) e1 (g := (mkF mm 4 #[.val (.int (2 : Int32))] [(.int (4 : Int32))])) rfl (hb hby d26_4) rfl (by decide) (cap := 4) (by decide) (by decide) (by decide) (by decide)
  obtain ⟨b2, g2⟩ : ∃ z, z = h0.size := ⟨_, rfl⟩
  rw [← g2] at A2 st2
  have g_b2 : n0 ≤ b2 := Nat.le_trans (O0.1 ▸ O0.2.1) (Nat.le_of_eq g2.symm)
  have sz_b2 : h0.size ≤ b2 := Nat.le_trans K0.1 (Nat.le_of_eq g2.symm)
  have O2 := O0.ext E2
  have KK2 := K0.ext E2
  have V2 : Arv Z h2 b2 k2 .byte (4 : Int32) [(.int (0 : Int32)), (.int (0 : Int32)), (.int (0 : Int32)), (.int (0 : Int32))] (.int (0 : Int32)) := (Arv.new A2 (by decide)).pad (pad_rep [] (.int (0 : Int32)) 4)
  refine own_end X2 (v := some (.ref b2)) (fun h => by rw [Bd.returns] at h; cases h) (by decide) (by decide) (fun fs hr => pre0 _ ?_) ?_
  · show Steps pg.tables ee below (s₁.setTop (mkF mm 0 #[.val (.int (2 : Int32))] [])) _
    refine XS.iloadN X0.here hx rfl (hb hby d26_0) rfl ?_
    refine st1 _ ?_
    refine st2 _ ?_
    exact retOut X2 hx Bd.returns rfl (Or.inr (Or.inr (Or.inr (Or.inr ⟨rfl, rfl, rfl⟩)))) (hb hby d26_6) hr
  · show QrmNf2 Z  h0 n0 _ T2.heap _
    rw [e2]
    exact ⟨_, _, rfl, N1, KK2, g_b2, sz_b2, V2⟩
def QrmPc2_0 (Z : State) (bb : Addr) (kb : ClassId) (x0 : Int32) (h0 : Heap) (n0 : Nat) (v : Option Value) (h : Heap) (L : List Loc) : Prop := v = none ∧ Fr n0 L ∧ Keep h0 h [bb] ∧ Arv Z h bb kb .byte (4 : Int32) [(own_u x0), (own_v x0), (.int (0 : Int32)), (.int (0 : Int32))] (.int (0 : Int32))
set_option maxRecDepth 65536 in
set_option maxHeartbeats 40000000 in
theorem rmPc2_0 (l : Launch) (Z : State) (a0 : Array Value) (hw : ∀ d ∈ tables_1, d.before a0 Z = true) (ws : List Jvm.Cond) (bb : Addr) (kb : ClassId) (x0 : Int32) (h0 : Heap) (n0 : Nat) (O0 : Old Z n0 h0) (Vb : Arv Z h0 bb kb .byte (4 : Int32) [(.int (0 : Int32)), (.int (0 : Int32)), (.int (0 : Int32)), (.int (0 : Int32))] (.int (0 : Int32))) (g_bb : n0 ≤ bb) (hG : own_G Z) :
    own_M l Z h0 (⟨"java/lang/StringUTF16", "putChar", "([BII)V"⟩ : MethodName) jdk_52_method_4_code 3 none ws ({ frames := 0, cells := 0, slots := 0, locals := 0 } : Room) #[(.ref bb), (.int (0 : Int32)), (.int x0)] (QrmPc2_0 Z bb kb x0 h0 n0) := by
  refine own_start (plainFor_of_name pn_26) ?_
  intro pg ee s mm below meth cc s₁ Bd hZ hh hx hby hml hown0 hnm X0 e0
  have hown : s.vm.findClass "java/lang/StringUTF16" = some mm.cls := hown0
  have N0 := Fr.nil n0
  have K0 : Keep h0 h0 ([bb] : List Addr) := Keep.refl _ _
  have pre0 := fun tg_ => castTop (tb := pg.tables) (e := ee) (below := below) (T := s₁) (t := tg_) (ef_28_401 mm bb (0 : Int32) x0)
  obtain ⟨T1, X1, e1, st1⟩ := getS2 X0 hx hZ hown (host := "") (Or.inl (own_h hw 122 rfl)) Via.refl e0 (hG.1.ext O0.2) (g := (mkF mm 0 #[.val (.ref bb), .val (.int (0 : Int32)), .val (.int x0)] [])) rfl (hb hby d28_0)
  obtain ⟨T2, X2, e2, st2⟩ := getS2 X1 hx hZ hown (host := "") (Or.inl (own_h hw 123 rfl)) Via.refl e1 (hG.2.1.ext O0.2) (g := (mkF mm 38 #[.val (.ref bb), .val (.int (1 : Int32)), .val (.int x0)] [(.int x0), (.int (0 : Int32)), (.ref bb)])) rfl (hb hby d28_38)
  obtain ⟨cl3, Ar3, qk3, Sz3, Nn3, Hh3, Gg3⟩ := id Vb
  have hin3 : ¬ ((0 : Int32) < 0 ∨ cl3.slots.size ≤ ((0 : Int32)).toNatClampNeg) := inb_of Sz3 ⟨by decide, by decide⟩
  obtain ⟨T4, h4, X4, e4, W4, st4⟩ := stB X2 hx hZ e2 Ar3 (j := (0 : Int32)) hin3 (g := (mkF mm 43 #[.val (.ref bb), .val (.int (1 : Int32)), .val (.int x0)] [(.int ((x0 >>> ((0 : Int32) &&& 31)).toInt8.toInt32)), (.int (0 : Int32)), (.ref bb)])) rfl rfl (hb hby d28_43)
  have V4 : Arv Z h4 bb kb .byte (4 : Int32) [(own_u x0), (.int (0 : Int32)), (.int (0 : Int32)), (.int (0 : Int32))] (.int (0 : Int32)) := Arv.set Ar3 qk3 Sz3 Nn3 Hh3 Gg3 (fits_nar_byte _) W4 0 rfl (Nat.le_of_ble_eq_true rfl)
  have N4 := Fr.snoc X4 N0 g_bb
  have O4 := O0.wr W4 g_bb
  have KK4 := K0.wr W4 (Or.inl (by simp))
  obtain ⟨T5, X5, e5, st5⟩ := getS2 X4 hx hZ hown (host := "") (Or.inl (own_h hw 124 rfl)) Via.refl e4 (hG.2.2.ext O4.2) (g := (mkF mm 47 #[.val (.ref bb), .val (.int (1 : Int32)), .val (.int x0)] [(.int x0), (.int (1 : Int32)), (.ref bb)])) rfl (hb hby d28_47)
  obtain ⟨cl6, Ar6, qk6, Sz6, Nn6, Hh6, Gg6⟩ := id V4
  have hin6 : ¬ ((1 : Int32) < 0 ∨ cl6.slots.size ≤ ((1 : Int32)).toNatClampNeg) := inb_of Sz6 ⟨by decide, by decide⟩
  obtain ⟨T7, h7, X7, e7, W7, st7⟩ := stB X5 hx hZ e5 Ar6 (j := (1 : Int32)) hin6 (g := (mkF mm 52 #[.val (.ref bb), .val (.int (1 : Int32)), .val (.int x0)] [(.int ((x0 >>> ((8 : Int32) &&& 31)).toInt8.toInt32)), (.int (1 : Int32)), (.ref bb)])) rfl rfl (hb hby d28_52)
  have V7 : Arv Z h7 bb kb .byte (4 : Int32) [(own_u x0), (own_v x0), (.int (0 : Int32)), (.int (0 : Int32))] (.int (0 : Int32)) := Arv.set Ar6 qk6 Sz6 Nn6 Hh6 Gg6 (fits_nar_byte _) W7 1 rfl (Nat.le_of_ble_eq_true rfl)
  have N7 := Fr.snoc X7 N4 g_bb
  have O7 := O4.wr W7 g_bb
  have KK7 := KK4.wr W7 (Or.inl (by simp))
  refine own_end X7 (v := none) (fun _ => rfl) (by decide) (by decide) (fun fs hr => pre0 _ ?_) ?_
  · show Steps pg.tables ee below (s₁.setTop (mkF mm 0 #[.val (.ref bb), .val (.int (0 : Int32)), .val (.int x0)] [])) _
    refine st1 _ ?_
    refine XS.ifYes X1.here hx rfl (pc0 := 3) (pc' := 28) rfl (hb hby d28_3) rfl ((if0 _ _).trans (feq (by decide : ¬ ((1 : Int32) = (0 : Int32)))).2) (by decide) (by decide) ?_
    refine XS.iloadN X1.here hx rfl (hb hby d28_28) rfl ?_
    refine XS.iconst X1.here hx rfl (hb hby d28_29) ?_
    refine XS.ishl X1.here hx rfl (hb hby d28_30) rfl ?_
    refine XS.istoreN X1.here hx rfl (hb hby d28_31) rfl (l' := #[.val (.ref bb), .val (.int (0 : Int32)), .val (.int x0)]) rfl ?_
    refine XS.aloadN X1.here hx rfl (hb hby d28_32) rfl rfl ?_
    refine XS.iloadN X1.here hx rfl (hb hby d28_33) rfl ?_
    show Steps pg.tables ee below (T1.setTop (mkF mm 34 #[.val (.ref bb), .val (.int (0 : Int32)), .val (.int x0)] [(.int (0 : Int32)), (.ref bb)])) _
    refine XS.iinc X1.here hx rfl (hb hby d28_34) rfl (l' := #[.val (.ref bb), .val (.int (1 : Int32)), .val (.int x0)]) rfl ?_
    refine XS.iloadN X1.here hx rfl (hb hby d28_37) rfl ?_
    refine st2 _ ?_
    refine XS.ishr X2.here hx rfl (hb hby d28_41) rfl ?_
    refine XS.i2b X2.here hx rfl (hb hby d28_42) rfl ?_
    refine st4 _ ?_
    refine XS.aloadN X4.here hx rfl (hb hby d28_44) rfl rfl ?_
    refine XS.iloadN X4.here hx rfl (hb hby d28_45) rfl ?_
    show Steps pg.tables ee below (T4.setTop (mkF mm 46 #[.val (.ref bb), .val (.int (1 : Int32)), .val (.int x0)] [(.int (1 : Int32)), (.ref bb)])) _
    refine XS.iloadN X4.here hx rfl (hb hby d28_46) rfl ?_
    refine st5 _ ?_
    refine XS.ishr X5.here hx rfl (hb hby d28_50) rfl ?_
    refine XS.i2b X5.here hx rfl (hb hby d28_51) rfl ?_
    refine st7 _ ?_
    exact X7.returnOut hx Bd.returns (hb hby d28_53) hr
  · show QrmPc2_0 Z bb kb x0 h0 n0 _ T7.heap _
    rw [e7]
    exact ⟨rfl, N7, KK7, V7⟩
def QrmPc2_1 (Z : State) (bb : Addr) (kb : ClassId) (x0 : Int32) (x1 : Int32) (h0 : Heap) (n0 : Nat) (v : Option Value) (h : Heap) (L : List Loc) : Prop := v = none ∧ Fr n0 L ∧ Keep h0 h [bb] ∧ Arv Z h bb kb .byte (4 : Int32) [(own_u x0), (own_v x0), (own_u x1), (own_v x1)] (.int (0 : Int32))
set_option maxRecDepth 65536 in
set_option maxHeartbeats 40000000 in
theorem rmPc2_1 (l : Launch) (Z : State) (a0 : Array Value) (hw : ∀ d ∈ tables_1, d.before a0 Z = true) (ws : List Jvm.Cond) (bb : Addr) (kb : ClassId) (x0 : Int32) (x1 : Int32) (h0 : Heap) (n0 : Nat) (O0 : Old Z n0 h0) (Vb : Arv Z h0 bb kb .byte (4 : Int32) [(own_u x0), (own_v x0), (.int (0 : Int32)), (.int (0 : Int32))] (.int (0 : Int32))) (g_bb : n0 ≤ bb) (hG : own_G Z) :
    own_M l Z h0 (⟨"java/lang/StringUTF16", "putChar", "([BII)V"⟩ : MethodName) jdk_52_method_4_code 3 none ws ({ frames := 0, cells := 0, slots := 0, locals := 0 } : Room) #[(.ref bb), (.int (1 : Int32)), (.int x1)] (QrmPc2_1 Z bb kb x0 x1 h0 n0) := by
  refine own_start (plainFor_of_name pn_26) ?_
  intro pg ee s mm below meth cc s₁ Bd hZ hh hx hby hml hown0 hnm X0 e0
  have hown : s.vm.findClass "java/lang/StringUTF16" = some mm.cls := hown0
  have N0 := Fr.nil n0
  have K0 : Keep h0 h0 ([bb] : List Addr) := Keep.refl _ _
  have pre0 := fun tg_ => castTop (tb := pg.tables) (e := ee) (below := below) (T := s₁) (t := tg_) (ef_28_401 mm bb (1 : Int32) x1)
  obtain ⟨T1, X1, e1, st1⟩ := getS2 X0 hx hZ hown (host := "") (Or.inl (own_h hw 122 rfl)) Via.refl e0 (hG.1.ext O0.2) (g := (mkF mm 0 #[.val (.ref bb), .val (.int (1 : Int32)), .val (.int x1)] [])) rfl (hb hby d28_0)
  obtain ⟨T2, X2, e2, st2⟩ := getS2 X1 hx hZ hown (host := "") (Or.inl (own_h hw 123 rfl)) Via.refl e1 (hG.2.1.ext O0.2) (g := (mkF mm 38 #[.val (.ref bb), .val (.int (3 : Int32)), .val (.int x1)] [(.int x1), (.int (2 : Int32)), (.ref bb)])) rfl (hb hby d28_38)
  obtain ⟨cl3, Ar3, qk3, Sz3, Nn3, Hh3, Gg3⟩ := id Vb
  have hin3 : ¬ ((2 : Int32) < 0 ∨ cl3.slots.size ≤ ((2 : Int32)).toNatClampNeg) := inb_of Sz3 ⟨by decide, by decide⟩
  obtain ⟨T4, h4, X4, e4, W4, st4⟩ := stB X2 hx hZ e2 Ar3 (j := (2 : Int32)) hin3 (g := (mkF mm 43 #[.val (.ref bb), .val (.int (3 : Int32)), .val (.int x1)] [(.int ((x1 >>> ((0 : Int32) &&& 31)).toInt8.toInt32)), (.int (2 : Int32)), (.ref bb)])) rfl rfl (hb hby d28_43)
  have V4 : Arv Z h4 bb kb .byte (4 : Int32) [(own_u x0), (own_v x0), (own_u x1), (.int (0 : Int32))] (.int (0 : Int32)) := Arv.set Ar3 qk3 Sz3 Nn3 Hh3 Gg3 (fits_nar_byte _) W4 2 rfl (Nat.le_of_ble_eq_true rfl)
  have N4 := Fr.snoc X4 N0 g_bb
  have O4 := O0.wr W4 g_bb
  have KK4 := K0.wr W4 (Or.inl (by simp))
  obtain ⟨T5, X5, e5, st5⟩ := getS2 X4 hx hZ hown (host := "") (Or.inl (own_h hw 124 rfl)) Via.refl e4 (hG.2.2.ext O4.2) (g := (mkF mm 47 #[.val (.ref bb), .val (.int (3 : Int32)), .val (.int x1)] [(.int x1), (.int (3 : Int32)), (.ref bb)])) rfl (hb hby d28_47)
  obtain ⟨cl6, Ar6, qk6, Sz6, Nn6, Hh6, Gg6⟩ := id V4
  have hin6 : ¬ ((3 : Int32) < 0 ∨ cl6.slots.size ≤ ((3 : Int32)).toNatClampNeg) := inb_of Sz6 ⟨by decide, by decide⟩
  obtain ⟨T7, h7, X7, e7, W7, st7⟩ := stB X5 hx hZ e5 Ar6 (j := (3 : Int32)) hin6 (g := (mkF mm 52 #[.val (.ref bb), .val (.int (3 : Int32)), .val (.int x1)] [(.int ((x1 >>> ((8 : Int32) &&& 31)).toInt8.toInt32)), (.int (3 : Int32)), (.ref bb)])) rfl rfl (hb hby d28_52)
  have V7 : Arv Z h7 bb kb .byte (4 : Int32) [(own_u x0), (own_v x0), (own_u x1), (own_v x1)] (.int (0 : Int32)) := Arv.set Ar6 qk6 Sz6 Nn6 Hh6 Gg6 (fits_nar_byte _) W7 3 rfl (Nat.le_of_ble_eq_true rfl)
  have N7 := Fr.snoc X7 N4 g_bb
  have O7 := O4.wr W7 g_bb
  have KK7 := KK4.wr W7 (Or.inl (by simp))
  refine own_end X7 (v := none) (fun _ => rfl) (by decide) (by decide) (fun fs hr => pre0 _ ?_) ?_
  · show Steps pg.tables ee below (s₁.setTop (mkF mm 0 #[.val (.ref bb), .val (.int (1 : Int32)), .val (.int x1)] [])) _
    refine st1 _ ?_
    refine XS.ifYes X1.here hx rfl (pc0 := 3) (pc' := 28) rfl (hb hby d28_3) rfl ((if0 _ _).trans (feq (by decide : ¬ ((1 : Int32) = (0 : Int32)))).2) (by decide) (by decide) ?_
    refine XS.iloadN X1.here hx rfl (hb hby d28_28) rfl ?_
    refine XS.iconst X1.here hx rfl (hb hby d28_29) ?_
    refine XS.ishl X1.here hx rfl (hb hby d28_30) rfl ?_
    refine XS.istoreN X1.here hx rfl (hb hby d28_31) rfl (l' := #[.val (.ref bb), .val (.int (2 : Int32)), .val (.int x1)]) rfl ?_
    refine XS.aloadN X1.here hx rfl (hb hby d28_32) rfl rfl ?_
    refine XS.iloadN X1.here hx rfl (hb hby d28_33) rfl ?_
    show Steps pg.tables ee below (T1.setTop (mkF mm 34 #[.val (.ref bb), .val (.int (2 : Int32)), .val (.int x1)] [(.int (2 : Int32)), (.ref bb)])) _
    refine XS.iinc X1.here hx rfl (hb hby d28_34) rfl (l' := #[.val (.ref bb), .val (.int (3 : Int32)), .val (.int x1)]) rfl ?_
    refine XS.iloadN X1.here hx rfl (hb hby d28_37) rfl ?_
    refine st2 _ ?_
    refine XS.ishr X2.here hx rfl (hb hby d28_41) rfl ?_
    refine XS.i2b X2.here hx rfl (hb hby d28_42) rfl ?_
    refine st4 _ ?_
    refine XS.aloadN X4.here hx rfl (hb hby d28_44) rfl rfl ?_
    refine XS.iloadN X4.here hx rfl (hb hby d28_45) rfl ?_
    show Steps pg.tables ee below (T4.setTop (mkF mm 46 #[.val (.ref bb), .val (.int (3 : Int32)), .val (.int x1)] [(.int (3 : Int32)), (.ref bb)])) _
    refine XS.iloadN X4.here hx rfl (hb hby d28_46) rfl ?_
    refine st5 _ ?_
    refine XS.ishr X5.here hx rfl (hb hby d28_50) rfl ?_
    refine XS.i2b X5.here hx rfl (hb hby d28_51) rfl ?_
    refine st7 _ ?_
    exact X7.returnOut hx Bd.returns (hb hby d28_53) hr
  · show QrmPc2_1 Z bb kb x0 x1 h0 n0 _ T7.heap _
    rw [e7]
    exact ⟨rfl, N7, KK7, V7⟩
def QrmTb2 (Z : State) (ch : Addr) (kc : ClassId) (x0 : Int32) (x1 : Int32) (h0 : Heap) (n0 : Nat) (v : Option Value) (h : Heap) (L : List Loc) : Prop := ∃ (b : Addr) (kb : ClassId), v = some (.ref b) ∧ Fr n0 L ∧ Keep h0 h [] ∧ n0 ≤ b ∧ h0.size ≤ b ∧ Arv Z h b kb .byte (4 : Int32) [(own_u x0), (own_v x0), (own_u x1), (own_v x1)] (.int (0 : Int32))
set_option maxRecDepth 65536 in
set_option maxHeartbeats 40000000 in
theorem rmTb2 (l : Launch) (Z : State) (a0 : Array Value) (hw : ∀ d ∈ tables_1, d.before a0 Z = true) (ws : List Jvm.Cond) (ch : Addr) (kc : ClassId) (x0 : Int32) (x1 : Int32) (h0 : Heap) (n0 : Nat) (O0 : Old Z n0 h0) (Vc : Arv Z h0 ch kc .char (2 : Int32) [(.int x0), (.int x1)] (.int (0 : Int32))) (hG : own_G Z) :
    own_M l Z h0 (⟨"java/lang/StringUTF16", "toBytes", "([CII)[B"⟩ : MethodName) jdk_52_method_14_code 5 (some (.array .byte)) ws ({ frames := 2, cells := 1, slots := 4, locals := 24 } : Room) #[(.ref ch), (.int (0 : Int32)), (.int (2 : Int32))] (QrmTb2 Z ch kc x0 x1 h0 n0) := by
  refine own_start (plainFor_of_name pn_26) ?_
  intro pg ee s mm below meth cc s₁ Bd hZ hh hx hby hml hown0 hnm X0 e0
  have hown : s.vm.findClass "java/lang/StringUTF16" = some mm.cls := hown0
  have N0 := Fr.nil n0
  have K0 : Keep h0 h0 ([] : List Addr) := Keep.refl _ _
  have pre0 := fun tg_ => castTop (tb := pg.tables) (e := ee) (below := below) (T := s₁) (t := tg_) (ef_25_423 mm ch (0 : Int32) (2 : Int32))
  obtain ⟨_, _, ⟨T1, L1, k1, n1⟩, -, X1, ⟨Lc1, hQ1, l1, y1, z1⟩, st1⟩ := Jvm.LawKit.callS X0 hx hown (mvT hZ (own_h hw 112 rfl)) (mvT hZ (own_h hw 113 rfl)) (mvT hZ (own_h hw 48 rfl)) (mvT hZ (own_h hw 114 rfl)) (by decide) (backOf (W := 0) (rmNf2 l Z a0 hw [] h0 n0 O0) hZ (own_h hw 114 rfl) (own_h hw 48 rfl) (by decide) (by decide)) (g := (mkF mm 1 #[.val (.ref ch), .val (.int (0 : Int32)), .val (.int (2 : Int32)), .unset, .unset] [(.int (2 : Int32))])) rfl (by rw [hml]; rfl) (argsL := [(.int (2 : Int32))]) (rest := []) (lenOf pd_404 rfl) rfl (Nat.le_of_eq rfl) (hb hby d25_1) (fun _ _ => ⟨rfl, e0, (by decide : 0 + 1 ≤ _), (by decide : 0 + 4 ≤ _)⟩)
  dsimp only [Pt.U, Pt.locs, Pt.cells, Pt.slots] at X1 l1 y1 z1 st1 hQ1
  subst l1 y1 z1
  obtain ⟨tb1, kt1, rfl, N1q, K1, g_tb1, sz_tb1, Vt1⟩ := hQ1
  have O1 := O0.keep K1 all0
  have KK1 := K0.trans K1 all0
  have N1 := Fr.app N0 N1q
  obtain ⟨cl2, Ar2, qk2, Sz2, Nn2, Hh2, Gg2⟩ := id (Vc.keep K1 nin0)
  have hin2 : ¬ ((0 : Int32) < 0 ∨ cl2.slots.size ≤ ((0 : Int32)).toNatClampNeg) := inb_of Sz2 ⟨by decide, by decide⟩
  obtain ⟨_, _, ⟨T3, L3, k3, n3⟩, -, X3, ⟨Lc3, hQ3, l3, y3, z3⟩, st3⟩ := Jvm.LawKit.callS X1 hx hown (mvT hZ (own_h hw 119 rfl)) (mvT hZ (own_h hw 120 rfl)) (mvT hZ (own_h hw 48 rfl)) (mvT hZ (own_h hw 121 rfl)) (by decide) (backOf (W := 0) (rmPc2_0 l Z a0 hw [] tb1 kt1 x0 T1.heap n0 O1 Vt1 g_tb1 hG) hZ (own_h hw 121 rfl) (own_h hw 48 rfl) (by decide) (by decide)) (g := (mkF mm 20 #[.val (.ref ch), .val (.int (0 : Int32)), .val (.int (2 : Int32)), .val (.ref tb1), .val (.int (0 : Int32))] [(.int x0), (.int (0 : Int32)), (.ref tb1)])) rfl (by rw [hml]; rfl) (argsL := [(.ref tb1), (.int (0 : Int32)), (.int x0)]) (rest := []) (lenOf pd_417 rfl) rfl (Nat.le_of_eq rfl) (hb hby d25_20) (fun _ _ => ⟨rfl, rfl, (by decide : 1 + 0 ≤ _), (by decide : 4 + 0 ≤ _)⟩)
  dsimp only [Pt.U, Pt.locs, Pt.cells, Pt.slots] at X3 l3 y3 z3 st3 hQ3
  subst l3 y3 z3
  obtain ⟨rfl, N3q, K3, Vp3⟩ := hQ3
  have O3 := O1.keep K3 (allS g_tb1 all0)
  have KK3 := KK1.trans K3 (allS (Or.inr sz_tb1) all0)
  have N3 := Fr.app N1 N3q
  obtain ⟨cl4, Ar4, qk4, Sz4, Nn4, Hh4, Gg4⟩ := id ((Vc.keep K1 nin0).keep K3 (ninS (Nat.ne_of_lt (Nat.lt_of_lt_of_le Vc.lt sz_tb1)) nin0))
  have hin4 : ¬ ((1 : Int32) < 0 ∨ cl4.slots.size ≤ ((1 : Int32)).toNatClampNeg) := inb_of Sz4 ⟨by decide, by decide⟩
  obtain ⟨_, _, ⟨T5, L5, k5, n5⟩, -, X5, ⟨Lc5, hQ5, l5, y5, z5⟩, st5⟩ := Jvm.LawKit.callS X3 hx hown (mvT hZ (own_h hw 119 rfl)) (mvT hZ (own_h hw 120 rfl)) (mvT hZ (own_h hw 48 rfl)) (mvT hZ (own_h hw 121 rfl)) (by decide) (backOf (W := 0) (rmPc2_1 l Z a0 hw [] tb1 kt1 x0 x1 T3.heap n0 O3 Vp3 g_tb1 hG) hZ (own_h hw 121 rfl) (own_h hw 48 rfl) (by decide) (by decide)) (g := (mkF mm 20 #[.val (.ref ch), .val (.int (1 : Int32)), .val (.int (2 : Int32)), .val (.ref tb1), .val (.int (1 : Int32))] [(.int x1), (.int (1 : Int32)), (.ref tb1)])) rfl (by rw [hml]; rfl) (argsL := [(.ref tb1), (.int (1 : Int32)), (.int x1)]) (rest := []) (lenOf pd_417 rfl) rfl (Nat.le_of_eq rfl) (hb hby d25_20) (fun _ _ => ⟨rfl, rfl, (by decide : 1 + 0 ≤ _), (by decide : 4 + 0 ≤ _)⟩)
  dsimp only [Pt.U, Pt.locs, Pt.cells, Pt.slots] at X5 l5 y5 z5 st5 hQ5
  subst l5 y5 z5
  obtain ⟨rfl, N5q, K5, Vp5⟩ := hQ5
  have O5 := O3.keep K5 (allS g_tb1 all0)
  have KK5 := KK3.trans K5 (allS (Or.inr sz_tb1) all0)
  have N5 := Fr.app N3 N5q
  refine own_end X5 (v := some (.ref tb1)) (fun h => by rw [Bd.returns] at h; cases h) (by decide) (by decide) (fun fs hr => pre0 _ ?_) ?_
  · show Steps pg.tables ee below (s₁.setTop (mkF mm 0 #[.val (.ref ch), .val (.int (0 : Int32)), .val (.int (2 : Int32)), .unset, .unset] [])) _
    refine XS.iloadN X0.here hx rfl (hb hby d25_0) rfl ?_
    refine st1 _ ?_
    refine XS.astoreN X1.here hx rfl (hb hby d25_4) rfl rfl (l' := #[.val (.ref ch), .val (.int (0 : Int32)), .val (.int (2 : Int32)), .val (.ref tb1), .unset]) rfl ?_
    refine XS.iconst X1.here hx rfl (hb hby d25_5) ?_
    refine XS.istore X1.here hx rfl (hb hby d25_6) rfl (l' := #[.val (.ref ch), .val (.int (0 : Int32)), .val (.int (2 : Int32)), .val (.ref tb1), .val (.int (0 : Int32))]) rfl ?_
    refine XS.iload X1.here hx rfl (hb hby d25_8) rfl ?_
    refine XS.iloadN X1.here hx rfl (hb hby d25_10) rfl ?_
    refine XS.icmpNo X1.here hx rfl (hb hby d25_11) rfl (tlt (by decide : (0 : Int32) < (2 : Int32))).2.1 ?_
    show Steps pg.tables ee below (T1.setTop (mkF mm 14 #[.val (.ref ch), .val (.int (0 : Int32)), .val (.int (2 : Int32)), .val (.ref tb1), .val (.int (0 : Int32))] [])) _
    refine XS.aloadN X1.here hx rfl (hb hby d25_14) rfl rfl ?_
    refine XS.iload X1.here hx rfl (hb hby d25_15) rfl ?_
    refine XS.aloadN X1.here hx rfl (hb hby d25_17) rfl rfl ?_
    refine XS.iloadN X1.here hx rfl (hb hby d25_18) rfl ?_
    refine X1.caload hx (j := (0 : Int32)) (v := (.int x0)) Ar2.1 (State.isArrayOf_alike hZ.alike Ar2.2.1) Ar2.2.2 hin2 (Has.at Hh2 hin2 rfl) (g := (mkF mm 19 #[.val (.ref ch), .val (.int (0 : Int32)), .val (.int (2 : Int32)), .val (.ref tb1), .val (.int (0 : Int32))] [(.int (0 : Int32)), (.ref ch), (.int (0 : Int32)), (.ref tb1)])) rfl rfl (hb hby d25_19) _ ?_
    refine st3 _ ?_
    refine XS.iinc X3.here hx rfl (hb hby d25_23) rfl (l' := #[.val (.ref ch), .val (.int (1 : Int32)), .val (.int (2 : Int32)), .val (.ref tb1), .val (.int (0 : Int32))]) rfl ?_
    refine XS.iinc X3.here hx rfl (hb hby d25_26) rfl (l' := #[.val (.ref ch), .val (.int (1 : Int32)), .val (.int (2 : Int32)), .val (.ref tb1), .val (.int (1 : Int32))]) rfl ?_
    show Steps pg.tables ee below (T3.setTop (mkF mm 29 #[.val (.ref ch), .val (.int (1 : Int32)), .val (.int (2 : Int32)), .val (.ref tb1), .val (.int (1 : Int32))] [])) _
    refine XS.goto X3.here hx rfl (pc0 := 29) (pc' := 8) rfl (hb hby d25_29) (by decide) (by decide) ?_
    refine XS.iload X3.here hx rfl (hb hby d25_8) rfl ?_
    refine XS.iloadN X3.here hx rfl (hb hby d25_10) rfl ?_
    refine XS.icmpNo X3.here hx rfl (hb hby d25_11) rfl (tlt (by decide : (1 : Int32) < (2 : Int32))).2.1 ?_
    refine XS.aloadN X3.here hx rfl (hb hby d25_14) rfl rfl ?_
    refine XS.iload X3.here hx rfl (hb hby d25_15) rfl ?_
    refine XS.aloadN X3.here hx rfl (hb hby d25_17) rfl rfl ?_
    refine XS.iloadN X3.here hx rfl (hb hby d25_18) rfl ?_
    show Steps pg.tables ee below (T3.setTop (mkF mm 19 #[.val (.ref ch), .val (.int (1 : Int32)), .val (.int (2 : Int32)), .val (.ref tb1), .val (.int (1 : Int32))] [(.int (1 : Int32)), (.ref ch), (.int (1 : Int32)), (.ref tb1)])) _
    refine X3.caload hx (j := (1 : Int32)) (v := (.int x1)) Ar4.1 (State.isArrayOf_alike hZ.alike Ar4.2.1) Ar4.2.2 hin4 (Has.at Hh4 hin4 rfl) (g := (mkF mm 19 #[.val (.ref ch), .val (.int (1 : Int32)), .val (.int (2 : Int32)), .val (.ref tb1), .val (.int (1 : Int32))] [(.int (1 : Int32)), (.ref ch), (.int (1 : Int32)), (.ref tb1)])) rfl rfl (hb hby d25_19) _ ?_
    refine st5 _ ?_
    refine XS.iinc X5.here hx rfl (hb hby d25_23) rfl (l' := #[.val (.ref ch), .val (.int (2 : Int32)), .val (.int (2 : Int32)), .val (.ref tb1), .val (.int (1 : Int32))]) rfl ?_
    refine XS.iinc X5.here hx rfl (hb hby d25_26) rfl (l' := #[.val (.ref ch), .val (.int (2 : Int32)), .val (.int (2 : Int32)), .val (.ref tb1), .val (.int (2 : Int32))]) rfl ?_
    refine XS.goto X5.here hx rfl (pc0 := 29) (pc' := 8) rfl (hb hby d25_29) (by decide) (by decide) ?_
    refine XS.iload X5.here hx rfl (hb hby d25_8) rfl ?_
    refine XS.iloadN X5.here hx rfl (hb hby d25_10) rfl ?_
    refine XS.icmpYes X5.here hx rfl (pc0 := 11) (pc' := 32) rfl (hb hby d25_11) rfl (flt (by decide : ¬ ((2 : Int32) < (2 : Int32)))).2.1 (by decide) (by decide) ?_
    show Steps pg.tables ee below (T5.setTop (mkF mm 32 #[.val (.ref ch), .val (.int (2 : Int32)), .val (.int (2 : Int32)), .val (.ref tb1), .val (.int (2 : Int32))] [])) _
    refine XS.aloadN X5.here hx rfl (hb hby d25_32) rfl rfl ?_
    exact retOut X5 hx Bd.returns rfl (Or.inr (Or.inr (Or.inr (Or.inr ⟨rfl, rfl, rfl⟩)))) (hb hby d25_33) hr
  · show QrmTb2 Z ch kc x0 x1 h0 n0 _ T5.heap _
    exact ⟨_, _, rfl, N5, KK5, g_tb1, sz_tb1, Vp5⟩
def QrmCmL2 (Z : State) (ch : Addr) (kc : ClassId) (x0 : Int32) (x1 : Int32) (h0 : Heap) (n0 : Nat) (v : Option Value) (h : Heap) (L : List Loc) : Prop := ∃ (b : Addr) (kb : ClassId), v = some (.ref b) ∧ Fr n0 L ∧ Keep h0 h [] ∧ n0 ≤ b ∧ h0.size ≤ b ∧ Arv Z h b kb .byte (2 : Int32) [(own_l x0), (own_l x1)] (.int (0 : Int32))
set_option maxRecDepth 65536 in
set_option maxHeartbeats 40000000 in
theorem rmCmL2 (l : Launch) (Z : State) (a0 : Array Value) (hw : ∀ d ∈ tables_1, d.before a0 Z = true) (ws : List Jvm.Cond) (ch : Addr) (kc : ClassId) (x0 : Int32) (x1 : Int32) (h0 : Heap) (n0 : Nat) (O0 : Old Z n0 h0) (Vc : Arv Z h0 ch kc .char (2 : Int32) [(.int x0), (.int x1)] (.int (0 : Int32))) (hl0 : ¬ ((255 : Int32) < x0)) (hl1 : ¬ ((255 : Int32) < x1)) :
    own_M l Z h0 (⟨"java/lang/StringUTF16", "compress", "([CII)[B"⟩ : MethodName) jdk_52_method_16_code 6 (some (.array .byte)) ws ({ frames := 1, cells := 1, slots := 2, locals := 18 } : Room) #[(.ref ch), (.int (0 : Int32)), (.int (2 : Int32))] (QrmCmL2 Z ch kc x0 x1 h0 n0) := by
  refine own_start (plainFor_of_name pn_26) ?_
  intro pg ee s mm below meth cc s₁ Bd hZ hh hx hby hml hown0 hnm X0 e0
  have hown : s.vm.findClass "java/lang/StringUTF16" = some mm.cls := hown0
  have N0 := Fr.nil n0
  have K0 : Keep h0 h0 ([] : List Addr) := Keep.refl _ _
  have pre0 := fun tg_ => castTop (tb := pg.tables) (e := ee) (below := below) (T := s₁) (t := tg_) (ef_9_440 mm ch (0 : Int32) (2 : Int32))
  obtain ⟨T1, h1, k1, X1, e1, E1, A1, st1⟩ := newP X0 hx hZ (own_h hw 19 rfl) e0 (g := (mkF mm 1 #[.val (.ref ch), .val (.int (0 : Int32)), .val (.int (2 : Int32)), .unset, .unset, .unset] [(.int (2 : Int32))])) rfl (hb hby d9_1) rfl (by decide) (cap := 2) (by decide) (by decide) (by decide) (by decide)
  obtain ⟨b1, g1⟩ : ∃ z, z = h0.size := ⟨_, rfl⟩
  rw [← g1] at A1 st1
  have g_b1 : n0 ≤ b1 := Nat.le_trans (O0.1 ▸ O0.2.1) (Nat.le_of_eq g1.symm)
  have sz_b1 : h0.size ≤ b1 := Nat.le_trans K0.1 (Nat.le_of_eq g1.symm)
  have O1 := O0.ext E1
  have KK1 := K0.ext E1
  have V1 : Arv Z h1 b1 k1 .byte (2 : Int32) [(.int (0 : Int32)), (.int (0 : Int32))] (.int (0 : Int32)) := (Arv.new A1 (by decide)).pad (pad_rep [] (.int (0 : Int32)) 2)
  obtain ⟨_, _, ⟨T2, L2, k2, n2⟩, -, X2, ⟨Lc2, hQ2, l2, y2, z2⟩, st2⟩ := Jvm.LawKit.callS X1 hx hown (mvT hZ (own_h hw 50 rfl)) (mvT hZ (own_h hw 51 rfl)) (mvT hZ (own_h hw 48 rfl)) (mvT hZ (own_h hw 52 rfl)) (by decide) (backOf (W := 0) (rmIn2_2 l Z a0 hw [] ch kc x0 x1 b1 k1 h1 n0 O1 (Vc.ext E1) V1 g_b1 (Nat.ne_of_lt (Nat.lt_of_lt_of_le Vc.lt (Nat.le_of_eq g1.symm))) hl0 hl1) hZ (own_h hw 52 rfl) (own_h hw 48 rfl) (by decide) (by decide)) (g := (mkF mm 9 #[.val (.ref ch), .val (.int (0 : Int32)), .val (.int (2 : Int32)), .val (.ref b1), .unset, .unset] [(.int (2 : Int32)), (.int (0 : Int32)), (.ref b1), (.int (0 : Int32)), (.ref ch)])) rfl (by rw [hml]; rfl) (argsL := [(.ref ch), (.int (0 : Int32)), (.ref b1), (.int (0 : Int32)), (.int (2 : Int32))]) (rest := []) (lenOf pd_433 rfl) rfl (Nat.le_of_eq rfl) (hb hby d9_9) (fun _ _ => ⟨rfl, e1, (by decide : 1 + 0 ≤ _), (by decide : 2 + 0 ≤ _)⟩)
  dsimp only [Pt.U, Pt.locs, Pt.cells, Pt.slots] at X2 l2 y2 z2 st2 hQ2
  subst l2 y2 z2
  obtain ⟨rfl, N2q, K2, Vw2⟩ := hQ2
  have O2 := O1.keep K2 (allS g_b1 all0)
  have KK2 := KK1.trans K2 (allS (Or.inr sz_b1) all0)
  have N2 := Fr.app N0 N2q
  refine own_end X2 (v := some (.ref b1)) (fun h => by rw [Bd.returns] at h; cases h) (by decide) (by decide) (fun fs hr => pre0 _ ?_) ?_
  · show Steps pg.tables ee below (s₁.setTop (mkF mm 0 #[.val (.ref ch), .val (.int (0 : Int32)), .val (.int (2 : Int32)), .unset, .unset, .unset] [])) _
    refine XS.iloadN X0.here hx rfl (hb hby d9_0) rfl ?_
    refine st1 _ ?_
    refine XS.astoreN X1.here hx rfl (hb hby d9_3) rfl rfl (l' := #[.val (.ref ch), .val (.int (0 : Int32)), .val (.int (2 : Int32)), .val (.ref b1), .unset, .unset]) rfl ?_
    refine XS.aloadN X1.here hx rfl (hb hby d9_4) rfl rfl ?_
    refine XS.iloadN X1.here hx rfl (hb hby d9_5) rfl ?_
    refine XS.aloadN X1.here hx rfl (hb hby d9_6) rfl rfl ?_
    refine XS.iconst X1.here hx rfl (hb hby d9_7) ?_
    refine XS.iloadN X1.here hx rfl (hb hby d9_8) rfl ?_
    show Steps pg.tables ee below (T1.setTop (mkF mm 9 #[.val (.ref ch), .val (.int (0 : Int32)), .val (.int (2 : Int32)), .val (.ref b1), .unset, .unset] [(.int (2 : Int32)), (.int (0 : Int32)), (.ref b1), (.int (0 : Int32)), (.ref ch)])) _
    refine st2 _ ?_
    refine XS.istore X2.here hx rfl (hb hby d9_12) rfl (l' := #[.val (.ref ch), .val (.int (0 : Int32)), .val (.int (2 : Int32)), .val (.ref b1), .val (.int (2 : Int32)), .unset]) rfl ?_
    refine XS.iload X2.here hx rfl (hb hby d9_14) rfl ?_
    refine XS.iloadN X2.here hx rfl (hb hby d9_16) rfl ?_
    refine XS.icmpYes X2.here hx rfl (pc0 := 17) (pc' := 57) rfl (hb hby d9_17) rfl (teq (by decide : (2 : Int32) = (2 : Int32))).1 (by decide) (by decide) ?_
    refine XS.aloadN X2.here hx rfl (hb hby d9_57) rfl rfl ?_
    exact retOut X2 hx Bd.returns rfl (Or.inr (Or.inr (Or.inr (Or.inr ⟨rfl, rfl, rfl⟩)))) (hb hby d9_58) hr
  · show QrmCmL2 Z ch kc x0 x1 h0 n0 _ T2.heap _
    exact ⟨_, _, rfl, N2, KK2, g_b1, sz_b1, Vw2⟩
def QU2 (Z : State) (x0 : Int32) (x1 : Int32) (h0 : Heap) (n0 : Nat) (v : Option Value) (h : Heap) (L : List Loc) : Prop := ∃ (b : Addr) (kb : ClassId), v = some (.ref b) ∧ Fr n0 L ∧ Keep h0 h [] ∧ n0 ≤ b ∧ h0.size ≤ b ∧ Arv Z h b kb .byte (4 : Int32) [(own_u x0), (own_v x0), (own_u x1), (own_v x1)] (.int (0 : Int32))
set_option maxRecDepth 65536 in
set_option maxHeartbeats 40000000 in
theorem rmCmU2_0 (l : Launch) (Z : State) (a0 : Array Value) (hw : ∀ d ∈ tables_1, d.before a0 Z = true) (ws : List Jvm.Cond) (ch : Addr) (kc : ClassId) (x0 : Int32) (x1 : Int32) (h0 : Heap) (n0 : Nat) (O0 : Old Z n0 h0) (Vc : Arv Z h0 ch kc .char (2 : Int32) [(.int x0), (.int x1)] (.int (0 : Int32))) (hG : own_G Z) (hl0 : (255 : Int32) < x0) (ha0 : ¬ (x0 < (0 : Int32))) (hb0 : ¬ ((65535 : Int32) < x0)) (ha1 : ¬ (x1 < (0 : Int32))) (hb1 : ¬ ((65535 : Int32) < x1)) :
    own_M l Z h0 (⟨"java/lang/StringUTF16", "compress", "([CII)[B"⟩ : MethodName) jdk_52_method_16_code 6 (some (.array .byte)) ws ({ frames := 3, cells := 2, slots := 6, locals := 40 } : Room) #[(.ref ch), (.int (0 : Int32)), (.int (2 : Int32))] (QU2 Z x0 x1 h0 n0) := by
  refine own_start (plainFor_of_name pn_26) ?_
  intro pg ee s mm below meth cc s₁ Bd hZ hh hx hby hml hown0 hnm X0 e0
  have hown : s.vm.findClass "java/lang/StringUTF16" = some mm.cls := hown0
  have N0 := Fr.nil n0
  have K0 : Keep h0 h0 ([] : List Addr) := Keep.refl _ _
  have pre0 := fun tg_ => castTop (tb := pg.tables) (e := ee) (below := below) (T := s₁) (t := tg_) (ef_9_440 mm ch (0 : Int32) (2 : Int32))
  obtain ⟨T1, h1, k1, X1, e1, E1, A1, st1⟩ := newP X0 hx hZ (own_h hw 19 rfl) e0 (g := (mkF mm 1 #[.val (.ref ch), .val (.int (0 : Int32)), .val (.int (2 : Int32)), .unset, .unset, .unset] [(.int (2 : Int32))])) rfl (hb hby d9_1) rfl (by decide) (cap := 2) (by decide) (by decide) (by decide) (by decide)
  obtain ⟨b1, g1⟩ : ∃ z, z = h0.size := ⟨_, rfl⟩
  rw [← g1] at A1 st1
  have g_b1 : n0 ≤ b1 := Nat.le_trans (O0.1 ▸ O0.2.1) (Nat.le_of_eq g1.symm)
  have sz_b1 : h0.size ≤ b1 := Nat.le_trans K0.1 (Nat.le_of_eq g1.symm)
  have O1 := O0.ext E1
  have KK1 := K0.ext E1
  have V1 : Arv Z h1 b1 k1 .byte (2 : Int32) [(.int (0 : Int32)), (.int (0 : Int32))] (.int (0 : Int32)) := (Arv.new A1 (by decide)).pad (pad_rep [] (.int (0 : Int32)) 2)
  obtain ⟨_, _, ⟨T2, L2, k2, n2⟩, -, X2, ⟨Lc2, hQ2, l2, y2, z2⟩, st2⟩ := Jvm.LawKit.callS X1 hx hown (mvT hZ (own_h hw 50 rfl)) (mvT hZ (own_h hw 51 rfl)) (mvT hZ (own_h hw 48 rfl)) (mvT hZ (own_h hw 52 rfl)) (by decide) (backOf (W := 0) (rmIn2_0 l Z a0 hw [] ch kc x0 x1 b1 k1 h1 n0 O1 (Vc.ext E1) V1 g_b1 (Nat.ne_of_lt (Nat.lt_of_lt_of_le Vc.lt (Nat.le_of_eq g1.symm))) hl0) hZ (own_h hw 52 rfl) (own_h hw 48 rfl) (by decide) (by decide)) (g := (mkF mm 9 #[.val (.ref ch), .val (.int (0 : Int32)), .val (.int (2 : Int32)), .val (.ref b1), .unset, .unset] [(.int (2 : Int32)), (.int (0 : Int32)), (.ref b1), (.int (0 : Int32)), (.ref ch)])) rfl (by rw [hml]; rfl) (argsL := [(.ref ch), (.int (0 : Int32)), (.ref b1), (.int (0 : Int32)), (.int (2 : Int32))]) (rest := []) (lenOf pd_433 rfl) rfl (Nat.le_of_eq rfl) (hb hby d9_9) (fun _ _ => ⟨rfl, e1, (by decide : 1 + 0 ≤ _), (by decide : 2 + 0 ≤ _)⟩)
  dsimp only [Pt.U, Pt.locs, Pt.cells, Pt.slots] at X2 l2 y2 z2 st2 hQ2
  subst l2 y2 z2
  obtain ⟨rfl, N2q, K2⟩ := hQ2
  have O2 := O1.keep K2 (allS g_b1 all0)
  have KK2 := KK1.trans K2 (allS (Or.inr sz_b1) all0)
  have N2 := Fr.app N0 N2q
  obtain ⟨_, _, ⟨T3, L3, k3, n3⟩, -, X3, ⟨Lc3, hQ3, l3, y3, z3⟩, st3⟩ := Jvm.LawKit.callS X2 hx hown (mvT hZ (own_h hw 109 rfl)) (mvT hZ (own_h hw 110 rfl)) (mvT hZ (own_h hw 48 rfl)) (mvT hZ (own_h hw 111 rfl)) (by decide) (backOf (W := 0) (rmTb2 l Z a0 hw [] ch kc x0 x1 T2.heap n0 O2 ((Vc.ext E1).keep K2 (ninS (Nat.ne_of_lt (Nat.lt_of_lt_of_le Vc.lt (Nat.le_of_eq g1.symm))) nin0)) hG) hZ (own_h hw 111 rfl) (own_h hw 48 rfl) (by decide) (by decide)) (g := (mkF mm 23 #[.val (.ref ch), .val (.int (0 : Int32)), .val (.int (2 : Int32)), .val (.ref b1), .val (.int (0 : Int32)), .unset] [(.int (2 : Int32)), (.int (0 : Int32)), (.ref ch)])) rfl (by rw [hml]; rfl) (argsL := [(.ref ch), (.int (0 : Int32)), (.int (2 : Int32))]) (rest := []) (lenOf pd_445 rfl) rfl (Nat.le_of_eq rfl) (hb hby d9_23) (fun _ _ => ⟨rfl, rfl, (by decide : 1 + 1 ≤ _), (by decide : 2 + 4 ≤ _)⟩)
  dsimp only [Pt.U, Pt.locs, Pt.cells, Pt.slots] at X3 l3 y3 z3 st3 hQ3
  subst l3 y3 z3
  obtain ⟨ub3, ku3, rfl, N3q, K3, g_ub3, sz_ub3, Vu3⟩ := hQ3
  have O3 := O2.keep K3 all0
  have KK3 := KK2.trans K3 all0
  have N3 := Fr.app N2 N3q
  replace sz_ub3 := Nat.le_trans KK2.1 sz_ub3
  obtain ⟨_, _, ⟨T4, L4, k4, n4⟩, -, X4, ⟨Lc4, hQ4, l4, y4, z4⟩, st4⟩ := Jvm.LawKit.callS X3 hx hown (mvT hZ (own_h hw 125 rfl)) (mvT hZ (own_h hw 126 rfl)) (mvT hZ (own_h hw 48 rfl)) (mvT hZ (own_h hw 127 rfl)) (by decide) (backOf (W := 0) (rmGc l Z a0 hw [] ub3 ku3 (4 : Int32) [(own_u x0), (own_v x0), (own_u x1), (own_v x1)] (0 : Int32) x0 T3.heap n0 O3 Vu3 hG ⟨by decide, by decide⟩ ⟨by decide, by decide⟩ rfl rfl ha0 hb0) hZ (own_h hw 127 rfl) (own_h hw 48 rfl) (by decide) (by decide)) (g := (mkF mm 32 #[.val (.ref ch), .val (.int (0 : Int32)), .val (.int (2 : Int32)), .val (.ref b1), .val (.int (0 : Int32)), .val (.ref ub3)] [(.int (0 : Int32)), (.ref ub3)])) rfl (by rw [hml]; rfl) (argsL := [(.ref ub3), (.int (0 : Int32))]) (rest := []) (lenOf pd_68 rfl) rfl (Nat.le_of_eq rfl) (hb hby d9_32) (fun _ _ => ⟨rfl, rfl, (by decide : 2 + 0 ≤ _), (by decide : 6 + 0 ≤ _)⟩)
  dsimp only [Pt.U, Pt.locs, Pt.cells, Pt.slots] at X4 l4 y4 z4 st4 hQ4
  subst l4 y4 z4
  obtain ⟨rfl, N4q, e4⟩ := hQ4
  have N4 := Fr.app N3 N4q
  refine own_end X4 (v := some (.ref ub3)) (fun h => by rw [Bd.returns] at h; cases h) (by decide) (by decide) (fun fs hr => pre0 _ ?_) ?_
  · show Steps pg.tables ee below (s₁.setTop (mkF mm 0 #[.val (.ref ch), .val (.int (0 : Int32)), .val (.int (2 : Int32)), .unset, .unset, .unset] [])) _
    refine XS.iloadN X0.here hx rfl (hb hby d9_0) rfl ?_
    refine st1 _ ?_
    refine XS.astoreN X1.here hx rfl (hb hby d9_3) rfl rfl (l' := #[.val (.ref ch), .val (.int (0 : Int32)), .val (.int (2 : Int32)), .val (.ref b1), .unset, .unset]) rfl ?_
    refine XS.aloadN X1.here hx rfl (hb hby d9_4) rfl rfl ?_
    refine XS.iloadN X1.here hx rfl (hb hby d9_5) rfl ?_
    refine XS.aloadN X1.here hx rfl (hb hby d9_6) rfl rfl ?_
    refine XS.iconst X1.here hx rfl (hb hby d9_7) ?_
    refine XS.iloadN X1.here hx rfl (hb hby d9_8) rfl ?_
    show Steps pg.tables ee below (T1.setTop (mkF mm 9 #[.val (.ref ch), .val (.int (0 : Int32)), .val (.int (2 : Int32)), .val (.ref b1), .unset, .unset] [(.int (2 : Int32)), (.int (0 : Int32)), (.ref b1), (.int (0 : Int32)), (.ref ch)])) _
    refine st2 _ ?_
    refine XS.istore X2.here hx rfl (hb hby d9_12) rfl (l' := #[.val (.ref ch), .val (.int (0 : Int32)), .val (.int (2 : Int32)), .val (.ref b1), .val (.int (0 : Int32)), .unset]) rfl ?_
    refine XS.iload X2.here hx rfl (hb hby d9_14) rfl ?_
    refine XS.iloadN X2.here hx rfl (hb hby d9_16) rfl ?_
    refine XS.icmpNo X2.here hx rfl (hb hby d9_17) rfl (feq (by decide : ¬ ((0 : Int32) = (2 : Int32)))).1 ?_
    refine XS.aloadN X2.here hx rfl (hb hby d9_20) rfl rfl ?_
    refine XS.iloadN X2.here hx rfl (hb hby d9_21) rfl ?_
    refine XS.iloadN X2.here hx rfl (hb hby d9_22) rfl ?_
    show Steps pg.tables ee below (T2.setTop (mkF mm 23 #[.val (.ref ch), .val (.int (0 : Int32)), .val (.int (2 : Int32)), .val (.ref b1), .val (.int (0 : Int32)), .unset] [(.int (2 : Int32)), (.int (0 : Int32)), (.ref ch)])) _
    refine st3 _ ?_
    refine XS.astore X3.here hx rfl (hb hby d9_26) rfl rfl (l' := #[.val (.ref ch), .val (.int (0 : Int32)), .val (.int (2 : Int32)), .val (.ref b1), .val (.int (0 : Int32)), .val (.ref ub3)]) rfl ?_
    refine XS.aload X3.here hx rfl (hb hby d9_28) rfl rfl ?_
    refine XS.iload X3.here hx rfl (hb hby d9_30) rfl ?_
    refine st4 _ ?_
    refine XS.sipush X4.here hx rfl (hb hby d9_35) ?_
    refine XS.icmpYes X4.here hx rfl (pc0 := 38) (pc' := 54) rfl (hb hby d9_38) rfl (tlt hl0).2.2.1 (by decide) (by decide) ?_
    refine XS.aload X4.here hx rfl (hb hby d9_54) rfl rfl ?_
    show Steps pg.tables ee below (T4.setTop (mkF mm 56 #[.val (.ref ch), .val (.int (0 : Int32)), .val (.int (2 : Int32)), .val (.ref b1), .val (.int (0 : Int32)), .val (.ref ub3)] [(.ref ub3)])) _
    exact retOut X4 hx Bd.returns rfl (Or.inr (Or.inr (Or.inr (Or.inr ⟨rfl, rfl, rfl⟩)))) (hb hby d9_56) hr
  · show QU2 Z x0 x1 h0 n0 _ T4.heap _
    rw [e4]
    exact ⟨_, _, rfl, N4, KK3, g_ub3, sz_ub3, Vu3⟩
set_option maxRecDepth 65536 in
set_option maxHeartbeats 40000000 in
theorem rmCmU2_1 (l : Launch) (Z : State) (a0 : Array Value) (hw : ∀ d ∈ tables_1, d.before a0 Z = true) (ws : List Jvm.Cond) (ch : Addr) (kc : ClassId) (x0 : Int32) (x1 : Int32) (h0 : Heap) (n0 : Nat) (O0 : Old Z n0 h0) (Vc : Arv Z h0 ch kc .char (2 : Int32) [(.int x0), (.int x1)] (.int (0 : Int32))) (hG : own_G Z) (hl0 : ¬ ((255 : Int32) < x0)) (hl1 : (255 : Int32) < x1) (ha0 : ¬ (x0 < (0 : Int32))) (hb0 : ¬ ((65535 : Int32) < x0)) (ha1 : ¬ (x1 < (0 : Int32))) (hb1 : ¬ ((65535 : Int32) < x1)) :
    own_M l Z h0 (⟨"java/lang/StringUTF16", "compress", "([CII)[B"⟩ : MethodName) jdk_52_method_16_code 6 (some (.array .byte)) ws ({ frames := 3, cells := 2, slots := 6, locals := 40 } : Room) #[(.ref ch), (.int (0 : Int32)), (.int (2 : Int32))] (QU2 Z x0 x1 h0 n0) := by
  refine own_start (plainFor_of_name pn_26) ?_
  intro pg ee s mm below meth cc s₁ Bd hZ hh hx hby hml hown0 hnm X0 e0
  have hown : s.vm.findClass "java/lang/StringUTF16" = some mm.cls := hown0
  have N0 := Fr.nil n0
  have K0 : Keep h0 h0 ([] : List Addr) := Keep.refl _ _
  have pre0 := fun tg_ => castTop (tb := pg.tables) (e := ee) (below := below) (T := s₁) (t := tg_) (ef_9_440 mm ch (0 : Int32) (2 : Int32))
  obtain ⟨T1, h1, k1, X1, e1, E1, A1, st1⟩ := newP X0 hx hZ (own_h hw 19 rfl) e0 (g := (mkF mm 1 #[.val (.ref ch), .val (.int (0 : Int32)), .val (.int (2 : Int32)), .unset, .unset, .unset] [(.int (2 : Int32))])) rfl (hb hby d9_1) rfl (by decide) (cap := 2) (by decide) (by decide) (by decide) (by decide)
  obtain ⟨b1, g1⟩ : ∃ z, z = h0.size := ⟨_, rfl⟩
  rw [← g1] at A1 st1
  have g_b1 : n0 ≤ b1 := Nat.le_trans (O0.1 ▸ O0.2.1) (Nat.le_of_eq g1.symm)
  have sz_b1 : h0.size ≤ b1 := Nat.le_trans K0.1 (Nat.le_of_eq g1.symm)
  have O1 := O0.ext E1
  have KK1 := K0.ext E1
  have V1 : Arv Z h1 b1 k1 .byte (2 : Int32) [(.int (0 : Int32)), (.int (0 : Int32))] (.int (0 : Int32)) := (Arv.new A1 (by decide)).pad (pad_rep [] (.int (0 : Int32)) 2)
  obtain ⟨_, _, ⟨T2, L2, k2, n2⟩, -, X2, ⟨Lc2, hQ2, l2, y2, z2⟩, st2⟩ := Jvm.LawKit.callS X1 hx hown (mvT hZ (own_h hw 50 rfl)) (mvT hZ (own_h hw 51 rfl)) (mvT hZ (own_h hw 48 rfl)) (mvT hZ (own_h hw 52 rfl)) (by decide) (backOf (W := 0) (rmIn2_1 l Z a0 hw [] ch kc x0 x1 b1 k1 h1 n0 O1 (Vc.ext E1) V1 g_b1 (Nat.ne_of_lt (Nat.lt_of_lt_of_le Vc.lt (Nat.le_of_eq g1.symm))) hl0 hl1) hZ (own_h hw 52 rfl) (own_h hw 48 rfl) (by decide) (by decide)) (g := (mkF mm 9 #[.val (.ref ch), .val (.int (0 : Int32)), .val (.int (2 : Int32)), .val (.ref b1), .unset, .unset] [(.int (2 : Int32)), (.int (0 : Int32)), (.ref b1), (.int (0 : Int32)), (.ref ch)])) rfl (by rw [hml]; rfl) (argsL := [(.ref ch), (.int (0 : Int32)), (.ref b1), (.int (0 : Int32)), (.int (2 : Int32))]) (rest := []) (lenOf pd_433 rfl) rfl (Nat.le_of_eq rfl) (hb hby d9_9) (fun _ _ => ⟨rfl, e1, (by decide : 1 + 0 ≤ _), (by decide : 2 + 0 ≤ _)⟩)
  dsimp only [Pt.U, Pt.locs, Pt.cells, Pt.slots] at X2 l2 y2 z2 st2 hQ2
  subst l2 y2 z2
  obtain ⟨rfl, N2q, K2⟩ := hQ2
  have O2 := O1.keep K2 (allS g_b1 all0)
  have KK2 := KK1.trans K2 (allS (Or.inr sz_b1) all0)
  have N2 := Fr.app N0 N2q
  obtain ⟨_, _, ⟨T3, L3, k3, n3⟩, -, X3, ⟨Lc3, hQ3, l3, y3, z3⟩, st3⟩ := Jvm.LawKit.callS X2 hx hown (mvT hZ (own_h hw 109 rfl)) (mvT hZ (own_h hw 110 rfl)) (mvT hZ (own_h hw 48 rfl)) (mvT hZ (own_h hw 111 rfl)) (by decide) (backOf (W := 0) (rmTb2 l Z a0 hw [] ch kc x0 x1 T2.heap n0 O2 ((Vc.ext E1).keep K2 (ninS (Nat.ne_of_lt (Nat.lt_of_lt_of_le Vc.lt (Nat.le_of_eq g1.symm))) nin0)) hG) hZ (own_h hw 111 rfl) (own_h hw 48 rfl) (by decide) (by decide)) (g := (mkF mm 23 #[.val (.ref ch), .val (.int (0 : Int32)), .val (.int (2 : Int32)), .val (.ref b1), .val (.int (1 : Int32)), .unset] [(.int (2 : Int32)), (.int (0 : Int32)), (.ref ch)])) rfl (by rw [hml]; rfl) (argsL := [(.ref ch), (.int (0 : Int32)), (.int (2 : Int32))]) (rest := []) (lenOf pd_445 rfl) rfl (Nat.le_of_eq rfl) (hb hby d9_23) (fun _ _ => ⟨rfl, rfl, (by decide : 1 + 1 ≤ _), (by decide : 2 + 4 ≤ _)⟩)
  dsimp only [Pt.U, Pt.locs, Pt.cells, Pt.slots] at X3 l3 y3 z3 st3 hQ3
  subst l3 y3 z3
  obtain ⟨ub3, ku3, rfl, N3q, K3, g_ub3, sz_ub3, Vu3⟩ := hQ3
  have O3 := O2.keep K3 all0
  have KK3 := KK2.trans K3 all0
  have N3 := Fr.app N2 N3q
  replace sz_ub3 := Nat.le_trans KK2.1 sz_ub3
  obtain ⟨_, _, ⟨T4, L4, k4, n4⟩, -, X4, ⟨Lc4, hQ4, l4, y4, z4⟩, st4⟩ := Jvm.LawKit.callS X3 hx hown (mvT hZ (own_h hw 125 rfl)) (mvT hZ (own_h hw 126 rfl)) (mvT hZ (own_h hw 48 rfl)) (mvT hZ (own_h hw 127 rfl)) (by decide) (backOf (W := 0) (rmGc l Z a0 hw [] ub3 ku3 (4 : Int32) [(own_u x0), (own_v x0), (own_u x1), (own_v x1)] (1 : Int32) x1 T3.heap n0 O3 Vu3 hG ⟨by decide, by decide⟩ ⟨by decide, by decide⟩ rfl rfl ha1 hb1) hZ (own_h hw 127 rfl) (own_h hw 48 rfl) (by decide) (by decide)) (g := (mkF mm 32 #[.val (.ref ch), .val (.int (0 : Int32)), .val (.int (2 : Int32)), .val (.ref b1), .val (.int (1 : Int32)), .val (.ref ub3)] [(.int (1 : Int32)), (.ref ub3)])) rfl (by rw [hml]; rfl) (argsL := [(.ref ub3), (.int (1 : Int32))]) (rest := []) (lenOf pd_68 rfl) rfl (Nat.le_of_eq rfl) (hb hby d9_32) (fun _ _ => ⟨rfl, rfl, (by decide : 2 + 0 ≤ _), (by decide : 6 + 0 ≤ _)⟩)
  dsimp only [Pt.U, Pt.locs, Pt.cells, Pt.slots] at X4 l4 y4 z4 st4 hQ4
  subst l4 y4 z4
  obtain ⟨rfl, N4q, e4⟩ := hQ4
  have N4 := Fr.app N3 N4q
  refine own_end X4 (v := some (.ref ub3)) (fun h => by rw [Bd.returns] at h; cases h) (by decide) (by decide) (fun fs hr => pre0 _ ?_) ?_
  · show Steps pg.tables ee below (s₁.setTop (mkF mm 0 #[.val (.ref ch), .val (.int (0 : Int32)), .val (.int (2 : Int32)), .unset, .unset, .unset] [])) _
    refine XS.iloadN X0.here hx rfl (hb hby d9_0) rfl ?_
    refine st1 _ ?_
    refine XS.astoreN X1.here hx rfl (hb hby d9_3) rfl rfl (l' := #[.val (.ref ch), .val (.int (0 : Int32)), .val (.int (2 : Int32)), .val (.ref b1), .unset, .unset]) rfl ?_
    refine XS.aloadN X1.here hx rfl (hb hby d9_4) rfl rfl ?_
    refine XS.iloadN X1.here hx rfl (hb hby d9_5) rfl ?_
    refine XS.aloadN X1.here hx rfl (hb hby d9_6) rfl rfl ?_
    refine XS.iconst X1.here hx rfl (hb hby d9_7) ?_
    refine XS.iloadN X1.here hx rfl (hb hby d9_8) rfl ?_
    show Steps pg.tables ee below (T1.setTop (mkF mm 9 #[.val (.ref ch), .val (.int (0 : Int32)), .val (.int (2 : Int32)), .val (.ref b1), .unset, .unset] [(.int (2 : Int32)), (.int (0 : Int32)), (.ref b1), (.int (0 : Int32)), (.ref ch)])) _
    refine st2 _ ?_
    refine XS.istore X2.here hx rfl (hb hby d9_12) rfl (l' := #[.val (.ref ch), .val (.int (0 : Int32)), .val (.int (2 : Int32)), .val (.ref b1), .val (.int (1 : Int32)), .unset]) rfl ?_
    refine XS.iload X2.here hx rfl (hb hby d9_14) rfl ?_
    refine XS.iloadN X2.here hx rfl (hb hby d9_16) rfl ?_
    refine XS.icmpNo X2.here hx rfl (hb hby d9_17) rfl (feq (by decide : ¬ ((1 : Int32) = (2 : Int32)))).1 ?_
    refine XS.aloadN X2.here hx rfl (hb hby d9_20) rfl rfl ?_
    refine XS.iloadN X2.here hx rfl (hb hby d9_21) rfl ?_
    refine XS.iloadN X2.here hx rfl (hb hby d9_22) rfl ?_
    show Steps pg.tables ee below (T2.setTop (mkF mm 23 #[.val (.ref ch), .val (.int (0 : Int32)), .val (.int (2 : Int32)), .val (.ref b1), .val (.int (1 : Int32)), .unset] [(.int (2 : Int32)), (.int (0 : Int32)), (.ref ch)])) _
    refine st3 _ ?_
    refine XS.astore X3.here hx rfl (hb hby d9_26) rfl rfl (l' := #[.val (.ref ch), .val (.int (0 : Int32)), .val (.int (2 : Int32)), .val (.ref b1), .val (.int (1 : Int32)), .val (.ref ub3)]) rfl ?_
    refine XS.aload X3.here hx rfl (hb hby d9_28) rfl rfl ?_
    refine XS.iload X3.here hx rfl (hb hby d9_30) rfl ?_
    refine st4 _ ?_
    refine XS.sipush X4.here hx rfl (hb hby d9_35) ?_
    refine XS.icmpYes X4.here hx rfl (pc0 := 38) (pc' := 54) rfl (hb hby d9_38) rfl (tlt hl1).2.2.1 (by decide) (by decide) ?_
    refine XS.aload X4.here hx rfl (hb hby d9_54) rfl rfl ?_
    show Steps pg.tables ee below (T4.setTop (mkF mm 56 #[.val (.ref ch), .val (.int (0 : Int32)), .val (.int (2 : Int32)), .val (.ref b1), .val (.int (1 : Int32)), .val (.ref ub3)] [(.ref ub3)])) _
    exact retOut X4 hx Bd.returns rfl (Or.inr (Or.inr (Or.inr (Or.inr ⟨rfl, rfl, rfl⟩)))) (hb hby d9_56) hr
  · show QU2 Z x0 x1 h0 n0 _ T4.heap _
    rw [e4]
    exact ⟨_, _, rfl, N4, KK3, g_ub3, sz_ub3, Vu3⟩
set_option maxRecDepth 65536 in
theorem rmCmU2 (l : Launch) (Z : State) (a0 : Array Value) (hw : ∀ d ∈ tables_1, d.before a0 Z = true) (ws : List Jvm.Cond) (ch : Addr) (kc : ClassId) (x0 : Int32) (x1 : Int32) (h0 : Heap) (n0 : Nat) (O0 : Old Z n0 h0) (Vc : Arv Z h0 ch kc .char (2 : Int32) [(.int x0), (.int x1)] (.int (0 : Int32))) (hG : own_G Z) (hU : (255 : Int32) < x0 ∨ (255 : Int32) < x1) (ha0 : ¬ (x0 < (0 : Int32))) (hb0 : ¬ ((65535 : Int32) < x0)) (ha1 : ¬ (x1 < (0 : Int32))) (hb1 : ¬ ((65535 : Int32) < x1)) :
    own_M l Z h0 (⟨"java/lang/StringUTF16", "compress", "([CII)[B"⟩ : MethodName) jdk_52_method_16_code 6 (some (.array .byte)) ws ({ frames := 3, cells := 2, slots := 6, locals := 40 } : Room) #[(.ref ch), (.int (0 : Int32)), (.int (2 : Int32))] (QU2 Z x0 x1 h0 n0) := by
  by_cases hl0 : (255 : Int32) < x0
  · exact rmCmU2_0 l Z a0 hw ws ch kc x0 x1 h0 n0 O0 Vc hG hl0 ha0 hb0 ha1 hb1
  have hl1 := (hU.resolve_left hl0)
  exact rmCmU2_1 l Z a0 hw ws ch kc x0 x1 h0 n0 O0 Vc hG hl0 hl1 ha0 hb0 ha1 hb1
def QS2 (Z : State) (a : Addr) (x0 : Int32) (x1 : Int32) (h0 : Heap) (n0 : Nat) (v : Option Value) (h : Heap) (L : List Loc) : Prop := v = none ∧ Fr n0 L ∧ Keep h0 h [a] ∧ own_S2 Z h a x0 x1
def QrmCf2_0 (Z : State) (bb : Addr) (kb : ClassId) (vs : List Value) (h0 : Heap) (n0 : Nat) (v : Option Value) (h : Heap) (L : List Loc) : Prop := v = some (.int (0 : Int32)) ∧ Fr n0 L ∧ h = h0
set_option maxRecDepth 65536 in
set_option maxHeartbeats 40000000 in
theorem rmCf2_0 (l : Launch) (Z : State) (a0 : Array Value) (hw : ∀ d ∈ tables_1, d.before a0 Z = true) (ws : List Jvm.Cond) (bb : Addr) (kb : ClassId) (vs : List Value) (h0 : Heap) (n0 : Nat) (O0 : Old Z n0 h0) (Vb : Arv Z h0 bb kb .byte (2 : Int32) vs (.int (0 : Int32))) :
    own_M l Z h0 (⟨"java/lang/StringUTF16", "coderFromArrayLen", "([BI)B"⟩ : MethodName) jdk_52_method_15_code 2 (some .byte) ws ({ frames := 0, cells := 0, slots := 0, locals := 0 } : Room) #[(.ref bb), (.int (2 : Int32))] (QrmCf2_0 Z bb kb vs h0 n0) := by
  refine own_start (plainFor_of_name pn_26) ?_
  intro pg ee s mm below meth cc s₁ Bd hZ hh hx hby hml hown0 hnm X0 e0
  have hown : s.vm.findClass "java/lang/StringUTF16" = some mm.cls := hown0
  have N0 := Fr.nil n0
  have pre0 := fun tg_ => castTop (tb := pg.tables) (e := ee) (below := below) (T := s₁) (t := tg_) (ef_11_462 mm bb (2 : Int32))
  obtain ⟨cl1, Ar1, qk1, Sz1, Nn1, Hh1, Gg1⟩ := id Vb
  refine own_end X0 (v := some (.int (0 : Int32))) (fun h => by rw [Bd.returns] at h; cases h) (by decide) (by decide) (fun fs hr => pre0 _ ?_) ?_
  · show Steps pg.tables ee below (s₁.setTop (mkF mm 0 #[.val (.ref bb), .val (.int (2 : Int32))] [])) _
    refine XS.iloadN X0.here hx rfl (hb hby d11_0) rfl ?_
    refine XS.aloadN X0.here hx rfl (hb hby d11_1) rfl rfl ?_
    refine X0.arraylength hx (by rw [e0]; exact Ar1.1) (State.isArrayOf_alike hZ.alike Ar1.2.1) (g := (mkF mm 2 #[.val (.ref bb), .val (.int (2 : Int32))] [(.ref bb), (.int (2 : Int32))])) rfl rfl (hb hby d11_2) _ ?_
    rw [len_of Sz1 Nn1]
    refine XS.isub X0.here hx rfl (hb hby d11_3) rfl ?_
    refine XS.bipush X0.here hx rfl (hb hby d11_4) ?_
    refine XS.iushr X0.here hx rfl (hb hby d11_6) rfl ?_
    refine XS.i2b X0.here hx rfl (hb hby d11_7) rfl ?_
    exact retN X0 hx (t := .byte) Bd.returns (by simp) (hb hby d11_8) hr
  · show QrmCf2_0 Z bb kb vs h0 n0 _ s₁.heap _
    rw [e0]
    exact ⟨rfl, N0, rfl⟩
def QrmCf2_1 (Z : State) (bb : Addr) (kb : ClassId) (vs : List Value) (h0 : Heap) (n0 : Nat) (v : Option Value) (h : Heap) (L : List Loc) : Prop := v = some (.int (1 : Int32)) ∧ Fr n0 L ∧ h = h0
set_option maxRecDepth 65536 in
set_option maxHeartbeats 40000000 in
theorem rmCf2_1 (l : Launch) (Z : State) (a0 : Array Value) (hw : ∀ d ∈ tables_1, d.before a0 Z = true) (ws : List Jvm.Cond) (bb : Addr) (kb : ClassId) (vs : List Value) (h0 : Heap) (n0 : Nat) (O0 : Old Z n0 h0) (Vb : Arv Z h0 bb kb .byte (4 : Int32) vs (.int (0 : Int32))) :
    own_M l Z h0 (⟨"java/lang/StringUTF16", "coderFromArrayLen", "([BI)B"⟩ : MethodName) jdk_52_method_15_code 2 (some .byte) ws ({ frames := 0, cells := 0, slots := 0, locals := 0 } : Room) #[(.ref bb), (.int (2 : Int32))] (QrmCf2_1 Z bb kb vs h0 n0) := by
  refine own_start (plainFor_of_name pn_26) ?_
  intro pg ee s mm below meth cc s₁ Bd hZ hh hx hby hml hown0 hnm X0 e0
  have hown : s.vm.findClass "java/lang/StringUTF16" = some mm.cls := hown0
  have N0 := Fr.nil n0
  have pre0 := fun tg_ => castTop (tb := pg.tables) (e := ee) (below := below) (T := s₁) (t := tg_) (ef_11_462 mm bb (2 : Int32))
  obtain ⟨cl1, Ar1, qk1, Sz1, Nn1, Hh1, Gg1⟩ := id Vb
  refine own_end X0 (v := some (.int (1 : Int32))) (fun h => by rw [Bd.returns] at h; cases h) (by decide) (by decide) (fun fs hr => pre0 _ ?_) ?_
  · show Steps pg.tables ee below (s₁.setTop (mkF mm 0 #[.val (.ref bb), .val (.int (2 : Int32))] [])) _
    refine XS.iloadN X0.here hx rfl (hb hby d11_0) rfl ?_
    refine XS.aloadN X0.here hx rfl (hb hby d11_1) rfl rfl ?_
    refine X0.arraylength hx (by rw [e0]; exact Ar1.1) (State.isArrayOf_alike hZ.alike Ar1.2.1) (g := (mkF mm 2 #[.val (.ref bb), .val (.int (2 : Int32))] [(.ref bb), (.int (2 : Int32))])) rfl rfl (hb hby d11_2) _ ?_
    rw [len_of Sz1 Nn1]
    refine XS.isub X0.here hx rfl (hb hby d11_3) rfl ?_
    refine XS.bipush X0.here hx rfl (hb hby d11_4) ?_
    refine XS.iushr X0.here hx rfl (hb hby d11_6) rfl ?_
    refine XS.i2b X0.here hx rfl (hb hby d11_7) rfl ?_
    exact retN X0 hx (t := .byte) Bd.returns (by simp) (hb hby d11_8) hr
  · show QrmCf2_1 Z bb kb vs h0 n0 _ s₁.heap _
    rw [e0]
    exact ⟨rfl, N0, rfl⟩
set_option maxRecDepth 65536 in
set_option maxHeartbeats 40000000 in
theorem rmV2_0 (l : Launch) (Z : State) (a0 : Array Value) (hw : ∀ d ∈ tables_1, d.before a0 Z = true) (ws : List Jvm.Cond) (a : Addr) (ch : Addr) (kc : ClassId) (x0 : Int32) (x1 : Int32) (cs : Int32) (h0 : Heap) (n0 : Nat) (O0 : Old Z n0 h0) (E_a : Exa Z h0 a "java/lang/String") (F_value_a : Fld Z h0 a "java/lang/String" "value" "[B" .null) (F_coder_a : Fld Z h0 a "java/lang/String" "coder" "B" (.int (0 : Int32))) (g_a : n0 ≤ a) (Vc : Arv Z h0 ch kc .char (2 : Int32) [(.int x0), (.int x1)] (.int (0 : Int32))) (hca : ch ≠ a) (hC : own_C Z cs) (hl0 : ¬ ((255 : Int32) < x0)) (hl1 : ¬ ((255 : Int32) < x1)) :
    own_M l Z h0 (⟨"java/lang/String", "<init>", "([CIILjava/lang/Void;)V"⟩ : MethodName) jdk_42_method_149_code 6 none ws ({ frames := 4, cells := 2, slots := 6, locals := 57 } : Room) #[(.ref a), (.ref ch), (.int (0 : Int32)), (.int (2 : Int32)), .null] (QS2 Z a x0 x1 h0 n0) := by
  refine own_start (plainFor_of_name pn_18) ?_
  intro pg ee s mm below meth cc s₁ Bd hZ hh hx hby hml hown0 hnm X0 e0
  have hown : s.vm.findClass "java/lang/String" = some mm.cls := hown0
  have N0 := Fr.nil n0
  have K0 : Keep h0 h0 ([a] : List Addr) := Keep.refl _ _
  have pre0 := fun tg_ => castTop (tb := pg.tables) (e := ee) (below := below) (T := s₁) (t := tg_) (ef_3_484 mm a ch (0 : Int32) (2 : Int32))
  obtain ⟨T1, X1, e1, st1⟩ := initO X0 hx hZ hown (own_h hw 15 rfl) (own_h hw 16 rfl) (own_h hw 17 rfl) e0 (g := (mkF mm 1 #[.val (.ref a), .val (.ref ch), .val (.int (0 : Int32)), .val (.int (2 : Int32)), .val .null, .unset] [(.ref a)])) rfl (by rw [hml]; rfl) rfl (hb hby d3_1) (by decide) (W := 0) (by show 2 * 0 + _ ≤ _; exact Nat.le_of_eq rfl) (by decide)
  obtain ⟨T2, X2, e2, st2⟩ := getS2 X1 hx hZ hown (host := "") (Or.inl (own_h hw 40 rfl)) Via.refl e1 (hC.1.ext O0.2) (g := (mkF mm 27 #[.val (.ref a), .val (.ref ch), .val (.int (0 : Int32)), .val (.int (2 : Int32)), .val .null, .unset] [])) rfl (hb hby d3_27)
  obtain ⟨_, _, ⟨T3, L3, k3, n3⟩, -, X3, ⟨Lc3, hQ3, l3, y3, z3⟩, st3⟩ := Jvm.LawKit.callS X2 hx hown (mvT hZ (own_h hw 46 rfl)) (mvT hZ (own_h hw 47 rfl)) (mvT hZ (own_h hw 48 rfl)) (mvT hZ (own_h hw 49 rfl)) (by decide) (backOf (W := 0) (rmCmL2 l Z a0 hw [] ch kc x0 x1 h0 n0 O0 Vc hl0 hl1) hZ (own_h hw 49 rfl) (own_h hw 48 rfl) (by decide) (by decide)) (g := (mkF mm 36 #[.val (.ref a), .val (.ref ch), .val (.int (0 : Int32)), .val (.int (2 : Int32)), .val .null, .unset] [(.int (2 : Int32)), (.int (0 : Int32)), (.ref ch)])) rfl (by rw [hml]; rfl) (argsL := [(.ref ch), (.int (0 : Int32)), (.int (2 : Int32))]) (rest := []) (lenOf pd_445 rfl) rfl (Nat.le_of_eq rfl) (hb hby d3_36) (fun _ _ => ⟨rfl, e2, (by decide : 0 + 1 ≤ _), (by decide : 0 + 2 ≤ _)⟩)
  dsimp only [Pt.U, Pt.locs, Pt.cells, Pt.slots] at X3 l3 y3 z3 st3 hQ3
  subst l3 y3 z3
  obtain ⟨bb3, kb3, rfl, N3q, K3, g_bb3, sz_bb3, Vw3⟩ := hQ3
  have O3 := O0.keep K3 all0
  have KK3 := K0.trans K3 all0
  have N3 := Fr.app N0 N3q
  obtain ⟨_, _, ⟨T4, L4, k4, n4⟩, -, X4, ⟨Lc4, hQ4, l4, y4, z4⟩, st4⟩ := Jvm.LawKit.callS X3 hx hown (mvT hZ (own_h hw 53 rfl)) (mvT hZ (own_h hw 54 rfl)) (mvT hZ (own_h hw 48 rfl)) (mvT hZ (own_h hw 55 rfl)) (by decide) (backOf (W := 1) (rmCf2_0 l Z a0 hw [] bb3 kb3 [(own_l x0), (own_l x1)] T3.heap n0 O3 Vw3) hZ (own_h hw 55 rfl) (own_h hw 48 rfl) (by decide) (by decide)) (g := (mkF mm 45 #[.val (.ref a), .val (.ref ch), .val (.int (0 : Int32)), .val (.int (2 : Int32)), .val .null, .val (.ref bb3)] [(.int (2 : Int32)), (.ref bb3), (.ref a)])) rfl (by rw [hml]; rfl) (argsL := [(.ref bb3), (.int (2 : Int32))]) (rest := [(.ref a)]) (lenOf pd_478 rfl) rfl (Nat.le_of_eq rfl) (hb hby d3_45) (fun _ _ => ⟨rfl, rfl, (by decide : 1 + 0 ≤ _), (by decide : 2 + 0 ≤ _)⟩)
  dsimp only [Pt.U, Pt.locs, Pt.cells, Pt.slots] at X4 l4 y4 z4 st4 hQ4
  subst l4 y4 z4
  obtain ⟨rfl, N4q, e4⟩ := hQ4
  have N4 := Fr.app N3 N4q
  obtain ⟨T5, h5, X5, e5, W5, st5⟩ := putFN X4 hx hZ hown (own_h hw 25 rfl) Via.refl e4 (F_coder_a.keep K3 nin0) (E_a.keep K3) (Or.inr ⟨(own_h hw 21 rfl), rfl, hnm⟩) (own_h hw 6 rfl) (ty := .byte) (v' := (.int (0 : Int32))) (by decide) rfl (by decide) (g := (mkF mm 48 #[.val (.ref a), .val (.ref ch), .val (.int (0 : Int32)), .val (.int (2 : Int32)), .val .null, .val (.ref bb3)] [(.int (0 : Int32)), (.ref a)])) rfl rfl (hb hby d3_48)
  have Fw5 : Fld Z h5 a "java/lang/String" "coder" "B" (.int (0 : Int32)) := (F_coder_a.keep K3 nin0).same W5
  have N5 := Fr.snoc X5 N4 g_a
  have O5 := O3.wr W5 g_a
  have KK5 := KK3.wr W5 (Or.inl (by simp))
  obtain ⟨T6, h6, X6, e6, W6, st6⟩ := putF X5 hx hZ hown (host := "") (Or.inl (own_h hw 24 rfl)) Via.refl e5 ((F_value_a.keep K3 nin0).other W5 (Or.inr (slot_ne (Or.inr (own_h hw 20 rfl)) (Or.inr (own_h hw 21 rfl)) (by decide) (t := (.array .byte)) (t' := .byte) (by decide) (by decide)))) ((E_a.keep K3).wr W5) (Or.inr ⟨(own_h hw 20 rfl), rfl, hnm⟩) (own_h hw 6 rfl) (ty := (.array .byte)) (by decide) rfl rfl (g := (mkF mm 54 #[.val (.ref a), .val (.ref ch), .val (.int (0 : Int32)), .val (.int (2 : Int32)), .val .null, .val (.ref bb3)] [(.ref bb3), (.ref a)])) rfl rfl (hb hby d3_54)
  have Fw6 : Fld Z h6 a "java/lang/String" "value" "[B" (.ref bb3) := ((F_value_a.keep K3 nin0).other W5 (Or.inr (slot_ne (Or.inr (own_h hw 20 rfl)) (Or.inr (own_h hw 21 rfl)) (by decide) (t := (.array .byte)) (t' := .byte) (by decide) (by decide)))).same W6
  have N6 := Fr.snoc X6 N5 g_a
  have O6 := O5.wr W6 g_a
  have KK6 := KK5.wr W6 (Or.inl (by simp))
  refine own_end X6 (v := none) (fun _ => rfl) (by decide) (by decide) (fun fs hr => pre0 _ ?_) ?_
  · show Steps pg.tables ee below (s₁.setTop (mkF mm 0 #[.val (.ref a), .val (.ref ch), .val (.int (0 : Int32)), .val (.int (2 : Int32)), .val .null, .unset] [])) _
    refine XS.aloadN X0.here hx rfl (hb hby d3_0) rfl rfl ?_
    refine st1 _ ?_
    refine XS.iloadN X1.here hx rfl (hb hby d3_4) rfl ?_
    refine XS.ifYes X1.here hx rfl (pc0 := 5) (pc' := 27) rfl (hb hby d3_5) rfl ((if0 _ _).trans (feq (by decide : ¬ ((2 : Int32) = (0 : Int32)))).2) (by decide) (by decide) ?_
    refine st2 _ ?_
    refine XS.ifNo X2.here hx rfl (hb hby d3_30) rfl ((if0 _ _).trans (feq hC.2).1) ?_
    refine XS.aloadN X2.here hx rfl (hb hby d3_33) rfl rfl ?_
    refine XS.iloadN X2.here hx rfl (hb hby d3_34) rfl ?_
    show Steps pg.tables ee below (T2.setTop (mkF mm 35 #[.val (.ref a), .val (.ref ch), .val (.int (0 : Int32)), .val (.int (2 : Int32)), .val .null, .unset] [(.int (0 : Int32)), (.ref ch)])) _
    refine XS.iloadN X2.here hx rfl (hb hby d3_35) rfl ?_
    refine st3 _ ?_
    refine XS.astore X3.here hx rfl (hb hby d3_39) rfl rfl (l' := #[.val (.ref a), .val (.ref ch), .val (.int (0 : Int32)), .val (.int (2 : Int32)), .val .null, .val (.ref bb3)]) rfl ?_
    refine XS.aloadN X3.here hx rfl (hb hby d3_41) rfl rfl ?_
    refine XS.aload X3.here hx rfl (hb hby d3_42) rfl rfl ?_
    refine XS.iloadN X3.here hx rfl (hb hby d3_44) rfl ?_
    refine st4 _ ?_
    refine st5 _ ?_
    show Steps pg.tables ee below (T5.setTop (mkF mm 51 #[.val (.ref a), .val (.ref ch), .val (.int (0 : Int32)), .val (.int (2 : Int32)), .val .null, .val (.ref bb3)] [])) _
    refine XS.aloadN X5.here hx rfl (hb hby d3_51) rfl rfl ?_
    refine XS.aload X5.here hx rfl (hb hby d3_52) rfl rfl ?_
    refine st6 _ ?_
    exact X6.returnOut hx Bd.returns (hb hby d3_57) hr
  · show QS2 Z a x0 x1 h0 n0 _ T6.heap _
    rw [e6]
    exact ⟨rfl, N6, KK6, (((E_a.keep K3).wr W5).wr W6), _, _, Fw6, Or.inl ⟨(Fw5.other W6 (Or.inr (slot_ne (Or.inr (own_h hw 21 rfl)) (Or.inr (own_h hw 20 rfl)) (by decide) (t := .byte) (t' := (.array .byte)) (by decide) (by decide)))), hl0, hl1, ((Vw3.other W5 (Ne.symm (Nat.ne_of_lt (Nat.lt_of_lt_of_le E_a.lt sz_bb3)))).other W6 (Ne.symm (Nat.ne_of_lt (Nat.lt_of_lt_of_le E_a.lt sz_bb3))))⟩⟩
set_option maxRecDepth 65536 in
set_option maxHeartbeats 40000000 in
theorem rmV2_1 (l : Launch) (Z : State) (a0 : Array Value) (hw : ∀ d ∈ tables_1, d.before a0 Z = true) (ws : List Jvm.Cond) (a : Addr) (ch : Addr) (kc : ClassId) (x0 : Int32) (x1 : Int32) (cs : Int32) (h0 : Heap) (n0 : Nat) (O0 : Old Z n0 h0) (E_a : Exa Z h0 a "java/lang/String") (F_value_a : Fld Z h0 a "java/lang/String" "value" "[B" .null) (F_coder_a : Fld Z h0 a "java/lang/String" "coder" "B" (.int (0 : Int32))) (g_a : n0 ≤ a) (Vc : Arv Z h0 ch kc .char (2 : Int32) [(.int x0), (.int x1)] (.int (0 : Int32))) (hca : ch ≠ a) (hC : own_C Z cs) (hU : (255 : Int32) < x0 ∨ (255 : Int32) < x1) (ha0 : ¬ (x0 < (0 : Int32))) (hb0 : ¬ ((65535 : Int32) < x0)) (ha1 : ¬ (x1 < (0 : Int32))) (hb1 : ¬ ((65535 : Int32) < x1)) (hG : own_G Z) :
    own_M l Z h0 (⟨"java/lang/String", "<init>", "([CIILjava/lang/Void;)V"⟩ : MethodName) jdk_42_method_149_code 6 none ws ({ frames := 4, cells := 2, slots := 6, locals := 57 } : Room) #[(.ref a), (.ref ch), (.int (0 : Int32)), (.int (2 : Int32)), .null] (QS2 Z a x0 x1 h0 n0) := by
  refine own_start (plainFor_of_name pn_18) ?_
  intro pg ee s mm below meth cc s₁ Bd hZ hh hx hby hml hown0 hnm X0 e0
  have hown : s.vm.findClass "java/lang/String" = some mm.cls := hown0
  have N0 := Fr.nil n0
  have K0 : Keep h0 h0 ([a] : List Addr) := Keep.refl _ _
  have pre0 := fun tg_ => castTop (tb := pg.tables) (e := ee) (below := below) (T := s₁) (t := tg_) (ef_3_484 mm a ch (0 : Int32) (2 : Int32))
  obtain ⟨T1, X1, e1, st1⟩ := initO X0 hx hZ hown (own_h hw 15 rfl) (own_h hw 16 rfl) (own_h hw 17 rfl) e0 (g := (mkF mm 1 #[.val (.ref a), .val (.ref ch), .val (.int (0 : Int32)), .val (.int (2 : Int32)), .val .null, .unset] [(.ref a)])) rfl (by rw [hml]; rfl) rfl (hb hby d3_1) (by decide) (W := 0) (by show 2 * 0 + _ ≤ _; exact Nat.le_of_eq rfl) (by decide)
  obtain ⟨T2, X2, e2, st2⟩ := getS2 X1 hx hZ hown (host := "") (Or.inl (own_h hw 40 rfl)) Via.refl e1 (hC.1.ext O0.2) (g := (mkF mm 27 #[.val (.ref a), .val (.ref ch), .val (.int (0 : Int32)), .val (.int (2 : Int32)), .val .null, .unset] [])) rfl (hb hby d3_27)
  obtain ⟨_, _, ⟨T3, L3, k3, n3⟩, -, X3, ⟨Lc3, hQ3, l3, y3, z3⟩, st3⟩ := Jvm.LawKit.callS X2 hx hown (mvT hZ (own_h hw 46 rfl)) (mvT hZ (own_h hw 47 rfl)) (mvT hZ (own_h hw 48 rfl)) (mvT hZ (own_h hw 49 rfl)) (by decide) (backOf (W := 0) (rmCmU2 l Z a0 hw [] ch kc x0 x1 h0 n0 O0 Vc hG hU ha0 hb0 ha1 hb1) hZ (own_h hw 49 rfl) (own_h hw 48 rfl) (by decide) (by decide)) (g := (mkF mm 36 #[.val (.ref a), .val (.ref ch), .val (.int (0 : Int32)), .val (.int (2 : Int32)), .val .null, .unset] [(.int (2 : Int32)), (.int (0 : Int32)), (.ref ch)])) rfl (by rw [hml]; rfl) (argsL := [(.ref ch), (.int (0 : Int32)), (.int (2 : Int32))]) (rest := []) (lenOf pd_445 rfl) rfl (Nat.le_of_eq rfl) (hb hby d3_36) (fun _ _ => ⟨rfl, e2, (by decide : 0 + 2 ≤ _), (by decide : 0 + 6 ≤ _)⟩)
  dsimp only [Pt.U, Pt.locs, Pt.cells, Pt.slots] at X3 l3 y3 z3 st3 hQ3
  subst l3 y3 z3
  obtain ⟨bb3, kb3, rfl, N3q, K3, g_bb3, sz_bb3, Vw3⟩ := hQ3
  have O3 := O0.keep K3 all0
  have KK3 := K0.trans K3 all0
  have N3 := Fr.app N0 N3q
  obtain ⟨_, _, ⟨T4, L4, k4, n4⟩, -, X4, ⟨Lc4, hQ4, l4, y4, z4⟩, st4⟩ := Jvm.LawKit.callS X3 hx hown (mvT hZ (own_h hw 53 rfl)) (mvT hZ (own_h hw 54 rfl)) (mvT hZ (own_h hw 48 rfl)) (mvT hZ (own_h hw 55 rfl)) (by decide) (backOf (W := 1) (rmCf2_1 l Z a0 hw [] bb3 kb3 [(own_u x0), (own_v x0), (own_u x1), (own_v x1)] T3.heap n0 O3 Vw3) hZ (own_h hw 55 rfl) (own_h hw 48 rfl) (by decide) (by decide)) (g := (mkF mm 45 #[.val (.ref a), .val (.ref ch), .val (.int (0 : Int32)), .val (.int (2 : Int32)), .val .null, .val (.ref bb3)] [(.int (2 : Int32)), (.ref bb3), (.ref a)])) rfl (by rw [hml]; rfl) (argsL := [(.ref bb3), (.int (2 : Int32))]) (rest := [(.ref a)]) (lenOf pd_478 rfl) rfl (Nat.le_of_eq rfl) (hb hby d3_45) (fun _ _ => ⟨rfl, rfl, (by decide : 2 + 0 ≤ _), (by decide : 6 + 0 ≤ _)⟩)
  dsimp only [Pt.U, Pt.locs, Pt.cells, Pt.slots] at X4 l4 y4 z4 st4 hQ4
  subst l4 y4 z4
  obtain ⟨rfl, N4q, e4⟩ := hQ4
  have N4 := Fr.app N3 N4q
  obtain ⟨T5, h5, X5, e5, W5, st5⟩ := putFN X4 hx hZ hown (own_h hw 25 rfl) Via.refl e4 (F_coder_a.keep K3 nin0) (E_a.keep K3) (Or.inr ⟨(own_h hw 21 rfl), rfl, hnm⟩) (own_h hw 6 rfl) (ty := .byte) (v' := (.int (1 : Int32))) (by decide) rfl (by decide) (g := (mkF mm 48 #[.val (.ref a), .val (.ref ch), .val (.int (0 : Int32)), .val (.int (2 : Int32)), .val .null, .val (.ref bb3)] [(.int (1 : Int32)), (.ref a)])) rfl rfl (hb hby d3_48)
  have Fw5 : Fld Z h5 a "java/lang/String" "coder" "B" (.int (1 : Int32)) := (F_coder_a.keep K3 nin0).same W5
  have N5 := Fr.snoc X5 N4 g_a
  have O5 := O3.wr W5 g_a
  have KK5 := KK3.wr W5 (Or.inl (by simp))
  obtain ⟨T6, h6, X6, e6, W6, st6⟩ := putF X5 hx hZ hown (host := "") (Or.inl (own_h hw 24 rfl)) Via.refl e5 ((F_value_a.keep K3 nin0).other W5 (Or.inr (slot_ne (Or.inr (own_h hw 20 rfl)) (Or.inr (own_h hw 21 rfl)) (by decide) (t := (.array .byte)) (t' := .byte) (by decide) (by decide)))) ((E_a.keep K3).wr W5) (Or.inr ⟨(own_h hw 20 rfl), rfl, hnm⟩) (own_h hw 6 rfl) (ty := (.array .byte)) (by decide) rfl rfl (g := (mkF mm 54 #[.val (.ref a), .val (.ref ch), .val (.int (0 : Int32)), .val (.int (2 : Int32)), .val .null, .val (.ref bb3)] [(.ref bb3), (.ref a)])) rfl rfl (hb hby d3_54)
  have Fw6 : Fld Z h6 a "java/lang/String" "value" "[B" (.ref bb3) := ((F_value_a.keep K3 nin0).other W5 (Or.inr (slot_ne (Or.inr (own_h hw 20 rfl)) (Or.inr (own_h hw 21 rfl)) (by decide) (t := (.array .byte)) (t' := .byte) (by decide) (by decide)))).same W6
  have N6 := Fr.snoc X6 N5 g_a
  have O6 := O5.wr W6 g_a
  have KK6 := KK5.wr W6 (Or.inl (by simp))
  refine own_end X6 (v := none) (fun _ => rfl) (by decide) (by decide) (fun fs hr => pre0 _ ?_) ?_
  · show Steps pg.tables ee below (s₁.setTop (mkF mm 0 #[.val (.ref a), .val (.ref ch), .val (.int (0 : Int32)), .val (.int (2 : Int32)), .val .null, .unset] [])) _
    refine XS.aloadN X0.here hx rfl (hb hby d3_0) rfl rfl ?_
    refine st1 _ ?_
    refine XS.iloadN X1.here hx rfl (hb hby d3_4) rfl ?_
    refine XS.ifYes X1.here hx rfl (pc0 := 5) (pc' := 27) rfl (hb hby d3_5) rfl ((if0 _ _).trans (feq (by decide : ¬ ((2 : Int32) = (0 : Int32)))).2) (by decide) (by decide) ?_
    refine st2 _ ?_
    refine XS.ifNo X2.here hx rfl (hb hby d3_30) rfl ((if0 _ _).trans (feq hC.2).1) ?_
    refine XS.aloadN X2.here hx rfl (hb hby d3_33) rfl rfl ?_
    refine XS.iloadN X2.here hx rfl (hb hby d3_34) rfl ?_
    show Steps pg.tables ee below (T2.setTop (mkF mm 35 #[.val (.ref a), .val (.ref ch), .val (.int (0 : Int32)), .val (.int (2 : Int32)), .val .null, .unset] [(.int (0 : Int32)), (.ref ch)])) _
    refine XS.iloadN X2.here hx rfl (hb hby d3_35) rfl ?_
    refine st3 _ ?_
    refine XS.astore X3.here hx rfl (hb hby d3_39) rfl rfl (l' := #[.val (.ref a), .val (.ref ch), .val (.int (0 : Int32)), .val (.int (2 : Int32)), .val .null, .val (.ref bb3)]) rfl ?_
    refine XS.aloadN X3.here hx rfl (hb hby d3_41) rfl rfl ?_
    refine XS.aload X3.here hx rfl (hb hby d3_42) rfl rfl ?_
    refine XS.iloadN X3.here hx rfl (hb hby d3_44) rfl ?_
    refine st4 _ ?_
    refine st5 _ ?_
    show Steps pg.tables ee below (T5.setTop (mkF mm 51 #[.val (.ref a), .val (.ref ch), .val (.int (0 : Int32)), .val (.int (2 : Int32)), .val .null, .val (.ref bb3)] [])) _
    refine XS.aloadN X5.here hx rfl (hb hby d3_51) rfl rfl ?_
    refine XS.aload X5.here hx rfl (hb hby d3_52) rfl rfl ?_
    refine st6 _ ?_
    exact X6.returnOut hx Bd.returns (hb hby d3_57) hr
  · show QS2 Z a x0 x1 h0 n0 _ T6.heap _
    rw [e6]
    exact ⟨rfl, N6, KK6, (((E_a.keep K3).wr W5).wr W6), _, _, Fw6, Or.inr ⟨(Fw5.other W6 (Or.inr (slot_ne (Or.inr (own_h hw 21 rfl)) (Or.inr (own_h hw 20 rfl)) (by decide) (t := .byte) (t' := (.array .byte)) (by decide) (by decide)))), ((Vw3.other W5 (Ne.symm (Nat.ne_of_lt (Nat.lt_of_lt_of_le E_a.lt sz_bb3)))).other W6 (Ne.symm (Nat.ne_of_lt (Nat.lt_of_lt_of_le E_a.lt sz_bb3))))⟩⟩
set_option maxRecDepth 65536 in
theorem rmV2 (l : Launch) (Z : State) (a0 : Array Value) (hw : ∀ d ∈ tables_1, d.before a0 Z = true) (ws : List Jvm.Cond) (a : Addr) (ch : Addr) (kc : ClassId) (x0 : Int32) (x1 : Int32) (cs : Int32) (h0 : Heap) (n0 : Nat) (O0 : Old Z n0 h0) (E_a : Exa Z h0 a "java/lang/String") (F_value_a : Fld Z h0 a "java/lang/String" "value" "[B" .null) (F_coder_a : Fld Z h0 a "java/lang/String" "coder" "B" (.int (0 : Int32))) (g_a : n0 ≤ a) (Vc : Arv Z h0 ch kc .char (2 : Int32) [(.int x0), (.int x1)] (.int (0 : Int32))) (hca : ch ≠ a) (hC : own_C Z cs) (ha0 : ¬ (x0 < (0 : Int32))) (hb0 : ¬ ((65535 : Int32) < x0)) (ha1 : ¬ (x1 < (0 : Int32))) (hb1 : ¬ ((65535 : Int32) < x1)) (hG : own_G Z) :
    own_M l Z h0 (⟨"java/lang/String", "<init>", "([CIILjava/lang/Void;)V"⟩ : MethodName) jdk_42_method_149_code 6 none ws ({ frames := 4, cells := 2, slots := 6, locals := 57 } : Room) #[(.ref a), (.ref ch), (.int (0 : Int32)), (.int (2 : Int32)), .null] (QS2 Z a x0 x1 h0 n0) := by
  by_cases hl0 : (255 : Int32) < x0
  · exact rmV2_1 l Z a0 hw ws a ch kc x0 x1 cs h0 n0 O0 E_a F_value_a F_coder_a g_a Vc hca hC (Or.inl hl0) ha0 hb0 ha1 hb1 hG
  by_cases hl1 : (255 : Int32) < x1
  · exact rmV2_1 l Z a0 hw ws a ch kc x0 x1 cs h0 n0 O0 E_a F_value_a F_coder_a g_a Vc hca hC (Or.inr (hl1)) ha0 hb0 ha1 hb1 hG
  exact rmV2_0 l Z a0 hw ws a ch kc x0 x1 cs h0 n0 O0 E_a F_value_a F_coder_a g_a Vc hca hC hl0 hl1
set_option maxRecDepth 65536 in
set_option maxHeartbeats 40000000 in
theorem rmC2 (l : Launch) (Z : State) (a0 : Array Value) (hw : ∀ d ∈ tables_1, d.before a0 Z = true) (ws : List Jvm.Cond) (a : Addr) (ch : Addr) (kc : ClassId) (x0 : Int32) (x1 : Int32) (cs : Int32) (h0 : Heap) (n0 : Nat) (O0 : Old Z n0 h0) (E_a : Exa Z h0 a "java/lang/String") (F_value_a : Fld Z h0 a "java/lang/String" "value" "[B" .null) (F_coder_a : Fld Z h0 a "java/lang/String" "coder" "B" (.int (0 : Int32))) (g_a : n0 ≤ a) (Vc : Arv Z h0 ch kc .char (2 : Int32) [(.int x0), (.int x1)] (.int (0 : Int32))) (hca : ch ≠ a) (hC : own_C Z cs) (ha0 : ¬ (x0 < (0 : Int32))) (hb0 : ¬ ((65535 : Int32) < x0)) (ha1 : ¬ (x1 < (0 : Int32))) (hb1 : ¬ ((65535 : Int32) < x1)) (hG : own_G Z) :
    own_M l Z h0 (⟨"java/lang/String", "<init>", "([C)V"⟩ : MethodName) jdk_42_method_3_code 2 none ws ({ frames := 5, cells := 2, slots := 6, locals := 74 } : Room) #[(.ref a), (.ref ch)] (QS2 Z a x0 x1 h0 n0) := by
  refine own_start (plainFor_of_name pn_18) ?_
  intro pg ee s mm below meth cc s₁ Bd hZ hh hx hby hml hown0 hnm X0 e0
  have hown : s.vm.findClass "java/lang/String" = some mm.cls := hown0
  have N0 := Fr.nil n0
  have K0 : Keep h0 h0 ([a] : List Addr) := Keep.refl _ _
  have pre0 := fun tg_ => castTop (tb := pg.tables) (e := ee) (below := below) (T := s₁) (t := tg_) (ef_2_494 mm a ch)
  obtain ⟨cl1, Ar1, qk1, Sz1, Nn1, Hh1, Gg1⟩ := id Vc
  obtain ⟨_, _, ⟨T2, L2, k2, n2⟩, -, X2, ⟨Lc2, hQ2, l2, y2, z2⟩, st2⟩ := X0.specialBack hx rfl hown (mvT hZ (own_h hw 11 rfl)) (mvT hZ (own_h hw 12 rfl)) (mvT hZ (own_h hw 14 rfl)) (by decide) (backOf (W := 0) (rmV2 l Z a0 hw [] a ch kc x0 x1 cs h0 n0 O0 E_a F_value_a F_coder_a g_a Vc hca hC ha0 hb0 ha1 hb1 hG) hZ (own_h hw 14 rfl) (own_h hw 7 rfl) (by decide) (by decide)) (g := (mkF mm 6 #[.val (.ref a), .val (.ref ch)] [.null, (.int (2 : Int32)), (.int (0 : Int32)), (.ref ch), (.ref a)])) rfl (by rw [hml]; rfl) (Steps.refl _) (a := a) (argsL := [(.ref ch), (.int (0 : Int32)), (.int (2 : Int32)), .null]) (rest := []) (lenOf pd_492 rfl) rfl (Nat.le_of_eq rfl) (hb hby d2_6) (fun _ _ => ⟨rfl, e0, (by decide : 0 + 2 ≤ _), (by decide : 0 + 6 ≤ _)⟩)
  dsimp only [Pt.U, Pt.locs, Pt.cells, Pt.slots] at X2 l2 y2 z2 st2 hQ2
  subst l2 y2 z2
  obtain ⟨rfl, N2q, K2, Sp2⟩ := hQ2
  have O2 := O0.keep K2 (allS g_a all0)
  have KK2 := K0.trans K2 (allS (Or.inl (by simp)) all0)
  have N2 := Fr.app N0 N2q
  refine own_end X2 (v := none) (fun _ => rfl) (by decide) (by decide) (fun fs hr => pre0 _ ?_) ?_
  · show Steps pg.tables ee below (s₁.setTop (mkF mm 0 #[.val (.ref a), .val (.ref ch)] [])) _
    refine XS.aloadN X0.here hx rfl (hb hby d2_0) rfl rfl ?_
    refine XS.aloadN X0.here hx rfl (hb hby d2_1) rfl rfl ?_
    refine XS.iconst X0.here hx rfl (hb hby d2_2) ?_
    refine XS.aloadN X0.here hx rfl (hb hby d2_3) rfl rfl ?_
    refine X0.arraylength hx (by rw [e0]; exact Ar1.1) (State.isArrayOf_alike hZ.alike Ar1.2.1) (g := (mkF mm 4 #[.val (.ref a), .val (.ref ch)] [(.ref ch), (.int (0 : Int32)), (.ref ch), (.ref a)])) rfl rfl (hb hby d2_4) _ ?_
    rw [len_of Sz1 Nn1]
    refine XS.aconstNull X0.here hx rfl (hb hby d2_5) ?_
    refine st2.trans ?_
    exact X2.returnOut hx Bd.returns (hb hby d2_9) hr
  · show QS2 Z a x0 x1 h0 n0 _ T2.heap _
    exact ⟨rfl, N2, KK2, Sp2⟩
def QrmIn3_0 (Z : State) (ch : Addr) (kc : ClassId) (x0 : Int32) (x1 : Int32) (x2 : Int32) (bb : Addr) (kb : ClassId) (h0 : Heap) (n0 : Nat) (v : Option Value) (h : Heap) (L : List Loc) : Prop := v = some (.int (0 : Int32)) ∧ Fr n0 L ∧ Keep h0 h [bb]
set_option maxRecDepth 65536 in
set_option maxHeartbeats 40000000 in
theorem rmIn3_0 (l : Launch) (Z : State) (a0 : Array Value) (hw : ∀ d ∈ tables_1, d.before a0 Z = true) (ws : List Jvm.Cond) (ch : Addr) (kc : ClassId) (x0 : Int32) (x1 : Int32) (x2 : Int32) (bb : Addr) (kb : ClassId) (h0 : Heap) (n0 : Nat) (O0 : Old Z n0 h0) (Vc : Arv Z h0 ch kc .char (3 : Int32) [(.int x0), (.int x1), (.int x2)] (.int (0 : Int32))) (Vb : Arv Z h0 bb kb .byte (3 : Int32) [(.int (0 : Int32)), (.int (0 : Int32)), (.int (0 : Int32))] (.int (0 : Int32))) (g_bb : n0 ≤ bb) (hne : ch ≠ bb) (hl0 : (255 : Int32) < x0) :
    own_M l Z h0 (⟨"java/lang/StringUTF16", "compress", "([CI[BII)I"⟩ : MethodName) jdk_52_method_21_code 7 (some .int) ws ({ frames := 0, cells := 0, slots := 0, locals := 0 } : Room) #[(.ref ch), (.int (0 : Int32)), (.ref bb), (.int (0 : Int32)), (.int (3 : Int32))] (QrmIn3_0 Z ch kc x0 x1 x2 bb kb h0 n0) := by
  refine own_start (plainFor_of_name pn_26) ?_
  intro pg ee s mm below meth cc s₁ Bd hZ hh hx hby hml hown0 hnm X0 e0
  have hown : s.vm.findClass "java/lang/StringUTF16" = some mm.cls := hown0
  have N0 := Fr.nil n0
  have K0 : Keep h0 h0 ([bb] : List Addr) := Keep.refl _ _
  have pre0 := fun tg_ => castTop (tb := pg.tables) (e := ee) (below := below) (T := s₁) (t := tg_) (ef_10_351 mm ch (0 : Int32) bb (0 : Int32) (3 : Int32))
  obtain ⟨cl1, Ar1, qk1, Sz1, Nn1, Hh1, Gg1⟩ := id Vc
  have hin1 : ¬ ((0 : Int32) < 0 ∨ cl1.slots.size ≤ ((0 : Int32)).toNatClampNeg) := inb_of Sz1 ⟨by decide, by decide⟩
  refine own_end X0 (v := some (.int (0 : Int32))) (fun h => by rw [Bd.returns] at h; cases h) (by decide) (by decide) (fun fs hr => pre0 _ ?_) ?_
  · show Steps pg.tables ee below (s₁.setTop (mkF mm 0 #[.val (.ref ch), .val (.int (0 : Int32)), .val (.ref bb), .val (.int (0 : Int32)), .val (.int (3 : Int32)), .unset, .unset] [])) _
    refine XS.iconst X0.here hx rfl (hb hby d10_0) ?_
    refine XS.istore X0.here hx rfl (hb hby d10_1) rfl (l' := #[.val (.ref ch), .val (.int (0 : Int32)), .val (.ref bb), .val (.int (0 : Int32)), .val (.int (3 : Int32)), .val (.int (0 : Int32)), .unset]) rfl ?_
    refine XS.iload X0.here hx rfl (hb hby d10_3) rfl ?_
    refine XS.iload X0.here hx rfl (hb hby d10_5) rfl ?_
    refine XS.icmpNo X0.here hx rfl (hb hby d10_7) rfl (tlt (by decide : (0 : Int32) < (3 : Int32))).2.1 ?_
    refine XS.aloadN X0.here hx rfl (hb hby d10_10) rfl rfl ?_
    refine XS.iloadN X0.here hx rfl (hb hby d10_11) rfl ?_
    refine X0.caload hx (j := (0 : Int32)) (v := (.int x0)) (by rw [e0]; exact Ar1.1) (State.isArrayOf_alike hZ.alike Ar1.2.1) Ar1.2.2 hin1 (Has.at Hh1 hin1 rfl) (g := (mkF mm 12 #[.val (.ref ch), .val (.int (0 : Int32)), .val (.ref bb), .val (.int (0 : Int32)), .val (.int (3 : Int32)), .val (.int (0 : Int32)), .unset] [(.int (0 : Int32)), (.ref ch)])) rfl rfl (hb hby d10_12) _ ?_
    show Steps pg.tables ee below (s₁.setTop (mkF mm 13 #[.val (.ref ch), .val (.int (0 : Int32)), .val (.ref bb), .val (.int (0 : Int32)), .val (.int (3 : Int32)), .val (.int (0 : Int32)), .unset] [(.int x0)])) _
    refine XS.istore X0.here hx rfl (hb hby d10_13) rfl (l' := #[.val (.ref ch), .val (.int (0 : Int32)), .val (.ref bb), .val (.int (0 : Int32)), .val (.int (3 : Int32)), .val (.int (0 : Int32)), .val (.int x0)]) rfl ?_
    refine XS.iload X0.here hx rfl (hb hby d10_15) rfl ?_
    refine XS.sipush X0.here hx rfl (hb hby d10_17) ?_
    refine XS.icmpNo X0.here hx rfl (hb hby d10_20) rfl (tlt hl0).2.2.2 ?_
    refine XS.iload X0.here hx rfl (hb hby d10_23) rfl ?_
    exact retOut X0 hx Bd.returns rfl (Or.inl ⟨rfl, Or.inl rfl, _, rfl⟩) (hb hby d10_25) hr
  · show QrmIn3_0 Z ch kc x0 x1 x2 bb kb h0 n0 _ s₁.heap _
    rw [e0]
    exact ⟨rfl, N0, K0⟩
def QrmIn3_1 (Z : State) (ch : Addr) (kc : ClassId) (x0 : Int32) (x1 : Int32) (x2 : Int32) (bb : Addr) (kb : ClassId) (h0 : Heap) (n0 : Nat) (v : Option Value) (h : Heap) (L : List Loc) : Prop := v = some (.int (1 : Int32)) ∧ Fr n0 L ∧ Keep h0 h [bb]
set_option maxRecDepth 65536 in
set_option maxHeartbeats 40000000 in
theorem rmIn3_1 (l : Launch) (Z : State) (a0 : Array Value) (hw : ∀ d ∈ tables_1, d.before a0 Z = true) (ws : List Jvm.Cond) (ch : Addr) (kc : ClassId) (x0 : Int32) (x1 : Int32) (x2 : Int32) (bb : Addr) (kb : ClassId) (h0 : Heap) (n0 : Nat) (O0 : Old Z n0 h0) (Vc : Arv Z h0 ch kc .char (3 : Int32) [(.int x0), (.int x1), (.int x2)] (.int (0 : Int32))) (Vb : Arv Z h0 bb kb .byte (3 : Int32) [(.int (0 : Int32)), (.int (0 : Int32)), (.int (0 : Int32))] (.int (0 : Int32))) (g_bb : n0 ≤ bb) (hne : ch ≠ bb) (hl0 : ¬ ((255 : Int32) < x0)) (hl1 : (255 : Int32) < x1) :
    own_M l Z h0 (⟨"java/lang/StringUTF16", "compress", "([CI[BII)I"⟩ : MethodName) jdk_52_method_21_code 7 (some .int) ws ({ frames := 0, cells := 0, slots := 0, locals := 0 } : Room) #[(.ref ch), (.int (0 : Int32)), (.ref bb), (.int (0 : Int32)), (.int (3 : Int32))] (QrmIn3_1 Z ch kc x0 x1 x2 bb kb h0 n0) := by
  refine own_start (plainFor_of_name pn_26) ?_
  intro pg ee s mm below meth cc s₁ Bd hZ hh hx hby hml hown0 hnm X0 e0
  have hown : s.vm.findClass "java/lang/StringUTF16" = some mm.cls := hown0
  have N0 := Fr.nil n0
  have K0 : Keep h0 h0 ([bb] : List Addr) := Keep.refl _ _
  have pre0 := fun tg_ => castTop (tb := pg.tables) (e := ee) (below := below) (T := s₁) (t := tg_) (ef_10_351 mm ch (0 : Int32) bb (0 : Int32) (3 : Int32))
  obtain ⟨cl1, Ar1, qk1, Sz1, Nn1, Hh1, Gg1⟩ := id Vc
  have hin1 : ¬ ((0 : Int32) < 0 ∨ cl1.slots.size ≤ ((0 : Int32)).toNatClampNeg) := inb_of Sz1 ⟨by decide, by decide⟩
  obtain ⟨cl2, Ar2, qk2, Sz2, Nn2, Hh2, Gg2⟩ := id Vb
  have hin2 : ¬ ((0 : Int32) < 0 ∨ cl2.slots.size ≤ ((0 : Int32)).toNatClampNeg) := inb_of Sz2 ⟨by decide, by decide⟩
  obtain ⟨T3, h3, X3, e3, W3, st3⟩ := stB X0 hx hZ e0 Ar2 (j := (0 : Int32)) hin2 (g := (mkF mm 31 #[.val (.ref ch), .val (.int (0 : Int32)), .val (.ref bb), .val (.int (0 : Int32)), .val (.int (3 : Int32)), .val (.int (0 : Int32)), .val (.int x0)] [(.int (x0.toInt8.toInt32)), (.int (0 : Int32)), (.ref bb)])) rfl rfl (hb hby d10_31)
  have V3 : Arv Z h3 bb kb .byte (3 : Int32) [(own_l x0), (.int (0 : Int32)), (.int (0 : Int32))] (.int (0 : Int32)) := Arv.set Ar2 qk2 Sz2 Nn2 Hh2 Gg2 (fits_nar_byte _) W3 0 rfl (Nat.le_of_ble_eq_true rfl)
  have N3 := Fr.snoc X3 N0 g_bb
  have O3 := O0.wr W3 g_bb
  have KK3 := K0.wr W3 (Or.inl (by simp))
  obtain ⟨cl4, Ar4, qk4, Sz4, Nn4, Hh4, Gg4⟩ := id (Vc.other W3 hne)
  have hin4 : ¬ ((1 : Int32) < 0 ∨ cl4.slots.size ≤ ((1 : Int32)).toNatClampNeg) := inb_of Sz4 ⟨by decide, by decide⟩
  refine own_end X3 (v := some (.int (1 : Int32))) (fun h => by rw [Bd.returns] at h; cases h) (by decide) (by decide) (fun fs hr => pre0 _ ?_) ?_
  · show Steps pg.tables ee below (s₁.setTop (mkF mm 0 #[.val (.ref ch), .val (.int (0 : Int32)), .val (.ref bb), .val (.int (0 : Int32)), .val (.int (3 : Int32)), .unset, .unset] [])) _
    refine XS.iconst X0.here hx rfl (hb hby d10_0) ?_
    refine XS.istore X0.here hx rfl (hb hby d10_1) rfl (l' := #[.val (.ref ch), .val (.int (0 : Int32)), .val (.ref bb), .val (.int (0 : Int32)), .val (.int (3 : Int32)), .val (.int (0 : Int32)), .unset]) rfl ?_
    refine XS.iload X0.here hx rfl (hb hby d10_3) rfl ?_
    refine XS.iload X0.here hx rfl (hb hby d10_5) rfl ?_
    refine XS.icmpNo X0.here hx rfl (hb hby d10_7) rfl (tlt (by decide : (0 : Int32) < (3 : Int32))).2.1 ?_
    refine XS.aloadN X0.here hx rfl (hb hby d10_10) rfl rfl ?_
    refine XS.iloadN X0.here hx rfl (hb hby d10_11) rfl ?_
    refine X0.caload hx (j := (0 : Int32)) (v := (.int x0)) (by rw [e0]; exact Ar1.1) (State.isArrayOf_alike hZ.alike Ar1.2.1) Ar1.2.2 hin1 (Has.at Hh1 hin1 rfl) (g := (mkF mm 12 #[.val (.ref ch), .val (.int (0 : Int32)), .val (.ref bb), .val (.int (0 : Int32)), .val (.int (3 : Int32)), .val (.int (0 : Int32)), .unset] [(.int (0 : Int32)), (.ref ch)])) rfl rfl (hb hby d10_12) _ ?_
    show Steps pg.tables ee below (s₁.setTop (mkF mm 13 #[.val (.ref ch), .val (.int (0 : Int32)), .val (.ref bb), .val (.int (0 : Int32)), .val (.int (3 : Int32)), .val (.int (0 : Int32)), .unset] [(.int x0)])) _
    refine XS.istore X0.here hx rfl (hb hby d10_13) rfl (l' := #[.val (.ref ch), .val (.int (0 : Int32)), .val (.ref bb), .val (.int (0 : Int32)), .val (.int (3 : Int32)), .val (.int (0 : Int32)), .val (.int x0)]) rfl ?_
    refine XS.iload X0.here hx rfl (hb hby d10_15) rfl ?_
    refine XS.sipush X0.here hx rfl (hb hby d10_17) ?_
    refine XS.icmpYes X0.here hx rfl (pc0 := 20) (pc' := 26) rfl (hb hby d10_20) rfl (flt hl0).2.2.2 (by decide) (by decide) ?_
    refine XS.aloadN X0.here hx rfl (hb hby d10_26) rfl rfl ?_
    refine XS.iloadN X0.here hx rfl (hb hby d10_27) rfl ?_
    refine XS.iload X0.here hx rfl (hb hby d10_28) rfl ?_
    refine XS.i2b X0.here hx rfl (hb hby d10_30) rfl ?_
    show Steps pg.tables ee below (s₁.setTop (mkF mm 31 #[.val (.ref ch), .val (.int (0 : Int32)), .val (.ref bb), .val (.int (0 : Int32)), .val (.int (3 : Int32)), .val (.int (0 : Int32)), .val (.int x0)] [(.int (x0.toInt8.toInt32)), (.int (0 : Int32)), (.ref bb)])) _
    refine st3 _ ?_
    refine XS.iinc X3.here hx rfl (hb hby d10_32) rfl (l' := #[.val (.ref ch), .val (.int (1 : Int32)), .val (.ref bb), .val (.int (0 : Int32)), .val (.int (3 : Int32)), .val (.int (0 : Int32)), .val (.int x0)]) rfl ?_
    refine XS.iinc X3.here hx rfl (hb hby d10_35) rfl (l' := #[.val (.ref ch), .val (.int (1 : Int32)), .val (.ref bb), .val (.int (1 : Int32)), .val (.int (3 : Int32)), .val (.int (0 : Int32)), .val (.int x0)]) rfl ?_
    refine XS.iinc X3.here hx rfl (hb hby d10_38) rfl (l' := #[.val (.ref ch), .val (.int (1 : Int32)), .val (.ref bb), .val (.int (1 : Int32)), .val (.int (3 : Int32)), .val (.int (1 : Int32)), .val (.int x0)]) rfl ?_
    refine XS.goto X3.here hx rfl (pc0 := 41) (pc' := 3) rfl (hb hby d10_41) (by decide) (by decide) ?_
    refine XS.iload X3.here hx rfl (hb hby d10_3) rfl ?_
    refine XS.iload X3.here hx rfl (hb hby d10_5) rfl ?_
    refine XS.icmpNo X3.here hx rfl (hb hby d10_7) rfl (tlt (by decide : (1 : Int32) < (3 : Int32))).2.1 ?_
    show Steps pg.tables ee below (T3.setTop (mkF mm 10 #[.val (.ref ch), .val (.int (1 : Int32)), .val (.ref bb), .val (.int (1 : Int32)), .val (.int (3 : Int32)), .val (.int (1 : Int32)), .val (.int x0)] [])) _
    refine XS.aloadN X3.here hx rfl (hb hby d10_10) rfl rfl ?_
    refine XS.iloadN X3.here hx rfl (hb hby d10_11) rfl ?_
    refine X3.caload hx (j := (1 : Int32)) (v := (.int x1)) (by rw [e3]; exact Ar4.1) (State.isArrayOf_alike hZ.alike Ar4.2.1) Ar4.2.2 hin4 (Has.at Hh4 hin4 rfl) (g := (mkF mm 12 #[.val (.ref ch), .val (.int (1 : Int32)), .val (.ref bb), .val (.int (1 : Int32)), .val (.int (3 : Int32)), .val (.int (1 : Int32)), .val (.int x0)] [(.int (1 : Int32)), (.ref ch)])) rfl rfl (hb hby d10_12) _ ?_
    refine XS.istore X3.here hx rfl (hb hby d10_13) rfl (l' := #[.val (.ref ch), .val (.int (1 : Int32)), .val (.ref bb), .val (.int (1 : Int32)), .val (.int (3 : Int32)), .val (.int (1 : Int32)), .val (.int x1)]) rfl ?_
    refine XS.iload X3.here hx rfl (hb hby d10_15) rfl ?_
    refine XS.sipush X3.here hx rfl (hb hby d10_17) ?_
    refine XS.icmpNo X3.here hx rfl (hb hby d10_20) rfl (tlt hl1).2.2.2 ?_
    refine XS.iload X3.here hx rfl (hb hby d10_23) rfl ?_
    show Steps pg.tables ee below (T3.setTop (mkF mm 25 #[.val (.ref ch), .val (.int (1 : Int32)), .val (.ref bb), .val (.int (1 : Int32)), .val (.int (3 : Int32)), .val (.int (1 : Int32)), .val (.int x1)] [(.int (1 : Int32))])) _
    exact retOut X3 hx Bd.returns rfl (Or.inl ⟨rfl, Or.inl rfl, _, rfl⟩) (hb hby d10_25) hr
  · show QrmIn3_1 Z ch kc x0 x1 x2 bb kb h0 n0 _ T3.heap _
    rw [e3]
    exact ⟨rfl, N3, KK3⟩
def QrmIn3_2 (Z : State) (ch : Addr) (kc : ClassId) (x0 : Int32) (x1 : Int32) (x2 : Int32) (bb : Addr) (kb : ClassId) (h0 : Heap) (n0 : Nat) (v : Option Value) (h : Heap) (L : List Loc) : Prop := v = some (.int (2 : Int32)) ∧ Fr n0 L ∧ Keep h0 h [bb]
set_option maxRecDepth 65536 in
set_option maxHeartbeats 40000000 in
theorem rmIn3_2 (l : Launch) (Z : State) (a0 : Array Value) (hw : ∀ d ∈ tables_1, d.before a0 Z = true) (ws : List Jvm.Cond) (ch : Addr) (kc : ClassId) (x0 : Int32) (x1 : Int32) (x2 : Int32) (bb : Addr) (kb : ClassId) (h0 : Heap) (n0 : Nat) (O0 : Old Z n0 h0) (Vc : Arv Z h0 ch kc .char (3 : Int32) [(.int x0), (.int x1), (.int x2)] (.int (0 : Int32))) (Vb : Arv Z h0 bb kb .byte (3 : Int32) [(.int (0 : Int32)), (.int (0 : Int32)), (.int (0 : Int32))] (.int (0 : Int32))) (g_bb : n0 ≤ bb) (hne : ch ≠ bb) (hl0 : ¬ ((255 : Int32) < x0)) (hl1 : ¬ ((255 : Int32) < x1)) (hl2 : (255 : Int32) < x2) :
    own_M l Z h0 (⟨"java/lang/StringUTF16", "compress", "([CI[BII)I"⟩ : MethodName) jdk_52_method_21_code 7 (some .int) ws ({ frames := 0, cells := 0, slots := 0, locals := 0 } : Room) #[(.ref ch), (.int (0 : Int32)), (.ref bb), (.int (0 : Int32)), (.int (3 : Int32))] (QrmIn3_2 Z ch kc x0 x1 x2 bb kb h0 n0) := by
  refine own_start (plainFor_of_name pn_26) ?_
  intro pg ee s mm below meth cc s₁ Bd hZ hh hx hby hml hown0 hnm X0 e0
  have hown : s.vm.findClass "java/lang/StringUTF16" = some mm.cls := hown0
  have N0 := Fr.nil n0
  have K0 : Keep h0 h0 ([bb] : List Addr) := Keep.refl _ _
  have pre0 := fun tg_ => castTop (tb := pg.tables) (e := ee) (below := below) (T := s₁) (t := tg_) (ef_10_351 mm ch (0 : Int32) bb (0 : Int32) (3 : Int32))
  obtain ⟨cl1, Ar1, qk1, Sz1, Nn1, Hh1, Gg1⟩ := id Vc
  have hin1 : ¬ ((0 : Int32) < 0 ∨ cl1.slots.size ≤ ((0 : Int32)).toNatClampNeg) := inb_of Sz1 ⟨by decide, by decide⟩
  obtain ⟨cl2, Ar2, qk2, Sz2, Nn2, Hh2, Gg2⟩ := id Vb
  have hin2 : ¬ ((0 : Int32) < 0 ∨ cl2.slots.size ≤ ((0 : Int32)).toNatClampNeg) := inb_of Sz2 ⟨by decide, by decide⟩
  obtain ⟨T3, h3, X3, e3, W3, st3⟩ := stB X0 hx hZ e0 Ar2 (j := (0 : Int32)) hin2 (g := (mkF mm 31 #[.val (.ref ch), .val (.int (0 : Int32)), .val (.ref bb), .val (.int (0 : Int32)), .val (.int (3 : Int32)), .val (.int (0 : Int32)), .val (.int x0)] [(.int (x0.toInt8.toInt32)), (.int (0 : Int32)), (.ref bb)])) rfl rfl (hb hby d10_31)
  have V3 : Arv Z h3 bb kb .byte (3 : Int32) [(own_l x0), (.int (0 : Int32)), (.int (0 : Int32))] (.int (0 : Int32)) := Arv.set Ar2 qk2 Sz2 Nn2 Hh2 Gg2 (fits_nar_byte _) W3 0 rfl (Nat.le_of_ble_eq_true rfl)
  have N3 := Fr.snoc X3 N0 g_bb
  have O3 := O0.wr W3 g_bb
  have KK3 := K0.wr W3 (Or.inl (by simp))
  obtain ⟨cl4, Ar4, qk4, Sz4, Nn4, Hh4, Gg4⟩ := id (Vc.other W3 hne)
  have hin4 : ¬ ((1 : Int32) < 0 ∨ cl4.slots.size ≤ ((1 : Int32)).toNatClampNeg) := inb_of Sz4 ⟨by decide, by decide⟩
  obtain ⟨cl5, Ar5, qk5, Sz5, Nn5, Hh5, Gg5⟩ := id V3
  have hin5 : ¬ ((1 : Int32) < 0 ∨ cl5.slots.size ≤ ((1 : Int32)).toNatClampNeg) := inb_of Sz5 ⟨by decide, by decide⟩
  obtain ⟨T6, h6, X6, e6, W6, st6⟩ := stB X3 hx hZ e3 Ar5 (j := (1 : Int32)) hin5 (g := (mkF mm 31 #[.val (.ref ch), .val (.int (1 : Int32)), .val (.ref bb), .val (.int (1 : Int32)), .val (.int (3 : Int32)), .val (.int (1 : Int32)), .val (.int x1)] [(.int (x1.toInt8.toInt32)), (.int (1 : Int32)), (.ref bb)])) rfl rfl (hb hby d10_31)
  have V6 : Arv Z h6 bb kb .byte (3 : Int32) [(own_l x0), (own_l x1), (.int (0 : Int32))] (.int (0 : Int32)) := Arv.set Ar5 qk5 Sz5 Nn5 Hh5 Gg5 (fits_nar_byte _) W6 1 rfl (Nat.le_of_ble_eq_true rfl)
  have N6 := Fr.snoc X6 N3 g_bb
  have O6 := O3.wr W6 g_bb
  have KK6 := KK3.wr W6 (Or.inl (by simp))
  obtain ⟨cl7, Ar7, qk7, Sz7, Nn7, Hh7, Gg7⟩ := id ((Vc.other W3 hne).other W6 hne)
  have hin7 : ¬ ((2 : Int32) < 0 ∨ cl7.slots.size ≤ ((2 : Int32)).toNatClampNeg) := inb_of Sz7 ⟨by decide, by decide⟩
  refine own_end X6 (v := some (.int (2 : Int32))) (fun h => by rw [Bd.returns] at h; cases h) (by decide) (by decide) (fun fs hr => pre0 _ ?_) ?_
  · show Steps pg.tables ee below (s₁.setTop (mkF mm 0 #[.val (.ref ch), .val (.int (0 : Int32)), .val (.ref bb), .val (.int (0 : Int32)), .val (.int (3 : Int32)), .unset, .unset] [])) _
    refine XS.iconst X0.here hx rfl (hb hby d10_0) ?_
    refine XS.istore X0.here hx rfl (hb hby d10_1) rfl (l' := #[.val (.ref ch), .val (.int (0 : Int32)), .val (.ref bb), .val (.int (0 : Int32)), .val (.int (3 : Int32)), .val (.int (0 : Int32)), .unset]) rfl ?_
    refine XS.iload X0.here hx rfl (hb hby d10_3) rfl ?_
    refine XS.iload X0.here hx rfl (hb hby d10_5) rfl ?_
    refine XS.icmpNo X0.here hx rfl (hb hby d10_7) rfl (tlt (by decide : (0 : Int32) < (3 : Int32))).2.1 ?_
    refine XS.aloadN X0.here hx rfl (hb hby d10_10) rfl rfl ?_
    refine XS.iloadN X0.here hx rfl (hb hby d10_11) rfl ?_
    refine X0.caload hx (j := (0 : Int32)) (v := (.int x0)) (by rw [e0]; exact Ar1.1) (State.isArrayOf_alike hZ.alike Ar1.2.1) Ar1.2.2 hin1 (Has.at Hh1 hin1 rfl) (g := (mkF mm 12 #[.val (.ref ch), .val (.int (0 : Int32)), .val (.ref bb), .val (.int (0 : Int32)), .val (.int (3 : Int32)), .val (.int (0 : Int32)), .unset] [(.int (0 : Int32)), (.ref ch)])) rfl rfl (hb hby d10_12) _ ?_
    show Steps pg.tables ee below (s₁.setTop (mkF mm 13 #[.val (.ref ch), .val (.int (0 : Int32)), .val (.ref bb), .val (.int (0 : Int32)), .val (.int (3 : Int32)), .val (.int (0 : Int32)), .unset] [(.int x0)])) _
    refine XS.istore X0.here hx rfl (hb hby d10_13) rfl (l' := #[.val (.ref ch), .val (.int (0 : Int32)), .val (.ref bb), .val (.int (0 : Int32)), .val (.int (3 : Int32)), .val (.int (0 : Int32)), .val (.int x0)]) rfl ?_
    refine XS.iload X0.here hx rfl (hb hby d10_15) rfl ?_
    refine XS.sipush X0.here hx rfl (hb hby d10_17) ?_
    refine XS.icmpYes X0.here hx rfl (pc0 := 20) (pc' := 26) rfl (hb hby d10_20) rfl (flt hl0).2.2.2 (by decide) (by decide) ?_
    refine XS.aloadN X0.here hx rfl (hb hby d10_26) rfl rfl ?_
    refine XS.iloadN X0.here hx rfl (hb hby d10_27) rfl ?_
    refine XS.iload X0.here hx rfl (hb hby d10_28) rfl ?_
    refine XS.i2b X0.here hx rfl (hb hby d10_30) rfl ?_
    show Steps pg.tables ee below (s₁.setTop (mkF mm 31 #[.val (.ref ch), .val (.int (0 : Int32)), .val (.ref bb), .val (.int (0 : Int32)), .val (.int (3 : Int32)), .val (.int (0 : Int32)), .val (.int x0)] [(.int (x0.toInt8.toInt32)), (.int (0 : Int32)), (.ref bb)])) _
    refine st3 _ ?_
    refine XS.iinc X3.here hx rfl (hb hby d10_32) rfl (l' := #[.val (.ref ch), .val (.int (1 : Int32)), .val (.ref bb), .val (.int (0 : Int32)), .val (.int (3 : Int32)), .val (.int (0 : Int32)), .val (.int x0)]) rfl ?_
    refine XS.iinc X3.here hx rfl (hb hby d10_35) rfl (l' := #[.val (.ref ch), .val (.int (1 : Int32)), .val (.ref bb), .val (.int (1 : Int32)), .val (.int (3 : Int32)), .val (.int (0 : Int32)), .val (.int x0)]) rfl ?_
    refine XS.iinc X3.here hx rfl (hb hby d10_38) rfl (l' := #[.val (.ref ch), .val (.int (1 : Int32)), .val (.ref bb), .val (.int (1 : Int32)), .val (.int (3 : Int32)), .val (.int (1 : Int32)), .val (.int x0)]) rfl ?_
    refine XS.goto X3.here hx rfl (pc0 := 41) (pc' := 3) rfl (hb hby d10_41) (by decide) (by decide) ?_
    refine XS.iload X3.here hx rfl (hb hby d10_3) rfl ?_
    refine XS.iload X3.here hx rfl (hb hby d10_5) rfl ?_
    refine XS.icmpNo X3.here hx rfl (hb hby d10_7) rfl (tlt (by decide : (1 : Int32) < (3 : Int32))).2.1 ?_
    show Steps pg.tables ee below (T3.setTop (mkF mm 10 #[.val (.ref ch), .val (.int (1 : Int32)), .val (.ref bb), .val (.int (1 : Int32)), .val (.int (3 : Int32)), .val (.int (1 : Int32)), .val (.int x0)] [])) _
    refine XS.aloadN X3.here hx rfl (hb hby d10_10) rfl rfl ?_
    refine XS.iloadN X3.here hx rfl (hb hby d10_11) rfl ?_
    refine X3.caload hx (j := (1 : Int32)) (v := (.int x1)) (by rw [e3]; exact Ar4.1) (State.isArrayOf_alike hZ.alike Ar4.2.1) Ar4.2.2 hin4 (Has.at Hh4 hin4 rfl) (g := (mkF mm 12 #[.val (.ref ch), .val (.int (1 : Int32)), .val (.ref bb), .val (.int (1 : Int32)), .val (.int (3 : Int32)), .val (.int (1 : Int32)), .val (.int x0)] [(.int (1 : Int32)), (.ref ch)])) rfl rfl (hb hby d10_12) _ ?_
    refine XS.istore X3.here hx rfl (hb hby d10_13) rfl (l' := #[.val (.ref ch), .val (.int (1 : Int32)), .val (.ref bb), .val (.int (1 : Int32)), .val (.int (3 : Int32)), .val (.int (1 : Int32)), .val (.int x1)]) rfl ?_
    refine XS.iload X3.here hx rfl (hb hby d10_15) rfl ?_
    refine XS.sipush X3.here hx rfl (hb hby d10_17) ?_
    refine XS.icmpYes X3.here hx rfl (pc0 := 20) (pc' := 26) rfl (hb hby d10_20) rfl (flt hl1).2.2.2 (by decide) (by decide) ?_
    refine XS.aloadN X3.here hx rfl (hb hby d10_26) rfl rfl ?_
    show Steps pg.tables ee below (T3.setTop (mkF mm 27 #[.val (.ref ch), .val (.int (1 : Int32)), .val (.ref bb), .val (.int (1 : Int32)), .val (.int (3 : Int32)), .val (.int (1 : Int32)), .val (.int x1)] [(.ref bb)])) _
    refine XS.iloadN X3.here hx rfl (hb hby d10_27) rfl ?_
    refine XS.iload X3.here hx rfl (hb hby d10_28) rfl ?_
    refine XS.i2b X3.here hx rfl (hb hby d10_30) rfl ?_
    refine st6 _ ?_
    refine XS.iinc X6.here hx rfl (hb hby d10_32) rfl (l' := #[.val (.ref ch), .val (.int (2 : Int32)), .val (.ref bb), .val (.int (1 : Int32)), .val (.int (3 : Int32)), .val (.int (1 : Int32)), .val (.int x1)]) rfl ?_
    refine XS.iinc X6.here hx rfl (hb hby d10_35) rfl (l' := #[.val (.ref ch), .val (.int (2 : Int32)), .val (.ref bb), .val (.int (2 : Int32)), .val (.int (3 : Int32)), .val (.int (1 : Int32)), .val (.int x1)]) rfl ?_
    refine XS.iinc X6.here hx rfl (hb hby d10_38) rfl (l' := #[.val (.ref ch), .val (.int (2 : Int32)), .val (.ref bb), .val (.int (2 : Int32)), .val (.int (3 : Int32)), .val (.int (2 : Int32)), .val (.int x1)]) rfl ?_
    refine XS.goto X6.here hx rfl (pc0 := 41) (pc' := 3) rfl (hb hby d10_41) (by decide) (by decide) ?_
    show Steps pg.tables ee below (T6.setTop (mkF mm 3 #[.val (.ref ch), .val (.int (2 : Int32)), .val (.ref bb), .val (.int (2 : Int32)), .val (.int (3 : Int32)), .val (.int (2 : Int32)), .val (.int x1)] [])) _
    refine XS.iload X6.here hx rfl (hb hby d10_3) rfl ?_
    refine XS.iload X6.here hx rfl (hb hby d10_5) rfl ?_
    refine XS.icmpNo X6.here hx rfl (hb hby d10_7) rfl (tlt (by decide : (2 : Int32) < (3 : Int32))).2.1 ?_
    refine XS.aloadN X6.here hx rfl (hb hby d10_10) rfl rfl ?_
    refine XS.iloadN X6.here hx rfl (hb hby d10_11) rfl ?_
    refine X6.caload hx (j := (2 : Int32)) (v := (.int x2)) (by rw [e6]; exact Ar7.1) (State.isArrayOf_alike hZ.alike Ar7.2.1) Ar7.2.2 hin7 (Has.at Hh7 hin7 rfl) (g := (mkF mm 12 #[.val (.ref ch), .val (.int (2 : Int32)), .val (.ref bb), .val (.int (2 : Int32)), .val (.int (3 : Int32)), .val (.int (2 : Int32)), .val (.int x1)] [(.int (2 : Int32)), (.ref ch)])) rfl rfl (hb hby d10_12) _ ?_
    refine XS.istore X6.here hx rfl (hb hby d10_13) rfl (l' := #[.val (.ref ch), .val (.int (2 : Int32)), .val (.ref bb), .val (.int (2 : Int32)), .val (.int (3 : Int32)), .val (.int (2 : Int32)), .val (.int x2)]) rfl ?_
    refine XS.iload X6.here hx rfl (hb hby d10_15) rfl ?_
    show Steps pg.tables ee below (T6.setTop (mkF mm 17 #[.val (.ref ch), .val (.int (2 : Int32)), .val (.ref bb), .val (.int (2 : Int32)), .val (.int (3 : Int32)), .val (.int (2 : Int32)), .val (.int x2)] [(.int x2)])) _
    refine XS.sipush X6.here hx rfl (hb hby d10_17) ?_
    refine XS.icmpNo X6.here hx rfl (hb hby d10_20) rfl (tlt hl2).2.2.2 ?_
    refine XS.iload X6.here hx rfl (hb hby d10_23) rfl ?_
    exact retOut X6 hx Bd.returns rfl (Or.inl ⟨rfl, Or.inl rfl, _, rfl⟩) (hb hby d10_25) hr
  · show QrmIn3_2 Z ch kc x0 x1 x2 bb kb h0 n0 _ T6.heap _
    rw [e6]
    exact ⟨rfl, N6, KK6⟩
def QrmIn3_3 (Z : State) (ch : Addr) (kc : ClassId) (x0 : Int32) (x1 : Int32) (x2 : Int32) (bb : Addr) (kb : ClassId) (h0 : Heap) (n0 : Nat) (v : Option Value) (h : Heap) (L : List Loc) : Prop := v = some (.int (3 : Int32)) ∧ Fr n0 L ∧ Keep h0 h [bb] ∧ Arv Z h bb kb .byte (3 : Int32) [(own_l x0), (own_l x1), (own_l x2)] (.int (0 : Int32))
set_option maxRecDepth 65536 in
set_option maxHeartbeats 40000000 in
theorem rmIn3_3 (l : Launch) (Z : State) (a0 : Array Value) (hw : ∀ d ∈ tables_1, d.before a0 Z = true) (ws : List Jvm.Cond) (ch : Addr) (kc : ClassId) (x0 : Int32) (x1 : Int32) (x2 : Int32) (bb : Addr) (kb : ClassId) (h0 : Heap) (n0 : Nat) (O0 : Old Z n0 h0) (Vc : Arv Z h0 ch kc .char (3 : Int32) [(.int x0), (.int x1), (.int x2)] (.int (0 : Int32))) (Vb : Arv Z h0 bb kb .byte (3 : Int32) [(.int (0 : Int32)), (.int (0 : Int32)), (.int (0 : Int32))] (.int (0 : Int32))) (g_bb : n0 ≤ bb) (hne : ch ≠ bb) (hl0 : ¬ ((255 : Int32) < x0)) (hl1 : ¬ ((255 : Int32) < x1)) (hl2 : ¬ ((255 : Int32) < x2)) :
    own_M l Z h0 (⟨"java/lang/StringUTF16", "compress", "([CI[BII)I"⟩ : MethodName) jdk_52_method_21_code 7 (some .int) ws ({ frames := 0, cells := 0, slots := 0, locals := 0 } : Room) #[(.ref ch), (.int (0 : Int32)), (.ref bb), (.int (0 : Int32)), (.int (3 : Int32))] (QrmIn3_3 Z ch kc x0 x1 x2 bb kb h0 n0) := by
  refine own_start (plainFor_of_name pn_26) ?_
  intro pg ee s mm below meth cc s₁ Bd hZ hh hx hby hml hown0 hnm X0 e0
  have hown : s.vm.findClass "java/lang/StringUTF16" = some mm.cls := hown0
  have N0 := Fr.nil n0
  have K0 : Keep h0 h0 ([bb] : List Addr) := Keep.refl _ _
  have pre0 := fun tg_ => castTop (tb := pg.tables) (e := ee) (below := below) (T := s₁) (t := tg_) (ef_10_351 mm ch (0 : Int32) bb (0 : Int32) (3 : Int32))
  obtain ⟨cl1, Ar1, qk1, Sz1, Nn1, Hh1, Gg1⟩ := id Vc
  have hin1 : ¬ ((0 : Int32) < 0 ∨ cl1.slots.size ≤ ((0 : Int32)).toNatClampNeg) := inb_of Sz1 ⟨by decide, by decide⟩
  obtain ⟨cl2, Ar2, qk2, Sz2, Nn2, Hh2, Gg2⟩ := id Vb
  have hin2 : ¬ ((0 : Int32) < 0 ∨ cl2.slots.size ≤ ((0 : Int32)).toNatClampNeg) := inb_of Sz2 ⟨by decide, by decide⟩
  obtain ⟨T3, h3, X3, e3, W3, st3⟩ := stB X0 hx hZ e0 Ar2 (j := (0 : Int32)) hin2 (g := (mkF mm 31 #[.val (.ref ch), .val (.int (0 : Int32)), .val (.ref bb), .val (.int (0 : Int32)), .val (.int (3 : Int32)), .val (.int (0 : Int32)), .val (.int x0)] [(.int (x0.toInt8.toInt32)), (.int (0 : Int32)), (.ref bb)])) rfl rfl (hb hby d10_31)
  have V3 : Arv Z h3 bb kb .byte (3 : Int32) [(own_l x0), (.int (0 : Int32)), (.int (0 : Int32))] (.int (0 : Int32)) := Arv.set Ar2 qk2 Sz2 Nn2 Hh2 Gg2 (fits_nar_byte _) W3 0 rfl (Nat.le_of_ble_eq_true rfl)
  have N3 := Fr.snoc X3 N0 g_bb
  have O3 := O0.wr W3 g_bb
  have KK3 := K0.wr W3 (Or.inl (by simp))
  obtain ⟨cl4, Ar4, qk4, Sz4, Nn4, Hh4, Gg4⟩ := id (Vc.other W3 hne)
  have hin4 : ¬ ((1 : Int32) < 0 ∨ cl4.slots.size ≤ ((1 : Int32)).toNatClampNeg) := inb_of Sz4 ⟨by decide, by decide⟩
  obtain ⟨cl5, Ar5, qk5, Sz5, Nn5, Hh5, Gg5⟩ := id V3
  have hin5 : ¬ ((1 : Int32) < 0 ∨ cl5.slots.size ≤ ((1 : Int32)).toNatClampNeg) := inb_of Sz5 ⟨by decide, by decide⟩
  obtain ⟨T6, h6, X6, e6, W6, st6⟩ := stB X3 hx hZ e3 Ar5 (j := (1 : Int32)) hin5 (g := (mkF mm 31 #[.val (.ref ch), .val (.int (1 : Int32)), .val (.ref bb), .val (.int (1 : Int32)), .val (.int (3 : Int32)), .val (.int (1 : Int32)), .val (.int x1)] [(.int (x1.toInt8.toInt32)), (.int (1 : Int32)), (.ref bb)])) rfl rfl (hb hby d10_31)
  have V6 : Arv Z h6 bb kb .byte (3 : Int32) [(own_l x0), (own_l x1), (.int (0 : Int32))] (.int (0 : Int32)) := Arv.set Ar5 qk5 Sz5 Nn5 Hh5 Gg5 (fits_nar_byte _) W6 1 rfl (Nat.le_of_ble_eq_true rfl)
  have N6 := Fr.snoc X6 N3 g_bb
  have O6 := O3.wr W6 g_bb
  have KK6 := KK3.wr W6 (Or.inl (by simp))
  obtain ⟨cl7, Ar7, qk7, Sz7, Nn7, Hh7, Gg7⟩ := id ((Vc.other W3 hne).other W6 hne)
  have hin7 : ¬ ((2 : Int32) < 0 ∨ cl7.slots.size ≤ ((2 : Int32)).toNatClampNeg) := inb_of Sz7 ⟨by decide, by decide⟩
  obtain ⟨cl8, Ar8, qk8, Sz8, Nn8, Hh8, Gg8⟩ := id V6
  have hin8 : ¬ ((2 : Int32) < 0 ∨ cl8.slots.size ≤ ((2 : Int32)).toNatClampNeg) := inb_of Sz8 ⟨by decide, by decide⟩
  obtain ⟨T9, h9, X9, e9, W9, st9⟩ := stB X6 hx hZ e6 Ar8 (j := (2 : Int32)) hin8 (g := (mkF mm 31 #[.val (.ref ch), .val (.int (2 : Int32)), .val (.ref bb), .val (.int (2 : Int32)), .val (.int (3 : Int32)), .val (.int (2 : Int32)), .val (.int x2)] [(.int (x2.toInt8.toInt32)), (.int (2 : Int32)), (.ref bb)])) rfl rfl (hb hby d10_31)
  have V9 : Arv Z h9 bb kb .byte (3 : Int32) [(own_l x0), (own_l x1), (own_l x2)] (.int (0 : Int32)) := Arv.set Ar8 qk8 Sz8 Nn8 Hh8 Gg8 (fits_nar_byte _) W9 2 rfl (Nat.le_of_ble_eq_true rfl)
  have N9 := Fr.snoc X9 N6 g_bb
  have O9 := O6.wr W9 g_bb
  have KK9 := KK6.wr W9 (Or.inl (by simp))
  refine own_end X9 (v := some (.int (3 : Int32))) (fun h => by rw [Bd.returns] at h; cases h) (by decide) (by decide) (fun fs hr => pre0 _ ?_) ?_
  · show Steps pg.tables ee below (s₁.setTop (mkF mm 0 #[.val (.ref ch), .val (.int (0 : Int32)), .val (.ref bb), .val (.int (0 : Int32)), .val (.int (3 : Int32)), .unset, .unset] [])) _
    refine XS.iconst X0.here hx rfl (hb hby d10_0) ?_
    refine XS.istore X0.here hx rfl (hb hby d10_1) rfl (l' := #[.val (.ref ch), .val (.int (0 : Int32)), .val (.ref bb), .val (.int (0 : Int32)), .val (.int (3 : Int32)), .val (.int (0 : Int32)), .unset]) rfl ?_
    refine XS.iload X0.here hx rfl (hb hby d10_3) rfl ?_
    refine XS.iload X0.here hx rfl (hb hby d10_5) rfl ?_
    refine XS.icmpNo X0.here hx rfl (hb hby d10_7) rfl (tlt (by decide : (0 : Int32) < (3 : Int32))).2.1 ?_
    refine XS.aloadN X0.here hx rfl (hb hby d10_10) rfl rfl ?_
    refine XS.iloadN X0.here hx rfl (hb hby d10_11) rfl ?_
    refine X0.caload hx (j := (0 : Int32)) (v := (.int x0)) (by rw [e0]; exact Ar1.1) (State.isArrayOf_alike hZ.alike Ar1.2.1) Ar1.2.2 hin1 (Has.at Hh1 hin1 rfl) (g := (mkF mm 12 #[.val (.ref ch), .val (.int (0 : Int32)), .val (.ref bb), .val (.int (0 : Int32)), .val (.int (3 : Int32)), .val (.int (0 : Int32)), .unset] [(.int (0 : Int32)), (.ref ch)])) rfl rfl (hb hby d10_12) _ ?_
    show Steps pg.tables ee below (s₁.setTop (mkF mm 13 #[.val (.ref ch), .val (.int (0 : Int32)), .val (.ref bb), .val (.int (0 : Int32)), .val (.int (3 : Int32)), .val (.int (0 : Int32)), .unset] [(.int x0)])) _
    refine XS.istore X0.here hx rfl (hb hby d10_13) rfl (l' := #[.val (.ref ch), .val (.int (0 : Int32)), .val (.ref bb), .val (.int (0 : Int32)), .val (.int (3 : Int32)), .val (.int (0 : Int32)), .val (.int x0)]) rfl ?_
    refine XS.iload X0.here hx rfl (hb hby d10_15) rfl ?_
    refine XS.sipush X0.here hx rfl (hb hby d10_17) ?_
    refine XS.icmpYes X0.here hx rfl (pc0 := 20) (pc' := 26) rfl (hb hby d10_20) rfl (flt hl0).2.2.2 (by decide) (by decide) ?_
    refine XS.aloadN X0.here hx rfl (hb hby d10_26) rfl rfl ?_
    refine XS.iloadN X0.here hx rfl (hb hby d10_27) rfl ?_
    refine XS.iload X0.here hx rfl (hb hby d10_28) rfl ?_
    refine XS.i2b X0.here hx rfl (hb hby d10_30) rfl ?_
    show Steps pg.tables ee below (s₁.setTop (mkF mm 31 #[.val (.ref ch), .val (.int (0 : Int32)), .val (.ref bb), .val (.int (0 : Int32)), .val (.int (3 : Int32)), .val (.int (0 : Int32)), .val (.int x0)] [(.int (x0.toInt8.toInt32)), (.int (0 : Int32)), (.ref bb)])) _
    refine st3 _ ?_
    refine XS.iinc X3.here hx rfl (hb hby d10_32) rfl (l' := #[.val (.ref ch), .val (.int (1 : Int32)), .val (.ref bb), .val (.int (0 : Int32)), .val (.int (3 : Int32)), .val (.int (0 : Int32)), .val (.int x0)]) rfl ?_
    refine XS.iinc X3.here hx rfl (hb hby d10_35) rfl (l' := #[.val (.ref ch), .val (.int (1 : Int32)), .val (.ref bb), .val (.int (1 : Int32)), .val (.int (3 : Int32)), .val (.int (0 : Int32)), .val (.int x0)]) rfl ?_
    refine XS.iinc X3.here hx rfl (hb hby d10_38) rfl (l' := #[.val (.ref ch), .val (.int (1 : Int32)), .val (.ref bb), .val (.int (1 : Int32)), .val (.int (3 : Int32)), .val (.int (1 : Int32)), .val (.int x0)]) rfl ?_
    refine XS.goto X3.here hx rfl (pc0 := 41) (pc' := 3) rfl (hb hby d10_41) (by decide) (by decide) ?_
    refine XS.iload X3.here hx rfl (hb hby d10_3) rfl ?_
    refine XS.iload X3.here hx rfl (hb hby d10_5) rfl ?_
    refine XS.icmpNo X3.here hx rfl (hb hby d10_7) rfl (tlt (by decide : (1 : Int32) < (3 : Int32))).2.1 ?_
    show Steps pg.tables ee below (T3.setTop (mkF mm 10 #[.val (.ref ch), .val (.int (1 : Int32)), .val (.ref bb), .val (.int (1 : Int32)), .val (.int (3 : Int32)), .val (.int (1 : Int32)), .val (.int x0)] [])) _
    refine XS.aloadN X3.here hx rfl (hb hby d10_10) rfl rfl ?_
    refine XS.iloadN X3.here hx rfl (hb hby d10_11) rfl ?_
    refine X3.caload hx (j := (1 : Int32)) (v := (.int x1)) (by rw [e3]; exact Ar4.1) (State.isArrayOf_alike hZ.alike Ar4.2.1) Ar4.2.2 hin4 (Has.at Hh4 hin4 rfl) (g := (mkF mm 12 #[.val (.ref ch), .val (.int (1 : Int32)), .val (.ref bb), .val (.int (1 : Int32)), .val (.int (3 : Int32)), .val (.int (1 : Int32)), .val (.int x0)] [(.int (1 : Int32)), (.ref ch)])) rfl rfl (hb hby d10_12) _ ?_
    refine XS.istore X3.here hx rfl (hb hby d10_13) rfl (l' := #[.val (.ref ch), .val (.int (1 : Int32)), .val (.ref bb), .val (.int (1 : Int32)), .val (.int (3 : Int32)), .val (.int (1 : Int32)), .val (.int x1)]) rfl ?_
    refine XS.iload X3.here hx rfl (hb hby d10_15) rfl ?_
    refine XS.sipush X3.here hx rfl (hb hby d10_17) ?_
    refine XS.icmpYes X3.here hx rfl (pc0 := 20) (pc' := 26) rfl (hb hby d10_20) rfl (flt hl1).2.2.2 (by decide) (by decide) ?_
    refine XS.aloadN X3.here hx rfl (hb hby d10_26) rfl rfl ?_
    show Steps pg.tables ee below (T3.setTop (mkF mm 27 #[.val (.ref ch), .val (.int (1 : Int32)), .val (.ref bb), .val (.int (1 : Int32)), .val (.int (3 : Int32)), .val (.int (1 : Int32)), .val (.int x1)] [(.ref bb)])) _
    refine XS.iloadN X3.here hx rfl (hb hby d10_27) rfl ?_
    refine XS.iload X3.here hx rfl (hb hby d10_28) rfl ?_
    refine XS.i2b X3.here hx rfl (hb hby d10_30) rfl ?_
    refine st6 _ ?_
    refine XS.iinc X6.here hx rfl (hb hby d10_32) rfl (l' := #[.val (.ref ch), .val (.int (2 : Int32)), .val (.ref bb), .val (.int (1 : Int32)), .val (.int (3 : Int32)), .val (.int (1 : Int32)), .val (.int x1)]) rfl ?_
    refine XS.iinc X6.here hx rfl (hb hby d10_35) rfl (l' := #[.val (.ref ch), .val (.int (2 : Int32)), .val (.ref bb), .val (.int (2 : Int32)), .val (.int (3 : Int32)), .val (.int (1 : Int32)), .val (.int x1)]) rfl ?_
    refine XS.iinc X6.here hx rfl (hb hby d10_38) rfl (l' := #[.val (.ref ch), .val (.int (2 : Int32)), .val (.ref bb), .val (.int (2 : Int32)), .val (.int (3 : Int32)), .val (.int (2 : Int32)), .val (.int x1)]) rfl ?_
    refine XS.goto X6.here hx rfl (pc0 := 41) (pc' := 3) rfl (hb hby d10_41) (by decide) (by decide) ?_
    show Steps pg.tables ee below (T6.setTop (mkF mm 3 #[.val (.ref ch), .val (.int (2 : Int32)), .val (.ref bb), .val (.int (2 : Int32)), .val (.int (3 : Int32)), .val (.int (2 : Int32)), .val (.int x1)] [])) _
    refine XS.iload X6.here hx rfl (hb hby d10_3) rfl ?_
    refine XS.iload X6.here hx rfl (hb hby d10_5) rfl ?_
    refine XS.icmpNo X6.here hx rfl (hb hby d10_7) rfl (tlt (by decide : (2 : Int32) < (3 : Int32))).2.1 ?_
    refine XS.aloadN X6.here hx rfl (hb hby d10_10) rfl rfl ?_
    refine XS.iloadN X6.here hx rfl (hb hby d10_11) rfl ?_
    refine X6.caload hx (j := (2 : Int32)) (v := (.int x2)) (by rw [e6]; exact Ar7.1) (State.isArrayOf_alike hZ.alike Ar7.2.1) Ar7.2.2 hin7 (Has.at Hh7 hin7 rfl) (g := (mkF mm 12 #[.val (.ref ch), .val (.int (2 : Int32)), .val (.ref bb), .val (.int (2 : Int32)), .val (.int (3 : Int32)), .val (.int (2 : Int32)), .val (.int x1)] [(.int (2 : Int32)), (.ref ch)])) rfl rfl (hb hby d10_12) _ ?_
    refine XS.istore X6.here hx rfl (hb hby d10_13) rfl (l' := #[.val (.ref ch), .val (.int (2 : Int32)), .val (.ref bb), .val (.int (2 : Int32)), .val (.int (3 : Int32)), .val (.int (2 : Int32)), .val (.int x2)]) rfl ?_
    refine XS.iload X6.here hx rfl (hb hby d10_15) rfl ?_
    show Steps pg.tables ee below (T6.setTop (mkF mm 17 #[.val (.ref ch), .val (.int (2 : Int32)), .val (.ref bb), .val (.int (2 : Int32)), .val (.int (3 : Int32)), .val (.int (2 : Int32)), .val (.int x2)] [(.int x2)])) _
    refine XS.sipush X6.here hx rfl (hb hby d10_17) ?_
    refine XS.icmpYes X6.here hx rfl (pc0 := 20) (pc' := 26) rfl (hb hby d10_20) rfl (flt hl2).2.2.2 (by decide) (by decide) ?_
    refine XS.aloadN X6.here hx rfl (hb hby d10_26) rfl rfl ?_
    refine XS.iloadN X6.here hx rfl (hb hby d10_27) rfl ?_
    refine XS.iload X6.here hx rfl (hb hby d10_28) rfl ?_
    refine XS.i2b X6.here hx rfl (hb hby d10_30) rfl ?_
    refine st9 _ ?_
    refine XS.iinc X9.here hx rfl (hb hby d10_32) rfl (l' := #[.val (.ref ch), .val (.int (3 : Int32)), .val (.ref bb), .val (.int (2 : Int32)), .val (.int (3 : Int32)), .val (.int (2 : Int32)), .val (.int x2)]) rfl ?_
    show Steps pg.tables ee below (T9.setTop (mkF mm 35 #[.val (.ref ch), .val (.int (3 : Int32)), .val (.ref bb), .val (.int (2 : Int32)), .val (.int (3 : Int32)), .val (.int (2 : Int32)), .val (.int x2)] [])) _
    refine XS.iinc X9.here hx rfl (hb hby d10_35) rfl (l' := #[.val (.ref ch), .val (.int (3 : Int32)), .val (.ref bb), .val (.int (3 : Int32)), .val (.int (3 : Int32)), .val (.int (2 : Int32)), .val (.int x2)]) rfl ?_
    refine XS.iinc X9.here hx rfl (hb hby d10_38) rfl (l' := #[.val (.ref ch), .val (.int (3 : Int32)), .val (.ref bb), .val (.int (3 : Int32)), .val (.int (3 : Int32)), .val (.int (3 : Int32)), .val (.int x2)]) rfl ?_
    refine XS.goto X9.here hx rfl (pc0 := 41) (pc' := 3) rfl (hb hby d10_41) (by decide) (by decide) ?_
    refine XS.iload X9.here hx rfl (hb hby d10_3) rfl ?_
    refine XS.iload X9.here hx rfl (hb hby d10_5) rfl ?_
    refine XS.icmpYes X9.here hx rfl (pc0 := 7) (pc' := 44) rfl (hb hby d10_7) rfl (flt (by decide : ¬ ((3 : Int32) < (3 : Int32)))).2.1 (by decide) (by decide) ?_
    refine XS.iload X9.here hx rfl (hb hby d10_44) rfl ?_
    exact retOut X9 hx Bd.returns rfl (Or.inl ⟨rfl, Or.inl rfl, _, rfl⟩) (hb hby d10_46) hr
  · show QrmIn3_3 Z ch kc x0 x1 x2 bb kb h0 n0 _ T9.heap _
    rw [e9]
    exact ⟨rfl, N9, KK9, V9⟩
def QrmNl3 (Z : State)  (h0 : Heap) (n0 : Nat) (v : Option Value) (h : Heap) (L : List Loc) : Prop := v = some (.int (6 : Int32)) ∧ Fr n0 L ∧ h = h0
set_option maxRecDepth 65536 in
set_option maxHeartbeats 40000000 in
theorem rmNl3 (l : Launch) (Z : State) (a0 : Array Value) (hw : ∀ d ∈ tables_1, d.before a0 Z = true) (ws : List Jvm.Cond)  (h0 : Heap) (n0 : Nat) (O0 : Old Z n0 h0)  :
    own_M l Z h0 (⟨"java/lang/StringUTF16", "newBytesLength", "(I)I"⟩ : MethodName) jdk_52_method_3_code 1 (some .int) ws ({ frames := 0, cells := 0, slots := 0, locals := 0 } : Room) #[(.int (3 : Int32))] (QrmNl3 Z  h0 n0) := by
  refine own_start (plainFor_of_name pn_26) ?_
  intro pg ee s mm below meth cc s₁ Bd hZ hh hx hby hml hown0 hnm X0 e0
  have hown : s.vm.findClass "java/lang/StringUTF16" = some mm.cls := hown0
  have N0 := Fr.nil n0
  have pre0 := fun tg_ => castTop (tb := pg.tables) (e := ee) (below := below) (T := s₁) (t := tg_) (ef_27_372 mm (3 : Int32))
  refine own_end X0 (v := some (.int (6 : Int32))) (fun h => by rw [Bd.returns] at h; cases h) (by decide) (by decide) (fun fs hr => pre0 _ ?_) ?_
  · show Steps pg.tables ee below (s₁.setTop (mkF mm 0 #[.val (.int (3 : Int32))] [])) _
    refine XS.iloadN X0.here hx rfl (hb hby d27_0) rfl ?_
    refine XS.ifYes X0.here hx rfl (pc0 := 1) (pc' := 12) rfl (hb hby d27_1) rfl ((if0 _ _).trans (flt (by decide : ¬ ((3 : Int32) < (0 : Int32)))).2.1) (by decide) (by decide) ?_
    refine XS.iloadN X0.here hx rfl (hb hby d27_12) rfl ?_
    refine X0.ldcInt hx hown (mvT hZ (own_h hw 118 rfl)) (g := (mkF mm 13 #[.val (.int (3 : Int32))] [(.int (3 : Int32))])) rfl (hb hby d27_13) _ ?_
    refine XS.icmpYes X0.here hx rfl (pc0 := 15) (pc' := 55) rfl (hb hby d27_15) rfl (tlt (by decide : (3 : Int32) < (1073741823 : Int32))).1 (by decide) (by decide) ?_
    refine XS.iloadN X0.here hx rfl (hb hby d27_55) rfl ?_
    refine XS.iconst X0.here hx rfl (hb hby d27_56) ?_
    refine XS.ishl X0.here hx rfl (hb hby d27_57) rfl ?_
    show Steps pg.tables ee below (s₁.setTop (mkF mm 58 #[.val (.int (3 : Int32))] [(.int (6 : Int32))])) _
    exact retOut X0 hx Bd.returns rfl (Or.inl ⟨rfl, Or.inl rfl, _, rfl⟩) (hb hby d27_58) hr
  · show QrmNl3 Z  h0 n0 _ s₁.heap _
    rw [e0]
    exact ⟨rfl, N0, rfl⟩
def QrmNf3 (Z : State)  (h0 : Heap) (n0 : Nat) (v : Option Value) (h : Heap) (L : List Loc) : Prop := ∃ (b : Addr) (kb : ClassId), v = some (.ref b) ∧ Fr n0 L ∧ Keep h0 h [] ∧ n0 ≤ b ∧ h0.size ≤ b ∧ Arv Z h b kb .byte (6 : Int32) [(.int (0 : Int32)), (.int (0 : Int32)), (.int (0 : Int32)), (.int (0 : Int32)), (.int (0 : Int32)), (.int (0 : Int32))] (.int (0 : Int32))
set_option maxRecDepth 65536 in
set_option maxHeartbeats 40000000 in
theorem rmNf3 (l : Launch) (Z : State) (a0 : Array Value) (hw : ∀ d ∈ tables_1, d.before a0 Z = true) (ws : List Jvm.Cond)  (h0 : Heap) (n0 : Nat) (O0 : Old Z n0 h0)  :
    own_M l Z h0 (⟨"java/lang/StringUTF16", "newBytesFor", "(I)[B"⟩ : MethodName) jdk_52_method_2_code 1 (some (.array .byte)) ws ({ frames := 1, cells := 1, slots := 6, locals := 12 } : Room) #[(.int (3 : Int32))] (QrmNf3 Z  h0 n0) := by
  refine own_start (plainFor_of_name pn_26) ?_
  intro pg ee s mm below meth cc s₁ Bd hZ hh hx hby hml hown0 hnm X0 e0
  have hown : s.vm.findClass "java/lang/StringUTF16" = some mm.cls := hown0
  have N0 := Fr.nil n0
  have K0 : Keep h0 h0 ([] : List Addr) := Keep.refl _ _
  have pre0 := fun tg_ => castTop (tb := pg.tables) (e := ee) (below := below) (T := s₁) (t := tg_) (ef_26_378 mm (3 : Int32))
  obtain ⟨_, _, ⟨T1, L1, k1, n1⟩, -, X1, ⟨Lc1, hQ1, l1, y1, z1⟩, st1⟩ := Jvm.LawKit.callS X0 hx hown (mvT hZ (own_h hw 115 rfl)) (mvT hZ (own_h hw 116 rfl)) (mvT hZ (own_h hw 48 rfl)) (mvT hZ (own_h hw 117 rfl)) (by decide) (backOf (W := 0) (rmNl3 l Z a0 hw [] h0 n0 O0) hZ (own_h hw 117 rfl) (own_h hw 48 rfl) (by decide) (by decide)) (g := (mkF mm 1 #[.val (.int (3 : Int32))] [(.int (3 : Int32))])) rfl (by rw [hml]; rfl) (argsL := [(.int (3 : Int32))]) (rest := []) (lenOf pd_375 rfl) rfl (Nat.le_of_eq rfl) (hb hby d26_1) (fun _ _ => ⟨rfl, e0, (by decide : 0 + 0 ≤ _), (by decide : 0 + 0 ≤ _)⟩)
  dsimp only [Pt.U, Pt.locs, Pt.cells, Pt.slots] at X1 l1 y1 z1 st1 hQ1
  subst l1 y1 z1
  obtain ⟨rfl, N1q, e1⟩ := hQ1
  have N1 := Fr.app N0 N1q
  obtain ⟨T2, h2, k2, X2, e2, E2, A2, st2⟩ := newP X1 hx hZ (own_h hw 19 rfl) e1 (g := (mkF mm 4 #[.val (.int (3 : Int32))] [(.int (6 : Int32))])) rfl (hb hby d26_4) rfl (by decide) (cap := 6) (by decide) (by decide) (by decide) (by decide)
  obtain ⟨b2, g2⟩ : ∃ z, z = h0.size := ⟨_, rfl⟩
  rw [← g2] at A2 st2
  have g_b2 : n0 ≤ b2 := Nat.le_trans (O0.1 ▸ O0.2.1) (Nat.le_of_eq g2.symm)
  have sz_b2 : h0.size ≤ b2 := Nat.le_trans K0.1 (Nat.le_of_eq g2.symm)
  have O2 := O0.ext E2
  have KK2 := K0.ext E2
  have V2 : Arv Z h2 b2 k2 .byte (6 : Int32) [(.int (0 : Int32)), (.int (0 : Int32)), (.int (0 : Int32)), (.int (0 : Int32)), (.int (0 : Int32)), (.int (0 : Int32))] (.int (0 : Int32)) := (Arv.new A2 (by decide)).pad (pad_rep [] (.int (0 : Int32)) 6)
  refine own_end X2 (v := some (.ref b2)) (fun h => by rw [Bd.returns] at h; cases h) (by decide) (by decide) (fun fs hr => pre0 _ ?_) ?_
  · show Steps pg.tables ee below (s₁.setTop (mkF mm 0 #[.val (.int (3 : Int32))] [])) _
    refine XS.iloadN X0.here hx rfl (hb hby d26_0) rfl ?_
    refine st1 _ ?_
    refine st2 _ ?_
    exact retOut X2 hx Bd.returns rfl (Or.inr (Or.inr (Or.inr (Or.inr ⟨rfl, rfl, rfl⟩)))) (hb hby d26_6) hr
  · show QrmNf3 Z  h0 n0 _ T2.heap _
    rw [e2]
    exact ⟨_, _, rfl, N1, KK2, g_b2, sz_b2, V2⟩
def QrmPc3_0 (Z : State) (bb : Addr) (kb : ClassId) (x0 : Int32) (h0 : Heap) (n0 : Nat) (v : Option Value) (h : Heap) (L : List Loc) : Prop := v = none ∧ Fr n0 L ∧ Keep h0 h [bb] ∧ Arv Z h bb kb .byte (6 : Int32) [(own_u x0), (own_v x0), (.int (0 : Int32)), (.int (0 : Int32)), (.int (0 : Int32)), (.int (0 : Int32))] (.int (0 : Int32))
set_option maxRecDepth 65536 in
set_option maxHeartbeats 40000000 in
theorem rmPc3_0 (l : Launch) (Z : State) (a0 : Array Value) (hw : ∀ d ∈ tables_1, d.before a0 Z = true) (ws : List Jvm.Cond) (bb : Addr) (kb : ClassId) (x0 : Int32) (h0 : Heap) (n0 : Nat) (O0 : Old Z n0 h0) (Vb : Arv Z h0 bb kb .byte (6 : Int32) [(.int (0 : Int32)), (.int (0 : Int32)), (.int (0 : Int32)), (.int (0 : Int32)), (.int (0 : Int32)), (.int (0 : Int32))] (.int (0 : Int32))) (g_bb : n0 ≤ bb) (hG : own_G Z) :
    own_M l Z h0 (⟨"java/lang/StringUTF16", "putChar", "([BII)V"⟩ : MethodName) jdk_52_method_4_code 3 none ws ({ frames := 0, cells := 0, slots := 0, locals := 0 } : Room) #[(.ref bb), (.int (0 : Int32)), (.int x0)] (QrmPc3_0 Z bb kb x0 h0 n0) := by
  refine own_start (plainFor_of_name pn_26) ?_
  intro pg ee s mm below meth cc s₁ Bd hZ hh hx hby hml hown0 hnm X0 e0
  have hown : s.vm.findClass "java/lang/StringUTF16" = some mm.cls := hown0
  have N0 := Fr.nil n0
  have K0 : Keep h0 h0 ([bb] : List Addr) := Keep.refl _ _
  have pre0 := fun tg_ => castTop (tb := pg.tables) (e := ee) (below := below) (T := s₁) (t := tg_) (ef_28_401 mm bb (0 : Int32) x0)
  obtain ⟨T1, X1, e1, st1⟩ := getS2 X0 hx hZ hown (host := "") (Or.inl (own_h hw 122 rfl)) Via.refl e0 (hG.1.ext O0.2) (g := (mkF mm 0 #[.val (.ref bb), .val (.int (0 : Int32)), .val (.int x0)] [])) rfl (hb hby d28_0)
  obtain ⟨T2, X2, e2, st2⟩ := getS2 X1 hx hZ hown (host := "") (Or.inl (own_h hw 123 rfl)) Via.refl e1 (hG.2.1.ext O0.2) (g := (mkF mm 38 #[.val (.ref bb), .val (.int (1 : Int32)), .val (.int x0)] [(.int x0), (.int (0 : Int32)), (.ref bb)])) rfl (hb hby d28_38)
  obtain ⟨cl3, Ar3, qk3, Sz3, Nn3, Hh3, Gg3⟩ := id Vb
  have hin3 : ¬ ((0 : Int32) < 0 ∨ cl3.slots.size ≤ ((0 : Int32)).toNatClampNeg) := inb_of Sz3 ⟨by decide, by decide⟩
  obtain ⟨T4, h4, X4, e4, W4, st4⟩ := stB X2 hx hZ e2 Ar3 (j := (0 : Int32)) hin3 (g := (mkF mm 43 #[.val (.ref bb), .val (.int (1 : Int32)), .val (.int x0)] [(.int ((x0 >>> ((0 : Int32) &&& 31)).toInt8.toInt32)), (.int (0 : Int32)), (.ref bb)])) rfl rfl (hb hby d28_43)
  have V4 : Arv Z h4 bb kb .byte (6 : Int32) [(own_u x0), (.int (0 : Int32)), (.int (0 : Int32)), (.int (0 : Int32)), (.int (0 : Int32)), (.int (0 : Int32))] (.int (0 : Int32)) := Arv.set Ar3 qk3 Sz3 Nn3 Hh3 Gg3 (fits_nar_byte _) W4 0 rfl (Nat.le_of_ble_eq_true rfl)
  have N4 := Fr.snoc X4 N0 g_bb
  have O4 := O0.wr W4 g_bb
  have KK4 := K0.wr W4 (Or.inl (by simp))
  obtain ⟨T5, X5, e5, st5⟩ := getS2 X4 hx hZ hown (host := "") (Or.inl (own_h hw 124 rfl)) Via.refl e4 (hG.2.2.ext O4.2) (g := (mkF mm 47 #[.val (.ref bb), .val (.int (1 : Int32)), .val (.int x0)] [(.int x0), (.int (1 : Int32)), (.ref bb)])) rfl (hb hby d28_47)
  obtain ⟨cl6, Ar6, qk6, Sz6, Nn6, Hh6, Gg6⟩ := id V4
  have hin6 : ¬ ((1 : Int32) < 0 ∨ cl6.slots.size ≤ ((1 : Int32)).toNatClampNeg) := inb_of Sz6 ⟨by decide, by decide⟩
  obtain ⟨T7, h7, X7, e7, W7, st7⟩ := stB X5 hx hZ e5 Ar6 (j := (1 : Int32)) hin6 (g := (mkF mm 52 #[.val (.ref bb), .val (.int (1 : Int32)), .val (.int x0)] [(.int ((x0 >>> ((8 : Int32) &&& 31)).toInt8.toInt32)), (.int (1 : Int32)), (.ref bb)])) rfl rfl (hb hby d28_52)
  have V7 : Arv Z h7 bb kb .byte (6 : Int32) [(own_u x0), (own_v x0), (.int (0 : Int32)), (.int (0 : Int32)), (.int (0 : Int32)), (.int (0 : Int32))] (.int (0 : Int32)) := Arv.set Ar6 qk6 Sz6 Nn6 Hh6 Gg6 (fits_nar_byte _) W7 1 rfl (Nat.le_of_ble_eq_true rfl)
  have N7 := Fr.snoc X7 N4 g_bb
  have O7 := O4.wr W7 g_bb
  have KK7 := KK4.wr W7 (Or.inl (by simp))
  refine own_end X7 (v := none) (fun _ => rfl) (by decide) (by decide) (fun fs hr => pre0 _ ?_) ?_
  · show Steps pg.tables ee below (s₁.setTop (mkF mm 0 #[.val (.ref bb), .val (.int (0 : Int32)), .val (.int x0)] [])) _
    refine st1 _ ?_
    refine XS.ifYes X1.here hx rfl (pc0 := 3) (pc' := 28) rfl (hb hby d28_3) rfl ((if0 _ _).trans (feq (by decide : ¬ ((1 : Int32) = (0 : Int32)))).2) (by decide) (by decide) ?_
    refine XS.iloadN X1.here hx rfl (hb hby d28_28) rfl ?_
    refine XS.iconst X1.here hx rfl (hb hby d28_29) ?_
    refine XS.ishl X1.here hx rfl (hb hby d28_30) rfl ?_
    refine XS.istoreN X1.here hx rfl (hb hby d28_31) rfl (l' := #[.val (.ref bb), .val (.int (0 : Int32)), .val (.int x0)]) rfl ?_
    refine XS.aloadN X1.here hx rfl (hb hby d28_32) rfl rfl ?_
    refine XS.iloadN X1.here hx rfl (hb hby d28_33) rfl ?_
    show Steps pg.tables ee below (T1.setTop (mkF mm 34 #[.val (.ref bb), .val (.int (0 : Int32)), .val (.int x0)] [(.int (0 : Int32)), (.ref bb)])) _
    refine XS.iinc X1.here hx rfl (hb hby d28_34) rfl (l' := #[.val (.ref bb), .val (.int (1 : Int32)), .val (.int x0)]) rfl ?_
    refine XS.iloadN X1.here hx rfl (hb hby d28_37) rfl ?_
    refine st2 _ ?_
    refine XS.ishr X2.here hx rfl (hb hby d28_41) rfl ?_
    refine XS.i2b X2.here hx rfl (hb hby d28_42) rfl ?_
    refine st4 _ ?_
    refine XS.aloadN X4.here hx rfl (hb hby d28_44) rfl rfl ?_
    refine XS.iloadN X4.here hx rfl (hb hby d28_45) rfl ?_
    show Steps pg.tables ee below (T4.setTop (mkF mm 46 #[.val (.ref bb), .val (.int (1 : Int32)), .val (.int x0)] [(.int (1 : Int32)), (.ref bb)])) _
    refine XS.iloadN X4.here hx rfl (hb hby d28_46) rfl ?_
    refine st5 _ ?_
    refine XS.ishr X5.here hx rfl (hb hby d28_50) rfl ?_
    refine XS.i2b X5.here hx rfl (hb hby d28_51) rfl ?_
    refine st7 _ ?_
    exact X7.returnOut hx Bd.returns (hb hby d28_53) hr
  · show QrmPc3_0 Z bb kb x0 h0 n0 _ T7.heap _
    rw [e7]
    exact ⟨rfl, N7, KK7, V7⟩
def QrmPc3_1 (Z : State) (bb : Addr) (kb : ClassId) (x0 : Int32) (x1 : Int32) (h0 : Heap) (n0 : Nat) (v : Option Value) (h : Heap) (L : List Loc) : Prop := v = none ∧ Fr n0 L ∧ Keep h0 h [bb] ∧ Arv Z h bb kb .byte (6 : Int32) [(own_u x0), (own_v x0), (own_u x1), (own_v x1), (.int (0 : Int32)), (.int (0 : Int32))] (.int (0 : Int32))
set_option maxRecDepth 65536 in
set_option maxHeartbeats 40000000 in
theorem rmPc3_1 (l : Launch) (Z : State) (a0 : Array Value) (hw : ∀ d ∈ tables_1, d.before a0 Z = true) (ws : List Jvm.Cond) (bb : Addr) (kb : ClassId) (x0 : Int32) (x1 : Int32) (h0 : Heap) (n0 : Nat) (O0 : Old Z n0 h0) (Vb : Arv Z h0 bb kb .byte (6 : Int32) [(own_u x0), (own_v x0), (.int (0 : Int32)), (.int (0 : Int32)), (.int (0 : Int32)), (.int (0 : Int32))] (.int (0 : Int32))) (g_bb : n0 ≤ bb) (hG : own_G Z) :
    own_M l Z h0 (⟨"java/lang/StringUTF16", "putChar", "([BII)V"⟩ : MethodName) jdk_52_method_4_code 3 none ws ({ frames := 0, cells := 0, slots := 0, locals := 0 } : Room) #[(.ref bb), (.int (1 : Int32)), (.int x1)] (QrmPc3_1 Z bb kb x0 x1 h0 n0) := by
  refine own_start (plainFor_of_name pn_26) ?_
  intro pg ee s mm below meth cc s₁ Bd hZ hh hx hby hml hown0 hnm X0 e0
  have hown : s.vm.findClass "java/lang/StringUTF16" = some mm.cls := hown0
  have N0 := Fr.nil n0
  have K0 : Keep h0 h0 ([bb] : List Addr) := Keep.refl _ _
  have pre0 := fun tg_ => castTop (tb := pg.tables) (e := ee) (below := below) (T := s₁) (t := tg_) (ef_28_401 mm bb (1 : Int32) x1)
  obtain ⟨T1, X1, e1, st1⟩ := getS2 X0 hx hZ hown (host := "") (Or.inl (own_h hw 122 rfl)) Via.refl e0 (hG.1.ext O0.2) (g := (mkF mm 0 #[.val (.ref bb), .val (.int (1 : Int32)), .val (.int x1)] [])) rfl (hb hby d28_0)
  obtain ⟨T2, X2, e2, st2⟩ := getS2 X1 hx hZ hown (host := "") (Or.inl (own_h hw 123 rfl)) Via.refl e1 (hG.2.1.ext O0.2) (g := (mkF mm 38 #[.val (.ref bb), .val (.int (3 : Int32)), .val (.int x1)] [(.int x1), (.int (2 : Int32)), (.ref bb)])) rfl (hb hby d28_38)
  obtain ⟨cl3, Ar3, qk3, Sz3, Nn3, Hh3, Gg3⟩ := id Vb
  have hin3 : ¬ ((2 : Int32) < 0 ∨ cl3.slots.size ≤ ((2 : Int32)).toNatClampNeg) := inb_of Sz3 ⟨by decide, by decide⟩
  obtain ⟨T4, h4, X4, e4, W4, st4⟩ := stB X2 hx hZ e2 Ar3 (j := (2 : Int32)) hin3 (g := (mkF mm 43 #[.val (.ref bb), .val (.int (3 : Int32)), .val (.int x1)] [(.int ((x1 >>> ((0 : Int32) &&& 31)).toInt8.toInt32)), (.int (2 : Int32)), (.ref bb)])) rfl rfl (hb hby d28_43)
  have V4 : Arv Z h4 bb kb .byte (6 : Int32) [(own_u x0), (own_v x0), (own_u x1), (.int (0 : Int32)), (.int (0 : Int32)), (.int (0 : Int32))] (.int (0 : Int32)) := Arv.set Ar3 qk3 Sz3 Nn3 Hh3 Gg3 (fits_nar_byte _) W4 2 rfl (Nat.le_of_ble_eq_true rfl)
  have N4 := Fr.snoc X4 N0 g_bb
  have O4 := O0.wr W4 g_bb
  have KK4 := K0.wr W4 (Or.inl (by simp))
  obtain ⟨T5, X5, e5, st5⟩ := getS2 X4 hx hZ hown (host := "") (Or.inl (own_h hw 124 rfl)) Via.refl e4 (hG.2.2.ext O4.2) (g := (mkF mm 47 #[.val (.ref bb), .val (.int (3 : Int32)), .val (.int x1)] [(.int x1), (.int (3 : Int32)), (.ref bb)])) rfl (hb hby d28_47)
  obtain ⟨cl6, Ar6, qk6, Sz6, Nn6, Hh6, Gg6⟩ := id V4
  have hin6 : ¬ ((3 : Int32) < 0 ∨ cl6.slots.size ≤ ((3 : Int32)).toNatClampNeg) := inb_of Sz6 ⟨by decide, by decide⟩
  obtain ⟨T7, h7, X7, e7, W7, st7⟩ := stB X5 hx hZ e5 Ar6 (j := (3 : Int32)) hin6 (g := (mkF mm 52 #[.val (.ref bb), .val (.int (3 : Int32)), .val (.int x1)] [(.int ((x1 >>> ((8 : Int32) &&& 31)).toInt8.toInt32)), (.int (3 : Int32)), (.ref bb)])) rfl rfl (hb hby d28_52)
  have V7 : Arv Z h7 bb kb .byte (6 : Int32) [(own_u x0), (own_v x0), (own_u x1), (own_v x1), (.int (0 : Int32)), (.int (0 : Int32))] (.int (0 : Int32)) := Arv.set Ar6 qk6 Sz6 Nn6 Hh6 Gg6 (fits_nar_byte _) W7 3 rfl (Nat.le_of_ble_eq_true rfl)
  have N7 := Fr.snoc X7 N4 g_bb
  have O7 := O4.wr W7 g_bb
  have KK7 := KK4.wr W7 (Or.inl (by simp))
  refine own_end X7 (v := none) (fun _ => rfl) (by decide) (by decide) (fun fs hr => pre0 _ ?_) ?_
  · show Steps pg.tables ee below (s₁.setTop (mkF mm 0 #[.val (.ref bb), .val (.int (1 : Int32)), .val (.int x1)] [])) _
    refine st1 _ ?_
    refine XS.ifYes X1.here hx rfl (pc0 := 3) (pc' := 28) rfl (hb hby d28_3) rfl ((if0 _ _).trans (feq (by decide : ¬ ((1 : Int32) = (0 : Int32)))).2) (by decide) (by decide) ?_
    refine XS.iloadN X1.here hx rfl (hb hby d28_28) rfl ?_
    refine XS.iconst X1.here hx rfl (hb hby d28_29) ?_
    refine XS.ishl X1.here hx rfl (hb hby d28_30) rfl ?_
    refine XS.istoreN X1.here hx rfl (hb hby d28_31) rfl (l' := #[.val (.ref bb), .val (.int (2 : Int32)), .val (.int x1)]) rfl ?_
    refine XS.aloadN X1.here hx rfl (hb hby d28_32) rfl rfl ?_
    refine XS.iloadN X1.here hx rfl (hb hby d28_33) rfl ?_
    show Steps pg.tables ee below (T1.setTop (mkF mm 34 #[.val (.ref bb), .val (.int (2 : Int32)), .val (.int x1)] [(.int (2 : Int32)), (.ref bb)])) _
    refine XS.iinc X1.here hx rfl (hb hby d28_34) rfl (l' := #[.val (.ref bb), .val (.int (3 : Int32)), .val (.int x1)]) rfl ?_
    refine XS.iloadN X1.here hx rfl (hb hby d28_37) rfl ?_
    refine st2 _ ?_
    refine XS.ishr X2.here hx rfl (hb hby d28_41) rfl ?_
    refine XS.i2b X2.here hx rfl (hb hby d28_42) rfl ?_
    refine st4 _ ?_
    refine XS.aloadN X4.here hx rfl (hb hby d28_44) rfl rfl ?_
    refine XS.iloadN X4.here hx rfl (hb hby d28_45) rfl ?_
    show Steps pg.tables ee below (T4.setTop (mkF mm 46 #[.val (.ref bb), .val (.int (3 : Int32)), .val (.int x1)] [(.int (3 : Int32)), (.ref bb)])) _
    refine XS.iloadN X4.here hx rfl (hb hby d28_46) rfl ?_
    refine st5 _ ?_
    refine XS.ishr X5.here hx rfl (hb hby d28_50) rfl ?_
    refine XS.i2b X5.here hx rfl (hb hby d28_51) rfl ?_
    refine st7 _ ?_
    exact X7.returnOut hx Bd.returns (hb hby d28_53) hr
  · show QrmPc3_1 Z bb kb x0 x1 h0 n0 _ T7.heap _
    rw [e7]
    exact ⟨rfl, N7, KK7, V7⟩
def QrmPc3_2 (Z : State) (bb : Addr) (kb : ClassId) (x0 : Int32) (x1 : Int32) (x2 : Int32) (h0 : Heap) (n0 : Nat) (v : Option Value) (h : Heap) (L : List Loc) : Prop := v = none ∧ Fr n0 L ∧ Keep h0 h [bb] ∧ Arv Z h bb kb .byte (6 : Int32) [(own_u x0), (own_v x0), (own_u x1), (own_v x1), (own_u x2), (own_v x2)] (.int (0 : Int32))
set_option maxRecDepth 65536 in
set_option maxHeartbeats 40000000 in
theorem rmPc3_2 (l : Launch) (Z : State) (a0 : Array Value) (hw : ∀ d ∈ tables_1, d.before a0 Z = true) (ws : List Jvm.Cond) (bb : Addr) (kb : ClassId) (x0 : Int32) (x1 : Int32) (x2 : Int32) (h0 : Heap) (n0 : Nat) (O0 : Old Z n0 h0) (Vb : Arv Z h0 bb kb .byte (6 : Int32) [(own_u x0), (own_v x0), (own_u x1), (own_v x1), (.int (0 : Int32)), (.int (0 : Int32))] (.int (0 : Int32))) (g_bb : n0 ≤ bb) (hG : own_G Z) :
    own_M l Z h0 (⟨"java/lang/StringUTF16", "putChar", "([BII)V"⟩ : MethodName) jdk_52_method_4_code 3 none ws ({ frames := 0, cells := 0, slots := 0, locals := 0 } : Room) #[(.ref bb), (.int (2 : Int32)), (.int x2)] (QrmPc3_2 Z bb kb x0 x1 x2 h0 n0) := by
  refine own_start (plainFor_of_name pn_26) ?_
  intro pg ee s mm below meth cc s₁ Bd hZ hh hx hby hml hown0 hnm X0 e0
  have hown : s.vm.findClass "java/lang/StringUTF16" = some mm.cls := hown0
  have N0 := Fr.nil n0
  have K0 : Keep h0 h0 ([bb] : List Addr) := Keep.refl _ _
  have pre0 := fun tg_ => castTop (tb := pg.tables) (e := ee) (below := below) (T := s₁) (t := tg_) (ef_28_401 mm bb (2 : Int32) x2)
  obtain ⟨T1, X1, e1, st1⟩ := getS2 X0 hx hZ hown (host := "") (Or.inl (own_h hw 122 rfl)) Via.refl e0 (hG.1.ext O0.2) (g := (mkF mm 0 #[.val (.ref bb), .val (.int (2 : Int32)), .val (.int x2)] [])) rfl (hb hby d28_0)
  obtain ⟨T2, X2, e2, st2⟩ := getS2 X1 hx hZ hown (host := "") (Or.inl (own_h hw 123 rfl)) Via.refl e1 (hG.2.1.ext O0.2) (g := (mkF mm 38 #[.val (.ref bb), .val (.int (5 : Int32)), .val (.int x2)] [(.int x2), (.int (4 : Int32)), (.ref bb)])) rfl (hb hby d28_38)
  obtain ⟨cl3, Ar3, qk3, Sz3, Nn3, Hh3, Gg3⟩ := id Vb
  have hin3 : ¬ ((4 : Int32) < 0 ∨ cl3.slots.size ≤ ((4 : Int32)).toNatClampNeg) := inb_of Sz3 ⟨by decide, by decide⟩
  obtain ⟨T4, h4, X4, e4, W4, st4⟩ := stB X2 hx hZ e2 Ar3 (j := (4 : Int32)) hin3 (g := (mkF mm 43 #[.val (.ref bb), .val (.int (5 : Int32)), .val (.int x2)] [(.int ((x2 >>> ((0 : Int32) &&& 31)).toInt8.toInt32)), (.int (4 : Int32)), (.ref bb)])) rfl rfl (hb hby d28_43)
  have V4 : Arv Z h4 bb kb .byte (6 : Int32) [(own_u x0), (own_v x0), (own_u x1), (own_v x1), (own_u x2), (.int (0 : Int32))] (.int (0 : Int32)) := Arv.set Ar3 qk3 Sz3 Nn3 Hh3 Gg3 (fits_nar_byte _) W4 4 rfl (Nat.le_of_ble_eq_true rfl)
  have N4 := Fr.snoc X4 N0 g_bb
  have O4 := O0.wr W4 g_bb
  have KK4 := K0.wr W4 (Or.inl (by simp))
  obtain ⟨T5, X5, e5, st5⟩ := getS2 X4 hx hZ hown (host := "") (Or.inl (own_h hw 124 rfl)) Via.refl e4 (hG.2.2.ext O4.2) (g := (mkF mm 47 #[.val (.ref bb), .val (.int (5 : Int32)), .val (.int x2)] [(.int x2), (.int (5 : Int32)), (.ref bb)])) rfl (hb hby d28_47)
  obtain ⟨cl6, Ar6, qk6, Sz6, Nn6, Hh6, Gg6⟩ := id V4
  have hin6 : ¬ ((5 : Int32) < 0 ∨ cl6.slots.size ≤ ((5 : Int32)).toNatClampNeg) := inb_of Sz6 ⟨by decide, by decide⟩
  obtain ⟨T7, h7, X7, e7, W7, st7⟩ := stB X5 hx hZ e5 Ar6 (j := (5 : Int32)) hin6 (g := (mkF mm 52 #[.val (.ref bb), .val (.int (5 : Int32)), .val (.int x2)] [(.int ((x2 >>> ((8 : Int32) &&& 31)).toInt8.toInt32)), (.int (5 : Int32)), (.ref bb)])) rfl rfl (hb hby d28_52)
  have V7 : Arv Z h7 bb kb .byte (6 : Int32) [(own_u x0), (own_v x0), (own_u x1), (own_v x1), (own_u x2), (own_v x2)] (.int (0 : Int32)) := Arv.set Ar6 qk6 Sz6 Nn6 Hh6 Gg6 (fits_nar_byte _) W7 5 rfl (Nat.le_of_ble_eq_true rfl)
  have N7 := Fr.snoc X7 N4 g_bb
  have O7 := O4.wr W7 g_bb
  have KK7 := KK4.wr W7 (Or.inl (by simp))
  refine own_end X7 (v := none) (fun _ => rfl) (by decide) (by decide) (fun fs hr => pre0 _ ?_) ?_
  · show Steps pg.tables ee below (s₁.setTop (mkF mm 0 #[.val (.ref bb), .val (.int (2 : Int32)), .val (.int x2)] [])) _
    refine st1 _ ?_
    refine XS.ifYes X1.here hx rfl (pc0 := 3) (pc' := 28) rfl (hb hby d28_3) rfl ((if0 _ _).trans (feq (by decide : ¬ ((1 : Int32) = (0 : Int32)))).2) (by decide) (by decide) ?_
    refine XS.iloadN X1.here hx rfl (hb hby d28_28) rfl ?_
    refine XS.iconst X1.here hx rfl (hb hby d28_29) ?_
    refine XS.ishl X1.here hx rfl (hb hby d28_30) rfl ?_
    refine XS.istoreN X1.here hx rfl (hb hby d28_31) rfl (l' := #[.val (.ref bb), .val (.int (4 : Int32)), .val (.int x2)]) rfl ?_
    refine XS.aloadN X1.here hx rfl (hb hby d28_32) rfl rfl ?_
    refine XS.iloadN X1.here hx rfl (hb hby d28_33) rfl ?_
    show Steps pg.tables ee below (T1.setTop (mkF mm 34 #[.val (.ref bb), .val (.int (4 : Int32)), .val (.int x2)] [(.int (4 : Int32)), (.ref bb)])) _
    refine XS.iinc X1.here hx rfl (hb hby d28_34) rfl (l' := #[.val (.ref bb), .val (.int (5 : Int32)), .val (.int x2)]) rfl ?_
    refine XS.iloadN X1.here hx rfl (hb hby d28_37) rfl ?_
    refine st2 _ ?_
    refine XS.ishr X2.here hx rfl (hb hby d28_41) rfl ?_
    refine XS.i2b X2.here hx rfl (hb hby d28_42) rfl ?_
    refine st4 _ ?_
    refine XS.aloadN X4.here hx rfl (hb hby d28_44) rfl rfl ?_
    refine XS.iloadN X4.here hx rfl (hb hby d28_45) rfl ?_
    show Steps pg.tables ee below (T4.setTop (mkF mm 46 #[.val (.ref bb), .val (.int (5 : Int32)), .val (.int x2)] [(.int (5 : Int32)), (.ref bb)])) _
    refine XS.iloadN X4.here hx rfl (hb hby d28_46) rfl ?_
    refine st5 _ ?_
    refine XS.ishr X5.here hx rfl (hb hby d28_50) rfl ?_
    refine XS.i2b X5.here hx rfl (hb hby d28_51) rfl ?_
    refine st7 _ ?_
    exact X7.returnOut hx Bd.returns (hb hby d28_53) hr
  · show QrmPc3_2 Z bb kb x0 x1 x2 h0 n0 _ T7.heap _
    rw [e7]
    exact ⟨rfl, N7, KK7, V7⟩
def QrmTb3 (Z : State) (ch : Addr) (kc : ClassId) (x0 : Int32) (x1 : Int32) (x2 : Int32) (h0 : Heap) (n0 : Nat) (v : Option Value) (h : Heap) (L : List Loc) : Prop := ∃ (b : Addr) (kb : ClassId), v = some (.ref b) ∧ Fr n0 L ∧ Keep h0 h [] ∧ n0 ≤ b ∧ h0.size ≤ b ∧ Arv Z h b kb .byte (6 : Int32) [(own_u x0), (own_v x0), (own_u x1), (own_v x1), (own_u x2), (own_v x2)] (.int (0 : Int32))
set_option maxRecDepth 65536 in
set_option maxHeartbeats 40000000 in
theorem rmTb3 (l : Launch) (Z : State) (a0 : Array Value) (hw : ∀ d ∈ tables_1, d.before a0 Z = true) (ws : List Jvm.Cond) (ch : Addr) (kc : ClassId) (x0 : Int32) (x1 : Int32) (x2 : Int32) (h0 : Heap) (n0 : Nat) (O0 : Old Z n0 h0) (Vc : Arv Z h0 ch kc .char (3 : Int32) [(.int x0), (.int x1), (.int x2)] (.int (0 : Int32))) (hG : own_G Z) :
    own_M l Z h0 (⟨"java/lang/StringUTF16", "toBytes", "([CII)[B"⟩ : MethodName) jdk_52_method_14_code 5 (some (.array .byte)) ws ({ frames := 2, cells := 1, slots := 6, locals := 24 } : Room) #[(.ref ch), (.int (0 : Int32)), (.int (3 : Int32))] (QrmTb3 Z ch kc x0 x1 x2 h0 n0) := by
  refine own_start (plainFor_of_name pn_26) ?_
  intro pg ee s mm below meth cc s₁ Bd hZ hh hx hby hml hown0 hnm X0 e0
  have hown : s.vm.findClass "java/lang/StringUTF16" = some mm.cls := hown0
  have N0 := Fr.nil n0
  have K0 : Keep h0 h0 ([] : List Addr) := Keep.refl _ _
  have pre0 := fun tg_ => castTop (tb := pg.tables) (e := ee) (below := below) (T := s₁) (t := tg_) (ef_25_423 mm ch (0 : Int32) (3 : Int32))
  obtain ⟨_, _, ⟨T1, L1, k1, n1⟩, -, X1, ⟨Lc1, hQ1, l1, y1, z1⟩, st1⟩ := Jvm.LawKit.callS X0 hx hown (mvT hZ (own_h hw 112 rfl)) (mvT hZ (own_h hw 113 rfl)) (mvT hZ (own_h hw 48 rfl)) (mvT hZ (own_h hw 114 rfl)) (by decide) (backOf (W := 0) (rmNf3 l Z a0 hw [] h0 n0 O0) hZ (own_h hw 114 rfl) (own_h hw 48 rfl) (by decide) (by decide)) (g := (mkF mm 1 #[.val (.ref ch), .val (.int (0 : Int32)), .val (.int (3 : Int32)), .unset, .unset] [(.int (3 : Int32))])) rfl (by rw [hml]; rfl) (argsL := [(.int (3 : Int32))]) (rest := []) (lenOf pd_404 rfl) rfl (Nat.le_of_eq rfl) (hb hby d25_1) (fun _ _ => ⟨rfl, e0, (by decide : 0 + 1 ≤ _), (by decide : 0 + 6 ≤ _)⟩)
  dsimp only [Pt.U, Pt.locs, Pt.cells, Pt.slots] at X1 l1 y1 z1 st1 hQ1
  subst l1 y1 z1
  obtain ⟨tb1, kt1, rfl, N1q, K1, g_tb1, sz_tb1, Vt1⟩ := hQ1
  have O1 := O0.keep K1 all0
  have KK1 := K0.trans K1 all0
  have N1 := Fr.app N0 N1q
  obtain ⟨cl2, Ar2, qk2, Sz2, Nn2, Hh2, Gg2⟩ := id (Vc.keep K1 nin0)
  have hin2 : ¬ ((0 : Int32) < 0 ∨ cl2.slots.size ≤ ((0 : Int32)).toNatClampNeg) := inb_of Sz2 ⟨by decide, by decide⟩
  obtain ⟨_, _, ⟨T3, L3, k3, n3⟩, -, X3, ⟨Lc3, hQ3, l3, y3, z3⟩, st3⟩ := Jvm.LawKit.callS X1 hx hown (mvT hZ (own_h hw 119 rfl)) (mvT hZ (own_h hw 120 rfl)) (mvT hZ (own_h hw 48 rfl)) (mvT hZ (own_h hw 121 rfl)) (by decide) (backOf (W := 0) (rmPc3_0 l Z a0 hw [] tb1 kt1 x0 T1.heap n0 O1 Vt1 g_tb1 hG) hZ (own_h hw 121 rfl) (own_h hw 48 rfl) (by decide) (by decide)) (g := (mkF mm 20 #[.val (.ref ch), .val (.int (0 : Int32)), .val (.int (3 : Int32)), .val (.ref tb1), .val (.int (0 : Int32))] [(.int x0), (.int (0 : Int32)), (.ref tb1)])) rfl (by rw [hml]; rfl) (argsL := [(.ref tb1), (.int (0 : Int32)), (.int x0)]) (rest := []) (lenOf pd_417 rfl) rfl (Nat.le_of_eq rfl) (hb hby d25_20) (fun _ _ => ⟨rfl, rfl, (by decide : 1 + 0 ≤ _), (by decide : 6 + 0 ≤ _)⟩)
  dsimp only [Pt.U, Pt.locs, Pt.cells, Pt.slots] at X3 l3 y3 z3 st3 hQ3
  subst l3 y3 z3
  obtain ⟨rfl, N3q, K3, Vp3⟩ := hQ3
  have O3 := O1.keep K3 (allS g_tb1 all0)
  have KK3 := KK1.trans K3 (allS (Or.inr sz_tb1) all0)
  have N3 := Fr.app N1 N3q
  obtain ⟨cl4, Ar4, qk4, Sz4, Nn4, Hh4, Gg4⟩ := id ((Vc.keep K1 nin0).keep K3 (ninS (Nat.ne_of_lt (Nat.lt_of_lt_of_le Vc.lt sz_tb1)) nin0))
  have hin4 : ¬ ((1 : Int32) < 0 ∨ cl4.slots.size ≤ ((1 : Int32)).toNatClampNeg) := inb_of Sz4 ⟨by decide, by decide⟩
  obtain ⟨_, _, ⟨T5, L5, k5, n5⟩, -, X5, ⟨Lc5, hQ5, l5, y5, z5⟩, st5⟩ := Jvm.LawKit.callS X3 hx hown (mvT hZ (own_h hw 119 rfl)) (mvT hZ (own_h hw 120 rfl)) (mvT hZ (own_h hw 48 rfl)) (mvT hZ (own_h hw 121 rfl)) (by decide) (backOf (W := 0) (rmPc3_1 l Z a0 hw [] tb1 kt1 x0 x1 T3.heap n0 O3 Vp3 g_tb1 hG) hZ (own_h hw 121 rfl) (own_h hw 48 rfl) (by decide) (by decide)) (g := (mkF mm 20 #[.val (.ref ch), .val (.int (1 : Int32)), .val (.int (3 : Int32)), .val (.ref tb1), .val (.int (1 : Int32))] [(.int x1), (.int (1 : Int32)), (.ref tb1)])) rfl (by rw [hml]; rfl) (argsL := [(.ref tb1), (.int (1 : Int32)), (.int x1)]) (rest := []) (lenOf pd_417 rfl) rfl (Nat.le_of_eq rfl) (hb hby d25_20) (fun _ _ => ⟨rfl, rfl, (by decide : 1 + 0 ≤ _), (by decide : 6 + 0 ≤ _)⟩)
  dsimp only [Pt.U, Pt.locs, Pt.cells, Pt.slots] at X5 l5 y5 z5 st5 hQ5
  subst l5 y5 z5
  obtain ⟨rfl, N5q, K5, Vp5⟩ := hQ5
  have O5 := O3.keep K5 (allS g_tb1 all0)
  have KK5 := KK3.trans K5 (allS (Or.inr sz_tb1) all0)
  have N5 := Fr.app N3 N5q
  obtain ⟨cl6, Ar6, qk6, Sz6, Nn6, Hh6, Gg6⟩ := id (((Vc.keep K1 nin0).keep K3 (ninS (Nat.ne_of_lt (Nat.lt_of_lt_of_le Vc.lt sz_tb1)) nin0)).keep K5 (ninS (Nat.ne_of_lt (Nat.lt_of_lt_of_le Vc.lt sz_tb1)) nin0))
  have hin6 : ¬ ((2 : Int32) < 0 ∨ cl6.slots.size ≤ ((2 : Int32)).toNatClampNeg) := inb_of Sz6 ⟨by decide, by decide⟩
  obtain ⟨_, _, ⟨T7, L7, k7, n7⟩, -, X7, ⟨Lc7, hQ7, l7, y7, z7⟩, st7⟩ := Jvm.LawKit.callS X5 hx hown (mvT hZ (own_h hw 119 rfl)) (mvT hZ (own_h hw 120 rfl)) (mvT hZ (own_h hw 48 rfl)) (mvT hZ (own_h hw 121 rfl)) (by decide) (backOf (W := 0) (rmPc3_2 l Z a0 hw [] tb1 kt1 x0 x1 x2 T5.heap n0 O5 Vp5 g_tb1 hG) hZ (own_h hw 121 rfl) (own_h hw 48 rfl) (by decide) (by decide)) (g := (mkF mm 20 #[.val (.ref ch), .val (.int (2 : Int32)), .val (.int (3 : Int32)), .val (.ref tb1), .val (.int (2 : Int32))] [(.int x2), (.int (2 : Int32)), (.ref tb1)])) rfl (by rw [hml]; rfl) (argsL := [(.ref tb1), (.int (2 : Int32)), (.int x2)]) (rest := []) (lenOf pd_417 rfl) rfl (Nat.le_of_eq rfl) (hb hby d25_20) (fun _ _ => ⟨rfl, rfl, (by decide : 1 + 0 ≤ _), (by decide : 6 + 0 ≤ _)⟩)
  dsimp only [Pt.U, Pt.locs, Pt.cells, Pt.slots] at X7 l7 y7 z7 st7 hQ7
  subst l7 y7 z7
  obtain ⟨rfl, N7q, K7, Vp7⟩ := hQ7
  have O7 := O5.keep K7 (allS g_tb1 all0)
  have KK7 := KK5.trans K7 (allS (Or.inr sz_tb1) all0)
  have N7 := Fr.app N5 N7q
  refine own_end X7 (v := some (.ref tb1)) (fun h => by rw [Bd.returns] at h; cases h) (by decide) (by decide) (fun fs hr => pre0 _ ?_) ?_
  · show Steps pg.tables ee below (s₁.setTop (mkF mm 0 #[.val (.ref ch), .val (.int (0 : Int32)), .val (.int (3 : Int32)), .unset, .unset] [])) _
    refine XS.iloadN X0.here hx rfl (hb hby d25_0) rfl ?_
    refine st1 _ ?_
    refine XS.astoreN X1.here hx rfl (hb hby d25_4) rfl rfl (l' := #[.val (.ref ch), .val (.int (0 : Int32)), .val (.int (3 : Int32)), .val (.ref tb1), .unset]) rfl ?_
    refine XS.iconst X1.here hx rfl (hb hby d25_5) ?_
    refine XS.istore X1.here hx rfl (hb hby d25_6) rfl (l' := #[.val (.ref ch), .val (.int (0 : Int32)), .val (.int (3 : Int32)), .val (.ref tb1), .val (.int (0 : Int32))]) rfl ?_
    refine XS.iload X1.here hx rfl (hb hby d25_8) rfl ?_
    refine XS.iloadN X1.here hx rfl (hb hby d25_10) rfl ?_
    refine XS.icmpNo X1.here hx rfl (hb hby d25_11) rfl (tlt (by decide : (0 : Int32) < (3 : Int32))).2.1 ?_
    show Steps pg.tables ee below (T1.setTop (mkF mm 14 #[.val (.ref ch), .val (.int (0 : Int32)), .val (.int (3 : Int32)), .val (.ref tb1), .val (.int (0 : Int32))] [])) _
    refine XS.aloadN X1.here hx rfl (hb hby d25_14) rfl rfl ?_
    refine XS.iload X1.here hx rfl (hb hby d25_15) rfl ?_
    refine XS.aloadN X1.here hx rfl (hb hby d25_17) rfl rfl ?_
    refine XS.iloadN X1.here hx rfl (hb hby d25_18) rfl ?_
    refine X1.caload hx (j := (0 : Int32)) (v := (.int x0)) Ar2.1 (State.isArrayOf_alike hZ.alike Ar2.2.1) Ar2.2.2 hin2 (Has.at Hh2 hin2 rfl) (g := (mkF mm 19 #[.val (.ref ch), .val (.int (0 : Int32)), .val (.int (3 : Int32)), .val (.ref tb1), .val (.int (0 : Int32))] [(.int (0 : Int32)), (.ref ch), (.int (0 : Int32)), (.ref tb1)])) rfl rfl (hb hby d25_19) _ ?_
    refine st3 _ ?_
    refine XS.iinc X3.here hx rfl (hb hby d25_23) rfl (l' := #[.val (.ref ch), .val (.int (1 : Int32)), .val (.int (3 : Int32)), .val (.ref tb1), .val (.int (0 : Int32))]) rfl ?_
    refine XS.iinc X3.here hx rfl (hb hby d25_26) rfl (l' := #[.val (.ref ch), .val (.int (1 : Int32)), .val (.int (3 : Int32)), .val (.ref tb1), .val (.int (1 : Int32))]) rfl ?_
    show Steps pg.tables ee below (T3.setTop (mkF mm 29 #[.val (.ref ch), .val (.int (1 : Int32)), .val (.int (3 : Int32)), .val (.ref tb1), .val (.int (1 : Int32))] [])) _
    refine XS.goto X3.here hx rfl (pc0 := 29) (pc' := 8) rfl (hb hby d25_29) (by decide) (by decide) ?_
    refine XS.iload X3.here hx rfl (hb hby d25_8) rfl ?_
    refine XS.iloadN X3.here hx rfl (hb hby d25_10) rfl ?_
    refine XS.icmpNo X3.here hx rfl (hb hby d25_11) rfl (tlt (by decide : (1 : Int32) < (3 : Int32))).2.1 ?_
    refine XS.aloadN X3.here hx rfl (hb hby d25_14) rfl rfl ?_
    refine XS.iload X3.here hx rfl (hb hby d25_15) rfl ?_
    refine XS.aloadN X3.here hx rfl (hb hby d25_17) rfl rfl ?_
    refine XS.iloadN X3.here hx rfl (hb hby d25_18) rfl ?_
    show Steps pg.tables ee below (T3.setTop (mkF mm 19 #[.val (.ref ch), .val (.int (1 : Int32)), .val (.int (3 : Int32)), .val (.ref tb1), .val (.int (1 : Int32))] [(.int (1 : Int32)), (.ref ch), (.int (1 : Int32)), (.ref tb1)])) _
    refine X3.caload hx (j := (1 : Int32)) (v := (.int x1)) Ar4.1 (State.isArrayOf_alike hZ.alike Ar4.2.1) Ar4.2.2 hin4 (Has.at Hh4 hin4 rfl) (g := (mkF mm 19 #[.val (.ref ch), .val (.int (1 : Int32)), .val (.int (3 : Int32)), .val (.ref tb1), .val (.int (1 : Int32))] [(.int (1 : Int32)), (.ref ch), (.int (1 : Int32)), (.ref tb1)])) rfl rfl (hb hby d25_19) _ ?_
    refine st5 _ ?_
    refine XS.iinc X5.here hx rfl (hb hby d25_23) rfl (l' := #[.val (.ref ch), .val (.int (2 : Int32)), .val (.int (3 : Int32)), .val (.ref tb1), .val (.int (1 : Int32))]) rfl ?_
    refine XS.iinc X5.here hx rfl (hb hby d25_26) rfl (l' := #[.val (.ref ch), .val (.int (2 : Int32)), .val (.int (3 : Int32)), .val (.ref tb1), .val (.int (2 : Int32))]) rfl ?_
    refine XS.goto X5.here hx rfl (pc0 := 29) (pc' := 8) rfl (hb hby d25_29) (by decide) (by decide) ?_
    refine XS.iload X5.here hx rfl (hb hby d25_8) rfl ?_
    refine XS.iloadN X5.here hx rfl (hb hby d25_10) rfl ?_
    refine XS.icmpNo X5.here hx rfl (hb hby d25_11) rfl (tlt (by decide : (2 : Int32) < (3 : Int32))).2.1 ?_
    show Steps pg.tables ee below (T5.setTop (mkF mm 14 #[.val (.ref ch), .val (.int (2 : Int32)), .val (.int (3 : Int32)), .val (.ref tb1), .val (.int (2 : Int32))] [])) _
    refine XS.aloadN X5.here hx rfl (hb hby d25_14) rfl rfl ?_
    refine XS.iload X5.here hx rfl (hb hby d25_15) rfl ?_
    refine XS.aloadN X5.here hx rfl (hb hby d25_17) rfl rfl ?_
    refine XS.iloadN X5.here hx rfl (hb hby d25_18) rfl ?_
    refine X5.caload hx (j := (2 : Int32)) (v := (.int x2)) Ar6.1 (State.isArrayOf_alike hZ.alike Ar6.2.1) Ar6.2.2 hin6 (Has.at Hh6 hin6 rfl) (g := (mkF mm 19 #[.val (.ref ch), .val (.int (2 : Int32)), .val (.int (3 : Int32)), .val (.ref tb1), .val (.int (2 : Int32))] [(.int (2 : Int32)), (.ref ch), (.int (2 : Int32)), (.ref tb1)])) rfl rfl (hb hby d25_19) _ ?_
    refine st7 _ ?_
    refine XS.iinc X7.here hx rfl (hb hby d25_23) rfl (l' := #[.val (.ref ch), .val (.int (3 : Int32)), .val (.int (3 : Int32)), .val (.ref tb1), .val (.int (2 : Int32))]) rfl ?_
    refine XS.iinc X7.here hx rfl (hb hby d25_26) rfl (l' := #[.val (.ref ch), .val (.int (3 : Int32)), .val (.int (3 : Int32)), .val (.ref tb1), .val (.int (3 : Int32))]) rfl ?_
    show Steps pg.tables ee below (T7.setTop (mkF mm 29 #[.val (.ref ch), .val (.int (3 : Int32)), .val (.int (3 : Int32)), .val (.ref tb1), .val (.int (3 : Int32))] [])) _
    refine XS.goto X7.here hx rfl (pc0 := 29) (pc' := 8) rfl (hb hby d25_29) (by decide) (by decide) ?_
    refine XS.iload X7.here hx rfl (hb hby d25_8) rfl ?_
    refine XS.iloadN X7.here hx rfl (hb hby d25_10) rfl ?_
    refine XS.icmpYes X7.here hx rfl (pc0 := 11) (pc' := 32) rfl (hb hby d25_11) rfl (flt (by decide : ¬ ((3 : Int32) < (3 : Int32)))).2.1 (by decide) (by decide) ?_
    refine XS.aloadN X7.here hx rfl (hb hby d25_32) rfl rfl ?_
    exact retOut X7 hx Bd.returns rfl (Or.inr (Or.inr (Or.inr (Or.inr ⟨rfl, rfl, rfl⟩)))) (hb hby d25_33) hr
  · show QrmTb3 Z ch kc x0 x1 x2 h0 n0 _ T7.heap _
    exact ⟨_, _, rfl, N7, KK7, g_tb1, sz_tb1, Vp7⟩
def QrmCmL3 (Z : State) (ch : Addr) (kc : ClassId) (x0 : Int32) (x1 : Int32) (x2 : Int32) (h0 : Heap) (n0 : Nat) (v : Option Value) (h : Heap) (L : List Loc) : Prop := ∃ (b : Addr) (kb : ClassId), v = some (.ref b) ∧ Fr n0 L ∧ Keep h0 h [] ∧ n0 ≤ b ∧ h0.size ≤ b ∧ Arv Z h b kb .byte (3 : Int32) [(own_l x0), (own_l x1), (own_l x2)] (.int (0 : Int32))
set_option maxRecDepth 65536 in
set_option maxHeartbeats 40000000 in
theorem rmCmL3 (l : Launch) (Z : State) (a0 : Array Value) (hw : ∀ d ∈ tables_1, d.before a0 Z = true) (ws : List Jvm.Cond) (ch : Addr) (kc : ClassId) (x0 : Int32) (x1 : Int32) (x2 : Int32) (h0 : Heap) (n0 : Nat) (O0 : Old Z n0 h0) (Vc : Arv Z h0 ch kc .char (3 : Int32) [(.int x0), (.int x1), (.int x2)] (.int (0 : Int32))) (hl0 : ¬ ((255 : Int32) < x0)) (hl1 : ¬ ((255 : Int32) < x1)) (hl2 : ¬ ((255 : Int32) < x2)) :
    own_M l Z h0 (⟨"java/lang/StringUTF16", "compress", "([CII)[B"⟩ : MethodName) jdk_52_method_16_code 6 (some (.array .byte)) ws ({ frames := 1, cells := 1, slots := 3, locals := 18 } : Room) #[(.ref ch), (.int (0 : Int32)), (.int (3 : Int32))] (QrmCmL3 Z ch kc x0 x1 x2 h0 n0) := by
  refine own_start (plainFor_of_name pn_26) ?_
  intro pg ee s mm below meth cc s₁ Bd hZ hh hx hby hml hown0 hnm X0 e0
  have hown : s.vm.findClass "java/lang/StringUTF16" = some mm.cls := hown0
  have N0 := Fr.nil n0
  have K0 : Keep h0 h0 ([] : List Addr) := Keep.refl _ _
  have pre0 := fun tg_ => castTop (tb := pg.tables) (e := ee) (below := below) (T := s₁) (t := tg_) (ef_9_440 mm ch (0 : Int32) (3 : Int32))
  obtain ⟨T1, h1, k1, X1, e1, E1, A1, st1⟩ := newP X0 hx hZ (own_h hw 19 rfl) e0 (g := (mkF mm 1 #[.val (.ref ch), .val (.int (0 : Int32)), .val (.int (3 : Int32)), .unset, .unset, .unset] [(.int (3 : Int32))])) rfl (hb hby d9_1) rfl (by decide) (cap := 3) (by decide) (by decide) (by decide) (by decide)
  obtain ⟨b1, g1⟩ : ∃ z, z = h0.size := ⟨_, rfl⟩
  rw [← g1] at A1 st1
  have g_b1 : n0 ≤ b1 := Nat.le_trans (O0.1 ▸ O0.2.1) (Nat.le_of_eq g1.symm)
  have sz_b1 : h0.size ≤ b1 := Nat.le_trans K0.1 (Nat.le_of_eq g1.symm)
  have O1 := O0.ext E1
  have KK1 := K0.ext E1
  have V1 : Arv Z h1 b1 k1 .byte (3 : Int32) [(.int (0 : Int32)), (.int (0 : Int32)), (.int (0 : Int32))] (.int (0 : Int32)) := (Arv.new A1 (by decide)).pad (pad_rep [] (.int (0 : Int32)) 3)
  obtain ⟨_, _, ⟨T2, L2, k2, n2⟩, -, X2, ⟨Lc2, hQ2, l2, y2, z2⟩, st2⟩ := Jvm.LawKit.callS X1 hx hown (mvT hZ (own_h hw 50 rfl)) (mvT hZ (own_h hw 51 rfl)) (mvT hZ (own_h hw 48 rfl)) (mvT hZ (own_h hw 52 rfl)) (by decide) (backOf (W := 0) (rmIn3_3 l Z a0 hw [] ch kc x0 x1 x2 b1 k1 h1 n0 O1 (Vc.ext E1) V1 g_b1 (Nat.ne_of_lt (Nat.lt_of_lt_of_le Vc.lt (Nat.le_of_eq g1.symm))) hl0 hl1 hl2) hZ (own_h hw 52 rfl) (own_h hw 48 rfl) (by decide) (by decide)) (g := (mkF mm 9 #[.val (.ref ch), .val (.int (0 : Int32)), .val (.int (3 : Int32)), .val (.ref b1), .unset, .unset] [(.int (3 : Int32)), (.int (0 : Int32)), (.ref b1), (.int (0 : Int32)), (.ref ch)])) rfl (by rw [hml]; rfl) (argsL := [(.ref ch), (.int (0 : Int32)), (.ref b1), (.int (0 : Int32)), (.int (3 : Int32))]) (rest := []) (lenOf pd_433 rfl) rfl (Nat.le_of_eq rfl) (hb hby d9_9) (fun _ _ => ⟨rfl, e1, (by decide : 1 + 0 ≤ _), (by decide : 3 + 0 ≤ _)⟩)
  dsimp only [Pt.U, Pt.locs, Pt.cells, Pt.slots] at X2 l2 y2 z2 st2 hQ2
  subst l2 y2 z2
  obtain ⟨rfl, N2q, K2, Vw2⟩ := hQ2
  have O2 := O1.keep K2 (allS g_b1 all0)
  have KK2 := KK1.trans K2 (allS (Or.inr sz_b1) all0)
  have N2 := Fr.app N0 N2q
  refine own_end X2 (v := some (.ref b1)) (fun h => by rw [Bd.returns] at h; cases h) (by decide) (by decide) (fun fs hr => pre0 _ ?_) ?_
  · show Steps pg.tables ee below (s₁.setTop (mkF mm 0 #[.val (.ref ch), .val (.int (0 : Int32)), .val (.int (3 : Int32)), .unset, .unset, .unset] [])) _
    refine XS.iloadN X0.here hx rfl (hb hby d9_0) rfl ?_
    refine st1 _ ?_
    refine XS.astoreN X1.here hx rfl (hb hby d9_3) rfl rfl (l' := #[.val (.ref ch), .val (.int (0 : Int32)), .val (.int (3 : Int32)), .val (.ref b1), .unset, .unset]) rfl ?_
    refine XS.aloadN X1.here hx rfl (hb hby d9_4) rfl rfl ?_
    refine XS.iloadN X1.here hx rfl (hb hby d9_5) rfl ?_
    refine XS.aloadN X1.here hx rfl (hb hby d9_6) rfl rfl ?_
    refine XS.iconst X1.here hx rfl (hb hby d9_7) ?_
    refine XS.iloadN X1.here hx rfl (hb hby d9_8) rfl ?_
    show Steps pg.tables ee below (T1.setTop (mkF mm 9 #[.val (.ref ch), .val (.int (0 : Int32)), .val (.int (3 : Int32)), .val (.ref b1), .unset, .unset] [(.int (3 : Int32)), (.int (0 : Int32)), (.ref b1), (.int (0 : Int32)), (.ref ch)])) _
    refine st2 _ ?_
    refine XS.istore X2.here hx rfl (hb hby d9_12) rfl (l' := #[.val (.ref ch), .val (.int (0 : Int32)), .val (.int (3 : Int32)), .val (.ref b1), .val (.int (3 : Int32)), .unset]) rfl ?_
    refine XS.iload X2.here hx rfl (hb hby d9_14) rfl ?_
    refine XS.iloadN X2.here hx rfl (hb hby d9_16) rfl ?_
    refine XS.icmpYes X2.here hx rfl (pc0 := 17) (pc' := 57) rfl (hb hby d9_17) rfl (teq (by decide : (3 : Int32) = (3 : Int32))).1 (by decide) (by decide) ?_
    refine XS.aloadN X2.here hx rfl (hb hby d9_57) rfl rfl ?_
    exact retOut X2 hx Bd.returns rfl (Or.inr (Or.inr (Or.inr (Or.inr ⟨rfl, rfl, rfl⟩)))) (hb hby d9_58) hr
  · show QrmCmL3 Z ch kc x0 x1 x2 h0 n0 _ T2.heap _
    exact ⟨_, _, rfl, N2, KK2, g_b1, sz_b1, Vw2⟩
def QU3 (Z : State) (x0 : Int32) (x1 : Int32) (x2 : Int32) (h0 : Heap) (n0 : Nat) (v : Option Value) (h : Heap) (L : List Loc) : Prop := ∃ (b : Addr) (kb : ClassId), v = some (.ref b) ∧ Fr n0 L ∧ Keep h0 h [] ∧ n0 ≤ b ∧ h0.size ≤ b ∧ Arv Z h b kb .byte (6 : Int32) [(own_u x0), (own_v x0), (own_u x1), (own_v x1), (own_u x2), (own_v x2)] (.int (0 : Int32))
set_option maxRecDepth 65536 in
set_option maxHeartbeats 40000000 in
theorem rmCmU3_0 (l : Launch) (Z : State) (a0 : Array Value) (hw : ∀ d ∈ tables_1, d.before a0 Z = true) (ws : List Jvm.Cond) (ch : Addr) (kc : ClassId) (x0 : Int32) (x1 : Int32) (x2 : Int32) (h0 : Heap) (n0 : Nat) (O0 : Old Z n0 h0) (Vc : Arv Z h0 ch kc .char (3 : Int32) [(.int x0), (.int x1), (.int x2)] (.int (0 : Int32))) (hG : own_G Z) (hl0 : (255 : Int32) < x0) (ha0 : ¬ (x0 < (0 : Int32))) (hb0 : ¬ ((65535 : Int32) < x0)) (ha1 : ¬ (x1 < (0 : Int32))) (hb1 : ¬ ((65535 : Int32) < x1)) (ha2 : ¬ (x2 < (0 : Int32))) (hb2 : ¬ ((65535 : Int32) < x2)) :
    own_M l Z h0 (⟨"java/lang/StringUTF16", "compress", "([CII)[B"⟩ : MethodName) jdk_52_method_16_code 6 (some (.array .byte)) ws ({ frames := 3, cells := 2, slots := 9, locals := 40 } : Room) #[(.ref ch), (.int (0 : Int32)), (.int (3 : Int32))] (QU3 Z x0 x1 x2 h0 n0) := by
  refine own_start (plainFor_of_name pn_26) ?_
  intro pg ee s mm below meth cc s₁ Bd hZ hh hx hby hml hown0 hnm X0 e0
  have hown : s.vm.findClass "java/lang/StringUTF16" = some mm.cls := hown0
  have N0 := Fr.nil n0
  have K0 : Keep h0 h0 ([] : List Addr) := Keep.refl _ _
  have pre0 := fun tg_ => castTop (tb := pg.tables) (e := ee) (below := below) (T := s₁) (t := tg_) (ef_9_440 mm ch (0 : Int32) (3 : Int32))
  obtain ⟨T1, h1, k1, X1, e1, E1, A1, st1⟩ := newP X0 hx hZ (own_h hw 19 rfl) e0 (g := (mkF mm 1 #[.val (.ref ch), .val (.int (0 : Int32)), .val (.int (3 : Int32)), .unset, .unset, .unset] [(.int (3 : Int32))])) rfl (hb hby d9_1) rfl (by decide) (cap := 3) (by decide) (by decide) (by decide) (by decide)
  obtain ⟨b1, g1⟩ : ∃ z, z = h0.size := ⟨_, rfl⟩
  rw [← g1] at A1 st1
  have g_b1 : n0 ≤ b1 := Nat.le_trans (O0.1 ▸ O0.2.1) (Nat.le_of_eq g1.symm)
  have sz_b1 : h0.size ≤ b1 := Nat.le_trans K0.1 (Nat.le_of_eq g1.symm)
  have O1 := O0.ext E1
  have KK1 := K0.ext E1
  have V1 : Arv Z h1 b1 k1 .byte (3 : Int32) [(.int (0 : Int32)), (.int (0 : Int32)), (.int (0 : Int32))] (.int (0 : Int32)) := (Arv.new A1 (by decide)).pad (pad_rep [] (.int (0 : Int32)) 3)
  obtain ⟨_, _, ⟨T2, L2, k2, n2⟩, -, X2, ⟨Lc2, hQ2, l2, y2, z2⟩, st2⟩ := Jvm.LawKit.callS X1 hx hown (mvT hZ (own_h hw 50 rfl)) (mvT hZ (own_h hw 51 rfl)) (mvT hZ (own_h hw 48 rfl)) (mvT hZ (own_h hw 52 rfl)) (by decide) (backOf (W := 0) (rmIn3_0 l Z a0 hw [] ch kc x0 x1 x2 b1 k1 h1 n0 O1 (Vc.ext E1) V1 g_b1 (Nat.ne_of_lt (Nat.lt_of_lt_of_le Vc.lt (Nat.le_of_eq g1.symm))) hl0) hZ (own_h hw 52 rfl) (own_h hw 48 rfl) (by decide) (by decide)) (g := (mkF mm 9 #[.val (.ref ch), .val (.int (0 : Int32)), .val (.int (3 : Int32)), .val (.ref b1), .unset, .unset] [(.int (3 : Int32)), (.int (0 : Int32)), (.ref b1), (.int (0 : Int32)), (.ref ch)])) rfl (by rw [hml]; rfl) (argsL := [(.ref ch), (.int (0 : Int32)), (.ref b1), (.int (0 : Int32)), (.int (3 : Int32))]) (rest := []) (lenOf pd_433 rfl) rfl (Nat.le_of_eq rfl) (hb hby d9_9) (fun _ _ => ⟨rfl, e1, (by decide : 1 + 0 ≤ _), (by decide : 3 + 0 ≤ _)⟩)
  dsimp only [Pt.U, Pt.locs, Pt.cells, Pt.slots] at X2 l2 y2 z2 st2 hQ2
  subst l2 y2 z2
  obtain ⟨rfl, N2q, K2⟩ := hQ2
  have O2 := O1.keep K2 (allS g_b1 all0)
  have KK2 := KK1.trans K2 (allS (Or.inr sz_b1) all0)
  have N2 := Fr.app N0 N2q
  obtain ⟨_, _, ⟨T3, L3, k3, n3⟩, -, X3, ⟨Lc3, hQ3, l3, y3, z3⟩, st3⟩ := Jvm.LawKit.callS X2 hx hown (mvT hZ (own_h hw 109 rfl)) (mvT hZ (own_h hw 110 rfl)) (mvT hZ (own_h hw 48 rfl)) (mvT hZ (own_h hw 111 rfl)) (by decide) (backOf (W := 0) (rmTb3 l Z a0 hw [] ch kc x0 x1 x2 T2.heap n0 O2 ((Vc.ext E1).keep K2 (ninS (Nat.ne_of_lt (Nat.lt_of_lt_of_le Vc.lt (Nat.le_of_eq g1.symm))) nin0)) hG) hZ (own_h hw 111 rfl) (own_h hw 48 rfl) (by decide) (by decide)) (g := (mkF mm 23 #[.val (.ref ch), .val (.int (0 : Int32)), .val (.int (3 : Int32)), .val (.ref b1), .val (.int (0 : Int32)), .unset] [(.int (3 : Int32)), (.int (0 : Int32)), (.ref ch)])) rfl (by rw [hml]; rfl) (argsL := [(.ref ch), (.int (0 : Int32)), (.int (3 : Int32))]) (rest := []) (lenOf pd_445 rfl) rfl (Nat.le_of_eq rfl) (hb hby d9_23) (fun _ _ => ⟨rfl, rfl, (by decide : 1 + 1 ≤ _), (by decide : 3 + 6 ≤ _)⟩)
  dsimp only [Pt.U, Pt.locs, Pt.cells, Pt.slots] at X3 l3 y3 z3 st3 hQ3
  subst l3 y3 z3
  obtain ⟨ub3, ku3, rfl, N3q, K3, g_ub3, sz_ub3, Vu3⟩ := hQ3
  have O3 := O2.keep K3 all0
  have KK3 := KK2.trans K3 all0
  have N3 := Fr.app N2 N3q
  replace sz_ub3 := Nat.le_trans KK2.1 sz_ub3
  obtain ⟨_, _, ⟨T4, L4, k4, n4⟩, -, X4, ⟨Lc4, hQ4, l4, y4, z4⟩, st4⟩ := Jvm.LawKit.callS X3 hx hown (mvT hZ (own_h hw 125 rfl)) (mvT hZ (own_h hw 126 rfl)) (mvT hZ (own_h hw 48 rfl)) (mvT hZ (own_h hw 127 rfl)) (by decide) (backOf (W := 0) (rmGc l Z a0 hw [] ub3 ku3 (6 : Int32) [(own_u x0), (own_v x0), (own_u x1), (own_v x1), (own_u x2), (own_v x2)] (0 : Int32) x0 T3.heap n0 O3 Vu3 hG ⟨by decide, by decide⟩ ⟨by decide, by decide⟩ rfl rfl ha0 hb0) hZ (own_h hw 127 rfl) (own_h hw 48 rfl) (by decide) (by decide)) (g := (mkF mm 32 #[.val (.ref ch), .val (.int (0 : Int32)), .val (.int (3 : Int32)), .val (.ref b1), .val (.int (0 : Int32)), .val (.ref ub3)] [(.int (0 : Int32)), (.ref ub3)])) rfl (by rw [hml]; rfl) (argsL := [(.ref ub3), (.int (0 : Int32))]) (rest := []) (lenOf pd_68 rfl) rfl (Nat.le_of_eq rfl) (hb hby d9_32) (fun _ _ => ⟨rfl, rfl, (by decide : 2 + 0 ≤ _), (by decide : 9 + 0 ≤ _)⟩)
  dsimp only [Pt.U, Pt.locs, Pt.cells, Pt.slots] at X4 l4 y4 z4 st4 hQ4
  subst l4 y4 z4
  obtain ⟨rfl, N4q, e4⟩ := hQ4
  have N4 := Fr.app N3 N4q
  refine own_end X4 (v := some (.ref ub3)) (fun h => by rw [Bd.returns] at h; cases h) (by decide) (by decide) (fun fs hr => pre0 _ ?_) ?_
  · show Steps pg.tables ee below (s₁.setTop (mkF mm 0 #[.val (.ref ch), .val (.int (0 : Int32)), .val (.int (3 : Int32)), .unset, .unset, .unset] [])) _
    refine XS.iloadN X0.here hx rfl (hb hby d9_0) rfl ?_
    refine st1 _ ?_
    refine XS.astoreN X1.here hx rfl (hb hby d9_3) rfl rfl (l' := #[.val (.ref ch), .val (.int (0 : Int32)), .val (.int (3 : Int32)), .val (.ref b1), .unset, .unset]) rfl ?_
    refine XS.aloadN X1.here hx rfl (hb hby d9_4) rfl rfl ?_
    refine XS.iloadN X1.here hx rfl (hb hby d9_5) rfl ?_
    refine XS.aloadN X1.here hx rfl (hb hby d9_6) rfl rfl ?_
    refine XS.iconst X1.here hx rfl (hb hby d9_7) ?_
    refine XS.iloadN X1.here hx rfl (hb hby d9_8) rfl ?_
    show Steps pg.tables ee below (T1.setTop (mkF mm 9 #[.val (.ref ch), .val (.int (0 : Int32)), .val (.int (3 : Int32)), .val (.ref b1), .unset, .unset] [(.int (3 : Int32)), (.int (0 : Int32)), (.ref b1), (.int (0 : Int32)), (.ref ch)])) _
    refine st2 _ ?_
    refine XS.istore X2.here hx rfl (hb hby d9_12) rfl (l' := #[.val (.ref ch), .val (.int (0 : Int32)), .val (.int (3 : Int32)), .val (.ref b1), .val (.int (0 : Int32)), .unset]) rfl ?_
    refine XS.iload X2.here hx rfl (hb hby d9_14) rfl ?_
    refine XS.iloadN X2.here hx rfl (hb hby d9_16) rfl ?_
    refine XS.icmpNo X2.here hx rfl (hb hby d9_17) rfl (feq (by decide : ¬ ((0 : Int32) = (3 : Int32)))).1 ?_
    refine XS.aloadN X2.here hx rfl (hb hby d9_20) rfl rfl ?_
    refine XS.iloadN X2.here hx rfl (hb hby d9_21) rfl ?_
    refine XS.iloadN X2.here hx rfl (hb hby d9_22) rfl ?_
    show Steps pg.tables ee below (T2.setTop (mkF mm 23 #[.val (.ref ch), .val (.int (0 : Int32)), .val (.int (3 : Int32)), .val (.ref b1), .val (.int (0 : Int32)), .unset] [(.int (3 : Int32)), (.int (0 : Int32)), (.ref ch)])) _
    refine st3 _ ?_
    refine XS.astore X3.here hx rfl (hb hby d9_26) rfl rfl (l' := #[.val (.ref ch), .val (.int (0 : Int32)), .val (.int (3 : Int32)), .val (.ref b1), .val (.int (0 : Int32)), .val (.ref ub3)]) rfl ?_
    refine XS.aload X3.here hx rfl (hb hby d9_28) rfl rfl ?_
    refine XS.iload X3.here hx rfl (hb hby d9_30) rfl ?_
    refine st4 _ ?_
    refine XS.sipush X4.here hx rfl (hb hby d9_35) ?_
    refine XS.icmpYes X4.here hx rfl (pc0 := 38) (pc' := 54) rfl (hb hby d9_38) rfl (tlt hl0).2.2.1 (by decide) (by decide) ?_
    refine XS.aload X4.here hx rfl (hb hby d9_54) rfl rfl ?_
    show Steps pg.tables ee below (T4.setTop (mkF mm 56 #[.val (.ref ch), .val (.int (0 : Int32)), .val (.int (3 : Int32)), .val (.ref b1), .val (.int (0 : Int32)), .val (.ref ub3)] [(.ref ub3)])) _
    exact retOut X4 hx Bd.returns rfl (Or.inr (Or.inr (Or.inr (Or.inr ⟨rfl, rfl, rfl⟩)))) (hb hby d9_56) hr
  · show QU3 Z x0 x1 x2 h0 n0 _ T4.heap _
    rw [e4]
    exact ⟨_, _, rfl, N4, KK3, g_ub3, sz_ub3, Vu3⟩
set_option maxRecDepth 65536 in
set_option maxHeartbeats 40000000 in
theorem rmCmU3_1 (l : Launch) (Z : State) (a0 : Array Value) (hw : ∀ d ∈ tables_1, d.before a0 Z = true) (ws : List Jvm.Cond) (ch : Addr) (kc : ClassId) (x0 : Int32) (x1 : Int32) (x2 : Int32) (h0 : Heap) (n0 : Nat) (O0 : Old Z n0 h0) (Vc : Arv Z h0 ch kc .char (3 : Int32) [(.int x0), (.int x1), (.int x2)] (.int (0 : Int32))) (hG : own_G Z) (hl0 : ¬ ((255 : Int32) < x0)) (hl1 : (255 : Int32) < x1) (ha0 : ¬ (x0 < (0 : Int32))) (hb0 : ¬ ((65535 : Int32) < x0)) (ha1 : ¬ (x1 < (0 : Int32))) (hb1 : ¬ ((65535 : Int32) < x1)) (ha2 : ¬ (x2 < (0 : Int32))) (hb2 : ¬ ((65535 : Int32) < x2)) :
    own_M l Z h0 (⟨"java/lang/StringUTF16", "compress", "([CII)[B"⟩ : MethodName) jdk_52_method_16_code 6 (some (.array .byte)) ws ({ frames := 3, cells := 2, slots := 9, locals := 40 } : Room) #[(.ref ch), (.int (0 : Int32)), (.int (3 : Int32))] (QU3 Z x0 x1 x2 h0 n0) := by
  refine own_start (plainFor_of_name pn_26) ?_
  intro pg ee s mm below meth cc s₁ Bd hZ hh hx hby hml hown0 hnm X0 e0
  have hown : s.vm.findClass "java/lang/StringUTF16" = some mm.cls := hown0
  have N0 := Fr.nil n0
  have K0 : Keep h0 h0 ([] : List Addr) := Keep.refl _ _
  have pre0 := fun tg_ => castTop (tb := pg.tables) (e := ee) (below := below) (T := s₁) (t := tg_) (ef_9_440 mm ch (0 : Int32) (3 : Int32))
  obtain ⟨T1, h1, k1, X1, e1, E1, A1, st1⟩ := newP X0 hx hZ (own_h hw 19 rfl) e0 (g := (mkF mm 1 #[.val (.ref ch), .val (.int (0 : Int32)), .val (.int (3 : Int32)), .unset, .unset, .unset] [(.int (3 : Int32))])) rfl (hb hby d9_1) rfl (by decide) (cap := 3) (by decide) (by decide) (by decide) (by decide)
  obtain ⟨b1, g1⟩ : ∃ z, z = h0.size := ⟨_, rfl⟩
  rw [← g1] at A1 st1
  have g_b1 : n0 ≤ b1 := Nat.le_trans (O0.1 ▸ O0.2.1) (Nat.le_of_eq g1.symm)
  have sz_b1 : h0.size ≤ b1 := Nat.le_trans K0.1 (Nat.le_of_eq g1.symm)
  have O1 := O0.ext E1
  have KK1 := K0.ext E1
  have V1 : Arv Z h1 b1 k1 .byte (3 : Int32) [(.int (0 : Int32)), (.int (0 : Int32)), (.int (0 : Int32))] (.int (0 : Int32)) := (Arv.new A1 (by decide)).pad (pad_rep [] (.int (0 : Int32)) 3)
  obtain ⟨_, _, ⟨T2, L2, k2, n2⟩, -, X2, ⟨Lc2, hQ2, l2, y2, z2⟩, st2⟩ := Jvm.LawKit.callS X1 hx hown (mvT hZ (own_h hw 50 rfl)) (mvT hZ (own_h hw 51 rfl)) (mvT hZ (own_h hw 48 rfl)) (mvT hZ (own_h hw 52 rfl)) (by decide) (backOf (W := 0) (rmIn3_1 l Z a0 hw [] ch kc x0 x1 x2 b1 k1 h1 n0 O1 (Vc.ext E1) V1 g_b1 (Nat.ne_of_lt (Nat.lt_of_lt_of_le Vc.lt (Nat.le_of_eq g1.symm))) hl0 hl1) hZ (own_h hw 52 rfl) (own_h hw 48 rfl) (by decide) (by decide)) (g := (mkF mm 9 #[.val (.ref ch), .val (.int (0 : Int32)), .val (.int (3 : Int32)), .val (.ref b1), .unset, .unset] [(.int (3 : Int32)), (.int (0 : Int32)), (.ref b1), (.int (0 : Int32)), (.ref ch)])) rfl (by rw [hml]; rfl) (argsL := [(.ref ch), (.int (0 : Int32)), (.ref b1), (.int (0 : Int32)), (.int (3 : Int32))]) (rest := []) (lenOf pd_433 rfl) rfl (Nat.le_of_eq rfl) (hb hby d9_9) (fun _ _ => ⟨rfl, e1, (by decide : 1 + 0 ≤ _), (by decide : 3 + 0 ≤ _)⟩)
  dsimp only [Pt.U, Pt.locs, Pt.cells, Pt.slots] at X2 l2 y2 z2 st2 hQ2
  subst l2 y2 z2
  obtain ⟨rfl, N2q, K2⟩ := hQ2
  have O2 := O1.keep K2 (allS g_b1 all0)
  have KK2 := KK1.trans K2 (allS (Or.inr sz_b1) all0)
  have N2 := Fr.app N0 N2q
  obtain ⟨_, _, ⟨T3, L3, k3, n3⟩, -, X3, ⟨Lc3, hQ3, l3, y3, z3⟩, st3⟩ := Jvm.LawKit.callS X2 hx hown (mvT hZ (own_h hw 109 rfl)) (mvT hZ (own_h hw 110 rfl)) (mvT hZ (own_h hw 48 rfl)) (mvT hZ (own_h hw 111 rfl)) (by decide) (backOf (W := 0) (rmTb3 l Z a0 hw [] ch kc x0 x1 x2 T2.heap n0 O2 ((Vc.ext E1).keep K2 (ninS (Nat.ne_of_lt (Nat.lt_of_lt_of_le Vc.lt (Nat.le_of_eq g1.symm))) nin0)) hG) hZ (own_h hw 111 rfl) (own_h hw 48 rfl) (by decide) (by decide)) (g := (mkF mm 23 #[.val (.ref ch), .val (.int (0 : Int32)), .val (.int (3 : Int32)), .val (.ref b1), .val (.int (1 : Int32)), .unset] [(.int (3 : Int32)), (.int (0 : Int32)), (.ref ch)])) rfl (by rw [hml]; rfl) (argsL := [(.ref ch), (.int (0 : Int32)), (.int (3 : Int32))]) (rest := []) (lenOf pd_445 rfl) rfl (Nat.le_of_eq rfl) (hb hby d9_23) (fun _ _ => ⟨rfl, rfl, (by decide : 1 + 1 ≤ _), (by decide : 3 + 6 ≤ _)⟩)
  dsimp only [Pt.U, Pt.locs, Pt.cells, Pt.slots] at X3 l3 y3 z3 st3 hQ3
  subst l3 y3 z3
  obtain ⟨ub3, ku3, rfl, N3q, K3, g_ub3, sz_ub3, Vu3⟩ := hQ3
  have O3 := O2.keep K3 all0
  have KK3 := KK2.trans K3 all0
  have N3 := Fr.app N2 N3q
  replace sz_ub3 := Nat.le_trans KK2.1 sz_ub3
  obtain ⟨_, _, ⟨T4, L4, k4, n4⟩, -, X4, ⟨Lc4, hQ4, l4, y4, z4⟩, st4⟩ := Jvm.LawKit.callS X3 hx hown (mvT hZ (own_h hw 125 rfl)) (mvT hZ (own_h hw 126 rfl)) (mvT hZ (own_h hw 48 rfl)) (mvT hZ (own_h hw 127 rfl)) (by decide) (backOf (W := 0) (rmGc l Z a0 hw [] ub3 ku3 (6 : Int32) [(own_u x0), (own_v x0), (own_u x1), (own_v x1), (own_u x2), (own_v x2)] (1 : Int32) x1 T3.heap n0 O3 Vu3 hG ⟨by decide, by decide⟩ ⟨by decide, by decide⟩ rfl rfl ha1 hb1) hZ (own_h hw 127 rfl) (own_h hw 48 rfl) (by decide) (by decide)) (g := (mkF mm 32 #[.val (.ref ch), .val (.int (0 : Int32)), .val (.int (3 : Int32)), .val (.ref b1), .val (.int (1 : Int32)), .val (.ref ub3)] [(.int (1 : Int32)), (.ref ub3)])) rfl (by rw [hml]; rfl) (argsL := [(.ref ub3), (.int (1 : Int32))]) (rest := []) (lenOf pd_68 rfl) rfl (Nat.le_of_eq rfl) (hb hby d9_32) (fun _ _ => ⟨rfl, rfl, (by decide : 2 + 0 ≤ _), (by decide : 9 + 0 ≤ _)⟩)
  dsimp only [Pt.U, Pt.locs, Pt.cells, Pt.slots] at X4 l4 y4 z4 st4 hQ4
  subst l4 y4 z4
  obtain ⟨rfl, N4q, e4⟩ := hQ4
  have N4 := Fr.app N3 N4q
  refine own_end X4 (v := some (.ref ub3)) (fun h => by rw [Bd.returns] at h; cases h) (by decide) (by decide) (fun fs hr => pre0 _ ?_) ?_
  · show Steps pg.tables ee below (s₁.setTop (mkF mm 0 #[.val (.ref ch), .val (.int (0 : Int32)), .val (.int (3 : Int32)), .unset, .unset, .unset] [])) _
    refine XS.iloadN X0.here hx rfl (hb hby d9_0) rfl ?_
    refine st1 _ ?_
    refine XS.astoreN X1.here hx rfl (hb hby d9_3) rfl rfl (l' := #[.val (.ref ch), .val (.int (0 : Int32)), .val (.int (3 : Int32)), .val (.ref b1), .unset, .unset]) rfl ?_
    refine XS.aloadN X1.here hx rfl (hb hby d9_4) rfl rfl ?_
    refine XS.iloadN X1.here hx rfl (hb hby d9_5) rfl ?_
    refine XS.aloadN X1.here hx rfl (hb hby d9_6) rfl rfl ?_
    refine XS.iconst X1.here hx rfl (hb hby d9_7) ?_
    refine XS.iloadN X1.here hx rfl (hb hby d9_8) rfl ?_
    show Steps pg.tables ee below (T1.setTop (mkF mm 9 #[.val (.ref ch), .val (.int (0 : Int32)), .val (.int (3 : Int32)), .val (.ref b1), .unset, .unset] [(.int (3 : Int32)), (.int (0 : Int32)), (.ref b1), (.int (0 : Int32)), (.ref ch)])) _
    refine st2 _ ?_
    refine XS.istore X2.here hx rfl (hb hby d9_12) rfl (l' := #[.val (.ref ch), .val (.int (0 : Int32)), .val (.int (3 : Int32)), .val (.ref b1), .val (.int (1 : Int32)), .unset]) rfl ?_
    refine XS.iload X2.here hx rfl (hb hby d9_14) rfl ?_
    refine XS.iloadN X2.here hx rfl (hb hby d9_16) rfl ?_
    refine XS.icmpNo X2.here hx rfl (hb hby d9_17) rfl (feq (by decide : ¬ ((1 : Int32) = (3 : Int32)))).1 ?_
    refine XS.aloadN X2.here hx rfl (hb hby d9_20) rfl rfl ?_
    refine XS.iloadN X2.here hx rfl (hb hby d9_21) rfl ?_
    refine XS.iloadN X2.here hx rfl (hb hby d9_22) rfl ?_
    show Steps pg.tables ee below (T2.setTop (mkF mm 23 #[.val (.ref ch), .val (.int (0 : Int32)), .val (.int (3 : Int32)), .val (.ref b1), .val (.int (1 : Int32)), .unset] [(.int (3 : Int32)), (.int (0 : Int32)), (.ref ch)])) _
    refine st3 _ ?_
    refine XS.astore X3.here hx rfl (hb hby d9_26) rfl rfl (l' := #[.val (.ref ch), .val (.int (0 : Int32)), .val (.int (3 : Int32)), .val (.ref b1), .val (.int (1 : Int32)), .val (.ref ub3)]) rfl ?_
    refine XS.aload X3.here hx rfl (hb hby d9_28) rfl rfl ?_
    refine XS.iload X3.here hx rfl (hb hby d9_30) rfl ?_
    refine st4 _ ?_
    refine XS.sipush X4.here hx rfl (hb hby d9_35) ?_
    refine XS.icmpYes X4.here hx rfl (pc0 := 38) (pc' := 54) rfl (hb hby d9_38) rfl (tlt hl1).2.2.1 (by decide) (by decide) ?_
    refine XS.aload X4.here hx rfl (hb hby d9_54) rfl rfl ?_
    show Steps pg.tables ee below (T4.setTop (mkF mm 56 #[.val (.ref ch), .val (.int (0 : Int32)), .val (.int (3 : Int32)), .val (.ref b1), .val (.int (1 : Int32)), .val (.ref ub3)] [(.ref ub3)])) _
    exact retOut X4 hx Bd.returns rfl (Or.inr (Or.inr (Or.inr (Or.inr ⟨rfl, rfl, rfl⟩)))) (hb hby d9_56) hr
  · show QU3 Z x0 x1 x2 h0 n0 _ T4.heap _
    rw [e4]
    exact ⟨_, _, rfl, N4, KK3, g_ub3, sz_ub3, Vu3⟩
set_option maxRecDepth 65536 in
set_option maxHeartbeats 40000000 in
theorem rmCmU3_2 (l : Launch) (Z : State) (a0 : Array Value) (hw : ∀ d ∈ tables_1, d.before a0 Z = true) (ws : List Jvm.Cond) (ch : Addr) (kc : ClassId) (x0 : Int32) (x1 : Int32) (x2 : Int32) (h0 : Heap) (n0 : Nat) (O0 : Old Z n0 h0) (Vc : Arv Z h0 ch kc .char (3 : Int32) [(.int x0), (.int x1), (.int x2)] (.int (0 : Int32))) (hG : own_G Z) (hl0 : ¬ ((255 : Int32) < x0)) (hl1 : ¬ ((255 : Int32) < x1)) (hl2 : (255 : Int32) < x2) (ha0 : ¬ (x0 < (0 : Int32))) (hb0 : ¬ ((65535 : Int32) < x0)) (ha1 : ¬ (x1 < (0 : Int32))) (hb1 : ¬ ((65535 : Int32) < x1)) (ha2 : ¬ (x2 < (0 : Int32))) (hb2 : ¬ ((65535 : Int32) < x2)) :
    own_M l Z h0 (⟨"java/lang/StringUTF16", "compress", "([CII)[B"⟩ : MethodName) jdk_52_method_16_code 6 (some (.array .byte)) ws ({ frames := 3, cells := 2, slots := 9, locals := 40 } : Room) #[(.ref ch), (.int (0 : Int32)), (.int (3 : Int32))] (QU3 Z x0 x1 x2 h0 n0) := by
  refine own_start (plainFor_of_name pn_26) ?_
  intro pg ee s mm below meth cc s₁ Bd hZ hh hx hby hml hown0 hnm X0 e0
  have hown : s.vm.findClass "java/lang/StringUTF16" = some mm.cls := hown0
  have N0 := Fr.nil n0
  have K0 : Keep h0 h0 ([] : List Addr) := Keep.refl _ _
  have pre0 := fun tg_ => castTop (tb := pg.tables) (e := ee) (below := below) (T := s₁) (t := tg_) (ef_9_440 mm ch (0 : Int32) (3 : Int32))
  obtain ⟨T1, h1, k1, X1, e1, E1, A1, st1⟩ := newP X0 hx hZ (own_h hw 19 rfl) e0 (g := (mkF mm 1 #[.val (.ref ch), .val (.int (0 : Int32)), .val (.int (3 : Int32)), .unset, .unset, .unset] [(.int (3 : Int32))])) rfl (hb hby d9_1) rfl (by decide) (cap := 3) (by decide) (by decide) (by decide) (by decide)
  obtain ⟨b1, g1⟩ : ∃ z, z = h0.size := ⟨_, rfl⟩
  rw [← g1] at A1 st1
  have g_b1 : n0 ≤ b1 := Nat.le_trans (O0.1 ▸ O0.2.1) (Nat.le_of_eq g1.symm)
  have sz_b1 : h0.size ≤ b1 := Nat.le_trans K0.1 (Nat.le_of_eq g1.symm)
  have O1 := O0.ext E1
  have KK1 := K0.ext E1
  have V1 : Arv Z h1 b1 k1 .byte (3 : Int32) [(.int (0 : Int32)), (.int (0 : Int32)), (.int (0 : Int32))] (.int (0 : Int32)) := (Arv.new A1 (by decide)).pad (pad_rep [] (.int (0 : Int32)) 3)
  obtain ⟨_, _, ⟨T2, L2, k2, n2⟩, -, X2, ⟨Lc2, hQ2, l2, y2, z2⟩, st2⟩ := Jvm.LawKit.callS X1 hx hown (mvT hZ (own_h hw 50 rfl)) (mvT hZ (own_h hw 51 rfl)) (mvT hZ (own_h hw 48 rfl)) (mvT hZ (own_h hw 52 rfl)) (by decide) (backOf (W := 0) (rmIn3_2 l Z a0 hw [] ch kc x0 x1 x2 b1 k1 h1 n0 O1 (Vc.ext E1) V1 g_b1 (Nat.ne_of_lt (Nat.lt_of_lt_of_le Vc.lt (Nat.le_of_eq g1.symm))) hl0 hl1 hl2) hZ (own_h hw 52 rfl) (own_h hw 48 rfl) (by decide) (by decide)) (g := (mkF mm 9 #[.val (.ref ch), .val (.int (0 : Int32)), .val (.int (3 : Int32)), .val (.ref b1), .unset, .unset] [(.int (3 : Int32)), (.int (0 : Int32)), (.ref b1), (.int (0 : Int32)), (.ref ch)])) rfl (by rw [hml]; rfl) (argsL := [(.ref ch), (.int (0 : Int32)), (.ref b1), (.int (0 : Int32)), (.int (3 : Int32))]) (rest := []) (lenOf pd_433 rfl) rfl (Nat.le_of_eq rfl) (hb hby d9_9) (fun _ _ => ⟨rfl, e1, (by decide : 1 + 0 ≤ _), (by decide : 3 + 0 ≤ _)⟩)
  dsimp only [Pt.U, Pt.locs, Pt.cells, Pt.slots] at X2 l2 y2 z2 st2 hQ2
  subst l2 y2 z2
  obtain ⟨rfl, N2q, K2⟩ := hQ2
  have O2 := O1.keep K2 (allS g_b1 all0)
  have KK2 := KK1.trans K2 (allS (Or.inr sz_b1) all0)
  have N2 := Fr.app N0 N2q
  obtain ⟨_, _, ⟨T3, L3, k3, n3⟩, -, X3, ⟨Lc3, hQ3, l3, y3, z3⟩, st3⟩ := Jvm.LawKit.callS X2 hx hown (mvT hZ (own_h hw 109 rfl)) (mvT hZ (own_h hw 110 rfl)) (mvT hZ (own_h hw 48 rfl)) (mvT hZ (own_h hw 111 rfl)) (by decide) (backOf (W := 0) (rmTb3 l Z a0 hw [] ch kc x0 x1 x2 T2.heap n0 O2 ((Vc.ext E1).keep K2 (ninS (Nat.ne_of_lt (Nat.lt_of_lt_of_le Vc.lt (Nat.le_of_eq g1.symm))) nin0)) hG) hZ (own_h hw 111 rfl) (own_h hw 48 rfl) (by decide) (by decide)) (g := (mkF mm 23 #[.val (.ref ch), .val (.int (0 : Int32)), .val (.int (3 : Int32)), .val (.ref b1), .val (.int (2 : Int32)), .unset] [(.int (3 : Int32)), (.int (0 : Int32)), (.ref ch)])) rfl (by rw [hml]; rfl) (argsL := [(.ref ch), (.int (0 : Int32)), (.int (3 : Int32))]) (rest := []) (lenOf pd_445 rfl) rfl (Nat.le_of_eq rfl) (hb hby d9_23) (fun _ _ => ⟨rfl, rfl, (by decide : 1 + 1 ≤ _), (by decide : 3 + 6 ≤ _)⟩)
  dsimp only [Pt.U, Pt.locs, Pt.cells, Pt.slots] at X3 l3 y3 z3 st3 hQ3
  subst l3 y3 z3
  obtain ⟨ub3, ku3, rfl, N3q, K3, g_ub3, sz_ub3, Vu3⟩ := hQ3
  have O3 := O2.keep K3 all0
  have KK3 := KK2.trans K3 all0
  have N3 := Fr.app N2 N3q
  replace sz_ub3 := Nat.le_trans KK2.1 sz_ub3
  obtain ⟨_, _, ⟨T4, L4, k4, n4⟩, -, X4, ⟨Lc4, hQ4, l4, y4, z4⟩, st4⟩ := Jvm.LawKit.callS X3 hx hown (mvT hZ (own_h hw 125 rfl)) (mvT hZ (own_h hw 126 rfl)) (mvT hZ (own_h hw 48 rfl)) (mvT hZ (own_h hw 127 rfl)) (by decide) (backOf (W := 0) (rmGc l Z a0 hw [] ub3 ku3 (6 : Int32) [(own_u x0), (own_v x0), (own_u x1), (own_v x1), (own_u x2), (own_v x2)] (2 : Int32) x2 T3.heap n0 O3 Vu3 hG ⟨by decide, by decide⟩ ⟨by decide, by decide⟩ rfl rfl ha2 hb2) hZ (own_h hw 127 rfl) (own_h hw 48 rfl) (by decide) (by decide)) (g := (mkF mm 32 #[.val (.ref ch), .val (.int (0 : Int32)), .val (.int (3 : Int32)), .val (.ref b1), .val (.int (2 : Int32)), .val (.ref ub3)] [(.int (2 : Int32)), (.ref ub3)])) rfl (by rw [hml]; rfl) (argsL := [(.ref ub3), (.int (2 : Int32))]) (rest := []) (lenOf pd_68 rfl) rfl (Nat.le_of_eq rfl) (hb hby d9_32) (fun _ _ => ⟨rfl, rfl, (by decide : 2 + 0 ≤ _), (by decide : 9 + 0 ≤ _)⟩)
  dsimp only [Pt.U, Pt.locs, Pt.cells, Pt.slots] at X4 l4 y4 z4 st4 hQ4
  subst l4 y4 z4
  obtain ⟨rfl, N4q, e4⟩ := hQ4
  have N4 := Fr.app N3 N4q
  refine own_end X4 (v := some (.ref ub3)) (fun h => by rw [Bd.returns] at h; cases h) (by decide) (by decide) (fun fs hr => pre0 _ ?_) ?_
  · show Steps pg.tables ee below (s₁.setTop (mkF mm 0 #[.val (.ref ch), .val (.int (0 : Int32)), .val (.int (3 : Int32)), .unset, .unset, .unset] [])) _
    refine XS.iloadN X0.here hx rfl (hb hby d9_0) rfl ?_
    refine st1 _ ?_
    refine XS.astoreN X1.here hx rfl (hb hby d9_3) rfl rfl (l' := #[.val (.ref ch), .val (.int (0 : Int32)), .val (.int (3 : Int32)), .val (.ref b1), .unset, .unset]) rfl ?_
    refine XS.aloadN X1.here hx rfl (hb hby d9_4) rfl rfl ?_
    refine XS.iloadN X1.here hx rfl (hb hby d9_5) rfl ?_
    refine XS.aloadN X1.here hx rfl (hb hby d9_6) rfl rfl ?_
    refine XS.iconst X1.here hx rfl (hb hby d9_7) ?_
    refine XS.iloadN X1.here hx rfl (hb hby d9_8) rfl ?_
    show Steps pg.tables ee below (T1.setTop (mkF mm 9 #[.val (.ref ch), .val (.int (0 : Int32)), .val (.int (3 : Int32)), .val (.ref b1), .unset, .unset] [(.int (3 : Int32)), (.int (0 : Int32)), (.ref b1), (.int (0 : Int32)), (.ref ch)])) _
    refine st2 _ ?_
    refine XS.istore X2.here hx rfl (hb hby d9_12) rfl (l' := #[.val (.ref ch), .val (.int (0 : Int32)), .val (.int (3 : Int32)), .val (.ref b1), .val (.int (2 : Int32)), .unset]) rfl ?_
    refine XS.iload X2.here hx rfl (hb hby d9_14) rfl ?_
    refine XS.iloadN X2.here hx rfl (hb hby d9_16) rfl ?_
    refine XS.icmpNo X2.here hx rfl (hb hby d9_17) rfl (feq (by decide : ¬ ((2 : Int32) = (3 : Int32)))).1 ?_
    refine XS.aloadN X2.here hx rfl (hb hby d9_20) rfl rfl ?_
    refine XS.iloadN X2.here hx rfl (hb hby d9_21) rfl ?_
    refine XS.iloadN X2.here hx rfl (hb hby d9_22) rfl ?_
    show Steps pg.tables ee below (T2.setTop (mkF mm 23 #[.val (.ref ch), .val (.int (0 : Int32)), .val (.int (3 : Int32)), .val (.ref b1), .val (.int (2 : Int32)), .unset] [(.int (3 : Int32)), (.int (0 : Int32)), (.ref ch)])) _
    refine st3 _ ?_
    refine XS.astore X3.here hx rfl (hb hby d9_26) rfl rfl (l' := #[.val (.ref ch), .val (.int (0 : Int32)), .val (.int (3 : Int32)), .val (.ref b1), .val (.int (2 : Int32)), .val (.ref ub3)]) rfl ?_
    refine XS.aload X3.here hx rfl (hb hby d9_28) rfl rfl ?_
    refine XS.iload X3.here hx rfl (hb hby d9_30) rfl ?_
    refine st4 _ ?_
    refine XS.sipush X4.here hx rfl (hb hby d9_35) ?_
    refine XS.icmpYes X4.here hx rfl (pc0 := 38) (pc' := 54) rfl (hb hby d9_38) rfl (tlt hl2).2.2.1 (by decide) (by decide) ?_
    refine XS.aload X4.here hx rfl (hb hby d9_54) rfl rfl ?_
    show Steps pg.tables ee below (T4.setTop (mkF mm 56 #[.val (.ref ch), .val (.int (0 : Int32)), .val (.int (3 : Int32)), .val (.ref b1), .val (.int (2 : Int32)), .val (.ref ub3)] [(.ref ub3)])) _
    exact retOut X4 hx Bd.returns rfl (Or.inr (Or.inr (Or.inr (Or.inr ⟨rfl, rfl, rfl⟩)))) (hb hby d9_56) hr
  · show QU3 Z x0 x1 x2 h0 n0 _ T4.heap _
    rw [e4]
    exact ⟨_, _, rfl, N4, KK3, g_ub3, sz_ub3, Vu3⟩
set_option maxRecDepth 65536 in
theorem rmCmU3 (l : Launch) (Z : State) (a0 : Array Value) (hw : ∀ d ∈ tables_1, d.before a0 Z = true) (ws : List Jvm.Cond) (ch : Addr) (kc : ClassId) (x0 : Int32) (x1 : Int32) (x2 : Int32) (h0 : Heap) (n0 : Nat) (O0 : Old Z n0 h0) (Vc : Arv Z h0 ch kc .char (3 : Int32) [(.int x0), (.int x1), (.int x2)] (.int (0 : Int32))) (hG : own_G Z) (hU : (255 : Int32) < x0 ∨ (255 : Int32) < x1 ∨ (255 : Int32) < x2) (ha0 : ¬ (x0 < (0 : Int32))) (hb0 : ¬ ((65535 : Int32) < x0)) (ha1 : ¬ (x1 < (0 : Int32))) (hb1 : ¬ ((65535 : Int32) < x1)) (ha2 : ¬ (x2 < (0 : Int32))) (hb2 : ¬ ((65535 : Int32) < x2)) :
    own_M l Z h0 (⟨"java/lang/StringUTF16", "compress", "([CII)[B"⟩ : MethodName) jdk_52_method_16_code 6 (some (.array .byte)) ws ({ frames := 3, cells := 2, slots := 9, locals := 40 } : Room) #[(.ref ch), (.int (0 : Int32)), (.int (3 : Int32))] (QU3 Z x0 x1 x2 h0 n0) := by
  by_cases hl0 : (255 : Int32) < x0
  · exact rmCmU3_0 l Z a0 hw ws ch kc x0 x1 x2 h0 n0 O0 Vc hG hl0 ha0 hb0 ha1 hb1 ha2 hb2
  by_cases hl1 : (255 : Int32) < x1
  · exact rmCmU3_1 l Z a0 hw ws ch kc x0 x1 x2 h0 n0 O0 Vc hG hl0 hl1 ha0 hb0 ha1 hb1 ha2 hb2
  have hl2 := ((hU.resolve_left hl0).resolve_left hl1)
  exact rmCmU3_2 l Z a0 hw ws ch kc x0 x1 x2 h0 n0 O0 Vc hG hl0 hl1 hl2 ha0 hb0 ha1 hb1 ha2 hb2
def QS3 (Z : State) (a : Addr) (x0 : Int32) (x1 : Int32) (x2 : Int32) (h0 : Heap) (n0 : Nat) (v : Option Value) (h : Heap) (L : List Loc) : Prop := v = none ∧ Fr n0 L ∧ Keep h0 h [a] ∧ own_S3 Z h a x0 x1 x2
def QrmCf3_0 (Z : State) (bb : Addr) (kb : ClassId) (vs : List Value) (h0 : Heap) (n0 : Nat) (v : Option Value) (h : Heap) (L : List Loc) : Prop := v = some (.int (0 : Int32)) ∧ Fr n0 L ∧ h = h0
set_option maxRecDepth 65536 in
set_option maxHeartbeats 40000000 in
theorem rmCf3_0 (l : Launch) (Z : State) (a0 : Array Value) (hw : ∀ d ∈ tables_1, d.before a0 Z = true) (ws : List Jvm.Cond) (bb : Addr) (kb : ClassId) (vs : List Value) (h0 : Heap) (n0 : Nat) (O0 : Old Z n0 h0) (Vb : Arv Z h0 bb kb .byte (3 : Int32) vs (.int (0 : Int32))) :
    own_M l Z h0 (⟨"java/lang/StringUTF16", "coderFromArrayLen", "([BI)B"⟩ : MethodName) jdk_52_method_15_code 2 (some .byte) ws ({ frames := 0, cells := 0, slots := 0, locals := 0 } : Room) #[(.ref bb), (.int (3 : Int32))] (QrmCf3_0 Z bb kb vs h0 n0) := by
  refine own_start (plainFor_of_name pn_26) ?_
  intro pg ee s mm below meth cc s₁ Bd hZ hh hx hby hml hown0 hnm X0 e0
  have hown : s.vm.findClass "java/lang/StringUTF16" = some mm.cls := hown0
  have N0 := Fr.nil n0
  have pre0 := fun tg_ => castTop (tb := pg.tables) (e := ee) (below := below) (T := s₁) (t := tg_) (ef_11_462 mm bb (3 : Int32))
  obtain ⟨cl1, Ar1, qk1, Sz1, Nn1, Hh1, Gg1⟩ := id Vb
  refine own_end X0 (v := some (.int (0 : Int32))) (fun h => by rw [Bd.returns] at h; cases h) (by decide) (by decide) (fun fs hr => pre0 _ ?_) ?_
  · show Steps pg.tables ee below (s₁.setTop (mkF mm 0 #[.val (.ref bb), .val (.int (3 : Int32))] [])) _
    refine XS.iloadN X0.here hx rfl (hb hby d11_0) rfl ?_
    refine XS.aloadN X0.here hx rfl (hb hby d11_1) rfl rfl ?_
    refine X0.arraylength hx (by rw [e0]; exact Ar1.1) (State.isArrayOf_alike hZ.alike Ar1.2.1) (g := (mkF mm 2 #[.val (.ref bb), .val (.int (3 : Int32))] [(.ref bb), (.int (3 : Int32))])) rfl rfl (hb hby d11_2) _ ?_
    rw [len_of Sz1 Nn1]
    refine XS.isub X0.here hx rfl (hb hby d11_3) rfl ?_
    refine XS.bipush X0.here hx rfl (hb hby d11_4) ?_
    refine XS.iushr X0.here hx rfl (hb hby d11_6) rfl ?_
    refine XS.i2b X0.here hx rfl (hb hby d11_7) rfl ?_
    exact retN X0 hx (t := .byte) Bd.returns (by simp) (hb hby d11_8) hr
  · show QrmCf3_0 Z bb kb vs h0 n0 _ s₁.heap _
    rw [e0]
    exact ⟨rfl, N0, rfl⟩
def QrmCf3_1 (Z : State) (bb : Addr) (kb : ClassId) (vs : List Value) (h0 : Heap) (n0 : Nat) (v : Option Value) (h : Heap) (L : List Loc) : Prop := v = some (.int (1 : Int32)) ∧ Fr n0 L ∧ h = h0
set_option maxRecDepth 65536 in
set_option maxHeartbeats 40000000 in
theorem rmCf3_1 (l : Launch) (Z : State) (a0 : Array Value) (hw : ∀ d ∈ tables_1, d.before a0 Z = true) (ws : List Jvm.Cond) (bb : Addr) (kb : ClassId) (vs : List Value) (h0 : Heap) (n0 : Nat) (O0 : Old Z n0 h0) (Vb : Arv Z h0 bb kb .byte (6 : Int32) vs (.int (0 : Int32))) :
    own_M l Z h0 (⟨"java/lang/StringUTF16", "coderFromArrayLen", "([BI)B"⟩ : MethodName) jdk_52_method_15_code 2 (some .byte) ws ({ frames := 0, cells := 0, slots := 0, locals := 0 } : Room) #[(.ref bb), (.int (3 : Int32))] (QrmCf3_1 Z bb kb vs h0 n0) := by
  refine own_start (plainFor_of_name pn_26) ?_
  intro pg ee s mm below meth cc s₁ Bd hZ hh hx hby hml hown0 hnm X0 e0
  have hown : s.vm.findClass "java/lang/StringUTF16" = some mm.cls := hown0
  have N0 := Fr.nil n0
  have pre0 := fun tg_ => castTop (tb := pg.tables) (e := ee) (below := below) (T := s₁) (t := tg_) (ef_11_462 mm bb (3 : Int32))
  obtain ⟨cl1, Ar1, qk1, Sz1, Nn1, Hh1, Gg1⟩ := id Vb
  refine own_end X0 (v := some (.int (1 : Int32))) (fun h => by rw [Bd.returns] at h; cases h) (by decide) (by decide) (fun fs hr => pre0 _ ?_) ?_
  · show Steps pg.tables ee below (s₁.setTop (mkF mm 0 #[.val (.ref bb), .val (.int (3 : Int32))] [])) _
    refine XS.iloadN X0.here hx rfl (hb hby d11_0) rfl ?_
    refine XS.aloadN X0.here hx rfl (hb hby d11_1) rfl rfl ?_
    refine X0.arraylength hx (by rw [e0]; exact Ar1.1) (State.isArrayOf_alike hZ.alike Ar1.2.1) (g := (mkF mm 2 #[.val (.ref bb), .val (.int (3 : Int32))] [(.ref bb), (.int (3 : Int32))])) rfl rfl (hb hby d11_2) _ ?_
    rw [len_of Sz1 Nn1]
    refine XS.isub X0.here hx rfl (hb hby d11_3) rfl ?_
    refine XS.bipush X0.here hx rfl (hb hby d11_4) ?_
    refine XS.iushr X0.here hx rfl (hb hby d11_6) rfl ?_
    refine XS.i2b X0.here hx rfl (hb hby d11_7) rfl ?_
    exact retN X0 hx (t := .byte) Bd.returns (by simp) (hb hby d11_8) hr
  · show QrmCf3_1 Z bb kb vs h0 n0 _ s₁.heap _
    rw [e0]
    exact ⟨rfl, N0, rfl⟩
set_option maxRecDepth 65536 in
set_option maxHeartbeats 40000000 in
theorem rmV3_0 (l : Launch) (Z : State) (a0 : Array Value) (hw : ∀ d ∈ tables_1, d.before a0 Z = true) (ws : List Jvm.Cond) (a : Addr) (ch : Addr) (kc : ClassId) (x0 : Int32) (x1 : Int32) (x2 : Int32) (cs : Int32) (h0 : Heap) (n0 : Nat) (O0 : Old Z n0 h0) (E_a : Exa Z h0 a "java/lang/String") (F_value_a : Fld Z h0 a "java/lang/String" "value" "[B" .null) (F_coder_a : Fld Z h0 a "java/lang/String" "coder" "B" (.int (0 : Int32))) (g_a : n0 ≤ a) (Vc : Arv Z h0 ch kc .char (3 : Int32) [(.int x0), (.int x1), (.int x2)] (.int (0 : Int32))) (hca : ch ≠ a) (hC : own_C Z cs) (hl0 : ¬ ((255 : Int32) < x0)) (hl1 : ¬ ((255 : Int32) < x1)) (hl2 : ¬ ((255 : Int32) < x2)) :
    own_M l Z h0 (⟨"java/lang/String", "<init>", "([CIILjava/lang/Void;)V"⟩ : MethodName) jdk_42_method_149_code 6 none ws ({ frames := 4, cells := 2, slots := 9, locals := 57 } : Room) #[(.ref a), (.ref ch), (.int (0 : Int32)), (.int (3 : Int32)), .null] (QS3 Z a x0 x1 x2 h0 n0) := by
  refine own_start (plainFor_of_name pn_18) ?_
  intro pg ee s mm below meth cc s₁ Bd hZ hh hx hby hml hown0 hnm X0 e0
  have hown : s.vm.findClass "java/lang/String" = some mm.cls := hown0
  have N0 := Fr.nil n0
  have K0 : Keep h0 h0 ([a] : List Addr) := Keep.refl _ _
  have pre0 := fun tg_ => castTop (tb := pg.tables) (e := ee) (below := below) (T := s₁) (t := tg_) (ef_3_484 mm a ch (0 : Int32) (3 : Int32))
  obtain ⟨T1, X1, e1, st1⟩ := initO X0 hx hZ hown (own_h hw 15 rfl) (own_h hw 16 rfl) (own_h hw 17 rfl) e0 (g := (mkF mm 1 #[.val (.ref a), .val (.ref ch), .val (.int (0 : Int32)), .val (.int (3 : Int32)), .val .null, .unset] [(.ref a)])) rfl (by rw [hml]; rfl) rfl (hb hby d3_1) (by decide) (W := 0) (by show 2 * 0 + _ ≤ _; exact Nat.le_of_eq rfl) (by decide)
  obtain ⟨T2, X2, e2, st2⟩ := getS2 X1 hx hZ hown (host := "") (Or.inl (own_h hw 40 rfl)) Via.refl e1 (hC.1.ext O0.2) (g := (mkF mm 27 #[.val (.ref a), .val (.ref ch), .val (.int (0 : Int32)), .val (.int (3 : Int32)), .val .null, .unset] [])) rfl (hb hby d3_27)
  obtain ⟨_, _, ⟨T3, L3, k3, n3⟩, -, X3, ⟨Lc3, hQ3, l3, y3, z3⟩, st3⟩ := Jvm.LawKit.callS X2 hx hown (mvT hZ (own_h hw 46 rfl)) (mvT hZ (own_h hw 47 rfl)) (mvT hZ (own_h hw 48 rfl)) (mvT hZ (own_h hw 49 rfl)) (by decide) (backOf (W := 0) (rmCmL3 l Z a0 hw [] ch kc x0 x1 x2 h0 n0 O0 Vc hl0 hl1 hl2) hZ (own_h hw 49 rfl) (own_h hw 48 rfl) (by decide) (by decide)) (g := (mkF mm 36 #[.val (.ref a), .val (.ref ch), .val (.int (0 : Int32)), .val (.int (3 : Int32)), .val .null, .unset] [(.int (3 : Int32)), (.int (0 : Int32)), (.ref ch)])) rfl (by rw [hml]; rfl) (argsL := [(.ref ch), (.int (0 : Int32)), (.int (3 : Int32))]) (rest := []) (lenOf pd_445 rfl) rfl (Nat.le_of_eq rfl) (hb hby d3_36) (fun _ _ => ⟨rfl, e2, (by decide : 0 + 1 ≤ _), (by decide : 0 + 3 ≤ _)⟩)
  dsimp only [Pt.U, Pt.locs, Pt.cells, Pt.slots] at X3 l3 y3 z3 st3 hQ3
  subst l3 y3 z3
  obtain ⟨bb3, kb3, rfl, N3q, K3, g_bb3, sz_bb3, Vw3⟩ := hQ3
  have O3 := O0.keep K3 all0
  have KK3 := K0.trans K3 all0
  have N3 := Fr.app N0 N3q
  obtain ⟨_, _, ⟨T4, L4, k4, n4⟩, -, X4, ⟨Lc4, hQ4, l4, y4, z4⟩, st4⟩ := Jvm.LawKit.callS X3 hx hown (mvT hZ (own_h hw 53 rfl)) (mvT hZ (own_h hw 54 rfl)) (mvT hZ (own_h hw 48 rfl)) (mvT hZ (own_h hw 55 rfl)) (by decide) (backOf (W := 1) (rmCf3_0 l Z a0 hw [] bb3 kb3 [(own_l x0), (own_l x1), (own_l x2)] T3.heap n0 O3 Vw3) hZ (own_h hw 55 rfl) (own_h hw 48 rfl) (by decide) (by decide)) (g := (mkF mm 45 #[.val (.ref a), .val (.ref ch), .val (.int (0 : Int32)), .val (.int (3 : Int32)), .val .null, .val (.ref bb3)] [(.int (3 : Int32)), (.ref bb3), (.ref a)])) rfl (by rw [hml]; rfl) (argsL := [(.ref bb3), (.int (3 : Int32))]) (rest := [(.ref a)]) (lenOf pd_478 rfl) rfl (Nat.le_of_eq rfl) (hb hby d3_45) (fun _ _ => ⟨rfl, rfl, (by decide : 1 + 0 ≤ _), (by decide : 3 + 0 ≤ _)⟩)
  dsimp only [Pt.U, Pt.locs, Pt.cells, Pt.slots] at X4 l4 y4 z4 st4 hQ4
  subst l4 y4 z4
  obtain ⟨rfl, N4q, e4⟩ := hQ4
  have N4 := Fr.app N3 N4q
  obtain ⟨T5, h5, X5, e5, W5, st5⟩ := putFN X4 hx hZ hown (own_h hw 25 rfl) Via.refl e4 (F_coder_a.keep K3 nin0) (E_a.keep K3) (Or.inr ⟨(own_h hw 21 rfl), rfl, hnm⟩) (own_h hw 6 rfl) (ty := .byte) (v' := (.int (0 : Int32))) (by decide) rfl (by decide) (g := (mkF mm 48 #[.val (.ref a), .val (.ref ch), .val (.int (0 : Int32)), .val (.int (3 : Int32)), .val .null, .val (.ref bb3)] [(.int (0 : Int32)), (.ref a)])) rfl rfl (hb hby d3_48)
  have Fw5 : Fld Z h5 a "java/lang/String" "coder" "B" (.int (0 : Int32)) := (F_coder_a.keep K3 nin0).same W5
  have N5 := Fr.snoc X5 N4 g_a
  have O5 := O3.wr W5 g_a
  have KK5 := KK3.wr W5 (Or.inl (by simp))
  obtain ⟨T6, h6, X6, e6, W6, st6⟩ := putF X5 hx hZ hown (host := "") (Or.inl (own_h hw 24 rfl)) Via.refl e5 ((F_value_a.keep K3 nin0).other W5 (Or.inr (slot_ne (Or.inr (own_h hw 20 rfl)) (Or.inr (own_h hw 21 rfl)) (by decide) (t := (.array .byte)) (t' := .byte) (by decide) (by decide)))) ((E_a.keep K3).wr W5) (Or.inr ⟨(own_h hw 20 rfl), rfl, hnm⟩) (own_h hw 6 rfl) (ty := (.array .byte)) (by decide) rfl rfl (g := (mkF mm 54 #[.val (.ref a), .val (.ref ch), .val (.int (0 : Int32)), .val (.int (3 : Int32)), .val .null, .val (.ref bb3)] [(.ref bb3), (.ref a)])) rfl rfl (hb hby d3_54)
  have Fw6 : Fld Z h6 a "java/lang/String" "value" "[B" (.ref bb3) := ((F_value_a.keep K3 nin0).other W5 (Or.inr (slot_ne (Or.inr (own_h hw 20 rfl)) (Or.inr (own_h hw 21 rfl)) (by decide) (t := (.array .byte)) (t' := .byte) (by decide) (by decide)))).same W6
  have N6 := Fr.snoc X6 N5 g_a
  have O6 := O5.wr W6 g_a
  have KK6 := KK5.wr W6 (Or.inl (by simp))
  refine own_end X6 (v := none) (fun _ => rfl) (by decide) (by decide) (fun fs hr => pre0 _ ?_) ?_
  · show Steps pg.tables ee below (s₁.setTop (mkF mm 0 #[.val (.ref a), .val (.ref ch), .val (.int (0 : Int32)), .val (.int (3 : Int32)), .val .null, .unset] [])) _
    refine XS.aloadN X0.here hx rfl (hb hby d3_0) rfl rfl ?_
    refine st1 _ ?_
    refine XS.iloadN X1.here hx rfl (hb hby d3_4) rfl ?_
    refine XS.ifYes X1.here hx rfl (pc0 := 5) (pc' := 27) rfl (hb hby d3_5) rfl ((if0 _ _).trans (feq (by decide : ¬ ((3 : Int32) = (0 : Int32)))).2) (by decide) (by decide) ?_
    refine st2 _ ?_
    refine XS.ifNo X2.here hx rfl (hb hby d3_30) rfl ((if0 _ _).trans (feq hC.2).1) ?_
    refine XS.aloadN X2.here hx rfl (hb hby d3_33) rfl rfl ?_
    refine XS.iloadN X2.here hx rfl (hb hby d3_34) rfl ?_
    show Steps pg.tables ee below (T2.setTop (mkF mm 35 #[.val (.ref a), .val (.ref ch), .val (.int (0 : Int32)), .val (.int (3 : Int32)), .val .null, .unset] [(.int (0 : Int32)), (.ref ch)])) _
    refine XS.iloadN X2.here hx rfl (hb hby d3_35) rfl ?_
    refine st3 _ ?_
    refine XS.astore X3.here hx rfl (hb hby d3_39) rfl rfl (l' := #[.val (.ref a), .val (.ref ch), .val (.int (0 : Int32)), .val (.int (3 : Int32)), .val .null, .val (.ref bb3)]) rfl ?_
    refine XS.aloadN X3.here hx rfl (hb hby d3_41) rfl rfl ?_
    refine XS.aload X3.here hx rfl (hb hby d3_42) rfl rfl ?_
    refine XS.iloadN X3.here hx rfl (hb hby d3_44) rfl ?_
    refine st4 _ ?_
    refine st5 _ ?_
    show Steps pg.tables ee below (T5.setTop (mkF mm 51 #[.val (.ref a), .val (.ref ch), .val (.int (0 : Int32)), .val (.int (3 : Int32)), .val .null, .val (.ref bb3)] [])) _
    refine XS.aloadN X5.here hx rfl (hb hby d3_51) rfl rfl ?_
    refine XS.aload X5.here hx rfl (hb hby d3_52) rfl rfl ?_
    refine st6 _ ?_
    exact X6.returnOut hx Bd.returns (hb hby d3_57) hr
  · show QS3 Z a x0 x1 x2 h0 n0 _ T6.heap _
    rw [e6]
    exact ⟨rfl, N6, KK6, (((E_a.keep K3).wr W5).wr W6), _, _, Fw6, Or.inl ⟨(Fw5.other W6 (Or.inr (slot_ne (Or.inr (own_h hw 21 rfl)) (Or.inr (own_h hw 20 rfl)) (by decide) (t := .byte) (t' := (.array .byte)) (by decide) (by decide)))), hl0, hl1, hl2, ((Vw3.other W5 (Ne.symm (Nat.ne_of_lt (Nat.lt_of_lt_of_le E_a.lt sz_bb3)))).other W6 (Ne.symm (Nat.ne_of_lt (Nat.lt_of_lt_of_le E_a.lt sz_bb3))))⟩⟩
set_option maxRecDepth 65536 in
set_option maxHeartbeats 40000000 in
theorem rmV3_1 (l : Launch) (Z : State) (a0 : Array Value) (hw : ∀ d ∈ tables_1, d.before a0 Z = true) (ws : List Jvm.Cond) (a : Addr) (ch : Addr) (kc : ClassId) (x0 : Int32) (x1 : Int32) (x2 : Int32) (cs : Int32) (h0 : Heap) (n0 : Nat) (O0 : Old Z n0 h0) (E_a : Exa Z h0 a "java/lang/String") (F_value_a : Fld Z h0 a "java/lang/String" "value" "[B" .null) (F_coder_a : Fld Z h0 a "java/lang/String" "coder" "B" (.int (0 : Int32))) (g_a : n0 ≤ a) (Vc : Arv Z h0 ch kc .char (3 : Int32) [(.int x0), (.int x1), (.int x2)] (.int (0 : Int32))) (hca : ch ≠ a) (hC : own_C Z cs) (hU : (255 : Int32) < x0 ∨ (255 : Int32) < x1 ∨ (255 : Int32) < x2) (ha0 : ¬ (x0 < (0 : Int32))) (hb0 : ¬ ((65535 : Int32) < x0)) (ha1 : ¬ (x1 < (0 : Int32))) (hb1 : ¬ ((65535 : Int32) < x1)) (ha2 : ¬ (x2 < (0 : Int32))) (hb2 : ¬ ((65535 : Int32) < x2)) (hG : own_G Z) :
    own_M l Z h0 (⟨"java/lang/String", "<init>", "([CIILjava/lang/Void;)V"⟩ : MethodName) jdk_42_method_149_code 6 none ws ({ frames := 4, cells := 2, slots := 9, locals := 57 } : Room) #[(.ref a), (.ref ch), (.int (0 : Int32)), (.int (3 : Int32)), .null] (QS3 Z a x0 x1 x2 h0 n0) := by
  refine own_start (plainFor_of_name pn_18) ?_
  intro pg ee s mm below meth cc s₁ Bd hZ hh hx hby hml hown0 hnm X0 e0
  have hown : s.vm.findClass "java/lang/String" = some mm.cls := hown0
  have N0 := Fr.nil n0
  have K0 : Keep h0 h0 ([a] : List Addr) := Keep.refl _ _
  have pre0 := fun tg_ => castTop (tb := pg.tables) (e := ee) (below := below) (T := s₁) (t := tg_) (ef_3_484 mm a ch (0 : Int32) (3 : Int32))
  obtain ⟨T1, X1, e1, st1⟩ := initO X0 hx hZ hown (own_h hw 15 rfl) (own_h hw 16 rfl) (own_h hw 17 rfl) e0 (g := (mkF mm 1 #[.val (.ref a), .val (.ref ch), .val (.int (0 : Int32)), .val (.int (3 : Int32)), .val .null, .unset] [(.ref a)])) rfl (by rw [hml]; rfl) rfl (hb hby d3_1) (by decide) (W := 0) (by show 2 * 0 + _ ≤ _; exact Nat.le_of_eq rfl) (by decide)
  obtain ⟨T2, X2, e2, st2⟩ := getS2 X1 hx hZ hown (host := "") (Or.inl (own_h hw 40 rfl)) Via.refl e1 (hC.1.ext O0.2) (g := (mkF mm 27 #[.val (.ref a), .val (.ref ch), .val (.int (0 : Int32)), .val (.int (3 : Int32)), .val .null, .unset] [])) rfl (hb hby d3_27)
  obtain ⟨_, _, ⟨T3, L3, k3, n3⟩, -, X3, ⟨Lc3, hQ3, l3, y3, z3⟩, st3⟩ := Jvm.LawKit.callS X2 hx hown (mvT hZ (own_h hw 46 rfl)) (mvT hZ (own_h hw 47 rfl)) (mvT hZ (own_h hw 48 rfl)) (mvT hZ (own_h hw 49 rfl)) (by decide) (backOf (W := 0) (rmCmU3 l Z a0 hw [] ch kc x0 x1 x2 h0 n0 O0 Vc hG hU ha0 hb0 ha1 hb1 ha2 hb2) hZ (own_h hw 49 rfl) (own_h hw 48 rfl) (by decide) (by decide)) (g := (mkF mm 36 #[.val (.ref a), .val (.ref ch), .val (.int (0 : Int32)), .val (.int (3 : Int32)), .val .null, .unset] [(.int (3 : Int32)), (.int (0 : Int32)), (.ref ch)])) rfl (by rw [hml]; rfl) (argsL := [(.ref ch), (.int (0 : Int32)), (.int (3 : Int32))]) (rest := []) (lenOf pd_445 rfl) rfl (Nat.le_of_eq rfl) (hb hby d3_36) (fun _ _ => ⟨rfl, e2, (by decide : 0 + 2 ≤ _), (by decide : 0 + 9 ≤ _)⟩)
  dsimp only [Pt.U, Pt.locs, Pt.cells, Pt.slots] at X3 l3 y3 z3 st3 hQ3
  subst l3 y3 z3
  obtain ⟨bb3, kb3, rfl, N3q, K3, g_bb3, sz_bb3, Vw3⟩ := hQ3
  have O3 := O0.keep K3 all0
  have KK3 := K0.trans K3 all0
  have N3 := Fr.app N0 N3q
  obtain ⟨_, _, ⟨T4, L4, k4, n4⟩, -, X4, ⟨Lc4, hQ4, l4, y4, z4⟩, st4⟩ := Jvm.LawKit.callS X3 hx hown (mvT hZ (own_h hw 53 rfl)) (mvT hZ (own_h hw 54 rfl)) (mvT hZ (own_h hw 48 rfl)) (mvT hZ (own_h hw 55 rfl)) (by decide) (backOf (W := 1) (rmCf3_1 l Z a0 hw [] bb3 kb3 [(own_u x0), (own_v x0), (own_u x1), (own_v x1), (own_u x2), (own_v x2)] T3.heap n0 O3 Vw3) hZ (own_h hw 55 rfl) (own_h hw 48 rfl) (by decide) (by decide)) (g := (mkF mm 45 #[.val (.ref a), .val (.ref ch), .val (.int (0 : Int32)), .val (.int (3 : Int32)), .val .null, .val (.ref bb3)] [(.int (3 : Int32)), (.ref bb3), (.ref a)])) rfl (by rw [hml]; rfl) (argsL := [(.ref bb3), (.int (3 : Int32))]) (rest := [(.ref a)]) (lenOf pd_478 rfl) rfl (Nat.le_of_eq rfl) (hb hby d3_45) (fun _ _ => ⟨rfl, rfl, (by decide : 2 + 0 ≤ _), (by decide : 9 + 0 ≤ _)⟩)
  dsimp only [Pt.U, Pt.locs, Pt.cells, Pt.slots] at X4 l4 y4 z4 st4 hQ4
  subst l4 y4 z4
  obtain ⟨rfl, N4q, e4⟩ := hQ4
  have N4 := Fr.app N3 N4q
  obtain ⟨T5, h5, X5, e5, W5, st5⟩ := putFN X4 hx hZ hown (own_h hw 25 rfl) Via.refl e4 (F_coder_a.keep K3 nin0) (E_a.keep K3) (Or.inr ⟨(own_h hw 21 rfl), rfl, hnm⟩) (own_h hw 6 rfl) (ty := .byte) (v' := (.int (1 : Int32))) (by decide) rfl (by decide) (g := (mkF mm 48 #[.val (.ref a), .val (.ref ch), .val (.int (0 : Int32)), .val (.int (3 : Int32)), .val .null, .val (.ref bb3)] [(.int (1 : Int32)), (.ref a)])) rfl rfl (hb hby d3_48)
  have Fw5 : Fld Z h5 a "java/lang/String" "coder" "B" (.int (1 : Int32)) := (F_coder_a.keep K3 nin0).same W5
  have N5 := Fr.snoc X5 N4 g_a
  have O5 := O3.wr W5 g_a
  have KK5 := KK3.wr W5 (Or.inl (by simp))
  obtain ⟨T6, h6, X6, e6, W6, st6⟩ := putF X5 hx hZ hown (host := "") (Or.inl (own_h hw 24 rfl)) Via.refl e5 ((F_value_a.keep K3 nin0).other W5 (Or.inr (slot_ne (Or.inr (own_h hw 20 rfl)) (Or.inr (own_h hw 21 rfl)) (by decide) (t := (.array .byte)) (t' := .byte) (by decide) (by decide)))) ((E_a.keep K3).wr W5) (Or.inr ⟨(own_h hw 20 rfl), rfl, hnm⟩) (own_h hw 6 rfl) (ty := (.array .byte)) (by decide) rfl rfl (g := (mkF mm 54 #[.val (.ref a), .val (.ref ch), .val (.int (0 : Int32)), .val (.int (3 : Int32)), .val .null, .val (.ref bb3)] [(.ref bb3), (.ref a)])) rfl rfl (hb hby d3_54)
  have Fw6 : Fld Z h6 a "java/lang/String" "value" "[B" (.ref bb3) := ((F_value_a.keep K3 nin0).other W5 (Or.inr (slot_ne (Or.inr (own_h hw 20 rfl)) (Or.inr (own_h hw 21 rfl)) (by decide) (t := (.array .byte)) (t' := .byte) (by decide) (by decide)))).same W6
  have N6 := Fr.snoc X6 N5 g_a
  have O6 := O5.wr W6 g_a
  have KK6 := KK5.wr W6 (Or.inl (by simp))
  refine own_end X6 (v := none) (fun _ => rfl) (by decide) (by decide) (fun fs hr => pre0 _ ?_) ?_
  · show Steps pg.tables ee below (s₁.setTop (mkF mm 0 #[.val (.ref a), .val (.ref ch), .val (.int (0 : Int32)), .val (.int (3 : Int32)), .val .null, .unset] [])) _
    refine XS.aloadN X0.here hx rfl (hb hby d3_0) rfl rfl ?_
    refine st1 _ ?_
    refine XS.iloadN X1.here hx rfl (hb hby d3_4) rfl ?_
    refine XS.ifYes X1.here hx rfl (pc0 := 5) (pc' := 27) rfl (hb hby d3_5) rfl ((if0 _ _).trans (feq (by decide : ¬ ((3 : Int32) = (0 : Int32)))).2) (by decide) (by decide) ?_
    refine st2 _ ?_
    refine XS.ifNo X2.here hx rfl (hb hby d3_30) rfl ((if0 _ _).trans (feq hC.2).1) ?_
    refine XS.aloadN X2.here hx rfl (hb hby d3_33) rfl rfl ?_
    refine XS.iloadN X2.here hx rfl (hb hby d3_34) rfl ?_
    show Steps pg.tables ee below (T2.setTop (mkF mm 35 #[.val (.ref a), .val (.ref ch), .val (.int (0 : Int32)), .val (.int (3 : Int32)), .val .null, .unset] [(.int (0 : Int32)), (.ref ch)])) _
    refine XS.iloadN X2.here hx rfl (hb hby d3_35) rfl ?_
    refine st3 _ ?_
    refine XS.astore X3.here hx rfl (hb hby d3_39) rfl rfl (l' := #[.val (.ref a), .val (.ref ch), .val (.int (0 : Int32)), .val (.int (3 : Int32)), .val .null, .val (.ref bb3)]) rfl ?_
    refine XS.aloadN X3.here hx rfl (hb hby d3_41) rfl rfl ?_
    refine XS.aload X3.here hx rfl (hb hby d3_42) rfl rfl ?_
    refine XS.iloadN X3.here hx rfl (hb hby d3_44) rfl ?_
    refine st4 _ ?_
    refine st5 _ ?_
    show Steps pg.tables ee below (T5.setTop (mkF mm 51 #[.val (.ref a), .val (.ref ch), .val (.int (0 : Int32)), .val (.int (3 : Int32)), .val .null, .val (.ref bb3)] [])) _
    refine XS.aloadN X5.here hx rfl (hb hby d3_51) rfl rfl ?_
    refine XS.aload X5.here hx rfl (hb hby d3_52) rfl rfl ?_
    refine st6 _ ?_
    exact X6.returnOut hx Bd.returns (hb hby d3_57) hr
  · show QS3 Z a x0 x1 x2 h0 n0 _ T6.heap _
    rw [e6]
    exact ⟨rfl, N6, KK6, (((E_a.keep K3).wr W5).wr W6), _, _, Fw6, Or.inr ⟨(Fw5.other W6 (Or.inr (slot_ne (Or.inr (own_h hw 21 rfl)) (Or.inr (own_h hw 20 rfl)) (by decide) (t := .byte) (t' := (.array .byte)) (by decide) (by decide)))), ((Vw3.other W5 (Ne.symm (Nat.ne_of_lt (Nat.lt_of_lt_of_le E_a.lt sz_bb3)))).other W6 (Ne.symm (Nat.ne_of_lt (Nat.lt_of_lt_of_le E_a.lt sz_bb3))))⟩⟩
set_option maxRecDepth 65536 in
theorem rmV3 (l : Launch) (Z : State) (a0 : Array Value) (hw : ∀ d ∈ tables_1, d.before a0 Z = true) (ws : List Jvm.Cond) (a : Addr) (ch : Addr) (kc : ClassId) (x0 : Int32) (x1 : Int32) (x2 : Int32) (cs : Int32) (h0 : Heap) (n0 : Nat) (O0 : Old Z n0 h0) (E_a : Exa Z h0 a "java/lang/String") (F_value_a : Fld Z h0 a "java/lang/String" "value" "[B" .null) (F_coder_a : Fld Z h0 a "java/lang/String" "coder" "B" (.int (0 : Int32))) (g_a : n0 ≤ a) (Vc : Arv Z h0 ch kc .char (3 : Int32) [(.int x0), (.int x1), (.int x2)] (.int (0 : Int32))) (hca : ch ≠ a) (hC : own_C Z cs) (ha0 : ¬ (x0 < (0 : Int32))) (hb0 : ¬ ((65535 : Int32) < x0)) (ha1 : ¬ (x1 < (0 : Int32))) (hb1 : ¬ ((65535 : Int32) < x1)) (ha2 : ¬ (x2 < (0 : Int32))) (hb2 : ¬ ((65535 : Int32) < x2)) (hG : own_G Z) :
    own_M l Z h0 (⟨"java/lang/String", "<init>", "([CIILjava/lang/Void;)V"⟩ : MethodName) jdk_42_method_149_code 6 none ws ({ frames := 4, cells := 2, slots := 9, locals := 57 } : Room) #[(.ref a), (.ref ch), (.int (0 : Int32)), (.int (3 : Int32)), .null] (QS3 Z a x0 x1 x2 h0 n0) := by
  by_cases hl0 : (255 : Int32) < x0
  · exact rmV3_1 l Z a0 hw ws a ch kc x0 x1 x2 cs h0 n0 O0 E_a F_value_a F_coder_a g_a Vc hca hC (Or.inl hl0) ha0 hb0 ha1 hb1 ha2 hb2 hG
  by_cases hl1 : (255 : Int32) < x1
  · exact rmV3_1 l Z a0 hw ws a ch kc x0 x1 x2 cs h0 n0 O0 E_a F_value_a F_coder_a g_a Vc hca hC (Or.inr (Or.inl hl1)) ha0 hb0 ha1 hb1 ha2 hb2 hG
  by_cases hl2 : (255 : Int32) < x2
  · exact rmV3_1 l Z a0 hw ws a ch kc x0 x1 x2 cs h0 n0 O0 E_a F_value_a F_coder_a g_a Vc hca hC (Or.inr (Or.inr (hl2))) ha0 hb0 ha1 hb1 ha2 hb2 hG
  exact rmV3_0 l Z a0 hw ws a ch kc x0 x1 x2 cs h0 n0 O0 E_a F_value_a F_coder_a g_a Vc hca hC hl0 hl1 hl2
set_option maxRecDepth 65536 in
set_option maxHeartbeats 40000000 in
theorem rmC3 (l : Launch) (Z : State) (a0 : Array Value) (hw : ∀ d ∈ tables_1, d.before a0 Z = true) (ws : List Jvm.Cond) (a : Addr) (ch : Addr) (kc : ClassId) (x0 : Int32) (x1 : Int32) (x2 : Int32) (cs : Int32) (h0 : Heap) (n0 : Nat) (O0 : Old Z n0 h0) (E_a : Exa Z h0 a "java/lang/String") (F_value_a : Fld Z h0 a "java/lang/String" "value" "[B" .null) (F_coder_a : Fld Z h0 a "java/lang/String" "coder" "B" (.int (0 : Int32))) (g_a : n0 ≤ a) (Vc : Arv Z h0 ch kc .char (3 : Int32) [(.int x0), (.int x1), (.int x2)] (.int (0 : Int32))) (hca : ch ≠ a) (hC : own_C Z cs) (ha0 : ¬ (x0 < (0 : Int32))) (hb0 : ¬ ((65535 : Int32) < x0)) (ha1 : ¬ (x1 < (0 : Int32))) (hb1 : ¬ ((65535 : Int32) < x1)) (ha2 : ¬ (x2 < (0 : Int32))) (hb2 : ¬ ((65535 : Int32) < x2)) (hG : own_G Z) :
    own_M l Z h0 (⟨"java/lang/String", "<init>", "([C)V"⟩ : MethodName) jdk_42_method_3_code 2 none ws ({ frames := 5, cells := 2, slots := 9, locals := 74 } : Room) #[(.ref a), (.ref ch)] (QS3 Z a x0 x1 x2 h0 n0) := by
  refine own_start (plainFor_of_name pn_18) ?_
  intro pg ee s mm below meth cc s₁ Bd hZ hh hx hby hml hown0 hnm X0 e0
  have hown : s.vm.findClass "java/lang/String" = some mm.cls := hown0
  have N0 := Fr.nil n0
  have K0 : Keep h0 h0 ([a] : List Addr) := Keep.refl _ _
  have pre0 := fun tg_ => castTop (tb := pg.tables) (e := ee) (below := below) (T := s₁) (t := tg_) (ef_2_494 mm a ch)
  obtain ⟨cl1, Ar1, qk1, Sz1, Nn1, Hh1, Gg1⟩ := id Vc
  obtain ⟨_, _, ⟨T2, L2, k2, n2⟩, -, X2, ⟨Lc2, hQ2, l2, y2, z2⟩, st2⟩ := X0.specialBack hx rfl hown (mvT hZ (own_h hw 11 rfl)) (mvT hZ (own_h hw 12 rfl)) (mvT hZ (own_h hw 14 rfl)) (by decide) (backOf (W := 0) (rmV3 l Z a0 hw [] a ch kc x0 x1 x2 cs h0 n0 O0 E_a F_value_a F_coder_a g_a Vc hca hC ha0 hb0 ha1 hb1 ha2 hb2 hG) hZ (own_h hw 14 rfl) (own_h hw 7 rfl) (by decide) (by decide)) (g := (mkF mm 6 #[.val (.ref a), .val (.ref ch)] [.null, (.int (3 : Int32)), (.int (0 : Int32)), (.ref ch), (.ref a)])) rfl (by rw [hml]; rfl) (Steps.refl _) (a := a) (argsL := [(.ref ch), (.int (0 : Int32)), (.int (3 : Int32)), .null]) (rest := []) (lenOf pd_492 rfl) rfl (Nat.le_of_eq rfl) (hb hby d2_6) (fun _ _ => ⟨rfl, e0, (by decide : 0 + 2 ≤ _), (by decide : 0 + 9 ≤ _)⟩)
  dsimp only [Pt.U, Pt.locs, Pt.cells, Pt.slots] at X2 l2 y2 z2 st2 hQ2
  subst l2 y2 z2
  obtain ⟨rfl, N2q, K2, Sp2⟩ := hQ2
  have O2 := O0.keep K2 (allS g_a all0)
  have KK2 := K0.trans K2 (allS (Or.inl (by simp)) all0)
  have N2 := Fr.app N0 N2q
  refine own_end X2 (v := none) (fun _ => rfl) (by decide) (by decide) (fun fs hr => pre0 _ ?_) ?_
  · show Steps pg.tables ee below (s₁.setTop (mkF mm 0 #[.val (.ref a), .val (.ref ch)] [])) _
    refine XS.aloadN X0.here hx rfl (hb hby d2_0) rfl rfl ?_
    refine XS.aloadN X0.here hx rfl (hb hby d2_1) rfl rfl ?_
    refine XS.iconst X0.here hx rfl (hb hby d2_2) ?_
    refine XS.aloadN X0.here hx rfl (hb hby d2_3) rfl rfl ?_
    refine X0.arraylength hx (by rw [e0]; exact Ar1.1) (State.isArrayOf_alike hZ.alike Ar1.2.1) (g := (mkF mm 4 #[.val (.ref a), .val (.ref ch)] [(.ref ch), (.int (0 : Int32)), (.ref ch), (.ref a)])) rfl rfl (hb hby d2_4) _ ?_
    rw [len_of Sz1 Nn1]
    refine XS.aconstNull X0.here hx rfl (hb hby d2_5) ?_
    refine st2.trans ?_
    exact X2.returnOut hx Bd.returns (hb hby d2_9) hr
  · show QS3 Z a x0 x1 x2 h0 n0 _ T2.heap _
    exact ⟨rfl, N2, KK2, Sp2⟩
theorem d3_8 : decode jdk_42_method_149_code 8 = .ok (.aload_n 0, 1) := by decide +kernel
theorem d3_9 : decode jdk_42_method_149_code 9 = .ok (.ldc 7, 2) := by decide +kernel
theorem d3_11 : decode jdk_42_method_149_code 11 = .ok (.getfield 9, 3) := by decide +kernel
theorem d3_14 : decode jdk_42_method_149_code 14 = .ok (.putfield 9, 3) := by decide +kernel
theorem d3_17 : decode jdk_42_method_149_code 17 = .ok (.aload_n 0, 1) := by decide +kernel
theorem own_loose {p : Program} {l : Launch} {e : Env} {R : Room} {s : State} {m : MethodId} {args : Array Value} {below : List Frame} {meth : Method} {c : Code} {T : State} {locs : List Loc} {cells slots n0 : Nat} (X : Stand p l e R s m args below meth c T locs cells slots) (N : Fr n0 locs) : ∃ LL, Stand p l e R s m args below meth c T LL cells slots ∧ Fr n0 LL := ⟨_, X, N⟩
theorem d3_18 : decode jdk_42_method_149_code 18 = .ok (.ldc 7, 2) := by decide +kernel
theorem d3_20 : decode jdk_42_method_149_code 20 = .ok (.getfield 15, 3) := by decide +kernel
theorem d3_23 : decode jdk_42_method_149_code 23 = .ok (.putfield 15, 3) := by decide +kernel
theorem d3_26 : decode jdk_42_method_149_code 26 = .ok (.return_, 1) := by decide +kernel
theorem own_rmono {s t : State} {o : Outcome} {L : List Loc} {k n k' n' : Nat} (h : ReturnedEndW s o t L k n) (hk : k ≤ k') (hn : n ≤ n') : ReturnedEndW s o t L k' n' := ⟨h.1, h.2.1, h.2.2.1, h.2.2.2.mono hk hn⟩
def QrmV0 (Z : State) (a : Addr) (ch : Addr) (h0 : Heap) (n0 : Nat) (v : Option Value) (h : Heap) (L : List Loc) : Prop := v = none ∧ Fr n0 L ∧ Keep h0 h [a] ∧ own_S0 Z h a
set_option maxRecDepth 65536 in
set_option maxHeartbeats 40000000 in
theorem rmV0 (l : Launch) (Z : State) (a0 : Array Value) (hw : ∀ d ∈ tables_1, d.before a0 Z = true) (ws : List Jvm.Cond) (a : Addr) (ch : Addr) (h0 : Heap) (n0 : Nat) (O0 : Old Z n0 h0) (E_a : Exa Z h0 a "java/lang/String") (F_value_a : Fld Z h0 a "java/lang/String" "value" "[B" .null) (F_coder_a : Fld Z h0 a "java/lang/String" "coder" "B" (.int (0 : Int32))) (g_a : n0 ≤ a) :
    MetFree l (⟨"java/lang/String", "<init>", "([CIILjava/lang/Void;)V"⟩ : MethodName) (head1 (Jvm.Cond.code (⟨"java/lang/String", "<init>", "([CIILjava/lang/Void;)V"⟩ : MethodName) jdk_42_method_149_code 6 none :: ws) ({ frames := 1, cells := 4, slots := 8, locals := 12 } : Room)) (fun a_ U_ => a_ = #[(.ref a), (.ref ch), (.int (0 : Int32)), (.int (0 : Int32)), .null] ∧ Z.Warmed39 U_.vm ∧ U_.heap = h0 ∧ CHv Z own_EL U_.vm h0) (fun _ _ _ _ _ => True) (fun _ U_ o_ U'_ => ∃ v_ L_, o_ = .returned v_ ∧ QrmV0 Z a ch h0 n0 v_ U'_.heap L_ ∧ CHr Z own_EL U_.vm U_.heap U'_.vm U'_.heap ∧ ReturnedEndW U_ o_ U'_ L_ ({ frames := 1, cells := 4, slots := 8, locals := 12 } : Room).cells ({ frames := 1, cells := 4, slots := 8, locals := 12 } : Room).slots) := by
  refine MetFree.of_bodySF (plainFor_of_name pn_18) hisR ?_
  intro pg ee s mm args below meth cc s₁ Bd hml0 hP hK
  obtain ⟨rfl, hZ, hh, HC0⟩ := hP
  have hx := Bd.exec
  have hby := Bd.bytes
  have hml : cc.maxLocals = 6 := hml0
  have hown : s.vm.findClass "java/lang/String" = some mm.cls := findClass_of_methodNamed Bd.named
  have hnm := (name_of_methodNamed Bd.named Bd.method).1
  have X0 : Stand pg l ee ({ frames := 1, cells := 4, slots := 8, locals := 12 } : Room) s mm #[(.ref a), (.ref ch), (.int (0 : Int32)), (.int (0 : Int32)), .null] below meth cc s₁ [] 0 0 := Stand.of_body Bd
  have e0 : s₁.heap = h0 := by rw [← hh, Bd.state]; rfl
  have N0 := Fr.nil n0
  have K0 : Keep h0 h0 ([a] : List Addr) := Keep.refl _ _
  have XW : Stand pg l ee ({ frames := 1, cells := 4, slots := 8, locals := 12 } : Room) (s.setVm s.vm) mm #[(.ref a), (.ref ch), (.int (0 : Int32)), (.int (0 : Int32)), .null] below meth cc s₁ [] 0 0 := X0
  have hS0 : s.Since s.vm 0 := (State.WarmedH.refl s).since 0
  have CR0 : CHr Z own_EL s.vm h0 s.vm h0 := CHr.refl HC0
  have hEL := own_hEL hw
  have pre0 : ∀ tg_, Steps pg.tables ee below (s₁.setTop (mkF mm 0 #[.val (.ref a), .val (.ref ch), .val (.int (0 : Int32)), .val (.int (0 : Int32)), .val .null, .unset] [])) tg_ → Steps pg.tables ee below (s₁.setTop (entryFrame mm #[(.ref a), (.ref ch), (.int (0 : Int32)), (.int (0 : Int32)), .null] 6)) tg_ := fun tg_ k_ => castTop (ef_3_484 mm a ch (0 : Int32) (0 : Int32)) k_
  obtain ⟨T1, X1, e1, st1⟩ := initO XW hx hZ hown (own_h hw 15 rfl) (own_h hw 16 rfl) (own_h hw 17 rfl) e0 (g := (mkF mm 1 #[.val (.ref a), .val (.ref ch), .val (.int (0 : Int32)), .val (.int (0 : Int32)), .val .null, .unset] [(.ref a)])) rfl (by rw [hml]; rfl) rfl (hb hby d3_1) (by decide) (W := 0) (by show 2 * 0 + _ ≤ _; exact Nat.le_of_eq rfl) (by decide)
  have pre2 := fun tg_ (k_ : Steps pg.tables ee below (T1.setTop (mkF mm 9 #[.val (.ref a), .val (.ref ch), .val (.int (0 : Int32)), .val (.int (0 : Int32)), .val .null, .unset] [(.ref a)])) tg_) => pre0 tg_ (by
    show Steps pg.tables ee below (s₁.setTop (mkF mm 0 #[.val (.ref a), .val (.ref ch), .val (.int (0 : Int32)), .val (.int (0 : Int32)), .val .null, .unset] [])) _
    refine XS.aloadN XW.here hx rfl (hb hby d3_0) rfl rfl ?_
    refine st1 _ ?_
    refine XS.iloadN X1.here hx rfl (hb hby d3_4) rfl ?_
    refine XS.ifNo X1.here hx rfl (hb hby d3_5) rfl ((if0 _ _).trans (teq (by decide : (0 : Int32) = (0 : Int32))).2) ?_
    refine XS.aloadN X1.here hx rfl (hb hby d3_8) rfl rfl ?_
    exact k_)
  obtain ⟨sa3, T3, h3, k3, sb3, sk3, X3, e3, E3, hS3, hk3, hZ, hown, Es3, Fc3, Fv3, Va3, lt3, lu3, CQ3, -, hne3, st3⟩ := ldcCH (EL := own_EL) (vs := []) (z := (0 : Int32)) (n := 0) X1 hx hZ hown (own_h hw 18 rfl) (own_wS hw) e1 hS0 (Nat.zero_le _) hEL (List.mem_of_getElem? (i := 1) rfl) CR0.1 (by decide +kernel) (by decide) rfl (g := (mkF mm 9 #[.val (.ref a), .val (.ref ch), .val (.int (0 : Int32)), .val (.int (0 : Int32)), .val .null, .unset] [(.ref a)])) rfl (hb hby d3_9) (by decide +kernel) (by decide) (by decide) (by decide)
  have CR3 := CR0.trans CQ3
  have O3 := O0.ext E3
  have KK3 := K0.ext E3
  obtain ⟨T4, X4, e4, st4⟩ := getF X3 hx hZ hown (host := "") (Or.inl (own_h hw 24 rfl)) Via.refl e3 Fv3 (g := (mkF mm 11 #[.val (.ref a), .val (.ref ch), .val (.int (0 : Int32)), .val (.int (0 : Int32)), .val .null, .unset] [(.ref sa3), (.ref a)])) rfl rfl (hb hby d3_11)
  have Sa := own_safe (EL := own_EL) hZ.alike (F_value_a.ext E3) (E_a.ext E3)
  obtain ⟨T5, h5, X5, e5, W5, st5⟩ := putF X4 hx hZ hown (host := "") (Or.inl (own_h hw 24 rfl)) Via.refl e4 (F_value_a.ext E3) (E_a.ext E3) (Or.inr ⟨(own_h hw 20 rfl), rfl, hnm⟩) (own_h hw 6 rfl) (ty := (.array .byte)) (by decide) rfl rfl (g := (mkF mm 14 #[.val (.ref a), .val (.ref ch), .val (.int (0 : Int32)), .val (.int (0 : Int32)), .val .null, .unset] [(.ref sb3), (.ref a)])) rfl rfl (hb hby d3_14)
  have Fw5 : Fld Z h5 a "java/lang/String" "value" "[B" (.ref sb3) := (F_value_a.ext E3).same W5
  have CR5 := CR3.trans (CHr.wr W5 Sa CR3.1)
  have Sf5 := Safe.wr W5 Sa CR3.1 Sa
  have N5 := Fr.snoc X5 N0 g_a
  have O5 := O3.wr W5 g_a
  have KK5 := KK3.wr W5 (Or.inl (by simp))
  have hk5 := Nat.le_trans hk3 (Nat.le_of_eq W5.size.symm)
  obtain ⟨LL6, XL6, NL6⟩ := own_loose X5 N5
  have pre7 := fun tg_ (k_ : Steps pg.tables ee below (T5.setTop (mkF mm 18 #[.val (.ref a), .val (.ref ch), .val (.int (0 : Int32)), .val (.int (0 : Int32)), .val .null, .unset] [(.ref a)])) tg_) => pre2 tg_ (by
    show Steps pg.tables ee below (T1.setTop (mkF mm 9 #[.val (.ref a), .val (.ref ch), .val (.int (0 : Int32)), .val (.int (0 : Int32)), .val .null, .unset] [(.ref a)])) _
    refine st3 _ ?_
    refine st4 _ ?_
    refine st5 _ ?_
    refine XS.aloadN X5.here hx rfl (hb hby d3_17) rfl rfl ?_
    exact k_)
  obtain ⟨sa8, T8, h8, k8, sb8, sk8, X8, e8, E8, hS8, hk8, hZ, hown, Es8, Fc8, Fv8, Va8, lt8, lu8, CQ8, -, hne8, st8⟩ := ldcCH (EL := own_EL) (vs := []) (z := (0 : Int32)) (n := 0) XL6 hx hZ hown (own_h hw 18 rfl) (own_wS hw) e5 hS3 hk5 hEL (List.mem_of_getElem? (i := 1) rfl) CR5.1 (by decide +kernel) (by decide) rfl (g := (mkF mm 18 #[.val (.ref a), .val (.ref ch), .val (.int (0 : Int32)), .val (.int (0 : Int32)), .val .null, .unset] [(.ref a)])) rfl (hb hby d3_18) (by decide +kernel) (by decide) (by decide) (by decide)
  have Sg8 := CHr.safe CQ8 ((E_a.ext E3).wr W5).lt Sf5
  have CR8 := CR5.trans CQ8
  have O8 := O5.ext E8
  have KK8 := KK5.ext E8
  obtain ⟨T9, X9, e9, st9⟩ := getF X8 hx hZ hown (host := "") (Or.inl (own_h hw 25 rfl)) Via.refl e8 Fc8 (g := (mkF mm 20 #[.val (.ref a), .val (.ref ch), .val (.int (0 : Int32)), .val (.int (0 : Int32)), .val .null, .unset] [(.ref sa8), (.ref a)])) rfl rfl (hb hby d3_20)
  obtain ⟨T10, h10, X10, e10, W10, st10⟩ := putFN X9 hx hZ hown (own_h hw 25 rfl) Via.refl e9 (((F_coder_a.ext E3).other W5 (Or.inr (slot_ne (Or.inr (own_h hw 21 rfl)) (Or.inr (own_h hw 20 rfl)) (by decide) (t := .byte) (t' := (.array .byte)) (by decide) (by decide)))).ext E8) (((E_a.ext E3).wr W5).ext E8) (Or.inr ⟨(own_h hw 21 rfl), rfl, hnm⟩) (own_h hw 6 rfl) (ty := .byte) (v' := (.int (0 : Int32))) (by decide) rfl (by decide) (g := (mkF mm 23 #[.val (.ref a), .val (.ref ch), .val (.int (0 : Int32)), .val (.int (0 : Int32)), .val .null, .unset] [(.int (0 : Int32)), (.ref a)])) rfl rfl (hb hby d3_23)
  have Fw10 : Fld Z h10 a "java/lang/String" "coder" "B" (.int (0 : Int32)) := (((F_coder_a.ext E3).other W5 (Or.inr (slot_ne (Or.inr (own_h hw 21 rfl)) (Or.inr (own_h hw 20 rfl)) (by decide) (t := .byte) (t' := (.array .byte)) (by decide) (by decide)))).ext E8).same W10
  have CR10 := CR8.trans (CHr.wr W10 Sg8 CR8.1)
  have Sf10 := Safe.wr W10 Sg8 CR8.1 Sg8
  have N10 := Fr.snoc X10 NL6 g_a
  have O10 := O8.wr W10 g_a
  have KK10 := KK8.wr W10 (Or.inl (by simp))
  have hk10 := Nat.le_trans hk8 (Nat.le_of_eq W10.size.symm)
  obtain ⟨fs, hr, hrun, hended, hRW⟩ := X10.leaveW hS8 (by rw [e10]; exact hk10) (v := none) (fun _ => rfl)
  refine ⟨_, _, pre7 _ ?_, hrun, hended, _, _, rfl, ?_, ?_, (own_rmono hRW (by decide) (by decide))⟩
  · show Steps pg.tables ee below (T5.setTop (mkF mm 18 #[.val (.ref a), .val (.ref ch), .val (.int (0 : Int32)), .val (.int (0 : Int32)), .val .null, .unset] [(.ref a)])) _
    refine st8 _ ?_
    show Steps pg.tables ee below (T8.setTop (mkF mm 20 #[.val (.ref a), .val (.ref ch), .val (.int (0 : Int32)), .val (.int (0 : Int32)), .val .null, .unset] [(.ref sa8), (.ref a)])) _
    refine st9 _ ?_
    refine st10 _ ?_
    exact X10.returnOut hx Bd.returns (hb hby d3_26) hr
  · show QrmV0 Z a ch h0 n0 _ T10.heap _
    rw [e10]
    exact ⟨rfl, N10, KK10, ((((E_a.ext E3).wr W5).ext E8).wr W10), _, _, ((Fw5.ext E8).other W10 (Or.inr (slot_ne (Or.inr (own_h hw 20 rfl)) (Or.inr (own_h hw 21 rfl)) (by decide) (t := (.array .byte)) (t' := .byte) (by decide) (by decide)))), Fw10, (((Va3.other W5 ((hne3 _ Sa).2.symm)).ext E8).other W10 ((hne3 _ Sa).2.symm))⟩
  · show CHr Z own_EL s.vm s.heap T10.vm T10.heap
    rw [hh, e10]
    exact CR10.trans (CHv.at X10 hZ hEL CR10.1)
theorem own_rebase {p : Program} {l : Launch} {e : Env} {R : Room} {s : State} {v0 v1 : Vm} {m : MethodId} {args : Array Value} {below : List Frame} {meth : Method} {c : Code} {T : State} {locs : List Loc} {cells slots : Nat} (X : Stand p l e R ((s.setVm v0).setVm v1) m args below meth c T locs cells slots) : Stand p l e R (s.setVm v1) m args below meth c T locs cells slots := X
def QrmC0 (Z : State) (a : Addr) (ch : Addr) (kc : ClassId) (h0 : Heap) (n0 : Nat) (v : Option Value) (h : Heap) (L : List Loc) : Prop := v = none ∧ Fr n0 L ∧ Keep h0 h [a] ∧ own_S0 Z h a
set_option maxRecDepth 65536 in
set_option maxHeartbeats 40000000 in
theorem rmC0 (l : Launch) (Z : State) (a0 : Array Value) (hw : ∀ d ∈ tables_1, d.before a0 Z = true) (ws : List Jvm.Cond) (a : Addr) (ch : Addr) (kc : ClassId) (h0 : Heap) (n0 : Nat) (O0 : Old Z n0 h0) (E_a : Exa Z h0 a "java/lang/String") (F_value_a : Fld Z h0 a "java/lang/String" "value" "[B" .null) (F_coder_a : Fld Z h0 a "java/lang/String" "coder" "B" (.int (0 : Int32))) (g_a : n0 ≤ a) (Vc : Arv Z h0 ch kc .char (0 : Int32) [] (.int (0 : Int32))) :
    MetFree l (⟨"java/lang/String", "<init>", "([C)V"⟩ : MethodName) (head1 (Jvm.Cond.code (⟨"java/lang/String", "<init>", "([C)V"⟩ : MethodName) jdk_42_method_3_code 2 none :: ws) ({ frames := 2, cells := 4, slots := 8, locals := 29 } : Room)) (fun a_ U_ => a_ = #[(.ref a), (.ref ch)] ∧ Z.Warmed39 U_.vm ∧ U_.heap = h0 ∧ CHv Z own_EL U_.vm h0) (fun _ _ _ _ _ => True) (fun _ U_ o_ U'_ => ∃ v_ L_, o_ = .returned v_ ∧ QrmC0 Z a ch kc h0 n0 v_ U'_.heap L_ ∧ CHr Z own_EL U_.vm U_.heap U'_.vm U'_.heap ∧ ReturnedEndW U_ o_ U'_ L_ ({ frames := 2, cells := 4, slots := 8, locals := 29 } : Room).cells ({ frames := 2, cells := 4, slots := 8, locals := 29 } : Room).slots) := by
  refine MetFree.of_bodySF (plainFor_of_name pn_18) hisR ?_
  intro pg ee s mm args below meth cc s₁ Bd hml0 hP hK
  obtain ⟨rfl, hZ, hh, HC0⟩ := hP
  have hx := Bd.exec
  have hby := Bd.bytes
  have hml : cc.maxLocals = 2 := hml0
  have hown : s.vm.findClass "java/lang/String" = some mm.cls := findClass_of_methodNamed Bd.named
  have hnm := (name_of_methodNamed Bd.named Bd.method).1
  have X0 : Stand pg l ee ({ frames := 2, cells := 4, slots := 8, locals := 29 } : Room) s mm #[(.ref a), (.ref ch)] below meth cc s₁ [] 0 0 := Stand.of_body Bd
  have e0 : s₁.heap = h0 := by rw [← hh, Bd.state]; rfl
  have N0 := Fr.nil n0
  have K0 : Keep h0 h0 ([a] : List Addr) := Keep.refl _ _
  have XW : Stand pg l ee ({ frames := 2, cells := 4, slots := 8, locals := 29 } : Room) (s.setVm s.vm) mm #[(.ref a), (.ref ch)] below meth cc s₁ [] 0 0 := X0
  have hS0 : s.Since s.vm 0 := (State.WarmedH.refl s).since 0
  have CR0 : CHr Z own_EL s.vm h0 s.vm h0 := CHr.refl HC0
  have hEL := own_hEL hw
  have pre0 : ∀ tg_, Steps pg.tables ee below (s₁.setTop (mkF mm 0 #[.val (.ref a), .val (.ref ch)] [])) tg_ → Steps pg.tables ee below (s₁.setTop (entryFrame mm #[(.ref a), (.ref ch)] 2)) tg_ := fun tg_ k_ => castTop (ef_2_494 mm a ch) k_
  obtain ⟨cl1, Ar1, qk1, Sz1, Nn1, Hh1, Gg1⟩ := id Vc
  have pre2 := fun tg_ (k_ : Steps pg.tables ee below (s₁.setTop (mkF mm 6 #[.val (.ref a), .val (.ref ch)] [.null, (.int (0 : Int32)), (.int (0 : Int32)), (.ref ch), (.ref a)])) tg_) => pre0 tg_ (by
    show Steps pg.tables ee below (s₁.setTop (mkF mm 0 #[.val (.ref a), .val (.ref ch)] [])) _
    refine XS.aloadN XW.here hx rfl (hb hby d2_0) rfl rfl ?_
    refine XS.aloadN XW.here hx rfl (hb hby d2_1) rfl rfl ?_
    refine XS.iconst XW.here hx rfl (hb hby d2_2) ?_
    refine XS.aloadN XW.here hx rfl (hb hby d2_3) rfl rfl ?_
    refine XW.arraylength hx (by rw [e0]; exact Ar1.1) (State.isArrayOf_alike hZ.alike Ar1.2.1) (g := (mkF mm 4 #[.val (.ref a), .val (.ref ch)] [(.ref ch), (.int (0 : Int32)), (.ref ch), (.ref a)])) rfl rfl (hb hby d2_4) _ ?_
    rw [len_of Sz1 Nn1]
    refine XS.aconstNull XW.here hx rfl (hb hby d2_5) ?_
    exact k_)
  obtain ⟨_, _, ⟨T3, L3, k3, n3⟩, -, X3, hs3, hgr3, ⟨Lc3, hQ3, l3, y3, z3, CQ3⟩, st3⟩ := XW.specialBackS hx (y := (⟨"java/lang/String", "<init>", "([CIILjava/lang/Void;)V"⟩ : MethodName)) rfl hown (mvT hZ (own_h hw 11 rfl)) (mvT hZ (own_h hw 12 rfl)) (mvT hZ (own_h hw 14 rfl)) (by decide) (backOfSH (W := 0) (rmV0 l Z a0 hw [] a ch h0 n0 O0 E_a F_value_a F_coder_a g_a) hZ (own_h hw 14 rfl) (own_h hw 7 rfl) (by decide) (by decide) hEL CR0.1) (g := (mkF mm 6 #[.val (.ref a), .val (.ref ch)] [.null, (.int (0 : Int32)), (.int (0 : Int32)), (.ref ch), (.ref a)])) rfl (by rw [hml]; rfl) (Steps.refl _) (a := a) (argsL := [(.ref ch), (.int (0 : Int32)), (.int (0 : Int32)), .null]) (rest := []) (lenOf pd_492 rfl) rfl (Nat.le_of_eq rfl) (hb hby d2_6) (fun _ _ => ⟨rfl, e0, (by decide : 0 + 4 ≤ _), (by decide : 0 + 8 ≤ _)⟩)
  dsimp only [Pt.U, Pt.locs, Pt.cells, Pt.slots] at X3 l3 y3 z3 st3 hQ3 hs3 hgr3 CQ3
  subst l3 y3 z3
  replace X3 := own_rebase (s := s) X3
  obtain ⟨rfl, N3q, K3, Sp3⟩ := hQ3
  have hS3 : s.Since T3.vm T3.heap.size := State.Since.trans hS0 hs3 (Nat.le_trans (by rw [e0]; exact (Nat.zero_le _)) hgr3)
  have hown : (s.setVm T3.vm).vm.findClass "java/lang/String" = some mm.cls := by rw [show (s.setVm T3.vm).vm = T3.vm from rfl, hs3.1.alike.findClass]; exact hown
  have hZ : Z.Warmed39 (s.setVm T3.vm).vm := State.Warmed39.trans hZ hs3.1
  have CR3 := CR0.trans CQ3
  have O3 := O0.keep K3 (allS g_a all0)
  have KK3 := K0.trans K3 (allS (Or.inl (by simp)) all0)
  have N3 := Fr.app N0 N3q
  obtain ⟨fs, hr, hrun, hended, hRW⟩ := X3.leaveW hS3 (Nat.le_refl _) (v := none) (fun _ => rfl)
  refine ⟨_, _, pre2 _ ?_, hrun, hended, _, _, rfl, ?_, ?_, (own_rmono hRW (by decide) (by decide))⟩
  · refine st3.trans ?_
    exact X3.returnOut hx Bd.returns (hb hby d2_9) hr
  · show QrmC0 Z a ch kc h0 n0 _ T3.heap _
    exact ⟨rfl, N3, KK3, Sp3⟩
  · show CHr Z own_EL s.vm s.heap T3.vm T3.heap
    rw [hh]
    exact CR3.trans (CHv.at X3 hZ hEL CR3.1)
def own_k2 (x y : Int32) : Int32 := if own_t x = (0 : Int32) then 0 else own_t y
def own_k3 (x y z : Int32) : Int32 := if own_t x = (0 : Int32) then 0 else own_k2 y z
theorem own_t1 {c : Int32} (h : ¬ (own_t c = (0 : Int32))) : own_t c = 1 := by
  unfold own_t at *
  split at h
  · rename_i q; exact if_pos q
  · exact absurd rfl h
theorem d5_0 : decode prog_14_method_3_code 0 = .ok (.iconst 0, 1) := by decide +kernel
theorem d5_1 : decode prog_14_method_3_code 1 = .ok (.istore_n 1, 1) := by decide +kernel
theorem d5_2 : decode prog_14_method_3_code 2 = .ok (.iload_n 1, 1) := by decide +kernel
theorem d5_3 : decode prog_14_method_3_code 3 = .ok (.aload_n 0, 1) := by decide +kernel
theorem d5_4 : decode prog_14_method_3_code 4 = .ok (.invokevirtual 50, 3) := by decide +kernel
theorem d5_7 : decode prog_14_method_3_code 7 = .ok (.if_icmp .ge 72, 3) := by decide +kernel
theorem d5_79 : decode prog_14_method_3_code 79 = .ok (.aload_n 0, 1) := by decide +kernel
theorem d5_80 : decode prog_14_method_3_code 80 = .ok (.invokevirtual 70, 3) := by decide +kernel
theorem d5_83 : decode prog_14_method_3_code 83 = .ok (.ifCond .ne 7, 3) := by decide +kernel
theorem d5_90 : decode prog_14_method_3_code 90 = .ok (.iconst 0, 1) := by decide +kernel
theorem d5_91 : decode prog_14_method_3_code 91 = .ok (.ireturn, 1) := by decide +kernel
theorem pn_518 : plainName "com/example/waxwing/waxwing/http/Head" = true := by first | (simp [plainName, overriddenIn]; done) | decide +kernel
theorem ef_5_519 (m : MethodId) (x0 : Addr) : entryFrame m #[(.ref x0)] 4 = mkF m 0 #[.val (.ref x0), .unset, .unset, .unset] [] := by first | (simp [entryFrame, mkF, argsToLocals, Value.category]; done) | rfl
def QrmTk0 (Z : State) (a : Addr) (cs : Int32) (fm : Value) (h0 : Heap) (n0 : Nat) (v : Option Value) (h : Heap) (L : List Loc) : Prop := v = some (.int (0 : Int32)) ∧ Fr n0 L ∧ Keep h0 h []
set_option maxRecDepth 65536 in
set_option maxHeartbeats 40000000 in
theorem rmTk0 (l : Launch) (Z : State) (a0 : Array Value) (hw : ∀ d ∈ tables_1, d.before a0 Z = true) (ws : List Jvm.Cond) (a : Addr) (cs : Int32) (fm : Value) (h0 : Heap) (n0 : Nat) (O0 : Old Z n0 h0) (Sa : own_S0 Z h0 a) (hC : own_C Z cs) (hG : own_G Z) (hF : own_F Z fm) :
    MetFree l (⟨"com/example/waxwing/waxwing/http/Head", "token", "(Ljava/lang/String;)Z"⟩ : MethodName) (head1 (Jvm.Cond.code (⟨"com/example/waxwing/waxwing/http/Head", "token", "(Ljava/lang/String;)Z"⟩ : MethodName) prog_14_method_3_code 4 (some .boolean) :: ws) ({ frames := 2, cells := 0, slots := 0, locals := 26 } : Room)) (fun a_ U_ => a_ = #[(.ref a)] ∧ Z.Warmed39 U_.vm ∧ U_.heap = h0 ∧ CHv Z own_EL U_.vm h0) (fun _ _ _ _ _ => True) (fun _ U_ o_ U'_ => ∃ v_ L_, o_ = .returned v_ ∧ QrmTk0 Z a cs fm h0 n0 v_ U'_.heap L_ ∧ CHr Z own_EL U_.vm U_.heap U'_.vm U'_.heap ∧ ReturnedEndW U_ o_ U'_ L_ ({ frames := 2, cells := 0, slots := 0, locals := 26 } : Room).cells ({ frames := 2, cells := 0, slots := 0, locals := 26 } : Room).slots) := by
  refine MetFree.of_bodySF (plainFor_of_name pn_518) hisR ?_
  intro pg ee s mm args below meth cc s₁ Bd hml0 hP hK
  obtain ⟨rfl, hZ, hh, HC0⟩ := hP
  have hx := Bd.exec
  have hby := Bd.bytes
  have hml : cc.maxLocals = 4 := hml0
  have hown : s.vm.findClass "com/example/waxwing/waxwing/http/Head" = some mm.cls := findClass_of_methodNamed Bd.named
  have hnm := (name_of_methodNamed Bd.named Bd.method).1
  have X0 : Stand pg l ee ({ frames := 2, cells := 0, slots := 0, locals := 26 } : Room) s mm #[(.ref a)] below meth cc s₁ [] 0 0 := Stand.of_body Bd
  have e0 : s₁.heap = h0 := by rw [← hh, Bd.state]; rfl
  have N0 := Fr.nil n0
  have K0 : Keep h0 h0 ([] : List Addr) := Keep.refl _ _
  have XW : Stand pg l ee ({ frames := 2, cells := 0, slots := 0, locals := 26 } : Room) (s.setVm s.vm) mm #[(.ref a)] below meth cc s₁ [] 0 0 := X0
  have hS0 : s.Since s.vm 0 := (State.WarmedH.refl s).since 0
  have CR0 : CHr Z own_EL s.vm h0 s.vm h0 := CHr.refl HC0
  have hEL := own_hEL hw
  have pre0 : ∀ tg_, Steps pg.tables ee below (s₁.setTop (mkF mm 0 #[.val (.ref a), .unset, .unset, .unset] [])) tg_ → Steps pg.tables ee below (s₁.setTop (entryFrame mm #[(.ref a)] 4)) tg_ := fun tg_ k_ => castTop (ef_5_519 mm a) k_
  obtain ⟨cq1, kq1, q1a, q1b, q1c⟩ := isOf hZ e0 Sa.1
  obtain ⟨_, _, ⟨T1, L1, k1, n1⟩, -, X1, ⟨Lc1, hQ1, l1, y1, z1⟩, st1⟩ := XW.virtualBack hx hown (mvT hZ (own_h hw 30 rfl)) (mvT hZ (own_h hw 31 rfl)) (notFace_of_selects (args := #[]) (mvT hZ (own_h hw 33 rfl))) (mvT hZ (own_h hw 33 rfl)) (mvT hZ (own_h hw 32 rfl)) (by decide) (backOf (W := 1) (rmLenS0 l Z a0 hw [] a  cs h0 n0 O0 Sa hC) hZ (own_h hw 34 rfl) (own_h hw 7 rfl) (by decide) (by decide)) q1a q1c (g := (mkF mm 4 #[.val (.ref a), .val (.int (0 : Int32)), .unset, .unset] [(.ref a), (.int (0 : Int32))])) rfl (by rw [hml]; rfl) (Steps.refl _) (argsL := []) (rest := [(.int (0 : Int32))]) (lenOf pd_214 rfl) rfl (Nat.le_of_eq rfl) (hb hby d5_4) (fun _ _ => ⟨rfl, e0, (by decide : 0 + 0 ≤ _), (by decide : 0 + 0 ≤ _)⟩)
  dsimp only [Pt.U, Pt.locs, Pt.cells, Pt.slots] at X1 l1 y1 z1 st1 hQ1
  subst l1 y1 z1
  obtain ⟨rfl, N1q, e1⟩ := hQ1
  have N1 := Fr.app N0 N1q
  obtain ⟨LL2, XL2, NL2⟩ := own_loose X1 N1
  obtain ⟨cq3, kq3, q3a, q3b, q3c⟩ := isOf hZ e1 Sa.1
  obtain ⟨_, _, ⟨T3, L3, k3, n3⟩, -, X3, ⟨Lc3, hQ3, l3, y3, z3⟩, st3⟩ := XL2.virtualBack hx hown (mvT hZ (own_h hw 41 rfl)) (mvT hZ (own_h hw 42 rfl)) (notFace_of_selects (args := #[]) (mvT hZ (own_h hw 44 rfl))) (mvT hZ (own_h hw 44 rfl)) (mvT hZ (own_h hw 43 rfl)) (by decide) (backOf (W := 0) (rmEmS0 l Z a0 hw [] a  h0 n0 O0 Sa) hZ (own_h hw 45 rfl) (own_h hw 7 rfl) (by decide) (by decide)) q3a q3c (g := (mkF mm 80 #[.val (.ref a), .val (.int (0 : Int32)), .unset, .unset] [(.ref a)])) rfl (by rw [hml]; rfl) (Steps.refl _) (argsL := []) (rest := []) (lenOf pd_112 rfl) rfl (Nat.le_of_eq rfl) (hb hby d5_80) (fun _ _ => ⟨rfl, e1, (by decide : 0 + 0 ≤ _), (by decide : 0 + 0 ≤ _)⟩)
  dsimp only [Pt.U, Pt.locs, Pt.cells, Pt.slots] at X3 l3 y3 z3 st3 hQ3
  subst l3 y3 z3
  obtain ⟨rfl, N3q, e3⟩ := hQ3
  have N3 := Fr.app NL2 N3q
  obtain ⟨fs, hr, hrun, hended, hRW⟩ := X3.leaveW hS0 (by rw [e3]; exact (Nat.zero_le _)) (v := some (.int (0 : Int32))) (fun h => by rw [Bd.returns] at h; cases h)
  refine ⟨_, _, pre0 _ ?_, hrun, hended, _, _, rfl, ?_, ?_, (own_rmono hRW (by decide) (by decide))⟩
  · show Steps pg.tables ee below (s₁.setTop (mkF mm 0 #[.val (.ref a), .unset, .unset, .unset] [])) _
    refine XS.iconst XW.here hx rfl (hb hby d5_0) ?_
    refine XS.istoreN XW.here hx rfl (hb hby d5_1) rfl (l' := #[.val (.ref a), .val (.int (0 : Int32)), .unset, .unset]) rfl ?_
    refine XS.iloadN XW.here hx rfl (hb hby d5_2) rfl ?_
    refine XS.aloadN XW.here hx rfl (hb hby d5_3) rfl rfl ?_
    refine st1.trans ?_
    refine XS.icmpYes X1.here hx rfl (pc0 := 7) (pc' := 79) rfl (hb hby d5_7) rfl (flt (by decide : ¬ ((0 : Int32) < (0 : Int32)))).2.1 (by decide) (by decide) ?_
    refine XS.aloadN X1.here hx rfl (hb hby d5_79) rfl rfl ?_
    refine st3.trans ?_
    show Steps pg.tables ee below (T3.setTop (mkF mm 83 #[.val (.ref a), .val (.int (0 : Int32)), .unset, .unset] [(.int (1 : Int32))])) _
    refine XS.ifYes X3.here hx rfl (pc0 := 83) (pc' := 90) rfl (hb hby d5_83) rfl ((if0 _ _).trans (feq (by decide : ¬ ((1 : Int32) = (0 : Int32)))).2) (by decide) (by decide) ?_
    refine XS.iconst X3.here hx rfl (hb hby d5_90) ?_
    exact retN X3 hx (t := .boolean) Bd.returns (by simp) (hb hby d5_91) hr
  · show QrmTk0 Z a cs fm h0 n0 _ T3.heap _
    rw [e3]
    exact ⟨rfl, N3, K0⟩
  · show CHr Z own_EL s.vm s.heap T3.vm T3.heap
    rw [hh, e3]
    exact CR0.trans (CHv.at X3 hZ hEL CR0.1)
theorem d5_10 : decode prog_14_method_3_code 10 = .ok (.aload_n 0, 1) := by decide +kernel
theorem d5_11 : decode prog_14_method_3_code 11 = .ok (.iload_n 1, 1) := by decide +kernel
theorem d5_12 : decode prog_14_method_3_code 12 = .ok (.invokevirtual 54, 3) := by decide +kernel
theorem pd_523 : parseMethodDescriptor "(I)C" = some ⟨[.int], some .char⟩ := by decide +kernel
theorem d5_15 : decode prog_14_method_3_code 15 = .ok (.istore_n 2, 1) := by decide +kernel
theorem d5_58 : decode prog_14_method_3_code 58 = .ok (.iload_n 3, 1) := by decide +kernel
theorem d5_59 : decode prog_14_method_3_code 59 = .ok (.ifCond .ne 14, 3) := by decide +kernel
theorem d5_62 : decode prog_14_method_3_code 62 = .ok (.ldc 68, 2) := by decide +kernel
theorem d5_64 : decode prog_14_method_3_code 64 = .ok (.iload_n 2, 1) := by decide +kernel
theorem d5_65 : decode prog_14_method_3_code 65 = .ok (.invokevirtual 23, 3) := by decide +kernel
theorem d5_68 : decode prog_14_method_3_code 68 = .ok (.ifCond .ge 5, 3) := by decide +kernel
theorem d5_71 : decode prog_14_method_3_code 71 = .ok (.iconst 0, 1) := by decide +kernel
theorem d5_72 : decode prog_14_method_3_code 72 = .ok (.ireturn, 1) := by decide +kernel
theorem d5_73 : decode prog_14_method_3_code 73 = .ok (.iinc 1 1, 3) := by decide +kernel
theorem d5_76 : decode prog_14_method_3_code 76 = .ok (.goto (-74), 3) := by decide +kernel
theorem d5_86 : decode prog_14_method_3_code 86 = .ok (.iconst 1, 1) := by decide +kernel
theorem d5_87 : decode prog_14_method_3_code 87 = .ok (.goto 4, 3) := by decide +kernel
def QrmTk1 (Z : State) (a : Addr) (x0 : Int32) (cs : Int32) (fm : Value) (h0 : Heap) (n0 : Nat) (v : Option Value) (h : Heap) (L : List Loc) : Prop := v = some (.int (own_t x0)) ∧ Fr n0 L ∧ Keep h0 h []
set_option maxRecDepth 65536 in
set_option maxHeartbeats 40000000 in
theorem rmTk1 (l : Launch) (Z : State) (a0 : Array Value) (hw : ∀ d ∈ tables_1, d.before a0 Z = true) (ws : List Jvm.Cond) (a : Addr) (x0 : Int32) (cs : Int32) (fm : Value) (h0 : Heap) (n0 : Nat) (O0 : Old Z n0 h0) (Sa : own_S1 Z h0 a x0) (hC : own_C Z cs) (hG : own_G Z) (hF : own_F Z fm) (ha0 : ¬ (x0 < (0 : Int32))) (hb0 : ¬ ((65535 : Int32) < x0)) :
    MetFree l (⟨"com/example/waxwing/waxwing/http/Head", "token", "(Ljava/lang/String;)Z"⟩ : MethodName) (head1 (Jvm.Cond.code (⟨"com/example/waxwing/waxwing/http/Head", "token", "(Ljava/lang/String;)Z"⟩ : MethodName) prog_14_method_3_code 4 (some .boolean) :: ws) ({ frames := 5, cells := 2, slots := 64, locals := 66 } : Room)) (fun a_ U_ => a_ = #[(.ref a)] ∧ Z.Warmed39 U_.vm ∧ U_.heap = h0 ∧ CHv Z own_EL U_.vm h0) (fun _ _ _ _ _ => True) (fun _ U_ o_ U'_ => ∃ v_ L_, o_ = .returned v_ ∧ QrmTk1 Z a x0 cs fm h0 n0 v_ U'_.heap L_ ∧ CHr Z own_EL U_.vm U_.heap U'_.vm U'_.heap ∧ ReturnedEndW U_ o_ U'_ L_ ({ frames := 5, cells := 2, slots := 64, locals := 66 } : Room).cells ({ frames := 5, cells := 2, slots := 64, locals := 66 } : Room).slots) := by
  refine MetFree.of_bodySF (plainFor_of_name pn_518) hisR ?_
  intro pg ee s mm args below meth cc s₁ Bd hml0 hP hK
  obtain ⟨rfl, hZ, hh, HC0⟩ := hP
  have hx := Bd.exec
  have hby := Bd.bytes
  have hml : cc.maxLocals = 4 := hml0
  have hown : s.vm.findClass "com/example/waxwing/waxwing/http/Head" = some mm.cls := findClass_of_methodNamed Bd.named
  have hnm := (name_of_methodNamed Bd.named Bd.method).1
  have X0 : Stand pg l ee ({ frames := 5, cells := 2, slots := 64, locals := 66 } : Room) s mm #[(.ref a)] below meth cc s₁ [] 0 0 := Stand.of_body Bd
  have e0 : s₁.heap = h0 := by rw [← hh, Bd.state]; rfl
  have N0 := Fr.nil n0
  have K0 : Keep h0 h0 ([] : List Addr) := Keep.refl _ _
  have XW : Stand pg l ee ({ frames := 5, cells := 2, slots := 64, locals := 66 } : Room) (s.setVm s.vm) mm #[(.ref a)] below meth cc s₁ [] 0 0 := X0
  have hS0 : s.Since s.vm 0 := (State.WarmedH.refl s).since 0
  have CR0 : CHr Z own_EL s.vm h0 s.vm h0 := CHr.refl HC0
  have hEL := own_hEL hw
  have pre0 : ∀ tg_, Steps pg.tables ee below (s₁.setTop (mkF mm 0 #[.val (.ref a), .unset, .unset, .unset] [])) tg_ → Steps pg.tables ee below (s₁.setTop (entryFrame mm #[(.ref a)] 4)) tg_ := fun tg_ k_ => castTop (ef_5_519 mm a) k_
  obtain ⟨cq1, kq1, q1a, q1b, q1c⟩ := isOf hZ e0 Sa.1
  obtain ⟨_, _, ⟨T1, L1, k1, n1⟩, -, X1, ⟨Lc1, hQ1, l1, y1, z1⟩, st1⟩ := XW.virtualBack hx hown (mvT hZ (own_h hw 30 rfl)) (mvT hZ (own_h hw 31 rfl)) (notFace_of_selects (args := #[]) (mvT hZ (own_h hw 33 rfl))) (mvT hZ (own_h hw 33 rfl)) (mvT hZ (own_h hw 32 rfl)) (by decide) (backOf (W := 1) (rmLenS1 l Z a0 hw [] a x0 cs h0 n0 O0 Sa hC) hZ (own_h hw 34 rfl) (own_h hw 7 rfl) (by decide) (by decide)) q1a q1c (g := (mkF mm 4 #[.val (.ref a), .val (.int (0 : Int32)), .unset, .unset] [(.ref a), (.int (0 : Int32))])) rfl (by rw [hml]; rfl) (Steps.refl _) (argsL := []) (rest := [(.int (0 : Int32))]) (lenOf pd_214 rfl) rfl (Nat.le_of_eq rfl) (hb hby d5_4) (fun _ _ => ⟨rfl, e0, (by decide : 0 + 0 ≤ _), (by decide : 0 + 0 ≤ _)⟩)
  dsimp only [Pt.U, Pt.locs, Pt.cells, Pt.slots] at X1 l1 y1 z1 st1 hQ1
  subst l1 y1 z1
  obtain ⟨rfl, N1q, e1⟩ := hQ1
  have N1 := Fr.app N0 N1q
  obtain ⟨LL2, XL2, NL2⟩ := own_loose X1 N1
  obtain ⟨cq3, kq3, q3a, q3b, q3c⟩ := isOf hZ e1 Sa.1
  obtain ⟨_, _, ⟨T3, L3, k3, n3⟩, -, X3, ⟨Lc3, hQ3, l3, y3, z3⟩, st3⟩ := XL2.virtualBack hx hown (mvT hZ (own_h hw 59 rfl)) (mvT hZ (own_h hw 60 rfl)) (notFace_of_selects (args := #[]) (mvT hZ (own_h hw 62 rfl))) (mvT hZ (own_h hw 62 rfl)) (mvT hZ (own_h hw 61 rfl)) (by decide) (backOf (W := 0) (rmChS1_0 l Z a0 hw [] a x0 cs fm h0 n0 O0 Sa hC hG hF ha0 hb0) hZ (own_h hw 63 rfl) (own_h hw 7 rfl) (by decide) (by decide)) q3a q3c (g := (mkF mm 12 #[.val (.ref a), .val (.int (0 : Int32)), .unset, .unset] [(.int (0 : Int32)), (.ref a)])) rfl (by rw [hml]; rfl) (Steps.refl _) (argsL := [(.int (0 : Int32))]) (rest := []) (lenOf pd_523 rfl) rfl (Nat.le_of_eq rfl) (hb hby d5_12) (fun _ _ => ⟨rfl, e1, (by decide : 0 + 0 ≤ _), (by decide : 0 + 0 ≤ _)⟩)
  dsimp only [Pt.U, Pt.locs, Pt.cells, Pt.slots] at X3 l3 y3 z3 st3 hQ3
  subst l3 y3 z3
  obtain ⟨rfl, N3q, e3⟩ := hQ3
  have N3 := Fr.app NL2 N3q
  have pre4 := fun tg_ (k_ : Steps pg.tables ee below (T3.setTop (mkF mm 16 #[.val (.ref a), .val (.int (0 : Int32)), .val (.int x0), .unset] [])) tg_) => pre0 tg_ (by
    show Steps pg.tables ee below (s₁.setTop (mkF mm 0 #[.val (.ref a), .unset, .unset, .unset] [])) _
    refine XS.iconst XW.here hx rfl (hb hby d5_0) ?_
    refine XS.istoreN XW.here hx rfl (hb hby d5_1) rfl (l' := #[.val (.ref a), .val (.int (0 : Int32)), .unset, .unset]) rfl ?_
    refine XS.iloadN XW.here hx rfl (hb hby d5_2) rfl ?_
    refine XS.aloadN XW.here hx rfl (hb hby d5_3) rfl rfl ?_
    refine st1.trans ?_
    refine XS.icmpNo X1.here hx rfl (hb hby d5_7) rfl (tlt (by decide : (0 : Int32) < (1 : Int32))).2.1 ?_
    refine XS.aloadN X1.here hx rfl (hb hby d5_10) rfl rfl ?_
    refine XS.iloadN X1.here hx rfl (hb hby d5_11) rfl ?_
    show Steps pg.tables ee below (T1.setTop (mkF mm 12 #[.val (.ref a), .val (.int (0 : Int32)), .unset, .unset] [(.int (0 : Int32)), (.ref a)])) _
    refine st3.trans ?_
    refine XS.istoreN X3.here hx rfl (hb hby d5_15) rfl (l' := #[.val (.ref a), .val (.int (0 : Int32)), .val (.int x0), .unset]) rfl ?_
    exact k_)
  have pre5 : ∀ tg_, Steps pg.tables ee below (T3.setTop (mkF mm 58 #[.val (.ref a), .val (.int (0 : Int32)), .val (.int x0), .val (.int (own_al x0))] [])) tg_ → Steps pg.tables ee below (s₁.setTop (entryFrame mm #[(.ref a)] 4)) tg_ := fun tg_ k_ => pre4 tg_ (pcAlu X3 hx hby a (0 : Int32) x0 tg_ k_)
  have pre6 := fun tg_ (k_ : Steps pg.tables ee below (T3.setTop (mkF mm 59 #[.val (.ref a), .val (.int (0 : Int32)), .val (.int x0), .val (.int (own_al x0))] [(.int (own_al x0))])) tg_) => pre5 tg_ (by
    show Steps pg.tables ee below (T3.setTop (mkF mm 58 #[.val (.ref a), .val (.int (0 : Int32)), .val (.int x0), .val (.int (own_al x0))] [])) _
    refine XS.iloadN X3.here hx rfl (hb hby d5_58) rfl ?_
    exact k_)
  by_cases hc7 : (own_al x0) = (0 : Int32)
  · have pre8 := fun tg_ (k_ : Steps pg.tables ee below (T3.setTop (mkF mm 62 #[.val (.ref a), .val (.int (0 : Int32)), .val (.int x0), .val (.int (own_al x0))] [])) tg_) => pre6 tg_ (by
      show Steps pg.tables ee below (T3.setTop (mkF mm 59 #[.val (.ref a), .val (.int (0 : Int32)), .val (.int x0), .val (.int (own_al x0))] [(.int (own_al x0))])) _
      refine XS.ifNo X3.here hx rfl (hb hby d5_59) rfl ((if0 _ _).trans (teq hc7).2) ?_
      exact k_)
    obtain ⟨sa9, T9, h9, k9, sb9, sk9, X9, e9, E9, hS9, hk9, hZ, hown, Es9, Fc9, Fv9, Va9, lt9, lu9, CQ9, -, hne9, st9⟩ := ldcCH (EL := own_EL) (vs := [(.int (33 : Int32)), (.int (35 : Int32)), (.int (36 : Int32)), (.int (37 : Int32)), (.int (38 : Int32)), (.int (39 : Int32)), (.int (42 : Int32)), (.int (43 : Int32)), (.int (45 : Int32)), (.int (46 : Int32)), (.int (94 : Int32)), (.int (95 : Int32)), (.int (96 : Int32)), (.int (124 : Int32)), (.int (126 : Int32))]) (z := (15 : Int32)) (n := 60) X3 hx hZ hown (own_h hw 81 rfl) (own_wS hw) e3 hS0 (Nat.zero_le _) hEL (List.mem_of_getElem? (i := 0) rfl) CR0.1 (by decide +kernel) (by decide) rfl (g := (mkF mm 62 #[.val (.ref a), .val (.int (0 : Int32)), .val (.int x0), .val (.int (own_al x0))] [])) rfl (hb hby d5_62) (by decide +kernel) (by decide) (by decide) (by decide)
    have CR9 := CR0.trans CQ9
    have O9 := O0.ext E9
    have KK9 := K0.ext E9
    obtain ⟨LL10, XL10, NL10⟩ := own_loose X9 N3
    obtain ⟨cq11, kq11, q11a, q11b, q11c⟩ := isOf hZ e9 Es9
    obtain ⟨_, _, ⟨T11, L11, k11, n11⟩, -, X11, ⟨Lc11, hQ11, l11, y11, z11⟩, st11⟩ := XL10.virtualBack hx hown (mvT hZ (own_h hw 82 rfl)) (mvT hZ (own_h hw 83 rfl)) (notFace_of_selects (args := #[]) (mvT hZ (own_h hw 85 rfl))) (mvT hZ (own_h hw 85 rfl)) (mvT hZ (own_h hw 84 rfl)) (by decide) (backOf (W := 0) (rmX1 l Z a0 hw [] sa9 sb9 sk9 x0 cs h9 n0 O9 Fc9 Fv9 Va9 Es9 hC ha0) hZ (own_h hw 86 rfl) (own_h hw 7 rfl) (by decide) (by decide)) q11a q11c (g := (mkF mm 65 #[.val (.ref a), .val (.int (0 : Int32)), .val (.int x0), .val (.int (own_al x0))] [(.int x0), (.ref sa9)])) rfl (by rw [hml]; rfl) (Steps.refl _) (argsL := [(.int x0)]) (rest := []) (lenOf pd_375 rfl) rfl (Nat.le_of_eq rfl) (hb hby d5_65) (fun _ _ => ⟨rfl, e9, (by decide : 2 + 0 ≤ _), (by decide : 64 + 0 ≤ _)⟩)
    dsimp only [Pt.U, Pt.locs, Pt.cells, Pt.slots] at X11 l11 y11 z11 st11 hQ11
    subst l11 y11 z11
    obtain ⟨r11, rfl, N11q, e11, hr11⟩ := hQ11
    have N11 := Fr.app NL10 N11q
    have pre12 := fun tg_ (k_ : Steps pg.tables ee below (T11.setTop (mkF mm 68 #[.val (.ref a), .val (.int (0 : Int32)), .val (.int x0), .val (.int (own_al x0))] [(.int r11)])) tg_) => pre8 tg_ (by
      show Steps pg.tables ee below (T3.setTop (mkF mm 62 #[.val (.ref a), .val (.int (0 : Int32)), .val (.int x0), .val (.int (own_al x0))] [])) _
      refine st9 _ ?_
      refine XS.iloadN X9.here hx rfl (hb hby d5_64) rfl ?_
      refine st11.trans ?_
      exact k_)
    by_cases hc13 : r11 < (0 : Int32)
    · obtain ⟨fs, hr, hrun, hended, hRW⟩ := X11.leaveW hS9 (by rw [e11]; exact hk9) (v := some (.int (0 : Int32))) (fun h => by rw [Bd.returns] at h; cases h)
      refine ⟨_, _, pre12 _ ?_, hrun, hended, _, _, rfl, ?_, ?_, (own_rmono hRW (by decide) (by decide))⟩
      · show Steps pg.tables ee below (T11.setTop (mkF mm 68 #[.val (.ref a), .val (.int (0 : Int32)), .val (.int x0), .val (.int (own_al x0))] [(.int r11)])) _
        refine XS.ifNo X11.here hx rfl (hb hby d5_68) rfl ((if0 _ _).trans (tlt hc13).2.1) ?_
        refine XS.iconst X11.here hx rfl (hb hby d5_71) ?_
        exact retN X11 hx (t := .boolean) Bd.returns (by simp) (hb hby d5_72) hr
      · show QrmTk1 Z a x0 cs fm h0 n0 _ T11.heap _
        rw [e11]
        exact ⟨by have t0 := own_tn hc7 (hr11.mp hc13); simp [t0], N11, KK9⟩
      · show CHr Z own_EL s.vm s.heap T11.vm T11.heap
        rw [hh, e11]
        exact CR9.trans (CHv.at X11 hZ hEL CR9.1)
    · obtain ⟨LL14, XL14, NL14⟩ := own_loose X11 N11
      obtain ⟨cq15, kq15, q15a, q15b, q15c⟩ := isOf hZ e11 (Sa.1.ext E9)
      obtain ⟨_, _, ⟨T15, L15, k15, n15⟩, -, X15, ⟨Lc15, hQ15, l15, y15, z15⟩, st15⟩ := XL14.virtualBack hx hown (mvT hZ (own_h hw 30 rfl)) (mvT hZ (own_h hw 31 rfl)) (notFace_of_selects (args := #[]) (mvT hZ (own_h hw 33 rfl))) (mvT hZ (own_h hw 33 rfl)) (mvT hZ (own_h hw 32 rfl)) (by decide) (backOf (W := 1) (rmLenS1 l Z a0 hw [] a x0 cs h9 n0 O9 (Sa.ext E9) hC) hZ (own_h hw 34 rfl) (own_h hw 7 rfl) (by decide) (by decide)) q15a q15c (g := (mkF mm 4 #[.val (.ref a), .val (.int (1 : Int32)), .val (.int x0), .val (.int (own_al x0))] [(.ref a), (.int (1 : Int32))])) rfl (by rw [hml]; rfl) (Steps.refl _) (argsL := []) (rest := [(.int (1 : Int32))]) (lenOf pd_214 rfl) rfl (Nat.le_of_eq rfl) (hb hby d5_4) (fun _ _ => ⟨rfl, e11, (by decide : 2 + 0 ≤ _), (by decide : 64 + 0 ≤ _)⟩)
      dsimp only [Pt.U, Pt.locs, Pt.cells, Pt.slots] at X15 l15 y15 z15 st15 hQ15
      subst l15 y15 z15
      obtain ⟨rfl, N15q, e15⟩ := hQ15
      have N15 := Fr.app NL14 N15q
      obtain ⟨LL16, XL16, NL16⟩ := own_loose X15 N15
      obtain ⟨cq17, kq17, q17a, q17b, q17c⟩ := isOf hZ e15 (Sa.1.ext E9)
      obtain ⟨_, _, ⟨T17, L17, k17, n17⟩, -, X17, ⟨Lc17, hQ17, l17, y17, z17⟩, st17⟩ := XL16.virtualBack hx hown (mvT hZ (own_h hw 41 rfl)) (mvT hZ (own_h hw 42 rfl)) (notFace_of_selects (args := #[]) (mvT hZ (own_h hw 44 rfl))) (mvT hZ (own_h hw 44 rfl)) (mvT hZ (own_h hw 43 rfl)) (by decide) (backOf (W := 0) (rmEmS1 l Z a0 hw [] a x0 h9 n0 O9 (Sa.ext E9)) hZ (own_h hw 45 rfl) (own_h hw 7 rfl) (by decide) (by decide)) q17a q17c (g := (mkF mm 80 #[.val (.ref a), .val (.int (1 : Int32)), .val (.int x0), .val (.int (own_al x0))] [(.ref a)])) rfl (by rw [hml]; rfl) (Steps.refl _) (argsL := []) (rest := []) (lenOf pd_112 rfl) rfl (Nat.le_of_eq rfl) (hb hby d5_80) (fun _ _ => ⟨rfl, e15, (by decide : 2 + 0 ≤ _), (by decide : 64 + 0 ≤ _)⟩)
      dsimp only [Pt.U, Pt.locs, Pt.cells, Pt.slots] at X17 l17 y17 z17 st17 hQ17
      subst l17 y17 z17
      obtain ⟨rfl, N17q, e17⟩ := hQ17
      have N17 := Fr.app NL16 N17q
      obtain ⟨fs, hr, hrun, hended, hRW⟩ := X17.leaveW hS9 (by rw [e17]; exact hk9) (v := some (.int (1 : Int32))) (fun h => by rw [Bd.returns] at h; cases h)
      refine ⟨_, _, pre12 _ ?_, hrun, hended, _, _, rfl, ?_, ?_, (own_rmono hRW (by decide) (by decide))⟩
      · show Steps pg.tables ee below (T11.setTop (mkF mm 68 #[.val (.ref a), .val (.int (0 : Int32)), .val (.int x0), .val (.int (own_al x0))] [(.int r11)])) _
        refine XS.ifYes X11.here hx rfl (pc0 := 68) (pc' := 73) rfl (hb hby d5_68) rfl ((if0 _ _).trans (flt hc13).2.1) (by decide) (by decide) ?_
        refine XS.iinc X11.here hx rfl (hb hby d5_73) rfl (l' := #[.val (.ref a), .val (.int (1 : Int32)), .val (.int x0), .val (.int (own_al x0))]) rfl ?_
        refine XS.goto X11.here hx rfl (pc0 := 76) (pc' := 2) rfl (hb hby d5_76) (by decide) (by decide) ?_
        refine XS.iloadN X11.here hx rfl (hb hby d5_2) rfl ?_
        show Steps pg.tables ee below (T11.setTop (mkF mm 3 #[.val (.ref a), .val (.int (1 : Int32)), .val (.int x0), .val (.int (own_al x0))] [(.int (1 : Int32))])) _
        refine XS.aloadN X11.here hx rfl (hb hby d5_3) rfl rfl ?_
        refine st15.trans ?_
        refine XS.icmpYes X15.here hx rfl (pc0 := 7) (pc' := 79) rfl (hb hby d5_7) rfl (flt (by decide : ¬ ((1 : Int32) < (1 : Int32)))).2.1 (by decide) (by decide) ?_
        refine XS.aloadN X15.here hx rfl (hb hby d5_79) rfl rfl ?_
        refine st17.trans ?_
        refine XS.ifNo X17.here hx rfl (hb hby d5_83) rfl ((if0 _ _).trans (teq (by decide : (0 : Int32) = (0 : Int32))).2) ?_
        refine XS.iconst X17.here hx rfl (hb hby d5_86) ?_
        refine XS.goto X17.here hx rfl (pc0 := 87) (pc' := 91) rfl (hb hby d5_87) (by decide) (by decide) ?_
        show Steps pg.tables ee below (T17.setTop (mkF mm 91 #[.val (.ref a), .val (.int (1 : Int32)), .val (.int x0), .val (.int (own_al x0))] [(.int (1 : Int32))])) _
        exact retN X17 hx (t := .boolean) Bd.returns (by simp) (hb hby d5_91) hr
      · show QrmTk1 Z a x0 cs fm h0 n0 _ T17.heap _
        rw [e17]
        exact ⟨by have t0 := own_ts (Classical.byContradiction fun q => hc13 (hr11.mpr q)); simp [t0], N17, KK9⟩
      · show CHr Z own_EL s.vm s.heap T17.vm T17.heap
        rw [hh, e17]
        exact CR9.trans (CHv.at X17 hZ hEL CR9.1)
  · obtain ⟨LL18, XL18, NL18⟩ := own_loose X3 N3
    obtain ⟨cq19, kq19, q19a, q19b, q19c⟩ := isOf hZ e3 Sa.1
    obtain ⟨_, _, ⟨T19, L19, k19, n19⟩, -, X19, ⟨Lc19, hQ19, l19, y19, z19⟩, st19⟩ := XL18.virtualBack hx hown (mvT hZ (own_h hw 30 rfl)) (mvT hZ (own_h hw 31 rfl)) (notFace_of_selects (args := #[]) (mvT hZ (own_h hw 33 rfl))) (mvT hZ (own_h hw 33 rfl)) (mvT hZ (own_h hw 32 rfl)) (by decide) (backOf (W := 1) (rmLenS1 l Z a0 hw [] a x0 cs h0 n0 O0 Sa hC) hZ (own_h hw 34 rfl) (own_h hw 7 rfl) (by decide) (by decide)) q19a q19c (g := (mkF mm 4 #[.val (.ref a), .val (.int (1 : Int32)), .val (.int x0), .val (.int (own_al x0))] [(.ref a), (.int (1 : Int32))])) rfl (by rw [hml]; rfl) (Steps.refl _) (argsL := []) (rest := [(.int (1 : Int32))]) (lenOf pd_214 rfl) rfl (Nat.le_of_eq rfl) (hb hby d5_4) (fun _ _ => ⟨rfl, e3, (by decide : 0 + 0 ≤ _), (by decide : 0 + 0 ≤ _)⟩)
    dsimp only [Pt.U, Pt.locs, Pt.cells, Pt.slots] at X19 l19 y19 z19 st19 hQ19
    subst l19 y19 z19
    obtain ⟨rfl, N19q, e19⟩ := hQ19
    have N19 := Fr.app NL18 N19q
    obtain ⟨LL20, XL20, NL20⟩ := own_loose X19 N19
    obtain ⟨cq21, kq21, q21a, q21b, q21c⟩ := isOf hZ e19 Sa.1
    obtain ⟨_, _, ⟨T21, L21, k21, n21⟩, -, X21, ⟨Lc21, hQ21, l21, y21, z21⟩, st21⟩ := XL20.virtualBack hx hown (mvT hZ (own_h hw 41 rfl)) (mvT hZ (own_h hw 42 rfl)) (notFace_of_selects (args := #[]) (mvT hZ (own_h hw 44 rfl))) (mvT hZ (own_h hw 44 rfl)) (mvT hZ (own_h hw 43 rfl)) (by decide) (backOf (W := 0) (rmEmS1 l Z a0 hw [] a x0 h0 n0 O0 Sa) hZ (own_h hw 45 rfl) (own_h hw 7 rfl) (by decide) (by decide)) q21a q21c (g := (mkF mm 80 #[.val (.ref a), .val (.int (1 : Int32)), .val (.int x0), .val (.int (own_al x0))] [(.ref a)])) rfl (by rw [hml]; rfl) (Steps.refl _) (argsL := []) (rest := []) (lenOf pd_112 rfl) rfl (Nat.le_of_eq rfl) (hb hby d5_80) (fun _ _ => ⟨rfl, e19, (by decide : 0 + 0 ≤ _), (by decide : 0 + 0 ≤ _)⟩)
    dsimp only [Pt.U, Pt.locs, Pt.cells, Pt.slots] at X21 l21 y21 z21 st21 hQ21
    subst l21 y21 z21
    obtain ⟨rfl, N21q, e21⟩ := hQ21
    have N21 := Fr.app NL20 N21q
    obtain ⟨fs, hr, hrun, hended, hRW⟩ := X21.leaveW hS0 (by rw [e21]; exact (Nat.zero_le _)) (v := some (.int (1 : Int32))) (fun h => by rw [Bd.returns] at h; cases h)
    refine ⟨_, _, pre6 _ ?_, hrun, hended, _, _, rfl, ?_, ?_, (own_rmono hRW (by decide) (by decide))⟩
    · show Steps pg.tables ee below (T3.setTop (mkF mm 59 #[.val (.ref a), .val (.int (0 : Int32)), .val (.int x0), .val (.int (own_al x0))] [(.int (own_al x0))])) _
      refine XS.ifYes X3.here hx rfl (pc0 := 59) (pc' := 73) rfl (hb hby d5_59) rfl ((if0 _ _).trans (feq hc7).2) (by decide) (by decide) ?_
      refine XS.iinc X3.here hx rfl (hb hby d5_73) rfl (l' := #[.val (.ref a), .val (.int (1 : Int32)), .val (.int x0), .val (.int (own_al x0))]) rfl ?_
      refine XS.goto X3.here hx rfl (pc0 := 76) (pc' := 2) rfl (hb hby d5_76) (by decide) (by decide) ?_
      refine XS.iloadN X3.here hx rfl (hb hby d5_2) rfl ?_
      refine XS.aloadN X3.here hx rfl (hb hby d5_3) rfl rfl ?_
      refine st19.trans ?_
      refine XS.icmpYes X19.here hx rfl (pc0 := 7) (pc' := 79) rfl (hb hby d5_7) rfl (flt (by decide : ¬ ((1 : Int32) < (1 : Int32)))).2.1 (by decide) (by decide) ?_
      show Steps pg.tables ee below (T19.setTop (mkF mm 79 #[.val (.ref a), .val (.int (1 : Int32)), .val (.int x0), .val (.int (own_al x0))] [])) _
      refine XS.aloadN X19.here hx rfl (hb hby d5_79) rfl rfl ?_
      refine st21.trans ?_
      refine XS.ifNo X21.here hx rfl (hb hby d5_83) rfl ((if0 _ _).trans (teq (by decide : (0 : Int32) = (0 : Int32))).2) ?_
      refine XS.iconst X21.here hx rfl (hb hby d5_86) ?_
      refine XS.goto X21.here hx rfl (pc0 := 87) (pc' := 91) rfl (hb hby d5_87) (by decide) (by decide) ?_
      exact retN X21 hx (t := .boolean) Bd.returns (by simp) (hb hby d5_91) hr
    · show QrmTk1 Z a x0 cs fm h0 n0 _ T21.heap _
      rw [e21]
      exact ⟨by have t0 := own_ta hc7; simp [t0], N21, K0⟩
    · show CHr Z own_EL s.vm s.heap T21.vm T21.heap
      rw [hh, e21]
      exact CR0.trans (CHv.at X21 hZ hEL CR0.1)
def QrmTk2 (Z : State) (a : Addr) (x0 : Int32) (x1 : Int32) (cs : Int32) (fm : Value) (h0 : Heap) (n0 : Nat) (v : Option Value) (h : Heap) (L : List Loc) : Prop := v = some (.int (own_k2 x0 x1)) ∧ Fr n0 L ∧ Keep h0 h []
set_option maxRecDepth 65536 in
set_option maxHeartbeats 40000000 in
theorem rmTk2 (l : Launch) (Z : State) (a0 : Array Value) (hw : ∀ d ∈ tables_1, d.before a0 Z = true) (ws : List Jvm.Cond) (a : Addr) (x0 : Int32) (x1 : Int32) (cs : Int32) (fm : Value) (h0 : Heap) (n0 : Nat) (O0 : Old Z n0 h0) (Sa : own_S2 Z h0 a x0 x1) (hC : own_C Z cs) (hG : own_G Z) (hF : own_F Z fm) (ha0 : ¬ (x0 < (0 : Int32))) (hb0 : ¬ ((65535 : Int32) < x0)) (ha1 : ¬ (x1 < (0 : Int32))) (hb1 : ¬ ((65535 : Int32) < x1)) :
    MetFree l (⟨"com/example/waxwing/waxwing/http/Head", "token", "(Ljava/lang/String;)Z"⟩ : MethodName) (head1 (Jvm.Cond.code (⟨"com/example/waxwing/waxwing/http/Head", "token", "(Ljava/lang/String;)Z"⟩ : MethodName) prog_14_method_3_code 4 (some .boolean) :: ws) ({ frames := 5, cells := 4, slots := 128, locals := 66 } : Room)) (fun a_ U_ => a_ = #[(.ref a)] ∧ Z.Warmed39 U_.vm ∧ U_.heap = h0 ∧ CHv Z own_EL U_.vm h0) (fun _ _ _ _ _ => True) (fun _ U_ o_ U'_ => ∃ v_ L_, o_ = .returned v_ ∧ QrmTk2 Z a x0 x1 cs fm h0 n0 v_ U'_.heap L_ ∧ CHr Z own_EL U_.vm U_.heap U'_.vm U'_.heap ∧ ReturnedEndW U_ o_ U'_ L_ ({ frames := 5, cells := 4, slots := 128, locals := 66 } : Room).cells ({ frames := 5, cells := 4, slots := 128, locals := 66 } : Room).slots) := by
  refine MetFree.of_bodySF (plainFor_of_name pn_518) hisR ?_
  intro pg ee s mm args below meth cc s₁ Bd hml0 hP hK
  obtain ⟨rfl, hZ, hh, HC0⟩ := hP
  have hx := Bd.exec
  have hby := Bd.bytes
  have hml : cc.maxLocals = 4 := hml0
  have hown : s.vm.findClass "com/example/waxwing/waxwing/http/Head" = some mm.cls := findClass_of_methodNamed Bd.named
  have hnm := (name_of_methodNamed Bd.named Bd.method).1
  have X0 : Stand pg l ee ({ frames := 5, cells := 4, slots := 128, locals := 66 } : Room) s mm #[(.ref a)] below meth cc s₁ [] 0 0 := Stand.of_body Bd
  have e0 : s₁.heap = h0 := by rw [← hh, Bd.state]; rfl
  have N0 := Fr.nil n0
  have K0 : Keep h0 h0 ([] : List Addr) := Keep.refl _ _
  have XW : Stand pg l ee ({ frames := 5, cells := 4, slots := 128, locals := 66 } : Room) (s.setVm s.vm) mm #[(.ref a)] below meth cc s₁ [] 0 0 := X0
  have hS0 : s.Since s.vm 0 := (State.WarmedH.refl s).since 0
  have CR0 : CHr Z own_EL s.vm h0 s.vm h0 := CHr.refl HC0
  have hEL := own_hEL hw
  have pre0 : ∀ tg_, Steps pg.tables ee below (s₁.setTop (mkF mm 0 #[.val (.ref a), .unset, .unset, .unset] [])) tg_ → Steps pg.tables ee below (s₁.setTop (entryFrame mm #[(.ref a)] 4)) tg_ := fun tg_ k_ => castTop (ef_5_519 mm a) k_
  obtain ⟨cq1, kq1, q1a, q1b, q1c⟩ := isOf hZ e0 Sa.1
  obtain ⟨_, _, ⟨T1, L1, k1, n1⟩, -, X1, ⟨Lc1, hQ1, l1, y1, z1⟩, st1⟩ := XW.virtualBack hx hown (mvT hZ (own_h hw 30 rfl)) (mvT hZ (own_h hw 31 rfl)) (notFace_of_selects (args := #[]) (mvT hZ (own_h hw 33 rfl))) (mvT hZ (own_h hw 33 rfl)) (mvT hZ (own_h hw 32 rfl)) (by decide) (backOf (W := 1) (rmLenS2 l Z a0 hw [] a x0 x1 cs h0 n0 O0 Sa hC) hZ (own_h hw 34 rfl) (own_h hw 7 rfl) (by decide) (by decide)) q1a q1c (g := (mkF mm 4 #[.val (.ref a), .val (.int (0 : Int32)), .unset, .unset] [(.ref a), (.int (0 : Int32))])) rfl (by rw [hml]; rfl) (Steps.refl _) (argsL := []) (rest := [(.int (0 : Int32))]) (lenOf pd_214 rfl) rfl (Nat.le_of_eq rfl) (hb hby d5_4) (fun _ _ => ⟨rfl, e0, (by decide : 0 + 0 ≤ _), (by decide : 0 + 0 ≤ _)⟩)
  dsimp only [Pt.U, Pt.locs, Pt.cells, Pt.slots] at X1 l1 y1 z1 st1 hQ1
  subst l1 y1 z1
  obtain ⟨rfl, N1q, e1⟩ := hQ1
  have N1 := Fr.app N0 N1q
  obtain ⟨LL2, XL2, NL2⟩ := own_loose X1 N1
  obtain ⟨cq3, kq3, q3a, q3b, q3c⟩ := isOf hZ e1 Sa.1
  obtain ⟨_, _, ⟨T3, L3, k3, n3⟩, -, X3, ⟨Lc3, hQ3, l3, y3, z3⟩, st3⟩ := XL2.virtualBack hx hown (mvT hZ (own_h hw 59 rfl)) (mvT hZ (own_h hw 60 rfl)) (notFace_of_selects (args := #[]) (mvT hZ (own_h hw 62 rfl))) (mvT hZ (own_h hw 62 rfl)) (mvT hZ (own_h hw 61 rfl)) (by decide) (backOf (W := 0) (rmChS2_0 l Z a0 hw [] a x0 x1 cs fm h0 n0 O0 Sa hC hG hF ha0 hb0 ha1 hb1) hZ (own_h hw 63 rfl) (own_h hw 7 rfl) (by decide) (by decide)) q3a q3c (g := (mkF mm 12 #[.val (.ref a), .val (.int (0 : Int32)), .unset, .unset] [(.int (0 : Int32)), (.ref a)])) rfl (by rw [hml]; rfl) (Steps.refl _) (argsL := [(.int (0 : Int32))]) (rest := []) (lenOf pd_523 rfl) rfl (Nat.le_of_eq rfl) (hb hby d5_12) (fun _ _ => ⟨rfl, e1, (by decide : 0 + 0 ≤ _), (by decide : 0 + 0 ≤ _)⟩)
  dsimp only [Pt.U, Pt.locs, Pt.cells, Pt.slots] at X3 l3 y3 z3 st3 hQ3
  subst l3 y3 z3
  obtain ⟨rfl, N3q, e3⟩ := hQ3
  have N3 := Fr.app NL2 N3q
  have pre4 := fun tg_ (k_ : Steps pg.tables ee below (T3.setTop (mkF mm 16 #[.val (.ref a), .val (.int (0 : Int32)), .val (.int x0), .unset] [])) tg_) => pre0 tg_ (by
    show Steps pg.tables ee below (s₁.setTop (mkF mm 0 #[.val (.ref a), .unset, .unset, .unset] [])) _
    refine XS.iconst XW.here hx rfl (hb hby d5_0) ?_
    refine XS.istoreN XW.here hx rfl (hb hby d5_1) rfl (l' := #[.val (.ref a), .val (.int (0 : Int32)), .unset, .unset]) rfl ?_
    refine XS.iloadN XW.here hx rfl (hb hby d5_2) rfl ?_
    refine XS.aloadN XW.here hx rfl (hb hby d5_3) rfl rfl ?_
    refine st1.trans ?_
    refine XS.icmpNo X1.here hx rfl (hb hby d5_7) rfl (tlt (by decide : (0 : Int32) < (2 : Int32))).2.1 ?_
    refine XS.aloadN X1.here hx rfl (hb hby d5_10) rfl rfl ?_
    refine XS.iloadN X1.here hx rfl (hb hby d5_11) rfl ?_
    show Steps pg.tables ee below (T1.setTop (mkF mm 12 #[.val (.ref a), .val (.int (0 : Int32)), .unset, .unset] [(.int (0 : Int32)), (.ref a)])) _
    refine st3.trans ?_
    refine XS.istoreN X3.here hx rfl (hb hby d5_15) rfl (l' := #[.val (.ref a), .val (.int (0 : Int32)), .val (.int x0), .unset]) rfl ?_
    exact k_)
  have pre5 : ∀ tg_, Steps pg.tables ee below (T3.setTop (mkF mm 58 #[.val (.ref a), .val (.int (0 : Int32)), .val (.int x0), .val (.int (own_al x0))] [])) tg_ → Steps pg.tables ee below (s₁.setTop (entryFrame mm #[(.ref a)] 4)) tg_ := fun tg_ k_ => pre4 tg_ (pcAlu X3 hx hby a (0 : Int32) x0 tg_ k_)
  have pre6 := fun tg_ (k_ : Steps pg.tables ee below (T3.setTop (mkF mm 59 #[.val (.ref a), .val (.int (0 : Int32)), .val (.int x0), .val (.int (own_al x0))] [(.int (own_al x0))])) tg_) => pre5 tg_ (by
    show Steps pg.tables ee below (T3.setTop (mkF mm 58 #[.val (.ref a), .val (.int (0 : Int32)), .val (.int x0), .val (.int (own_al x0))] [])) _
    refine XS.iloadN X3.here hx rfl (hb hby d5_58) rfl ?_
    exact k_)
  by_cases hc7 : (own_al x0) = (0 : Int32)
  · have pre8 := fun tg_ (k_ : Steps pg.tables ee below (T3.setTop (mkF mm 62 #[.val (.ref a), .val (.int (0 : Int32)), .val (.int x0), .val (.int (own_al x0))] [])) tg_) => pre6 tg_ (by
      show Steps pg.tables ee below (T3.setTop (mkF mm 59 #[.val (.ref a), .val (.int (0 : Int32)), .val (.int x0), .val (.int (own_al x0))] [(.int (own_al x0))])) _
      refine XS.ifNo X3.here hx rfl (hb hby d5_59) rfl ((if0 _ _).trans (teq hc7).2) ?_
      exact k_)
    obtain ⟨sa9, T9, h9, k9, sb9, sk9, X9, e9, E9, hS9, hk9, hZ, hown, Es9, Fc9, Fv9, Va9, lt9, lu9, CQ9, -, hne9, st9⟩ := ldcCH (EL := own_EL) (vs := [(.int (33 : Int32)), (.int (35 : Int32)), (.int (36 : Int32)), (.int (37 : Int32)), (.int (38 : Int32)), (.int (39 : Int32)), (.int (42 : Int32)), (.int (43 : Int32)), (.int (45 : Int32)), (.int (46 : Int32)), (.int (94 : Int32)), (.int (95 : Int32)), (.int (96 : Int32)), (.int (124 : Int32)), (.int (126 : Int32))]) (z := (15 : Int32)) (n := 60) X3 hx hZ hown (own_h hw 81 rfl) (own_wS hw) e3 hS0 (Nat.zero_le _) hEL (List.mem_of_getElem? (i := 0) rfl) CR0.1 (by decide +kernel) (by decide) rfl (g := (mkF mm 62 #[.val (.ref a), .val (.int (0 : Int32)), .val (.int x0), .val (.int (own_al x0))] [])) rfl (hb hby d5_62) (by decide +kernel) (by decide) (by decide) (by decide)
    have CR9 := CR0.trans CQ9
    have O9 := O0.ext E9
    have KK9 := K0.ext E9
    obtain ⟨LL10, XL10, NL10⟩ := own_loose X9 N3
    obtain ⟨cq11, kq11, q11a, q11b, q11c⟩ := isOf hZ e9 Es9
    obtain ⟨_, _, ⟨T11, L11, k11, n11⟩, -, X11, ⟨Lc11, hQ11, l11, y11, z11⟩, st11⟩ := XL10.virtualBack hx hown (mvT hZ (own_h hw 82 rfl)) (mvT hZ (own_h hw 83 rfl)) (notFace_of_selects (args := #[]) (mvT hZ (own_h hw 85 rfl))) (mvT hZ (own_h hw 85 rfl)) (mvT hZ (own_h hw 84 rfl)) (by decide) (backOf (W := 0) (rmX1 l Z a0 hw [] sa9 sb9 sk9 x0 cs h9 n0 O9 Fc9 Fv9 Va9 Es9 hC ha0) hZ (own_h hw 86 rfl) (own_h hw 7 rfl) (by decide) (by decide)) q11a q11c (g := (mkF mm 65 #[.val (.ref a), .val (.int (0 : Int32)), .val (.int x0), .val (.int (own_al x0))] [(.int x0), (.ref sa9)])) rfl (by rw [hml]; rfl) (Steps.refl _) (argsL := [(.int x0)]) (rest := []) (lenOf pd_375 rfl) rfl (Nat.le_of_eq rfl) (hb hby d5_65) (fun _ _ => ⟨rfl, e9, (by decide : 2 + 0 ≤ _), (by decide : 64 + 0 ≤ _)⟩)
    dsimp only [Pt.U, Pt.locs, Pt.cells, Pt.slots] at X11 l11 y11 z11 st11 hQ11
    subst l11 y11 z11
    obtain ⟨r11, rfl, N11q, e11, hr11⟩ := hQ11
    have N11 := Fr.app NL10 N11q
    have pre12 := fun tg_ (k_ : Steps pg.tables ee below (T11.setTop (mkF mm 68 #[.val (.ref a), .val (.int (0 : Int32)), .val (.int x0), .val (.int (own_al x0))] [(.int r11)])) tg_) => pre8 tg_ (by
      show Steps pg.tables ee below (T3.setTop (mkF mm 62 #[.val (.ref a), .val (.int (0 : Int32)), .val (.int x0), .val (.int (own_al x0))] [])) _
      refine st9 _ ?_
      refine XS.iloadN X9.here hx rfl (hb hby d5_64) rfl ?_
      refine st11.trans ?_
      exact k_)
    by_cases hc13 : r11 < (0 : Int32)
    · obtain ⟨fs, hr, hrun, hended, hRW⟩ := X11.leaveW hS9 (by rw [e11]; exact hk9) (v := some (.int (0 : Int32))) (fun h => by rw [Bd.returns] at h; cases h)
      refine ⟨_, _, pre12 _ ?_, hrun, hended, _, _, rfl, ?_, ?_, (own_rmono hRW (by decide) (by decide))⟩
      · show Steps pg.tables ee below (T11.setTop (mkF mm 68 #[.val (.ref a), .val (.int (0 : Int32)), .val (.int x0), .val (.int (own_al x0))] [(.int r11)])) _
        refine XS.ifNo X11.here hx rfl (hb hby d5_68) rfl ((if0 _ _).trans (tlt hc13).2.1) ?_
        refine XS.iconst X11.here hx rfl (hb hby d5_71) ?_
        exact retN X11 hx (t := .boolean) Bd.returns (by simp) (hb hby d5_72) hr
      · show QrmTk2 Z a x0 x1 cs fm h0 n0 _ T11.heap _
        rw [e11]
        exact ⟨by have t0 := own_tn hc7 (hr11.mp hc13); simp [own_k2, t0], N11, KK9⟩
      · show CHr Z own_EL s.vm s.heap T11.vm T11.heap
        rw [hh, e11]
        exact CR9.trans (CHv.at X11 hZ hEL CR9.1)
    · obtain ⟨LL14, XL14, NL14⟩ := own_loose X11 N11
      obtain ⟨cq15, kq15, q15a, q15b, q15c⟩ := isOf hZ e11 (Sa.1.ext E9)
      obtain ⟨_, _, ⟨T15, L15, k15, n15⟩, -, X15, ⟨Lc15, hQ15, l15, y15, z15⟩, st15⟩ := XL14.virtualBack hx hown (mvT hZ (own_h hw 30 rfl)) (mvT hZ (own_h hw 31 rfl)) (notFace_of_selects (args := #[]) (mvT hZ (own_h hw 33 rfl))) (mvT hZ (own_h hw 33 rfl)) (mvT hZ (own_h hw 32 rfl)) (by decide) (backOf (W := 1) (rmLenS2 l Z a0 hw [] a x0 x1 cs h9 n0 O9 (Sa.ext E9) hC) hZ (own_h hw 34 rfl) (own_h hw 7 rfl) (by decide) (by decide)) q15a q15c (g := (mkF mm 4 #[.val (.ref a), .val (.int (1 : Int32)), .val (.int x0), .val (.int (own_al x0))] [(.ref a), (.int (1 : Int32))])) rfl (by rw [hml]; rfl) (Steps.refl _) (argsL := []) (rest := [(.int (1 : Int32))]) (lenOf pd_214 rfl) rfl (Nat.le_of_eq rfl) (hb hby d5_4) (fun _ _ => ⟨rfl, e11, (by decide : 2 + 0 ≤ _), (by decide : 64 + 0 ≤ _)⟩)
      dsimp only [Pt.U, Pt.locs, Pt.cells, Pt.slots] at X15 l15 y15 z15 st15 hQ15
      subst l15 y15 z15
      obtain ⟨rfl, N15q, e15⟩ := hQ15
      have N15 := Fr.app NL14 N15q
      obtain ⟨LL16, XL16, NL16⟩ := own_loose X15 N15
      obtain ⟨cq17, kq17, q17a, q17b, q17c⟩ := isOf hZ e15 (Sa.1.ext E9)
      obtain ⟨_, _, ⟨T17, L17, k17, n17⟩, -, X17, ⟨Lc17, hQ17, l17, y17, z17⟩, st17⟩ := XL16.virtualBack hx hown (mvT hZ (own_h hw 59 rfl)) (mvT hZ (own_h hw 60 rfl)) (notFace_of_selects (args := #[]) (mvT hZ (own_h hw 62 rfl))) (mvT hZ (own_h hw 62 rfl)) (mvT hZ (own_h hw 61 rfl)) (by decide) (backOf (W := 0) (rmChS2_1 l Z a0 hw [] a x0 x1 cs fm h9 n0 O9 (Sa.ext E9) hC hG hF ha0 hb0 ha1 hb1) hZ (own_h hw 63 rfl) (own_h hw 7 rfl) (by decide) (by decide)) q17a q17c (g := (mkF mm 12 #[.val (.ref a), .val (.int (1 : Int32)), .val (.int x0), .val (.int (own_al x0))] [(.int (1 : Int32)), (.ref a)])) rfl (by rw [hml]; rfl) (Steps.refl _) (argsL := [(.int (1 : Int32))]) (rest := []) (lenOf pd_523 rfl) rfl (Nat.le_of_eq rfl) (hb hby d5_12) (fun _ _ => ⟨rfl, e15, (by decide : 2 + 0 ≤ _), (by decide : 64 + 0 ≤ _)⟩)
      dsimp only [Pt.U, Pt.locs, Pt.cells, Pt.slots] at X17 l17 y17 z17 st17 hQ17
      subst l17 y17 z17
      obtain ⟨rfl, N17q, e17⟩ := hQ17
      have N17 := Fr.app NL16 N17q
      have pre18 := fun tg_ (k_ : Steps pg.tables ee below (T17.setTop (mkF mm 16 #[.val (.ref a), .val (.int (1 : Int32)), .val (.int x1), .val (.int (own_al x0))] [])) tg_) => pre12 tg_ (by
        show Steps pg.tables ee below (T11.setTop (mkF mm 68 #[.val (.ref a), .val (.int (0 : Int32)), .val (.int x0), .val (.int (own_al x0))] [(.int r11)])) _
        refine XS.ifYes X11.here hx rfl (pc0 := 68) (pc' := 73) rfl (hb hby d5_68) rfl ((if0 _ _).trans (flt hc13).2.1) (by decide) (by decide) ?_
        refine XS.iinc X11.here hx rfl (hb hby d5_73) rfl (l' := #[.val (.ref a), .val (.int (1 : Int32)), .val (.int x0), .val (.int (own_al x0))]) rfl ?_
        refine XS.goto X11.here hx rfl (pc0 := 76) (pc' := 2) rfl (hb hby d5_76) (by decide) (by decide) ?_
        refine XS.iloadN X11.here hx rfl (hb hby d5_2) rfl ?_
        show Steps pg.tables ee below (T11.setTop (mkF mm 3 #[.val (.ref a), .val (.int (1 : Int32)), .val (.int x0), .val (.int (own_al x0))] [(.int (1 : Int32))])) _
        refine XS.aloadN X11.here hx rfl (hb hby d5_3) rfl rfl ?_
        refine st15.trans ?_
        refine XS.icmpNo X15.here hx rfl (hb hby d5_7) rfl (tlt (by decide : (1 : Int32) < (2 : Int32))).2.1 ?_
        refine XS.aloadN X15.here hx rfl (hb hby d5_10) rfl rfl ?_
        refine XS.iloadN X15.here hx rfl (hb hby d5_11) rfl ?_
        refine st17.trans ?_
        refine XS.istoreN X17.here hx rfl (hb hby d5_15) rfl (l' := #[.val (.ref a), .val (.int (1 : Int32)), .val (.int x1), .val (.int (own_al x0))]) rfl ?_
        exact k_)
      have pre19 : ∀ tg_, Steps pg.tables ee below (T17.setTop (mkF mm 58 #[.val (.ref a), .val (.int (1 : Int32)), .val (.int x1), .val (.int (own_al x1))] [])) tg_ → Steps pg.tables ee below (s₁.setTop (entryFrame mm #[(.ref a)] 4)) tg_ := fun tg_ k_ => pre18 tg_ (pcAli X17 hx hby a (1 : Int32) x1 (own_al x0) tg_ k_)
      have pre20 := fun tg_ (k_ : Steps pg.tables ee below (T17.setTop (mkF mm 59 #[.val (.ref a), .val (.int (1 : Int32)), .val (.int x1), .val (.int (own_al x1))] [(.int (own_al x1))])) tg_) => pre19 tg_ (by
        show Steps pg.tables ee below (T17.setTop (mkF mm 58 #[.val (.ref a), .val (.int (1 : Int32)), .val (.int x1), .val (.int (own_al x1))] [])) _
        refine XS.iloadN X17.here hx rfl (hb hby d5_58) rfl ?_
        exact k_)
      by_cases hc21 : (own_al x1) = (0 : Int32)
      · obtain ⟨LL22, XL22, NL22⟩ := own_loose X17 N17
        have pre23 := fun tg_ (k_ : Steps pg.tables ee below (T17.setTop (mkF mm 62 #[.val (.ref a), .val (.int (1 : Int32)), .val (.int x1), .val (.int (own_al x1))] [])) tg_) => pre20 tg_ (by
          show Steps pg.tables ee below (T17.setTop (mkF mm 59 #[.val (.ref a), .val (.int (1 : Int32)), .val (.int x1), .val (.int (own_al x1))] [(.int (own_al x1))])) _
          refine XS.ifNo X17.here hx rfl (hb hby d5_59) rfl ((if0 _ _).trans (teq hc21).2) ?_
          exact k_)
        obtain ⟨sa24, T24, h24, k24, sb24, sk24, X24, e24, E24, hS24, hk24, hZ, hown, Es24, Fc24, Fv24, Va24, lt24, lu24, CQ24, -, hne24, st24⟩ := ldcCH (EL := own_EL) (vs := [(.int (33 : Int32)), (.int (35 : Int32)), (.int (36 : Int32)), (.int (37 : Int32)), (.int (38 : Int32)), (.int (39 : Int32)), (.int (42 : Int32)), (.int (43 : Int32)), (.int (45 : Int32)), (.int (46 : Int32)), (.int (94 : Int32)), (.int (95 : Int32)), (.int (96 : Int32)), (.int (124 : Int32)), (.int (126 : Int32))]) (z := (15 : Int32)) (n := 60) XL22 hx hZ hown (own_h hw 81 rfl) (own_wS hw) e17 hS9 hk9 hEL (List.mem_of_getElem? (i := 0) rfl) CR9.1 (by decide +kernel) (by decide) rfl (g := (mkF mm 62 #[.val (.ref a), .val (.int (1 : Int32)), .val (.int x1), .val (.int (own_al x1))] [])) rfl (hb hby d5_62) (by decide +kernel) (by decide) (by decide) (by decide)
        have CR24 := CR9.trans CQ24
        have O24 := O9.ext E24
        have KK24 := KK9.ext E24
        obtain ⟨cq25, kq25, q25a, q25b, q25c⟩ := isOf hZ e24 Es24
        obtain ⟨_, _, ⟨T25, L25, k25, n25⟩, -, X25, ⟨Lc25, hQ25, l25, y25, z25⟩, st25⟩ := X24.virtualBack hx hown (mvT hZ (own_h hw 82 rfl)) (mvT hZ (own_h hw 83 rfl)) (notFace_of_selects (args := #[]) (mvT hZ (own_h hw 85 rfl))) (mvT hZ (own_h hw 85 rfl)) (mvT hZ (own_h hw 84 rfl)) (by decide) (backOf (W := 0) (rmX1 l Z a0 hw [] sa24 sb24 sk24 x1 cs h24 n0 O24 Fc24 Fv24 Va24 Es24 hC ha1) hZ (own_h hw 86 rfl) (own_h hw 7 rfl) (by decide) (by decide)) q25a q25c (g := (mkF mm 65 #[.val (.ref a), .val (.int (1 : Int32)), .val (.int x1), .val (.int (own_al x1))] [(.int x1), (.ref sa24)])) rfl (by rw [hml]; rfl) (Steps.refl _) (argsL := [(.int x1)]) (rest := []) (lenOf pd_375 rfl) rfl (Nat.le_of_eq rfl) (hb hby d5_65) (fun _ _ => ⟨rfl, e24, (by decide : 4 + 0 ≤ _), (by decide : 128 + 0 ≤ _)⟩)
        dsimp only [Pt.U, Pt.locs, Pt.cells, Pt.slots] at X25 l25 y25 z25 st25 hQ25
        subst l25 y25 z25
        obtain ⟨r25, rfl, N25q, e25, hr25⟩ := hQ25
        have N25 := Fr.app NL22 N25q
        have pre26 := fun tg_ (k_ : Steps pg.tables ee below (T25.setTop (mkF mm 68 #[.val (.ref a), .val (.int (1 : Int32)), .val (.int x1), .val (.int (own_al x1))] [(.int r25)])) tg_) => pre23 tg_ (by
          show Steps pg.tables ee below (T17.setTop (mkF mm 62 #[.val (.ref a), .val (.int (1 : Int32)), .val (.int x1), .val (.int (own_al x1))] [])) _
          refine st24 _ ?_
          refine XS.iloadN X24.here hx rfl (hb hby d5_64) rfl ?_
          refine st25.trans ?_
          exact k_)
        by_cases hc27 : r25 < (0 : Int32)
        · obtain ⟨fs, hr, hrun, hended, hRW⟩ := X25.leaveW hS24 (by rw [e25]; exact hk24) (v := some (.int (0 : Int32))) (fun h => by rw [Bd.returns] at h; cases h)
          refine ⟨_, _, pre26 _ ?_, hrun, hended, _, _, rfl, ?_, ?_, (own_rmono hRW (by decide) (by decide))⟩
          · show Steps pg.tables ee below (T25.setTop (mkF mm 68 #[.val (.ref a), .val (.int (1 : Int32)), .val (.int x1), .val (.int (own_al x1))] [(.int r25)])) _
            refine XS.ifNo X25.here hx rfl (hb hby d5_68) rfl ((if0 _ _).trans (tlt hc27).2.1) ?_
            refine XS.iconst X25.here hx rfl (hb hby d5_71) ?_
            exact retN X25 hx (t := .boolean) Bd.returns (by simp) (hb hby d5_72) hr
          · show QrmTk2 Z a x0 x1 cs fm h0 n0 _ T25.heap _
            rw [e25]
            exact ⟨by have t0 := own_ts (Classical.byContradiction fun q => hc13 (hr11.mpr q)); have t1 := own_tn hc21 (hr25.mp hc27); simp [own_k2, t0, t1], N25, KK24⟩
          · show CHr Z own_EL s.vm s.heap T25.vm T25.heap
            rw [hh, e25]
            exact CR24.trans (CHv.at X25 hZ hEL CR24.1)
        · obtain ⟨LL28, XL28, NL28⟩ := own_loose X25 N25
          obtain ⟨cq29, kq29, q29a, q29b, q29c⟩ := isOf hZ e25 ((Sa.1.ext E9).ext E24)
          obtain ⟨_, _, ⟨T29, L29, k29, n29⟩, -, X29, ⟨Lc29, hQ29, l29, y29, z29⟩, st29⟩ := XL28.virtualBack hx hown (mvT hZ (own_h hw 30 rfl)) (mvT hZ (own_h hw 31 rfl)) (notFace_of_selects (args := #[]) (mvT hZ (own_h hw 33 rfl))) (mvT hZ (own_h hw 33 rfl)) (mvT hZ (own_h hw 32 rfl)) (by decide) (backOf (W := 1) (rmLenS2 l Z a0 hw [] a x0 x1 cs h24 n0 O24 ((Sa.ext E9).ext E24) hC) hZ (own_h hw 34 rfl) (own_h hw 7 rfl) (by decide) (by decide)) q29a q29c (g := (mkF mm 4 #[.val (.ref a), .val (.int (2 : Int32)), .val (.int x1), .val (.int (own_al x1))] [(.ref a), (.int (2 : Int32))])) rfl (by rw [hml]; rfl) (Steps.refl _) (argsL := []) (rest := [(.int (2 : Int32))]) (lenOf pd_214 rfl) rfl (Nat.le_of_eq rfl) (hb hby d5_4) (fun _ _ => ⟨rfl, e25, (by decide : 4 + 0 ≤ _), (by decide : 128 + 0 ≤ _)⟩)
          dsimp only [Pt.U, Pt.locs, Pt.cells, Pt.slots] at X29 l29 y29 z29 st29 hQ29
          subst l29 y29 z29
          obtain ⟨rfl, N29q, e29⟩ := hQ29
          have N29 := Fr.app NL28 N29q
          obtain ⟨LL30, XL30, NL30⟩ := own_loose X29 N29
          obtain ⟨cq31, kq31, q31a, q31b, q31c⟩ := isOf hZ e29 ((Sa.1.ext E9).ext E24)
          obtain ⟨_, _, ⟨T31, L31, k31, n31⟩, -, X31, ⟨Lc31, hQ31, l31, y31, z31⟩, st31⟩ := XL30.virtualBack hx hown (mvT hZ (own_h hw 41 rfl)) (mvT hZ (own_h hw 42 rfl)) (notFace_of_selects (args := #[]) (mvT hZ (own_h hw 44 rfl))) (mvT hZ (own_h hw 44 rfl)) (mvT hZ (own_h hw 43 rfl)) (by decide) (backOf (W := 0) (rmEmS2 l Z a0 hw [] a x0 x1 h24 n0 O24 ((Sa.ext E9).ext E24)) hZ (own_h hw 45 rfl) (own_h hw 7 rfl) (by decide) (by decide)) q31a q31c (g := (mkF mm 80 #[.val (.ref a), .val (.int (2 : Int32)), .val (.int x1), .val (.int (own_al x1))] [(.ref a)])) rfl (by rw [hml]; rfl) (Steps.refl _) (argsL := []) (rest := []) (lenOf pd_112 rfl) rfl (Nat.le_of_eq rfl) (hb hby d5_80) (fun _ _ => ⟨rfl, e29, (by decide : 4 + 0 ≤ _), (by decide : 128 + 0 ≤ _)⟩)
          dsimp only [Pt.U, Pt.locs, Pt.cells, Pt.slots] at X31 l31 y31 z31 st31 hQ31
          subst l31 y31 z31
          obtain ⟨rfl, N31q, e31⟩ := hQ31
          have N31 := Fr.app NL30 N31q
          obtain ⟨fs, hr, hrun, hended, hRW⟩ := X31.leaveW hS24 (by rw [e31]; exact hk24) (v := some (.int (1 : Int32))) (fun h => by rw [Bd.returns] at h; cases h)
          refine ⟨_, _, pre26 _ ?_, hrun, hended, _, _, rfl, ?_, ?_, (own_rmono hRW (by decide) (by decide))⟩
          · show Steps pg.tables ee below (T25.setTop (mkF mm 68 #[.val (.ref a), .val (.int (1 : Int32)), .val (.int x1), .val (.int (own_al x1))] [(.int r25)])) _
            refine XS.ifYes X25.here hx rfl (pc0 := 68) (pc' := 73) rfl (hb hby d5_68) rfl ((if0 _ _).trans (flt hc27).2.1) (by decide) (by decide) ?_
            refine XS.iinc X25.here hx rfl (hb hby d5_73) rfl (l' := #[.val (.ref a), .val (.int (2 : Int32)), .val (.int x1), .val (.int (own_al x1))]) rfl ?_
            refine XS.goto X25.here hx rfl (pc0 := 76) (pc' := 2) rfl (hb hby d5_76) (by decide) (by decide) ?_
            refine XS.iloadN X25.here hx rfl (hb hby d5_2) rfl ?_
            show Steps pg.tables ee below (T25.setTop (mkF mm 3 #[.val (.ref a), .val (.int (2 : Int32)), .val (.int x1), .val (.int (own_al x1))] [(.int (2 : Int32))])) _
            refine XS.aloadN X25.here hx rfl (hb hby d5_3) rfl rfl ?_
            refine st29.trans ?_
            refine XS.icmpYes X29.here hx rfl (pc0 := 7) (pc' := 79) rfl (hb hby d5_7) rfl (flt (by decide : ¬ ((2 : Int32) < (2 : Int32)))).2.1 (by decide) (by decide) ?_
            refine XS.aloadN X29.here hx rfl (hb hby d5_79) rfl rfl ?_
            refine st31.trans ?_
            refine XS.ifNo X31.here hx rfl (hb hby d5_83) rfl ((if0 _ _).trans (teq (by decide : (0 : Int32) = (0 : Int32))).2) ?_
            refine XS.iconst X31.here hx rfl (hb hby d5_86) ?_
            refine XS.goto X31.here hx rfl (pc0 := 87) (pc' := 91) rfl (hb hby d5_87) (by decide) (by decide) ?_
            show Steps pg.tables ee below (T31.setTop (mkF mm 91 #[.val (.ref a), .val (.int (2 : Int32)), .val (.int x1), .val (.int (own_al x1))] [(.int (1 : Int32))])) _
            exact retN X31 hx (t := .boolean) Bd.returns (by simp) (hb hby d5_91) hr
          · show QrmTk2 Z a x0 x1 cs fm h0 n0 _ T31.heap _
            rw [e31]
            exact ⟨by have t0 := own_ts (Classical.byContradiction fun q => hc13 (hr11.mpr q)); have t1 := own_ts (Classical.byContradiction fun q => hc27 (hr25.mpr q)); simp [own_k2, t0, t1], N31, KK24⟩
          · show CHr Z own_EL s.vm s.heap T31.vm T31.heap
            rw [hh, e31]
            exact CR24.trans (CHv.at X31 hZ hEL CR24.1)
      · obtain ⟨LL32, XL32, NL32⟩ := own_loose X17 N17
        obtain ⟨cq33, kq33, q33a, q33b, q33c⟩ := isOf hZ e17 (Sa.1.ext E9)
        obtain ⟨_, _, ⟨T33, L33, k33, n33⟩, -, X33, ⟨Lc33, hQ33, l33, y33, z33⟩, st33⟩ := XL32.virtualBack hx hown (mvT hZ (own_h hw 30 rfl)) (mvT hZ (own_h hw 31 rfl)) (notFace_of_selects (args := #[]) (mvT hZ (own_h hw 33 rfl))) (mvT hZ (own_h hw 33 rfl)) (mvT hZ (own_h hw 32 rfl)) (by decide) (backOf (W := 1) (rmLenS2 l Z a0 hw [] a x0 x1 cs h9 n0 O9 (Sa.ext E9) hC) hZ (own_h hw 34 rfl) (own_h hw 7 rfl) (by decide) (by decide)) q33a q33c (g := (mkF mm 4 #[.val (.ref a), .val (.int (2 : Int32)), .val (.int x1), .val (.int (own_al x1))] [(.ref a), (.int (2 : Int32))])) rfl (by rw [hml]; rfl) (Steps.refl _) (argsL := []) (rest := [(.int (2 : Int32))]) (lenOf pd_214 rfl) rfl (Nat.le_of_eq rfl) (hb hby d5_4) (fun _ _ => ⟨rfl, e17, (by decide : 2 + 0 ≤ _), (by decide : 64 + 0 ≤ _)⟩)
        dsimp only [Pt.U, Pt.locs, Pt.cells, Pt.slots] at X33 l33 y33 z33 st33 hQ33
        subst l33 y33 z33
        obtain ⟨rfl, N33q, e33⟩ := hQ33
        have N33 := Fr.app NL32 N33q
        obtain ⟨LL34, XL34, NL34⟩ := own_loose X33 N33
        obtain ⟨cq35, kq35, q35a, q35b, q35c⟩ := isOf hZ e33 (Sa.1.ext E9)
        obtain ⟨_, _, ⟨T35, L35, k35, n35⟩, -, X35, ⟨Lc35, hQ35, l35, y35, z35⟩, st35⟩ := XL34.virtualBack hx hown (mvT hZ (own_h hw 41 rfl)) (mvT hZ (own_h hw 42 rfl)) (notFace_of_selects (args := #[]) (mvT hZ (own_h hw 44 rfl))) (mvT hZ (own_h hw 44 rfl)) (mvT hZ (own_h hw 43 rfl)) (by decide) (backOf (W := 0) (rmEmS2 l Z a0 hw [] a x0 x1 h9 n0 O9 (Sa.ext E9)) hZ (own_h hw 45 rfl) (own_h hw 7 rfl) (by decide) (by decide)) q35a q35c (g := (mkF mm 80 #[.val (.ref a), .val (.int (2 : Int32)), .val (.int x1), .val (.int (own_al x1))] [(.ref a)])) rfl (by rw [hml]; rfl) (Steps.refl _) (argsL := []) (rest := []) (lenOf pd_112 rfl) rfl (Nat.le_of_eq rfl) (hb hby d5_80) (fun _ _ => ⟨rfl, e33, (by decide : 2 + 0 ≤ _), (by decide : 64 + 0 ≤ _)⟩)
        dsimp only [Pt.U, Pt.locs, Pt.cells, Pt.slots] at X35 l35 y35 z35 st35 hQ35
        subst l35 y35 z35
        obtain ⟨rfl, N35q, e35⟩ := hQ35
        have N35 := Fr.app NL34 N35q
        obtain ⟨fs, hr, hrun, hended, hRW⟩ := X35.leaveW hS9 (by rw [e35]; exact hk9) (v := some (.int (1 : Int32))) (fun h => by rw [Bd.returns] at h; cases h)
        refine ⟨_, _, pre20 _ ?_, hrun, hended, _, _, rfl, ?_, ?_, (own_rmono hRW (by decide) (by decide))⟩
        · show Steps pg.tables ee below (T17.setTop (mkF mm 59 #[.val (.ref a), .val (.int (1 : Int32)), .val (.int x1), .val (.int (own_al x1))] [(.int (own_al x1))])) _
          refine XS.ifYes X17.here hx rfl (pc0 := 59) (pc' := 73) rfl (hb hby d5_59) rfl ((if0 _ _).trans (feq hc21).2) (by decide) (by decide) ?_
          refine XS.iinc X17.here hx rfl (hb hby d5_73) rfl (l' := #[.val (.ref a), .val (.int (2 : Int32)), .val (.int x1), .val (.int (own_al x1))]) rfl ?_
          refine XS.goto X17.here hx rfl (pc0 := 76) (pc' := 2) rfl (hb hby d5_76) (by decide) (by decide) ?_
          refine XS.iloadN X17.here hx rfl (hb hby d5_2) rfl ?_
          refine XS.aloadN X17.here hx rfl (hb hby d5_3) rfl rfl ?_
          refine st33.trans ?_
          refine XS.icmpYes X33.here hx rfl (pc0 := 7) (pc' := 79) rfl (hb hby d5_7) rfl (flt (by decide : ¬ ((2 : Int32) < (2 : Int32)))).2.1 (by decide) (by decide) ?_
          show Steps pg.tables ee below (T33.setTop (mkF mm 79 #[.val (.ref a), .val (.int (2 : Int32)), .val (.int x1), .val (.int (own_al x1))] [])) _
          refine XS.aloadN X33.here hx rfl (hb hby d5_79) rfl rfl ?_
          refine st35.trans ?_
          refine XS.ifNo X35.here hx rfl (hb hby d5_83) rfl ((if0 _ _).trans (teq (by decide : (0 : Int32) = (0 : Int32))).2) ?_
          refine XS.iconst X35.here hx rfl (hb hby d5_86) ?_
          refine XS.goto X35.here hx rfl (pc0 := 87) (pc' := 91) rfl (hb hby d5_87) (by decide) (by decide) ?_
          exact retN X35 hx (t := .boolean) Bd.returns (by simp) (hb hby d5_91) hr
        · show QrmTk2 Z a x0 x1 cs fm h0 n0 _ T35.heap _
          rw [e35]
          exact ⟨by have t0 := own_ts (Classical.byContradiction fun q => hc13 (hr11.mpr q)); have t1 := own_ta hc21; simp [own_k2, t0, t1], N35, KK9⟩
        · show CHr Z own_EL s.vm s.heap T35.vm T35.heap
          rw [hh, e35]
          exact CR9.trans (CHv.at X35 hZ hEL CR9.1)
  · obtain ⟨LL36, XL36, NL36⟩ := own_loose X3 N3
    obtain ⟨cq37, kq37, q37a, q37b, q37c⟩ := isOf hZ e3 Sa.1
    obtain ⟨_, _, ⟨T37, L37, k37, n37⟩, -, X37, ⟨Lc37, hQ37, l37, y37, z37⟩, st37⟩ := XL36.virtualBack hx hown (mvT hZ (own_h hw 30 rfl)) (mvT hZ (own_h hw 31 rfl)) (notFace_of_selects (args := #[]) (mvT hZ (own_h hw 33 rfl))) (mvT hZ (own_h hw 33 rfl)) (mvT hZ (own_h hw 32 rfl)) (by decide) (backOf (W := 1) (rmLenS2 l Z a0 hw [] a x0 x1 cs h0 n0 O0 Sa hC) hZ (own_h hw 34 rfl) (own_h hw 7 rfl) (by decide) (by decide)) q37a q37c (g := (mkF mm 4 #[.val (.ref a), .val (.int (1 : Int32)), .val (.int x0), .val (.int (own_al x0))] [(.ref a), (.int (1 : Int32))])) rfl (by rw [hml]; rfl) (Steps.refl _) (argsL := []) (rest := [(.int (1 : Int32))]) (lenOf pd_214 rfl) rfl (Nat.le_of_eq rfl) (hb hby d5_4) (fun _ _ => ⟨rfl, e3, (by decide : 0 + 0 ≤ _), (by decide : 0 + 0 ≤ _)⟩)
    dsimp only [Pt.U, Pt.locs, Pt.cells, Pt.slots] at X37 l37 y37 z37 st37 hQ37
    subst l37 y37 z37
    obtain ⟨rfl, N37q, e37⟩ := hQ37
    have N37 := Fr.app NL36 N37q
    obtain ⟨LL38, XL38, NL38⟩ := own_loose X37 N37
    obtain ⟨cq39, kq39, q39a, q39b, q39c⟩ := isOf hZ e37 Sa.1
    obtain ⟨_, _, ⟨T39, L39, k39, n39⟩, -, X39, ⟨Lc39, hQ39, l39, y39, z39⟩, st39⟩ := XL38.virtualBack hx hown (mvT hZ (own_h hw 59 rfl)) (mvT hZ (own_h hw 60 rfl)) (notFace_of_selects (args := #[]) (mvT hZ (own_h hw 62 rfl))) (mvT hZ (own_h hw 62 rfl)) (mvT hZ (own_h hw 61 rfl)) (by decide) (backOf (W := 0) (rmChS2_1 l Z a0 hw [] a x0 x1 cs fm h0 n0 O0 Sa hC hG hF ha0 hb0 ha1 hb1) hZ (own_h hw 63 rfl) (own_h hw 7 rfl) (by decide) (by decide)) q39a q39c (g := (mkF mm 12 #[.val (.ref a), .val (.int (1 : Int32)), .val (.int x0), .val (.int (own_al x0))] [(.int (1 : Int32)), (.ref a)])) rfl (by rw [hml]; rfl) (Steps.refl _) (argsL := [(.int (1 : Int32))]) (rest := []) (lenOf pd_523 rfl) rfl (Nat.le_of_eq rfl) (hb hby d5_12) (fun _ _ => ⟨rfl, e37, (by decide : 0 + 0 ≤ _), (by decide : 0 + 0 ≤ _)⟩)
    dsimp only [Pt.U, Pt.locs, Pt.cells, Pt.slots] at X39 l39 y39 z39 st39 hQ39
    subst l39 y39 z39
    obtain ⟨rfl, N39q, e39⟩ := hQ39
    have N39 := Fr.app NL38 N39q
    have pre40 := fun tg_ (k_ : Steps pg.tables ee below (T39.setTop (mkF mm 16 #[.val (.ref a), .val (.int (1 : Int32)), .val (.int x1), .val (.int (own_al x0))] [])) tg_) => pre6 tg_ (by
      show Steps pg.tables ee below (T3.setTop (mkF mm 59 #[.val (.ref a), .val (.int (0 : Int32)), .val (.int x0), .val (.int (own_al x0))] [(.int (own_al x0))])) _
      refine XS.ifYes X3.here hx rfl (pc0 := 59) (pc' := 73) rfl (hb hby d5_59) rfl ((if0 _ _).trans (feq hc7).2) (by decide) (by decide) ?_
      refine XS.iinc X3.here hx rfl (hb hby d5_73) rfl (l' := #[.val (.ref a), .val (.int (1 : Int32)), .val (.int x0), .val (.int (own_al x0))]) rfl ?_
      refine XS.goto X3.here hx rfl (pc0 := 76) (pc' := 2) rfl (hb hby d5_76) (by decide) (by decide) ?_
      refine XS.iloadN X3.here hx rfl (hb hby d5_2) rfl ?_
      refine XS.aloadN X3.here hx rfl (hb hby d5_3) rfl rfl ?_
      refine st37.trans ?_
      refine XS.icmpNo X37.here hx rfl (hb hby d5_7) rfl (tlt (by decide : (1 : Int32) < (2 : Int32))).2.1 ?_
      show Steps pg.tables ee below (T37.setTop (mkF mm 10 #[.val (.ref a), .val (.int (1 : Int32)), .val (.int x0), .val (.int (own_al x0))] [])) _
      refine XS.aloadN X37.here hx rfl (hb hby d5_10) rfl rfl ?_
      refine XS.iloadN X37.here hx rfl (hb hby d5_11) rfl ?_
      refine st39.trans ?_
      refine XS.istoreN X39.here hx rfl (hb hby d5_15) rfl (l' := #[.val (.ref a), .val (.int (1 : Int32)), .val (.int x1), .val (.int (own_al x0))]) rfl ?_
      exact k_)
    have pre41 : ∀ tg_, Steps pg.tables ee below (T39.setTop (mkF mm 58 #[.val (.ref a), .val (.int (1 : Int32)), .val (.int x1), .val (.int (own_al x1))] [])) tg_ → Steps pg.tables ee below (s₁.setTop (entryFrame mm #[(.ref a)] 4)) tg_ := fun tg_ k_ => pre40 tg_ (pcAli X39 hx hby a (1 : Int32) x1 (own_al x0) tg_ k_)
    have pre42 := fun tg_ (k_ : Steps pg.tables ee below (T39.setTop (mkF mm 59 #[.val (.ref a), .val (.int (1 : Int32)), .val (.int x1), .val (.int (own_al x1))] [(.int (own_al x1))])) tg_) => pre41 tg_ (by
      show Steps pg.tables ee below (T39.setTop (mkF mm 58 #[.val (.ref a), .val (.int (1 : Int32)), .val (.int x1), .val (.int (own_al x1))] [])) _
      refine XS.iloadN X39.here hx rfl (hb hby d5_58) rfl ?_
      exact k_)
    by_cases hc43 : (own_al x1) = (0 : Int32)
    · have pre44 := fun tg_ (k_ : Steps pg.tables ee below (T39.setTop (mkF mm 62 #[.val (.ref a), .val (.int (1 : Int32)), .val (.int x1), .val (.int (own_al x1))] [])) tg_) => pre42 tg_ (by
        show Steps pg.tables ee below (T39.setTop (mkF mm 59 #[.val (.ref a), .val (.int (1 : Int32)), .val (.int x1), .val (.int (own_al x1))] [(.int (own_al x1))])) _
        refine XS.ifNo X39.here hx rfl (hb hby d5_59) rfl ((if0 _ _).trans (teq hc43).2) ?_
        exact k_)
      obtain ⟨sa45, T45, h45, k45, sb45, sk45, X45, e45, E45, hS45, hk45, hZ, hown, Es45, Fc45, Fv45, Va45, lt45, lu45, CQ45, -, hne45, st45⟩ := ldcCH (EL := own_EL) (vs := [(.int (33 : Int32)), (.int (35 : Int32)), (.int (36 : Int32)), (.int (37 : Int32)), (.int (38 : Int32)), (.int (39 : Int32)), (.int (42 : Int32)), (.int (43 : Int32)), (.int (45 : Int32)), (.int (46 : Int32)), (.int (94 : Int32)), (.int (95 : Int32)), (.int (96 : Int32)), (.int (124 : Int32)), (.int (126 : Int32))]) (z := (15 : Int32)) (n := 60) X39 hx hZ hown (own_h hw 81 rfl) (own_wS hw) e39 hS0 (Nat.zero_le _) hEL (List.mem_of_getElem? (i := 0) rfl) CR0.1 (by decide +kernel) (by decide) rfl (g := (mkF mm 62 #[.val (.ref a), .val (.int (1 : Int32)), .val (.int x1), .val (.int (own_al x1))] [])) rfl (hb hby d5_62) (by decide +kernel) (by decide) (by decide) (by decide)
      have CR45 := CR0.trans CQ45
      have O45 := O0.ext E45
      have KK45 := K0.ext E45
      obtain ⟨LL46, XL46, NL46⟩ := own_loose X45 N39
      obtain ⟨cq47, kq47, q47a, q47b, q47c⟩ := isOf hZ e45 Es45
      obtain ⟨_, _, ⟨T47, L47, k47, n47⟩, -, X47, ⟨Lc47, hQ47, l47, y47, z47⟩, st47⟩ := XL46.virtualBack hx hown (mvT hZ (own_h hw 82 rfl)) (mvT hZ (own_h hw 83 rfl)) (notFace_of_selects (args := #[]) (mvT hZ (own_h hw 85 rfl))) (mvT hZ (own_h hw 85 rfl)) (mvT hZ (own_h hw 84 rfl)) (by decide) (backOf (W := 0) (rmX1 l Z a0 hw [] sa45 sb45 sk45 x1 cs h45 n0 O45 Fc45 Fv45 Va45 Es45 hC ha1) hZ (own_h hw 86 rfl) (own_h hw 7 rfl) (by decide) (by decide)) q47a q47c (g := (mkF mm 65 #[.val (.ref a), .val (.int (1 : Int32)), .val (.int x1), .val (.int (own_al x1))] [(.int x1), (.ref sa45)])) rfl (by rw [hml]; rfl) (Steps.refl _) (argsL := [(.int x1)]) (rest := []) (lenOf pd_375 rfl) rfl (Nat.le_of_eq rfl) (hb hby d5_65) (fun _ _ => ⟨rfl, e45, (by decide : 2 + 0 ≤ _), (by decide : 64 + 0 ≤ _)⟩)
      dsimp only [Pt.U, Pt.locs, Pt.cells, Pt.slots] at X47 l47 y47 z47 st47 hQ47
      subst l47 y47 z47
      obtain ⟨r47, rfl, N47q, e47, hr47⟩ := hQ47
      have N47 := Fr.app NL46 N47q
      have pre48 := fun tg_ (k_ : Steps pg.tables ee below (T47.setTop (mkF mm 68 #[.val (.ref a), .val (.int (1 : Int32)), .val (.int x1), .val (.int (own_al x1))] [(.int r47)])) tg_) => pre44 tg_ (by
        show Steps pg.tables ee below (T39.setTop (mkF mm 62 #[.val (.ref a), .val (.int (1 : Int32)), .val (.int x1), .val (.int (own_al x1))] [])) _
        refine st45 _ ?_
        refine XS.iloadN X45.here hx rfl (hb hby d5_64) rfl ?_
        refine st47.trans ?_
        exact k_)
      by_cases hc49 : r47 < (0 : Int32)
      · obtain ⟨fs, hr, hrun, hended, hRW⟩ := X47.leaveW hS45 (by rw [e47]; exact hk45) (v := some (.int (0 : Int32))) (fun h => by rw [Bd.returns] at h; cases h)
        refine ⟨_, _, pre48 _ ?_, hrun, hended, _, _, rfl, ?_, ?_, (own_rmono hRW (by decide) (by decide))⟩
        · show Steps pg.tables ee below (T47.setTop (mkF mm 68 #[.val (.ref a), .val (.int (1 : Int32)), .val (.int x1), .val (.int (own_al x1))] [(.int r47)])) _
          refine XS.ifNo X47.here hx rfl (hb hby d5_68) rfl ((if0 _ _).trans (tlt hc49).2.1) ?_
          refine XS.iconst X47.here hx rfl (hb hby d5_71) ?_
          exact retN X47 hx (t := .boolean) Bd.returns (by simp) (hb hby d5_72) hr
        · show QrmTk2 Z a x0 x1 cs fm h0 n0 _ T47.heap _
          rw [e47]
          exact ⟨by have t0 := own_ta hc7; have t1 := own_tn hc43 (hr47.mp hc49); simp [own_k2, t0, t1], N47, KK45⟩
        · show CHr Z own_EL s.vm s.heap T47.vm T47.heap
          rw [hh, e47]
          exact CR45.trans (CHv.at X47 hZ hEL CR45.1)
      · obtain ⟨LL50, XL50, NL50⟩ := own_loose X47 N47
        obtain ⟨cq51, kq51, q51a, q51b, q51c⟩ := isOf hZ e47 (Sa.1.ext E45)
        obtain ⟨_, _, ⟨T51, L51, k51, n51⟩, -, X51, ⟨Lc51, hQ51, l51, y51, z51⟩, st51⟩ := XL50.virtualBack hx hown (mvT hZ (own_h hw 30 rfl)) (mvT hZ (own_h hw 31 rfl)) (notFace_of_selects (args := #[]) (mvT hZ (own_h hw 33 rfl))) (mvT hZ (own_h hw 33 rfl)) (mvT hZ (own_h hw 32 rfl)) (by decide) (backOf (W := 1) (rmLenS2 l Z a0 hw [] a x0 x1 cs h45 n0 O45 (Sa.ext E45) hC) hZ (own_h hw 34 rfl) (own_h hw 7 rfl) (by decide) (by decide)) q51a q51c (g := (mkF mm 4 #[.val (.ref a), .val (.int (2 : Int32)), .val (.int x1), .val (.int (own_al x1))] [(.ref a), (.int (2 : Int32))])) rfl (by rw [hml]; rfl) (Steps.refl _) (argsL := []) (rest := [(.int (2 : Int32))]) (lenOf pd_214 rfl) rfl (Nat.le_of_eq rfl) (hb hby d5_4) (fun _ _ => ⟨rfl, e47, (by decide : 2 + 0 ≤ _), (by decide : 64 + 0 ≤ _)⟩)
        dsimp only [Pt.U, Pt.locs, Pt.cells, Pt.slots] at X51 l51 y51 z51 st51 hQ51
        subst l51 y51 z51
        obtain ⟨rfl, N51q, e51⟩ := hQ51
        have N51 := Fr.app NL50 N51q
        obtain ⟨LL52, XL52, NL52⟩ := own_loose X51 N51
        obtain ⟨cq53, kq53, q53a, q53b, q53c⟩ := isOf hZ e51 (Sa.1.ext E45)
        obtain ⟨_, _, ⟨T53, L53, k53, n53⟩, -, X53, ⟨Lc53, hQ53, l53, y53, z53⟩, st53⟩ := XL52.virtualBack hx hown (mvT hZ (own_h hw 41 rfl)) (mvT hZ (own_h hw 42 rfl)) (notFace_of_selects (args := #[]) (mvT hZ (own_h hw 44 rfl))) (mvT hZ (own_h hw 44 rfl)) (mvT hZ (own_h hw 43 rfl)) (by decide) (backOf (W := 0) (rmEmS2 l Z a0 hw [] a x0 x1 h45 n0 O45 (Sa.ext E45)) hZ (own_h hw 45 rfl) (own_h hw 7 rfl) (by decide) (by decide)) q53a q53c (g := (mkF mm 80 #[.val (.ref a), .val (.int (2 : Int32)), .val (.int x1), .val (.int (own_al x1))] [(.ref a)])) rfl (by rw [hml]; rfl) (Steps.refl _) (argsL := []) (rest := []) (lenOf pd_112 rfl) rfl (Nat.le_of_eq rfl) (hb hby d5_80) (fun _ _ => ⟨rfl, e51, (by decide : 2 + 0 ≤ _), (by decide : 64 + 0 ≤ _)⟩)
        dsimp only [Pt.U, Pt.locs, Pt.cells, Pt.slots] at X53 l53 y53 z53 st53 hQ53
        subst l53 y53 z53
        obtain ⟨rfl, N53q, e53⟩ := hQ53
        have N53 := Fr.app NL52 N53q
        obtain ⟨fs, hr, hrun, hended, hRW⟩ := X53.leaveW hS45 (by rw [e53]; exact hk45) (v := some (.int (1 : Int32))) (fun h => by rw [Bd.returns] at h; cases h)
        refine ⟨_, _, pre48 _ ?_, hrun, hended, _, _, rfl, ?_, ?_, (own_rmono hRW (by decide) (by decide))⟩
        · show Steps pg.tables ee below (T47.setTop (mkF mm 68 #[.val (.ref a), .val (.int (1 : Int32)), .val (.int x1), .val (.int (own_al x1))] [(.int r47)])) _
          refine XS.ifYes X47.here hx rfl (pc0 := 68) (pc' := 73) rfl (hb hby d5_68) rfl ((if0 _ _).trans (flt hc49).2.1) (by decide) (by decide) ?_
          refine XS.iinc X47.here hx rfl (hb hby d5_73) rfl (l' := #[.val (.ref a), .val (.int (2 : Int32)), .val (.int x1), .val (.int (own_al x1))]) rfl ?_
          refine XS.goto X47.here hx rfl (pc0 := 76) (pc' := 2) rfl (hb hby d5_76) (by decide) (by decide) ?_
          refine XS.iloadN X47.here hx rfl (hb hby d5_2) rfl ?_
          show Steps pg.tables ee below (T47.setTop (mkF mm 3 #[.val (.ref a), .val (.int (2 : Int32)), .val (.int x1), .val (.int (own_al x1))] [(.int (2 : Int32))])) _
          refine XS.aloadN X47.here hx rfl (hb hby d5_3) rfl rfl ?_
          refine st51.trans ?_
          refine XS.icmpYes X51.here hx rfl (pc0 := 7) (pc' := 79) rfl (hb hby d5_7) rfl (flt (by decide : ¬ ((2 : Int32) < (2 : Int32)))).2.1 (by decide) (by decide) ?_
          refine XS.aloadN X51.here hx rfl (hb hby d5_79) rfl rfl ?_
          refine st53.trans ?_
          refine XS.ifNo X53.here hx rfl (hb hby d5_83) rfl ((if0 _ _).trans (teq (by decide : (0 : Int32) = (0 : Int32))).2) ?_
          refine XS.iconst X53.here hx rfl (hb hby d5_86) ?_
          refine XS.goto X53.here hx rfl (pc0 := 87) (pc' := 91) rfl (hb hby d5_87) (by decide) (by decide) ?_
          show Steps pg.tables ee below (T53.setTop (mkF mm 91 #[.val (.ref a), .val (.int (2 : Int32)), .val (.int x1), .val (.int (own_al x1))] [(.int (1 : Int32))])) _
          exact retN X53 hx (t := .boolean) Bd.returns (by simp) (hb hby d5_91) hr
        · show QrmTk2 Z a x0 x1 cs fm h0 n0 _ T53.heap _
          rw [e53]
          exact ⟨by have t0 := own_ta hc7; have t1 := own_ts (Classical.byContradiction fun q => hc49 (hr47.mpr q)); simp [own_k2, t0, t1], N53, KK45⟩
        · show CHr Z own_EL s.vm s.heap T53.vm T53.heap
          rw [hh, e53]
          exact CR45.trans (CHv.at X53 hZ hEL CR45.1)
    · obtain ⟨LL54, XL54, NL54⟩ := own_loose X39 N39
      obtain ⟨cq55, kq55, q55a, q55b, q55c⟩ := isOf hZ e39 Sa.1
      obtain ⟨_, _, ⟨T55, L55, k55, n55⟩, -, X55, ⟨Lc55, hQ55, l55, y55, z55⟩, st55⟩ := XL54.virtualBack hx hown (mvT hZ (own_h hw 30 rfl)) (mvT hZ (own_h hw 31 rfl)) (notFace_of_selects (args := #[]) (mvT hZ (own_h hw 33 rfl))) (mvT hZ (own_h hw 33 rfl)) (mvT hZ (own_h hw 32 rfl)) (by decide) (backOf (W := 1) (rmLenS2 l Z a0 hw [] a x0 x1 cs h0 n0 O0 Sa hC) hZ (own_h hw 34 rfl) (own_h hw 7 rfl) (by decide) (by decide)) q55a q55c (g := (mkF mm 4 #[.val (.ref a), .val (.int (2 : Int32)), .val (.int x1), .val (.int (own_al x1))] [(.ref a), (.int (2 : Int32))])) rfl (by rw [hml]; rfl) (Steps.refl _) (argsL := []) (rest := [(.int (2 : Int32))]) (lenOf pd_214 rfl) rfl (Nat.le_of_eq rfl) (hb hby d5_4) (fun _ _ => ⟨rfl, e39, (by decide : 0 + 0 ≤ _), (by decide : 0 + 0 ≤ _)⟩)
      dsimp only [Pt.U, Pt.locs, Pt.cells, Pt.slots] at X55 l55 y55 z55 st55 hQ55
      subst l55 y55 z55
      obtain ⟨rfl, N55q, e55⟩ := hQ55
      have N55 := Fr.app NL54 N55q
      obtain ⟨LL56, XL56, NL56⟩ := own_loose X55 N55
      obtain ⟨cq57, kq57, q57a, q57b, q57c⟩ := isOf hZ e55 Sa.1
      obtain ⟨_, _, ⟨T57, L57, k57, n57⟩, -, X57, ⟨Lc57, hQ57, l57, y57, z57⟩, st57⟩ := XL56.virtualBack hx hown (mvT hZ (own_h hw 41 rfl)) (mvT hZ (own_h hw 42 rfl)) (notFace_of_selects (args := #[]) (mvT hZ (own_h hw 44 rfl))) (mvT hZ (own_h hw 44 rfl)) (mvT hZ (own_h hw 43 rfl)) (by decide) (backOf (W := 0) (rmEmS2 l Z a0 hw [] a x0 x1 h0 n0 O0 Sa) hZ (own_h hw 45 rfl) (own_h hw 7 rfl) (by decide) (by decide)) q57a q57c (g := (mkF mm 80 #[.val (.ref a), .val (.int (2 : Int32)), .val (.int x1), .val (.int (own_al x1))] [(.ref a)])) rfl (by rw [hml]; rfl) (Steps.refl _) (argsL := []) (rest := []) (lenOf pd_112 rfl) rfl (Nat.le_of_eq rfl) (hb hby d5_80) (fun _ _ => ⟨rfl, e55, (by decide : 0 + 0 ≤ _), (by decide : 0 + 0 ≤ _)⟩)
      dsimp only [Pt.U, Pt.locs, Pt.cells, Pt.slots] at X57 l57 y57 z57 st57 hQ57
      subst l57 y57 z57
      obtain ⟨rfl, N57q, e57⟩ := hQ57
      have N57 := Fr.app NL56 N57q
      obtain ⟨fs, hr, hrun, hended, hRW⟩ := X57.leaveW hS0 (by rw [e57]; exact (Nat.zero_le _)) (v := some (.int (1 : Int32))) (fun h => by rw [Bd.returns] at h; cases h)
      refine ⟨_, _, pre42 _ ?_, hrun, hended, _, _, rfl, ?_, ?_, (own_rmono hRW (by decide) (by decide))⟩
      · show Steps pg.tables ee below (T39.setTop (mkF mm 59 #[.val (.ref a), .val (.int (1 : Int32)), .val (.int x1), .val (.int (own_al x1))] [(.int (own_al x1))])) _
        refine XS.ifYes X39.here hx rfl (pc0 := 59) (pc' := 73) rfl (hb hby d5_59) rfl ((if0 _ _).trans (feq hc43).2) (by decide) (by decide) ?_
        refine XS.iinc X39.here hx rfl (hb hby d5_73) rfl (l' := #[.val (.ref a), .val (.int (2 : Int32)), .val (.int x1), .val (.int (own_al x1))]) rfl ?_
        refine XS.goto X39.here hx rfl (pc0 := 76) (pc' := 2) rfl (hb hby d5_76) (by decide) (by decide) ?_
        refine XS.iloadN X39.here hx rfl (hb hby d5_2) rfl ?_
        refine XS.aloadN X39.here hx rfl (hb hby d5_3) rfl rfl ?_
        refine st55.trans ?_
        refine XS.icmpYes X55.here hx rfl (pc0 := 7) (pc' := 79) rfl (hb hby d5_7) rfl (flt (by decide : ¬ ((2 : Int32) < (2 : Int32)))).2.1 (by decide) (by decide) ?_
        show Steps pg.tables ee below (T55.setTop (mkF mm 79 #[.val (.ref a), .val (.int (2 : Int32)), .val (.int x1), .val (.int (own_al x1))] [])) _
        refine XS.aloadN X55.here hx rfl (hb hby d5_79) rfl rfl ?_
        refine st57.trans ?_
        refine XS.ifNo X57.here hx rfl (hb hby d5_83) rfl ((if0 _ _).trans (teq (by decide : (0 : Int32) = (0 : Int32))).2) ?_
        refine XS.iconst X57.here hx rfl (hb hby d5_86) ?_
        refine XS.goto X57.here hx rfl (pc0 := 87) (pc' := 91) rfl (hb hby d5_87) (by decide) (by decide) ?_
        exact retN X57 hx (t := .boolean) Bd.returns (by simp) (hb hby d5_91) hr
      · show QrmTk2 Z a x0 x1 cs fm h0 n0 _ T57.heap _
        rw [e57]
        exact ⟨by have t0 := own_ta hc7; have t1 := own_ta hc43; simp [own_k2, t0, t1], N57, K0⟩
      · show CHr Z own_EL s.vm s.heap T57.vm T57.heap
        rw [hh, e57]
        exact CR0.trans (CHv.at X57 hZ hEL CR0.1)
def QrmTk3 (Z : State) (a : Addr) (x0 : Int32) (x1 : Int32) (x2 : Int32) (cs : Int32) (fm : Value) (h0 : Heap) (n0 : Nat) (v : Option Value) (h : Heap) (L : List Loc) : Prop := v = some (.int (own_k3 x0 x1 x2)) ∧ Fr n0 L ∧ Keep h0 h []
set_option maxRecDepth 65536 in
set_option maxHeartbeats 40000000 in
theorem rmTk3 (l : Launch) (Z : State) (a0 : Array Value) (hw : ∀ d ∈ tables_1, d.before a0 Z = true) (ws : List Jvm.Cond) (a : Addr) (x0 : Int32) (x1 : Int32) (x2 : Int32) (cs : Int32) (fm : Value) (h0 : Heap) (n0 : Nat) (O0 : Old Z n0 h0) (Sa : own_S3 Z h0 a x0 x1 x2) (hC : own_C Z cs) (hG : own_G Z) (hF : own_F Z fm) (ha0 : ¬ (x0 < (0 : Int32))) (hb0 : ¬ ((65535 : Int32) < x0)) (ha1 : ¬ (x1 < (0 : Int32))) (hb1 : ¬ ((65535 : Int32) < x1)) (ha2 : ¬ (x2 < (0 : Int32))) (hb2 : ¬ ((65535 : Int32) < x2)) :
    MetFree l (⟨"com/example/waxwing/waxwing/http/Head", "token", "(Ljava/lang/String;)Z"⟩ : MethodName) (head1 (Jvm.Cond.code (⟨"com/example/waxwing/waxwing/http/Head", "token", "(Ljava/lang/String;)Z"⟩ : MethodName) prog_14_method_3_code 4 (some .boolean) :: ws) ({ frames := 5, cells := 6, slots := 192, locals := 66 } : Room)) (fun a_ U_ => a_ = #[(.ref a)] ∧ Z.Warmed39 U_.vm ∧ U_.heap = h0 ∧ CHv Z own_EL U_.vm h0) (fun _ _ _ _ _ => True) (fun _ U_ o_ U'_ => ∃ v_ L_, o_ = .returned v_ ∧ QrmTk3 Z a x0 x1 x2 cs fm h0 n0 v_ U'_.heap L_ ∧ CHr Z own_EL U_.vm U_.heap U'_.vm U'_.heap ∧ ReturnedEndW U_ o_ U'_ L_ ({ frames := 5, cells := 6, slots := 192, locals := 66 } : Room).cells ({ frames := 5, cells := 6, slots := 192, locals := 66 } : Room).slots) := by
  refine MetFree.of_bodySF (plainFor_of_name pn_518) hisR ?_
  intro pg ee s mm args below meth cc s₁ Bd hml0 hP hK
  obtain ⟨rfl, hZ, hh, HC0⟩ := hP
  have hx := Bd.exec
  have hby := Bd.bytes
  have hml : cc.maxLocals = 4 := hml0
  have hown : s.vm.findClass "com/example/waxwing/waxwing/http/Head" = some mm.cls := findClass_of_methodNamed Bd.named
  have hnm := (name_of_methodNamed Bd.named Bd.method).1
  have X0 : Stand pg l ee ({ frames := 5, cells := 6, slots := 192, locals := 66 } : Room) s mm #[(.ref a)] below meth cc s₁ [] 0 0 := Stand.of_body Bd
  have e0 : s₁.heap = h0 := by rw [← hh, Bd.state]; rfl
  have N0 := Fr.nil n0
  have K0 : Keep h0 h0 ([] : List Addr) := Keep.refl _ _
  have XW : Stand pg l ee ({ frames := 5, cells := 6, slots := 192, locals := 66 } : Room) (s.setVm s.vm) mm #[(.ref a)] below meth cc s₁ [] 0 0 := X0
  have hS0 : s.Since s.vm 0 := (State.WarmedH.refl s).since 0
  have CR0 : CHr Z own_EL s.vm h0 s.vm h0 := CHr.refl HC0
  have hEL := own_hEL hw
  have pre0 : ∀ tg_, Steps pg.tables ee below (s₁.setTop (mkF mm 0 #[.val (.ref a), .unset, .unset, .unset] [])) tg_ → Steps pg.tables ee below (s₁.setTop (entryFrame mm #[(.ref a)] 4)) tg_ := fun tg_ k_ => castTop (ef_5_519 mm a) k_
  obtain ⟨cq1, kq1, q1a, q1b, q1c⟩ := isOf hZ e0 Sa.1
  obtain ⟨_, _, ⟨T1, L1, k1, n1⟩, -, X1, ⟨Lc1, hQ1, l1, y1, z1⟩, st1⟩ := XW.virtualBack hx hown (mvT hZ (own_h hw 30 rfl)) (mvT hZ (own_h hw 31 rfl)) (notFace_of_selects (args := #[]) (mvT hZ (own_h hw 33 rfl))) (mvT hZ (own_h hw 33 rfl)) (mvT hZ (own_h hw 32 rfl)) (by decide) (backOf (W := 1) (rmLenS3 l Z a0 hw [] a x0 x1 x2 cs h0 n0 O0 Sa hC) hZ (own_h hw 34 rfl) (own_h hw 7 rfl) (by decide) (by decide)) q1a q1c (g := (mkF mm 4 #[.val (.ref a), .val (.int (0 : Int32)), .unset, .unset] [(.ref a), (.int (0 : Int32))])) rfl (by rw [hml]; rfl) (Steps.refl _) (argsL := []) (rest := [(.int (0 : Int32))]) (lenOf pd_214 rfl) rfl (Nat.le_of_eq rfl) (hb hby d5_4) (fun _ _ => ⟨rfl, e0, (by decide : 0 + 0 ≤ _), (by decide : 0 + 0 ≤ _)⟩)
  dsimp only [Pt.U, Pt.locs, Pt.cells, Pt.slots] at X1 l1 y1 z1 st1 hQ1
  subst l1 y1 z1
  obtain ⟨rfl, N1q, e1⟩ := hQ1
  have N1 := Fr.app N0 N1q
  obtain ⟨LL2, XL2, NL2⟩ := own_loose X1 N1
  obtain ⟨cq3, kq3, q3a, q3b, q3c⟩ := isOf hZ e1 Sa.1
  obtain ⟨_, _, ⟨T3, L3, k3, n3⟩, -, X3, ⟨Lc3, hQ3, l3, y3, z3⟩, st3⟩ := XL2.virtualBack hx hown (mvT hZ (own_h hw 59 rfl)) (mvT hZ (own_h hw 60 rfl)) (notFace_of_selects (args := #[]) (mvT hZ (own_h hw 62 rfl))) (mvT hZ (own_h hw 62 rfl)) (mvT hZ (own_h hw 61 rfl)) (by decide) (backOf (W := 0) (rmChS3_0 l Z a0 hw [] a x0 x1 x2 cs fm h0 n0 O0 Sa hC hG hF ha0 hb0 ha1 hb1 ha2 hb2) hZ (own_h hw 63 rfl) (own_h hw 7 rfl) (by decide) (by decide)) q3a q3c (g := (mkF mm 12 #[.val (.ref a), .val (.int (0 : Int32)), .unset, .unset] [(.int (0 : Int32)), (.ref a)])) rfl (by rw [hml]; rfl) (Steps.refl _) (argsL := [(.int (0 : Int32))]) (rest := []) (lenOf pd_523 rfl) rfl (Nat.le_of_eq rfl) (hb hby d5_12) (fun _ _ => ⟨rfl, e1, (by decide : 0 + 0 ≤ _), (by decide : 0 + 0 ≤ _)⟩)
  dsimp only [Pt.U, Pt.locs, Pt.cells, Pt.slots] at X3 l3 y3 z3 st3 hQ3
  subst l3 y3 z3
  obtain ⟨rfl, N3q, e3⟩ := hQ3
  have N3 := Fr.app NL2 N3q
  have pre4 := fun tg_ (k_ : Steps pg.tables ee below (T3.setTop (mkF mm 16 #[.val (.ref a), .val (.int (0 : Int32)), .val (.int x0), .unset] [])) tg_) => pre0 tg_ (by
    show Steps pg.tables ee below (s₁.setTop (mkF mm 0 #[.val (.ref a), .unset, .unset, .unset] [])) _
    refine XS.iconst XW.here hx rfl (hb hby d5_0) ?_
    refine XS.istoreN XW.here hx rfl (hb hby d5_1) rfl (l' := #[.val (.ref a), .val (.int (0 : Int32)), .unset, .unset]) rfl ?_
    refine XS.iloadN XW.here hx rfl (hb hby d5_2) rfl ?_
    refine XS.aloadN XW.here hx rfl (hb hby d5_3) rfl rfl ?_
    refine st1.trans ?_
    refine XS.icmpNo X1.here hx rfl (hb hby d5_7) rfl (tlt (by decide : (0 : Int32) < (3 : Int32))).2.1 ?_
    refine XS.aloadN X1.here hx rfl (hb hby d5_10) rfl rfl ?_
    refine XS.iloadN X1.here hx rfl (hb hby d5_11) rfl ?_
    show Steps pg.tables ee below (T1.setTop (mkF mm 12 #[.val (.ref a), .val (.int (0 : Int32)), .unset, .unset] [(.int (0 : Int32)), (.ref a)])) _
    refine st3.trans ?_
    refine XS.istoreN X3.here hx rfl (hb hby d5_15) rfl (l' := #[.val (.ref a), .val (.int (0 : Int32)), .val (.int x0), .unset]) rfl ?_
    exact k_)
  have pre5 : ∀ tg_, Steps pg.tables ee below (T3.setTop (mkF mm 58 #[.val (.ref a), .val (.int (0 : Int32)), .val (.int x0), .val (.int (own_al x0))] [])) tg_ → Steps pg.tables ee below (s₁.setTop (entryFrame mm #[(.ref a)] 4)) tg_ := fun tg_ k_ => pre4 tg_ (pcAlu X3 hx hby a (0 : Int32) x0 tg_ k_)
  have pre6 := fun tg_ (k_ : Steps pg.tables ee below (T3.setTop (mkF mm 59 #[.val (.ref a), .val (.int (0 : Int32)), .val (.int x0), .val (.int (own_al x0))] [(.int (own_al x0))])) tg_) => pre5 tg_ (by
    show Steps pg.tables ee below (T3.setTop (mkF mm 58 #[.val (.ref a), .val (.int (0 : Int32)), .val (.int x0), .val (.int (own_al x0))] [])) _
    refine XS.iloadN X3.here hx rfl (hb hby d5_58) rfl ?_
    exact k_)
  by_cases hc7 : (own_al x0) = (0 : Int32)
  · have pre8 := fun tg_ (k_ : Steps pg.tables ee below (T3.setTop (mkF mm 62 #[.val (.ref a), .val (.int (0 : Int32)), .val (.int x0), .val (.int (own_al x0))] [])) tg_) => pre6 tg_ (by
      show Steps pg.tables ee below (T3.setTop (mkF mm 59 #[.val (.ref a), .val (.int (0 : Int32)), .val (.int x0), .val (.int (own_al x0))] [(.int (own_al x0))])) _
      refine XS.ifNo X3.here hx rfl (hb hby d5_59) rfl ((if0 _ _).trans (teq hc7).2) ?_
      exact k_)
    obtain ⟨sa9, T9, h9, k9, sb9, sk9, X9, e9, E9, hS9, hk9, hZ, hown, Es9, Fc9, Fv9, Va9, lt9, lu9, CQ9, -, hne9, st9⟩ := ldcCH (EL := own_EL) (vs := [(.int (33 : Int32)), (.int (35 : Int32)), (.int (36 : Int32)), (.int (37 : Int32)), (.int (38 : Int32)), (.int (39 : Int32)), (.int (42 : Int32)), (.int (43 : Int32)), (.int (45 : Int32)), (.int (46 : Int32)), (.int (94 : Int32)), (.int (95 : Int32)), (.int (96 : Int32)), (.int (124 : Int32)), (.int (126 : Int32))]) (z := (15 : Int32)) (n := 60) X3 hx hZ hown (own_h hw 81 rfl) (own_wS hw) e3 hS0 (Nat.zero_le _) hEL (List.mem_of_getElem? (i := 0) rfl) CR0.1 (by decide +kernel) (by decide) rfl (g := (mkF mm 62 #[.val (.ref a), .val (.int (0 : Int32)), .val (.int x0), .val (.int (own_al x0))] [])) rfl (hb hby d5_62) (by decide +kernel) (by decide) (by decide) (by decide)
    have CR9 := CR0.trans CQ9
    have O9 := O0.ext E9
    have KK9 := K0.ext E9
    obtain ⟨LL10, XL10, NL10⟩ := own_loose X9 N3
    obtain ⟨cq11, kq11, q11a, q11b, q11c⟩ := isOf hZ e9 Es9
    obtain ⟨_, _, ⟨T11, L11, k11, n11⟩, -, X11, ⟨Lc11, hQ11, l11, y11, z11⟩, st11⟩ := XL10.virtualBack hx hown (mvT hZ (own_h hw 82 rfl)) (mvT hZ (own_h hw 83 rfl)) (notFace_of_selects (args := #[]) (mvT hZ (own_h hw 85 rfl))) (mvT hZ (own_h hw 85 rfl)) (mvT hZ (own_h hw 84 rfl)) (by decide) (backOf (W := 0) (rmX1 l Z a0 hw [] sa9 sb9 sk9 x0 cs h9 n0 O9 Fc9 Fv9 Va9 Es9 hC ha0) hZ (own_h hw 86 rfl) (own_h hw 7 rfl) (by decide) (by decide)) q11a q11c (g := (mkF mm 65 #[.val (.ref a), .val (.int (0 : Int32)), .val (.int x0), .val (.int (own_al x0))] [(.int x0), (.ref sa9)])) rfl (by rw [hml]; rfl) (Steps.refl _) (argsL := [(.int x0)]) (rest := []) (lenOf pd_375 rfl) rfl (Nat.le_of_eq rfl) (hb hby d5_65) (fun _ _ => ⟨rfl, e9, (by decide : 2 + 0 ≤ _), (by decide : 64 + 0 ≤ _)⟩)
    dsimp only [Pt.U, Pt.locs, Pt.cells, Pt.slots] at X11 l11 y11 z11 st11 hQ11
    subst l11 y11 z11
    obtain ⟨r11, rfl, N11q, e11, hr11⟩ := hQ11
    have N11 := Fr.app NL10 N11q
    have pre12 := fun tg_ (k_ : Steps pg.tables ee below (T11.setTop (mkF mm 68 #[.val (.ref a), .val (.int (0 : Int32)), .val (.int x0), .val (.int (own_al x0))] [(.int r11)])) tg_) => pre8 tg_ (by
      show Steps pg.tables ee below (T3.setTop (mkF mm 62 #[.val (.ref a), .val (.int (0 : Int32)), .val (.int x0), .val (.int (own_al x0))] [])) _
      refine st9 _ ?_
      refine XS.iloadN X9.here hx rfl (hb hby d5_64) rfl ?_
      refine st11.trans ?_
      exact k_)
    by_cases hc13 : r11 < (0 : Int32)
    · obtain ⟨fs, hr, hrun, hended, hRW⟩ := X11.leaveW hS9 (by rw [e11]; exact hk9) (v := some (.int (0 : Int32))) (fun h => by rw [Bd.returns] at h; cases h)
      refine ⟨_, _, pre12 _ ?_, hrun, hended, _, _, rfl, ?_, ?_, (own_rmono hRW (by decide) (by decide))⟩
      · show Steps pg.tables ee below (T11.setTop (mkF mm 68 #[.val (.ref a), .val (.int (0 : Int32)), .val (.int x0), .val (.int (own_al x0))] [(.int r11)])) _
        refine XS.ifNo X11.here hx rfl (hb hby d5_68) rfl ((if0 _ _).trans (tlt hc13).2.1) ?_
        refine XS.iconst X11.here hx rfl (hb hby d5_71) ?_
        exact retN X11 hx (t := .boolean) Bd.returns (by simp) (hb hby d5_72) hr
      · show QrmTk3 Z a x0 x1 x2 cs fm h0 n0 _ T11.heap _
        rw [e11]
        exact ⟨by have t0 := own_tn hc7 (hr11.mp hc13); simp [own_k3, own_k2, t0], N11, KK9⟩
      · show CHr Z own_EL s.vm s.heap T11.vm T11.heap
        rw [hh, e11]
        exact CR9.trans (CHv.at X11 hZ hEL CR9.1)
    · obtain ⟨LL14, XL14, NL14⟩ := own_loose X11 N11
      obtain ⟨cq15, kq15, q15a, q15b, q15c⟩ := isOf hZ e11 (Sa.1.ext E9)
      obtain ⟨_, _, ⟨T15, L15, k15, n15⟩, -, X15, ⟨Lc15, hQ15, l15, y15, z15⟩, st15⟩ := XL14.virtualBack hx hown (mvT hZ (own_h hw 30 rfl)) (mvT hZ (own_h hw 31 rfl)) (notFace_of_selects (args := #[]) (mvT hZ (own_h hw 33 rfl))) (mvT hZ (own_h hw 33 rfl)) (mvT hZ (own_h hw 32 rfl)) (by decide) (backOf (W := 1) (rmLenS3 l Z a0 hw [] a x0 x1 x2 cs h9 n0 O9 (Sa.ext E9) hC) hZ (own_h hw 34 rfl) (own_h hw 7 rfl) (by decide) (by decide)) q15a q15c (g := (mkF mm 4 #[.val (.ref a), .val (.int (1 : Int32)), .val (.int x0), .val (.int (own_al x0))] [(.ref a), (.int (1 : Int32))])) rfl (by rw [hml]; rfl) (Steps.refl _) (argsL := []) (rest := [(.int (1 : Int32))]) (lenOf pd_214 rfl) rfl (Nat.le_of_eq rfl) (hb hby d5_4) (fun _ _ => ⟨rfl, e11, (by decide : 2 + 0 ≤ _), (by decide : 64 + 0 ≤ _)⟩)
      dsimp only [Pt.U, Pt.locs, Pt.cells, Pt.slots] at X15 l15 y15 z15 st15 hQ15
      subst l15 y15 z15
      obtain ⟨rfl, N15q, e15⟩ := hQ15
      have N15 := Fr.app NL14 N15q
      obtain ⟨LL16, XL16, NL16⟩ := own_loose X15 N15
      obtain ⟨cq17, kq17, q17a, q17b, q17c⟩ := isOf hZ e15 (Sa.1.ext E9)
      obtain ⟨_, _, ⟨T17, L17, k17, n17⟩, -, X17, ⟨Lc17, hQ17, l17, y17, z17⟩, st17⟩ := XL16.virtualBack hx hown (mvT hZ (own_h hw 59 rfl)) (mvT hZ (own_h hw 60 rfl)) (notFace_of_selects (args := #[]) (mvT hZ (own_h hw 62 rfl))) (mvT hZ (own_h hw 62 rfl)) (mvT hZ (own_h hw 61 rfl)) (by decide) (backOf (W := 0) (rmChS3_1 l Z a0 hw [] a x0 x1 x2 cs fm h9 n0 O9 (Sa.ext E9) hC hG hF ha0 hb0 ha1 hb1 ha2 hb2) hZ (own_h hw 63 rfl) (own_h hw 7 rfl) (by decide) (by decide)) q17a q17c (g := (mkF mm 12 #[.val (.ref a), .val (.int (1 : Int32)), .val (.int x0), .val (.int (own_al x0))] [(.int (1 : Int32)), (.ref a)])) rfl (by rw [hml]; rfl) (Steps.refl _) (argsL := [(.int (1 : Int32))]) (rest := []) (lenOf pd_523 rfl) rfl (Nat.le_of_eq rfl) (hb hby d5_12) (fun _ _ => ⟨rfl, e15, (by decide : 2 + 0 ≤ _), (by decide : 64 + 0 ≤ _)⟩)
      dsimp only [Pt.U, Pt.locs, Pt.cells, Pt.slots] at X17 l17 y17 z17 st17 hQ17
      subst l17 y17 z17
      obtain ⟨rfl, N17q, e17⟩ := hQ17
      have N17 := Fr.app NL16 N17q
      have pre18 := fun tg_ (k_ : Steps pg.tables ee below (T17.setTop (mkF mm 16 #[.val (.ref a), .val (.int (1 : Int32)), .val (.int x1), .val (.int (own_al x0))] [])) tg_) => pre12 tg_ (by
        show Steps pg.tables ee below (T11.setTop (mkF mm 68 #[.val (.ref a), .val (.int (0 : Int32)), .val (.int x0), .val (.int (own_al x0))] [(.int r11)])) _
        refine XS.ifYes X11.here hx rfl (pc0 := 68) (pc' := 73) rfl (hb hby d5_68) rfl ((if0 _ _).trans (flt hc13).2.1) (by decide) (by decide) ?_
        refine XS.iinc X11.here hx rfl (hb hby d5_73) rfl (l' := #[.val (.ref a), .val (.int (1 : Int32)), .val (.int x0), .val (.int (own_al x0))]) rfl ?_
        refine XS.goto X11.here hx rfl (pc0 := 76) (pc' := 2) rfl (hb hby d5_76) (by decide) (by decide) ?_
        refine XS.iloadN X11.here hx rfl (hb hby d5_2) rfl ?_
        show Steps pg.tables ee below (T11.setTop (mkF mm 3 #[.val (.ref a), .val (.int (1 : Int32)), .val (.int x0), .val (.int (own_al x0))] [(.int (1 : Int32))])) _
        refine XS.aloadN X11.here hx rfl (hb hby d5_3) rfl rfl ?_
        refine st15.trans ?_
        refine XS.icmpNo X15.here hx rfl (hb hby d5_7) rfl (tlt (by decide : (1 : Int32) < (3 : Int32))).2.1 ?_
        refine XS.aloadN X15.here hx rfl (hb hby d5_10) rfl rfl ?_
        refine XS.iloadN X15.here hx rfl (hb hby d5_11) rfl ?_
        refine st17.trans ?_
        refine XS.istoreN X17.here hx rfl (hb hby d5_15) rfl (l' := #[.val (.ref a), .val (.int (1 : Int32)), .val (.int x1), .val (.int (own_al x0))]) rfl ?_
        exact k_)
      have pre19 : ∀ tg_, Steps pg.tables ee below (T17.setTop (mkF mm 58 #[.val (.ref a), .val (.int (1 : Int32)), .val (.int x1), .val (.int (own_al x1))] [])) tg_ → Steps pg.tables ee below (s₁.setTop (entryFrame mm #[(.ref a)] 4)) tg_ := fun tg_ k_ => pre18 tg_ (pcAli X17 hx hby a (1 : Int32) x1 (own_al x0) tg_ k_)
      have pre20 := fun tg_ (k_ : Steps pg.tables ee below (T17.setTop (mkF mm 59 #[.val (.ref a), .val (.int (1 : Int32)), .val (.int x1), .val (.int (own_al x1))] [(.int (own_al x1))])) tg_) => pre19 tg_ (by
        show Steps pg.tables ee below (T17.setTop (mkF mm 58 #[.val (.ref a), .val (.int (1 : Int32)), .val (.int x1), .val (.int (own_al x1))] [])) _
        refine XS.iloadN X17.here hx rfl (hb hby d5_58) rfl ?_
        exact k_)
      by_cases hc21 : (own_al x1) = (0 : Int32)
      · obtain ⟨LL22, XL22, NL22⟩ := own_loose X17 N17
        have pre23 := fun tg_ (k_ : Steps pg.tables ee below (T17.setTop (mkF mm 62 #[.val (.ref a), .val (.int (1 : Int32)), .val (.int x1), .val (.int (own_al x1))] [])) tg_) => pre20 tg_ (by
          show Steps pg.tables ee below (T17.setTop (mkF mm 59 #[.val (.ref a), .val (.int (1 : Int32)), .val (.int x1), .val (.int (own_al x1))] [(.int (own_al x1))])) _
          refine XS.ifNo X17.here hx rfl (hb hby d5_59) rfl ((if0 _ _).trans (teq hc21).2) ?_
          exact k_)
        obtain ⟨sa24, T24, h24, k24, sb24, sk24, X24, e24, E24, hS24, hk24, hZ, hown, Es24, Fc24, Fv24, Va24, lt24, lu24, CQ24, -, hne24, st24⟩ := ldcCH (EL := own_EL) (vs := [(.int (33 : Int32)), (.int (35 : Int32)), (.int (36 : Int32)), (.int (37 : Int32)), (.int (38 : Int32)), (.int (39 : Int32)), (.int (42 : Int32)), (.int (43 : Int32)), (.int (45 : Int32)), (.int (46 : Int32)), (.int (94 : Int32)), (.int (95 : Int32)), (.int (96 : Int32)), (.int (124 : Int32)), (.int (126 : Int32))]) (z := (15 : Int32)) (n := 60) XL22 hx hZ hown (own_h hw 81 rfl) (own_wS hw) e17 hS9 hk9 hEL (List.mem_of_getElem? (i := 0) rfl) CR9.1 (by decide +kernel) (by decide) rfl (g := (mkF mm 62 #[.val (.ref a), .val (.int (1 : Int32)), .val (.int x1), .val (.int (own_al x1))] [])) rfl (hb hby d5_62) (by decide +kernel) (by decide) (by decide) (by decide)
        have CR24 := CR9.trans CQ24
        have O24 := O9.ext E24
        have KK24 := KK9.ext E24
        obtain ⟨cq25, kq25, q25a, q25b, q25c⟩ := isOf hZ e24 Es24
        obtain ⟨_, _, ⟨T25, L25, k25, n25⟩, -, X25, ⟨Lc25, hQ25, l25, y25, z25⟩, st25⟩ := X24.virtualBack hx hown (mvT hZ (own_h hw 82 rfl)) (mvT hZ (own_h hw 83 rfl)) (notFace_of_selects (args := #[]) (mvT hZ (own_h hw 85 rfl))) (mvT hZ (own_h hw 85 rfl)) (mvT hZ (own_h hw 84 rfl)) (by decide) (backOf (W := 0) (rmX1 l Z a0 hw [] sa24 sb24 sk24 x1 cs h24 n0 O24 Fc24 Fv24 Va24 Es24 hC ha1) hZ (own_h hw 86 rfl) (own_h hw 7 rfl) (by decide) (by decide)) q25a q25c (g := (mkF mm 65 #[.val (.ref a), .val (.int (1 : Int32)), .val (.int x1), .val (.int (own_al x1))] [(.int x1), (.ref sa24)])) rfl (by rw [hml]; rfl) (Steps.refl _) (argsL := [(.int x1)]) (rest := []) (lenOf pd_375 rfl) rfl (Nat.le_of_eq rfl) (hb hby d5_65) (fun _ _ => ⟨rfl, e24, (by decide : 4 + 0 ≤ _), (by decide : 128 + 0 ≤ _)⟩)
        dsimp only [Pt.U, Pt.locs, Pt.cells, Pt.slots] at X25 l25 y25 z25 st25 hQ25
        subst l25 y25 z25
        obtain ⟨r25, rfl, N25q, e25, hr25⟩ := hQ25
        have N25 := Fr.app NL22 N25q
        have pre26 := fun tg_ (k_ : Steps pg.tables ee below (T25.setTop (mkF mm 68 #[.val (.ref a), .val (.int (1 : Int32)), .val (.int x1), .val (.int (own_al x1))] [(.int r25)])) tg_) => pre23 tg_ (by
          show Steps pg.tables ee below (T17.setTop (mkF mm 62 #[.val (.ref a), .val (.int (1 : Int32)), .val (.int x1), .val (.int (own_al x1))] [])) _
          refine st24 _ ?_
          refine XS.iloadN X24.here hx rfl (hb hby d5_64) rfl ?_
          refine st25.trans ?_
          exact k_)
        by_cases hc27 : r25 < (0 : Int32)
        · obtain ⟨fs, hr, hrun, hended, hRW⟩ := X25.leaveW hS24 (by rw [e25]; exact hk24) (v := some (.int (0 : Int32))) (fun h => by rw [Bd.returns] at h; cases h)
          refine ⟨_, _, pre26 _ ?_, hrun, hended, _, _, rfl, ?_, ?_, (own_rmono hRW (by decide) (by decide))⟩
          · show Steps pg.tables ee below (T25.setTop (mkF mm 68 #[.val (.ref a), .val (.int (1 : Int32)), .val (.int x1), .val (.int (own_al x1))] [(.int r25)])) _
            refine XS.ifNo X25.here hx rfl (hb hby d5_68) rfl ((if0 _ _).trans (tlt hc27).2.1) ?_
            refine XS.iconst X25.here hx rfl (hb hby d5_71) ?_
            exact retN X25 hx (t := .boolean) Bd.returns (by simp) (hb hby d5_72) hr
          · show QrmTk3 Z a x0 x1 x2 cs fm h0 n0 _ T25.heap _
            rw [e25]
            exact ⟨by have t0 := own_ts (Classical.byContradiction fun q => hc13 (hr11.mpr q)); have t1 := own_tn hc21 (hr25.mp hc27); simp [own_k3, own_k2, t0, t1], N25, KK24⟩
          · show CHr Z own_EL s.vm s.heap T25.vm T25.heap
            rw [hh, e25]
            exact CR24.trans (CHv.at X25 hZ hEL CR24.1)
        · obtain ⟨LL28, XL28, NL28⟩ := own_loose X25 N25
          obtain ⟨cq29, kq29, q29a, q29b, q29c⟩ := isOf hZ e25 ((Sa.1.ext E9).ext E24)
          obtain ⟨_, _, ⟨T29, L29, k29, n29⟩, -, X29, ⟨Lc29, hQ29, l29, y29, z29⟩, st29⟩ := XL28.virtualBack hx hown (mvT hZ (own_h hw 30 rfl)) (mvT hZ (own_h hw 31 rfl)) (notFace_of_selects (args := #[]) (mvT hZ (own_h hw 33 rfl))) (mvT hZ (own_h hw 33 rfl)) (mvT hZ (own_h hw 32 rfl)) (by decide) (backOf (W := 1) (rmLenS3 l Z a0 hw [] a x0 x1 x2 cs h24 n0 O24 ((Sa.ext E9).ext E24) hC) hZ (own_h hw 34 rfl) (own_h hw 7 rfl) (by decide) (by decide)) q29a q29c (g := (mkF mm 4 #[.val (.ref a), .val (.int (2 : Int32)), .val (.int x1), .val (.int (own_al x1))] [(.ref a), (.int (2 : Int32))])) rfl (by rw [hml]; rfl) (Steps.refl _) (argsL := []) (rest := [(.int (2 : Int32))]) (lenOf pd_214 rfl) rfl (Nat.le_of_eq rfl) (hb hby d5_4) (fun _ _ => ⟨rfl, e25, (by decide : 4 + 0 ≤ _), (by decide : 128 + 0 ≤ _)⟩)
          dsimp only [Pt.U, Pt.locs, Pt.cells, Pt.slots] at X29 l29 y29 z29 st29 hQ29
          subst l29 y29 z29
          obtain ⟨rfl, N29q, e29⟩ := hQ29
          have N29 := Fr.app NL28 N29q
          obtain ⟨LL30, XL30, NL30⟩ := own_loose X29 N29
          obtain ⟨cq31, kq31, q31a, q31b, q31c⟩ := isOf hZ e29 ((Sa.1.ext E9).ext E24)
          obtain ⟨_, _, ⟨T31, L31, k31, n31⟩, -, X31, ⟨Lc31, hQ31, l31, y31, z31⟩, st31⟩ := XL30.virtualBack hx hown (mvT hZ (own_h hw 59 rfl)) (mvT hZ (own_h hw 60 rfl)) (notFace_of_selects (args := #[]) (mvT hZ (own_h hw 62 rfl))) (mvT hZ (own_h hw 62 rfl)) (mvT hZ (own_h hw 61 rfl)) (by decide) (backOf (W := 0) (rmChS3_2 l Z a0 hw [] a x0 x1 x2 cs fm h24 n0 O24 ((Sa.ext E9).ext E24) hC hG hF ha0 hb0 ha1 hb1 ha2 hb2) hZ (own_h hw 63 rfl) (own_h hw 7 rfl) (by decide) (by decide)) q31a q31c (g := (mkF mm 12 #[.val (.ref a), .val (.int (2 : Int32)), .val (.int x1), .val (.int (own_al x1))] [(.int (2 : Int32)), (.ref a)])) rfl (by rw [hml]; rfl) (Steps.refl _) (argsL := [(.int (2 : Int32))]) (rest := []) (lenOf pd_523 rfl) rfl (Nat.le_of_eq rfl) (hb hby d5_12) (fun _ _ => ⟨rfl, e29, (by decide : 4 + 0 ≤ _), (by decide : 128 + 0 ≤ _)⟩)
          dsimp only [Pt.U, Pt.locs, Pt.cells, Pt.slots] at X31 l31 y31 z31 st31 hQ31
          subst l31 y31 z31
          obtain ⟨rfl, N31q, e31⟩ := hQ31
          have N31 := Fr.app NL30 N31q
          have pre32 := fun tg_ (k_ : Steps pg.tables ee below (T31.setTop (mkF mm 16 #[.val (.ref a), .val (.int (2 : Int32)), .val (.int x2), .val (.int (own_al x1))] [])) tg_) => pre26 tg_ (by
            show Steps pg.tables ee below (T25.setTop (mkF mm 68 #[.val (.ref a), .val (.int (1 : Int32)), .val (.int x1), .val (.int (own_al x1))] [(.int r25)])) _
            refine XS.ifYes X25.here hx rfl (pc0 := 68) (pc' := 73) rfl (hb hby d5_68) rfl ((if0 _ _).trans (flt hc27).2.1) (by decide) (by decide) ?_
            refine XS.iinc X25.here hx rfl (hb hby d5_73) rfl (l' := #[.val (.ref a), .val (.int (2 : Int32)), .val (.int x1), .val (.int (own_al x1))]) rfl ?_
            refine XS.goto X25.here hx rfl (pc0 := 76) (pc' := 2) rfl (hb hby d5_76) (by decide) (by decide) ?_
            refine XS.iloadN X25.here hx rfl (hb hby d5_2) rfl ?_
            show Steps pg.tables ee below (T25.setTop (mkF mm 3 #[.val (.ref a), .val (.int (2 : Int32)), .val (.int x1), .val (.int (own_al x1))] [(.int (2 : Int32))])) _
            refine XS.aloadN X25.here hx rfl (hb hby d5_3) rfl rfl ?_
            refine st29.trans ?_
            refine XS.icmpNo X29.here hx rfl (hb hby d5_7) rfl (tlt (by decide : (2 : Int32) < (3 : Int32))).2.1 ?_
            refine XS.aloadN X29.here hx rfl (hb hby d5_10) rfl rfl ?_
            refine XS.iloadN X29.here hx rfl (hb hby d5_11) rfl ?_
            refine st31.trans ?_
            refine XS.istoreN X31.here hx rfl (hb hby d5_15) rfl (l' := #[.val (.ref a), .val (.int (2 : Int32)), .val (.int x2), .val (.int (own_al x1))]) rfl ?_
            exact k_)
          have pre33 : ∀ tg_, Steps pg.tables ee below (T31.setTop (mkF mm 58 #[.val (.ref a), .val (.int (2 : Int32)), .val (.int x2), .val (.int (own_al x2))] [])) tg_ → Steps pg.tables ee below (s₁.setTop (entryFrame mm #[(.ref a)] 4)) tg_ := fun tg_ k_ => pre32 tg_ (pcAli X31 hx hby a (2 : Int32) x2 (own_al x1) tg_ k_)
          have pre34 := fun tg_ (k_ : Steps pg.tables ee below (T31.setTop (mkF mm 59 #[.val (.ref a), .val (.int (2 : Int32)), .val (.int x2), .val (.int (own_al x2))] [(.int (own_al x2))])) tg_) => pre33 tg_ (by
            show Steps pg.tables ee below (T31.setTop (mkF mm 58 #[.val (.ref a), .val (.int (2 : Int32)), .val (.int x2), .val (.int (own_al x2))] [])) _
            refine XS.iloadN X31.here hx rfl (hb hby d5_58) rfl ?_
            exact k_)
          by_cases hc35 : (own_al x2) = (0 : Int32)
          · obtain ⟨LL36, XL36, NL36⟩ := own_loose X31 N31
            have pre37 := fun tg_ (k_ : Steps pg.tables ee below (T31.setTop (mkF mm 62 #[.val (.ref a), .val (.int (2 : Int32)), .val (.int x2), .val (.int (own_al x2))] [])) tg_) => pre34 tg_ (by
              show Steps pg.tables ee below (T31.setTop (mkF mm 59 #[.val (.ref a), .val (.int (2 : Int32)), .val (.int x2), .val (.int (own_al x2))] [(.int (own_al x2))])) _
              refine XS.ifNo X31.here hx rfl (hb hby d5_59) rfl ((if0 _ _).trans (teq hc35).2) ?_
              exact k_)
            obtain ⟨sa38, T38, h38, k38, sb38, sk38, X38, e38, E38, hS38, hk38, hZ, hown, Es38, Fc38, Fv38, Va38, lt38, lu38, CQ38, -, hne38, st38⟩ := ldcCH (EL := own_EL) (vs := [(.int (33 : Int32)), (.int (35 : Int32)), (.int (36 : Int32)), (.int (37 : Int32)), (.int (38 : Int32)), (.int (39 : Int32)), (.int (42 : Int32)), (.int (43 : Int32)), (.int (45 : Int32)), (.int (46 : Int32)), (.int (94 : Int32)), (.int (95 : Int32)), (.int (96 : Int32)), (.int (124 : Int32)), (.int (126 : Int32))]) (z := (15 : Int32)) (n := 60) XL36 hx hZ hown (own_h hw 81 rfl) (own_wS hw) e31 hS24 hk24 hEL (List.mem_of_getElem? (i := 0) rfl) CR24.1 (by decide +kernel) (by decide) rfl (g := (mkF mm 62 #[.val (.ref a), .val (.int (2 : Int32)), .val (.int x2), .val (.int (own_al x2))] [])) rfl (hb hby d5_62) (by decide +kernel) (by decide) (by decide) (by decide)
            have CR38 := CR24.trans CQ38
            have O38 := O24.ext E38
            have KK38 := KK24.ext E38
            obtain ⟨cq39, kq39, q39a, q39b, q39c⟩ := isOf hZ e38 Es38
            obtain ⟨_, _, ⟨T39, L39, k39, n39⟩, -, X39, ⟨Lc39, hQ39, l39, y39, z39⟩, st39⟩ := X38.virtualBack hx hown (mvT hZ (own_h hw 82 rfl)) (mvT hZ (own_h hw 83 rfl)) (notFace_of_selects (args := #[]) (mvT hZ (own_h hw 85 rfl))) (mvT hZ (own_h hw 85 rfl)) (mvT hZ (own_h hw 84 rfl)) (by decide) (backOf (W := 0) (rmX1 l Z a0 hw [] sa38 sb38 sk38 x2 cs h38 n0 O38 Fc38 Fv38 Va38 Es38 hC ha2) hZ (own_h hw 86 rfl) (own_h hw 7 rfl) (by decide) (by decide)) q39a q39c (g := (mkF mm 65 #[.val (.ref a), .val (.int (2 : Int32)), .val (.int x2), .val (.int (own_al x2))] [(.int x2), (.ref sa38)])) rfl (by rw [hml]; rfl) (Steps.refl _) (argsL := [(.int x2)]) (rest := []) (lenOf pd_375 rfl) rfl (Nat.le_of_eq rfl) (hb hby d5_65) (fun _ _ => ⟨rfl, e38, (by decide : 6 + 0 ≤ _), (by decide : 192 + 0 ≤ _)⟩)
            dsimp only [Pt.U, Pt.locs, Pt.cells, Pt.slots] at X39 l39 y39 z39 st39 hQ39
            subst l39 y39 z39
            obtain ⟨r39, rfl, N39q, e39, hr39⟩ := hQ39
            have N39 := Fr.app NL36 N39q
            have pre40 := fun tg_ (k_ : Steps pg.tables ee below (T39.setTop (mkF mm 68 #[.val (.ref a), .val (.int (2 : Int32)), .val (.int x2), .val (.int (own_al x2))] [(.int r39)])) tg_) => pre37 tg_ (by
              show Steps pg.tables ee below (T31.setTop (mkF mm 62 #[.val (.ref a), .val (.int (2 : Int32)), .val (.int x2), .val (.int (own_al x2))] [])) _
              refine st38 _ ?_
              refine XS.iloadN X38.here hx rfl (hb hby d5_64) rfl ?_
              refine st39.trans ?_
              exact k_)
            by_cases hc41 : r39 < (0 : Int32)
            · obtain ⟨fs, hr, hrun, hended, hRW⟩ := X39.leaveW hS38 (by rw [e39]; exact hk38) (v := some (.int (0 : Int32))) (fun h => by rw [Bd.returns] at h; cases h)
              refine ⟨_, _, pre40 _ ?_, hrun, hended, _, _, rfl, ?_, ?_, (own_rmono hRW (by decide) (by decide))⟩
              · show Steps pg.tables ee below (T39.setTop (mkF mm 68 #[.val (.ref a), .val (.int (2 : Int32)), .val (.int x2), .val (.int (own_al x2))] [(.int r39)])) _
                refine XS.ifNo X39.here hx rfl (hb hby d5_68) rfl ((if0 _ _).trans (tlt hc41).2.1) ?_
                refine XS.iconst X39.here hx rfl (hb hby d5_71) ?_
                exact retN X39 hx (t := .boolean) Bd.returns (by simp) (hb hby d5_72) hr
              · show QrmTk3 Z a x0 x1 x2 cs fm h0 n0 _ T39.heap _
                rw [e39]
                exact ⟨by have t0 := own_ts (Classical.byContradiction fun q => hc13 (hr11.mpr q)); have t1 := own_ts (Classical.byContradiction fun q => hc27 (hr25.mpr q)); have t2 := own_tn hc35 (hr39.mp hc41); simp [own_k3, own_k2, t0, t1, t2], N39, KK38⟩
              · show CHr Z own_EL s.vm s.heap T39.vm T39.heap
                rw [hh, e39]
                exact CR38.trans (CHv.at X39 hZ hEL CR38.1)
            · obtain ⟨LL42, XL42, NL42⟩ := own_loose X39 N39
              obtain ⟨cq43, kq43, q43a, q43b, q43c⟩ := isOf hZ e39 (((Sa.1.ext E9).ext E24).ext E38)
              obtain ⟨_, _, ⟨T43, L43, k43, n43⟩, -, X43, ⟨Lc43, hQ43, l43, y43, z43⟩, st43⟩ := XL42.virtualBack hx hown (mvT hZ (own_h hw 30 rfl)) (mvT hZ (own_h hw 31 rfl)) (notFace_of_selects (args := #[]) (mvT hZ (own_h hw 33 rfl))) (mvT hZ (own_h hw 33 rfl)) (mvT hZ (own_h hw 32 rfl)) (by decide) (backOf (W := 1) (rmLenS3 l Z a0 hw [] a x0 x1 x2 cs h38 n0 O38 (((Sa.ext E9).ext E24).ext E38) hC) hZ (own_h hw 34 rfl) (own_h hw 7 rfl) (by decide) (by decide)) q43a q43c (g := (mkF mm 4 #[.val (.ref a), .val (.int (3 : Int32)), .val (.int x2), .val (.int (own_al x2))] [(.ref a), (.int (3 : Int32))])) rfl (by rw [hml]; rfl) (Steps.refl _) (argsL := []) (rest := [(.int (3 : Int32))]) (lenOf pd_214 rfl) rfl (Nat.le_of_eq rfl) (hb hby d5_4) (fun _ _ => ⟨rfl, e39, (by decide : 6 + 0 ≤ _), (by decide : 192 + 0 ≤ _)⟩)
              dsimp only [Pt.U, Pt.locs, Pt.cells, Pt.slots] at X43 l43 y43 z43 st43 hQ43
              subst l43 y43 z43
              obtain ⟨rfl, N43q, e43⟩ := hQ43
              have N43 := Fr.app NL42 N43q
              obtain ⟨LL44, XL44, NL44⟩ := own_loose X43 N43
              obtain ⟨cq45, kq45, q45a, q45b, q45c⟩ := isOf hZ e43 (((Sa.1.ext E9).ext E24).ext E38)
              obtain ⟨_, _, ⟨T45, L45, k45, n45⟩, -, X45, ⟨Lc45, hQ45, l45, y45, z45⟩, st45⟩ := XL44.virtualBack hx hown (mvT hZ (own_h hw 41 rfl)) (mvT hZ (own_h hw 42 rfl)) (notFace_of_selects (args := #[]) (mvT hZ (own_h hw 44 rfl))) (mvT hZ (own_h hw 44 rfl)) (mvT hZ (own_h hw 43 rfl)) (by decide) (backOf (W := 0) (rmEmS3 l Z a0 hw [] a x0 x1 x2 h38 n0 O38 (((Sa.ext E9).ext E24).ext E38)) hZ (own_h hw 45 rfl) (own_h hw 7 rfl) (by decide) (by decide)) q45a q45c (g := (mkF mm 80 #[.val (.ref a), .val (.int (3 : Int32)), .val (.int x2), .val (.int (own_al x2))] [(.ref a)])) rfl (by rw [hml]; rfl) (Steps.refl _) (argsL := []) (rest := []) (lenOf pd_112 rfl) rfl (Nat.le_of_eq rfl) (hb hby d5_80) (fun _ _ => ⟨rfl, e43, (by decide : 6 + 0 ≤ _), (by decide : 192 + 0 ≤ _)⟩)
              dsimp only [Pt.U, Pt.locs, Pt.cells, Pt.slots] at X45 l45 y45 z45 st45 hQ45
              subst l45 y45 z45
              obtain ⟨rfl, N45q, e45⟩ := hQ45
              have N45 := Fr.app NL44 N45q
              obtain ⟨fs, hr, hrun, hended, hRW⟩ := X45.leaveW hS38 (by rw [e45]; exact hk38) (v := some (.int (1 : Int32))) (fun h => by rw [Bd.returns] at h; cases h)
              refine ⟨_, _, pre40 _ ?_, hrun, hended, _, _, rfl, ?_, ?_, (own_rmono hRW (by decide) (by decide))⟩
              · show Steps pg.tables ee below (T39.setTop (mkF mm 68 #[.val (.ref a), .val (.int (2 : Int32)), .val (.int x2), .val (.int (own_al x2))] [(.int r39)])) _
                refine XS.ifYes X39.here hx rfl (pc0 := 68) (pc' := 73) rfl (hb hby d5_68) rfl ((if0 _ _).trans (flt hc41).2.1) (by decide) (by decide) ?_
                refine XS.iinc X39.here hx rfl (hb hby d5_73) rfl (l' := #[.val (.ref a), .val (.int (3 : Int32)), .val (.int x2), .val (.int (own_al x2))]) rfl ?_
                refine XS.goto X39.here hx rfl (pc0 := 76) (pc' := 2) rfl (hb hby d5_76) (by decide) (by decide) ?_
                refine XS.iloadN X39.here hx rfl (hb hby d5_2) rfl ?_
                show Steps pg.tables ee below (T39.setTop (mkF mm 3 #[.val (.ref a), .val (.int (3 : Int32)), .val (.int x2), .val (.int (own_al x2))] [(.int (3 : Int32))])) _
                refine XS.aloadN X39.here hx rfl (hb hby d5_3) rfl rfl ?_
                refine st43.trans ?_
                refine XS.icmpYes X43.here hx rfl (pc0 := 7) (pc' := 79) rfl (hb hby d5_7) rfl (flt (by decide : ¬ ((3 : Int32) < (3 : Int32)))).2.1 (by decide) (by decide) ?_
                refine XS.aloadN X43.here hx rfl (hb hby d5_79) rfl rfl ?_
                refine st45.trans ?_
                refine XS.ifNo X45.here hx rfl (hb hby d5_83) rfl ((if0 _ _).trans (teq (by decide : (0 : Int32) = (0 : Int32))).2) ?_
                refine XS.iconst X45.here hx rfl (hb hby d5_86) ?_
                refine XS.goto X45.here hx rfl (pc0 := 87) (pc' := 91) rfl (hb hby d5_87) (by decide) (by decide) ?_
                show Steps pg.tables ee below (T45.setTop (mkF mm 91 #[.val (.ref a), .val (.int (3 : Int32)), .val (.int x2), .val (.int (own_al x2))] [(.int (1 : Int32))])) _
                exact retN X45 hx (t := .boolean) Bd.returns (by simp) (hb hby d5_91) hr
              · show QrmTk3 Z a x0 x1 x2 cs fm h0 n0 _ T45.heap _
                rw [e45]
                exact ⟨by have t0 := own_ts (Classical.byContradiction fun q => hc13 (hr11.mpr q)); have t1 := own_ts (Classical.byContradiction fun q => hc27 (hr25.mpr q)); have t2 := own_ts (Classical.byContradiction fun q => hc41 (hr39.mpr q)); simp [own_k3, own_k2, t0, t1, t2], N45, KK38⟩
              · show CHr Z own_EL s.vm s.heap T45.vm T45.heap
                rw [hh, e45]
                exact CR38.trans (CHv.at X45 hZ hEL CR38.1)
          · obtain ⟨LL46, XL46, NL46⟩ := own_loose X31 N31
            obtain ⟨cq47, kq47, q47a, q47b, q47c⟩ := isOf hZ e31 ((Sa.1.ext E9).ext E24)
            obtain ⟨_, _, ⟨T47, L47, k47, n47⟩, -, X47, ⟨Lc47, hQ47, l47, y47, z47⟩, st47⟩ := XL46.virtualBack hx hown (mvT hZ (own_h hw 30 rfl)) (mvT hZ (own_h hw 31 rfl)) (notFace_of_selects (args := #[]) (mvT hZ (own_h hw 33 rfl))) (mvT hZ (own_h hw 33 rfl)) (mvT hZ (own_h hw 32 rfl)) (by decide) (backOf (W := 1) (rmLenS3 l Z a0 hw [] a x0 x1 x2 cs h24 n0 O24 ((Sa.ext E9).ext E24) hC) hZ (own_h hw 34 rfl) (own_h hw 7 rfl) (by decide) (by decide)) q47a q47c (g := (mkF mm 4 #[.val (.ref a), .val (.int (3 : Int32)), .val (.int x2), .val (.int (own_al x2))] [(.ref a), (.int (3 : Int32))])) rfl (by rw [hml]; rfl) (Steps.refl _) (argsL := []) (rest := [(.int (3 : Int32))]) (lenOf pd_214 rfl) rfl (Nat.le_of_eq rfl) (hb hby d5_4) (fun _ _ => ⟨rfl, e31, (by decide : 4 + 0 ≤ _), (by decide : 128 + 0 ≤ _)⟩)
            dsimp only [Pt.U, Pt.locs, Pt.cells, Pt.slots] at X47 l47 y47 z47 st47 hQ47
            subst l47 y47 z47
            obtain ⟨rfl, N47q, e47⟩ := hQ47
            have N47 := Fr.app NL46 N47q
            obtain ⟨LL48, XL48, NL48⟩ := own_loose X47 N47
            obtain ⟨cq49, kq49, q49a, q49b, q49c⟩ := isOf hZ e47 ((Sa.1.ext E9).ext E24)
            obtain ⟨_, _, ⟨T49, L49, k49, n49⟩, -, X49, ⟨Lc49, hQ49, l49, y49, z49⟩, st49⟩ := XL48.virtualBack hx hown (mvT hZ (own_h hw 41 rfl)) (mvT hZ (own_h hw 42 rfl)) (notFace_of_selects (args := #[]) (mvT hZ (own_h hw 44 rfl))) (mvT hZ (own_h hw 44 rfl)) (mvT hZ (own_h hw 43 rfl)) (by decide) (backOf (W := 0) (rmEmS3 l Z a0 hw [] a x0 x1 x2 h24 n0 O24 ((Sa.ext E9).ext E24)) hZ (own_h hw 45 rfl) (own_h hw 7 rfl) (by decide) (by decide)) q49a q49c (g := (mkF mm 80 #[.val (.ref a), .val (.int (3 : Int32)), .val (.int x2), .val (.int (own_al x2))] [(.ref a)])) rfl (by rw [hml]; rfl) (Steps.refl _) (argsL := []) (rest := []) (lenOf pd_112 rfl) rfl (Nat.le_of_eq rfl) (hb hby d5_80) (fun _ _ => ⟨rfl, e47, (by decide : 4 + 0 ≤ _), (by decide : 128 + 0 ≤ _)⟩)
            dsimp only [Pt.U, Pt.locs, Pt.cells, Pt.slots] at X49 l49 y49 z49 st49 hQ49
            subst l49 y49 z49
            obtain ⟨rfl, N49q, e49⟩ := hQ49
            have N49 := Fr.app NL48 N49q
            obtain ⟨fs, hr, hrun, hended, hRW⟩ := X49.leaveW hS24 (by rw [e49]; exact hk24) (v := some (.int (1 : Int32))) (fun h => by rw [Bd.returns] at h; cases h)
            refine ⟨_, _, pre34 _ ?_, hrun, hended, _, _, rfl, ?_, ?_, (own_rmono hRW (by decide) (by decide))⟩
            · show Steps pg.tables ee below (T31.setTop (mkF mm 59 #[.val (.ref a), .val (.int (2 : Int32)), .val (.int x2), .val (.int (own_al x2))] [(.int (own_al x2))])) _
              refine XS.ifYes X31.here hx rfl (pc0 := 59) (pc' := 73) rfl (hb hby d5_59) rfl ((if0 _ _).trans (feq hc35).2) (by decide) (by decide) ?_
              refine XS.iinc X31.here hx rfl (hb hby d5_73) rfl (l' := #[.val (.ref a), .val (.int (3 : Int32)), .val (.int x2), .val (.int (own_al x2))]) rfl ?_
              refine XS.goto X31.here hx rfl (pc0 := 76) (pc' := 2) rfl (hb hby d5_76) (by decide) (by decide) ?_
              refine XS.iloadN X31.here hx rfl (hb hby d5_2) rfl ?_
              refine XS.aloadN X31.here hx rfl (hb hby d5_3) rfl rfl ?_
              refine st47.trans ?_
              refine XS.icmpYes X47.here hx rfl (pc0 := 7) (pc' := 79) rfl (hb hby d5_7) rfl (flt (by decide : ¬ ((3 : Int32) < (3 : Int32)))).2.1 (by decide) (by decide) ?_
              show Steps pg.tables ee below (T47.setTop (mkF mm 79 #[.val (.ref a), .val (.int (3 : Int32)), .val (.int x2), .val (.int (own_al x2))] [])) _
              refine XS.aloadN X47.here hx rfl (hb hby d5_79) rfl rfl ?_
              refine st49.trans ?_
              refine XS.ifNo X49.here hx rfl (hb hby d5_83) rfl ((if0 _ _).trans (teq (by decide : (0 : Int32) = (0 : Int32))).2) ?_
              refine XS.iconst X49.here hx rfl (hb hby d5_86) ?_
              refine XS.goto X49.here hx rfl (pc0 := 87) (pc' := 91) rfl (hb hby d5_87) (by decide) (by decide) ?_
              exact retN X49 hx (t := .boolean) Bd.returns (by simp) (hb hby d5_91) hr
            · show QrmTk3 Z a x0 x1 x2 cs fm h0 n0 _ T49.heap _
              rw [e49]
              exact ⟨by have t0 := own_ts (Classical.byContradiction fun q => hc13 (hr11.mpr q)); have t1 := own_ts (Classical.byContradiction fun q => hc27 (hr25.mpr q)); have t2 := own_ta hc35; simp [own_k3, own_k2, t0, t1, t2], N49, KK24⟩
            · show CHr Z own_EL s.vm s.heap T49.vm T49.heap
              rw [hh, e49]
              exact CR24.trans (CHv.at X49 hZ hEL CR24.1)
      · obtain ⟨LL50, XL50, NL50⟩ := own_loose X17 N17
        obtain ⟨cq51, kq51, q51a, q51b, q51c⟩ := isOf hZ e17 (Sa.1.ext E9)
        obtain ⟨_, _, ⟨T51, L51, k51, n51⟩, -, X51, ⟨Lc51, hQ51, l51, y51, z51⟩, st51⟩ := XL50.virtualBack hx hown (mvT hZ (own_h hw 30 rfl)) (mvT hZ (own_h hw 31 rfl)) (notFace_of_selects (args := #[]) (mvT hZ (own_h hw 33 rfl))) (mvT hZ (own_h hw 33 rfl)) (mvT hZ (own_h hw 32 rfl)) (by decide) (backOf (W := 1) (rmLenS3 l Z a0 hw [] a x0 x1 x2 cs h9 n0 O9 (Sa.ext E9) hC) hZ (own_h hw 34 rfl) (own_h hw 7 rfl) (by decide) (by decide)) q51a q51c (g := (mkF mm 4 #[.val (.ref a), .val (.int (2 : Int32)), .val (.int x1), .val (.int (own_al x1))] [(.ref a), (.int (2 : Int32))])) rfl (by rw [hml]; rfl) (Steps.refl _) (argsL := []) (rest := [(.int (2 : Int32))]) (lenOf pd_214 rfl) rfl (Nat.le_of_eq rfl) (hb hby d5_4) (fun _ _ => ⟨rfl, e17, (by decide : 2 + 0 ≤ _), (by decide : 64 + 0 ≤ _)⟩)
        dsimp only [Pt.U, Pt.locs, Pt.cells, Pt.slots] at X51 l51 y51 z51 st51 hQ51
        subst l51 y51 z51
        obtain ⟨rfl, N51q, e51⟩ := hQ51
        have N51 := Fr.app NL50 N51q
        obtain ⟨LL52, XL52, NL52⟩ := own_loose X51 N51
        obtain ⟨cq53, kq53, q53a, q53b, q53c⟩ := isOf hZ e51 (Sa.1.ext E9)
        obtain ⟨_, _, ⟨T53, L53, k53, n53⟩, -, X53, ⟨Lc53, hQ53, l53, y53, z53⟩, st53⟩ := XL52.virtualBack hx hown (mvT hZ (own_h hw 59 rfl)) (mvT hZ (own_h hw 60 rfl)) (notFace_of_selects (args := #[]) (mvT hZ (own_h hw 62 rfl))) (mvT hZ (own_h hw 62 rfl)) (mvT hZ (own_h hw 61 rfl)) (by decide) (backOf (W := 0) (rmChS3_2 l Z a0 hw [] a x0 x1 x2 cs fm h9 n0 O9 (Sa.ext E9) hC hG hF ha0 hb0 ha1 hb1 ha2 hb2) hZ (own_h hw 63 rfl) (own_h hw 7 rfl) (by decide) (by decide)) q53a q53c (g := (mkF mm 12 #[.val (.ref a), .val (.int (2 : Int32)), .val (.int x1), .val (.int (own_al x1))] [(.int (2 : Int32)), (.ref a)])) rfl (by rw [hml]; rfl) (Steps.refl _) (argsL := [(.int (2 : Int32))]) (rest := []) (lenOf pd_523 rfl) rfl (Nat.le_of_eq rfl) (hb hby d5_12) (fun _ _ => ⟨rfl, e51, (by decide : 2 + 0 ≤ _), (by decide : 64 + 0 ≤ _)⟩)
        dsimp only [Pt.U, Pt.locs, Pt.cells, Pt.slots] at X53 l53 y53 z53 st53 hQ53
        subst l53 y53 z53
        obtain ⟨rfl, N53q, e53⟩ := hQ53
        have N53 := Fr.app NL52 N53q
        have pre54 := fun tg_ (k_ : Steps pg.tables ee below (T53.setTop (mkF mm 16 #[.val (.ref a), .val (.int (2 : Int32)), .val (.int x2), .val (.int (own_al x1))] [])) tg_) => pre20 tg_ (by
          show Steps pg.tables ee below (T17.setTop (mkF mm 59 #[.val (.ref a), .val (.int (1 : Int32)), .val (.int x1), .val (.int (own_al x1))] [(.int (own_al x1))])) _
          refine XS.ifYes X17.here hx rfl (pc0 := 59) (pc' := 73) rfl (hb hby d5_59) rfl ((if0 _ _).trans (feq hc21).2) (by decide) (by decide) ?_
          refine XS.iinc X17.here hx rfl (hb hby d5_73) rfl (l' := #[.val (.ref a), .val (.int (2 : Int32)), .val (.int x1), .val (.int (own_al x1))]) rfl ?_
          refine XS.goto X17.here hx rfl (pc0 := 76) (pc' := 2) rfl (hb hby d5_76) (by decide) (by decide) ?_
          refine XS.iloadN X17.here hx rfl (hb hby d5_2) rfl ?_
          refine XS.aloadN X17.here hx rfl (hb hby d5_3) rfl rfl ?_
          refine st51.trans ?_
          refine XS.icmpNo X51.here hx rfl (hb hby d5_7) rfl (tlt (by decide : (2 : Int32) < (3 : Int32))).2.1 ?_
          show Steps pg.tables ee below (T51.setTop (mkF mm 10 #[.val (.ref a), .val (.int (2 : Int32)), .val (.int x1), .val (.int (own_al x1))] [])) _
          refine XS.aloadN X51.here hx rfl (hb hby d5_10) rfl rfl ?_
          refine XS.iloadN X51.here hx rfl (hb hby d5_11) rfl ?_
          refine st53.trans ?_
          refine XS.istoreN X53.here hx rfl (hb hby d5_15) rfl (l' := #[.val (.ref a), .val (.int (2 : Int32)), .val (.int x2), .val (.int (own_al x1))]) rfl ?_
          exact k_)
        have pre55 : ∀ tg_, Steps pg.tables ee below (T53.setTop (mkF mm 58 #[.val (.ref a), .val (.int (2 : Int32)), .val (.int x2), .val (.int (own_al x2))] [])) tg_ → Steps pg.tables ee below (s₁.setTop (entryFrame mm #[(.ref a)] 4)) tg_ := fun tg_ k_ => pre54 tg_ (pcAli X53 hx hby a (2 : Int32) x2 (own_al x1) tg_ k_)
        have pre56 := fun tg_ (k_ : Steps pg.tables ee below (T53.setTop (mkF mm 59 #[.val (.ref a), .val (.int (2 : Int32)), .val (.int x2), .val (.int (own_al x2))] [(.int (own_al x2))])) tg_) => pre55 tg_ (by
          show Steps pg.tables ee below (T53.setTop (mkF mm 58 #[.val (.ref a), .val (.int (2 : Int32)), .val (.int x2), .val (.int (own_al x2))] [])) _
          refine XS.iloadN X53.here hx rfl (hb hby d5_58) rfl ?_
          exact k_)
        by_cases hc57 : (own_al x2) = (0 : Int32)
        · obtain ⟨LL58, XL58, NL58⟩ := own_loose X53 N53
          have pre59 := fun tg_ (k_ : Steps pg.tables ee below (T53.setTop (mkF mm 62 #[.val (.ref a), .val (.int (2 : Int32)), .val (.int x2), .val (.int (own_al x2))] [])) tg_) => pre56 tg_ (by
            show Steps pg.tables ee below (T53.setTop (mkF mm 59 #[.val (.ref a), .val (.int (2 : Int32)), .val (.int x2), .val (.int (own_al x2))] [(.int (own_al x2))])) _
            refine XS.ifNo X53.here hx rfl (hb hby d5_59) rfl ((if0 _ _).trans (teq hc57).2) ?_
            exact k_)
          obtain ⟨sa60, T60, h60, k60, sb60, sk60, X60, e60, E60, hS60, hk60, hZ, hown, Es60, Fc60, Fv60, Va60, lt60, lu60, CQ60, -, hne60, st60⟩ := ldcCH (EL := own_EL) (vs := [(.int (33 : Int32)), (.int (35 : Int32)), (.int (36 : Int32)), (.int (37 : Int32)), (.int (38 : Int32)), (.int (39 : Int32)), (.int (42 : Int32)), (.int (43 : Int32)), (.int (45 : Int32)), (.int (46 : Int32)), (.int (94 : Int32)), (.int (95 : Int32)), (.int (96 : Int32)), (.int (124 : Int32)), (.int (126 : Int32))]) (z := (15 : Int32)) (n := 60) XL58 hx hZ hown (own_h hw 81 rfl) (own_wS hw) e53 hS9 hk9 hEL (List.mem_of_getElem? (i := 0) rfl) CR9.1 (by decide +kernel) (by decide) rfl (g := (mkF mm 62 #[.val (.ref a), .val (.int (2 : Int32)), .val (.int x2), .val (.int (own_al x2))] [])) rfl (hb hby d5_62) (by decide +kernel) (by decide) (by decide) (by decide)
          have CR60 := CR9.trans CQ60
          have O60 := O9.ext E60
          have KK60 := KK9.ext E60
          obtain ⟨cq61, kq61, q61a, q61b, q61c⟩ := isOf hZ e60 Es60
          obtain ⟨_, _, ⟨T61, L61, k61, n61⟩, -, X61, ⟨Lc61, hQ61, l61, y61, z61⟩, st61⟩ := X60.virtualBack hx hown (mvT hZ (own_h hw 82 rfl)) (mvT hZ (own_h hw 83 rfl)) (notFace_of_selects (args := #[]) (mvT hZ (own_h hw 85 rfl))) (mvT hZ (own_h hw 85 rfl)) (mvT hZ (own_h hw 84 rfl)) (by decide) (backOf (W := 0) (rmX1 l Z a0 hw [] sa60 sb60 sk60 x2 cs h60 n0 O60 Fc60 Fv60 Va60 Es60 hC ha2) hZ (own_h hw 86 rfl) (own_h hw 7 rfl) (by decide) (by decide)) q61a q61c (g := (mkF mm 65 #[.val (.ref a), .val (.int (2 : Int32)), .val (.int x2), .val (.int (own_al x2))] [(.int x2), (.ref sa60)])) rfl (by rw [hml]; rfl) (Steps.refl _) (argsL := [(.int x2)]) (rest := []) (lenOf pd_375 rfl) rfl (Nat.le_of_eq rfl) (hb hby d5_65) (fun _ _ => ⟨rfl, e60, (by decide : 4 + 0 ≤ _), (by decide : 128 + 0 ≤ _)⟩)
          dsimp only [Pt.U, Pt.locs, Pt.cells, Pt.slots] at X61 l61 y61 z61 st61 hQ61
          subst l61 y61 z61
          obtain ⟨r61, rfl, N61q, e61, hr61⟩ := hQ61
          have N61 := Fr.app NL58 N61q
          have pre62 := fun tg_ (k_ : Steps pg.tables ee below (T61.setTop (mkF mm 68 #[.val (.ref a), .val (.int (2 : Int32)), .val (.int x2), .val (.int (own_al x2))] [(.int r61)])) tg_) => pre59 tg_ (by
            show Steps pg.tables ee below (T53.setTop (mkF mm 62 #[.val (.ref a), .val (.int (2 : Int32)), .val (.int x2), .val (.int (own_al x2))] [])) _
            refine st60 _ ?_
            refine XS.iloadN X60.here hx rfl (hb hby d5_64) rfl ?_
            refine st61.trans ?_
            exact k_)
          by_cases hc63 : r61 < (0 : Int32)
          · obtain ⟨fs, hr, hrun, hended, hRW⟩ := X61.leaveW hS60 (by rw [e61]; exact hk60) (v := some (.int (0 : Int32))) (fun h => by rw [Bd.returns] at h; cases h)
            refine ⟨_, _, pre62 _ ?_, hrun, hended, _, _, rfl, ?_, ?_, (own_rmono hRW (by decide) (by decide))⟩
            · show Steps pg.tables ee below (T61.setTop (mkF mm 68 #[.val (.ref a), .val (.int (2 : Int32)), .val (.int x2), .val (.int (own_al x2))] [(.int r61)])) _
              refine XS.ifNo X61.here hx rfl (hb hby d5_68) rfl ((if0 _ _).trans (tlt hc63).2.1) ?_
              refine XS.iconst X61.here hx rfl (hb hby d5_71) ?_
              exact retN X61 hx (t := .boolean) Bd.returns (by simp) (hb hby d5_72) hr
            · show QrmTk3 Z a x0 x1 x2 cs fm h0 n0 _ T61.heap _
              rw [e61]
              exact ⟨by have t0 := own_ts (Classical.byContradiction fun q => hc13 (hr11.mpr q)); have t1 := own_ta hc21; have t2 := own_tn hc57 (hr61.mp hc63); simp [own_k3, own_k2, t0, t1, t2], N61, KK60⟩
            · show CHr Z own_EL s.vm s.heap T61.vm T61.heap
              rw [hh, e61]
              exact CR60.trans (CHv.at X61 hZ hEL CR60.1)
          · obtain ⟨LL64, XL64, NL64⟩ := own_loose X61 N61
            obtain ⟨cq65, kq65, q65a, q65b, q65c⟩ := isOf hZ e61 ((Sa.1.ext E9).ext E60)
            obtain ⟨_, _, ⟨T65, L65, k65, n65⟩, -, X65, ⟨Lc65, hQ65, l65, y65, z65⟩, st65⟩ := XL64.virtualBack hx hown (mvT hZ (own_h hw 30 rfl)) (mvT hZ (own_h hw 31 rfl)) (notFace_of_selects (args := #[]) (mvT hZ (own_h hw 33 rfl))) (mvT hZ (own_h hw 33 rfl)) (mvT hZ (own_h hw 32 rfl)) (by decide) (backOf (W := 1) (rmLenS3 l Z a0 hw [] a x0 x1 x2 cs h60 n0 O60 ((Sa.ext E9).ext E60) hC) hZ (own_h hw 34 rfl) (own_h hw 7 rfl) (by decide) (by decide)) q65a q65c (g := (mkF mm 4 #[.val (.ref a), .val (.int (3 : Int32)), .val (.int x2), .val (.int (own_al x2))] [(.ref a), (.int (3 : Int32))])) rfl (by rw [hml]; rfl) (Steps.refl _) (argsL := []) (rest := [(.int (3 : Int32))]) (lenOf pd_214 rfl) rfl (Nat.le_of_eq rfl) (hb hby d5_4) (fun _ _ => ⟨rfl, e61, (by decide : 4 + 0 ≤ _), (by decide : 128 + 0 ≤ _)⟩)
            dsimp only [Pt.U, Pt.locs, Pt.cells, Pt.slots] at X65 l65 y65 z65 st65 hQ65
            subst l65 y65 z65
            obtain ⟨rfl, N65q, e65⟩ := hQ65
            have N65 := Fr.app NL64 N65q
            obtain ⟨LL66, XL66, NL66⟩ := own_loose X65 N65
            obtain ⟨cq67, kq67, q67a, q67b, q67c⟩ := isOf hZ e65 ((Sa.1.ext E9).ext E60)
            obtain ⟨_, _, ⟨T67, L67, k67, n67⟩, -, X67, ⟨Lc67, hQ67, l67, y67, z67⟩, st67⟩ := XL66.virtualBack hx hown (mvT hZ (own_h hw 41 rfl)) (mvT hZ (own_h hw 42 rfl)) (notFace_of_selects (args := #[]) (mvT hZ (own_h hw 44 rfl))) (mvT hZ (own_h hw 44 rfl)) (mvT hZ (own_h hw 43 rfl)) (by decide) (backOf (W := 0) (rmEmS3 l Z a0 hw [] a x0 x1 x2 h60 n0 O60 ((Sa.ext E9).ext E60)) hZ (own_h hw 45 rfl) (own_h hw 7 rfl) (by decide) (by decide)) q67a q67c (g := (mkF mm 80 #[.val (.ref a), .val (.int (3 : Int32)), .val (.int x2), .val (.int (own_al x2))] [(.ref a)])) rfl (by rw [hml]; rfl) (Steps.refl _) (argsL := []) (rest := []) (lenOf pd_112 rfl) rfl (Nat.le_of_eq rfl) (hb hby d5_80) (fun _ _ => ⟨rfl, e65, (by decide : 4 + 0 ≤ _), (by decide : 128 + 0 ≤ _)⟩)
            dsimp only [Pt.U, Pt.locs, Pt.cells, Pt.slots] at X67 l67 y67 z67 st67 hQ67
            subst l67 y67 z67
            obtain ⟨rfl, N67q, e67⟩ := hQ67
            have N67 := Fr.app NL66 N67q
            obtain ⟨fs, hr, hrun, hended, hRW⟩ := X67.leaveW hS60 (by rw [e67]; exact hk60) (v := some (.int (1 : Int32))) (fun h => by rw [Bd.returns] at h; cases h)
            refine ⟨_, _, pre62 _ ?_, hrun, hended, _, _, rfl, ?_, ?_, (own_rmono hRW (by decide) (by decide))⟩
            · show Steps pg.tables ee below (T61.setTop (mkF mm 68 #[.val (.ref a), .val (.int (2 : Int32)), .val (.int x2), .val (.int (own_al x2))] [(.int r61)])) _
              refine XS.ifYes X61.here hx rfl (pc0 := 68) (pc' := 73) rfl (hb hby d5_68) rfl ((if0 _ _).trans (flt hc63).2.1) (by decide) (by decide) ?_
              refine XS.iinc X61.here hx rfl (hb hby d5_73) rfl (l' := #[.val (.ref a), .val (.int (3 : Int32)), .val (.int x2), .val (.int (own_al x2))]) rfl ?_
              refine XS.goto X61.here hx rfl (pc0 := 76) (pc' := 2) rfl (hb hby d5_76) (by decide) (by decide) ?_
              refine XS.iloadN X61.here hx rfl (hb hby d5_2) rfl ?_
              show Steps pg.tables ee below (T61.setTop (mkF mm 3 #[.val (.ref a), .val (.int (3 : Int32)), .val (.int x2), .val (.int (own_al x2))] [(.int (3 : Int32))])) _
              refine XS.aloadN X61.here hx rfl (hb hby d5_3) rfl rfl ?_
              refine st65.trans ?_
              refine XS.icmpYes X65.here hx rfl (pc0 := 7) (pc' := 79) rfl (hb hby d5_7) rfl (flt (by decide : ¬ ((3 : Int32) < (3 : Int32)))).2.1 (by decide) (by decide) ?_
              refine XS.aloadN X65.here hx rfl (hb hby d5_79) rfl rfl ?_
              refine st67.trans ?_
              refine XS.ifNo X67.here hx rfl (hb hby d5_83) rfl ((if0 _ _).trans (teq (by decide : (0 : Int32) = (0 : Int32))).2) ?_
              refine XS.iconst X67.here hx rfl (hb hby d5_86) ?_
              refine XS.goto X67.here hx rfl (pc0 := 87) (pc' := 91) rfl (hb hby d5_87) (by decide) (by decide) ?_
              show Steps pg.tables ee below (T67.setTop (mkF mm 91 #[.val (.ref a), .val (.int (3 : Int32)), .val (.int x2), .val (.int (own_al x2))] [(.int (1 : Int32))])) _
              exact retN X67 hx (t := .boolean) Bd.returns (by simp) (hb hby d5_91) hr
            · show QrmTk3 Z a x0 x1 x2 cs fm h0 n0 _ T67.heap _
              rw [e67]
              exact ⟨by have t0 := own_ts (Classical.byContradiction fun q => hc13 (hr11.mpr q)); have t1 := own_ta hc21; have t2 := own_ts (Classical.byContradiction fun q => hc63 (hr61.mpr q)); simp [own_k3, own_k2, t0, t1, t2], N67, KK60⟩
            · show CHr Z own_EL s.vm s.heap T67.vm T67.heap
              rw [hh, e67]
              exact CR60.trans (CHv.at X67 hZ hEL CR60.1)
        · obtain ⟨LL68, XL68, NL68⟩ := own_loose X53 N53
          obtain ⟨cq69, kq69, q69a, q69b, q69c⟩ := isOf hZ e53 (Sa.1.ext E9)
          obtain ⟨_, _, ⟨T69, L69, k69, n69⟩, -, X69, ⟨Lc69, hQ69, l69, y69, z69⟩, st69⟩ := XL68.virtualBack hx hown (mvT hZ (own_h hw 30 rfl)) (mvT hZ (own_h hw 31 rfl)) (notFace_of_selects (args := #[]) (mvT hZ (own_h hw 33 rfl))) (mvT hZ (own_h hw 33 rfl)) (mvT hZ (own_h hw 32 rfl)) (by decide) (backOf (W := 1) (rmLenS3 l Z a0 hw [] a x0 x1 x2 cs h9 n0 O9 (Sa.ext E9) hC) hZ (own_h hw 34 rfl) (own_h hw 7 rfl) (by decide) (by decide)) q69a q69c (g := (mkF mm 4 #[.val (.ref a), .val (.int (3 : Int32)), .val (.int x2), .val (.int (own_al x2))] [(.ref a), (.int (3 : Int32))])) rfl (by rw [hml]; rfl) (Steps.refl _) (argsL := []) (rest := [(.int (3 : Int32))]) (lenOf pd_214 rfl) rfl (Nat.le_of_eq rfl) (hb hby d5_4) (fun _ _ => ⟨rfl, e53, (by decide : 2 + 0 ≤ _), (by decide : 64 + 0 ≤ _)⟩)
          dsimp only [Pt.U, Pt.locs, Pt.cells, Pt.slots] at X69 l69 y69 z69 st69 hQ69
          subst l69 y69 z69
          obtain ⟨rfl, N69q, e69⟩ := hQ69
          have N69 := Fr.app NL68 N69q
          obtain ⟨LL70, XL70, NL70⟩ := own_loose X69 N69
          obtain ⟨cq71, kq71, q71a, q71b, q71c⟩ := isOf hZ e69 (Sa.1.ext E9)
          obtain ⟨_, _, ⟨T71, L71, k71, n71⟩, -, X71, ⟨Lc71, hQ71, l71, y71, z71⟩, st71⟩ := XL70.virtualBack hx hown (mvT hZ (own_h hw 41 rfl)) (mvT hZ (own_h hw 42 rfl)) (notFace_of_selects (args := #[]) (mvT hZ (own_h hw 44 rfl))) (mvT hZ (own_h hw 44 rfl)) (mvT hZ (own_h hw 43 rfl)) (by decide) (backOf (W := 0) (rmEmS3 l Z a0 hw [] a x0 x1 x2 h9 n0 O9 (Sa.ext E9)) hZ (own_h hw 45 rfl) (own_h hw 7 rfl) (by decide) (by decide)) q71a q71c (g := (mkF mm 80 #[.val (.ref a), .val (.int (3 : Int32)), .val (.int x2), .val (.int (own_al x2))] [(.ref a)])) rfl (by rw [hml]; rfl) (Steps.refl _) (argsL := []) (rest := []) (lenOf pd_112 rfl) rfl (Nat.le_of_eq rfl) (hb hby d5_80) (fun _ _ => ⟨rfl, e69, (by decide : 2 + 0 ≤ _), (by decide : 64 + 0 ≤ _)⟩)
          dsimp only [Pt.U, Pt.locs, Pt.cells, Pt.slots] at X71 l71 y71 z71 st71 hQ71
          subst l71 y71 z71
          obtain ⟨rfl, N71q, e71⟩ := hQ71
          have N71 := Fr.app NL70 N71q
          obtain ⟨fs, hr, hrun, hended, hRW⟩ := X71.leaveW hS9 (by rw [e71]; exact hk9) (v := some (.int (1 : Int32))) (fun h => by rw [Bd.returns] at h; cases h)
          refine ⟨_, _, pre56 _ ?_, hrun, hended, _, _, rfl, ?_, ?_, (own_rmono hRW (by decide) (by decide))⟩
          · show Steps pg.tables ee below (T53.setTop (mkF mm 59 #[.val (.ref a), .val (.int (2 : Int32)), .val (.int x2), .val (.int (own_al x2))] [(.int (own_al x2))])) _
            refine XS.ifYes X53.here hx rfl (pc0 := 59) (pc' := 73) rfl (hb hby d5_59) rfl ((if0 _ _).trans (feq hc57).2) (by decide) (by decide) ?_
            refine XS.iinc X53.here hx rfl (hb hby d5_73) rfl (l' := #[.val (.ref a), .val (.int (3 : Int32)), .val (.int x2), .val (.int (own_al x2))]) rfl ?_
            refine XS.goto X53.here hx rfl (pc0 := 76) (pc' := 2) rfl (hb hby d5_76) (by decide) (by decide) ?_
            refine XS.iloadN X53.here hx rfl (hb hby d5_2) rfl ?_
            refine XS.aloadN X53.here hx rfl (hb hby d5_3) rfl rfl ?_
            refine st69.trans ?_
            refine XS.icmpYes X69.here hx rfl (pc0 := 7) (pc' := 79) rfl (hb hby d5_7) rfl (flt (by decide : ¬ ((3 : Int32) < (3 : Int32)))).2.1 (by decide) (by decide) ?_
            show Steps pg.tables ee below (T69.setTop (mkF mm 79 #[.val (.ref a), .val (.int (3 : Int32)), .val (.int x2), .val (.int (own_al x2))] [])) _
            refine XS.aloadN X69.here hx rfl (hb hby d5_79) rfl rfl ?_
            refine st71.trans ?_
            refine XS.ifNo X71.here hx rfl (hb hby d5_83) rfl ((if0 _ _).trans (teq (by decide : (0 : Int32) = (0 : Int32))).2) ?_
            refine XS.iconst X71.here hx rfl (hb hby d5_86) ?_
            refine XS.goto X71.here hx rfl (pc0 := 87) (pc' := 91) rfl (hb hby d5_87) (by decide) (by decide) ?_
            exact retN X71 hx (t := .boolean) Bd.returns (by simp) (hb hby d5_91) hr
          · show QrmTk3 Z a x0 x1 x2 cs fm h0 n0 _ T71.heap _
            rw [e71]
            exact ⟨by have t0 := own_ts (Classical.byContradiction fun q => hc13 (hr11.mpr q)); have t1 := own_ta hc21; have t2 := own_ta hc57; simp [own_k3, own_k2, t0, t1, t2], N71, KK9⟩
          · show CHr Z own_EL s.vm s.heap T71.vm T71.heap
            rw [hh, e71]
            exact CR9.trans (CHv.at X71 hZ hEL CR9.1)
  · obtain ⟨LL72, XL72, NL72⟩ := own_loose X3 N3
    obtain ⟨cq73, kq73, q73a, q73b, q73c⟩ := isOf hZ e3 Sa.1
    obtain ⟨_, _, ⟨T73, L73, k73, n73⟩, -, X73, ⟨Lc73, hQ73, l73, y73, z73⟩, st73⟩ := XL72.virtualBack hx hown (mvT hZ (own_h hw 30 rfl)) (mvT hZ (own_h hw 31 rfl)) (notFace_of_selects (args := #[]) (mvT hZ (own_h hw 33 rfl))) (mvT hZ (own_h hw 33 rfl)) (mvT hZ (own_h hw 32 rfl)) (by decide) (backOf (W := 1) (rmLenS3 l Z a0 hw [] a x0 x1 x2 cs h0 n0 O0 Sa hC) hZ (own_h hw 34 rfl) (own_h hw 7 rfl) (by decide) (by decide)) q73a q73c (g := (mkF mm 4 #[.val (.ref a), .val (.int (1 : Int32)), .val (.int x0), .val (.int (own_al x0))] [(.ref a), (.int (1 : Int32))])) rfl (by rw [hml]; rfl) (Steps.refl _) (argsL := []) (rest := [(.int (1 : Int32))]) (lenOf pd_214 rfl) rfl (Nat.le_of_eq rfl) (hb hby d5_4) (fun _ _ => ⟨rfl, e3, (by decide : 0 + 0 ≤ _), (by decide : 0 + 0 ≤ _)⟩)
    dsimp only [Pt.U, Pt.locs, Pt.cells, Pt.slots] at X73 l73 y73 z73 st73 hQ73
    subst l73 y73 z73
    obtain ⟨rfl, N73q, e73⟩ := hQ73
    have N73 := Fr.app NL72 N73q
    obtain ⟨LL74, XL74, NL74⟩ := own_loose X73 N73
    obtain ⟨cq75, kq75, q75a, q75b, q75c⟩ := isOf hZ e73 Sa.1
    obtain ⟨_, _, ⟨T75, L75, k75, n75⟩, -, X75, ⟨Lc75, hQ75, l75, y75, z75⟩, st75⟩ := XL74.virtualBack hx hown (mvT hZ (own_h hw 59 rfl)) (mvT hZ (own_h hw 60 rfl)) (notFace_of_selects (args := #[]) (mvT hZ (own_h hw 62 rfl))) (mvT hZ (own_h hw 62 rfl)) (mvT hZ (own_h hw 61 rfl)) (by decide) (backOf (W := 0) (rmChS3_1 l Z a0 hw [] a x0 x1 x2 cs fm h0 n0 O0 Sa hC hG hF ha0 hb0 ha1 hb1 ha2 hb2) hZ (own_h hw 63 rfl) (own_h hw 7 rfl) (by decide) (by decide)) q75a q75c (g := (mkF mm 12 #[.val (.ref a), .val (.int (1 : Int32)), .val (.int x0), .val (.int (own_al x0))] [(.int (1 : Int32)), (.ref a)])) rfl (by rw [hml]; rfl) (Steps.refl _) (argsL := [(.int (1 : Int32))]) (rest := []) (lenOf pd_523 rfl) rfl (Nat.le_of_eq rfl) (hb hby d5_12) (fun _ _ => ⟨rfl, e73, (by decide : 0 + 0 ≤ _), (by decide : 0 + 0 ≤ _)⟩)
    dsimp only [Pt.U, Pt.locs, Pt.cells, Pt.slots] at X75 l75 y75 z75 st75 hQ75
    subst l75 y75 z75
    obtain ⟨rfl, N75q, e75⟩ := hQ75
    have N75 := Fr.app NL74 N75q
    have pre76 := fun tg_ (k_ : Steps pg.tables ee below (T75.setTop (mkF mm 16 #[.val (.ref a), .val (.int (1 : Int32)), .val (.int x1), .val (.int (own_al x0))] [])) tg_) => pre6 tg_ (by
      show Steps pg.tables ee below (T3.setTop (mkF mm 59 #[.val (.ref a), .val (.int (0 : Int32)), .val (.int x0), .val (.int (own_al x0))] [(.int (own_al x0))])) _
      refine XS.ifYes X3.here hx rfl (pc0 := 59) (pc' := 73) rfl (hb hby d5_59) rfl ((if0 _ _).trans (feq hc7).2) (by decide) (by decide) ?_
      refine XS.iinc X3.here hx rfl (hb hby d5_73) rfl (l' := #[.val (.ref a), .val (.int (1 : Int32)), .val (.int x0), .val (.int (own_al x0))]) rfl ?_
      refine XS.goto X3.here hx rfl (pc0 := 76) (pc' := 2) rfl (hb hby d5_76) (by decide) (by decide) ?_
      refine XS.iloadN X3.here hx rfl (hb hby d5_2) rfl ?_
      refine XS.aloadN X3.here hx rfl (hb hby d5_3) rfl rfl ?_
      refine st73.trans ?_
      refine XS.icmpNo X73.here hx rfl (hb hby d5_7) rfl (tlt (by decide : (1 : Int32) < (3 : Int32))).2.1 ?_
      show Steps pg.tables ee below (T73.setTop (mkF mm 10 #[.val (.ref a), .val (.int (1 : Int32)), .val (.int x0), .val (.int (own_al x0))] [])) _
      refine XS.aloadN X73.here hx rfl (hb hby d5_10) rfl rfl ?_
      refine XS.iloadN X73.here hx rfl (hb hby d5_11) rfl ?_
      refine st75.trans ?_
      refine XS.istoreN X75.here hx rfl (hb hby d5_15) rfl (l' := #[.val (.ref a), .val (.int (1 : Int32)), .val (.int x1), .val (.int (own_al x0))]) rfl ?_
      exact k_)
    have pre77 : ∀ tg_, Steps pg.tables ee below (T75.setTop (mkF mm 58 #[.val (.ref a), .val (.int (1 : Int32)), .val (.int x1), .val (.int (own_al x1))] [])) tg_ → Steps pg.tables ee below (s₁.setTop (entryFrame mm #[(.ref a)] 4)) tg_ := fun tg_ k_ => pre76 tg_ (pcAli X75 hx hby a (1 : Int32) x1 (own_al x0) tg_ k_)
    have pre78 := fun tg_ (k_ : Steps pg.tables ee below (T75.setTop (mkF mm 59 #[.val (.ref a), .val (.int (1 : Int32)), .val (.int x1), .val (.int (own_al x1))] [(.int (own_al x1))])) tg_) => pre77 tg_ (by
      show Steps pg.tables ee below (T75.setTop (mkF mm 58 #[.val (.ref a), .val (.int (1 : Int32)), .val (.int x1), .val (.int (own_al x1))] [])) _
      refine XS.iloadN X75.here hx rfl (hb hby d5_58) rfl ?_
      exact k_)
    by_cases hc79 : (own_al x1) = (0 : Int32)
    · have pre80 := fun tg_ (k_ : Steps pg.tables ee below (T75.setTop (mkF mm 62 #[.val (.ref a), .val (.int (1 : Int32)), .val (.int x1), .val (.int (own_al x1))] [])) tg_) => pre78 tg_ (by
        show Steps pg.tables ee below (T75.setTop (mkF mm 59 #[.val (.ref a), .val (.int (1 : Int32)), .val (.int x1), .val (.int (own_al x1))] [(.int (own_al x1))])) _
        refine XS.ifNo X75.here hx rfl (hb hby d5_59) rfl ((if0 _ _).trans (teq hc79).2) ?_
        exact k_)
      obtain ⟨sa81, T81, h81, k81, sb81, sk81, X81, e81, E81, hS81, hk81, hZ, hown, Es81, Fc81, Fv81, Va81, lt81, lu81, CQ81, -, hne81, st81⟩ := ldcCH (EL := own_EL) (vs := [(.int (33 : Int32)), (.int (35 : Int32)), (.int (36 : Int32)), (.int (37 : Int32)), (.int (38 : Int32)), (.int (39 : Int32)), (.int (42 : Int32)), (.int (43 : Int32)), (.int (45 : Int32)), (.int (46 : Int32)), (.int (94 : Int32)), (.int (95 : Int32)), (.int (96 : Int32)), (.int (124 : Int32)), (.int (126 : Int32))]) (z := (15 : Int32)) (n := 60) X75 hx hZ hown (own_h hw 81 rfl) (own_wS hw) e75 hS0 (Nat.zero_le _) hEL (List.mem_of_getElem? (i := 0) rfl) CR0.1 (by decide +kernel) (by decide) rfl (g := (mkF mm 62 #[.val (.ref a), .val (.int (1 : Int32)), .val (.int x1), .val (.int (own_al x1))] [])) rfl (hb hby d5_62) (by decide +kernel) (by decide) (by decide) (by decide)
      have CR81 := CR0.trans CQ81
      have O81 := O0.ext E81
      have KK81 := K0.ext E81
      obtain ⟨LL82, XL82, NL82⟩ := own_loose X81 N75
      obtain ⟨cq83, kq83, q83a, q83b, q83c⟩ := isOf hZ e81 Es81
      obtain ⟨_, _, ⟨T83, L83, k83, n83⟩, -, X83, ⟨Lc83, hQ83, l83, y83, z83⟩, st83⟩ := XL82.virtualBack hx hown (mvT hZ (own_h hw 82 rfl)) (mvT hZ (own_h hw 83 rfl)) (notFace_of_selects (args := #[]) (mvT hZ (own_h hw 85 rfl))) (mvT hZ (own_h hw 85 rfl)) (mvT hZ (own_h hw 84 rfl)) (by decide) (backOf (W := 0) (rmX1 l Z a0 hw [] sa81 sb81 sk81 x1 cs h81 n0 O81 Fc81 Fv81 Va81 Es81 hC ha1) hZ (own_h hw 86 rfl) (own_h hw 7 rfl) (by decide) (by decide)) q83a q83c (g := (mkF mm 65 #[.val (.ref a), .val (.int (1 : Int32)), .val (.int x1), .val (.int (own_al x1))] [(.int x1), (.ref sa81)])) rfl (by rw [hml]; rfl) (Steps.refl _) (argsL := [(.int x1)]) (rest := []) (lenOf pd_375 rfl) rfl (Nat.le_of_eq rfl) (hb hby d5_65) (fun _ _ => ⟨rfl, e81, (by decide : 2 + 0 ≤ _), (by decide : 64 + 0 ≤ _)⟩)
      dsimp only [Pt.U, Pt.locs, Pt.cells, Pt.slots] at X83 l83 y83 z83 st83 hQ83
      subst l83 y83 z83
      obtain ⟨r83, rfl, N83q, e83, hr83⟩ := hQ83
      have N83 := Fr.app NL82 N83q
      have pre84 := fun tg_ (k_ : Steps pg.tables ee below (T83.setTop (mkF mm 68 #[.val (.ref a), .val (.int (1 : Int32)), .val (.int x1), .val (.int (own_al x1))] [(.int r83)])) tg_) => pre80 tg_ (by
        show Steps pg.tables ee below (T75.setTop (mkF mm 62 #[.val (.ref a), .val (.int (1 : Int32)), .val (.int x1), .val (.int (own_al x1))] [])) _
        refine st81 _ ?_
        refine XS.iloadN X81.here hx rfl (hb hby d5_64) rfl ?_
        refine st83.trans ?_
        exact k_)
      by_cases hc85 : r83 < (0 : Int32)
      · obtain ⟨fs, hr, hrun, hended, hRW⟩ := X83.leaveW hS81 (by rw [e83]; exact hk81) (v := some (.int (0 : Int32))) (fun h => by rw [Bd.returns] at h; cases h)
        refine ⟨_, _, pre84 _ ?_, hrun, hended, _, _, rfl, ?_, ?_, (own_rmono hRW (by decide) (by decide))⟩
        · show Steps pg.tables ee below (T83.setTop (mkF mm 68 #[.val (.ref a), .val (.int (1 : Int32)), .val (.int x1), .val (.int (own_al x1))] [(.int r83)])) _
          refine XS.ifNo X83.here hx rfl (hb hby d5_68) rfl ((if0 _ _).trans (tlt hc85).2.1) ?_
          refine XS.iconst X83.here hx rfl (hb hby d5_71) ?_
          exact retN X83 hx (t := .boolean) Bd.returns (by simp) (hb hby d5_72) hr
        · show QrmTk3 Z a x0 x1 x2 cs fm h0 n0 _ T83.heap _
          rw [e83]
          exact ⟨by have t0 := own_ta hc7; have t1 := own_tn hc79 (hr83.mp hc85); simp [own_k3, own_k2, t0, t1], N83, KK81⟩
        · show CHr Z own_EL s.vm s.heap T83.vm T83.heap
          rw [hh, e83]
          exact CR81.trans (CHv.at X83 hZ hEL CR81.1)
      · obtain ⟨LL86, XL86, NL86⟩ := own_loose X83 N83
        obtain ⟨cq87, kq87, q87a, q87b, q87c⟩ := isOf hZ e83 (Sa.1.ext E81)
        obtain ⟨_, _, ⟨T87, L87, k87, n87⟩, -, X87, ⟨Lc87, hQ87, l87, y87, z87⟩, st87⟩ := XL86.virtualBack hx hown (mvT hZ (own_h hw 30 rfl)) (mvT hZ (own_h hw 31 rfl)) (notFace_of_selects (args := #[]) (mvT hZ (own_h hw 33 rfl))) (mvT hZ (own_h hw 33 rfl)) (mvT hZ (own_h hw 32 rfl)) (by decide) (backOf (W := 1) (rmLenS3 l Z a0 hw [] a x0 x1 x2 cs h81 n0 O81 (Sa.ext E81) hC) hZ (own_h hw 34 rfl) (own_h hw 7 rfl) (by decide) (by decide)) q87a q87c (g := (mkF mm 4 #[.val (.ref a), .val (.int (2 : Int32)), .val (.int x1), .val (.int (own_al x1))] [(.ref a), (.int (2 : Int32))])) rfl (by rw [hml]; rfl) (Steps.refl _) (argsL := []) (rest := [(.int (2 : Int32))]) (lenOf pd_214 rfl) rfl (Nat.le_of_eq rfl) (hb hby d5_4) (fun _ _ => ⟨rfl, e83, (by decide : 2 + 0 ≤ _), (by decide : 64 + 0 ≤ _)⟩)
        dsimp only [Pt.U, Pt.locs, Pt.cells, Pt.slots] at X87 l87 y87 z87 st87 hQ87
        subst l87 y87 z87
        obtain ⟨rfl, N87q, e87⟩ := hQ87
        have N87 := Fr.app NL86 N87q
        obtain ⟨LL88, XL88, NL88⟩ := own_loose X87 N87
        obtain ⟨cq89, kq89, q89a, q89b, q89c⟩ := isOf hZ e87 (Sa.1.ext E81)
        obtain ⟨_, _, ⟨T89, L89, k89, n89⟩, -, X89, ⟨Lc89, hQ89, l89, y89, z89⟩, st89⟩ := XL88.virtualBack hx hown (mvT hZ (own_h hw 59 rfl)) (mvT hZ (own_h hw 60 rfl)) (notFace_of_selects (args := #[]) (mvT hZ (own_h hw 62 rfl))) (mvT hZ (own_h hw 62 rfl)) (mvT hZ (own_h hw 61 rfl)) (by decide) (backOf (W := 0) (rmChS3_2 l Z a0 hw [] a x0 x1 x2 cs fm h81 n0 O81 (Sa.ext E81) hC hG hF ha0 hb0 ha1 hb1 ha2 hb2) hZ (own_h hw 63 rfl) (own_h hw 7 rfl) (by decide) (by decide)) q89a q89c (g := (mkF mm 12 #[.val (.ref a), .val (.int (2 : Int32)), .val (.int x1), .val (.int (own_al x1))] [(.int (2 : Int32)), (.ref a)])) rfl (by rw [hml]; rfl) (Steps.refl _) (argsL := [(.int (2 : Int32))]) (rest := []) (lenOf pd_523 rfl) rfl (Nat.le_of_eq rfl) (hb hby d5_12) (fun _ _ => ⟨rfl, e87, (by decide : 2 + 0 ≤ _), (by decide : 64 + 0 ≤ _)⟩)
        dsimp only [Pt.U, Pt.locs, Pt.cells, Pt.slots] at X89 l89 y89 z89 st89 hQ89
        subst l89 y89 z89
        obtain ⟨rfl, N89q, e89⟩ := hQ89
        have N89 := Fr.app NL88 N89q
        have pre90 := fun tg_ (k_ : Steps pg.tables ee below (T89.setTop (mkF mm 16 #[.val (.ref a), .val (.int (2 : Int32)), .val (.int x2), .val (.int (own_al x1))] [])) tg_) => pre84 tg_ (by
          show Steps pg.tables ee below (T83.setTop (mkF mm 68 #[.val (.ref a), .val (.int (1 : Int32)), .val (.int x1), .val (.int (own_al x1))] [(.int r83)])) _
          refine XS.ifYes X83.here hx rfl (pc0 := 68) (pc' := 73) rfl (hb hby d5_68) rfl ((if0 _ _).trans (flt hc85).2.1) (by decide) (by decide) ?_
          refine XS.iinc X83.here hx rfl (hb hby d5_73) rfl (l' := #[.val (.ref a), .val (.int (2 : Int32)), .val (.int x1), .val (.int (own_al x1))]) rfl ?_
          refine XS.goto X83.here hx rfl (pc0 := 76) (pc' := 2) rfl (hb hby d5_76) (by decide) (by decide) ?_
          refine XS.iloadN X83.here hx rfl (hb hby d5_2) rfl ?_
          show Steps pg.tables ee below (T83.setTop (mkF mm 3 #[.val (.ref a), .val (.int (2 : Int32)), .val (.int x1), .val (.int (own_al x1))] [(.int (2 : Int32))])) _
          refine XS.aloadN X83.here hx rfl (hb hby d5_3) rfl rfl ?_
          refine st87.trans ?_
          refine XS.icmpNo X87.here hx rfl (hb hby d5_7) rfl (tlt (by decide : (2 : Int32) < (3 : Int32))).2.1 ?_
          refine XS.aloadN X87.here hx rfl (hb hby d5_10) rfl rfl ?_
          refine XS.iloadN X87.here hx rfl (hb hby d5_11) rfl ?_
          refine st89.trans ?_
          refine XS.istoreN X89.here hx rfl (hb hby d5_15) rfl (l' := #[.val (.ref a), .val (.int (2 : Int32)), .val (.int x2), .val (.int (own_al x1))]) rfl ?_
          exact k_)
        have pre91 : ∀ tg_, Steps pg.tables ee below (T89.setTop (mkF mm 58 #[.val (.ref a), .val (.int (2 : Int32)), .val (.int x2), .val (.int (own_al x2))] [])) tg_ → Steps pg.tables ee below (s₁.setTop (entryFrame mm #[(.ref a)] 4)) tg_ := fun tg_ k_ => pre90 tg_ (pcAli X89 hx hby a (2 : Int32) x2 (own_al x1) tg_ k_)
        have pre92 := fun tg_ (k_ : Steps pg.tables ee below (T89.setTop (mkF mm 59 #[.val (.ref a), .val (.int (2 : Int32)), .val (.int x2), .val (.int (own_al x2))] [(.int (own_al x2))])) tg_) => pre91 tg_ (by
          show Steps pg.tables ee below (T89.setTop (mkF mm 58 #[.val (.ref a), .val (.int (2 : Int32)), .val (.int x2), .val (.int (own_al x2))] [])) _
          refine XS.iloadN X89.here hx rfl (hb hby d5_58) rfl ?_
          exact k_)
        by_cases hc93 : (own_al x2) = (0 : Int32)
        · obtain ⟨LL94, XL94, NL94⟩ := own_loose X89 N89
          have pre95 := fun tg_ (k_ : Steps pg.tables ee below (T89.setTop (mkF mm 62 #[.val (.ref a), .val (.int (2 : Int32)), .val (.int x2), .val (.int (own_al x2))] [])) tg_) => pre92 tg_ (by
            show Steps pg.tables ee below (T89.setTop (mkF mm 59 #[.val (.ref a), .val (.int (2 : Int32)), .val (.int x2), .val (.int (own_al x2))] [(.int (own_al x2))])) _
            refine XS.ifNo X89.here hx rfl (hb hby d5_59) rfl ((if0 _ _).trans (teq hc93).2) ?_
            exact k_)
          obtain ⟨sa96, T96, h96, k96, sb96, sk96, X96, e96, E96, hS96, hk96, hZ, hown, Es96, Fc96, Fv96, Va96, lt96, lu96, CQ96, -, hne96, st96⟩ := ldcCH (EL := own_EL) (vs := [(.int (33 : Int32)), (.int (35 : Int32)), (.int (36 : Int32)), (.int (37 : Int32)), (.int (38 : Int32)), (.int (39 : Int32)), (.int (42 : Int32)), (.int (43 : Int32)), (.int (45 : Int32)), (.int (46 : Int32)), (.int (94 : Int32)), (.int (95 : Int32)), (.int (96 : Int32)), (.int (124 : Int32)), (.int (126 : Int32))]) (z := (15 : Int32)) (n := 60) XL94 hx hZ hown (own_h hw 81 rfl) (own_wS hw) e89 hS81 hk81 hEL (List.mem_of_getElem? (i := 0) rfl) CR81.1 (by decide +kernel) (by decide) rfl (g := (mkF mm 62 #[.val (.ref a), .val (.int (2 : Int32)), .val (.int x2), .val (.int (own_al x2))] [])) rfl (hb hby d5_62) (by decide +kernel) (by decide) (by decide) (by decide)
          have CR96 := CR81.trans CQ96
          have O96 := O81.ext E96
          have KK96 := KK81.ext E96
          obtain ⟨cq97, kq97, q97a, q97b, q97c⟩ := isOf hZ e96 Es96
          obtain ⟨_, _, ⟨T97, L97, k97, n97⟩, -, X97, ⟨Lc97, hQ97, l97, y97, z97⟩, st97⟩ := X96.virtualBack hx hown (mvT hZ (own_h hw 82 rfl)) (mvT hZ (own_h hw 83 rfl)) (notFace_of_selects (args := #[]) (mvT hZ (own_h hw 85 rfl))) (mvT hZ (own_h hw 85 rfl)) (mvT hZ (own_h hw 84 rfl)) (by decide) (backOf (W := 0) (rmX1 l Z a0 hw [] sa96 sb96 sk96 x2 cs h96 n0 O96 Fc96 Fv96 Va96 Es96 hC ha2) hZ (own_h hw 86 rfl) (own_h hw 7 rfl) (by decide) (by decide)) q97a q97c (g := (mkF mm 65 #[.val (.ref a), .val (.int (2 : Int32)), .val (.int x2), .val (.int (own_al x2))] [(.int x2), (.ref sa96)])) rfl (by rw [hml]; rfl) (Steps.refl _) (argsL := [(.int x2)]) (rest := []) (lenOf pd_375 rfl) rfl (Nat.le_of_eq rfl) (hb hby d5_65) (fun _ _ => ⟨rfl, e96, (by decide : 4 + 0 ≤ _), (by decide : 128 + 0 ≤ _)⟩)
          dsimp only [Pt.U, Pt.locs, Pt.cells, Pt.slots] at X97 l97 y97 z97 st97 hQ97
          subst l97 y97 z97
          obtain ⟨r97, rfl, N97q, e97, hr97⟩ := hQ97
          have N97 := Fr.app NL94 N97q
          have pre98 := fun tg_ (k_ : Steps pg.tables ee below (T97.setTop (mkF mm 68 #[.val (.ref a), .val (.int (2 : Int32)), .val (.int x2), .val (.int (own_al x2))] [(.int r97)])) tg_) => pre95 tg_ (by
            show Steps pg.tables ee below (T89.setTop (mkF mm 62 #[.val (.ref a), .val (.int (2 : Int32)), .val (.int x2), .val (.int (own_al x2))] [])) _
            refine st96 _ ?_
            refine XS.iloadN X96.here hx rfl (hb hby d5_64) rfl ?_
            refine st97.trans ?_
            exact k_)
          by_cases hc99 : r97 < (0 : Int32)
          · obtain ⟨fs, hr, hrun, hended, hRW⟩ := X97.leaveW hS96 (by rw [e97]; exact hk96) (v := some (.int (0 : Int32))) (fun h => by rw [Bd.returns] at h; cases h)
            refine ⟨_, _, pre98 _ ?_, hrun, hended, _, _, rfl, ?_, ?_, (own_rmono hRW (by decide) (by decide))⟩
            · show Steps pg.tables ee below (T97.setTop (mkF mm 68 #[.val (.ref a), .val (.int (2 : Int32)), .val (.int x2), .val (.int (own_al x2))] [(.int r97)])) _
              refine XS.ifNo X97.here hx rfl (hb hby d5_68) rfl ((if0 _ _).trans (tlt hc99).2.1) ?_
              refine XS.iconst X97.here hx rfl (hb hby d5_71) ?_
              exact retN X97 hx (t := .boolean) Bd.returns (by simp) (hb hby d5_72) hr
            · show QrmTk3 Z a x0 x1 x2 cs fm h0 n0 _ T97.heap _
              rw [e97]
              exact ⟨by have t0 := own_ta hc7; have t1 := own_ts (Classical.byContradiction fun q => hc85 (hr83.mpr q)); have t2 := own_tn hc93 (hr97.mp hc99); simp [own_k3, own_k2, t0, t1, t2], N97, KK96⟩
            · show CHr Z own_EL s.vm s.heap T97.vm T97.heap
              rw [hh, e97]
              exact CR96.trans (CHv.at X97 hZ hEL CR96.1)
          · obtain ⟨LL100, XL100, NL100⟩ := own_loose X97 N97
            obtain ⟨cq101, kq101, q101a, q101b, q101c⟩ := isOf hZ e97 ((Sa.1.ext E81).ext E96)
            obtain ⟨_, _, ⟨T101, L101, k101, n101⟩, -, X101, ⟨Lc101, hQ101, l101, y101, z101⟩, st101⟩ := XL100.virtualBack hx hown (mvT hZ (own_h hw 30 rfl)) (mvT hZ (own_h hw 31 rfl)) (notFace_of_selects (args := #[]) (mvT hZ (own_h hw 33 rfl))) (mvT hZ (own_h hw 33 rfl)) (mvT hZ (own_h hw 32 rfl)) (by decide) (backOf (W := 1) (rmLenS3 l Z a0 hw [] a x0 x1 x2 cs h96 n0 O96 ((Sa.ext E81).ext E96) hC) hZ (own_h hw 34 rfl) (own_h hw 7 rfl) (by decide) (by decide)) q101a q101c (g := (mkF mm 4 #[.val (.ref a), .val (.int (3 : Int32)), .val (.int x2), .val (.int (own_al x2))] [(.ref a), (.int (3 : Int32))])) rfl (by rw [hml]; rfl) (Steps.refl _) (argsL := []) (rest := [(.int (3 : Int32))]) (lenOf pd_214 rfl) rfl (Nat.le_of_eq rfl) (hb hby d5_4) (fun _ _ => ⟨rfl, e97, (by decide : 4 + 0 ≤ _), (by decide : 128 + 0 ≤ _)⟩)
            dsimp only [Pt.U, Pt.locs, Pt.cells, Pt.slots] at X101 l101 y101 z101 st101 hQ101
            subst l101 y101 z101
            obtain ⟨rfl, N101q, e101⟩ := hQ101
            have N101 := Fr.app NL100 N101q
            obtain ⟨LL102, XL102, NL102⟩ := own_loose X101 N101
            obtain ⟨cq103, kq103, q103a, q103b, q103c⟩ := isOf hZ e101 ((Sa.1.ext E81).ext E96)
            obtain ⟨_, _, ⟨T103, L103, k103, n103⟩, -, X103, ⟨Lc103, hQ103, l103, y103, z103⟩, st103⟩ := XL102.virtualBack hx hown (mvT hZ (own_h hw 41 rfl)) (mvT hZ (own_h hw 42 rfl)) (notFace_of_selects (args := #[]) (mvT hZ (own_h hw 44 rfl))) (mvT hZ (own_h hw 44 rfl)) (mvT hZ (own_h hw 43 rfl)) (by decide) (backOf (W := 0) (rmEmS3 l Z a0 hw [] a x0 x1 x2 h96 n0 O96 ((Sa.ext E81).ext E96)) hZ (own_h hw 45 rfl) (own_h hw 7 rfl) (by decide) (by decide)) q103a q103c (g := (mkF mm 80 #[.val (.ref a), .val (.int (3 : Int32)), .val (.int x2), .val (.int (own_al x2))] [(.ref a)])) rfl (by rw [hml]; rfl) (Steps.refl _) (argsL := []) (rest := []) (lenOf pd_112 rfl) rfl (Nat.le_of_eq rfl) (hb hby d5_80) (fun _ _ => ⟨rfl, e101, (by decide : 4 + 0 ≤ _), (by decide : 128 + 0 ≤ _)⟩)
            dsimp only [Pt.U, Pt.locs, Pt.cells, Pt.slots] at X103 l103 y103 z103 st103 hQ103
            subst l103 y103 z103
            obtain ⟨rfl, N103q, e103⟩ := hQ103
            have N103 := Fr.app NL102 N103q
            obtain ⟨fs, hr, hrun, hended, hRW⟩ := X103.leaveW hS96 (by rw [e103]; exact hk96) (v := some (.int (1 : Int32))) (fun h => by rw [Bd.returns] at h; cases h)
            refine ⟨_, _, pre98 _ ?_, hrun, hended, _, _, rfl, ?_, ?_, (own_rmono hRW (by decide) (by decide))⟩
            · show Steps pg.tables ee below (T97.setTop (mkF mm 68 #[.val (.ref a), .val (.int (2 : Int32)), .val (.int x2), .val (.int (own_al x2))] [(.int r97)])) _
              refine XS.ifYes X97.here hx rfl (pc0 := 68) (pc' := 73) rfl (hb hby d5_68) rfl ((if0 _ _).trans (flt hc99).2.1) (by decide) (by decide) ?_
              refine XS.iinc X97.here hx rfl (hb hby d5_73) rfl (l' := #[.val (.ref a), .val (.int (3 : Int32)), .val (.int x2), .val (.int (own_al x2))]) rfl ?_
              refine XS.goto X97.here hx rfl (pc0 := 76) (pc' := 2) rfl (hb hby d5_76) (by decide) (by decide) ?_
              refine XS.iloadN X97.here hx rfl (hb hby d5_2) rfl ?_
              show Steps pg.tables ee below (T97.setTop (mkF mm 3 #[.val (.ref a), .val (.int (3 : Int32)), .val (.int x2), .val (.int (own_al x2))] [(.int (3 : Int32))])) _
              refine XS.aloadN X97.here hx rfl (hb hby d5_3) rfl rfl ?_
              refine st101.trans ?_
              refine XS.icmpYes X101.here hx rfl (pc0 := 7) (pc' := 79) rfl (hb hby d5_7) rfl (flt (by decide : ¬ ((3 : Int32) < (3 : Int32)))).2.1 (by decide) (by decide) ?_
              refine XS.aloadN X101.here hx rfl (hb hby d5_79) rfl rfl ?_
              refine st103.trans ?_
              refine XS.ifNo X103.here hx rfl (hb hby d5_83) rfl ((if0 _ _).trans (teq (by decide : (0 : Int32) = (0 : Int32))).2) ?_
              refine XS.iconst X103.here hx rfl (hb hby d5_86) ?_
              refine XS.goto X103.here hx rfl (pc0 := 87) (pc' := 91) rfl (hb hby d5_87) (by decide) (by decide) ?_
              show Steps pg.tables ee below (T103.setTop (mkF mm 91 #[.val (.ref a), .val (.int (3 : Int32)), .val (.int x2), .val (.int (own_al x2))] [(.int (1 : Int32))])) _
              exact retN X103 hx (t := .boolean) Bd.returns (by simp) (hb hby d5_91) hr
            · show QrmTk3 Z a x0 x1 x2 cs fm h0 n0 _ T103.heap _
              rw [e103]
              exact ⟨by have t0 := own_ta hc7; have t1 := own_ts (Classical.byContradiction fun q => hc85 (hr83.mpr q)); have t2 := own_ts (Classical.byContradiction fun q => hc99 (hr97.mpr q)); simp [own_k3, own_k2, t0, t1, t2], N103, KK96⟩
            · show CHr Z own_EL s.vm s.heap T103.vm T103.heap
              rw [hh, e103]
              exact CR96.trans (CHv.at X103 hZ hEL CR96.1)
        · obtain ⟨LL104, XL104, NL104⟩ := own_loose X89 N89
          obtain ⟨cq105, kq105, q105a, q105b, q105c⟩ := isOf hZ e89 (Sa.1.ext E81)
          obtain ⟨_, _, ⟨T105, L105, k105, n105⟩, -, X105, ⟨Lc105, hQ105, l105, y105, z105⟩, st105⟩ := XL104.virtualBack hx hown (mvT hZ (own_h hw 30 rfl)) (mvT hZ (own_h hw 31 rfl)) (notFace_of_selects (args := #[]) (mvT hZ (own_h hw 33 rfl))) (mvT hZ (own_h hw 33 rfl)) (mvT hZ (own_h hw 32 rfl)) (by decide) (backOf (W := 1) (rmLenS3 l Z a0 hw [] a x0 x1 x2 cs h81 n0 O81 (Sa.ext E81) hC) hZ (own_h hw 34 rfl) (own_h hw 7 rfl) (by decide) (by decide)) q105a q105c (g := (mkF mm 4 #[.val (.ref a), .val (.int (3 : Int32)), .val (.int x2), .val (.int (own_al x2))] [(.ref a), (.int (3 : Int32))])) rfl (by rw [hml]; rfl) (Steps.refl _) (argsL := []) (rest := [(.int (3 : Int32))]) (lenOf pd_214 rfl) rfl (Nat.le_of_eq rfl) (hb hby d5_4) (fun _ _ => ⟨rfl, e89, (by decide : 2 + 0 ≤ _), (by decide : 64 + 0 ≤ _)⟩)
          dsimp only [Pt.U, Pt.locs, Pt.cells, Pt.slots] at X105 l105 y105 z105 st105 hQ105
          subst l105 y105 z105
          obtain ⟨rfl, N105q, e105⟩ := hQ105
          have N105 := Fr.app NL104 N105q
          obtain ⟨LL106, XL106, NL106⟩ := own_loose X105 N105
          obtain ⟨cq107, kq107, q107a, q107b, q107c⟩ := isOf hZ e105 (Sa.1.ext E81)
          obtain ⟨_, _, ⟨T107, L107, k107, n107⟩, -, X107, ⟨Lc107, hQ107, l107, y107, z107⟩, st107⟩ := XL106.virtualBack hx hown (mvT hZ (own_h hw 41 rfl)) (mvT hZ (own_h hw 42 rfl)) (notFace_of_selects (args := #[]) (mvT hZ (own_h hw 44 rfl))) (mvT hZ (own_h hw 44 rfl)) (mvT hZ (own_h hw 43 rfl)) (by decide) (backOf (W := 0) (rmEmS3 l Z a0 hw [] a x0 x1 x2 h81 n0 O81 (Sa.ext E81)) hZ (own_h hw 45 rfl) (own_h hw 7 rfl) (by decide) (by decide)) q107a q107c (g := (mkF mm 80 #[.val (.ref a), .val (.int (3 : Int32)), .val (.int x2), .val (.int (own_al x2))] [(.ref a)])) rfl (by rw [hml]; rfl) (Steps.refl _) (argsL := []) (rest := []) (lenOf pd_112 rfl) rfl (Nat.le_of_eq rfl) (hb hby d5_80) (fun _ _ => ⟨rfl, e105, (by decide : 2 + 0 ≤ _), (by decide : 64 + 0 ≤ _)⟩)
          dsimp only [Pt.U, Pt.locs, Pt.cells, Pt.slots] at X107 l107 y107 z107 st107 hQ107
          subst l107 y107 z107
          obtain ⟨rfl, N107q, e107⟩ := hQ107
          have N107 := Fr.app NL106 N107q
          obtain ⟨fs, hr, hrun, hended, hRW⟩ := X107.leaveW hS81 (by rw [e107]; exact hk81) (v := some (.int (1 : Int32))) (fun h => by rw [Bd.returns] at h; cases h)
          refine ⟨_, _, pre92 _ ?_, hrun, hended, _, _, rfl, ?_, ?_, (own_rmono hRW (by decide) (by decide))⟩
          · show Steps pg.tables ee below (T89.setTop (mkF mm 59 #[.val (.ref a), .val (.int (2 : Int32)), .val (.int x2), .val (.int (own_al x2))] [(.int (own_al x2))])) _
            refine XS.ifYes X89.here hx rfl (pc0 := 59) (pc' := 73) rfl (hb hby d5_59) rfl ((if0 _ _).trans (feq hc93).2) (by decide) (by decide) ?_
            refine XS.iinc X89.here hx rfl (hb hby d5_73) rfl (l' := #[.val (.ref a), .val (.int (3 : Int32)), .val (.int x2), .val (.int (own_al x2))]) rfl ?_
            refine XS.goto X89.here hx rfl (pc0 := 76) (pc' := 2) rfl (hb hby d5_76) (by decide) (by decide) ?_
            refine XS.iloadN X89.here hx rfl (hb hby d5_2) rfl ?_
            refine XS.aloadN X89.here hx rfl (hb hby d5_3) rfl rfl ?_
            refine st105.trans ?_
            refine XS.icmpYes X105.here hx rfl (pc0 := 7) (pc' := 79) rfl (hb hby d5_7) rfl (flt (by decide : ¬ ((3 : Int32) < (3 : Int32)))).2.1 (by decide) (by decide) ?_
            show Steps pg.tables ee below (T105.setTop (mkF mm 79 #[.val (.ref a), .val (.int (3 : Int32)), .val (.int x2), .val (.int (own_al x2))] [])) _
            refine XS.aloadN X105.here hx rfl (hb hby d5_79) rfl rfl ?_
            refine st107.trans ?_
            refine XS.ifNo X107.here hx rfl (hb hby d5_83) rfl ((if0 _ _).trans (teq (by decide : (0 : Int32) = (0 : Int32))).2) ?_
            refine XS.iconst X107.here hx rfl (hb hby d5_86) ?_
            refine XS.goto X107.here hx rfl (pc0 := 87) (pc' := 91) rfl (hb hby d5_87) (by decide) (by decide) ?_
            exact retN X107 hx (t := .boolean) Bd.returns (by simp) (hb hby d5_91) hr
          · show QrmTk3 Z a x0 x1 x2 cs fm h0 n0 _ T107.heap _
            rw [e107]
            exact ⟨by have t0 := own_ta hc7; have t1 := own_ts (Classical.byContradiction fun q => hc85 (hr83.mpr q)); have t2 := own_ta hc93; simp [own_k3, own_k2, t0, t1, t2], N107, KK81⟩
          · show CHr Z own_EL s.vm s.heap T107.vm T107.heap
            rw [hh, e107]
            exact CR81.trans (CHv.at X107 hZ hEL CR81.1)
    · obtain ⟨LL108, XL108, NL108⟩ := own_loose X75 N75
      obtain ⟨cq109, kq109, q109a, q109b, q109c⟩ := isOf hZ e75 Sa.1
      obtain ⟨_, _, ⟨T109, L109, k109, n109⟩, -, X109, ⟨Lc109, hQ109, l109, y109, z109⟩, st109⟩ := XL108.virtualBack hx hown (mvT hZ (own_h hw 30 rfl)) (mvT hZ (own_h hw 31 rfl)) (notFace_of_selects (args := #[]) (mvT hZ (own_h hw 33 rfl))) (mvT hZ (own_h hw 33 rfl)) (mvT hZ (own_h hw 32 rfl)) (by decide) (backOf (W := 1) (rmLenS3 l Z a0 hw [] a x0 x1 x2 cs h0 n0 O0 Sa hC) hZ (own_h hw 34 rfl) (own_h hw 7 rfl) (by decide) (by decide)) q109a q109c (g := (mkF mm 4 #[.val (.ref a), .val (.int (2 : Int32)), .val (.int x1), .val (.int (own_al x1))] [(.ref a), (.int (2 : Int32))])) rfl (by rw [hml]; rfl) (Steps.refl _) (argsL := []) (rest := [(.int (2 : Int32))]) (lenOf pd_214 rfl) rfl (Nat.le_of_eq rfl) (hb hby d5_4) (fun _ _ => ⟨rfl, e75, (by decide : 0 + 0 ≤ _), (by decide : 0 + 0 ≤ _)⟩)
      dsimp only [Pt.U, Pt.locs, Pt.cells, Pt.slots] at X109 l109 y109 z109 st109 hQ109
      subst l109 y109 z109
      obtain ⟨rfl, N109q, e109⟩ := hQ109
      have N109 := Fr.app NL108 N109q
      obtain ⟨LL110, XL110, NL110⟩ := own_loose X109 N109
      obtain ⟨cq111, kq111, q111a, q111b, q111c⟩ := isOf hZ e109 Sa.1
      obtain ⟨_, _, ⟨T111, L111, k111, n111⟩, -, X111, ⟨Lc111, hQ111, l111, y111, z111⟩, st111⟩ := XL110.virtualBack hx hown (mvT hZ (own_h hw 59 rfl)) (mvT hZ (own_h hw 60 rfl)) (notFace_of_selects (args := #[]) (mvT hZ (own_h hw 62 rfl))) (mvT hZ (own_h hw 62 rfl)) (mvT hZ (own_h hw 61 rfl)) (by decide) (backOf (W := 0) (rmChS3_2 l Z a0 hw [] a x0 x1 x2 cs fm h0 n0 O0 Sa hC hG hF ha0 hb0 ha1 hb1 ha2 hb2) hZ (own_h hw 63 rfl) (own_h hw 7 rfl) (by decide) (by decide)) q111a q111c (g := (mkF mm 12 #[.val (.ref a), .val (.int (2 : Int32)), .val (.int x1), .val (.int (own_al x1))] [(.int (2 : Int32)), (.ref a)])) rfl (by rw [hml]; rfl) (Steps.refl _) (argsL := [(.int (2 : Int32))]) (rest := []) (lenOf pd_523 rfl) rfl (Nat.le_of_eq rfl) (hb hby d5_12) (fun _ _ => ⟨rfl, e109, (by decide : 0 + 0 ≤ _), (by decide : 0 + 0 ≤ _)⟩)
      dsimp only [Pt.U, Pt.locs, Pt.cells, Pt.slots] at X111 l111 y111 z111 st111 hQ111
      subst l111 y111 z111
      obtain ⟨rfl, N111q, e111⟩ := hQ111
      have N111 := Fr.app NL110 N111q
      have pre112 := fun tg_ (k_ : Steps pg.tables ee below (T111.setTop (mkF mm 16 #[.val (.ref a), .val (.int (2 : Int32)), .val (.int x2), .val (.int (own_al x1))] [])) tg_) => pre78 tg_ (by
        show Steps pg.tables ee below (T75.setTop (mkF mm 59 #[.val (.ref a), .val (.int (1 : Int32)), .val (.int x1), .val (.int (own_al x1))] [(.int (own_al x1))])) _
        refine XS.ifYes X75.here hx rfl (pc0 := 59) (pc' := 73) rfl (hb hby d5_59) rfl ((if0 _ _).trans (feq hc79).2) (by decide) (by decide) ?_
        refine XS.iinc X75.here hx rfl (hb hby d5_73) rfl (l' := #[.val (.ref a), .val (.int (2 : Int32)), .val (.int x1), .val (.int (own_al x1))]) rfl ?_
        refine XS.goto X75.here hx rfl (pc0 := 76) (pc' := 2) rfl (hb hby d5_76) (by decide) (by decide) ?_
        refine XS.iloadN X75.here hx rfl (hb hby d5_2) rfl ?_
        refine XS.aloadN X75.here hx rfl (hb hby d5_3) rfl rfl ?_
        refine st109.trans ?_
        refine XS.icmpNo X109.here hx rfl (hb hby d5_7) rfl (tlt (by decide : (2 : Int32) < (3 : Int32))).2.1 ?_
        show Steps pg.tables ee below (T109.setTop (mkF mm 10 #[.val (.ref a), .val (.int (2 : Int32)), .val (.int x1), .val (.int (own_al x1))] [])) _
        refine XS.aloadN X109.here hx rfl (hb hby d5_10) rfl rfl ?_
        refine XS.iloadN X109.here hx rfl (hb hby d5_11) rfl ?_
        refine st111.trans ?_
        refine XS.istoreN X111.here hx rfl (hb hby d5_15) rfl (l' := #[.val (.ref a), .val (.int (2 : Int32)), .val (.int x2), .val (.int (own_al x1))]) rfl ?_
        exact k_)
      have pre113 : ∀ tg_, Steps pg.tables ee below (T111.setTop (mkF mm 58 #[.val (.ref a), .val (.int (2 : Int32)), .val (.int x2), .val (.int (own_al x2))] [])) tg_ → Steps pg.tables ee below (s₁.setTop (entryFrame mm #[(.ref a)] 4)) tg_ := fun tg_ k_ => pre112 tg_ (pcAli X111 hx hby a (2 : Int32) x2 (own_al x1) tg_ k_)
      have pre114 := fun tg_ (k_ : Steps pg.tables ee below (T111.setTop (mkF mm 59 #[.val (.ref a), .val (.int (2 : Int32)), .val (.int x2), .val (.int (own_al x2))] [(.int (own_al x2))])) tg_) => pre113 tg_ (by
        show Steps pg.tables ee below (T111.setTop (mkF mm 58 #[.val (.ref a), .val (.int (2 : Int32)), .val (.int x2), .val (.int (own_al x2))] [])) _
        refine XS.iloadN X111.here hx rfl (hb hby d5_58) rfl ?_
        exact k_)
      by_cases hc115 : (own_al x2) = (0 : Int32)
      · have pre116 := fun tg_ (k_ : Steps pg.tables ee below (T111.setTop (mkF mm 62 #[.val (.ref a), .val (.int (2 : Int32)), .val (.int x2), .val (.int (own_al x2))] [])) tg_) => pre114 tg_ (by
          show Steps pg.tables ee below (T111.setTop (mkF mm 59 #[.val (.ref a), .val (.int (2 : Int32)), .val (.int x2), .val (.int (own_al x2))] [(.int (own_al x2))])) _
          refine XS.ifNo X111.here hx rfl (hb hby d5_59) rfl ((if0 _ _).trans (teq hc115).2) ?_
          exact k_)
        obtain ⟨sa117, T117, h117, k117, sb117, sk117, X117, e117, E117, hS117, hk117, hZ, hown, Es117, Fc117, Fv117, Va117, lt117, lu117, CQ117, -, hne117, st117⟩ := ldcCH (EL := own_EL) (vs := [(.int (33 : Int32)), (.int (35 : Int32)), (.int (36 : Int32)), (.int (37 : Int32)), (.int (38 : Int32)), (.int (39 : Int32)), (.int (42 : Int32)), (.int (43 : Int32)), (.int (45 : Int32)), (.int (46 : Int32)), (.int (94 : Int32)), (.int (95 : Int32)), (.int (96 : Int32)), (.int (124 : Int32)), (.int (126 : Int32))]) (z := (15 : Int32)) (n := 60) X111 hx hZ hown (own_h hw 81 rfl) (own_wS hw) e111 hS0 (Nat.zero_le _) hEL (List.mem_of_getElem? (i := 0) rfl) CR0.1 (by decide +kernel) (by decide) rfl (g := (mkF mm 62 #[.val (.ref a), .val (.int (2 : Int32)), .val (.int x2), .val (.int (own_al x2))] [])) rfl (hb hby d5_62) (by decide +kernel) (by decide) (by decide) (by decide)
        have CR117 := CR0.trans CQ117
        have O117 := O0.ext E117
        have KK117 := K0.ext E117
        obtain ⟨LL118, XL118, NL118⟩ := own_loose X117 N111
        obtain ⟨cq119, kq119, q119a, q119b, q119c⟩ := isOf hZ e117 Es117
        obtain ⟨_, _, ⟨T119, L119, k119, n119⟩, -, X119, ⟨Lc119, hQ119, l119, y119, z119⟩, st119⟩ := XL118.virtualBack hx hown (mvT hZ (own_h hw 82 rfl)) (mvT hZ (own_h hw 83 rfl)) (notFace_of_selects (args := #[]) (mvT hZ (own_h hw 85 rfl))) (mvT hZ (own_h hw 85 rfl)) (mvT hZ (own_h hw 84 rfl)) (by decide) (backOf (W := 0) (rmX1 l Z a0 hw [] sa117 sb117 sk117 x2 cs h117 n0 O117 Fc117 Fv117 Va117 Es117 hC ha2) hZ (own_h hw 86 rfl) (own_h hw 7 rfl) (by decide) (by decide)) q119a q119c (g := (mkF mm 65 #[.val (.ref a), .val (.int (2 : Int32)), .val (.int x2), .val (.int (own_al x2))] [(.int x2), (.ref sa117)])) rfl (by rw [hml]; rfl) (Steps.refl _) (argsL := [(.int x2)]) (rest := []) (lenOf pd_375 rfl) rfl (Nat.le_of_eq rfl) (hb hby d5_65) (fun _ _ => ⟨rfl, e117, (by decide : 2 + 0 ≤ _), (by decide : 64 + 0 ≤ _)⟩)
        dsimp only [Pt.U, Pt.locs, Pt.cells, Pt.slots] at X119 l119 y119 z119 st119 hQ119
        subst l119 y119 z119
        obtain ⟨r119, rfl, N119q, e119, hr119⟩ := hQ119
        have N119 := Fr.app NL118 N119q
        have pre120 := fun tg_ (k_ : Steps pg.tables ee below (T119.setTop (mkF mm 68 #[.val (.ref a), .val (.int (2 : Int32)), .val (.int x2), .val (.int (own_al x2))] [(.int r119)])) tg_) => pre116 tg_ (by
          show Steps pg.tables ee below (T111.setTop (mkF mm 62 #[.val (.ref a), .val (.int (2 : Int32)), .val (.int x2), .val (.int (own_al x2))] [])) _
          refine st117 _ ?_
          refine XS.iloadN X117.here hx rfl (hb hby d5_64) rfl ?_
          refine st119.trans ?_
          exact k_)
        by_cases hc121 : r119 < (0 : Int32)
        · obtain ⟨fs, hr, hrun, hended, hRW⟩ := X119.leaveW hS117 (by rw [e119]; exact hk117) (v := some (.int (0 : Int32))) (fun h => by rw [Bd.returns] at h; cases h)
          refine ⟨_, _, pre120 _ ?_, hrun, hended, _, _, rfl, ?_, ?_, (own_rmono hRW (by decide) (by decide))⟩
          · show Steps pg.tables ee below (T119.setTop (mkF mm 68 #[.val (.ref a), .val (.int (2 : Int32)), .val (.int x2), .val (.int (own_al x2))] [(.int r119)])) _
            refine XS.ifNo X119.here hx rfl (hb hby d5_68) rfl ((if0 _ _).trans (tlt hc121).2.1) ?_
            refine XS.iconst X119.here hx rfl (hb hby d5_71) ?_
            exact retN X119 hx (t := .boolean) Bd.returns (by simp) (hb hby d5_72) hr
          · show QrmTk3 Z a x0 x1 x2 cs fm h0 n0 _ T119.heap _
            rw [e119]
            exact ⟨by have t0 := own_ta hc7; have t1 := own_ta hc79; have t2 := own_tn hc115 (hr119.mp hc121); simp [own_k3, own_k2, t0, t1, t2], N119, KK117⟩
          · show CHr Z own_EL s.vm s.heap T119.vm T119.heap
            rw [hh, e119]
            exact CR117.trans (CHv.at X119 hZ hEL CR117.1)
        · obtain ⟨LL122, XL122, NL122⟩ := own_loose X119 N119
          obtain ⟨cq123, kq123, q123a, q123b, q123c⟩ := isOf hZ e119 (Sa.1.ext E117)
          obtain ⟨_, _, ⟨T123, L123, k123, n123⟩, -, X123, ⟨Lc123, hQ123, l123, y123, z123⟩, st123⟩ := XL122.virtualBack hx hown (mvT hZ (own_h hw 30 rfl)) (mvT hZ (own_h hw 31 rfl)) (notFace_of_selects (args := #[]) (mvT hZ (own_h hw 33 rfl))) (mvT hZ (own_h hw 33 rfl)) (mvT hZ (own_h hw 32 rfl)) (by decide) (backOf (W := 1) (rmLenS3 l Z a0 hw [] a x0 x1 x2 cs h117 n0 O117 (Sa.ext E117) hC) hZ (own_h hw 34 rfl) (own_h hw 7 rfl) (by decide) (by decide)) q123a q123c (g := (mkF mm 4 #[.val (.ref a), .val (.int (3 : Int32)), .val (.int x2), .val (.int (own_al x2))] [(.ref a), (.int (3 : Int32))])) rfl (by rw [hml]; rfl) (Steps.refl _) (argsL := []) (rest := [(.int (3 : Int32))]) (lenOf pd_214 rfl) rfl (Nat.le_of_eq rfl) (hb hby d5_4) (fun _ _ => ⟨rfl, e119, (by decide : 2 + 0 ≤ _), (by decide : 64 + 0 ≤ _)⟩)
          dsimp only [Pt.U, Pt.locs, Pt.cells, Pt.slots] at X123 l123 y123 z123 st123 hQ123
          subst l123 y123 z123
          obtain ⟨rfl, N123q, e123⟩ := hQ123
          have N123 := Fr.app NL122 N123q
          obtain ⟨LL124, XL124, NL124⟩ := own_loose X123 N123
          obtain ⟨cq125, kq125, q125a, q125b, q125c⟩ := isOf hZ e123 (Sa.1.ext E117)
          obtain ⟨_, _, ⟨T125, L125, k125, n125⟩, -, X125, ⟨Lc125, hQ125, l125, y125, z125⟩, st125⟩ := XL124.virtualBack hx hown (mvT hZ (own_h hw 41 rfl)) (mvT hZ (own_h hw 42 rfl)) (notFace_of_selects (args := #[]) (mvT hZ (own_h hw 44 rfl))) (mvT hZ (own_h hw 44 rfl)) (mvT hZ (own_h hw 43 rfl)) (by decide) (backOf (W := 0) (rmEmS3 l Z a0 hw [] a x0 x1 x2 h117 n0 O117 (Sa.ext E117)) hZ (own_h hw 45 rfl) (own_h hw 7 rfl) (by decide) (by decide)) q125a q125c (g := (mkF mm 80 #[.val (.ref a), .val (.int (3 : Int32)), .val (.int x2), .val (.int (own_al x2))] [(.ref a)])) rfl (by rw [hml]; rfl) (Steps.refl _) (argsL := []) (rest := []) (lenOf pd_112 rfl) rfl (Nat.le_of_eq rfl) (hb hby d5_80) (fun _ _ => ⟨rfl, e123, (by decide : 2 + 0 ≤ _), (by decide : 64 + 0 ≤ _)⟩)
          dsimp only [Pt.U, Pt.locs, Pt.cells, Pt.slots] at X125 l125 y125 z125 st125 hQ125
          subst l125 y125 z125
          obtain ⟨rfl, N125q, e125⟩ := hQ125
          have N125 := Fr.app NL124 N125q
          obtain ⟨fs, hr, hrun, hended, hRW⟩ := X125.leaveW hS117 (by rw [e125]; exact hk117) (v := some (.int (1 : Int32))) (fun h => by rw [Bd.returns] at h; cases h)
          refine ⟨_, _, pre120 _ ?_, hrun, hended, _, _, rfl, ?_, ?_, (own_rmono hRW (by decide) (by decide))⟩
          · show Steps pg.tables ee below (T119.setTop (mkF mm 68 #[.val (.ref a), .val (.int (2 : Int32)), .val (.int x2), .val (.int (own_al x2))] [(.int r119)])) _
            refine XS.ifYes X119.here hx rfl (pc0 := 68) (pc' := 73) rfl (hb hby d5_68) rfl ((if0 _ _).trans (flt hc121).2.1) (by decide) (by decide) ?_
            refine XS.iinc X119.here hx rfl (hb hby d5_73) rfl (l' := #[.val (.ref a), .val (.int (3 : Int32)), .val (.int x2), .val (.int (own_al x2))]) rfl ?_
            refine XS.goto X119.here hx rfl (pc0 := 76) (pc' := 2) rfl (hb hby d5_76) (by decide) (by decide) ?_
            refine XS.iloadN X119.here hx rfl (hb hby d5_2) rfl ?_
            show Steps pg.tables ee below (T119.setTop (mkF mm 3 #[.val (.ref a), .val (.int (3 : Int32)), .val (.int x2), .val (.int (own_al x2))] [(.int (3 : Int32))])) _
            refine XS.aloadN X119.here hx rfl (hb hby d5_3) rfl rfl ?_
            refine st123.trans ?_
            refine XS.icmpYes X123.here hx rfl (pc0 := 7) (pc' := 79) rfl (hb hby d5_7) rfl (flt (by decide : ¬ ((3 : Int32) < (3 : Int32)))).2.1 (by decide) (by decide) ?_
            refine XS.aloadN X123.here hx rfl (hb hby d5_79) rfl rfl ?_
            refine st125.trans ?_
            refine XS.ifNo X125.here hx rfl (hb hby d5_83) rfl ((if0 _ _).trans (teq (by decide : (0 : Int32) = (0 : Int32))).2) ?_
            refine XS.iconst X125.here hx rfl (hb hby d5_86) ?_
            refine XS.goto X125.here hx rfl (pc0 := 87) (pc' := 91) rfl (hb hby d5_87) (by decide) (by decide) ?_
            show Steps pg.tables ee below (T125.setTop (mkF mm 91 #[.val (.ref a), .val (.int (3 : Int32)), .val (.int x2), .val (.int (own_al x2))] [(.int (1 : Int32))])) _
            exact retN X125 hx (t := .boolean) Bd.returns (by simp) (hb hby d5_91) hr
          · show QrmTk3 Z a x0 x1 x2 cs fm h0 n0 _ T125.heap _
            rw [e125]
            exact ⟨by have t0 := own_ta hc7; have t1 := own_ta hc79; have t2 := own_ts (Classical.byContradiction fun q => hc121 (hr119.mpr q)); simp [own_k3, own_k2, t0, t1, t2], N125, KK117⟩
          · show CHr Z own_EL s.vm s.heap T125.vm T125.heap
            rw [hh, e125]
            exact CR117.trans (CHv.at X125 hZ hEL CR117.1)
      · obtain ⟨LL126, XL126, NL126⟩ := own_loose X111 N111
        obtain ⟨cq127, kq127, q127a, q127b, q127c⟩ := isOf hZ e111 Sa.1
        obtain ⟨_, _, ⟨T127, L127, k127, n127⟩, -, X127, ⟨Lc127, hQ127, l127, y127, z127⟩, st127⟩ := XL126.virtualBack hx hown (mvT hZ (own_h hw 30 rfl)) (mvT hZ (own_h hw 31 rfl)) (notFace_of_selects (args := #[]) (mvT hZ (own_h hw 33 rfl))) (mvT hZ (own_h hw 33 rfl)) (mvT hZ (own_h hw 32 rfl)) (by decide) (backOf (W := 1) (rmLenS3 l Z a0 hw [] a x0 x1 x2 cs h0 n0 O0 Sa hC) hZ (own_h hw 34 rfl) (own_h hw 7 rfl) (by decide) (by decide)) q127a q127c (g := (mkF mm 4 #[.val (.ref a), .val (.int (3 : Int32)), .val (.int x2), .val (.int (own_al x2))] [(.ref a), (.int (3 : Int32))])) rfl (by rw [hml]; rfl) (Steps.refl _) (argsL := []) (rest := [(.int (3 : Int32))]) (lenOf pd_214 rfl) rfl (Nat.le_of_eq rfl) (hb hby d5_4) (fun _ _ => ⟨rfl, e111, (by decide : 0 + 0 ≤ _), (by decide : 0 + 0 ≤ _)⟩)
        dsimp only [Pt.U, Pt.locs, Pt.cells, Pt.slots] at X127 l127 y127 z127 st127 hQ127
        subst l127 y127 z127
        obtain ⟨rfl, N127q, e127⟩ := hQ127
        have N127 := Fr.app NL126 N127q
        obtain ⟨LL128, XL128, NL128⟩ := own_loose X127 N127
        obtain ⟨cq129, kq129, q129a, q129b, q129c⟩ := isOf hZ e127 Sa.1
        obtain ⟨_, _, ⟨T129, L129, k129, n129⟩, -, X129, ⟨Lc129, hQ129, l129, y129, z129⟩, st129⟩ := XL128.virtualBack hx hown (mvT hZ (own_h hw 41 rfl)) (mvT hZ (own_h hw 42 rfl)) (notFace_of_selects (args := #[]) (mvT hZ (own_h hw 44 rfl))) (mvT hZ (own_h hw 44 rfl)) (mvT hZ (own_h hw 43 rfl)) (by decide) (backOf (W := 0) (rmEmS3 l Z a0 hw [] a x0 x1 x2 h0 n0 O0 Sa) hZ (own_h hw 45 rfl) (own_h hw 7 rfl) (by decide) (by decide)) q129a q129c (g := (mkF mm 80 #[.val (.ref a), .val (.int (3 : Int32)), .val (.int x2), .val (.int (own_al x2))] [(.ref a)])) rfl (by rw [hml]; rfl) (Steps.refl _) (argsL := []) (rest := []) (lenOf pd_112 rfl) rfl (Nat.le_of_eq rfl) (hb hby d5_80) (fun _ _ => ⟨rfl, e127, (by decide : 0 + 0 ≤ _), (by decide : 0 + 0 ≤ _)⟩)
        dsimp only [Pt.U, Pt.locs, Pt.cells, Pt.slots] at X129 l129 y129 z129 st129 hQ129
        subst l129 y129 z129
        obtain ⟨rfl, N129q, e129⟩ := hQ129
        have N129 := Fr.app NL128 N129q
        obtain ⟨fs, hr, hrun, hended, hRW⟩ := X129.leaveW hS0 (by rw [e129]; exact (Nat.zero_le _)) (v := some (.int (1 : Int32))) (fun h => by rw [Bd.returns] at h; cases h)
        refine ⟨_, _, pre114 _ ?_, hrun, hended, _, _, rfl, ?_, ?_, (own_rmono hRW (by decide) (by decide))⟩
        · show Steps pg.tables ee below (T111.setTop (mkF mm 59 #[.val (.ref a), .val (.int (2 : Int32)), .val (.int x2), .val (.int (own_al x2))] [(.int (own_al x2))])) _
          refine XS.ifYes X111.here hx rfl (pc0 := 59) (pc' := 73) rfl (hb hby d5_59) rfl ((if0 _ _).trans (feq hc115).2) (by decide) (by decide) ?_
          refine XS.iinc X111.here hx rfl (hb hby d5_73) rfl (l' := #[.val (.ref a), .val (.int (3 : Int32)), .val (.int x2), .val (.int (own_al x2))]) rfl ?_
          refine XS.goto X111.here hx rfl (pc0 := 76) (pc' := 2) rfl (hb hby d5_76) (by decide) (by decide) ?_
          refine XS.iloadN X111.here hx rfl (hb hby d5_2) rfl ?_
          refine XS.aloadN X111.here hx rfl (hb hby d5_3) rfl rfl ?_
          refine st127.trans ?_
          refine XS.icmpYes X127.here hx rfl (pc0 := 7) (pc' := 79) rfl (hb hby d5_7) rfl (flt (by decide : ¬ ((3 : Int32) < (3 : Int32)))).2.1 (by decide) (by decide) ?_
          show Steps pg.tables ee below (T127.setTop (mkF mm 79 #[.val (.ref a), .val (.int (3 : Int32)), .val (.int x2), .val (.int (own_al x2))] [])) _
          refine XS.aloadN X127.here hx rfl (hb hby d5_79) rfl rfl ?_
          refine st129.trans ?_
          refine XS.ifNo X129.here hx rfl (hb hby d5_83) rfl ((if0 _ _).trans (teq (by decide : (0 : Int32) = (0 : Int32))).2) ?_
          refine XS.iconst X129.here hx rfl (hb hby d5_86) ?_
          refine XS.goto X129.here hx rfl (pc0 := 87) (pc' := 91) rfl (hb hby d5_87) (by decide) (by decide) ?_
          exact retN X129 hx (t := .boolean) Bd.returns (by simp) (hb hby d5_91) hr
        · show QrmTk3 Z a x0 x1 x2 cs fm h0 n0 _ T129.heap _
          rw [e129]
          exact ⟨by have t0 := own_ta hc7; have t1 := own_ta hc79; have t2 := own_ta hc115; simp [own_k3, own_k2, t0, t1, t2], N129, K0⟩
        · show CHr Z own_EL s.vm s.heap T129.vm T129.heap
          rw [hh, e129]
          exact CR0.trans (CHv.at X129 hZ hEL CR0.1)
theorem pd_537 : parseMethodDescriptor "([C)V" = some ⟨[(.array .char)], none⟩ := by decide +kernel
theorem pd_538 : parseMethodDescriptor "(Ljava/lang/String;)Z" = some ⟨[(.object "java/lang/String")], some .boolean⟩ := by decide +kernel
theorem pd_539 : parseMethodDescriptor "(C)Z" = some ⟨[.char], some .boolean⟩ := by decide +kernel
theorem ef_0_540 (m : MethodId) (x0 : Int32) (x1 : Int32) (x2 : Int32) (x3 : Int32) : entryFrame m #[(.int x0), (.int x1), (.int x2), (.int x3)] maxLocals = mkF m 0 #[.val (.int x0), .val (.int x1), .val (.int x2), .val (.int x3), .unset, .unset, .unset, .unset, .unset, .unset, .unset] [] := by first | (simp [entryFrame, mkF, argsToLocals, Value.category, maxLocals]; done) | rfl
def Qrm0 (Z : State) (p0 : Int32) (p1 : Int32) (p2 : Int32) (p3 : Int32) (cs : Int32) (fm : Value) (h0 : Heap) (n0 : Nat) (v : Option Value) (h : Heap) (L : List Loc) : Prop := v = some (.int (1 : Int32)) ∧ Fr n0 L
set_option maxRecDepth 65536 in
set_option maxHeartbeats 40000000 in
theorem rm0 (l : Launch) (Z : State) (a0 : Array Value) (hw : ∀ d ∈ tables_1, d.before a0 Z = true) (ws : List Jvm.Cond) (p0 : Int32) (p1 : Int32) (p2 : Int32) (p3 : Int32) (cs : Int32) (fm : Value) (h0 : Heap) (n0 : Nat) (O0 : Old Z n0 h0) (hC : own_C Z cs) (hG : own_G Z) (hF : own_F Z fm) :
    MetFree l x (head1 (Jvm.Cond.code x code maxLocals ret :: ws) room_1) (fun a_ U_ => a_ = #[(.int p0), (.int p1), (.int p2), (.int p3)] ∧ Z.Warmed39 U_.vm ∧ U_.heap = h0 ∧ CHv Z own_EL U_.vm h0) (fun _ _ _ _ _ => True) (fun _ U_ o_ U'_ => ∃ v_ L_, o_ = .returned v_ ∧ Qrm0 Z p0 p1 p2 p3 cs fm h0 n0 v_ U'_.heap L_ ∧ ReturnedEndW U_ o_ U'_ L_ 10 208) := by
  refine MetFree.of_bodySF (plainFor_of_name pn_239) hisR ?_
  intro pg ee s mm args below meth cc s₁ Bd hml0 hP hK
  obtain ⟨rfl, hZ, hh, HC0⟩ := hP
  have hx := Bd.exec
  have hby := Bd.bytes
  have hml : cc.maxLocals = 11 := hml0
  have hown : s.vm.findClass "com/example/waxwing/waxwing/http/HeadTokenPinLaw" = some mm.cls := findClass_of_methodNamed Bd.named
  have hnm := (name_of_methodNamed Bd.named Bd.method).1
  have X0 : Stand pg l ee room_1 s mm #[(.int p0), (.int p1), (.int p2), (.int p3)] below meth cc s₁ [] 0 0 := Stand.of_body Bd
  have e0 : s₁.heap = h0 := by rw [← hh, Bd.state]; rfl
  have N0 := Fr.nil n0
  have K0 : Keep h0 h0 ([] : List Addr) := Keep.refl _ _
  have XW : Stand pg l ee room_1 (s.setVm s.vm) mm #[(.int p0), (.int p1), (.int p2), (.int p3)] below meth cc s₁ [] 0 0 := X0
  have hS0 : s.Since s.vm 0 := (State.WarmedH.refl s).since 0
  have CR0 : CHr Z own_EL s.vm h0 s.vm h0 := CHr.refl HC0
  have hEL := own_hEL hw
  have pre0 : ∀ tg_, Steps pg.tables ee below (s₁.setTop (mkF mm 0 #[.val (.int p0), .val (.int p1), .val (.int p2), .val (.int p3), .unset, .unset, .unset, .unset, .unset, .unset, .unset] [])) tg_ → Steps pg.tables ee below (s₁.setTop (entryFrame mm #[(.int p0), (.int p1), (.int p2), (.int p3)] maxLocals)) tg_ := fun tg_ k_ => castTop (ef_0_540 mm p0 p1 p2 p3) k_
  obtain ⟨_, _, ⟨T1, L1, k1, n1⟩, -, X1, ⟨Lc1, hQ1, l1, y1, z1⟩, st1⟩ := Jvm.LawKit.callS XW hx hown (mvT hZ (own_h hw 0 rfl)) (mvT hZ (own_h hw 1 rfl)) (mvT hZ (own_h hw 2 rfl)) (mvT hZ (own_h hw 3 rfl)) (by decide) (backOf (W := 0) (rmDr l Z a0 hw [] p1 h0 n0 O0) hZ (own_h hw 3 rfl) (own_h hw 2 rfl) (by decide) (by decide)) (g := (mkF mm 6 #[.val (.int p0), .val (.int p1), .val (.int p2), .val (.int p3), .val (.int (p0 &&& (3 : Int32))), .unset, .unset, .unset, .unset, .unset, .unset] [(.int p1)])) rfl (by rw [hml]; rfl) (argsL := [(.int p1)]) (rest := []) (lenOf pd_523 rfl) rfl (Nat.le_of_eq rfl) (hb hby at_6) (fun _ _ => ⟨rfl, e0, (by decide : 0 + 0 ≤ _), (by decide : 0 + 0 ≤ _)⟩)
  dsimp only [Pt.U, Pt.locs, Pt.cells, Pt.slots] at X1 l1 y1 z1 st1 hQ1
  subst l1 y1 z1
  obtain ⟨r1, rfl, N1q, e1, hlo1, hhi1⟩ := hQ1
  have N1 := Fr.app N0 N1q
  obtain ⟨LL2, XL2, NL2⟩ := own_loose X1 N1
  obtain ⟨_, _, ⟨T3, L3, k3, n3⟩, -, X3, ⟨Lc3, hQ3, l3, y3, z3⟩, st3⟩ := Jvm.LawKit.callS XL2 hx hown (mvT hZ (own_h hw 0 rfl)) (mvT hZ (own_h hw 1 rfl)) (mvT hZ (own_h hw 2 rfl)) (mvT hZ (own_h hw 3 rfl)) (by decide) (backOf (W := 0) (rmDr l Z a0 hw [] p2 h0 n0 O0) hZ (own_h hw 3 rfl) (own_h hw 2 rfl) (by decide) (by decide)) (g := (mkF mm 12 #[.val (.int p0), .val (.int p1), .val (.int p2), .val (.int p3), .val (.int (p0 &&& (3 : Int32))), .val (.int r1), .unset, .unset, .unset, .unset, .unset] [(.int p2)])) rfl (by rw [hml]; rfl) (argsL := [(.int p2)]) (rest := []) (lenOf pd_523 rfl) rfl (Nat.le_of_eq rfl) (hb hby at_12) (fun _ _ => ⟨rfl, e1, (by decide : 0 + 0 ≤ _), (by decide : 0 + 0 ≤ _)⟩)
  dsimp only [Pt.U, Pt.locs, Pt.cells, Pt.slots] at X3 l3 y3 z3 st3 hQ3
  subst l3 y3 z3
  obtain ⟨r3, rfl, N3q, e3, hlo3, hhi3⟩ := hQ3
  have N3 := Fr.app NL2 N3q
  obtain ⟨LL4, XL4, NL4⟩ := own_loose X3 N3
  obtain ⟨_, _, ⟨T5, L5, k5, n5⟩, -, X5, ⟨Lc5, hQ5, l5, y5, z5⟩, st5⟩ := Jvm.LawKit.callS XL4 hx hown (mvT hZ (own_h hw 0 rfl)) (mvT hZ (own_h hw 1 rfl)) (mvT hZ (own_h hw 2 rfl)) (mvT hZ (own_h hw 3 rfl)) (by decide) (backOf (W := 0) (rmDr l Z a0 hw [] p3 h0 n0 O0) hZ (own_h hw 3 rfl) (own_h hw 2 rfl) (by decide) (by decide)) (g := (mkF mm 18 #[.val (.int p0), .val (.int p1), .val (.int p2), .val (.int p3), .val (.int (p0 &&& (3 : Int32))), .val (.int r1), .val (.int r3), .unset, .unset, .unset, .unset] [(.int p3)])) rfl (by rw [hml]; rfl) (argsL := [(.int p3)]) (rest := []) (lenOf pd_523 rfl) rfl (Nat.le_of_eq rfl) (hb hby at_18) (fun _ _ => ⟨rfl, e3, (by decide : 0 + 0 ≤ _), (by decide : 0 + 0 ≤ _)⟩)
  dsimp only [Pt.U, Pt.locs, Pt.cells, Pt.slots] at X5 l5 y5 z5 st5 hQ5
  subst l5 y5 z5
  obtain ⟨r5, rfl, N5q, e5, hlo5, hhi5⟩ := hQ5
  have N5 := Fr.app NL4 N5q
  have pre6 := fun tg_ (k_ : Steps pg.tables ee below (T5.setTop (mkF mm 25 #[.val (.int p0), .val (.int p1), .val (.int p2), .val (.int p3), .val (.int (p0 &&& (3 : Int32))), .val (.int r1), .val (.int r3), .val (.int r5), .unset, .unset, .unset] [(.int (p0 &&& (3 : Int32)))])) tg_) => pre0 tg_ (by
    show Steps pg.tables ee below (s₁.setTop (mkF mm 0 #[.val (.int p0), .val (.int p1), .val (.int p2), .val (.int p3), .unset, .unset, .unset, .unset, .unset, .unset, .unset] [])) _
    refine XS.iloadN XW.here hx rfl (hb hby at_0) rfl ?_
    refine XS.iconst XW.here hx rfl (hb hby at_1) ?_
    refine XS.iand XW.here hx rfl (hb hby at_2) rfl ?_
    refine XS.istore XW.here hx rfl (hb hby at_3) rfl (l' := #[.val (.int p0), .val (.int p1), .val (.int p2), .val (.int p3), .val (.int (p0 &&& (3 : Int32))), .unset, .unset, .unset, .unset, .unset, .unset]) rfl ?_
    refine XS.iloadN XW.here hx rfl (hb hby at_5) rfl ?_
    refine st1 _ ?_
    refine XS.istore X1.here hx rfl (hb hby at_9) rfl (l' := #[.val (.int p0), .val (.int p1), .val (.int p2), .val (.int p3), .val (.int (p0 &&& (3 : Int32))), .val (.int r1), .unset, .unset, .unset, .unset, .unset]) rfl ?_
    refine XS.iloadN X1.here hx rfl (hb hby at_11) rfl ?_
    show Steps pg.tables ee below (T1.setTop (mkF mm 12 #[.val (.int p0), .val (.int p1), .val (.int p2), .val (.int p3), .val (.int (p0 &&& (3 : Int32))), .val (.int r1), .unset, .unset, .unset, .unset, .unset] [(.int p2)])) _
    refine st3 _ ?_
    refine XS.istore X3.here hx rfl (hb hby at_15) rfl (l' := #[.val (.int p0), .val (.int p1), .val (.int p2), .val (.int p3), .val (.int (p0 &&& (3 : Int32))), .val (.int r1), .val (.int r3), .unset, .unset, .unset, .unset]) rfl ?_
    refine XS.iloadN X3.here hx rfl (hb hby at_17) rfl ?_
    refine st5 _ ?_
    refine XS.istore X5.here hx rfl (hb hby at_21) rfl (l' := #[.val (.int p0), .val (.int p1), .val (.int p2), .val (.int p3), .val (.int (p0 &&& (3 : Int32))), .val (.int r1), .val (.int r3), .val (.int r5), .unset, .unset, .unset]) rfl ?_
    refine XS.iload X5.here hx rfl (hb hby at_23) rfl ?_
    exact k_)
  by_cases hc7 : (p0 &&& (3 : Int32)) = (0 : Int32)
  · obtain ⟨T8, h8, k8, X8, e8, E8, A8, st8⟩ := newP X5 hx hZ (own_h hw 4 rfl) e5 (g := (mkF mm 29 #[.val (.int p0), .val (.int p1), .val (.int p2), .val (.int p3), .val (.int (p0 &&& (3 : Int32))), .val (.int r1), .val (.int r3), .val (.int r5), .unset, .unset, .unset] [(.int (0 : Int32))])) rfl (hb hby at_29) rfl (by decide) (cap := 0) (by decide) (by decide) (by decide) (by decide)
    obtain ⟨b8, g8⟩ : ∃ z, z = h0.size := ⟨_, rfl⟩
    rw [← g8] at A8 st8
    have g_b8 : n0 ≤ b8 := Nat.le_trans (O0.1 ▸ O0.2.1) (Nat.le_of_eq g8.symm)
    have sz_b8 : h0.size ≤ b8 := Nat.le_trans K0.1 (Nat.le_of_eq g8.symm)
    have O8 := O0.ext E8
    have KK8 := K0.ext E8
    have hk8 := Nat.le_trans (Nat.zero_le _) E8.1
    have CR8 := CR0.trans (CHr.ext E8 CR0.1)
    have V8 : Arv Z h8 b8 k8 .char (0 : Int32) [] (.int (0 : Int32)) := Arv.new A8 (by decide)
    obtain ⟨T9, h9, X9, e9, E9, A9, D9, -, st9⟩ := newO X8 hx hZ hown (own_h hw 5 rfl) (own_h hw 6 rfl) (own_h hw 7 rfl) e8 (g := (mkF mm 99 #[.val (.int p0), .val (.int p1), .val (.int p2), .val (.int p3), .val (.int (p0 &&& (3 : Int32))), .val (.int r1), .val (.int r3), .val (.int r5), .val (.ref b8), .unset, .unset] [])) rfl (hb hby at_99) (by decide) (by decide)
    obtain ⟨b9, g9⟩ : ∃ z, z = h8.size := ⟨_, rfl⟩
    rw [← g9] at A9 D9 st9
    have g_b9 : n0 ≤ b9 := Nat.le_trans (O8.1 ▸ O8.2.1) (Nat.le_of_eq g9.symm)
    have sz_b9 : h0.size ≤ b9 := Nat.le_trans KK8.1 (Nat.le_of_eq g9.symm)
    have O9 := O8.ext E9
    have KK9 := KK8.ext E9
    have hk9 := Nat.le_trans hk8 E9.1
    have CR9 := CR8.trans (CHr.ext E9 CR8.1)
    have F_value_b9 : Fld Z h9 b9 "java/lang/String" "value" "[B" .null := D9 (Or.inr (own_h hw 20 rfl)) (ty := (.array .byte)) (by decide)
    have F_coder_b9 : Fld Z h9 b9 "java/lang/String" "coder" "B" (.int (0 : Int32)) := D9 (Or.inr (own_h hw 21 rfl)) (ty := .byte) (by decide)
    obtain ⟨LL10, XL10, NL10⟩ := own_loose X9 N5
    have pre11 := fun tg_ (k_ : Steps pg.tables ee below (T9.setTop (mkF mm 105 #[.val (.int p0), .val (.int p1), .val (.int p2), .val (.int p3), .val (.int (p0 &&& (3 : Int32))), .val (.int r1), .val (.int r3), .val (.int r5), .val (.ref b8), .unset, .unset] [(.ref b8), (.ref b9), (.ref b9)])) tg_) => pre6 tg_ (by
      show Steps pg.tables ee below (T5.setTop (mkF mm 25 #[.val (.int p0), .val (.int p1), .val (.int p2), .val (.int p3), .val (.int (p0 &&& (3 : Int32))), .val (.int r1), .val (.int r3), .val (.int r5), .unset, .unset, .unset] [(.int (p0 &&& (3 : Int32)))])) _
      refine XS.ifNo X5.here hx rfl (hb hby at_25) rfl ((if0 _ _).trans (teq hc7).2) ?_
      refine XS.iconst X5.here hx rfl (hb hby at_28) ?_
      show Steps pg.tables ee below (T5.setTop (mkF mm 29 #[.val (.int p0), .val (.int p1), .val (.int p2), .val (.int p3), .val (.int (p0 &&& (3 : Int32))), .val (.int r1), .val (.int r3), .val (.int r5), .unset, .unset, .unset] [(.int (0 : Int32))])) _
      refine st8 _ ?_
      refine XS.astore X8.here hx rfl (hb hby at_31) rfl rfl (l' := #[.val (.int p0), .val (.int p1), .val (.int p2), .val (.int p3), .val (.int (p0 &&& (3 : Int32))), .val (.int r1), .val (.int r3), .val (.int r5), .val (.ref b8), .unset, .unset]) rfl ?_
      refine XS.goto X8.here hx rfl (pc0 := 33) (pc' := 99) rfl (hb hby at_33) (by decide) (by decide) ?_
      refine st9 _ ?_
      refine XS.dup X9.here hx rfl (hb hby at_102) rfl rfl ?_
      refine XS.aload X9.here hx rfl (hb hby at_103) rfl rfl ?_
      exact k_)
    obtain ⟨_, _, ⟨T12, L12, k12, n12⟩, -, X12, hs12, hgr12, ⟨Lc12, hQ12, l12, y12, z12, CQ12⟩, st12⟩ := XL10.specialBackS hx (y := (⟨"java/lang/String", "<init>", "([C)V"⟩ : MethodName)) rfl hown (mvT hZ (own_h hw 8 rfl)) (mvT hZ (own_h hw 9 rfl)) (mvT hZ (own_h hw 10 rfl)) (by decide) (backOfSH (W := 1) (rmC0 l Z a0 hw [] b9 b8 k8 h9 n0 O9 A9 F_value_b9 F_coder_b9 g_b9 (V8.ext E9)) hZ (own_h hw 10 rfl) (own_h hw 7 rfl) (by decide) (by decide) hEL CR9.1) (g := (mkF mm 105 #[.val (.int p0), .val (.int p1), .val (.int p2), .val (.int p3), .val (.int (p0 &&& (3 : Int32))), .val (.int r1), .val (.int r3), .val (.int r5), .val (.ref b8), .unset, .unset] [(.ref b8), (.ref b9), (.ref b9)])) rfl (by rw [hml]; rfl) (Steps.refl _) (a := b9) (argsL := [(.ref b8)]) (rest := [(.ref b9)]) (lenOf pd_537 rfl) rfl (Nat.le_of_eq rfl) (hb hby at_105) (fun _ _ => ⟨rfl, e9, (by decide : 2 + 4 ≤ _), (by decide : 4 + 8 ≤ _)⟩)
    dsimp only [Pt.U, Pt.locs, Pt.cells, Pt.slots] at X12 l12 y12 z12 st12 hQ12 hs12 hgr12 CQ12
    subst l12 y12 z12
    replace X12 := own_rebase (s := s) X12
    obtain ⟨rfl, N12q, K12, Sp12⟩ := hQ12
    have hS12 : s.Since T12.vm T12.heap.size := State.Since.trans hS0 hs12 (Nat.le_trans (by rw [e9]; exact hk9) hgr12)
    have hown : (s.setVm T12.vm).vm.findClass "com/example/waxwing/waxwing/http/HeadTokenPinLaw" = some mm.cls := by rw [show (s.setVm T12.vm).vm = T12.vm from rfl, hs12.1.alike.findClass]; exact hown
    have hZ : Z.Warmed39 (s.setVm T12.vm).vm := State.Warmed39.trans hZ hs12.1
    have CR12 := CR9.trans CQ12
    have O12 := O9.keep K12 (allS g_b9 all0)
    have KK12 := KK9.trans K12 (allS (Or.inr sz_b9) all0)
    have N12 := Fr.app NL10 N12q
    obtain ⟨LL13, XL13, NL13⟩ := own_loose X12 N12
    have pre14 := fun tg_ (k_ : Steps pg.tables ee below (T12.setTop (mkF mm 202 #[.val (.int p0), .val (.int p1), .val (.int p2), .val (.int p3), .val (.int (p0 &&& (3 : Int32))), .val (.int r1), .val (.int r3), .val (.int r5), .val (.ref b8), .val (.ref b9), .val (.int (0 : Int32))] [(.ref b9)])) tg_) => pre11 tg_ (by
      refine st12.trans ?_
      refine XS.astore X12.here hx rfl (hb hby at_108) rfl rfl (l' := #[.val (.int p0), .val (.int p1), .val (.int p2), .val (.int p3), .val (.int (p0 &&& (3 : Int32))), .val (.int r1), .val (.int r3), .val (.int r5), .val (.ref b8), .val (.ref b9), .unset]) rfl ?_
      show Steps pg.tables ee below (T12.setTop (mkF mm 110 #[.val (.int p0), .val (.int p1), .val (.int p2), .val (.int p3), .val (.int (p0 &&& (3 : Int32))), .val (.int r1), .val (.int r3), .val (.int r5), .val (.ref b8), .val (.ref b9), .unset] [])) _
      refine XS.iload X12.here hx rfl (hb hby at_110) rfl ?_
      refine XS.ifNo X12.here hx rfl (hb hby at_112) rfl ((if0 _ _).trans (teq hc7).2) ?_
      refine XS.iconst X12.here hx rfl (hb hby at_115) ?_
      refine XS.istore X12.here hx rfl (hb hby at_116) rfl (l' := #[.val (.int p0), .val (.int p1), .val (.int p2), .val (.int p3), .val (.int (p0 &&& (3 : Int32))), .val (.int r1), .val (.int r3), .val (.int r5), .val (.ref b8), .val (.ref b9), .val (.int (0 : Int32))]) rfl ?_
      refine XS.goto X12.here hx rfl (pc0 := 118) (pc' := 200) rfl (hb hby at_118) (by decide) (by decide) ?_
      refine XS.aload X12.here hx rfl (hb hby at_200) rfl rfl ?_
      exact k_)
    obtain ⟨_, _, ⟨T15, L15, k15, n15⟩, -, X15, hs15, hgr15, ⟨Lc15, hQ15, l15, y15, z15, CQ15⟩, st15⟩ := callSS XL13 hx (y := (⟨"com/example/waxwing/waxwing/http/Head", "token", "(Ljava/lang/String;)Z"⟩ : MethodName)) hown (mvT hZ (own_h hw 26 rfl)) (mvT hZ (own_h hw 27 rfl)) (mvT hZ (own_h hw 28 rfl)) (mvT hZ (own_h hw 29 rfl)) (by decide) (backOfSH (W := 0) (rmTk0 l Z a0 hw [] b9  cs fm T12.heap n0 O12 Sp12 hC hG hF ) hZ (own_h hw 29 rfl) (own_h hw 28 rfl) (by decide) (by decide) hEL CR12.1) (g := (mkF mm 202 #[.val (.int p0), .val (.int p1), .val (.int p2), .val (.int p3), .val (.int (p0 &&& (3 : Int32))), .val (.int r1), .val (.int r3), .val (.int r5), .val (.ref b8), .val (.ref b9), .val (.int (0 : Int32))] [(.ref b9)])) rfl (by rw [hml]; rfl) (argsL := [(.ref b9)]) (rest := []) (lenOf pd_538 rfl) rfl (Nat.le_of_eq rfl) (hb hby at_202) (fun _ _ => ⟨rfl, rfl, (by decide : 6 + 0 ≤ _), (by decide : 12 + 0 ≤ _)⟩)
    dsimp only [Pt.U, Pt.locs, Pt.cells, Pt.slots] at X15 l15 y15 z15 st15 hQ15 hs15 hgr15 CQ15
    subst l15 y15 z15
    replace X15 := own_rebase (s := s) X15
    obtain ⟨rfl, N15q, K15⟩ := hQ15
    have hS15 : s.Since T15.vm T15.heap.size := State.Since.trans hS12 hs15 (Nat.le_trans (Nat.le_refl _) hgr15)
    have hown : (s.setVm T15.vm).vm.findClass "com/example/waxwing/waxwing/http/HeadTokenPinLaw" = some mm.cls := by rw [show (s.setVm T15.vm).vm = T15.vm from rfl, hs15.1.alike.findClass]; exact hown
    have hZ : Z.Warmed39 (s.setVm T15.vm).vm := State.Warmed39.trans hZ hs15.1
    have CR15 := CR12.trans CQ15
    have O15 := O12.keep K15 all0
    have KK15 := KK12.trans K15 all0
    have N15 := Fr.app NL13 N15q
    obtain ⟨fs, hr, hrun, hended, hRW⟩ := X15.leaveW hS15 (Nat.le_refl _) (v := some (.int (1 : Int32))) (fun h => by rw [Bd.returns] at h; cases h)
    refine ⟨_, _, pre14 _ ?_, hrun, hended, _, _, rfl, ?_, (own_rmono hRW (by decide) (by decide))⟩
    · refine st15.trans ?_
      refine XS.iload X15.here hx rfl (hb hby at_205) rfl ?_
      show Steps pg.tables ee below (T15.setTop (mkF mm 207 #[.val (.int p0), .val (.int p1), .val (.int p2), .val (.int p3), .val (.int (p0 &&& (3 : Int32))), .val (.int r1), .val (.int r3), .val (.int r5), .val (.ref b8), .val (.ref b9), .val (.int (0 : Int32))] [(.int (0 : Int32)), (.int (0 : Int32))])) _
      refine XS.icmpNo X15.here hx rfl (hb hby at_207) rfl (teq (by decide : (0 : Int32) = (0 : Int32))).2 ?_
      refine XS.iconst X15.here hx rfl (hb hby at_210) ?_
      refine XS.goto X15.here hx rfl (pc0 := 211) (pc' := 215) rfl (hb hby at_211) (by decide) (by decide) ?_
      exact retN X15 hx (t := .boolean) Bd.returns (by simp) (hb hby at_215) hr
    · show Qrm0 Z p0 p1 p2 p3 cs fm h0 n0 _ T15.heap _
      exact ⟨rfl, N15⟩
  · have pre16 := fun tg_ (k_ : Steps pg.tables ee below (T5.setTop (mkF mm 39 #[.val (.int p0), .val (.int p1), .val (.int p2), .val (.int p3), .val (.int (p0 &&& (3 : Int32))), .val (.int r1), .val (.int r3), .val (.int r5), .unset, .unset, .unset] [(.int (1 : Int32)), (.int (p0 &&& (3 : Int32)))])) tg_) => pre6 tg_ (by
      show Steps pg.tables ee below (T5.setTop (mkF mm 25 #[.val (.int p0), .val (.int p1), .val (.int p2), .val (.int p3), .val (.int (p0 &&& (3 : Int32))), .val (.int r1), .val (.int r3), .val (.int r5), .unset, .unset, .unset] [(.int (p0 &&& (3 : Int32)))])) _
      refine XS.ifYes X5.here hx rfl (pc0 := 25) (pc' := 36) rfl (hb hby at_25) rfl ((if0 _ _).trans (feq hc7).2) (by decide) (by decide) ?_
      refine XS.iload X5.here hx rfl (hb hby at_36) rfl ?_
      show Steps pg.tables ee below (T5.setTop (mkF mm 38 #[.val (.int p0), .val (.int p1), .val (.int p2), .val (.int p3), .val (.int (p0 &&& (3 : Int32))), .val (.int r1), .val (.int r3), .val (.int r5), .unset, .unset, .unset] [(.int (p0 &&& (3 : Int32)))])) _
      refine XS.iconst X5.here hx rfl (hb hby at_38) ?_
      exact k_)
    by_cases hc17 : (p0 &&& (3 : Int32)) = (1 : Int32)
    · obtain ⟨T18, h18, k18, X18, e18, E18, A18, st18⟩ := newP X5 hx hZ (own_h hw 4 rfl) e5 (g := (mkF mm 43 #[.val (.int p0), .val (.int p1), .val (.int p2), .val (.int p3), .val (.int (p0 &&& (3 : Int32))), .val (.int r1), .val (.int r3), .val (.int r5), .unset, .unset, .unset] [(.int (1 : Int32))])) rfl (hb hby at_43) rfl (by decide) (cap := 1) (by decide) (by decide) (by decide) (by decide)
      obtain ⟨b18, g18⟩ : ∃ z, z = h0.size := ⟨_, rfl⟩
      rw [← g18] at A18 st18
      have g_b18 : n0 ≤ b18 := Nat.le_trans (O0.1 ▸ O0.2.1) (Nat.le_of_eq g18.symm)
      have sz_b18 : h0.size ≤ b18 := Nat.le_trans K0.1 (Nat.le_of_eq g18.symm)
      have O18 := O0.ext E18
      have KK18 := K0.ext E18
      have hk18 := Nat.le_trans (Nat.zero_le _) E18.1
      have CR18 := CR0.trans (CHr.ext E18 CR0.1)
      have V18 : Arv Z h18 b18 k18 .char (1 : Int32) [(.int (0 : Int32))] (.int (0 : Int32)) := (Arv.new A18 (by decide)).pad (pad_rep [] (.int (0 : Int32)) 1)
      obtain ⟨cl19, Ar19, qk19, Sz19, Nn19, Hh19, Gg19⟩ := id V18
      have hin19 : ¬ ((0 : Int32) < 0 ∨ cl19.slots.size ≤ ((0 : Int32)).toNatClampNeg) := inb_of Sz19 ⟨by decide, by decide⟩
      obtain ⟨T20, h20, X20, e20, W20, st20⟩ := stC X18 hx hZ e18 Ar19 (j := (0 : Int32)) hin19 (g := (mkF mm 49 #[.val (.int p0), .val (.int p1), .val (.int p2), .val (.int p3), .val (.int (p0 &&& (3 : Int32))), .val (.int r1), .val (.int r3), .val (.int r5), .unset, .unset, .unset] [(.int r1), (.int (0 : Int32)), (.ref b18), (.ref b18)])) rfl rfl (hb hby at_49)
      have V20 : Arv Z h20 b18 k18 .char (1 : Int32) [(.int (nar .char r1))] (.int (0 : Int32)) := Arv.set Ar19 qk19 Sz19 Nn19 Hh19 Gg19 (fits_nar_char _) W20 0 rfl (Nat.le_of_ble_eq_true rfl)
      rw [own_nc hlo1 hhi1] at V20
      have CR20 := CR18.trans (CHr.wr W20 (Safe.arr hZ.alike Ar19 (by decide)) CR18.1)
      have N20 := Fr.snoc X20 N5 g_b18
      have O20 := O18.wr W20 g_b18
      have KK20 := KK18.wr W20 (Or.inr sz_b18)
      have hk20 := Nat.le_trans hk18 (Nat.le_of_eq W20.size.symm)
      obtain ⟨T21, h21, X21, e21, E21, A21, D21, -, st21⟩ := newO X20 hx hZ hown (own_h hw 5 rfl) (own_h hw 6 rfl) (own_h hw 7 rfl) e20 (g := (mkF mm 99 #[.val (.int p0), .val (.int p1), .val (.int p2), .val (.int p3), .val (.int (p0 &&& (3 : Int32))), .val (.int r1), .val (.int r3), .val (.int r5), .val (.ref b18), .unset, .unset] [])) rfl (hb hby at_99) (by decide) (by decide)
      obtain ⟨b21, g21⟩ : ∃ z, z = h20.size := ⟨_, rfl⟩
      rw [← g21] at A21 D21 st21
      have g_b21 : n0 ≤ b21 := Nat.le_trans (O20.1 ▸ O20.2.1) (Nat.le_of_eq g21.symm)
      have sz_b21 : h0.size ≤ b21 := Nat.le_trans KK20.1 (Nat.le_of_eq g21.symm)
      have O21 := O20.ext E21
      have KK21 := KK20.ext E21
      have hk21 := Nat.le_trans hk20 E21.1
      have CR21 := CR20.trans (CHr.ext E21 CR20.1)
      have F_value_b21 : Fld Z h21 b21 "java/lang/String" "value" "[B" .null := D21 (Or.inr (own_h hw 20 rfl)) (ty := (.array .byte)) (by decide)
      have F_coder_b21 : Fld Z h21 b21 "java/lang/String" "coder" "B" (.int (0 : Int32)) := D21 (Or.inr (own_h hw 21 rfl)) (ty := .byte) (by decide)
      obtain ⟨LL22, XL22, NL22⟩ := own_loose X21 N20
      obtain ⟨_, _, ⟨T23, L23, k23, n23⟩, -, X23, ⟨Lc23, hQ23, l23, y23, z23⟩, st23⟩ := XL22.specialBack hx rfl hown (mvT hZ (own_h hw 8 rfl)) (mvT hZ (own_h hw 9 rfl)) (mvT hZ (own_h hw 10 rfl)) (by decide) (backOf (W := 1) (rmC1 l Z a0 hw [] b21 b18 k18 r1 cs h21 n0 O21 A21 F_value_b21 F_coder_b21 g_b21 (V20.ext E21) (Nat.ne_of_lt (Nat.lt_of_lt_of_le V20.lt (Nat.le_of_eq g21.symm))) hC hlo1 hhi1 hG) hZ (own_h hw 10 rfl) (own_h hw 7 rfl) (by decide) (by decide)) (g := (mkF mm 105 #[.val (.int p0), .val (.int p1), .val (.int p2), .val (.int p3), .val (.int (p0 &&& (3 : Int32))), .val (.int r1), .val (.int r3), .val (.int r5), .val (.ref b18), .unset, .unset] [(.ref b18), (.ref b21), (.ref b21)])) rfl (by rw [hml]; rfl) (Steps.refl _) (a := b21) (argsL := [(.ref b18)]) (rest := [(.ref b21)]) (lenOf pd_537 rfl) rfl (Nat.le_of_eq rfl) (hb hby at_105) (fun _ _ => ⟨rfl, e21, (by decide : 2 + 2 ≤ _), (by decide : 5 + 3 ≤ _)⟩)
      dsimp only [Pt.U, Pt.locs, Pt.cells, Pt.slots] at X23 l23 y23 z23 st23 hQ23
      subst l23 y23 z23
      obtain ⟨rfl, N23q, K23, Sp23⟩ := hQ23
      have O23 := O21.keep K23 (allS g_b21 all0)
      have KK23 := KK21.trans K23 (allS (Or.inr sz_b21) all0)
      have N23 := Fr.app NL22 N23q
      have hk23 := Nat.le_trans hk21 K23.1
      have CR23 := CR21.trans (CHr.keep K23 (allS (own_safe hZ.alike F_value_b21 A21) all0) CR21.1)
      obtain ⟨LL24, XL24, NL24⟩ := own_loose X23 N23
      obtain ⟨_, _, ⟨T25, L25, k25, n25⟩, -, X25, ⟨Lc25, hQ25, l25, y25, z25⟩, st25⟩ := Jvm.LawKit.callS XL24 hx hown (mvT hZ (own_h hw 56 rfl)) (mvT hZ (own_h hw 57 rfl)) (mvT hZ (own_h hw 2 rfl)) (mvT hZ (own_h hw 58 rfl)) (by decide) (backOf (W := 0) (rmTc l Z a0 hw [] r1 T23.heap n0 O23) hZ (own_h hw 58 rfl) (own_h hw 2 rfl) (by decide) (by decide)) (g := (mkF mm 129 #[.val (.int p0), .val (.int p1), .val (.int p2), .val (.int p3), .val (.int (p0 &&& (3 : Int32))), .val (.int r1), .val (.int r3), .val (.int r5), .val (.ref b18), .val (.ref b21), .unset] [(.int r1)])) rfl (by rw [hml]; rfl) (argsL := [(.int r1)]) (rest := []) (lenOf pd_539 rfl) rfl (Nat.le_of_eq rfl) (hb hby at_129) (fun _ _ => ⟨rfl, rfl, (by decide : 4 + 0 ≤ _), (by decide : 8 + 0 ≤ _)⟩)
      dsimp only [Pt.U, Pt.locs, Pt.cells, Pt.slots] at X25 l25 y25 z25 st25 hQ25
      subst l25 y25 z25
      obtain ⟨rfl, N25q, e25⟩ := hQ25
      have N25 := Fr.app NL24 N25q
      obtain ⟨LL26, XL26, NL26⟩ := own_loose X25 N25
      have pre27 := fun tg_ (k_ : Steps pg.tables ee below (T25.setTop (mkF mm 202 #[.val (.int p0), .val (.int p1), .val (.int p2), .val (.int p3), .val (.int (p0 &&& (3 : Int32))), .val (.int r1), .val (.int r3), .val (.int r5), .val (.ref b18), .val (.ref b21), .val (.int (own_t r1))] [(.ref b21)])) tg_) => pre16 tg_ (by
        show Steps pg.tables ee below (T5.setTop (mkF mm 39 #[.val (.int p0), .val (.int p1), .val (.int p2), .val (.int p3), .val (.int (p0 &&& (3 : Int32))), .val (.int r1), .val (.int r3), .val (.int r5), .unset, .unset, .unset] [(.int (1 : Int32)), (.int (p0 &&& (3 : Int32)))])) _
        refine XS.icmpNo X5.here hx rfl (hb hby at_39) rfl (teq hc17).2 ?_
        refine XS.iconst X5.here hx rfl (hb hby at_42) ?_
        refine st18 _ ?_
        refine XS.dup X18.here hx rfl (hb hby at_45) rfl rfl ?_
        refine XS.iconst X18.here hx rfl (hb hby at_46) ?_
        refine XS.iload X18.here hx rfl (hb hby at_47) rfl ?_
        refine st20 _ ?_
        show Steps pg.tables ee below (T20.setTop (mkF mm 50 #[.val (.int p0), .val (.int p1), .val (.int p2), .val (.int p3), .val (.int (p0 &&& (3 : Int32))), .val (.int r1), .val (.int r3), .val (.int r5), .unset, .unset, .unset] [(.ref b18)])) _
        refine XS.astore X20.here hx rfl (hb hby at_50) rfl rfl (l' := #[.val (.int p0), .val (.int p1), .val (.int p2), .val (.int p3), .val (.int (p0 &&& (3 : Int32))), .val (.int r1), .val (.int r3), .val (.int r5), .val (.ref b18), .unset, .unset]) rfl ?_
        refine XS.goto X20.here hx rfl (pc0 := 52) (pc' := 99) rfl (hb hby at_52) (by decide) (by decide) ?_
        refine st21 _ ?_
        refine XS.dup X21.here hx rfl (hb hby at_102) rfl rfl ?_
        refine XS.aload X21.here hx rfl (hb hby at_103) rfl rfl ?_
        refine st23.trans ?_
        refine XS.astore X23.here hx rfl (hb hby at_108) rfl rfl (l' := #[.val (.int p0), .val (.int p1), .val (.int p2), .val (.int p3), .val (.int (p0 &&& (3 : Int32))), .val (.int r1), .val (.int r3), .val (.int r5), .val (.ref b18), .val (.ref b21), .unset]) rfl ?_
        refine XS.iload X23.here hx rfl (hb hby at_110) rfl ?_
        show Steps pg.tables ee below (T23.setTop (mkF mm 112 #[.val (.int p0), .val (.int p1), .val (.int p2), .val (.int p3), .val (.int (p0 &&& (3 : Int32))), .val (.int r1), .val (.int r3), .val (.int r5), .val (.ref b18), .val (.ref b21), .unset] [(.int (p0 &&& (3 : Int32)))])) _
        refine XS.ifYes X23.here hx rfl (pc0 := 112) (pc' := 121) rfl (hb hby at_112) rfl ((if0 _ _).trans (feq hc7).2) (by decide) (by decide) ?_
        refine XS.iload X23.here hx rfl (hb hby at_121) rfl ?_
        refine XS.iconst X23.here hx rfl (hb hby at_123) ?_
        refine XS.icmpNo X23.here hx rfl (hb hby at_124) rfl (teq hc17).2 ?_
        refine XS.iload X23.here hx rfl (hb hby at_127) rfl ?_
        refine st25 _ ?_
        refine XS.istore X25.here hx rfl (hb hby at_132) rfl (l' := #[.val (.int p0), .val (.int p1), .val (.int p2), .val (.int p3), .val (.int (p0 &&& (3 : Int32))), .val (.int r1), .val (.int r3), .val (.int r5), .val (.ref b18), .val (.ref b21), .val (.int (own_t r1))]) rfl ?_
        refine XS.goto X25.here hx rfl (pc0 := 134) (pc' := 200) rfl (hb hby at_134) (by decide) (by decide) ?_
        show Steps pg.tables ee below (T25.setTop (mkF mm 200 #[.val (.int p0), .val (.int p1), .val (.int p2), .val (.int p3), .val (.int (p0 &&& (3 : Int32))), .val (.int r1), .val (.int r3), .val (.int r5), .val (.ref b18), .val (.ref b21), .val (.int (own_t r1))] [])) _
        refine XS.aload X25.here hx rfl (hb hby at_200) rfl rfl ?_
        exact k_)
      obtain ⟨_, _, ⟨T28, L28, k28, n28⟩, -, X28, hs28, hgr28, ⟨Lc28, hQ28, l28, y28, z28, CQ28⟩, st28⟩ := callSS XL26 hx (y := (⟨"com/example/waxwing/waxwing/http/Head", "token", "(Ljava/lang/String;)Z"⟩ : MethodName)) hown (mvT hZ (own_h hw 26 rfl)) (mvT hZ (own_h hw 27 rfl)) (mvT hZ (own_h hw 28 rfl)) (mvT hZ (own_h hw 29 rfl)) (by decide) (backOfSH (W := 0) (rmTk1 l Z a0 hw [] b21 r1 cs fm T23.heap n0 O23 Sp23 hC hG hF hlo1 hhi1) hZ (own_h hw 29 rfl) (own_h hw 28 rfl) (by decide) (by decide) hEL CR23.1) (g := (mkF mm 202 #[.val (.int p0), .val (.int p1), .val (.int p2), .val (.int p3), .val (.int (p0 &&& (3 : Int32))), .val (.int r1), .val (.int r3), .val (.int r5), .val (.ref b18), .val (.ref b21), .val (.int (own_t r1))] [(.ref b21)])) rfl (by rw [hml]; rfl) (argsL := [(.ref b21)]) (rest := []) (lenOf pd_538 rfl) rfl (Nat.le_of_eq rfl) (hb hby at_202) (fun _ _ => ⟨rfl, e25, (by decide : 4 + 2 ≤ _), (by decide : 8 + 64 ≤ _)⟩)
      dsimp only [Pt.U, Pt.locs, Pt.cells, Pt.slots] at X28 l28 y28 z28 st28 hQ28 hs28 hgr28 CQ28
      subst l28 y28 z28
      replace X28 := own_rebase (s := s) X28
      obtain ⟨rfl, N28q, K28⟩ := hQ28
      have hS28 : s.Since T28.vm T28.heap.size := State.Since.trans hS0 hs28 (Nat.le_trans (by rw [e25]; exact hk23) hgr28)
      have hown : (s.setVm T28.vm).vm.findClass "com/example/waxwing/waxwing/http/HeadTokenPinLaw" = some mm.cls := by rw [show (s.setVm T28.vm).vm = T28.vm from rfl, hs28.1.alike.findClass]; exact hown
      have hZ : Z.Warmed39 (s.setVm T28.vm).vm := State.Warmed39.trans hZ hs28.1
      have CR28 := CR23.trans CQ28
      have O28 := O23.keep K28 all0
      have KK28 := KK23.trans K28 all0
      have N28 := Fr.app NL26 N28q
      obtain ⟨fs, hr, hrun, hended, hRW⟩ := X28.leaveW hS28 (Nat.le_refl _) (v := some (.int (1 : Int32))) (fun h => by rw [Bd.returns] at h; cases h)
      refine ⟨_, _, pre27 _ ?_, hrun, hended, _, _, rfl, ?_, (own_rmono hRW (by decide) (by decide))⟩
      · refine st28.trans ?_
        refine XS.iload X28.here hx rfl (hb hby at_205) rfl ?_
        refine XS.icmpNo X28.here hx rfl (hb hby at_207) rfl (teq (rfl : (own_t r1) = (own_t r1))).2 ?_
        refine XS.iconst X28.here hx rfl (hb hby at_210) ?_
        refine XS.goto X28.here hx rfl (pc0 := 211) (pc' := 215) rfl (hb hby at_211) (by decide) (by decide) ?_
        exact retN X28 hx (t := .boolean) Bd.returns (by simp) (hb hby at_215) hr
      · show Qrm0 Z p0 p1 p2 p3 cs fm h0 n0 _ T28.heap _
        exact ⟨rfl, N28⟩
    · have pre29 := fun tg_ (k_ : Steps pg.tables ee below (T5.setTop (mkF mm 58 #[.val (.int p0), .val (.int p1), .val (.int p2), .val (.int p3), .val (.int (p0 &&& (3 : Int32))), .val (.int r1), .val (.int r3), .val (.int r5), .unset, .unset, .unset] [(.int (2 : Int32)), (.int (p0 &&& (3 : Int32)))])) tg_) => pre16 tg_ (by
        show Steps pg.tables ee below (T5.setTop (mkF mm 39 #[.val (.int p0), .val (.int p1), .val (.int p2), .val (.int p3), .val (.int (p0 &&& (3 : Int32))), .val (.int r1), .val (.int r3), .val (.int r5), .unset, .unset, .unset] [(.int (1 : Int32)), (.int (p0 &&& (3 : Int32)))])) _
        refine XS.icmpYes X5.here hx rfl (pc0 := 39) (pc' := 55) rfl (hb hby at_39) rfl (feq hc17).2 (by decide) (by decide) ?_
        refine XS.iload X5.here hx rfl (hb hby at_55) rfl ?_
        refine XS.iconst X5.here hx rfl (hb hby at_57) ?_
        exact k_)
      by_cases hc30 : (p0 &&& (3 : Int32)) = (2 : Int32)
      · obtain ⟨T31, h31, k31, X31, e31, E31, A31, st31⟩ := newP X5 hx hZ (own_h hw 4 rfl) e5 (g := (mkF mm 62 #[.val (.int p0), .val (.int p1), .val (.int p2), .val (.int p3), .val (.int (p0 &&& (3 : Int32))), .val (.int r1), .val (.int r3), .val (.int r5), .unset, .unset, .unset] [(.int (2 : Int32))])) rfl (hb hby at_62) rfl (by decide) (cap := 2) (by decide) (by decide) (by decide) (by decide)
        obtain ⟨b31, g31⟩ : ∃ z, z = h0.size := ⟨_, rfl⟩
        rw [← g31] at A31 st31
        have g_b31 : n0 ≤ b31 := Nat.le_trans (O0.1 ▸ O0.2.1) (Nat.le_of_eq g31.symm)
        have sz_b31 : h0.size ≤ b31 := Nat.le_trans K0.1 (Nat.le_of_eq g31.symm)
        have O31 := O0.ext E31
        have KK31 := K0.ext E31
        have hk31 := Nat.le_trans (Nat.zero_le _) E31.1
        have CR31 := CR0.trans (CHr.ext E31 CR0.1)
        have V31 : Arv Z h31 b31 k31 .char (2 : Int32) [(.int (0 : Int32)), (.int (0 : Int32))] (.int (0 : Int32)) := (Arv.new A31 (by decide)).pad (pad_rep [] (.int (0 : Int32)) 2)
        obtain ⟨cl32, Ar32, qk32, Sz32, Nn32, Hh32, Gg32⟩ := id V31
        have hin32 : ¬ ((0 : Int32) < 0 ∨ cl32.slots.size ≤ ((0 : Int32)).toNatClampNeg) := inb_of Sz32 ⟨by decide, by decide⟩
        obtain ⟨T33, h33, X33, e33, W33, st33⟩ := stC X31 hx hZ e31 Ar32 (j := (0 : Int32)) hin32 (g := (mkF mm 68 #[.val (.int p0), .val (.int p1), .val (.int p2), .val (.int p3), .val (.int (p0 &&& (3 : Int32))), .val (.int r1), .val (.int r3), .val (.int r5), .unset, .unset, .unset] [(.int r1), (.int (0 : Int32)), (.ref b31), (.ref b31)])) rfl rfl (hb hby at_68)
        have V33 : Arv Z h33 b31 k31 .char (2 : Int32) [(.int (nar .char r1)), (.int (0 : Int32))] (.int (0 : Int32)) := Arv.set Ar32 qk32 Sz32 Nn32 Hh32 Gg32 (fits_nar_char _) W33 0 rfl (Nat.le_of_ble_eq_true rfl)
        rw [own_nc hlo1 hhi1] at V33
        have CR33 := CR31.trans (CHr.wr W33 (Safe.arr hZ.alike Ar32 (by decide)) CR31.1)
        have N33 := Fr.snoc X33 N5 g_b31
        have O33 := O31.wr W33 g_b31
        have KK33 := KK31.wr W33 (Or.inr sz_b31)
        have hk33 := Nat.le_trans hk31 (Nat.le_of_eq W33.size.symm)
        obtain ⟨cl34, Ar34, qk34, Sz34, Nn34, Hh34, Gg34⟩ := id V33
        have hin34 : ¬ ((1 : Int32) < 0 ∨ cl34.slots.size ≤ ((1 : Int32)).toNatClampNeg) := inb_of Sz34 ⟨by decide, by decide⟩
        obtain ⟨T35, h35, X35, e35, W35, st35⟩ := stC X33 hx hZ e33 Ar34 (j := (1 : Int32)) hin34 (g := (mkF mm 73 #[.val (.int p0), .val (.int p1), .val (.int p2), .val (.int p3), .val (.int (p0 &&& (3 : Int32))), .val (.int r1), .val (.int r3), .val (.int r5), .unset, .unset, .unset] [(.int r3), (.int (1 : Int32)), (.ref b31), (.ref b31)])) rfl rfl (hb hby at_73)
        have V35 : Arv Z h35 b31 k31 .char (2 : Int32) [(.int r1), (.int (nar .char r3))] (.int (0 : Int32)) := Arv.set Ar34 qk34 Sz34 Nn34 Hh34 Gg34 (fits_nar_char _) W35 1 rfl (Nat.le_of_ble_eq_true rfl)
        rw [own_nc hlo3 hhi3] at V35
        have CR35 := CR33.trans (CHr.wr W35 (Safe.arr hZ.alike Ar34 (by decide)) CR33.1)
        have N35 := Fr.snoc X35 N33 g_b31
        have O35 := O33.wr W35 g_b31
        have KK35 := KK33.wr W35 (Or.inr sz_b31)
        have hk35 := Nat.le_trans hk33 (Nat.le_of_eq W35.size.symm)
        obtain ⟨T36, h36, X36, e36, E36, A36, D36, -, st36⟩ := newO X35 hx hZ hown (own_h hw 5 rfl) (own_h hw 6 rfl) (own_h hw 7 rfl) e35 (g := (mkF mm 99 #[.val (.int p0), .val (.int p1), .val (.int p2), .val (.int p3), .val (.int (p0 &&& (3 : Int32))), .val (.int r1), .val (.int r3), .val (.int r5), .val (.ref b31), .unset, .unset] [])) rfl (hb hby at_99) (by decide) (by decide)
        obtain ⟨b36, g36⟩ : ∃ z, z = h35.size := ⟨_, rfl⟩
        rw [← g36] at A36 D36 st36
        have g_b36 : n0 ≤ b36 := Nat.le_trans (O35.1 ▸ O35.2.1) (Nat.le_of_eq g36.symm)
        have sz_b36 : h0.size ≤ b36 := Nat.le_trans KK35.1 (Nat.le_of_eq g36.symm)
        have O36 := O35.ext E36
        have KK36 := KK35.ext E36
        have hk36 := Nat.le_trans hk35 E36.1
        have CR36 := CR35.trans (CHr.ext E36 CR35.1)
        have F_value_b36 : Fld Z h36 b36 "java/lang/String" "value" "[B" .null := D36 (Or.inr (own_h hw 20 rfl)) (ty := (.array .byte)) (by decide)
        have F_coder_b36 : Fld Z h36 b36 "java/lang/String" "coder" "B" (.int (0 : Int32)) := D36 (Or.inr (own_h hw 21 rfl)) (ty := .byte) (by decide)
        obtain ⟨LL37, XL37, NL37⟩ := own_loose X36 N35
        obtain ⟨_, _, ⟨T38, L38, k38, n38⟩, -, X38, ⟨Lc38, hQ38, l38, y38, z38⟩, st38⟩ := XL37.specialBack hx rfl hown (mvT hZ (own_h hw 8 rfl)) (mvT hZ (own_h hw 9 rfl)) (mvT hZ (own_h hw 10 rfl)) (by decide) (backOf (W := 1) (rmC2 l Z a0 hw [] b36 b31 k31 r1 r3 cs h36 n0 O36 A36 F_value_b36 F_coder_b36 g_b36 (V35.ext E36) (Nat.ne_of_lt (Nat.lt_of_lt_of_le V35.lt (Nat.le_of_eq g36.symm))) hC hlo1 hhi1 hlo3 hhi3 hG) hZ (own_h hw 10 rfl) (own_h hw 7 rfl) (by decide) (by decide)) (g := (mkF mm 105 #[.val (.int p0), .val (.int p1), .val (.int p2), .val (.int p3), .val (.int (p0 &&& (3 : Int32))), .val (.int r1), .val (.int r3), .val (.int r5), .val (.ref b31), .unset, .unset] [(.ref b31), (.ref b36), (.ref b36)])) rfl (by rw [hml]; rfl) (Steps.refl _) (a := b36) (argsL := [(.ref b31)]) (rest := [(.ref b36)]) (lenOf pd_537 rfl) rfl (Nat.le_of_eq rfl) (hb hby at_105) (fun _ _ => ⟨rfl, e36, (by decide : 2 + 2 ≤ _), (by decide : 6 + 6 ≤ _)⟩)
        dsimp only [Pt.U, Pt.locs, Pt.cells, Pt.slots] at X38 l38 y38 z38 st38 hQ38
        subst l38 y38 z38
        obtain ⟨rfl, N38q, K38, Sp38⟩ := hQ38
        have O38 := O36.keep K38 (allS g_b36 all0)
        have KK38 := KK36.trans K38 (allS (Or.inr sz_b36) all0)
        have N38 := Fr.app NL37 N38q
        have hk38 := Nat.le_trans hk36 K38.1
        have CR38 := CR36.trans (CHr.keep K38 (allS (own_safe hZ.alike F_value_b36 A36) all0) CR36.1)
        obtain ⟨LL39, XL39, NL39⟩ := own_loose X38 N38
        obtain ⟨_, _, ⟨T40, L40, k40, n40⟩, -, X40, ⟨Lc40, hQ40, l40, y40, z40⟩, st40⟩ := Jvm.LawKit.callS XL39 hx hown (mvT hZ (own_h hw 56 rfl)) (mvT hZ (own_h hw 57 rfl)) (mvT hZ (own_h hw 2 rfl)) (mvT hZ (own_h hw 58 rfl)) (by decide) (backOf (W := 0) (rmTc l Z a0 hw [] r1 T38.heap n0 O38) hZ (own_h hw 58 rfl) (own_h hw 2 rfl) (by decide) (by decide)) (g := (mkF mm 145 #[.val (.int p0), .val (.int p1), .val (.int p2), .val (.int p3), .val (.int (p0 &&& (3 : Int32))), .val (.int r1), .val (.int r3), .val (.int r5), .val (.ref b31), .val (.ref b36), .unset] [(.int r1)])) rfl (by rw [hml]; rfl) (argsL := [(.int r1)]) (rest := []) (lenOf pd_539 rfl) rfl (Nat.le_of_eq rfl) (hb hby at_145) (fun _ _ => ⟨rfl, rfl, (by decide : 4 + 0 ≤ _), (by decide : 12 + 0 ≤ _)⟩)
        dsimp only [Pt.U, Pt.locs, Pt.cells, Pt.slots] at X40 l40 y40 z40 st40 hQ40
        subst l40 y40 z40
        obtain ⟨rfl, N40q, e40⟩ := hQ40
        have N40 := Fr.app NL39 N40q
        have pre41 := fun tg_ (k_ : Steps pg.tables ee below (T40.setTop (mkF mm 148 #[.val (.int p0), .val (.int p1), .val (.int p2), .val (.int p3), .val (.int (p0 &&& (3 : Int32))), .val (.int r1), .val (.int r3), .val (.int r5), .val (.ref b31), .val (.ref b36), .unset] [(.int (own_t r1))])) tg_) => pre29 tg_ (by
          show Steps pg.tables ee below (T5.setTop (mkF mm 58 #[.val (.int p0), .val (.int p1), .val (.int p2), .val (.int p3), .val (.int (p0 &&& (3 : Int32))), .val (.int r1), .val (.int r3), .val (.int r5), .unset, .unset, .unset] [(.int (2 : Int32)), (.int (p0 &&& (3 : Int32)))])) _
          refine XS.icmpNo X5.here hx rfl (hb hby at_58) rfl (teq hc30).2 ?_
          refine XS.iconst X5.here hx rfl (hb hby at_61) ?_
          refine st31 _ ?_
          refine XS.dup X31.here hx rfl (hb hby at_64) rfl rfl ?_
          show Steps pg.tables ee below (T31.setTop (mkF mm 65 #[.val (.int p0), .val (.int p1), .val (.int p2), .val (.int p3), .val (.int (p0 &&& (3 : Int32))), .val (.int r1), .val (.int r3), .val (.int r5), .unset, .unset, .unset] [(.ref b31), (.ref b31)])) _
          refine XS.iconst X31.here hx rfl (hb hby at_65) ?_
          refine XS.iload X31.here hx rfl (hb hby at_66) rfl ?_
          refine st33 _ ?_
          refine XS.dup X33.here hx rfl (hb hby at_69) rfl rfl ?_
          refine XS.iconst X33.here hx rfl (hb hby at_70) ?_
          refine XS.iload X33.here hx rfl (hb hby at_71) rfl ?_
          refine st35 _ ?_
          refine XS.astore X35.here hx rfl (hb hby at_74) rfl rfl (l' := #[.val (.int p0), .val (.int p1), .val (.int p2), .val (.int p3), .val (.int (p0 &&& (3 : Int32))), .val (.int r1), .val (.int r3), .val (.int r5), .val (.ref b31), .unset, .unset]) rfl ?_
          show Steps pg.tables ee below (T35.setTop (mkF mm 76 #[.val (.int p0), .val (.int p1), .val (.int p2), .val (.int p3), .val (.int (p0 &&& (3 : Int32))), .val (.int r1), .val (.int r3), .val (.int r5), .val (.ref b31), .unset, .unset] [])) _
          refine XS.goto X35.here hx rfl (pc0 := 76) (pc' := 99) rfl (hb hby at_76) (by decide) (by decide) ?_
          refine st36 _ ?_
          refine XS.dup X36.here hx rfl (hb hby at_102) rfl rfl ?_
          refine XS.aload X36.here hx rfl (hb hby at_103) rfl rfl ?_
          refine st38.trans ?_
          refine XS.astore X38.here hx rfl (hb hby at_108) rfl rfl (l' := #[.val (.int p0), .val (.int p1), .val (.int p2), .val (.int p3), .val (.int (p0 &&& (3 : Int32))), .val (.int r1), .val (.int r3), .val (.int r5), .val (.ref b31), .val (.ref b36), .unset]) rfl ?_
          refine XS.iload X38.here hx rfl (hb hby at_110) rfl ?_
          refine XS.ifYes X38.here hx rfl (pc0 := 112) (pc' := 121) rfl (hb hby at_112) rfl ((if0 _ _).trans (feq hc7).2) (by decide) (by decide) ?_
          show Steps pg.tables ee below (T38.setTop (mkF mm 121 #[.val (.int p0), .val (.int p1), .val (.int p2), .val (.int p3), .val (.int (p0 &&& (3 : Int32))), .val (.int r1), .val (.int r3), .val (.int r5), .val (.ref b31), .val (.ref b36), .unset] [])) _
          refine XS.iload X38.here hx rfl (hb hby at_121) rfl ?_
          refine XS.iconst X38.here hx rfl (hb hby at_123) ?_
          refine XS.icmpYes X38.here hx rfl (pc0 := 124) (pc' := 137) rfl (hb hby at_124) rfl (feq hc17).2 (by decide) (by decide) ?_
          refine XS.iload X38.here hx rfl (hb hby at_137) rfl ?_
          refine XS.iconst X38.here hx rfl (hb hby at_139) ?_
          refine XS.icmpNo X38.here hx rfl (hb hby at_140) rfl (teq hc30).2 ?_
          refine XS.iload X38.here hx rfl (hb hby at_143) rfl ?_
          refine st40 _ ?_
          exact k_)
        by_cases hc42 : (own_t r1) = (0 : Int32)
        · obtain ⟨LL43, XL43, NL43⟩ := own_loose X40 N40
          have pre44 := fun tg_ (k_ : Steps pg.tables ee below (T40.setTop (mkF mm 202 #[.val (.int p0), .val (.int p1), .val (.int p2), .val (.int p3), .val (.int (p0 &&& (3 : Int32))), .val (.int r1), .val (.int r3), .val (.int r5), .val (.ref b31), .val (.ref b36), .val (.int (0 : Int32))] [(.ref b36)])) tg_) => pre41 tg_ (by
            show Steps pg.tables ee below (T40.setTop (mkF mm 148 #[.val (.int p0), .val (.int p1), .val (.int p2), .val (.int p3), .val (.int (p0 &&& (3 : Int32))), .val (.int r1), .val (.int r3), .val (.int r5), .val (.ref b31), .val (.ref b36), .unset] [(.int (own_t r1))])) _
            refine XS.ifYes X40.here hx rfl (pc0 := 148) (pc' := 163) rfl (hb hby at_148) rfl ((if0 _ _).trans (teq hc42).1) (by decide) (by decide) ?_
            refine XS.iconst X40.here hx rfl (hb hby at_163) ?_
            refine XS.istore X40.here hx rfl (hb hby at_164) rfl (l' := #[.val (.int p0), .val (.int p1), .val (.int p2), .val (.int p3), .val (.int (p0 &&& (3 : Int32))), .val (.int r1), .val (.int r3), .val (.int r5), .val (.ref b31), .val (.ref b36), .val (.int (0 : Int32))]) rfl ?_
            refine XS.goto X40.here hx rfl (pc0 := 166) (pc' := 200) rfl (hb hby at_166) (by decide) (by decide) ?_
            refine XS.aload X40.here hx rfl (hb hby at_200) rfl rfl ?_
            exact k_)
          obtain ⟨_, _, ⟨T45, L45, k45, n45⟩, -, X45, hs45, hgr45, ⟨Lc45, hQ45, l45, y45, z45, CQ45⟩, st45⟩ := callSS XL43 hx (y := (⟨"com/example/waxwing/waxwing/http/Head", "token", "(Ljava/lang/String;)Z"⟩ : MethodName)) hown (mvT hZ (own_h hw 26 rfl)) (mvT hZ (own_h hw 27 rfl)) (mvT hZ (own_h hw 28 rfl)) (mvT hZ (own_h hw 29 rfl)) (by decide) (backOfSH (W := 0) (rmTk2 l Z a0 hw [] b36 r1 r3 cs fm T38.heap n0 O38 Sp38 hC hG hF hlo1 hhi1 hlo3 hhi3) hZ (own_h hw 29 rfl) (own_h hw 28 rfl) (by decide) (by decide) hEL CR38.1) (g := (mkF mm 202 #[.val (.int p0), .val (.int p1), .val (.int p2), .val (.int p3), .val (.int (p0 &&& (3 : Int32))), .val (.int r1), .val (.int r3), .val (.int r5), .val (.ref b31), .val (.ref b36), .val (.int (0 : Int32))] [(.ref b36)])) rfl (by rw [hml]; rfl) (argsL := [(.ref b36)]) (rest := []) (lenOf pd_538 rfl) rfl (Nat.le_of_eq rfl) (hb hby at_202) (fun _ _ => ⟨rfl, e40, (by decide : 4 + 4 ≤ _), (by decide : 12 + 128 ≤ _)⟩)
          dsimp only [Pt.U, Pt.locs, Pt.cells, Pt.slots] at X45 l45 y45 z45 st45 hQ45 hs45 hgr45 CQ45
          subst l45 y45 z45
          replace X45 := own_rebase (s := s) X45
          obtain ⟨rfl, N45q, K45⟩ := hQ45
          have hS45 : s.Since T45.vm T45.heap.size := State.Since.trans hS0 hs45 (Nat.le_trans (by rw [e40]; exact hk38) hgr45)
          have hown : (s.setVm T45.vm).vm.findClass "com/example/waxwing/waxwing/http/HeadTokenPinLaw" = some mm.cls := by rw [show (s.setVm T45.vm).vm = T45.vm from rfl, hs45.1.alike.findClass]; exact hown
          have hZ : Z.Warmed39 (s.setVm T45.vm).vm := State.Warmed39.trans hZ hs45.1
          have CR45 := CR38.trans CQ45
          have O45 := O38.keep K45 all0
          have KK45 := KK38.trans K45 all0
          have N45 := Fr.app NL43 N45q
          obtain ⟨fs, hr, hrun, hended, hRW⟩ := X45.leaveW hS45 (Nat.le_refl _) (v := some (.int (1 : Int32))) (fun h => by rw [Bd.returns] at h; cases h)
          refine ⟨_, _, pre44 _ ?_, hrun, hended, _, _, rfl, ?_, (own_rmono hRW (by decide) (by decide))⟩
          · refine st45.trans ?_
            refine XS.iload X45.here hx rfl (hb hby at_205) rfl ?_
            refine XS.icmpNo X45.here hx rfl (hb hby at_207) rfl (teq (if_pos hc42)).2 ?_
            show Steps pg.tables ee below (T45.setTop (mkF mm 210 #[.val (.int p0), .val (.int p1), .val (.int p2), .val (.int p3), .val (.int (p0 &&& (3 : Int32))), .val (.int r1), .val (.int r3), .val (.int r5), .val (.ref b31), .val (.ref b36), .val (.int (0 : Int32))] [])) _
            refine XS.iconst X45.here hx rfl (hb hby at_210) ?_
            refine XS.goto X45.here hx rfl (pc0 := 211) (pc' := 215) rfl (hb hby at_211) (by decide) (by decide) ?_
            exact retN X45 hx (t := .boolean) Bd.returns (by simp) (hb hby at_215) hr
          · show Qrm0 Z p0 p1 p2 p3 cs fm h0 n0 _ T45.heap _
            exact ⟨rfl, N45⟩
        · obtain ⟨LL46, XL46, NL46⟩ := own_loose X40 N40
          obtain ⟨_, _, ⟨T47, L47, k47, n47⟩, -, X47, ⟨Lc47, hQ47, l47, y47, z47⟩, st47⟩ := Jvm.LawKit.callS XL46 hx hown (mvT hZ (own_h hw 56 rfl)) (mvT hZ (own_h hw 57 rfl)) (mvT hZ (own_h hw 2 rfl)) (mvT hZ (own_h hw 58 rfl)) (by decide) (backOf (W := 0) (rmTc l Z a0 hw [] r3 T38.heap n0 O38) hZ (own_h hw 58 rfl) (own_h hw 2 rfl) (by decide) (by decide)) (g := (mkF mm 153 #[.val (.int p0), .val (.int p1), .val (.int p2), .val (.int p3), .val (.int (p0 &&& (3 : Int32))), .val (.int r1), .val (.int r3), .val (.int r5), .val (.ref b31), .val (.ref b36), .unset] [(.int r3)])) rfl (by rw [hml]; rfl) (argsL := [(.int r3)]) (rest := []) (lenOf pd_539 rfl) rfl (Nat.le_of_eq rfl) (hb hby at_153) (fun _ _ => ⟨rfl, e40, (by decide : 4 + 0 ≤ _), (by decide : 12 + 0 ≤ _)⟩)
          dsimp only [Pt.U, Pt.locs, Pt.cells, Pt.slots] at X47 l47 y47 z47 st47 hQ47
          subst l47 y47 z47
          obtain ⟨rfl, N47q, e47⟩ := hQ47
          have N47 := Fr.app NL46 N47q
          have pre48 := fun tg_ (k_ : Steps pg.tables ee below (T47.setTop (mkF mm 156 #[.val (.int p0), .val (.int p1), .val (.int p2), .val (.int p3), .val (.int (p0 &&& (3 : Int32))), .val (.int r1), .val (.int r3), .val (.int r5), .val (.ref b31), .val (.ref b36), .unset] [(.int (own_t r3))])) tg_) => pre41 tg_ (by
            show Steps pg.tables ee below (T40.setTop (mkF mm 148 #[.val (.int p0), .val (.int p1), .val (.int p2), .val (.int p3), .val (.int (p0 &&& (3 : Int32))), .val (.int r1), .val (.int r3), .val (.int r5), .val (.ref b31), .val (.ref b36), .unset] [(.int (own_t r1))])) _
            refine XS.ifNo X40.here hx rfl (hb hby at_148) rfl ((if0 _ _).trans (feq hc42).1) ?_
            refine XS.iload X40.here hx rfl (hb hby at_151) rfl ?_
            refine st47 _ ?_
            exact k_)
          by_cases hc49 : (own_t r3) = (0 : Int32)
          · obtain ⟨LL50, XL50, NL50⟩ := own_loose X47 N47
            have pre51 := fun tg_ (k_ : Steps pg.tables ee below (T47.setTop (mkF mm 202 #[.val (.int p0), .val (.int p1), .val (.int p2), .val (.int p3), .val (.int (p0 &&& (3 : Int32))), .val (.int r1), .val (.int r3), .val (.int r5), .val (.ref b31), .val (.ref b36), .val (.int (0 : Int32))] [(.ref b36)])) tg_) => pre48 tg_ (by
              show Steps pg.tables ee below (T47.setTop (mkF mm 156 #[.val (.int p0), .val (.int p1), .val (.int p2), .val (.int p3), .val (.int (p0 &&& (3 : Int32))), .val (.int r1), .val (.int r3), .val (.int r5), .val (.ref b31), .val (.ref b36), .unset] [(.int (own_t r3))])) _
              refine XS.ifYes X47.here hx rfl (pc0 := 156) (pc' := 163) rfl (hb hby at_156) rfl ((if0 _ _).trans (teq hc49).1) (by decide) (by decide) ?_
              refine XS.iconst X47.here hx rfl (hb hby at_163) ?_
              refine XS.istore X47.here hx rfl (hb hby at_164) rfl (l' := #[.val (.int p0), .val (.int p1), .val (.int p2), .val (.int p3), .val (.int (p0 &&& (3 : Int32))), .val (.int r1), .val (.int r3), .val (.int r5), .val (.ref b31), .val (.ref b36), .val (.int (0 : Int32))]) rfl ?_
              refine XS.goto X47.here hx rfl (pc0 := 166) (pc' := 200) rfl (hb hby at_166) (by decide) (by decide) ?_
              refine XS.aload X47.here hx rfl (hb hby at_200) rfl rfl ?_
              show Steps pg.tables ee below (T47.setTop (mkF mm 202 #[.val (.int p0), .val (.int p1), .val (.int p2), .val (.int p3), .val (.int (p0 &&& (3 : Int32))), .val (.int r1), .val (.int r3), .val (.int r5), .val (.ref b31), .val (.ref b36), .val (.int (0 : Int32))] [(.ref b36)])) _
              exact k_)
            obtain ⟨_, _, ⟨T52, L52, k52, n52⟩, -, X52, hs52, hgr52, ⟨Lc52, hQ52, l52, y52, z52, CQ52⟩, st52⟩ := callSS XL50 hx (y := (⟨"com/example/waxwing/waxwing/http/Head", "token", "(Ljava/lang/String;)Z"⟩ : MethodName)) hown (mvT hZ (own_h hw 26 rfl)) (mvT hZ (own_h hw 27 rfl)) (mvT hZ (own_h hw 28 rfl)) (mvT hZ (own_h hw 29 rfl)) (by decide) (backOfSH (W := 0) (rmTk2 l Z a0 hw [] b36 r1 r3 cs fm T38.heap n0 O38 Sp38 hC hG hF hlo1 hhi1 hlo3 hhi3) hZ (own_h hw 29 rfl) (own_h hw 28 rfl) (by decide) (by decide) hEL CR38.1) (g := (mkF mm 202 #[.val (.int p0), .val (.int p1), .val (.int p2), .val (.int p3), .val (.int (p0 &&& (3 : Int32))), .val (.int r1), .val (.int r3), .val (.int r5), .val (.ref b31), .val (.ref b36), .val (.int (0 : Int32))] [(.ref b36)])) rfl (by rw [hml]; rfl) (argsL := [(.ref b36)]) (rest := []) (lenOf pd_538 rfl) rfl (Nat.le_of_eq rfl) (hb hby at_202) (fun _ _ => ⟨rfl, e47, (by decide : 4 + 4 ≤ _), (by decide : 12 + 128 ≤ _)⟩)
            dsimp only [Pt.U, Pt.locs, Pt.cells, Pt.slots] at X52 l52 y52 z52 st52 hQ52 hs52 hgr52 CQ52
            subst l52 y52 z52
            replace X52 := own_rebase (s := s) X52
            obtain ⟨rfl, N52q, K52⟩ := hQ52
            have hS52 : s.Since T52.vm T52.heap.size := State.Since.trans hS0 hs52 (Nat.le_trans (by rw [e47]; exact hk38) hgr52)
            have hown : (s.setVm T52.vm).vm.findClass "com/example/waxwing/waxwing/http/HeadTokenPinLaw" = some mm.cls := by rw [show (s.setVm T52.vm).vm = T52.vm from rfl, hs52.1.alike.findClass]; exact hown
            have hZ : Z.Warmed39 (s.setVm T52.vm).vm := State.Warmed39.trans hZ hs52.1
            have CR52 := CR38.trans CQ52
            have O52 := O38.keep K52 all0
            have KK52 := KK38.trans K52 all0
            have N52 := Fr.app NL50 N52q
            obtain ⟨fs, hr, hrun, hended, hRW⟩ := X52.leaveW hS52 (Nat.le_refl _) (v := some (.int (1 : Int32))) (fun h => by rw [Bd.returns] at h; cases h)
            refine ⟨_, _, pre51 _ ?_, hrun, hended, _, _, rfl, ?_, (own_rmono hRW (by decide) (by decide))⟩
            · refine st52.trans ?_
              refine XS.iload X52.here hx rfl (hb hby at_205) rfl ?_
              refine XS.icmpNo X52.here hx rfl (hb hby at_207) rfl (teq (Eq.trans (if_neg hc42) hc49)).2 ?_
              refine XS.iconst X52.here hx rfl (hb hby at_210) ?_
              refine XS.goto X52.here hx rfl (pc0 := 211) (pc' := 215) rfl (hb hby at_211) (by decide) (by decide) ?_
              exact retN X52 hx (t := .boolean) Bd.returns (by simp) (hb hby at_215) hr
            · show Qrm0 Z p0 p1 p2 p3 cs fm h0 n0 _ T52.heap _
              exact ⟨rfl, N52⟩
          · obtain ⟨LL53, XL53, NL53⟩ := own_loose X47 N47
            have pre54 := fun tg_ (k_ : Steps pg.tables ee below (T47.setTop (mkF mm 202 #[.val (.int p0), .val (.int p1), .val (.int p2), .val (.int p3), .val (.int (p0 &&& (3 : Int32))), .val (.int r1), .val (.int r3), .val (.int r5), .val (.ref b31), .val (.ref b36), .val (.int (1 : Int32))] [(.ref b36)])) tg_) => pre48 tg_ (by
              show Steps pg.tables ee below (T47.setTop (mkF mm 156 #[.val (.int p0), .val (.int p1), .val (.int p2), .val (.int p3), .val (.int (p0 &&& (3 : Int32))), .val (.int r1), .val (.int r3), .val (.int r5), .val (.ref b31), .val (.ref b36), .unset] [(.int (own_t r3))])) _
              refine XS.ifNo X47.here hx rfl (hb hby at_156) rfl ((if0 _ _).trans (feq hc49).1) ?_
              refine XS.iconst X47.here hx rfl (hb hby at_159) ?_
              refine XS.goto X47.here hx rfl (pc0 := 160) (pc' := 164) rfl (hb hby at_160) (by decide) (by decide) ?_
              refine XS.istore X47.here hx rfl (hb hby at_164) rfl (l' := #[.val (.int p0), .val (.int p1), .val (.int p2), .val (.int p3), .val (.int (p0 &&& (3 : Int32))), .val (.int r1), .val (.int r3), .val (.int r5), .val (.ref b31), .val (.ref b36), .val (.int (1 : Int32))]) rfl ?_
              refine XS.goto X47.here hx rfl (pc0 := 166) (pc' := 200) rfl (hb hby at_166) (by decide) (by decide) ?_
              show Steps pg.tables ee below (T47.setTop (mkF mm 200 #[.val (.int p0), .val (.int p1), .val (.int p2), .val (.int p3), .val (.int (p0 &&& (3 : Int32))), .val (.int r1), .val (.int r3), .val (.int r5), .val (.ref b31), .val (.ref b36), .val (.int (1 : Int32))] [])) _
              refine XS.aload X47.here hx rfl (hb hby at_200) rfl rfl ?_
              exact k_)
            obtain ⟨_, _, ⟨T55, L55, k55, n55⟩, -, X55, hs55, hgr55, ⟨Lc55, hQ55, l55, y55, z55, CQ55⟩, st55⟩ := callSS XL53 hx (y := (⟨"com/example/waxwing/waxwing/http/Head", "token", "(Ljava/lang/String;)Z"⟩ : MethodName)) hown (mvT hZ (own_h hw 26 rfl)) (mvT hZ (own_h hw 27 rfl)) (mvT hZ (own_h hw 28 rfl)) (mvT hZ (own_h hw 29 rfl)) (by decide) (backOfSH (W := 0) (rmTk2 l Z a0 hw [] b36 r1 r3 cs fm T38.heap n0 O38 Sp38 hC hG hF hlo1 hhi1 hlo3 hhi3) hZ (own_h hw 29 rfl) (own_h hw 28 rfl) (by decide) (by decide) hEL CR38.1) (g := (mkF mm 202 #[.val (.int p0), .val (.int p1), .val (.int p2), .val (.int p3), .val (.int (p0 &&& (3 : Int32))), .val (.int r1), .val (.int r3), .val (.int r5), .val (.ref b31), .val (.ref b36), .val (.int (1 : Int32))] [(.ref b36)])) rfl (by rw [hml]; rfl) (argsL := [(.ref b36)]) (rest := []) (lenOf pd_538 rfl) rfl (Nat.le_of_eq rfl) (hb hby at_202) (fun _ _ => ⟨rfl, e47, (by decide : 4 + 4 ≤ _), (by decide : 12 + 128 ≤ _)⟩)
            dsimp only [Pt.U, Pt.locs, Pt.cells, Pt.slots] at X55 l55 y55 z55 st55 hQ55 hs55 hgr55 CQ55
            subst l55 y55 z55
            replace X55 := own_rebase (s := s) X55
            obtain ⟨rfl, N55q, K55⟩ := hQ55
            have hS55 : s.Since T55.vm T55.heap.size := State.Since.trans hS0 hs55 (Nat.le_trans (by rw [e47]; exact hk38) hgr55)
            have hown : (s.setVm T55.vm).vm.findClass "com/example/waxwing/waxwing/http/HeadTokenPinLaw" = some mm.cls := by rw [show (s.setVm T55.vm).vm = T55.vm from rfl, hs55.1.alike.findClass]; exact hown
            have hZ : Z.Warmed39 (s.setVm T55.vm).vm := State.Warmed39.trans hZ hs55.1
            have CR55 := CR38.trans CQ55
            have O55 := O38.keep K55 all0
            have KK55 := KK38.trans K55 all0
            have N55 := Fr.app NL53 N55q
            obtain ⟨fs, hr, hrun, hended, hRW⟩ := X55.leaveW hS55 (Nat.le_refl _) (v := some (.int (1 : Int32))) (fun h => by rw [Bd.returns] at h; cases h)
            refine ⟨_, _, pre54 _ ?_, hrun, hended, _, _, rfl, ?_, (own_rmono hRW (by decide) (by decide))⟩
            · refine st55.trans ?_
              refine XS.iload X55.here hx rfl (hb hby at_205) rfl ?_
              refine XS.icmpNo X55.here hx rfl (hb hby at_207) rfl (teq (Eq.trans (if_neg hc42) (own_t1 hc49))).2 ?_
              refine XS.iconst X55.here hx rfl (hb hby at_210) ?_
              refine XS.goto X55.here hx rfl (pc0 := 211) (pc' := 215) rfl (hb hby at_211) (by decide) (by decide) ?_
              exact retN X55 hx (t := .boolean) Bd.returns (by simp) (hb hby at_215) hr
            · show Qrm0 Z p0 p1 p2 p3 cs fm h0 n0 _ T55.heap _
              exact ⟨rfl, N55⟩
      · obtain ⟨T56, h56, k56, X56, e56, E56, A56, st56⟩ := newP X5 hx hZ (own_h hw 4 rfl) e5 (g := (mkF mm 80 #[.val (.int p0), .val (.int p1), .val (.int p2), .val (.int p3), .val (.int (p0 &&& (3 : Int32))), .val (.int r1), .val (.int r3), .val (.int r5), .unset, .unset, .unset] [(.int (3 : Int32))])) rfl (hb hby at_80) rfl (by decide) (cap := 3) (by decide) (by decide) (by decide) (by decide)
        obtain ⟨b56, g56⟩ : ∃ z, z = h0.size := ⟨_, rfl⟩
        rw [← g56] at A56 st56
        have g_b56 : n0 ≤ b56 := Nat.le_trans (O0.1 ▸ O0.2.1) (Nat.le_of_eq g56.symm)
        have sz_b56 : h0.size ≤ b56 := Nat.le_trans K0.1 (Nat.le_of_eq g56.symm)
        have O56 := O0.ext E56
        have KK56 := K0.ext E56
        have hk56 := Nat.le_trans (Nat.zero_le _) E56.1
        have CR56 := CR0.trans (CHr.ext E56 CR0.1)
        have V56 : Arv Z h56 b56 k56 .char (3 : Int32) [(.int (0 : Int32)), (.int (0 : Int32)), (.int (0 : Int32))] (.int (0 : Int32)) := (Arv.new A56 (by decide)).pad (pad_rep [] (.int (0 : Int32)) 3)
        obtain ⟨cl57, Ar57, qk57, Sz57, Nn57, Hh57, Gg57⟩ := id V56
        have hin57 : ¬ ((0 : Int32) < 0 ∨ cl57.slots.size ≤ ((0 : Int32)).toNatClampNeg) := inb_of Sz57 ⟨by decide, by decide⟩
        obtain ⟨T58, h58, X58, e58, W58, st58⟩ := stC X56 hx hZ e56 Ar57 (j := (0 : Int32)) hin57 (g := (mkF mm 86 #[.val (.int p0), .val (.int p1), .val (.int p2), .val (.int p3), .val (.int (p0 &&& (3 : Int32))), .val (.int r1), .val (.int r3), .val (.int r5), .unset, .unset, .unset] [(.int r1), (.int (0 : Int32)), (.ref b56), (.ref b56)])) rfl rfl (hb hby at_86)
        have V58 : Arv Z h58 b56 k56 .char (3 : Int32) [(.int (nar .char r1)), (.int (0 : Int32)), (.int (0 : Int32))] (.int (0 : Int32)) := Arv.set Ar57 qk57 Sz57 Nn57 Hh57 Gg57 (fits_nar_char _) W58 0 rfl (Nat.le_of_ble_eq_true rfl)
        rw [own_nc hlo1 hhi1] at V58
        have CR58 := CR56.trans (CHr.wr W58 (Safe.arr hZ.alike Ar57 (by decide)) CR56.1)
        have N58 := Fr.snoc X58 N5 g_b56
        have O58 := O56.wr W58 g_b56
        have KK58 := KK56.wr W58 (Or.inr sz_b56)
        have hk58 := Nat.le_trans hk56 (Nat.le_of_eq W58.size.symm)
        obtain ⟨cl59, Ar59, qk59, Sz59, Nn59, Hh59, Gg59⟩ := id V58
        have hin59 : ¬ ((1 : Int32) < 0 ∨ cl59.slots.size ≤ ((1 : Int32)).toNatClampNeg) := inb_of Sz59 ⟨by decide, by decide⟩
        obtain ⟨T60, h60, X60, e60, W60, st60⟩ := stC X58 hx hZ e58 Ar59 (j := (1 : Int32)) hin59 (g := (mkF mm 91 #[.val (.int p0), .val (.int p1), .val (.int p2), .val (.int p3), .val (.int (p0 &&& (3 : Int32))), .val (.int r1), .val (.int r3), .val (.int r5), .unset, .unset, .unset] [(.int r3), (.int (1 : Int32)), (.ref b56), (.ref b56)])) rfl rfl (hb hby at_91)
        have V60 : Arv Z h60 b56 k56 .char (3 : Int32) [(.int r1), (.int (nar .char r3)), (.int (0 : Int32))] (.int (0 : Int32)) := Arv.set Ar59 qk59 Sz59 Nn59 Hh59 Gg59 (fits_nar_char _) W60 1 rfl (Nat.le_of_ble_eq_true rfl)
        rw [own_nc hlo3 hhi3] at V60
        have CR60 := CR58.trans (CHr.wr W60 (Safe.arr hZ.alike Ar59 (by decide)) CR58.1)
        have N60 := Fr.snoc X60 N58 g_b56
        have O60 := O58.wr W60 g_b56
        have KK60 := KK58.wr W60 (Or.inr sz_b56)
        have hk60 := Nat.le_trans hk58 (Nat.le_of_eq W60.size.symm)
        obtain ⟨cl61, Ar61, qk61, Sz61, Nn61, Hh61, Gg61⟩ := id V60
        have hin61 : ¬ ((2 : Int32) < 0 ∨ cl61.slots.size ≤ ((2 : Int32)).toNatClampNeg) := inb_of Sz61 ⟨by decide, by decide⟩
        obtain ⟨T62, h62, X62, e62, W62, st62⟩ := stC X60 hx hZ e60 Ar61 (j := (2 : Int32)) hin61 (g := (mkF mm 96 #[.val (.int p0), .val (.int p1), .val (.int p2), .val (.int p3), .val (.int (p0 &&& (3 : Int32))), .val (.int r1), .val (.int r3), .val (.int r5), .unset, .unset, .unset] [(.int r5), (.int (2 : Int32)), (.ref b56), (.ref b56)])) rfl rfl (hb hby at_96)
        have V62 : Arv Z h62 b56 k56 .char (3 : Int32) [(.int r1), (.int r3), (.int (nar .char r5))] (.int (0 : Int32)) := Arv.set Ar61 qk61 Sz61 Nn61 Hh61 Gg61 (fits_nar_char _) W62 2 rfl (Nat.le_of_ble_eq_true rfl)
        rw [own_nc hlo5 hhi5] at V62
        have CR62 := CR60.trans (CHr.wr W62 (Safe.arr hZ.alike Ar61 (by decide)) CR60.1)
        have N62 := Fr.snoc X62 N60 g_b56
        have O62 := O60.wr W62 g_b56
        have KK62 := KK60.wr W62 (Or.inr sz_b56)
        have hk62 := Nat.le_trans hk60 (Nat.le_of_eq W62.size.symm)
        obtain ⟨T63, h63, X63, e63, E63, A63, D63, -, st63⟩ := newO X62 hx hZ hown (own_h hw 5 rfl) (own_h hw 6 rfl) (own_h hw 7 rfl) e62 (g := (mkF mm 99 #[.val (.int p0), .val (.int p1), .val (.int p2), .val (.int p3), .val (.int (p0 &&& (3 : Int32))), .val (.int r1), .val (.int r3), .val (.int r5), .val (.ref b56), .unset, .unset] [])) rfl (hb hby at_99) (by decide) (by decide)
        obtain ⟨b63, g63⟩ : ∃ z, z = h62.size := ⟨_, rfl⟩
        rw [← g63] at A63 D63 st63
        have g_b63 : n0 ≤ b63 := Nat.le_trans (O62.1 ▸ O62.2.1) (Nat.le_of_eq g63.symm)
        have sz_b63 : h0.size ≤ b63 := Nat.le_trans KK62.1 (Nat.le_of_eq g63.symm)
        have O63 := O62.ext E63
        have KK63 := KK62.ext E63
        have hk63 := Nat.le_trans hk62 E63.1
        have CR63 := CR62.trans (CHr.ext E63 CR62.1)
        have F_value_b63 : Fld Z h63 b63 "java/lang/String" "value" "[B" .null := D63 (Or.inr (own_h hw 20 rfl)) (ty := (.array .byte)) (by decide)
        have F_coder_b63 : Fld Z h63 b63 "java/lang/String" "coder" "B" (.int (0 : Int32)) := D63 (Or.inr (own_h hw 21 rfl)) (ty := .byte) (by decide)
        obtain ⟨LL64, XL64, NL64⟩ := own_loose X63 N62
        obtain ⟨_, _, ⟨T65, L65, k65, n65⟩, -, X65, ⟨Lc65, hQ65, l65, y65, z65⟩, st65⟩ := XL64.specialBack hx rfl hown (mvT hZ (own_h hw 8 rfl)) (mvT hZ (own_h hw 9 rfl)) (mvT hZ (own_h hw 10 rfl)) (by decide) (backOf (W := 1) (rmC3 l Z a0 hw [] b63 b56 k56 r1 r3 r5 cs h63 n0 O63 A63 F_value_b63 F_coder_b63 g_b63 (V62.ext E63) (Nat.ne_of_lt (Nat.lt_of_lt_of_le V62.lt (Nat.le_of_eq g63.symm))) hC hlo1 hhi1 hlo3 hhi3 hlo5 hhi5 hG) hZ (own_h hw 10 rfl) (own_h hw 7 rfl) (by decide) (by decide)) (g := (mkF mm 105 #[.val (.int p0), .val (.int p1), .val (.int p2), .val (.int p3), .val (.int (p0 &&& (3 : Int32))), .val (.int r1), .val (.int r3), .val (.int r5), .val (.ref b56), .unset, .unset] [(.ref b56), (.ref b63), (.ref b63)])) rfl (by rw [hml]; rfl) (Steps.refl _) (a := b63) (argsL := [(.ref b56)]) (rest := [(.ref b63)]) (lenOf pd_537 rfl) rfl (Nat.le_of_eq rfl) (hb hby at_105) (fun _ _ => ⟨rfl, e63, (by decide : 2 + 2 ≤ _), (by decide : 7 + 9 ≤ _)⟩)
        dsimp only [Pt.U, Pt.locs, Pt.cells, Pt.slots] at X65 l65 y65 z65 st65 hQ65
        subst l65 y65 z65
        obtain ⟨rfl, N65q, K65, Sp65⟩ := hQ65
        have O65 := O63.keep K65 (allS g_b63 all0)
        have KK65 := KK63.trans K65 (allS (Or.inr sz_b63) all0)
        have N65 := Fr.app NL64 N65q
        have hk65 := Nat.le_trans hk63 K65.1
        have CR65 := CR63.trans (CHr.keep K65 (allS (own_safe hZ.alike F_value_b63 A63) all0) CR63.1)
        obtain ⟨LL66, XL66, NL66⟩ := own_loose X65 N65
        obtain ⟨_, _, ⟨T67, L67, k67, n67⟩, -, X67, ⟨Lc67, hQ67, l67, y67, z67⟩, st67⟩ := Jvm.LawKit.callS XL66 hx hown (mvT hZ (own_h hw 56 rfl)) (mvT hZ (own_h hw 57 rfl)) (mvT hZ (own_h hw 2 rfl)) (mvT hZ (own_h hw 58 rfl)) (by decide) (backOf (W := 0) (rmTc l Z a0 hw [] r1 T65.heap n0 O65) hZ (own_h hw 58 rfl) (own_h hw 2 rfl) (by decide) (by decide)) (g := (mkF mm 171 #[.val (.int p0), .val (.int p1), .val (.int p2), .val (.int p3), .val (.int (p0 &&& (3 : Int32))), .val (.int r1), .val (.int r3), .val (.int r5), .val (.ref b56), .val (.ref b63), .unset] [(.int r1)])) rfl (by rw [hml]; rfl) (argsL := [(.int r1)]) (rest := []) (lenOf pd_539 rfl) rfl (Nat.le_of_eq rfl) (hb hby at_171) (fun _ _ => ⟨rfl, rfl, (by decide : 4 + 0 ≤ _), (by decide : 16 + 0 ≤ _)⟩)
        dsimp only [Pt.U, Pt.locs, Pt.cells, Pt.slots] at X67 l67 y67 z67 st67 hQ67
        subst l67 y67 z67
        obtain ⟨rfl, N67q, e67⟩ := hQ67
        have N67 := Fr.app NL66 N67q
        have pre68 := fun tg_ (k_ : Steps pg.tables ee below (T67.setTop (mkF mm 174 #[.val (.int p0), .val (.int p1), .val (.int p2), .val (.int p3), .val (.int (p0 &&& (3 : Int32))), .val (.int r1), .val (.int r3), .val (.int r5), .val (.ref b56), .val (.ref b63), .unset] [(.int (own_t r1))])) tg_) => pre29 tg_ (by
          show Steps pg.tables ee below (T5.setTop (mkF mm 58 #[.val (.int p0), .val (.int p1), .val (.int p2), .val (.int p3), .val (.int (p0 &&& (3 : Int32))), .val (.int r1), .val (.int r3), .val (.int r5), .unset, .unset, .unset] [(.int (2 : Int32)), (.int (p0 &&& (3 : Int32)))])) _
          refine XS.icmpYes X5.here hx rfl (pc0 := 58) (pc' := 79) rfl (hb hby at_58) rfl (feq hc30).2 (by decide) (by decide) ?_
          refine XS.iconst X5.here hx rfl (hb hby at_79) ?_
          refine st56 _ ?_
          refine XS.dup X56.here hx rfl (hb hby at_82) rfl rfl ?_
          show Steps pg.tables ee below (T56.setTop (mkF mm 83 #[.val (.int p0), .val (.int p1), .val (.int p2), .val (.int p3), .val (.int (p0 &&& (3 : Int32))), .val (.int r1), .val (.int r3), .val (.int r5), .unset, .unset, .unset] [(.ref b56), (.ref b56)])) _
          refine XS.iconst X56.here hx rfl (hb hby at_83) ?_
          refine XS.iload X56.here hx rfl (hb hby at_84) rfl ?_
          refine st58 _ ?_
          refine XS.dup X58.here hx rfl (hb hby at_87) rfl rfl ?_
          refine XS.iconst X58.here hx rfl (hb hby at_88) ?_
          refine XS.iload X58.here hx rfl (hb hby at_89) rfl ?_
          refine st60 _ ?_
          refine XS.dup X60.here hx rfl (hb hby at_92) rfl rfl ?_
          show Steps pg.tables ee below (T60.setTop (mkF mm 93 #[.val (.int p0), .val (.int p1), .val (.int p2), .val (.int p3), .val (.int (p0 &&& (3 : Int32))), .val (.int r1), .val (.int r3), .val (.int r5), .unset, .unset, .unset] [(.ref b56), (.ref b56)])) _
          refine XS.iconst X60.here hx rfl (hb hby at_93) ?_
          refine XS.iload X60.here hx rfl (hb hby at_94) rfl ?_
          refine st62 _ ?_
          refine XS.astore X62.here hx rfl (hb hby at_97) rfl rfl (l' := #[.val (.int p0), .val (.int p1), .val (.int p2), .val (.int p3), .val (.int (p0 &&& (3 : Int32))), .val (.int r1), .val (.int r3), .val (.int r5), .val (.ref b56), .unset, .unset]) rfl ?_
          refine st63 _ ?_
          refine XS.dup X63.here hx rfl (hb hby at_102) rfl rfl ?_
          refine XS.aload X63.here hx rfl (hb hby at_103) rfl rfl ?_
          refine st65.trans ?_
          show Steps pg.tables ee below (T65.setTop (mkF mm 108 #[.val (.int p0), .val (.int p1), .val (.int p2), .val (.int p3), .val (.int (p0 &&& (3 : Int32))), .val (.int r1), .val (.int r3), .val (.int r5), .val (.ref b56), .unset, .unset] [(.ref b63)])) _
          refine XS.astore X65.here hx rfl (hb hby at_108) rfl rfl (l' := #[.val (.int p0), .val (.int p1), .val (.int p2), .val (.int p3), .val (.int (p0 &&& (3 : Int32))), .val (.int r1), .val (.int r3), .val (.int r5), .val (.ref b56), .val (.ref b63), .unset]) rfl ?_
          refine XS.iload X65.here hx rfl (hb hby at_110) rfl ?_
          refine XS.ifYes X65.here hx rfl (pc0 := 112) (pc' := 121) rfl (hb hby at_112) rfl ((if0 _ _).trans (feq hc7).2) (by decide) (by decide) ?_
          refine XS.iload X65.here hx rfl (hb hby at_121) rfl ?_
          refine XS.iconst X65.here hx rfl (hb hby at_123) ?_
          refine XS.icmpYes X65.here hx rfl (pc0 := 124) (pc' := 137) rfl (hb hby at_124) rfl (feq hc17).2 (by decide) (by decide) ?_
          refine XS.iload X65.here hx rfl (hb hby at_137) rfl ?_
          refine XS.iconst X65.here hx rfl (hb hby at_139) ?_
          show Steps pg.tables ee below (T65.setTop (mkF mm 140 #[.val (.int p0), .val (.int p1), .val (.int p2), .val (.int p3), .val (.int (p0 &&& (3 : Int32))), .val (.int r1), .val (.int r3), .val (.int r5), .val (.ref b56), .val (.ref b63), .unset] [(.int (2 : Int32)), (.int (p0 &&& (3 : Int32)))])) _
          refine XS.icmpYes X65.here hx rfl (pc0 := 140) (pc' := 169) rfl (hb hby at_140) rfl (feq hc30).2 (by decide) (by decide) ?_
          refine XS.iload X65.here hx rfl (hb hby at_169) rfl ?_
          refine st67 _ ?_
          exact k_)
        by_cases hc69 : (own_t r1) = (0 : Int32)
        · obtain ⟨LL70, XL70, NL70⟩ := own_loose X67 N67
          have pre71 := fun tg_ (k_ : Steps pg.tables ee below (T67.setTop (mkF mm 202 #[.val (.int p0), .val (.int p1), .val (.int p2), .val (.int p3), .val (.int (p0 &&& (3 : Int32))), .val (.int r1), .val (.int r3), .val (.int r5), .val (.ref b56), .val (.ref b63), .val (.int (0 : Int32))] [(.ref b63)])) tg_) => pre68 tg_ (by
            show Steps pg.tables ee below (T67.setTop (mkF mm 174 #[.val (.int p0), .val (.int p1), .val (.int p2), .val (.int p3), .val (.int (p0 &&& (3 : Int32))), .val (.int r1), .val (.int r3), .val (.int r5), .val (.ref b56), .val (.ref b63), .unset] [(.int (own_t r1))])) _
            refine XS.ifYes X67.here hx rfl (pc0 := 174) (pc' := 197) rfl (hb hby at_174) rfl ((if0 _ _).trans (teq hc69).1) (by decide) (by decide) ?_
            refine XS.iconst X67.here hx rfl (hb hby at_197) ?_
            refine XS.istore X67.here hx rfl (hb hby at_198) rfl (l' := #[.val (.int p0), .val (.int p1), .val (.int p2), .val (.int p3), .val (.int (p0 &&& (3 : Int32))), .val (.int r1), .val (.int r3), .val (.int r5), .val (.ref b56), .val (.ref b63), .val (.int (0 : Int32))]) rfl ?_
            refine XS.aload X67.here hx rfl (hb hby at_200) rfl rfl ?_
            exact k_)
          obtain ⟨_, _, ⟨T72, L72, k72, n72⟩, -, X72, hs72, hgr72, ⟨Lc72, hQ72, l72, y72, z72, CQ72⟩, st72⟩ := callSS XL70 hx (y := (⟨"com/example/waxwing/waxwing/http/Head", "token", "(Ljava/lang/String;)Z"⟩ : MethodName)) hown (mvT hZ (own_h hw 26 rfl)) (mvT hZ (own_h hw 27 rfl)) (mvT hZ (own_h hw 28 rfl)) (mvT hZ (own_h hw 29 rfl)) (by decide) (backOfSH (W := 0) (rmTk3 l Z a0 hw [] b63 r1 r3 r5 cs fm T65.heap n0 O65 Sp65 hC hG hF hlo1 hhi1 hlo3 hhi3 hlo5 hhi5) hZ (own_h hw 29 rfl) (own_h hw 28 rfl) (by decide) (by decide) hEL CR65.1) (g := (mkF mm 202 #[.val (.int p0), .val (.int p1), .val (.int p2), .val (.int p3), .val (.int (p0 &&& (3 : Int32))), .val (.int r1), .val (.int r3), .val (.int r5), .val (.ref b56), .val (.ref b63), .val (.int (0 : Int32))] [(.ref b63)])) rfl (by rw [hml]; rfl) (argsL := [(.ref b63)]) (rest := []) (lenOf pd_538 rfl) rfl (Nat.le_of_eq rfl) (hb hby at_202) (fun _ _ => ⟨rfl, e67, (by decide : 4 + 6 ≤ _), (by decide : 16 + 192 ≤ _)⟩)
          dsimp only [Pt.U, Pt.locs, Pt.cells, Pt.slots] at X72 l72 y72 z72 st72 hQ72 hs72 hgr72 CQ72
          subst l72 y72 z72
          replace X72 := own_rebase (s := s) X72
          obtain ⟨rfl, N72q, K72⟩ := hQ72
          have hS72 : s.Since T72.vm T72.heap.size := State.Since.trans hS0 hs72 (Nat.le_trans (by rw [e67]; exact hk65) hgr72)
          have hown : (s.setVm T72.vm).vm.findClass "com/example/waxwing/waxwing/http/HeadTokenPinLaw" = some mm.cls := by rw [show (s.setVm T72.vm).vm = T72.vm from rfl, hs72.1.alike.findClass]; exact hown
          have hZ : Z.Warmed39 (s.setVm T72.vm).vm := State.Warmed39.trans hZ hs72.1
          have CR72 := CR65.trans CQ72
          have O72 := O65.keep K72 all0
          have KK72 := KK65.trans K72 all0
          have N72 := Fr.app NL70 N72q
          obtain ⟨fs, hr, hrun, hended, hRW⟩ := X72.leaveW hS72 (Nat.le_refl _) (v := some (.int (1 : Int32))) (fun h => by rw [Bd.returns] at h; cases h)
          refine ⟨_, _, pre71 _ ?_, hrun, hended, _, _, rfl, ?_, (own_rmono hRW (by decide) (by decide))⟩
          · refine st72.trans ?_
            show Steps pg.tables ee below (T72.setTop (mkF mm 205 #[.val (.int p0), .val (.int p1), .val (.int p2), .val (.int p3), .val (.int (p0 &&& (3 : Int32))), .val (.int r1), .val (.int r3), .val (.int r5), .val (.ref b56), .val (.ref b63), .val (.int (0 : Int32))] [(.int (own_k3 r1 r3 r5))])) _
            refine XS.iload X72.here hx rfl (hb hby at_205) rfl ?_
            refine XS.icmpNo X72.here hx rfl (hb hby at_207) rfl (teq (if_pos hc69)).2 ?_
            refine XS.iconst X72.here hx rfl (hb hby at_210) ?_
            refine XS.goto X72.here hx rfl (pc0 := 211) (pc' := 215) rfl (hb hby at_211) (by decide) (by decide) ?_
            exact retN X72 hx (t := .boolean) Bd.returns (by simp) (hb hby at_215) hr
          · show Qrm0 Z p0 p1 p2 p3 cs fm h0 n0 _ T72.heap _
            exact ⟨rfl, N72⟩
        · obtain ⟨LL73, XL73, NL73⟩ := own_loose X67 N67
          obtain ⟨_, _, ⟨T74, L74, k74, n74⟩, -, X74, ⟨Lc74, hQ74, l74, y74, z74⟩, st74⟩ := Jvm.LawKit.callS XL73 hx hown (mvT hZ (own_h hw 56 rfl)) (mvT hZ (own_h hw 57 rfl)) (mvT hZ (own_h hw 2 rfl)) (mvT hZ (own_h hw 58 rfl)) (by decide) (backOf (W := 0) (rmTc l Z a0 hw [] r3 T65.heap n0 O65) hZ (own_h hw 58 rfl) (own_h hw 2 rfl) (by decide) (by decide)) (g := (mkF mm 179 #[.val (.int p0), .val (.int p1), .val (.int p2), .val (.int p3), .val (.int (p0 &&& (3 : Int32))), .val (.int r1), .val (.int r3), .val (.int r5), .val (.ref b56), .val (.ref b63), .unset] [(.int r3)])) rfl (by rw [hml]; rfl) (argsL := [(.int r3)]) (rest := []) (lenOf pd_539 rfl) rfl (Nat.le_of_eq rfl) (hb hby at_179) (fun _ _ => ⟨rfl, e67, (by decide : 4 + 0 ≤ _), (by decide : 16 + 0 ≤ _)⟩)
          dsimp only [Pt.U, Pt.locs, Pt.cells, Pt.slots] at X74 l74 y74 z74 st74 hQ74
          subst l74 y74 z74
          obtain ⟨rfl, N74q, e74⟩ := hQ74
          have N74 := Fr.app NL73 N74q
          have pre75 := fun tg_ (k_ : Steps pg.tables ee below (T74.setTop (mkF mm 182 #[.val (.int p0), .val (.int p1), .val (.int p2), .val (.int p3), .val (.int (p0 &&& (3 : Int32))), .val (.int r1), .val (.int r3), .val (.int r5), .val (.ref b56), .val (.ref b63), .unset] [(.int (own_t r3))])) tg_) => pre68 tg_ (by
            show Steps pg.tables ee below (T67.setTop (mkF mm 174 #[.val (.int p0), .val (.int p1), .val (.int p2), .val (.int p3), .val (.int (p0 &&& (3 : Int32))), .val (.int r1), .val (.int r3), .val (.int r5), .val (.ref b56), .val (.ref b63), .unset] [(.int (own_t r1))])) _
            refine XS.ifNo X67.here hx rfl (hb hby at_174) rfl ((if0 _ _).trans (feq hc69).1) ?_
            refine XS.iload X67.here hx rfl (hb hby at_177) rfl ?_
            refine st74 _ ?_
            exact k_)
          by_cases hc76 : (own_t r3) = (0 : Int32)
          · obtain ⟨LL77, XL77, NL77⟩ := own_loose X74 N74
            have pre78 := fun tg_ (k_ : Steps pg.tables ee below (T74.setTop (mkF mm 202 #[.val (.int p0), .val (.int p1), .val (.int p2), .val (.int p3), .val (.int (p0 &&& (3 : Int32))), .val (.int r1), .val (.int r3), .val (.int r5), .val (.ref b56), .val (.ref b63), .val (.int (0 : Int32))] [(.ref b63)])) tg_) => pre75 tg_ (by
              show Steps pg.tables ee below (T74.setTop (mkF mm 182 #[.val (.int p0), .val (.int p1), .val (.int p2), .val (.int p3), .val (.int (p0 &&& (3 : Int32))), .val (.int r1), .val (.int r3), .val (.int r5), .val (.ref b56), .val (.ref b63), .unset] [(.int (own_t r3))])) _
              refine XS.ifYes X74.here hx rfl (pc0 := 182) (pc' := 197) rfl (hb hby at_182) rfl ((if0 _ _).trans (teq hc76).1) (by decide) (by decide) ?_
              refine XS.iconst X74.here hx rfl (hb hby at_197) ?_
              show Steps pg.tables ee below (T74.setTop (mkF mm 198 #[.val (.int p0), .val (.int p1), .val (.int p2), .val (.int p3), .val (.int (p0 &&& (3 : Int32))), .val (.int r1), .val (.int r3), .val (.int r5), .val (.ref b56), .val (.ref b63), .unset] [(.int (0 : Int32))])) _
              refine XS.istore X74.here hx rfl (hb hby at_198) rfl (l' := #[.val (.int p0), .val (.int p1), .val (.int p2), .val (.int p3), .val (.int (p0 &&& (3 : Int32))), .val (.int r1), .val (.int r3), .val (.int r5), .val (.ref b56), .val (.ref b63), .val (.int (0 : Int32))]) rfl ?_
              refine XS.aload X74.here hx rfl (hb hby at_200) rfl rfl ?_
              exact k_)
            obtain ⟨_, _, ⟨T79, L79, k79, n79⟩, -, X79, hs79, hgr79, ⟨Lc79, hQ79, l79, y79, z79, CQ79⟩, st79⟩ := callSS XL77 hx (y := (⟨"com/example/waxwing/waxwing/http/Head", "token", "(Ljava/lang/String;)Z"⟩ : MethodName)) hown (mvT hZ (own_h hw 26 rfl)) (mvT hZ (own_h hw 27 rfl)) (mvT hZ (own_h hw 28 rfl)) (mvT hZ (own_h hw 29 rfl)) (by decide) (backOfSH (W := 0) (rmTk3 l Z a0 hw [] b63 r1 r3 r5 cs fm T65.heap n0 O65 Sp65 hC hG hF hlo1 hhi1 hlo3 hhi3 hlo5 hhi5) hZ (own_h hw 29 rfl) (own_h hw 28 rfl) (by decide) (by decide) hEL CR65.1) (g := (mkF mm 202 #[.val (.int p0), .val (.int p1), .val (.int p2), .val (.int p3), .val (.int (p0 &&& (3 : Int32))), .val (.int r1), .val (.int r3), .val (.int r5), .val (.ref b56), .val (.ref b63), .val (.int (0 : Int32))] [(.ref b63)])) rfl (by rw [hml]; rfl) (argsL := [(.ref b63)]) (rest := []) (lenOf pd_538 rfl) rfl (Nat.le_of_eq rfl) (hb hby at_202) (fun _ _ => ⟨rfl, e74, (by decide : 4 + 6 ≤ _), (by decide : 16 + 192 ≤ _)⟩)
            dsimp only [Pt.U, Pt.locs, Pt.cells, Pt.slots] at X79 l79 y79 z79 st79 hQ79 hs79 hgr79 CQ79
            subst l79 y79 z79
            replace X79 := own_rebase (s := s) X79
            obtain ⟨rfl, N79q, K79⟩ := hQ79
            have hS79 : s.Since T79.vm T79.heap.size := State.Since.trans hS0 hs79 (Nat.le_trans (by rw [e74]; exact hk65) hgr79)
            have hown : (s.setVm T79.vm).vm.findClass "com/example/waxwing/waxwing/http/HeadTokenPinLaw" = some mm.cls := by rw [show (s.setVm T79.vm).vm = T79.vm from rfl, hs79.1.alike.findClass]; exact hown
            have hZ : Z.Warmed39 (s.setVm T79.vm).vm := State.Warmed39.trans hZ hs79.1
            have CR79 := CR65.trans CQ79
            have O79 := O65.keep K79 all0
            have KK79 := KK65.trans K79 all0
            have N79 := Fr.app NL77 N79q
            obtain ⟨fs, hr, hrun, hended, hRW⟩ := X79.leaveW hS79 (Nat.le_refl _) (v := some (.int (1 : Int32))) (fun h => by rw [Bd.returns] at h; cases h)
            refine ⟨_, _, pre78 _ ?_, hrun, hended, _, _, rfl, ?_, (own_rmono hRW (by decide) (by decide))⟩
            · refine st79.trans ?_
              refine XS.iload X79.here hx rfl (hb hby at_205) rfl ?_
              refine XS.icmpNo X79.here hx rfl (hb hby at_207) rfl (teq (Eq.trans (if_neg hc69) (if_pos hc76))).2 ?_
              refine XS.iconst X79.here hx rfl (hb hby at_210) ?_
              refine XS.goto X79.here hx rfl (pc0 := 211) (pc' := 215) rfl (hb hby at_211) (by decide) (by decide) ?_
              exact retN X79 hx (t := .boolean) Bd.returns (by simp) (hb hby at_215) hr
            · show Qrm0 Z p0 p1 p2 p3 cs fm h0 n0 _ T79.heap _
              exact ⟨rfl, N79⟩
          · obtain ⟨LL80, XL80, NL80⟩ := own_loose X74 N74
            obtain ⟨_, _, ⟨T81, L81, k81, n81⟩, -, X81, ⟨Lc81, hQ81, l81, y81, z81⟩, st81⟩ := Jvm.LawKit.callS XL80 hx hown (mvT hZ (own_h hw 56 rfl)) (mvT hZ (own_h hw 57 rfl)) (mvT hZ (own_h hw 2 rfl)) (mvT hZ (own_h hw 58 rfl)) (by decide) (backOf (W := 0) (rmTc l Z a0 hw [] r5 T65.heap n0 O65) hZ (own_h hw 58 rfl) (own_h hw 2 rfl) (by decide) (by decide)) (g := (mkF mm 187 #[.val (.int p0), .val (.int p1), .val (.int p2), .val (.int p3), .val (.int (p0 &&& (3 : Int32))), .val (.int r1), .val (.int r3), .val (.int r5), .val (.ref b56), .val (.ref b63), .unset] [(.int r5)])) rfl (by rw [hml]; rfl) (argsL := [(.int r5)]) (rest := []) (lenOf pd_539 rfl) rfl (Nat.le_of_eq rfl) (hb hby at_187) (fun _ _ => ⟨rfl, e74, (by decide : 4 + 0 ≤ _), (by decide : 16 + 0 ≤ _)⟩)
            dsimp only [Pt.U, Pt.locs, Pt.cells, Pt.slots] at X81 l81 y81 z81 st81 hQ81
            subst l81 y81 z81
            obtain ⟨rfl, N81q, e81⟩ := hQ81
            have N81 := Fr.app NL80 N81q
            have pre82 := fun tg_ (k_ : Steps pg.tables ee below (T81.setTop (mkF mm 190 #[.val (.int p0), .val (.int p1), .val (.int p2), .val (.int p3), .val (.int (p0 &&& (3 : Int32))), .val (.int r1), .val (.int r3), .val (.int r5), .val (.ref b56), .val (.ref b63), .unset] [(.int (own_t r5))])) tg_) => pre75 tg_ (by
              show Steps pg.tables ee below (T74.setTop (mkF mm 182 #[.val (.int p0), .val (.int p1), .val (.int p2), .val (.int p3), .val (.int (p0 &&& (3 : Int32))), .val (.int r1), .val (.int r3), .val (.int r5), .val (.ref b56), .val (.ref b63), .unset] [(.int (own_t r3))])) _
              refine XS.ifNo X74.here hx rfl (hb hby at_182) rfl ((if0 _ _).trans (feq hc76).1) ?_
              refine XS.iload X74.here hx rfl (hb hby at_185) rfl ?_
              show Steps pg.tables ee below (T74.setTop (mkF mm 187 #[.val (.int p0), .val (.int p1), .val (.int p2), .val (.int p3), .val (.int (p0 &&& (3 : Int32))), .val (.int r1), .val (.int r3), .val (.int r5), .val (.ref b56), .val (.ref b63), .unset] [(.int r5)])) _
              refine st81 _ ?_
              exact k_)
            by_cases hc83 : (own_t r5) = (0 : Int32)
            · obtain ⟨LL84, XL84, NL84⟩ := own_loose X81 N81
              have pre85 := fun tg_ (k_ : Steps pg.tables ee below (T81.setTop (mkF mm 202 #[.val (.int p0), .val (.int p1), .val (.int p2), .val (.int p3), .val (.int (p0 &&& (3 : Int32))), .val (.int r1), .val (.int r3), .val (.int r5), .val (.ref b56), .val (.ref b63), .val (.int (0 : Int32))] [(.ref b63)])) tg_) => pre82 tg_ (by
                show Steps pg.tables ee below (T81.setTop (mkF mm 190 #[.val (.int p0), .val (.int p1), .val (.int p2), .val (.int p3), .val (.int (p0 &&& (3 : Int32))), .val (.int r1), .val (.int r3), .val (.int r5), .val (.ref b56), .val (.ref b63), .unset] [(.int (own_t r5))])) _
                refine XS.ifYes X81.here hx rfl (pc0 := 190) (pc' := 197) rfl (hb hby at_190) rfl ((if0 _ _).trans (teq hc83).1) (by decide) (by decide) ?_
                refine XS.iconst X81.here hx rfl (hb hby at_197) ?_
                refine XS.istore X81.here hx rfl (hb hby at_198) rfl (l' := #[.val (.int p0), .val (.int p1), .val (.int p2), .val (.int p3), .val (.int (p0 &&& (3 : Int32))), .val (.int r1), .val (.int r3), .val (.int r5), .val (.ref b56), .val (.ref b63), .val (.int (0 : Int32))]) rfl ?_
                refine XS.aload X81.here hx rfl (hb hby at_200) rfl rfl ?_
                exact k_)
              obtain ⟨_, _, ⟨T86, L86, k86, n86⟩, -, X86, hs86, hgr86, ⟨Lc86, hQ86, l86, y86, z86, CQ86⟩, st86⟩ := callSS XL84 hx (y := (⟨"com/example/waxwing/waxwing/http/Head", "token", "(Ljava/lang/String;)Z"⟩ : MethodName)) hown (mvT hZ (own_h hw 26 rfl)) (mvT hZ (own_h hw 27 rfl)) (mvT hZ (own_h hw 28 rfl)) (mvT hZ (own_h hw 29 rfl)) (by decide) (backOfSH (W := 0) (rmTk3 l Z a0 hw [] b63 r1 r3 r5 cs fm T65.heap n0 O65 Sp65 hC hG hF hlo1 hhi1 hlo3 hhi3 hlo5 hhi5) hZ (own_h hw 29 rfl) (own_h hw 28 rfl) (by decide) (by decide) hEL CR65.1) (g := (mkF mm 202 #[.val (.int p0), .val (.int p1), .val (.int p2), .val (.int p3), .val (.int (p0 &&& (3 : Int32))), .val (.int r1), .val (.int r3), .val (.int r5), .val (.ref b56), .val (.ref b63), .val (.int (0 : Int32))] [(.ref b63)])) rfl (by rw [hml]; rfl) (argsL := [(.ref b63)]) (rest := []) (lenOf pd_538 rfl) rfl (Nat.le_of_eq rfl) (hb hby at_202) (fun _ _ => ⟨rfl, e81, (by decide : 4 + 6 ≤ _), (by decide : 16 + 192 ≤ _)⟩)
              dsimp only [Pt.U, Pt.locs, Pt.cells, Pt.slots] at X86 l86 y86 z86 st86 hQ86 hs86 hgr86 CQ86
              subst l86 y86 z86
              replace X86 := own_rebase (s := s) X86
              obtain ⟨rfl, N86q, K86⟩ := hQ86
              have hS86 : s.Since T86.vm T86.heap.size := State.Since.trans hS0 hs86 (Nat.le_trans (by rw [e81]; exact hk65) hgr86)
              have hown : (s.setVm T86.vm).vm.findClass "com/example/waxwing/waxwing/http/HeadTokenPinLaw" = some mm.cls := by rw [show (s.setVm T86.vm).vm = T86.vm from rfl, hs86.1.alike.findClass]; exact hown
              have hZ : Z.Warmed39 (s.setVm T86.vm).vm := State.Warmed39.trans hZ hs86.1
              have CR86 := CR65.trans CQ86
              have O86 := O65.keep K86 all0
              have KK86 := KK65.trans K86 all0
              have N86 := Fr.app NL84 N86q
              obtain ⟨fs, hr, hrun, hended, hRW⟩ := X86.leaveW hS86 (Nat.le_refl _) (v := some (.int (1 : Int32))) (fun h => by rw [Bd.returns] at h; cases h)
              refine ⟨_, _, pre85 _ ?_, hrun, hended, _, _, rfl, ?_, (own_rmono hRW (by decide) (by decide))⟩
              · refine st86.trans ?_
                refine XS.iload X86.here hx rfl (hb hby at_205) rfl ?_
                refine XS.icmpNo X86.here hx rfl (hb hby at_207) rfl (teq (Eq.trans (if_neg hc69) (Eq.trans (if_neg hc76) hc83))).2 ?_
                show Steps pg.tables ee below (T86.setTop (mkF mm 210 #[.val (.int p0), .val (.int p1), .val (.int p2), .val (.int p3), .val (.int (p0 &&& (3 : Int32))), .val (.int r1), .val (.int r3), .val (.int r5), .val (.ref b56), .val (.ref b63), .val (.int (0 : Int32))] [])) _
                refine XS.iconst X86.here hx rfl (hb hby at_210) ?_
                refine XS.goto X86.here hx rfl (pc0 := 211) (pc' := 215) rfl (hb hby at_211) (by decide) (by decide) ?_
                exact retN X86 hx (t := .boolean) Bd.returns (by simp) (hb hby at_215) hr
              · show Qrm0 Z p0 p1 p2 p3 cs fm h0 n0 _ T86.heap _
                exact ⟨rfl, N86⟩
            · obtain ⟨LL87, XL87, NL87⟩ := own_loose X81 N81
              have pre88 := fun tg_ (k_ : Steps pg.tables ee below (T81.setTop (mkF mm 202 #[.val (.int p0), .val (.int p1), .val (.int p2), .val (.int p3), .val (.int (p0 &&& (3 : Int32))), .val (.int r1), .val (.int r3), .val (.int r5), .val (.ref b56), .val (.ref b63), .val (.int (1 : Int32))] [(.ref b63)])) tg_) => pre82 tg_ (by
                show Steps pg.tables ee below (T81.setTop (mkF mm 190 #[.val (.int p0), .val (.int p1), .val (.int p2), .val (.int p3), .val (.int (p0 &&& (3 : Int32))), .val (.int r1), .val (.int r3), .val (.int r5), .val (.ref b56), .val (.ref b63), .unset] [(.int (own_t r5))])) _
                refine XS.ifNo X81.here hx rfl (hb hby at_190) rfl ((if0 _ _).trans (feq hc83).1) ?_
                refine XS.iconst X81.here hx rfl (hb hby at_193) ?_
                refine XS.goto X81.here hx rfl (pc0 := 194) (pc' := 198) rfl (hb hby at_194) (by decide) (by decide) ?_
                refine XS.istore X81.here hx rfl (hb hby at_198) rfl (l' := #[.val (.int p0), .val (.int p1), .val (.int p2), .val (.int p3), .val (.int (p0 &&& (3 : Int32))), .val (.int r1), .val (.int r3), .val (.int r5), .val (.ref b56), .val (.ref b63), .val (.int (1 : Int32))]) rfl ?_
                refine XS.aload X81.here hx rfl (hb hby at_200) rfl rfl ?_
                exact k_)
              obtain ⟨_, _, ⟨T89, L89, k89, n89⟩, -, X89, hs89, hgr89, ⟨Lc89, hQ89, l89, y89, z89, CQ89⟩, st89⟩ := callSS XL87 hx (y := (⟨"com/example/waxwing/waxwing/http/Head", "token", "(Ljava/lang/String;)Z"⟩ : MethodName)) hown (mvT hZ (own_h hw 26 rfl)) (mvT hZ (own_h hw 27 rfl)) (mvT hZ (own_h hw 28 rfl)) (mvT hZ (own_h hw 29 rfl)) (by decide) (backOfSH (W := 0) (rmTk3 l Z a0 hw [] b63 r1 r3 r5 cs fm T65.heap n0 O65 Sp65 hC hG hF hlo1 hhi1 hlo3 hhi3 hlo5 hhi5) hZ (own_h hw 29 rfl) (own_h hw 28 rfl) (by decide) (by decide) hEL CR65.1) (g := (mkF mm 202 #[.val (.int p0), .val (.int p1), .val (.int p2), .val (.int p3), .val (.int (p0 &&& (3 : Int32))), .val (.int r1), .val (.int r3), .val (.int r5), .val (.ref b56), .val (.ref b63), .val (.int (1 : Int32))] [(.ref b63)])) rfl (by rw [hml]; rfl) (argsL := [(.ref b63)]) (rest := []) (lenOf pd_538 rfl) rfl (Nat.le_of_eq rfl) (hb hby at_202) (fun _ _ => ⟨rfl, e81, (by decide : 4 + 6 ≤ _), (by decide : 16 + 192 ≤ _)⟩)
              dsimp only [Pt.U, Pt.locs, Pt.cells, Pt.slots] at X89 l89 y89 z89 st89 hQ89 hs89 hgr89 CQ89
              subst l89 y89 z89
              replace X89 := own_rebase (s := s) X89
              obtain ⟨rfl, N89q, K89⟩ := hQ89
              have hS89 : s.Since T89.vm T89.heap.size := State.Since.trans hS0 hs89 (Nat.le_trans (by rw [e81]; exact hk65) hgr89)
              have hown : (s.setVm T89.vm).vm.findClass "com/example/waxwing/waxwing/http/HeadTokenPinLaw" = some mm.cls := by rw [show (s.setVm T89.vm).vm = T89.vm from rfl, hs89.1.alike.findClass]; exact hown
              have hZ : Z.Warmed39 (s.setVm T89.vm).vm := State.Warmed39.trans hZ hs89.1
              have CR89 := CR65.trans CQ89
              have O89 := O65.keep K89 all0
              have KK89 := KK65.trans K89 all0
              have N89 := Fr.app NL87 N89q
              obtain ⟨fs, hr, hrun, hended, hRW⟩ := X89.leaveW hS89 (Nat.le_refl _) (v := some (.int (1 : Int32))) (fun h => by rw [Bd.returns] at h; cases h)
              refine ⟨_, _, pre88 _ ?_, hrun, hended, _, _, rfl, ?_, (own_rmono hRW (by decide) (by decide))⟩
              · refine st89.trans ?_
                refine XS.iload X89.here hx rfl (hb hby at_205) rfl ?_
                show Steps pg.tables ee below (T89.setTop (mkF mm 207 #[.val (.int p0), .val (.int p1), .val (.int p2), .val (.int p3), .val (.int (p0 &&& (3 : Int32))), .val (.int r1), .val (.int r3), .val (.int r5), .val (.ref b56), .val (.ref b63), .val (.int (1 : Int32))] [(.int (1 : Int32)), (.int (own_k3 r1 r3 r5))])) _
                refine XS.icmpNo X89.here hx rfl (hb hby at_207) rfl (teq (Eq.trans (if_neg hc69) (Eq.trans (if_neg hc76) (own_t1 hc83)))).2 ?_
                refine XS.iconst X89.here hx rfl (hb hby at_210) ?_
                refine XS.goto X89.here hx rfl (pc0 := 211) (pc' := 215) rfl (hb hby at_211) (by decide) (by decide) ?_
                exact retN X89 hx (t := .boolean) Bd.returns (by simp) (hb hby at_215) hr
              · show Qrm0 Z p0 p1 p2 p3 cs fm h0 n0 _ T89.heap _
                exact ⟨rfl, N89⟩
set_option maxRecDepth 65536 in
set_option maxHeartbeats 40000000 in
theorem comes_1 {Post : Tables → Env → Array Value → State → Outcome → State → Prop} (hpost : ∀ tb e args s v u, (limb_1_1.after args s (.returned v) u = true ∧ limb_1_2.after args s (.returned v) u = true ∧ True) → FramedW s (.returned v) u (Jvm.fieldLocs frame_1_writes args s ++ Jvm.arrayLocs frame_1_arrays args s ++ Jvm.staticLocs frame_1_statics s) 24 2176 → Post tb e args s (.returned v) u) :
    ArmFor flags0 classFile x code maxLocals ret World_1 tables_1 room_1 Calls_1 rest_1 Pre_1 Post := by
  intro l hfl _ _ p e ha hc hk s m args below hf hA hF happ hP
  obtain ⟨hcalls, hrest, hpre⟩ := hP
  obtain ⟨-, -, -, hnamed, -, -, -, hat⟩ := (Spec.applies_iff hf).mp happ
  obtain ⟨hg, hn⟩ := and_e (Cond.before_iff.mp (show (Jvm.Cond.and given_1 narrow_1).before args s = true from hpre))
  obtain ⟨gg1, gg2⟩ := and_e hg
  obtain ⟨gg3, gg4⟩ := and_e gg2
  obtain ⟨gg5, gg6⟩ := and_e gg4
  obtain ⟨gg7, gg8⟩ := and_e gg6
  obtain ⟨w0, w1, w2, w3, rfl⟩ : ∃ w0 w1 w2 w3 : Value, args = #[w0, w1, w2, w3] := by
    have hs : args.size = 4 := by simpa [Cond.value, given_1] using gg1
    obtain ⟨L⟩ := args
    match L, hs with
    | [w0, w1, w2, w3], _ => exact ⟨w0, w1, w2, w3, rfl⟩
  have hw := fun d (hd : d ∈ tables_1) => atoms_spec (ws := Jvm.Cond.code x code maxLocals ret :: tables_1) hat d (List.mem_cons_of_mem _ hd)
  have hfit : Fit s := fun {y c} hc i hi => by
    obtain ⟨ha, rfl⟩ := Array.getElem?_eq_some_iff.mp hc
    have q := List.all_eq_true.mp ((Array.all_eq_true_iff_forall_mem.mp hF) _ (Array.getElem_mem ha)) i (List.mem_range.mpr hi)
    simpa [Array.getElem?_eq_getElem hi] using q
  obtain ⟨hsets, hown0⟩ := atoms_of _ (rest_1_c_eq ▸ (show rest_1_c.before _ s = true from hrest))
  have hr0 := Cond.before_iff.mp hown0
  obtain ⟨i0, ei0⟩ := is_v gg3
  obtain rfl : w0 = (.int i0) := Option.some.inj ei0
  obtain ⟨i1, ei1⟩ := is_v gg5
  obtain rfl : w1 = (.int i1) := Option.some.inj ei1
  obtain ⟨i2, ei2⟩ := is_v gg7
  obtain rfl : w2 = (.int i2) := Option.some.inj ei2
  obtain ⟨i3, ei3⟩ := is_v gg8
  obtain rfl : w3 = (.int i3) := Option.some.inj ei3
  obtain ⟨cs, evc⟩ := is_v (Cond.before_iff.mp (hsets _ (List.mem_of_getElem? (i := 1) rfl)))
  have hC : own_C s cs := ⟨Sta.start evc (Or.inl (hsets _ (List.mem_of_getElem? (i := 0) rfl))), gotF (Cond.eq_ints evc (Term.int_eval 0)) (not_v (Cond.before_iff.mp (hsets _ (List.mem_of_getElem? (i := 2) rfl))))⟩
  obtain ⟨fm, evf, hfm⟩ := isR_v (Cond.before_iff.mp (hsets _ (List.mem_of_getElem? (i := 8) rfl)))
  have hFm : own_F s fm := ⟨Sta.start evf (Or.inl (hsets _ (List.mem_of_getElem? (i := 7) rfl))), hfm⟩
  have hG : own_G s := ⟨Sta.start (own_eqi (Cond.before_iff.mp (hsets _ (List.mem_of_getElem? (i := 12) rfl)))) (Or.inl (hsets _ (List.mem_of_getElem? (i := 11) rfl))), Sta.start (own_eqi (Cond.before_iff.mp (hsets _ (List.mem_of_getElem? (i := 15) rfl)))) (Or.inl (hsets _ (List.mem_of_getElem? (i := 14) rfl))), Sta.start (own_eqi (Cond.before_iff.mp (hsets _ (List.mem_of_getElem? (i := 18) rfl)))) (Or.inl (hsets _ (List.mem_of_getElem? (i := 17) rfl)))⟩
  have HC : CHv s own_EL s.vm s.heap := CHv.start (own_hEL hw) (fun p hp => hcalls.1 p hp) (hsets _ (List.mem_of_getElem? (i := 2) rfl)) (own_h hw 19 rfl) (own_h hw 6 rfl)
  obtain ⟨n, o, h1, h2, h3, _, L, rfl, ⟨rfl, N⟩, hq⟩ := rm0 l s _ hw tables_1 i0 i1 i2 i3 cs fm s.heap s.heap.size (Old.start s) hC hG hFm p e ha hc hk s m _ below hf ((Spec.applies_iff_loose hf).mp happ).1 ⟨rfl, State.Warmed39.refl s, rfl, HC⟩ trivial
  refine ⟨n, _, h1, h2, h3, hpost _ _ _ _ _ _ ⟨Cond.after_iff.mpr rfl, Cond.after_iff.mpr (eq_i res_at (Term.int_eval (1)) rfl), trivial⟩ ⟨hq.1, hq.2.1, hq.2.2.1, (hq.2.2.2.sift fun y hy => Or.inr (N y hy)).mono (by decide) (by decide)⟩⟩
theorem main_1_1 : Claimed_1_1 := comes_1 fun _ _ _ _ _ _ h hF => ⟨h.1, hF⟩
theorem main_1_2 : Claimed_1_2 := comes_1 fun _ _ _ _ _ _ h hF => ⟨h.2.1, hF⟩
end Jvm.Pilot.@@N@@
namespace Jvm.Pilot.@@N@@
open Jvm Jvm.ClassFile Sem Op Lib Jvm.Free Jvm.Stand Jvm.Pilot.@@N@@.Jvm.D
/-! MADE BY PROGRAM (witnessworld.py) out of the Statement's table words and the real class files: 22 classes; the members and pool entries that the words name. The judged class is class 1, her method 1. -/
namespace start1
open Jvm.ClassFile
def u (s : String) : CpInfo := .utf8 (stringToUtf16 s)
/-- a pool by its gaps: so many unusable entries, then the entry; so many at the end -/
def gap : Nat → List CpInfo → List CpInfo
  | 0, r => r
  | n + 1, r => .unusable :: gap n r
def poolList (es : List (Nat × CpInfo)) (last : Nat) : List CpInfo := es.foldr (fun e r => gap e.1 (e.2 :: r)) (gap last [])
def pool (es : List (Nat × CpInfo)) (last : Nat) : Array CpInfo := ⟨poolList es last⟩
def fileOf (pool : Array CpInfo) (this : Nat) (attrs : Array Attribute := #[]) (ms : Array MethodInfo := #[]) (fl : Nat := 33) (sup : Nat := 0) (ifs : Array Nat := #[]) (fds : Array FieldInfo := #[]) : ClassFile where
  minorVersion := 0
  majorVersion := 65
  constantPool := pool
  accessFlags := fl
  thisClass := this
  superClass := sup
  interfaces := ifs
  fields := fds
  methods := ms
  attributes := attrs
def plain (name : String) (sup : Option ClassId) : Class where
  name := name
  kind := .ordinary
  loader := none
  accessFlags := 33
  super := sup
  interfaces := #[]
  cf := none
  fields := #[]
  methods := #[]
  instanceTypes := #[]
  staticTypes := #[]
  resolved := #[]
  callSites := []
  init := .initialized
  statics := none
  mirror := none

def pool0 : Array CpInfo := pool [(5, u "<init>"), (0, u "()V"), (1, .class_ 10), (1, u "java/lang/Object")] 113

def k0c0 : Code := { maxStack := 0, maxLocals := 1, code := object_method_1_code, exceptionTable := #[], attributes := #[] }
def k0m0 : Method := { name := "<init>", desc := "()V", sig := { parameters := [], returnType := none }, accessFlags := 1, code := some k0c0 }
/-- java/lang/Object -/
def k0 : Class := { plain "java/lang/Object" none with
  accessFlags := 33
  interfaces := #[]
  cf := some (fileOf pool0 8 #[] #[{ accessFlags := 1, nameIndex := 5, descriptorIndex := 6, attributes := #[] }] 33 0 #[] #[])
  fields := #[]
  methods := #[k0m0]
  instanceTypes := #[]
  staticTypes := #[]
  resolved := Array.replicate 124 none
  statics := none }

def pool1 : Array CpInfo := pool [(2, .class_ 4), (1, u "java/lang/Object"), (0, u "<init>"), (0, u "()V"), (0, .methodref 8 9), (0, .class_ 10), (0, .nameAndType 11 12), (0, u "com/example/waxwing/waxwing/http/HeadTokenPinLaw"), (0, u "draw"), (0, u "(I)C"), (0, .class_ 14), (0, u "java/lang/String"), (0, .methodref 13 16), (0, .nameAndType 5 17), (0, u "([C)V"), (0, .methodref 8 19), (0, .nameAndType 20 21), (0, u "tchar"), (0, u "(C)Z"), (0, .methodref 23 24), (0, .class_ 25), (0, .nameAndType 26 27), (0, u "com/example/waxwing/waxwing/http/Head"), (0, u "token"), (0, u "(Ljava/lang/String;)Z"), (2, u "law"), (0, u "(IIII)Z")] 5

def k1m0 : Method := { name := "<init>", desc := "()V", sig := { parameters := [], returnType := none }, accessFlags := 1, code := none }
def k1c1 : Code := { maxStack := 4, maxLocals := 11, code := code, exceptionTable := #[], attributes := #[] }
def k1m1 : Method := { name := "law", desc := "(IIII)Z", sig := { parameters := [.int, .int, .int, .int], returnType := some .boolean }, accessFlags := 9, code := some k1c1 }
def k1c2 : Code := { maxStack := 2, maxLocals := 1, code := method_3_code, exceptionTable := #[], attributes := #[] }
def k1m2 : Method := { name := "draw", desc := "(I)C", sig := { parameters := [.int], returnType := some .char }, accessFlags := 10, code := some k1c2 }
def k1c3 : Code := { maxStack := 2, maxLocals := 1, code := method_4_code, exceptionTable := #[], attributes := #[] }
def k1m3 : Method := { name := "tchar", desc := "(C)Z", sig := { parameters := [.char], returnType := some .boolean }, accessFlags := 10, code := some k1c3 }
/-- com/example/waxwing/waxwing/http/HeadTokenPinLaw -/
def k1 : Class := { plain "com/example/waxwing/waxwing/http/HeadTokenPinLaw" (some 0) with
  accessFlags := 49
  interfaces := #[]
  cf := some (fileOf pool1 8 #[] #[{ accessFlags := 1, nameIndex := 5, descriptorIndex := 6, attributes := #[] }, { accessFlags := 9, nameIndex := 30, descriptorIndex := 31, attributes := #[] }, { accessFlags := 10, nameIndex := 11, descriptorIndex := 12, attributes := #[] }, { accessFlags := 10, nameIndex := 20, descriptorIndex := 21, attributes := #[] }] 49 2 #[] #[])
  fields := #[]
  methods := #[k1m0, k1m1, k1m2, k1m3]
  instanceTypes := #[]
  staticTypes := #[]
  resolved := Array.replicate 37 none
  statics := none }

def pool2 : Array CpInfo := pool [(1, .class_ 2), (0, u "java/io/Serializable"), (0, .class_ 4), (0, u "java/lang/Object")] 2

/-- java/io/Serializable -/
def k2 : Class := { plain "java/io/Serializable" (some 0) with
  accessFlags := 1537
  interfaces := #[]
  cf := some (fileOf pool2 1 #[] #[] 1537 3 #[] #[])
  fields := #[]
  methods := #[]
  instanceTypes := #[]
  staticTypes := #[]
  resolved := Array.replicate 7 none
  statics := none }

def pool3 : Array CpInfo := pool [(1, .class_ 2), (0, u "java/lang/Comparable"), (0, .class_ 4), (0, u "java/lang/Object")] 7

/-- java/lang/Comparable -/
def k3 : Class := { plain "java/lang/Comparable" (some 0) with
  accessFlags := 1537
  interfaces := #[]
  cf := some (fileOf pool3 1 #[] #[] 1537 3 #[] #[])
  fields := #[]
  methods := #[]
  instanceTypes := #[]
  staticTypes := #[]
  resolved := Array.replicate 12 none
  statics := none }

def pool4 : Array CpInfo := pool [(2, .class_ 4), (1, u "java/lang/CharSequence"), (42, .class_ 48), (0, u "java/lang/CharSequence$1CodePointIterator"), (10, .class_ 60), (0, u "java/lang/CharSequence$1CharIterator"), (5, .class_ 67), (0, u "java/lang/Object")] 63

/-- java/lang/CharSequence -/
def k4 : Class := { plain "java/lang/CharSequence" (some 0) with
  accessFlags := 1537
  interfaces := #[]
  cf := some (fileOf pool4 2 #[.nestMembers #[47, 59]] #[] 1537 66 #[] #[])
  fields := #[]
  methods := #[]
  instanceTypes := #[]
  staticTypes := #[]
  resolved := Array.replicate 131 none
  statics := none }

def pool5 : Array CpInfo := pool [(1, .class_ 2), (0, u "java/lang/constant/Constable"), (0, .class_ 4), (0, u "java/lang/Object")] 6

/-- java/lang/constant/Constable -/
def k5 : Class := { plain "java/lang/constant/Constable" (some 0) with
  accessFlags := 1537
  interfaces := #[]
  cf := some (fileOf pool5 1 #[] #[] 1537 3 #[] #[])
  fields := #[]
  methods := #[]
  instanceTypes := #[]
  staticTypes := #[]
  resolved := Array.replicate 11 none
  statics := none }

def pool6 : Array CpInfo := pool [(1, .class_ 2), (0, u "java/lang/constant/ConstantDesc"), (0, .class_ 4), (0, u "java/lang/Object")] 32

/-- java/lang/constant/ConstantDesc -/
def k6 : Class := { plain "java/lang/constant/ConstantDesc" (some 0) with
  accessFlags := 1537
  interfaces := #[]
  cf := some (fileOf pool6 1 #[] #[] 1537 3 #[] #[])
  fields := #[]
  methods := #[]
  instanceTypes := #[]
  staticTypes := #[]
  resolved := Array.replicate 37 none
  statics := none }

def pool7 : Array CpInfo := pool [(1, .methodref 2 3), (0, .class_ 4), (0, .nameAndType 5 6), (0, u "java/lang/Object"), (0, u "<init>"), (0, u "()V"), (0, .string 8), (0, u ""), (0, .fieldref 10 11), (0, .class_ 12), (0, .nameAndType 13 14), (0, u "java/lang/String"), (0, u "value"), (0, u "[B"), (0, .fieldref 10 16), (0, .nameAndType 17 18), (0, u "coder"), (0, u "B"), (2, u "hash"), (0, u "I"), (2, u "hashIsZero"), (0, u "Z"), (0, .methodref 10 28), (0, .nameAndType 5 29), (0, u "([CIILjava/lang/Void;)V"), (8, .fieldref 10 39), (0, .nameAndType 40 26), (0, u "COMPACT_STRINGS"), (1, .class_ 44), (1, u "java/lang/StringUTF16"), (0, u "compress"), (1, .methodref 42 48), (0, .nameAndType 49 50), (0, u "coderFromArrayLen"), (0, u "([BI)B"), (56, .class_ 109), (1, u "java/lang/StringLatin1"), (32, u "()Z"), (34, .methodref 42 178), (0, .nameAndType 45 179), (0, u "([CII)[B"), (154, u "()I"), (0, .methodref 10 336), (0, .nameAndType 17 337), (0, u "()B"), (25, u "([BI)C"), (27, u "(II)V"), (35, u "(I)C"), (64, .methodref 10 493), (0, .nameAndType 494 142), (0, u "isLatin1"), (0, .methodref 107 496), (0, .nameAndType 497 363), (0, u "charAt"), (0, .methodref 42 496), (2, u "checkIndex"), (3, .methodref 10 506), (0, .nameAndType 507 334), (0, u "length"), (67, .class_ 576), (0, u "java/lang/CharSequence"), (22, u "CASE_INSENSITIVE_ORDER"), (0, u "Ljava/util/Comparator;"), (32, .methodref 10 634), (0, .nameAndType 635 636), (0, u "indexOf"), (0, u "(II)I"), (0, .methodref 107 638), (0, .nameAndType 635 639), (0, u "([BIII)I"), (52, u "isEmpty"), (72, u "(I)I"), (244, u "([C)V"), (42, .fieldref 1054 1055), (0, .class_ 1056), (0, .nameAndType 1057 1058), (0, u "jdk/internal/util/Preconditions"), (0, u "SIOOBE_FORMATTER"), (0, u "Ljava/util/function/BiFunction;"), (0, .methodref 1054 1060), (0, .nameAndType 501 1061), (0, u "(IILjava/util/function/BiFunction;)I"), (39, u "serialPersistentFields"), (0, u "[Ljava/io/ObjectStreamField;"), (0, .class_ 1104), (0, u "java/lang/String$CaseInsensitiveComparator"), (1, .class_ 1107), (0, u "java/io/Serializable"), (0, .class_ 1109), (0, u "java/lang/Comparable"), (0, .class_ 1111), (0, u "java/lang/constant/Constable"), (0, .class_ 1113), (0, u "java/lang/constant/ConstantDesc"), (2, u "serialVersionUID"), (0, u "J"), (3, u "REPL"), (0, u "C"), (2, u "LATIN1"), (1, u "UTF16")] 323

def k7m0 : Method := { name := "<init>", desc := "()V", sig := { parameters := [], returnType := none }, accessFlags := 1, code := none }
def k7c1 : Code := { maxStack := 5, maxLocals := 2, code := jdk_42_method_3_code, exceptionTable := #[], attributes := #[] }
def k7m1 : Method := { name := "<init>", desc := "([C)V", sig := { parameters := [(.array .char)], returnType := none }, accessFlags := 1, code := some k7c1 }
def k7c2 : Code := { maxStack := 2, maxLocals := 1, code := jdk_42_method_54_code, exceptionTable := #[], attributes := #[] }
def k7m2 : Method := { name := "length", desc := "()I", sig := { parameters := [], returnType := some .int }, accessFlags := 1, code := some k7c2 }
def k7c3 : Code := { maxStack := 1, maxLocals := 1, code := jdk_42_method_55_code, exceptionTable := #[], attributes := #[] }
def k7m3 : Method := { name := "isEmpty", desc := "()Z", sig := { parameters := [], returnType := some .boolean }, accessFlags := 1, code := some k7c3 }
def k7c4 : Code := { maxStack := 2, maxLocals := 2, code := jdk_42_method_56_code, exceptionTable := #[], attributes := #[] }
def k7m4 : Method := { name := "charAt", desc := "(I)C", sig := { parameters := [.int], returnType := some .char }, accessFlags := 1, code := some k7c4 }
def k7c5 : Code := { maxStack := 3, maxLocals := 2, code := jdk_42_method_79_code, exceptionTable := #[], attributes := #[] }
def k7m5 : Method := { name := "indexOf", desc := "(I)I", sig := { parameters := [.int], returnType := some .int }, accessFlags := 1, code := some k7c5 }
def k7c6 : Code := { maxStack := 4, maxLocals := 3, code := jdk_42_method_80_code, exceptionTable := #[], attributes := #[] }
def k7m6 : Method := { name := "indexOf", desc := "(II)I", sig := { parameters := [.int, .int], returnType := some .int }, accessFlags := 1, code := some k7c6 }
def k7c7 : Code := { maxStack := 4, maxLocals := 6, code := jdk_42_method_149_code, exceptionTable := #[], attributes := #[] }
def k7m7 : Method := { name := "<init>", desc := "([CIILjava/lang/Void;)V", sig := { parameters := [(.array .char), .int, .int, (.object "java/lang/Void")], returnType := none }, accessFlags := 2, code := some k7c7 }
def k7c8 : Code := { maxStack := 1, maxLocals := 1, code := jdk_42_method_152_code, exceptionTable := #[], attributes := #[] }
def k7m8 : Method := { name := "coder", desc := "()B", sig := { parameters := [], returnType := some .byte }, accessFlags := 0, code := some k7c8 }
def k7c9 : Code := { maxStack := 1, maxLocals := 1, code := jdk_42_method_154_code, exceptionTable := #[], attributes := #[] }
def k7m9 : Method := { name := "isLatin1", desc := "()Z", sig := { parameters := [], returnType := some .boolean }, accessFlags := 0, code := some k7c9 }
def k7c10 : Code := { maxStack := 3, maxLocals := 2, code := jdk_42_method_155_code, exceptionTable := #[], attributes := #[] }
def k7m10 : Method := { name := "checkIndex", desc := "(II)V", sig := { parameters := [.int, .int], returnType := none }, accessFlags := 8, code := some k7c10 }
/-- java/lang/String -/
def k7 : Class := { plain "java/lang/String" (some 0) with
  accessFlags := 49
  interfaces := #[2, 3, 4, 5, 6]
  cf := some (fileOf pool7 10 #[.nestMembers #[1103]] #[{ accessFlags := 1, nameIndex := 5, descriptorIndex := 6, attributes := #[] }, { accessFlags := 1, nameIndex := 5, descriptorIndex := 1010, attributes := #[] }, { accessFlags := 1, nameIndex := 507, descriptorIndex := 334, attributes := #[] }, { accessFlags := 1, nameIndex := 692, descriptorIndex := 142, attributes := #[] }, { accessFlags := 1, nameIndex := 497, descriptorIndex := 427, attributes := #[] }, { accessFlags := 1, nameIndex := 635, descriptorIndex := 765, attributes := #[] }, { accessFlags := 1, nameIndex := 635, descriptorIndex := 636, attributes := #[] }, { accessFlags := 2, nameIndex := 5, descriptorIndex := 29, attributes := #[] }, { accessFlags := 0, nameIndex := 17, descriptorIndex := 337, attributes := #[] }, { accessFlags := 0, nameIndex := 494, descriptorIndex := 142, attributes := #[] }, { accessFlags := 8, nameIndex := 501, descriptorIndex := 391, attributes := #[] }] 49 2 #[1106, 1108, 575, 1110, 1112] #[{ accessFlags := 18, nameIndex := 13, descriptorIndex := 14, attributes := #[] }, { accessFlags := 18, nameIndex := 17, descriptorIndex := 18, attributes := #[] }, { accessFlags := 2, nameIndex := 21, descriptorIndex := 22, attributes := #[] }, { accessFlags := 2, nameIndex := 25, descriptorIndex := 26, attributes := #[] }, { accessFlags := 26, nameIndex := 1116, descriptorIndex := 1117, attributes := #[] }, { accessFlags := 24, nameIndex := 40, descriptorIndex := 26, attributes := #[] }, { accessFlags := 26, nameIndex := 1101, descriptorIndex := 1102, attributes := #[] }, { accessFlags := 26, nameIndex := 1121, descriptorIndex := 1122, attributes := #[] }, { accessFlags := 25, nameIndex := 599, descriptorIndex := 600, attributes := #[] }, { accessFlags := 24, nameIndex := 1125, descriptorIndex := 18, attributes := #[] }, { accessFlags := 24, nameIndex := 1127, descriptorIndex := 18, attributes := #[] }])
  fields := #[{ name := "value", type := (.array .byte), accessFlags := 18, slot := 0, constantValue := 0 }, { name := "coder", type := .byte, accessFlags := 18, slot := 1, constantValue := 0 }, { name := "hash", type := .int, accessFlags := 2, slot := 2, constantValue := 0 }, { name := "hashIsZero", type := .boolean, accessFlags := 2, slot := 3, constantValue := 0 }, { name := "serialVersionUID", type := .long, accessFlags := 26, slot := 0, constantValue := 0 }, { name := "COMPACT_STRINGS", type := .boolean, accessFlags := 24, slot := 1, constantValue := 0 }, { name := "serialPersistentFields", type := (.array (.object "java/io/ObjectStreamField")), accessFlags := 26, slot := 2, constantValue := 0 }, { name := "REPL", type := .char, accessFlags := 26, slot := 3, constantValue := 0 }, { name := "CASE_INSENSITIVE_ORDER", type := (.object "java/util/Comparator"), accessFlags := 25, slot := 4, constantValue := 0 }, { name := "LATIN1", type := .byte, accessFlags := 24, slot := 5, constantValue := 0 }, { name := "UTF16", type := .byte, accessFlags := 24, slot := 6, constantValue := 0 }]
  methods := #[k7m0, k7m1, k7m2, k7m3, k7m4, k7m5, k7m6, k7m7, k7m8, k7m9, k7m10]
  instanceTypes := #[(.array .byte), .byte, .int, .boolean]
  staticTypes := #[.long, .boolean, (.array (.object "java/io/ObjectStreamField")), .char, (.object "java/util/Comparator"), .byte, .byte]
  resolved := Array.replicate 1451 none
  statics := some 0 }

def pool8 : Array CpInfo := pool [(2, .class_ 4), (1, u "java/lang/Object"), (0, u "<init>"), (0, u "()V"), (0, .class_ 8), (0, u "java/lang/Record")] 13

def k8m0 : Method := { name := "<init>", desc := "()V", sig := { parameters := [], returnType := none }, accessFlags := 4, code := none }
/-- java/lang/Record -/
def k8 : Class := { plain "java/lang/Record" (some 0) with
  accessFlags := 1057
  interfaces := #[]
  cf := some (fileOf pool8 7 #[] #[{ accessFlags := 4, nameIndex := 5, descriptorIndex := 6, attributes := #[] }] 1057 2 #[] #[])
  fields := #[]
  methods := #[k8m0]
  instanceTypes := #[]
  staticTypes := #[]
  resolved := Array.replicate 22 none
  statics := none }

def pool9 : Array CpInfo := pool [(2, .class_ 4), (1, u "java/lang/Record"), (9, .class_ 16), (1, u "com/example/waxwing/waxwing/http/Head"), (0, u "startLine"), (0, u "Ljava/lang/String;"), (2, u "fields"), (0, u "Ljava/util/List;"), (0, .methodref 24 25), (0, .class_ 26), (0, .nameAndType 27 28), (0, u "java/lang/String"), (0, u "indexOf"), (0, u "(I)I"), (6, u "token"), (0, u "(Ljava/lang/String;)Z"), (13, .methodref 24 51), (0, .nameAndType 52 53), (0, u "length"), (0, u "()I"), (0, .methodref 24 55), (0, .nameAndType 56 57), (0, u "charAt"), (0, u "(I)C"), (5, .class_ 64), (0, u "com/example/waxwing/waxwing/http/Head$Field"), (3, .string 69), (0, u "!#$%&'*+-.^_`|~"), (0, .methodref 24 71), (0, .nameAndType 72 73), (0, u "isEmpty"), (0, u "()Z"), (79, u "TOKEN_SYMBOLS")] 53

def k9c0 : Code := { maxStack := 2, maxLocals := 4, code := prog_14_method_3_code, exceptionTable := #[], attributes := #[] }
def k9m0 : Method := { name := "token", desc := "(Ljava/lang/String;)Z", sig := { parameters := [(.object "java/lang/String")], returnType := some .boolean }, accessFlags := 8, code := some k9c0 }
/-- com/example/waxwing/waxwing/http/Head -/
def k9 : Class := { plain "com/example/waxwing/waxwing/http/Head" (some 8) with
  accessFlags := 48
  interfaces := #[]
  cf := some (fileOf pool9 14 #[.nestMembers #[63]] #[{ accessFlags := 8, nameIndex := 35, descriptorIndex := 36, attributes := #[] }] 48 2 #[] #[{ accessFlags := 18, nameIndex := 17, descriptorIndex := 18, attributes := #[] }, { accessFlags := 18, nameIndex := 21, descriptorIndex := 22, attributes := #[] }, { accessFlags := 26, nameIndex := 153, descriptorIndex := 18, attributes := #[] }])
  fields := #[{ name := "startLine", type := (.object "java/lang/String"), accessFlags := 18, slot := 0, constantValue := 0 }, { name := "fields", type := (.object "java/util/List"), accessFlags := 18, slot := 1, constantValue := 0 }, { name := "TOKEN_SYMBOLS", type := (.object "java/lang/String"), accessFlags := 26, slot := 0, constantValue := 0 }]
  methods := #[k9m0]
  instanceTypes := #[(.object "java/lang/String"), (.object "java/util/List")]
  staticTypes := #[(.object "java/lang/String")]
  resolved := Array.replicate 207 none
  statics := none }

def pool10 : Array CpInfo := pool [(3, .class_ 4), (0, u "java/lang/String"), (1, .class_ 8), (1, u "java/lang/Object"), (0, u "<init>"), (0, u "()V"), (0, .methodref 12 13), (0, .class_ 14), (0, .nameAndType 15 16), (0, u "java/lang/StringUTF16"), (0, u "newBytesLength"), (0, u "(I)I"), (3, .integer 1073741823), (23, .fieldref 12 45), (0, .nameAndType 46 47), (0, u "$assertionsDisabled"), (0, u "Z"), (0, .methodref 12 49), (0, .nameAndType 50 51), (0, u "length"), (0, u "([B)I"), (7, .fieldref 12 60), (0, .nameAndType 61 62), (0, u "HI_BYTE_SHIFT"), (0, u "I"), (0, .fieldref 12 64), (0, .nameAndType 65 62), (0, u "LO_BYTE_SHIFT"), (1, .methodref 12 68), (0, .nameAndType 69 70), (0, u "checkIndex"), (0, u "(I[B)V"), (0, .methodref 12 72), (0, .nameAndType 73 74), (0, u "getChar"), (0, u "([BI)C"), (32, .methodref 12 108), (0, .nameAndType 109 110), (0, u "newBytesFor"), (0, u "(I)[B"), (0, .methodref 12 112), (0, .nameAndType 113 114), (0, u "putChar"), (0, u "([BII)V"), (0, .methodref 12 116), (0, .nameAndType 117 118), (0, u "compress"), (0, u "([CI[BII)I"), (0, .methodref 12 120), (0, .nameAndType 121 122), (0, u "toBytes"), (0, u "([CII)[B"), (138, u "coderFromArrayLen"), (0, u "([BI)B"), (106, .class_ 371), (1, u "java/lang/StringUTF16$LinesSpliterator"), (20, u "charAt"), (21, .methodref 3 415), (0, .nameAndType 69 416), (0, u "(II)V"), (13, u "MAX_LENGTH"), (196, .class_ 628), (0, u "java/lang/StringUTF16$CodePointsSpliterator"), (0, .class_ 630), (0, u "java/lang/StringUTF16$CharsSpliterator")] 4

def k10m0 : Method := { name := "<init>", desc := "()V", sig := { parameters := [], returnType := none }, accessFlags := 0, code := none }
def k10c1 : Code := { maxStack := 1, maxLocals := 1, code := jdk_52_method_2_code, exceptionTable := #[], attributes := #[] }
def k10m1 : Method := { name := "newBytesFor", desc := "(I)[B", sig := { parameters := [.int], returnType := some (.array .byte) }, accessFlags := 9, code := some k10c1 }
def k10c2 : Code := { maxStack := 4, maxLocals := 1, code := jdk_52_method_3_code, exceptionTable := #[], attributes := #[] }
def k10m2 : Method := { name := "newBytesLength", desc := "(I)I", sig := { parameters := [.int], returnType := some .int }, accessFlags := 9, code := some k10c2 }
def k10c3 : Code := { maxStack := 4, maxLocals := 3, code := jdk_52_method_4_code, exceptionTable := #[], attributes := #[] }
def k10m3 : Method := { name := "putChar", desc := "([BII)V", sig := { parameters := [(.array .byte), .int, .int], returnType := none }, accessFlags := 8, code := some k10c3 }
def k10c4 : Code := { maxStack := 3, maxLocals := 2, code := jdk_52_method_5_code, exceptionTable := #[], attributes := #[] }
def k10m4 : Method := { name := "getChar", desc := "([BI)C", sig := { parameters := [(.array .byte), .int], returnType := some .char }, accessFlags := 8, code := some k10c4 }
def k10c5 : Code := { maxStack := 2, maxLocals := 1, code := jdk_52_method_6_code, exceptionTable := #[], attributes := #[] }
def k10m5 : Method := { name := "length", desc := "([B)I", sig := { parameters := [(.array .byte)], returnType := some .int }, accessFlags := 9, code := some k10c5 }
def k10c6 : Code := { maxStack := 4, maxLocals := 5, code := jdk_52_method_14_code, exceptionTable := #[], attributes := #[] }
def k10m6 : Method := { name := "toBytes", desc := "([CII)[B", sig := { parameters := [(.array .char), .int, .int], returnType := some (.array .byte) }, accessFlags := 9, code := some k10c6 }
def k10c7 : Code := { maxStack := 2, maxLocals := 2, code := jdk_52_method_15_code, exceptionTable := #[], attributes := #[] }
def k10m7 : Method := { name := "coderFromArrayLen", desc := "([BI)B", sig := { parameters := [(.array .byte), .int], returnType := some .byte }, accessFlags := 8, code := some k10c7 }
def k10c8 : Code := { maxStack := 5, maxLocals := 6, code := jdk_52_method_16_code, exceptionTable := #[], attributes := #[] }
def k10m8 : Method := { name := "compress", desc := "([CII)[B", sig := { parameters := [(.array .char), .int, .int], returnType := some (.array .byte) }, accessFlags := 9, code := some k10c8 }
def k10c9 : Code := { maxStack := 3, maxLocals := 7, code := jdk_52_method_21_code, exceptionTable := #[], attributes := #[] }
def k10m9 : Method := { name := "compress", desc := "([CI[BII)I", sig := { parameters := [(.array .char), .int, (.array .byte), .int, .int], returnType := some .int }, accessFlags := 9, code := some k10c9 }
def k10c10 : Code := { maxStack := 2, maxLocals := 2, code := jdk_52_method_83_code, exceptionTable := #[], attributes := #[] }
def k10m10 : Method := { name := "charAt", desc := "([BI)C", sig := { parameters := [(.array .byte), .int], returnType := some .char }, accessFlags := 9, code := some k10c10 }
def k10c11 : Code := { maxStack := 2, maxLocals := 2, code := jdk_52_method_91_code, exceptionTable := #[], attributes := #[] }
def k10m11 : Method := { name := "checkIndex", desc := "(I[B)V", sig := { parameters := [.int, (.array .byte)], returnType := none }, accessFlags := 9, code := some k10c11 }
/-- java/lang/StringUTF16 -/
def k10 : Class := { plain "java/lang/StringUTF16" (some 0) with
  accessFlags := 48
  interfaces := #[]
  cf := some (fileOf pool10 12 #[.nestMembers #[627, 629, 369]] #[{ accessFlags := 0, nameIndex := 9, descriptorIndex := 10, attributes := #[] }, { accessFlags := 9, nameIndex := 109, descriptorIndex := 110, attributes := #[] }, { accessFlags := 9, nameIndex := 15, descriptorIndex := 16, attributes := #[] }, { accessFlags := 8, nameIndex := 113, descriptorIndex := 114, attributes := #[] }, { accessFlags := 8, nameIndex := 73, descriptorIndex := 74, attributes := #[] }, { accessFlags := 9, nameIndex := 50, descriptorIndex := 51, attributes := #[] }, { accessFlags := 9, nameIndex := 121, descriptorIndex := 122, attributes := #[] }, { accessFlags := 8, nameIndex := 261, descriptorIndex := 262, attributes := #[] }, { accessFlags := 9, nameIndex := 117, descriptorIndex := 122, attributes := #[] }, { accessFlags := 9, nameIndex := 117, descriptorIndex := 118, attributes := #[] }, { accessFlags := 9, nameIndex := 392, descriptorIndex := 74, attributes := #[] }, { accessFlags := 9, nameIndex := 69, descriptorIndex := 70, attributes := #[] }] 48 6 #[] #[{ accessFlags := 26, nameIndex := 61, descriptorIndex := 62, attributes := #[] }, { accessFlags := 26, nameIndex := 65, descriptorIndex := 62, attributes := #[] }, { accessFlags := 24, nameIndex := 430, descriptorIndex := 62, attributes := #[] }, { accessFlags := 4120, nameIndex := 46, descriptorIndex := 47, attributes := #[] }])
  fields := #[{ name := "HI_BYTE_SHIFT", type := .int, accessFlags := 26, slot := 0, constantValue := 0 }, { name := "LO_BYTE_SHIFT", type := .int, accessFlags := 26, slot := 1, constantValue := 0 }, { name := "MAX_LENGTH", type := .int, accessFlags := 24, slot := 2, constantValue := 0 }, { name := "$assertionsDisabled", type := .boolean, accessFlags := 4120, slot := 3, constantValue := 0 }]
  methods := #[k10m0, k10m1, k10m2, k10m3, k10m4, k10m5, k10m6, k10m7, k10m8, k10m9, k10m10, k10m11]
  instanceTypes := #[]
  staticTypes := #[.int, .int, .int, .boolean]
  resolved := Array.replicate 635 none
  statics := some 1 }

def pool11 : Array CpInfo := pool [(1, .class_ 2), (0, u "java/lang/String"), (1, .class_ 6), (1, u "java/lang/Object"), (0, u "<init>"), (0, u "()V"), (0, .methodref 1 10), (0, .nameAndType 11 12), (0, u "checkIndex"), (0, u "(II)V"), (1, .class_ 16), (1, u "java/lang/StringLatin1"), (21, .methodref 39 40), (0, .class_ 41), (0, .nameAndType 42 43), (0, u "java/lang/Math"), (0, u "min"), (0, u "(II)I"), (9, u "([BI)C"), (34, .methodref 14 89), (0, .nameAndType 90 91), (0, u "canEncode"), (0, u "(I)Z"), (0, .methodref 39 93), (0, .nameAndType 94 43), (0, u "max"), (0, .methodref 14 96), (0, .nameAndType 97 98), (0, u "indexOfChar"), (0, u "([BIII)I"), (2, u "indexOf"), (19, u "$assertionsDisabled"), (0, u "Z"), (98, .class_ 223), (1, u "java/lang/StringLatin1$LinesSpliterator"), (28, u "charAt"), (137, .class_ 391), (0, u "java/lang/StringLatin1$CharsSpliterator")] 3

def k11m0 : Method := { name := "<init>", desc := "()V", sig := { parameters := [], returnType := none }, accessFlags := 0, code := none }
def k11c1 : Code := { maxStack := 2, maxLocals := 2, code := jdk_43_method_2_code, exceptionTable := #[], attributes := #[] }
def k11m1 : Method := { name := "charAt", desc := "([BI)C", sig := { parameters := [(.array .byte), .int], returnType := some .char }, accessFlags := 9, code := some k11c1 }
def k11c2 : Code := { maxStack := 2, maxLocals := 1, code := jdk_43_method_4_code, exceptionTable := #[], attributes := #[] }
def k11m2 : Method := { name := "canEncode", desc := "(I)Z", sig := { parameters := [.int], returnType := some .boolean }, accessFlags := 9, code := some k11c2 }
def k11c3 : Code := { maxStack := 4, maxLocals := 4, code := jdk_43_method_22_code, exceptionTable := #[], attributes := #[] }
def k11m3 : Method := { name := "indexOf", desc := "([BIII)I", sig := { parameters := [(.array .byte), .int, .int, .int], returnType := some .int }, accessFlags := 9, code := some k11c3 }
def k11c4 : Code := { maxStack := 2, maxLocals := 6, code := jdk_43_method_23_code, exceptionTable := #[], attributes := #[] }
def k11m4 : Method := { name := "indexOfChar", desc := "([BIII)I", sig := { parameters := [(.array .byte), .int, .int, .int], returnType := some .int }, accessFlags := 10, code := some k11c4 }
/-- java/lang/StringLatin1 -/
def k11 : Class := { plain "java/lang/StringLatin1" (some 0) with
  accessFlags := 48
  interfaces := #[]
  cf := some (fileOf pool11 14 #[.nestMembers #[390, 221]] #[{ accessFlags := 0, nameIndex := 7, descriptorIndex := 8, attributes := #[] }, { accessFlags := 9, nameIndex := 252, descriptorIndex := 53, attributes := #[] }, { accessFlags := 9, nameIndex := 90, descriptorIndex := 91, attributes := #[] }, { accessFlags := 9, nameIndex := 101, descriptorIndex := 98, attributes := #[] }, { accessFlags := 10, nameIndex := 97, descriptorIndex := 98, attributes := #[] }] 48 4 #[] #[{ accessFlags := 4120, nameIndex := 121, descriptorIndex := 122, attributes := #[] }])
  fields := #[{ name := "$assertionsDisabled", type := .boolean, accessFlags := 4120, slot := 0, constantValue := 0 }]
  methods := #[k11m0, k11m1, k11m2, k11m3, k11m4]
  instanceTypes := #[]
  staticTypes := #[.boolean]
  resolved := Array.replicate 395 none
  statics := none }

def pool12 : Array CpInfo := pool [(2, .class_ 4), (1, u "java/lang/Object"), (0, u "<init>"), (0, u "()V"), (17, .class_ 26), (1, u "jdk/internal/util/Preconditions"), (6, u "checkIndex"), (21, .class_ 56), (0, u "jdk/internal/util/Preconditions$4"), (57, .class_ 115), (0, u "jdk/internal/util/Preconditions$1"), (7, u "SIOOBE_FORMATTER"), (0, u "Ljava/util/function/BiFunction;"), (0, .class_ 126), (0, u "jdk/internal/util/Preconditions$2"), (3, u "AIOOBE_FORMATTER"), (0, .class_ 132), (0, u "jdk/internal/util/Preconditions$3"), (3, u "IOOBE_FORMATTER"), (41, u "(IILjava/util/function/BiFunction;)I")] 15

def k12m0 : Method := { name := "<init>", desc := "()V", sig := { parameters := [], returnType := none }, accessFlags := 1, code := none }
def k12c1 : Code := { maxStack := 3, maxLocals := 3, code := jdk_41_method_11_code, exceptionTable := #[], attributes := #[] }
def k12m1 : Method := { name := "checkIndex", desc := "(IILjava/util/function/BiFunction;)I", sig := { parameters := [.int, .int, (.object "java/util/function/BiFunction")], returnType := some .int }, accessFlags := 9, code := some k12c1 }
/-- jdk/internal/util/Preconditions -/
def k12 : Class := { plain "jdk/internal/util/Preconditions" (some 0) with
  accessFlags := 33
  interfaces := #[]
  cf := some (fileOf pool12 24 #[.nestMembers #[55, 131, 125, 114]] #[{ accessFlags := 1, nameIndex := 5, descriptorIndex := 6, attributes := #[] }, { accessFlags := 9, nameIndex := 33, descriptorIndex := 178, attributes := #[] }] 33 2 #[] #[{ accessFlags := 25, nameIndex := 123, descriptorIndex := 124, attributes := #[] }, { accessFlags := 25, nameIndex := 130, descriptorIndex := 124, attributes := #[] }, { accessFlags := 25, nameIndex := 136, descriptorIndex := 124, attributes := #[] }])
  fields := #[{ name := "SIOOBE_FORMATTER", type := (.object "java/util/function/BiFunction"), accessFlags := 25, slot := 0, constantValue := 0 }, { name := "AIOOBE_FORMATTER", type := (.object "java/util/function/BiFunction"), accessFlags := 25, slot := 1, constantValue := 0 }, { name := "IOOBE_FORMATTER", type := (.object "java/util/function/BiFunction"), accessFlags := 25, slot := 2, constantValue := 0 }]
  methods := #[k12m0, k12m1]
  instanceTypes := #[]
  staticTypes := #[(.object "java/util/function/BiFunction"), (.object "java/util/function/BiFunction"), (.object "java/util/function/BiFunction")]
  resolved := Array.replicate 194 none
  statics := some 2 }

def pool13 : Array CpInfo := pool [(1, .class_ 2), (0, u "java/lang/Math"), (1, .class_ 6), (1, u "java/lang/Object"), (0, u "<init>"), (0, u "()V"), (89, .class_ 100), (1, u "java/lang/Math$RandomNumberGeneratorHolder"), (71, u "negativeZeroFloatBits"), (0, u "J"), (2, u "negativeZeroDoubleBits"), (21, u "max"), (2, u "min"), (43, u "$assertionsDisabled"), (0, u "Z"), (88, u "(II)I"), (2, u "twoToTheDoubleScaleDown"), (0, u "D"), (4, u "twoToTheDoubleScaleUp"), (9, u "E"), (3, u "PI"), (2, u "TAU"), (2, u "DEGREES_TO_RADIANS"), (0, u "RADIANS_TO_DEGREES")] 94

def k13m0 : Method := { name := "<init>", desc := "()V", sig := { parameters := [], returnType := none }, accessFlags := 2, code := none }
def k13c1 : Code := { maxStack := 2, maxLocals := 2, code := jdk_29_method_65_code, exceptionTable := #[], attributes := #[] }
def k13m1 : Method := { name := "max", desc := "(II)I", sig := { parameters := [.int, .int], returnType := some .int }, accessFlags := 9, code := some k13c1 }
def k13c2 : Code := { maxStack := 2, maxLocals := 2, code := jdk_29_method_69_code, exceptionTable := #[], attributes := #[] }
def k13m2 : Method := { name := "min", desc := "(II)I", sig := { parameters := [.int, .int], returnType := some .int }, accessFlags := 9, code := some k13c2 }
/-- java/lang/Math -/
def k13 : Class := { plain "java/lang/Math" (some 0) with
  accessFlags := 49
  interfaces := #[]
  cf := some (fileOf pool13 1 #[.nestMembers #[98]] #[{ accessFlags := 2, nameIndex := 7, descriptorIndex := 8, attributes := #[] }, { accessFlags := 9, nameIndex := 198, descriptorIndex := 335, attributes := #[] }, { accessFlags := 9, nameIndex := 201, descriptorIndex := 335, attributes := #[] }] 49 4 #[] #[{ accessFlags := 25, nameIndex := 354, descriptorIndex := 339, attributes := #[] }, { accessFlags := 25, nameIndex := 358, descriptorIndex := 339, attributes := #[] }, { accessFlags := 25, nameIndex := 361, descriptorIndex := 339, attributes := #[] }, { accessFlags := 26, nameIndex := 364, descriptorIndex := 339, attributes := #[] }, { accessFlags := 26, nameIndex := 365, descriptorIndex := 339, attributes := #[] }, { accessFlags := 26, nameIndex := 172, descriptorIndex := 173, attributes := #[] }, { accessFlags := 26, nameIndex := 176, descriptorIndex := 173, attributes := #[] }, { accessFlags := 8, nameIndex := 344, descriptorIndex := 339, attributes := #[] }, { accessFlags := 8, nameIndex := 338, descriptorIndex := 339, attributes := #[] }, { accessFlags := 4120, nameIndex := 245, descriptorIndex := 246, attributes := #[] }])
  fields := #[{ name := "E", type := .double, accessFlags := 25, slot := 0, constantValue := 0 }, { name := "PI", type := .double, accessFlags := 25, slot := 1, constantValue := 0 }, { name := "TAU", type := .double, accessFlags := 25, slot := 2, constantValue := 0 }, { name := "DEGREES_TO_RADIANS", type := .double, accessFlags := 26, slot := 3, constantValue := 0 }, { name := "RADIANS_TO_DEGREES", type := .double, accessFlags := 26, slot := 4, constantValue := 0 }, { name := "negativeZeroFloatBits", type := .long, accessFlags := 26, slot := 5, constantValue := 0 }, { name := "negativeZeroDoubleBits", type := .long, accessFlags := 26, slot := 6, constantValue := 0 }, { name := "twoToTheDoubleScaleUp", type := .double, accessFlags := 8, slot := 7, constantValue := 0 }, { name := "twoToTheDoubleScaleDown", type := .double, accessFlags := 8, slot := 8, constantValue := 0 }, { name := "$assertionsDisabled", type := .boolean, accessFlags := 4120, slot := 9, constantValue := 0 }]
  methods := #[k13m0, k13m1, k13m2]
  instanceTypes := #[]
  staticTypes := #[.double, .double, .double, .double, .double, .long, .long, .double, .double, .boolean]
  resolved := Array.replicate 460 none
  statics := none }

def pool14 : Array CpInfo := pool [(9, u "<init>"), (6, .class_ 18), (1, u "java/lang/Object"), (0, u "()V"), (1, .class_ 23), (1, u "jdk/internal/util/ArraysSupport"), (0, u "LOG2_ARRAY_LONG_INDEX_SCALE"), (0, u "I"), (2, u "U"), (0, u "Ljdk/internal/misc/Unsafe;"), (8, u "BIG_ENDIAN"), (0, u "Z"), (8, u "LOG2_BYTE_BIT_SIZE"), (4, u "LOG2_ARRAY_INT_INDEX_SCALE"), (54, u "JLA"), (0, u "Ljdk/internal/access/JavaLangAccess;"), (11, u "LOG2_ARRAY_BOOLEAN_INDEX_SCALE"), (9, u "LOG2_ARRAY_BYTE_INDEX_SCALE"), (5, u "LOG2_ARRAY_CHAR_INDEX_SCALE"), (5, u "LOG2_ARRAY_SHORT_INDEX_SCALE"), (18, u "LOG2_ARRAY_FLOAT_INDEX_SCALE"), (24, u "LOG2_ARRAY_DOUBLE_INDEX_SCALE"), (89, u "T_BOOLEAN"), (2, u "T_CHAR"), (1, u "T_FLOAT"), (1, u "T_DOUBLE"), (1, u "T_BYTE"), (1, u "T_SHORT"), (1, u "T_INT"), (1, u "T_LONG"), (1, u "SOFT_MAX_ARRAY_LENGTH")] 83

def k14m0 : Method := { name := "<init>", desc := "()V", sig := { parameters := [], returnType := none }, accessFlags := 2, code := none }
/-- jdk/internal/util/ArraysSupport -/
def k14 : Class := { plain "jdk/internal/util/ArraysSupport" (some 0) with
  accessFlags := 33
  interfaces := #[]
  cf := some (fileOf pool14 21 #[] #[{ accessFlags := 2, nameIndex := 9, descriptorIndex := 19, attributes := #[] }] 33 16 #[] #[{ accessFlags := 24, nameIndex := 28, descriptorIndex := 29, attributes := #[] }, { accessFlags := 26, nameIndex := 38, descriptorIndex := 39, attributes := #[] }, { accessFlags := 25, nameIndex := 121, descriptorIndex := 25, attributes := #[] }, { accessFlags := 25, nameIndex := 131, descriptorIndex := 25, attributes := #[] }, { accessFlags := 25, nameIndex := 137, descriptorIndex := 25, attributes := #[] }, { accessFlags := 25, nameIndex := 143, descriptorIndex := 25, attributes := #[] }, { accessFlags := 25, nameIndex := 53, descriptorIndex := 25, attributes := #[] }, { accessFlags := 25, nameIndex := 24, descriptorIndex := 25, attributes := #[] }, { accessFlags := 25, nameIndex := 162, descriptorIndex := 25, attributes := #[] }, { accessFlags := 25, nameIndex := 187, descriptorIndex := 25, attributes := #[] }, { accessFlags := 26, nameIndex := 48, descriptorIndex := 25, attributes := #[] }, { accessFlags := 25, nameIndex := 277, descriptorIndex := 25, attributes := #[] }, { accessFlags := 25, nameIndex := 280, descriptorIndex := 25, attributes := #[] }, { accessFlags := 25, nameIndex := 282, descriptorIndex := 25, attributes := #[] }, { accessFlags := 25, nameIndex := 284, descriptorIndex := 25, attributes := #[] }, { accessFlags := 25, nameIndex := 286, descriptorIndex := 25, attributes := #[] }, { accessFlags := 25, nameIndex := 288, descriptorIndex := 25, attributes := #[] }, { accessFlags := 25, nameIndex := 290, descriptorIndex := 25, attributes := #[] }, { accessFlags := 25, nameIndex := 292, descriptorIndex := 25, attributes := #[] }, { accessFlags := 26, nameIndex := 108, descriptorIndex := 109, attributes := #[] }, { accessFlags := 25, nameIndex := 294, descriptorIndex := 25, attributes := #[] }])
  fields := #[{ name := "U", type := (.object "jdk/internal/misc/Unsafe"), accessFlags := 24, slot := 0, constantValue := 0 }, { name := "BIG_ENDIAN", type := .boolean, accessFlags := 26, slot := 1, constantValue := 0 }, { name := "LOG2_ARRAY_BOOLEAN_INDEX_SCALE", type := .int, accessFlags := 25, slot := 2, constantValue := 0 }, { name := "LOG2_ARRAY_BYTE_INDEX_SCALE", type := .int, accessFlags := 25, slot := 3, constantValue := 0 }, { name := "LOG2_ARRAY_CHAR_INDEX_SCALE", type := .int, accessFlags := 25, slot := 4, constantValue := 0 }, { name := "LOG2_ARRAY_SHORT_INDEX_SCALE", type := .int, accessFlags := 25, slot := 5, constantValue := 0 }, { name := "LOG2_ARRAY_INT_INDEX_SCALE", type := .int, accessFlags := 25, slot := 6, constantValue := 0 }, { name := "LOG2_ARRAY_LONG_INDEX_SCALE", type := .int, accessFlags := 25, slot := 7, constantValue := 0 }, { name := "LOG2_ARRAY_FLOAT_INDEX_SCALE", type := .int, accessFlags := 25, slot := 8, constantValue := 0 }, { name := "LOG2_ARRAY_DOUBLE_INDEX_SCALE", type := .int, accessFlags := 25, slot := 9, constantValue := 0 }, { name := "LOG2_BYTE_BIT_SIZE", type := .int, accessFlags := 26, slot := 10, constantValue := 0 }, { name := "T_BOOLEAN", type := .int, accessFlags := 25, slot := 11, constantValue := 0 }, { name := "T_CHAR", type := .int, accessFlags := 25, slot := 12, constantValue := 0 }, { name := "T_FLOAT", type := .int, accessFlags := 25, slot := 13, constantValue := 0 }, { name := "T_DOUBLE", type := .int, accessFlags := 25, slot := 14, constantValue := 0 }, { name := "T_BYTE", type := .int, accessFlags := 25, slot := 15, constantValue := 0 }, { name := "T_SHORT", type := .int, accessFlags := 25, slot := 16, constantValue := 0 }, { name := "T_INT", type := .int, accessFlags := 25, slot := 17, constantValue := 0 }, { name := "T_LONG", type := .int, accessFlags := 25, slot := 18, constantValue := 0 }, { name := "JLA", type := (.object "jdk/internal/access/JavaLangAccess"), accessFlags := 26, slot := 19, constantValue := 0 }, { name := "SOFT_MAX_ARRAY_LENGTH", type := .int, accessFlags := 25, slot := 20, constantValue := 0 }]
  methods := #[k14m0]
  instanceTypes := #[]
  staticTypes := #[(.object "jdk/internal/misc/Unsafe"), .boolean, .int, .int, .int, .int, .int, .int, .int, .int, .int, .int, .int, .int, .int, .int, .int, .int, .int, (.object "jdk/internal/access/JavaLangAccess"), .int]
  resolved := Array.replicate 378 none
  statics := none }

def pool15 : Array CpInfo := pool [(1, u "java/lang/Cloneable"), (0, .class_ 1), (0, u "java/lang/Object"), (0, .class_ 3)] 3

/-- java/lang/Cloneable -/
def k15 : Class := { plain "java/lang/Cloneable" (some 0) with
  accessFlags := 1537
  interfaces := #[]
  cf := some (fileOf pool15 2 #[] #[] 1537 4 #[] #[])
  fields := #[]
  methods := #[]
  instanceTypes := #[]
  staticTypes := #[]
  resolved := Array.replicate 8 none
  statics := none }

/-- the primitive byte -/
def k16 : Class := { plain "byte" none with kind := .primitive 'B', accessFlags := 0x411 }
/-- [B -/
def k17 : Class := { plain "[B" (some 0) with kind := .array 16 .byte, interfaces := #[15, 2], accessFlags := 1041 }

/-- the primitive char -/
def k18 : Class := { plain "char" none with kind := .primitive 'C', accessFlags := 0x411 }
/-- [C -/
def k19 : Class := { plain "[C" (some 0) with kind := .array 18 .char, interfaces := #[15, 2], accessFlags := 1041 }

/-- the primitive int -/
def k20 : Class := { plain "int" none with kind := .primitive 'I', accessFlags := 0x411 }
/-- [I -/
def k21 : Class := { plain "[I" (some 0) with kind := .array 20 .int, interfaces := #[15, 2], accessFlags := 1041 }

def heap : Heap := #[{ cls := 7, slots := #[.long 0, .int 1, .null, .int 0, .null, .int 0, .int 0], vm := .statics 7 },
  { cls := 10, slots := #[.int 0, .int 8, .int 0, .int 1], vm := .statics 10 },
  { cls := 12, slots := #[.null, .null, .null], vm := .statics 12 }]
def classes : Array Class := #[k0, k1, k2, k3, k4, k5, k6, k7, k8, k9, k10, k11, k12, k13, k14, k15, k16, k17, k18, k19, k20, k21]
def interned : List (Array UInt16 × Addr) := []
def slotsUsed : Nat := 14
def theMethod : MethodId := ⟨1, 1⟩
def args0 : Array Value := #[.int 0, .int 1, .int 2, .int 3]
def aboutOver (below : List Frame) : State where
  vm := { classes := classes, interned := interned.toArray }
  heap := heap
  slotsUsed := slotsUsed
  threads := #[{ frames := .invoking theMethod args0 :: below }]
def below0 : List Frame := [.native { method := ⟨0, 0⟩, args := #[] }]
def about1 : State := aboutOver below0
def p0 : Program := .bare "" "" ""
def e0 : Env := launch0.env 0 0 0
theorem w_frames : about1.frames = Frame.invoking theMethod args0 :: below0 := rfl
set_option maxRecDepth 65536 in
theorem w_args : argsFit about1.vm theMethod args0 = true := by decide +kernel
set_option maxRecDepth 65536 in
theorem w_heap : heapFits about1 = true := by decide +kernel
set_option maxRecDepth 65536 in
theorem w_runnable : about1.curStatus? = some .runnable := by decide +kernel
set_option maxRecDepth 65536 in
theorem w_alone : about1.alone = true := by decide +kernel
set_option maxRecDepth 65536 in
theorem w_named : about1.methodNamed? x = some theMethod := by decide +kernel
set_option maxRecDepth 65536 in
theorem w_hears : about1.hears theMethod below0 = true := by decide +kernel
set_option maxRecDepth 65536 in
theorem w_ripe : about1.ripe theMethod args0 below0 = true := by decide +kernel
theorem w_running : about1.status = .running := rfl
set_option maxRecDepth 65536 in
theorem w_room : about1.hasRoom e0.platform room_1 = true :=
  launch0.hasRoom_least _ room_1 (by decide +kernel) (by decide +kernel) (by decide +kernel) (by decide +kernel) (by decide +kernel) (by decide +kernel)
theorem allAtoms_all (ts : List Jvm.Cond) (a : Array Jvm.Value) (st : Jvm.State) : (allAtoms ts).before a st = ts.all (fun c => c.before a st) := by
  induction ts with
  | nil => rfl
  | cons c t ih =>
    show (Jvm.Cond.and c (allAtoms t)).before a st = _
    rw [Jvm.Cond.before_and, ih, List.all_cons]
def words1 : List Jvm.Cond := Jvm.Cond.code x code maxLocals ret :: tables_1
/-- a 'code' word, met by the world's own term for the bytes: nothing is compared byte by byte -/
theorem code_word {y : MethodName} {bytes : ByteArray} {mx : Nat} {rt : Option FieldType} {a : Array Value} {s : State} {m : MethodId} {meth : Method} {c : Code} (h1 : s.methodNamed? y = some m) (h2 : s.vm.method? m = some meth) (h3 : meth.code = some c) (h4 : c.code = bytes)
    (h5 : (c.maxLocals == mx && c.exceptionTable.isEmpty && decide (c.maxStack ≤ mostOperands) && decide (meth.sig.returnType = rt) && !meth.locks && decide (parseMethodDescriptor y.desc = some meth.sig)) = true) : (Jvm.Cond.code y bytes mx rt).before a s = true := by
  simp only [Bool.and_eq_true, beq_iff_eq, Bool.not_eq_true', decide_eq_true_eq] at h5
  obtain ⟨⟨⟨⟨⟨g1, g2⟩, g3⟩, g4⟩, g5⟩, g6⟩ := h5
  simp [Cond.before, Cond.holds, Cond.value, h1, h2, h3, h4, g1, g2, g3, g4, g5, g6]
def isCode : Jvm.Cond → Bool
  | .code _ _ _ _ => true
  | _ => false
theorem all_split {L : List Jvm.Cond} {P : Jvm.Cond → Bool} (h1 : L.all (fun c => isCode c || P c) = true) (h2 : ∀ c ∈ L.filter isCode, P c = true) : L.all P = true := by
  refine List.all_eq_true.mpr fun c hc => ?_
  have h := List.all_eq_true.mp h1 c hc
  rcases Bool.eq_false_or_eq_true (isCode c) with hi | hi
  · exact h2 c (List.mem_filter.mpr ⟨hc, hi⟩)
  · simpa [hi] using h
set_option maxRecDepth 65536 in
theorem w_c0 : (Jvm.Cond.code x code maxLocals ret).before args0 about1 = true := code_word (m := ⟨1, 1⟩) (meth := k1m1) (c := k1c1) (by decide +kernel) rfl rfl rfl (by decide +kernel)
set_option maxRecDepth 65536 in
theorem w_c1 : (Jvm.Cond.code ({ cls := "com/example/waxwing/waxwing/http/HeadTokenPinLaw", name := "draw", desc := "(I)C" } : Jvm.MethodName) method_3_code (1 : Nat) (Option.some Jvm.ClassFile.FieldType.char)).before args0 about1 = true := code_word (m := ⟨1, 2⟩) (meth := k1m2) (c := k1c2) (by decide +kernel) rfl rfl rfl (by decide +kernel)
set_option maxRecDepth 65536 in
theorem w_c2 : (Jvm.Cond.code ({ cls := "java/lang/String", name := "<init>", desc := "([C)V" } : Jvm.MethodName) jdk_42_method_3_code (2 : Nat) (Option.none : Option Jvm.ClassFile.FieldType)).before args0 about1 = true := code_word (m := ⟨7, 1⟩) (meth := k7m1) (c := k7c1) (by decide +kernel) rfl rfl rfl (by decide +kernel)
set_option maxRecDepth 65536 in
theorem w_c3 : (Jvm.Cond.code ({ cls := "java/lang/String", name := "<init>", desc := "([CIILjava/lang/Void;)V" } : Jvm.MethodName) jdk_42_method_149_code (6 : Nat) (Option.none : Option Jvm.ClassFile.FieldType)).before args0 about1 = true := code_word (m := ⟨7, 7⟩) (meth := k7m7) (c := k7c7) (by decide +kernel) rfl rfl rfl (by decide +kernel)
set_option maxRecDepth 65536 in
theorem w_c4 : (Jvm.Cond.code ({ cls := "java/lang/Object", name := "<init>", desc := "()V" } : Jvm.MethodName) object_method_1_code (1 : Nat) (Option.none : Option Jvm.ClassFile.FieldType)).before args0 about1 = true := code_word (m := ⟨0, 0⟩) (meth := k0m0) (c := k0c0) (by decide +kernel) rfl rfl rfl (by decide +kernel)
set_option maxRecDepth 65536 in
theorem w_c5 : (Jvm.Cond.code ({ cls := "com/example/waxwing/waxwing/http/Head", name := "token", desc := "(Ljava/lang/String;)Z" } : Jvm.MethodName) prog_14_method_3_code (4 : Nat) (Option.some Jvm.ClassFile.FieldType.boolean)).before args0 about1 = true := code_word (m := ⟨9, 0⟩) (meth := k9m0) (c := k9c0) (by decide +kernel) rfl rfl rfl (by decide +kernel)
set_option maxRecDepth 65536 in
theorem w_c6 : (Jvm.Cond.code ({ cls := "java/lang/String", name := "length", desc := "()I" } : Jvm.MethodName) jdk_42_method_54_code (1 : Nat) (Option.some Jvm.ClassFile.FieldType.int)).before args0 about1 = true := code_word (m := ⟨7, 2⟩) (meth := k7m2) (c := k7c2) (by decide +kernel) rfl rfl rfl (by decide +kernel)
set_option maxRecDepth 65536 in
theorem w_c7 : (Jvm.Cond.code ({ cls := "java/lang/String", name := "coder", desc := "()B" } : Jvm.MethodName) jdk_42_method_152_code (1 : Nat) (Option.some Jvm.ClassFile.FieldType.byte)).before args0 about1 = true := code_word (m := ⟨7, 8⟩) (meth := k7m8) (c := k7c8) (by decide +kernel) rfl rfl rfl (by decide +kernel)
set_option maxRecDepth 65536 in
theorem w_c8 : (Jvm.Cond.code ({ cls := "java/lang/String", name := "isEmpty", desc := "()Z" } : Jvm.MethodName) jdk_42_method_55_code (1 : Nat) (Option.some Jvm.ClassFile.FieldType.boolean)).before args0 about1 = true := code_word (m := ⟨7, 3⟩) (meth := k7m3) (c := k7c3) (by decide +kernel) rfl rfl rfl (by decide +kernel)
set_option maxRecDepth 65536 in
theorem w_c9 : (Jvm.Cond.code ({ cls := "java/lang/StringUTF16", name := "compress", desc := "([CII)[B" } : Jvm.MethodName) jdk_52_method_16_code (6 : Nat) (Option.some (Jvm.ClassFile.FieldType.array Jvm.ClassFile.FieldType.byte))).before args0 about1 = true := code_word (m := ⟨10, 8⟩) (meth := k10m8) (c := k10c8) (by decide +kernel) rfl rfl rfl (by decide +kernel)
set_option maxRecDepth 65536 in
theorem w_c10 : (Jvm.Cond.code ({ cls := "java/lang/StringUTF16", name := "compress", desc := "([CI[BII)I" } : Jvm.MethodName) jdk_52_method_21_code (7 : Nat) (Option.some Jvm.ClassFile.FieldType.int)).before args0 about1 = true := code_word (m := ⟨10, 9⟩) (meth := k10m9) (c := k10c9) (by decide +kernel) rfl rfl rfl (by decide +kernel)
set_option maxRecDepth 65536 in
theorem w_c11 : (Jvm.Cond.code ({ cls := "java/lang/StringUTF16", name := "coderFromArrayLen", desc := "([BI)B" } : Jvm.MethodName) jdk_52_method_15_code (2 : Nat) (Option.some Jvm.ClassFile.FieldType.byte)).before args0 about1 = true := code_word (m := ⟨10, 7⟩) (meth := k10m7) (c := k10c7) (by decide +kernel) rfl rfl rfl (by decide +kernel)
set_option maxRecDepth 65536 in
theorem w_c12 : (Jvm.Cond.code ({ cls := "com/example/waxwing/waxwing/http/HeadTokenPinLaw", name := "tchar", desc := "(C)Z" } : Jvm.MethodName) method_4_code (1 : Nat) (Option.some Jvm.ClassFile.FieldType.boolean)).before args0 about1 = true := code_word (m := ⟨1, 3⟩) (meth := k1m3) (c := k1c3) (by decide +kernel) rfl rfl rfl (by decide +kernel)
set_option maxRecDepth 65536 in
theorem w_c13 : (Jvm.Cond.code ({ cls := "java/lang/String", name := "charAt", desc := "(I)C" } : Jvm.MethodName) jdk_42_method_56_code (2 : Nat) (Option.some Jvm.ClassFile.FieldType.char)).before args0 about1 = true := code_word (m := ⟨7, 4⟩) (meth := k7m4) (c := k7c4) (by decide +kernel) rfl rfl rfl (by decide +kernel)
set_option maxRecDepth 65536 in
theorem w_c14 : (Jvm.Cond.code ({ cls := "java/lang/String", name := "isLatin1", desc := "()Z" } : Jvm.MethodName) jdk_42_method_154_code (1 : Nat) (Option.some Jvm.ClassFile.FieldType.boolean)).before args0 about1 = true := code_word (m := ⟨7, 9⟩) (meth := k7m9) (c := k7c9) (by decide +kernel) rfl rfl rfl (by decide +kernel)
set_option maxRecDepth 65536 in
theorem w_c15 : (Jvm.Cond.code ({ cls := "java/lang/StringLatin1", name := "charAt", desc := "([BI)C" } : Jvm.MethodName) jdk_43_method_2_code (2 : Nat) (Option.some Jvm.ClassFile.FieldType.char)).before args0 about1 = true := code_word (m := ⟨11, 1⟩) (meth := k11m1) (c := k11c1) (by decide +kernel) rfl rfl rfl (by decide +kernel)
set_option maxRecDepth 65536 in
theorem w_c16 : (Jvm.Cond.code ({ cls := "java/lang/String", name := "checkIndex", desc := "(II)V" } : Jvm.MethodName) jdk_42_method_155_code (2 : Nat) (Option.none : Option Jvm.ClassFile.FieldType)).before args0 about1 = true := code_word (m := ⟨7, 10⟩) (meth := k7m10) (c := k7c10) (by decide +kernel) rfl rfl rfl (by decide +kernel)
set_option maxRecDepth 65536 in
theorem w_c17 : (Jvm.Cond.code ({ cls := "jdk/internal/util/Preconditions", name := "checkIndex", desc := "(IILjava/util/function/BiFunction;)I" } : Jvm.MethodName) jdk_41_method_11_code (3 : Nat) (Option.some Jvm.ClassFile.FieldType.int)).before args0 about1 = true := code_word (m := ⟨12, 1⟩) (meth := k12m1) (c := k12c1) (by decide +kernel) rfl rfl rfl (by decide +kernel)
set_option maxRecDepth 65536 in
theorem w_c18 : (Jvm.Cond.code ({ cls := "java/lang/String", name := "indexOf", desc := "(I)I" } : Jvm.MethodName) jdk_42_method_79_code (2 : Nat) (Option.some Jvm.ClassFile.FieldType.int)).before args0 about1 = true := code_word (m := ⟨7, 5⟩) (meth := k7m5) (c := k7c5) (by decide +kernel) rfl rfl rfl (by decide +kernel)
set_option maxRecDepth 65536 in
theorem w_c19 : (Jvm.Cond.code ({ cls := "java/lang/String", name := "indexOf", desc := "(II)I" } : Jvm.MethodName) jdk_42_method_80_code (3 : Nat) (Option.some Jvm.ClassFile.FieldType.int)).before args0 about1 = true := code_word (m := ⟨7, 6⟩) (meth := k7m6) (c := k7c6) (by decide +kernel) rfl rfl rfl (by decide +kernel)
set_option maxRecDepth 65536 in
theorem w_c20 : (Jvm.Cond.code ({ cls := "java/lang/StringLatin1", name := "indexOf", desc := "([BIII)I" } : Jvm.MethodName) jdk_43_method_22_code (4 : Nat) (Option.some Jvm.ClassFile.FieldType.int)).before args0 about1 = true := code_word (m := ⟨11, 3⟩) (meth := k11m3) (c := k11c3) (by decide +kernel) rfl rfl rfl (by decide +kernel)
set_option maxRecDepth 65536 in
theorem w_c21 : (Jvm.Cond.code ({ cls := "java/lang/StringLatin1", name := "canEncode", desc := "(I)Z" } : Jvm.MethodName) jdk_43_method_4_code (1 : Nat) (Option.some Jvm.ClassFile.FieldType.boolean)).before args0 about1 = true := code_word (m := ⟨11, 2⟩) (meth := k11m2) (c := k11c2) (by decide +kernel) rfl rfl rfl (by decide +kernel)
set_option maxRecDepth 65536 in
theorem w_c22 : (Jvm.Cond.code ({ cls := "java/lang/Math", name := "max", desc := "(II)I" } : Jvm.MethodName) jdk_29_method_65_code (2 : Nat) (Option.some Jvm.ClassFile.FieldType.int)).before args0 about1 = true := code_word (m := ⟨13, 1⟩) (meth := k13m1) (c := k13c1) (by decide +kernel) rfl rfl rfl (by decide +kernel)
set_option maxRecDepth 65536 in
theorem w_c23 : (Jvm.Cond.code ({ cls := "java/lang/Math", name := "min", desc := "(II)I" } : Jvm.MethodName) jdk_29_method_69_code (2 : Nat) (Option.some Jvm.ClassFile.FieldType.int)).before args0 about1 = true := code_word (m := ⟨13, 2⟩) (meth := k13m2) (c := k13c2) (by decide +kernel) rfl rfl rfl (by decide +kernel)
set_option maxRecDepth 65536 in
theorem w_c24 : (Jvm.Cond.code ({ cls := "java/lang/StringLatin1", name := "indexOfChar", desc := "([BIII)I" } : Jvm.MethodName) jdk_43_method_23_code (6 : Nat) (Option.some Jvm.ClassFile.FieldType.int)).before args0 about1 = true := code_word (m := ⟨11, 4⟩) (meth := k11m4) (c := k11c4) (by decide +kernel) rfl rfl rfl (by decide +kernel)
set_option maxRecDepth 65536 in
theorem w_c25 : (Jvm.Cond.code ({ cls := "java/lang/StringUTF16", name := "toBytes", desc := "([CII)[B" } : Jvm.MethodName) jdk_52_method_14_code (5 : Nat) (Option.some (Jvm.ClassFile.FieldType.array Jvm.ClassFile.FieldType.byte))).before args0 about1 = true := code_word (m := ⟨10, 6⟩) (meth := k10m6) (c := k10c6) (by decide +kernel) rfl rfl rfl (by decide +kernel)
set_option maxRecDepth 65536 in
theorem w_c26 : (Jvm.Cond.code ({ cls := "java/lang/StringUTF16", name := "newBytesFor", desc := "(I)[B" } : Jvm.MethodName) jdk_52_method_2_code (1 : Nat) (Option.some (Jvm.ClassFile.FieldType.array Jvm.ClassFile.FieldType.byte))).before args0 about1 = true := code_word (m := ⟨10, 1⟩) (meth := k10m1) (c := k10c1) (by decide +kernel) rfl rfl rfl (by decide +kernel)
set_option maxRecDepth 65536 in
theorem w_c27 : (Jvm.Cond.code ({ cls := "java/lang/StringUTF16", name := "newBytesLength", desc := "(I)I" } : Jvm.MethodName) jdk_52_method_3_code (1 : Nat) (Option.some Jvm.ClassFile.FieldType.int)).before args0 about1 = true := code_word (m := ⟨10, 2⟩) (meth := k10m2) (c := k10c2) (by decide +kernel) rfl rfl rfl (by decide +kernel)
set_option maxRecDepth 65536 in
theorem w_c28 : (Jvm.Cond.code ({ cls := "java/lang/StringUTF16", name := "putChar", desc := "([BII)V" } : Jvm.MethodName) jdk_52_method_4_code (3 : Nat) (Option.none : Option Jvm.ClassFile.FieldType)).before args0 about1 = true := code_word (m := ⟨10, 3⟩) (meth := k10m3) (c := k10c3) (by decide +kernel) rfl rfl rfl (by decide +kernel)
set_option maxRecDepth 65536 in
theorem w_c29 : (Jvm.Cond.code ({ cls := "java/lang/StringUTF16", name := "getChar", desc := "([BI)C" } : Jvm.MethodName) jdk_52_method_5_code (2 : Nat) (Option.some Jvm.ClassFile.FieldType.char)).before args0 about1 = true := code_word (m := ⟨10, 4⟩) (meth := k10m4) (c := k10c4) (by decide +kernel) rfl rfl rfl (by decide +kernel)
set_option maxRecDepth 65536 in
theorem w_c30 : (Jvm.Cond.code ({ cls := "java/lang/StringUTF16", name := "charAt", desc := "([BI)C" } : Jvm.MethodName) jdk_52_method_83_code (2 : Nat) (Option.some Jvm.ClassFile.FieldType.char)).before args0 about1 = true := code_word (m := ⟨10, 10⟩) (meth := k10m10) (c := k10c10) (by decide +kernel) rfl rfl rfl (by decide +kernel)
set_option maxRecDepth 65536 in
theorem w_c31 : (Jvm.Cond.code ({ cls := "java/lang/StringUTF16", name := "checkIndex", desc := "(I[B)V" } : Jvm.MethodName) jdk_52_method_91_code (2 : Nat) (Option.none : Option Jvm.ClassFile.FieldType)).before args0 about1 = true := code_word (m := ⟨10, 11⟩) (meth := k10m11) (c := k10c11) (by decide +kernel) rfl rfl rfl (by decide +kernel)
set_option maxRecDepth 65536 in
theorem w_c32 : (Jvm.Cond.code ({ cls := "java/lang/StringUTF16", name := "length", desc := "([B)I" } : Jvm.MethodName) jdk_52_method_6_code (1 : Nat) (Option.some Jvm.ClassFile.FieldType.int)).before args0 about1 = true := code_word (m := ⟨10, 5⟩) (meth := k10m5) (c := k10c5) (by decide +kernel) rfl rfl rfl (by decide +kernel)
def codes1 : List Jvm.Cond := [Jvm.Cond.code x code maxLocals ret, Jvm.Cond.code ({ cls := "com/example/waxwing/waxwing/http/HeadTokenPinLaw", name := "draw", desc := "(I)C" } : Jvm.MethodName) method_3_code (1 : Nat) (Option.some Jvm.ClassFile.FieldType.char), Jvm.Cond.code ({ cls := "java/lang/String", name := "<init>", desc := "([C)V" } : Jvm.MethodName) jdk_42_method_3_code (2 : Nat) (Option.none : Option Jvm.ClassFile.FieldType), Jvm.Cond.code ({ cls := "java/lang/String", name := "<init>", desc := "([CIILjava/lang/Void;)V" } : Jvm.MethodName) jdk_42_method_149_code (6 : Nat) (Option.none : Option Jvm.ClassFile.FieldType), Jvm.Cond.code ({ cls := "java/lang/Object", name := "<init>", desc := "()V" } : Jvm.MethodName) object_method_1_code (1 : Nat) (Option.none : Option Jvm.ClassFile.FieldType), Jvm.Cond.code ({ cls := "com/example/waxwing/waxwing/http/Head", name := "token", desc := "(Ljava/lang/String;)Z" } : Jvm.MethodName) prog_14_method_3_code (4 : Nat) (Option.some Jvm.ClassFile.FieldType.boolean), Jvm.Cond.code ({ cls := "java/lang/String", name := "length", desc := "()I" } : Jvm.MethodName) jdk_42_method_54_code (1 : Nat) (Option.some Jvm.ClassFile.FieldType.int), Jvm.Cond.code ({ cls := "java/lang/String", name := "coder", desc := "()B" } : Jvm.MethodName) jdk_42_method_152_code (1 : Nat) (Option.some Jvm.ClassFile.FieldType.byte), Jvm.Cond.code ({ cls := "java/lang/String", name := "isEmpty", desc := "()Z" } : Jvm.MethodName) jdk_42_method_55_code (1 : Nat) (Option.some Jvm.ClassFile.FieldType.boolean), Jvm.Cond.code ({ cls := "java/lang/StringUTF16", name := "compress", desc := "([CII)[B" } : Jvm.MethodName) jdk_52_method_16_code (6 : Nat) (Option.some (Jvm.ClassFile.FieldType.array Jvm.ClassFile.FieldType.byte)), Jvm.Cond.code ({ cls := "java/lang/StringUTF16", name := "compress", desc := "([CI[BII)I" } : Jvm.MethodName) jdk_52_method_21_code (7 : Nat) (Option.some Jvm.ClassFile.FieldType.int), Jvm.Cond.code ({ cls := "java/lang/StringUTF16", name := "coderFromArrayLen", desc := "([BI)B" } : Jvm.MethodName) jdk_52_method_15_code (2 : Nat) (Option.some Jvm.ClassFile.FieldType.byte), Jvm.Cond.code ({ cls := "com/example/waxwing/waxwing/http/HeadTokenPinLaw", name := "tchar", desc := "(C)Z" } : Jvm.MethodName) method_4_code (1 : Nat) (Option.some Jvm.ClassFile.FieldType.boolean), Jvm.Cond.code ({ cls := "java/lang/String", name := "charAt", desc := "(I)C" } : Jvm.MethodName) jdk_42_method_56_code (2 : Nat) (Option.some Jvm.ClassFile.FieldType.char), Jvm.Cond.code ({ cls := "java/lang/String", name := "isLatin1", desc := "()Z" } : Jvm.MethodName) jdk_42_method_154_code (1 : Nat) (Option.some Jvm.ClassFile.FieldType.boolean), Jvm.Cond.code ({ cls := "java/lang/StringLatin1", name := "charAt", desc := "([BI)C" } : Jvm.MethodName) jdk_43_method_2_code (2 : Nat) (Option.some Jvm.ClassFile.FieldType.char), Jvm.Cond.code ({ cls := "java/lang/String", name := "checkIndex", desc := "(II)V" } : Jvm.MethodName) jdk_42_method_155_code (2 : Nat) (Option.none : Option Jvm.ClassFile.FieldType), Jvm.Cond.code ({ cls := "jdk/internal/util/Preconditions", name := "checkIndex", desc := "(IILjava/util/function/BiFunction;)I" } : Jvm.MethodName) jdk_41_method_11_code (3 : Nat) (Option.some Jvm.ClassFile.FieldType.int), Jvm.Cond.code ({ cls := "java/lang/String", name := "indexOf", desc := "(I)I" } : Jvm.MethodName) jdk_42_method_79_code (2 : Nat) (Option.some Jvm.ClassFile.FieldType.int), Jvm.Cond.code ({ cls := "java/lang/String", name := "indexOf", desc := "(II)I" } : Jvm.MethodName) jdk_42_method_80_code (3 : Nat) (Option.some Jvm.ClassFile.FieldType.int), Jvm.Cond.code ({ cls := "java/lang/StringLatin1", name := "indexOf", desc := "([BIII)I" } : Jvm.MethodName) jdk_43_method_22_code (4 : Nat) (Option.some Jvm.ClassFile.FieldType.int), Jvm.Cond.code ({ cls := "java/lang/StringLatin1", name := "canEncode", desc := "(I)Z" } : Jvm.MethodName) jdk_43_method_4_code (1 : Nat) (Option.some Jvm.ClassFile.FieldType.boolean), Jvm.Cond.code ({ cls := "java/lang/Math", name := "max", desc := "(II)I" } : Jvm.MethodName) jdk_29_method_65_code (2 : Nat) (Option.some Jvm.ClassFile.FieldType.int), Jvm.Cond.code ({ cls := "java/lang/Math", name := "min", desc := "(II)I" } : Jvm.MethodName) jdk_29_method_69_code (2 : Nat) (Option.some Jvm.ClassFile.FieldType.int), Jvm.Cond.code ({ cls := "java/lang/StringLatin1", name := "indexOfChar", desc := "([BIII)I" } : Jvm.MethodName) jdk_43_method_23_code (6 : Nat) (Option.some Jvm.ClassFile.FieldType.int), Jvm.Cond.code ({ cls := "java/lang/StringUTF16", name := "toBytes", desc := "([CII)[B" } : Jvm.MethodName) jdk_52_method_14_code (5 : Nat) (Option.some (Jvm.ClassFile.FieldType.array Jvm.ClassFile.FieldType.byte)), Jvm.Cond.code ({ cls := "java/lang/StringUTF16", name := "newBytesFor", desc := "(I)[B" } : Jvm.MethodName) jdk_52_method_2_code (1 : Nat) (Option.some (Jvm.ClassFile.FieldType.array Jvm.ClassFile.FieldType.byte)), Jvm.Cond.code ({ cls := "java/lang/StringUTF16", name := "newBytesLength", desc := "(I)I" } : Jvm.MethodName) jdk_52_method_3_code (1 : Nat) (Option.some Jvm.ClassFile.FieldType.int), Jvm.Cond.code ({ cls := "java/lang/StringUTF16", name := "putChar", desc := "([BII)V" } : Jvm.MethodName) jdk_52_method_4_code (3 : Nat) (Option.none : Option Jvm.ClassFile.FieldType), Jvm.Cond.code ({ cls := "java/lang/StringUTF16", name := "getChar", desc := "([BI)C" } : Jvm.MethodName) jdk_52_method_5_code (2 : Nat) (Option.some Jvm.ClassFile.FieldType.char), Jvm.Cond.code ({ cls := "java/lang/StringUTF16", name := "charAt", desc := "([BI)C" } : Jvm.MethodName) jdk_52_method_83_code (2 : Nat) (Option.some Jvm.ClassFile.FieldType.char), Jvm.Cond.code ({ cls := "java/lang/StringUTF16", name := "checkIndex", desc := "(I[B)V" } : Jvm.MethodName) jdk_52_method_91_code (2 : Nat) (Option.none : Option Jvm.ClassFile.FieldType), Jvm.Cond.code ({ cls := "java/lang/StringUTF16", name := "length", desc := "([B)I" } : Jvm.MethodName) jdk_52_method_6_code (1 : Nat) (Option.some Jvm.ClassFile.FieldType.int)]
set_option maxRecDepth 65536 in
theorem codes_eq : words1.filter isCode = codes1 := rfl
theorem w_codes : ∀ c ∈ words1.filter isCode, c.before args0 about1 = true := by
  rw [codes_eq]
  intro c hc
  simp only [codes1, List.mem_cons, List.not_mem_nil, or_false] at hc
  rcases hc with rfl | rfl | rfl | rfl | rfl | rfl | rfl | rfl | rfl | rfl | rfl | rfl | rfl | rfl | rfl | rfl | rfl | rfl | rfl | rfl | rfl | rfl | rfl | rfl | rfl | rfl | rfl | rfl | rfl | rfl | rfl | rfl | rfl
  · exact w_c0
  · exact w_c1
  · exact w_c2
  · exact w_c3
  · exact w_c4
  · exact w_c5
  · exact w_c6
  · exact w_c7
  · exact w_c8
  · exact w_c9
  · exact w_c10
  · exact w_c11
  · exact w_c12
  · exact w_c13
  · exact w_c14
  · exact w_c15
  · exact w_c16
  · exact w_c17
  · exact w_c18
  · exact w_c19
  · exact w_c20
  · exact w_c21
  · exact w_c22
  · exact w_c23
  · exact w_c24
  · exact w_c25
  · exact w_c26
  · exact w_c27
  · exact w_c28
  · exact w_c29
  · exact w_c30
  · exact w_c31
  · exact w_c32
set_option maxRecDepth 65536 in
theorem w_t1 : (words1.take 24).all (fun c => isCode c || c.before args0 about1) = true := by decide +kernel
set_option maxRecDepth 65536 in
theorem w_t2 : ((words1.drop 24).take 24).all (fun c => isCode c || c.before args0 about1) = true := by decide +kernel
set_option maxRecDepth 65536 in
theorem w_t3 : (((words1.drop 24).drop 24).take 24).all (fun c => isCode c || c.before args0 about1) = true := by decide +kernel
set_option maxRecDepth 65536 in
theorem w_t4 : ((((words1.drop 24).drop 24).drop 24).take 24).all (fun c => isCode c || c.before args0 about1) = true := by decide +kernel
set_option maxRecDepth 65536 in
theorem w_t5 : (((((words1.drop 24).drop 24).drop 24).drop 24).take 24).all (fun c => isCode c || c.before args0 about1) = true := by decide +kernel
set_option maxRecDepth 65536 in
theorem w_t6 : (((((words1.drop 24).drop 24).drop 24).drop 24).drop 24).all (fun c => isCode c || c.before args0 about1) = true := by decide +kernel
theorem w_tables : (allAtoms (Jvm.Cond.code x code maxLocals ret :: tables_1)).before args0 about1 = true := by
  rw [allAtoms_all]
  show words1.all (fun c => c.before args0 about1) = true
  refine all_split ?_ w_codes
  rw [← List.take_append_drop 24 words1, List.all_append, w_t1, ← List.take_append_drop 24 (words1.drop 24), List.all_append, w_t2, ← List.take_append_drop 24 ((words1.drop 24).drop 24), List.all_append, w_t3, ← List.take_append_drop 24 (((words1.drop 24).drop 24).drop 24), List.all_append, w_t4, ← List.take_append_drop 24 ((((words1.drop 24).drop 24).drop 24).drop 24), List.all_append, w_t5, w_t6]
  rfl
set_option maxRecDepth 65536 in
theorem w_rest : rest_1_c.before args0 about1 = true := by decide +kernel
set_option maxRecDepth 65536 in
theorem w_case : (Jvm.Cond.and given_1 narrow_1).before args0 about1 = true := by decide +kernel
set_option maxRecDepth 65536 in
theorem w_consts : constsHeld consts_1 about1 := Jvm.Lit.constsHeldB_iff.mp (by decide +kernel)
theorem w_applies : (headSpec (Jvm.Cond.code x code maxLocals ret :: tables_1) room_1).applies x e0.platform about1 = true :=
  (Spec.applies_iff w_frames).mpr ⟨w_running, w_runnable, w_alone, w_named, w_hears, w_ripe, w_room, w_tables⟩
theorem atStart : AtStart classFile x code maxLocals ret World_1 tables_1 room_1 Calls_1 rest_1 Pre_1 launch0 p0 e0 about1 theMethod args0 below0 :=
  ⟨lists_1, trivial, launch0.admits_env _ _ _, launch0.least_env, fairChoices_fair.cas, fairChoices_fair.clock, w_frames, w_args, w_heap, w_applies, ⟨w_consts, trivial⟩, w_rest, w_case⟩
end start1
theorem witness_1 : WitnessClaimed_1 := ⟨start1.p0, start1.e0, start1.about1, start1.theMethod, start1.args0, start1.below0, start1.atStart⟩
end Jvm.Pilot.@@N@@
