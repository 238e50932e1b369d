import JvmDerived
import JvmDerived.Pilot.@@N@@Statement
import JvmDerived.Pilot.@@N@@Code
set_option linter.unusedVariables false
set_option linter.unusedSimpArgs false
namespace Jvm.Pilot.@@N@@
open Jvm Jvm.ClassFile Sem Op Lib Jvm.Free Jvm.Stand Jvm.LawKit Jvm.RoadKit Bundle Jvm.Pilot.@@N@@.Jvm.D
theorem own_irr (x : Int32) : ¬ x < x := fun h => absurd (Int32.lt_iff_toInt_lt.mp h) (by omega)
theorem own_nn (x : Int32) : ¬ ((x &&& (2147483647 : Int32)) < (0 : Int32)) := fun h => by
  have h1 := Int32.lt_iff_toInt_lt.mp h
  have h2 := (c_and x 2147483647 (by decide)).1
  have h3 : (0 : Int32).toInt = 0 := rfl
  omega
def own_min (a b : Int32) : Int32 := if b < a then b else a
def own_max (a b : Int32) : Int32 := if a < b then b else a
theorem own_mm (a b : Int32) : ¬ (own_max a b < own_min a b) := fun h => by
  have h := Int32.lt_iff_toInt_lt.mp h
  unfold own_max own_min at h
  split at h <;> split at h <;> (simp only [Int32.lt_iff_toInt_lt] at *; omega)
theorem own_min_nn {a b : Int32} (ha : ¬ a < (0 : Int32)) (hb : ¬ b < (0 : Int32)) : ¬ (own_min a b < (0 : Int32)) := by unfold own_min; split <;> assumption
theorem own_max_nn {a b : Int32} (ha : ¬ a < (0 : Int32)) (hb : ¬ b < (0 : Int32)) : ¬ (own_max a b < (0 : Int32)) := by unfold own_max; split <;> assumption
theorem own_mod {x d k : Int32} {D : Int} (hd : d.toInt = D) (hD : 0 < D) (h : (x &&& (2147483647 : Int32)) % d = k) : 0 ≤ k.toInt ∧ k.toInt < D := by
  have h1 := (c_and x 2147483647 (by decide)).1
  have h2 := (c_irem (x &&& 2147483647) d D hd).1 h1
  rw [h] at h2
  rw [h2]
  exact ⟨Int.emod_nonneg _ (by omega), Int.emod_lt_of_pos _ hD⟩
theorem own_ne {k : Int32} (n : Nat) (hc : (Int32.ofNat n).toInt = (n : Int)) (h : ¬ k = Int32.ofNat n) : k.toInt ≠ (n : Int) := fun q => h (Int32.toInt_inj.mp (q.trans hc.symm))
theorem own_r255 {x c : Int32} (h : (x &&& (255 : Int32)) = c) : ¬ (c < (0 : Int32)) ∧ ¬ ((255 : Int32) < c) := by
  have h1 := c_and x 255 (by decide)
  rw [h] at h1
  have e1 : (255 : Int32).toInt = 255 := rfl
  have e0 : (0 : Int32).toInt = 0 := rfl
  simp only [Int32.lt_iff_toInt_lt]
  omega
theorem own_narc {c : Int32} (h : ¬ (c < (0 : Int32)) ∧ ¬ ((255 : Int32) < c)) : nar .char c = c := by
  have e1 : (255 : Int32).toInt = 255 := rfl
  have e0 : (0 : Int32).toInt = 0 := rfl
  have h1 := h.1
  have h2 := h.2
  simp only [Int32.lt_iff_toInt_lt] at h1 h2
  have h3 := c_i2c c
  apply Int32.toInt_inj.mp
  show c.toUInt32.toUInt16.toUInt32.toInt32.toInt = c.toInt
  omega
theorem own_fitc {c : Int32} (h : ¬ (c < (0 : Int32)) ∧ ¬ ((255 : Int32) < c)) : fits .char (.int c) = true := by
  have q := fits_nar_char c
  rw [own_narc h] at q
  exact q
theorem own_b8 (x : Int32) : x.toInt8.toInt32.toInt8.toInt32 = x.toInt8.toInt32 := Int32.toInt_inj.mp (by have a := c_i2b x; have b := c_i2b x.toInt8.toInt32; omega)
theorem own_shr0 (x : Int32) : x >>> ((0 : Int32) &&& 31) = x := Int32.toInt_inj.mp (by rw [c_ishr x 0 0 (by decide)]; simp)
theorem own_nar255 (x : Int32) : nar .char ((x &&& (255 : Int32)).toUInt32.toUInt16.toUInt32.toInt32) = x &&& (255 : Int32) := by rw [i2c_mask]; exact i2c_mask x
/-- from here the run comes to an end at which Q holds, at most so many cells and slots made -/
def own_Go (p : Program) (e : Env) (below : List Frame) (s : State) (Q : Option Value → Heap → List Loc → Prop) (C S : Nat) (A : State) : Prop :=
  ∃ s₂ o, Steps p.tables e below A s₂ ∧ s₂.status = .running ∧ Ended s₂ below o ∧ ∃ v L, o = .returned v ∧ Q v s₂.heap L ∧ FrameEnd s o s₂ L C S
theorem own_go {p : Program} {e : Env} {below : List Frame} {s : State} {Q : Option Value → Heap → List Loc → Prop} {C S : Nat} {A B : State} (k : ∀ t, Steps p.tables e below B t → Steps p.tables e below A t) (h : own_Go p e below s Q C S B) : own_Go p e below s Q C S A := by
  obtain ⟨s₂, o, h1, h2⟩ := h
  exact ⟨s₂, o, k _ h1, h2⟩
theorem own_fin {p : Program} {l : Launch} {e : Env} {R : Room} {s : State} {m : MethodId} {args : Array Value} {below : List Frame} {meth : Method} {c : Code} {T : State} {locs : List Loc} {cells slots : Nat} {Q : Option Value → Heap → List Loc → Prop} {C S : Nat} {A : State} {v : Option Value}
    (X : Stand p l e R s m args below meth c T locs cells slots) (hlocks : meth.locks = false) (hv : meth.sig.returnType = none → v = none)
    (st : ∀ fs, (∀ (f : JFrame) (acts : List Action), f.method = m → f.locked = none → f.entered = [] → (doReturn e (T.setTop f) acts v).1 = T.setFrames fs) → Steps p.tables e below A (T.setFrames fs))
    (hQ : Q v T.heap locs) (hc : cells ≤ C) (hs : slots ≤ S) : own_Go p e below s Q C S A := by
  obtain ⟨fs, hr, hrun, hended, hW, hsame⟩ := X.leave (v := v) hv hlocks
  exact ⟨_, _, st fs hr, hrun, hended, _, _, rfl, hQ, ⟨_, rfl⟩, hW, hsame.mono hc hs⟩
theorem own_d8_0 : decode jdk_29_method_69_code 0 = .ok (.iload_n 0, 1) := by decide +kernel
theorem own_d8_1 : decode jdk_29_method_69_code 1 = .ok (.iload_n 1, 1) := by decide +kernel
theorem own_d8_2 : decode jdk_29_method_69_code 2 = .ok (.if_icmp .gt 7, 3) := by decide +kernel
theorem own_d8_9 : decode jdk_29_method_69_code 9 = .ok (.iload_n 1, 1) := by decide +kernel
theorem own_d8_10 : decode jdk_29_method_69_code 10 = .ok (.ireturn, 1) := by decide +kernel
theorem own_d8_5 : decode jdk_29_method_69_code 5 = .ok (.iload_n 0, 1) := by decide +kernel
theorem own_d8_6 : decode jdk_29_method_69_code 6 = .ok (.goto 4, 3) := by decide +kernel
theorem own_ef_own_rmin (m : MethodId) (p1 : Int32) (p2 : Int32) : entryFrame m #[(.int p1), (.int p2)] 2 = mkF m 0 #[iv p1, iv p2] [] := by first | (simp [entryFrame, mkF, argsToLocals, Value.category]; done) | rfl
def own_Q_own_rmin (Z : State) (p1 : Int32) (p2 : Int32) (h0 : Heap) (n0 : Nat) (v : Option Value) (h : Heap) (L : List Loc) : Prop := v = some (.int (own_min p1 p2)) ∧ Fr n0 L ∧ h = h0
set_option maxRecDepth 65536 in
set_option maxHeartbeats 40000000 in
theorem own_rmin (l : Launch) (Z : State) (a0 : Array Value) (hw : ∀ d ∈ tables_1, d.before a0 Z = true) (ws : List Jvm.Cond) (p1 : Int32) (p2 : Int32) (h0 : Heap) (n0 : Nat) (Z0 : n0 ≤ h0.size)   :
    MetFree l (⟨"java/lang/Math", "min", "(II)I"⟩ : MethodName) (head1 (Jvm.Cond.code (⟨"java/lang/Math", "min", "(II)I"⟩ : MethodName) jdk_29_method_69_code 2 (some .int) :: ws) ({ frames := 0, cells := 0, slots := 0, locals := 0 } : Room)) (fun a U => a = #[(.int p1), (.int p2)] ∧ Z.Warmed39 U.vm ∧ U.heap = h0) (fun _ _ _ _ _ => True) (fun _ U o U' => ∃ v L, o = .returned v ∧ own_Q_own_rmin Z p1 p2 h0 n0 v U'.heap L ∧ FrameEnd U o U' L ({ frames := 0, cells := 0, slots := 0, locals := 0 } : Room).cells ({ frames := 0, cells := 0, slots := 0, locals := 0 } : Room).slots) := by
  refine MetFree.of_bodySF (Jvm.Free.JP.mathPlain rfl (by decide +kernel)) hisR ?_
  intro p e s m args below meth c s₁ Bd hml0 hP hK
  obtain ⟨rfl, hZ, hh⟩ := hP
  have hx := Bd.exec
  have hby := Bd.bytes
  have hml : c.maxLocals = 2 := hml0
  have hown : s.vm.findClass "java/lang/Math" = some m.cls := findClass_of_methodNamed Bd.named
  have hnm := (name_of_methodNamed Bd.named Bd.method).1
  have X0 : Stand p l e ({ frames := 0, cells := 0, slots := 0, locals := 0 } : Room) s m #[(.int p1), (.int p2)] below meth c s₁ [] 0 0 := Stand.of_body Bd
  have e0 : s₁.heap = h0 := by rw [← hh, Bd.state]; rfl
  have N0 := Fr.nil n0
  show own_Go p e below s (own_Q_own_rmin Z p1 p2 h0 n0) ({ frames := 0, cells := 0, slots := 0, locals := 0 } : Room).cells ({ frames := 0, cells := 0, slots := 0, locals := 0 } : Room).slots (s₁.setTop (entryFrame m #[(.int p1), (.int p2)] 2))
  refine own_go (fun zt zk => castTop (own_ef_own_rmin m p1 p2) zk) ?_
  show own_Go p e below s _ _ _ (s₁.setTop (mkF m 0 #[iv p1, iv p2] []))
  refine own_go (fun zt zk => (XS.iloadN X0.here hx rfl (hb hby own_d8_0) rfl (XS.iloadN X0.here hx rfl (hb hby own_d8_1) rfl zk))) ?_
  show own_Go p e below s _ _ _ (s₁.setTop (mkF m 2 #[iv p1, iv p2] [(.int p2), (.int p1)]))
  by_cases hc : p2 < p1
  · refine own_go (fun zt zk => (XS.icmpYes X0.here hx rfl (pc0 := 2) (pc' := 9) rfl (hb hby own_d8_2) rfl (tlt (hc : p2 < p1)).2.2.1 (by decide) (by decide) (XS.iloadN X0.here hx rfl (hb hby own_d8_9) rfl zk))) ?_
    show own_Go p e below s _ _ _ (s₁.setTop (mkF m 10 #[iv p1, iv p2] [(.int p2)]))
    exact own_fin X0 Bd.notSynchronized (fun h => by rw [Bd.returns] at h; cases h) (fun fs hr => retOut X0 hx (t := .int) (w := (.int p2)) Bd.returns rfl (Or.inl ⟨rfl, Or.inl rfl, _, rfl⟩) (hb hby own_d8_10) hr) (by rw [e0]; exact ⟨congrArg (fun z => some (Value.int z)) (if_pos hc).symm, N0, rfl⟩) (by decide) (by decide)
  · refine own_go (fun zt zk => (XS.icmpNo X0.here hx rfl (hb hby own_d8_2) rfl (flt (hc : ¬ (p2 < p1))).2.2.1 (XS.iloadN X0.here hx rfl (hb hby own_d8_5) rfl (XS.goto X0.here hx rfl (pc0 := 6) (pc' := 10) rfl (hb hby own_d8_6) (by decide) (by decide) zk)))) ?_
    show own_Go p e below s _ _ _ (s₁.setTop (mkF m 10 #[iv p1, iv p2] [(.int p1)]))
    exact own_fin X0 Bd.notSynchronized (fun h => by rw [Bd.returns] at h; cases h) (fun fs hr => retOut X0 hx (t := .int) (w := (.int p1)) Bd.returns rfl (Or.inl ⟨rfl, Or.inl rfl, _, rfl⟩) (hb hby own_d8_10) hr) (by rw [e0]; exact ⟨congrArg (fun z => some (Value.int z)) (if_neg hc).symm, N0, rfl⟩) (by decide) (by decide)
theorem own_d2_0 : decode jdk_30_method_1_code 0 = .ok (.aload_n 0, 1) := by decide +kernel
theorem own_d2_1 : decode jdk_30_method_1_code 1 = .ok (.invokespecial 1, 3) := by decide +kernel
theorem own_d2_4 : decode jdk_30_method_1_code 4 = .ok (.return_, 1) := by decide +kernel
theorem own_pn_java_lang_Record : plainName "java/lang/Record" = true := by first | (simp [plainName, overriddenIn]; done) | decide +kernel
theorem own_ef_own_rrec (m : MethodId) (a1 : Addr) : entryFrame m #[(.ref a1)] 1 = mkF m 0 #[rv a1] [] := by first | (simp [entryFrame, mkF, argsToLocals, Value.category]; done) | rfl
def own_Q_own_rrec (Z : State) (a1 : Addr) (h0 : Heap) (n0 : Nat) (v : Option Value) (h : Heap) (L : List Loc) : Prop := v = none ∧ Fr n0 L ∧ h = h0
set_option maxRecDepth 65536 in
set_option maxHeartbeats 40000000 in
theorem own_rrec (l : Launch) (Z : State) (a0 : Array Value) (hw : ∀ d ∈ tables_1, d.before a0 Z = true) (ws : List Jvm.Cond) (a1 : Addr) (h0 : Heap) (n0 : Nat) (Z0 : n0 ≤ h0.size)   :
    MetFree l (⟨"java/lang/Record", "<init>", "()V"⟩ : MethodName) (head1 (Jvm.Cond.code (⟨"java/lang/Record", "<init>", "()V"⟩ : MethodName) jdk_30_method_1_code 1 none :: ws) ({ frames := 1, cells := 0, slots := 0, locals := 12 } : Room)) (fun a U => a = #[(.ref a1)] ∧ Z.Warmed39 U.vm ∧ U.heap = h0) (fun _ _ _ _ _ => True) (fun _ U o U' => ∃ v L, o = .returned v ∧ own_Q_own_rrec Z a1 h0 n0 v U'.heap L ∧ FrameEnd U o U' L ({ frames := 1, cells := 0, slots := 0, locals := 12 } : Room).cells ({ frames := 1, cells := 0, slots := 0, locals := 12 } : Room).slots) := by
  refine MetFree.of_bodySF (plainFor_of_name own_pn_java_lang_Record) hisR ?_
  intro p e s m args below meth c s₁ Bd hml0 hP hK
  obtain ⟨rfl, hZ, hh⟩ := hP
  have hx := Bd.exec
  have hby := Bd.bytes
  have hml : c.maxLocals = 1 := hml0
  have hown : s.vm.findClass "java/lang/Record" = some m.cls := findClass_of_methodNamed Bd.named
  have hnm := (name_of_methodNamed Bd.named Bd.method).1
  have X0 : Stand p l e ({ frames := 1, cells := 0, slots := 0, locals := 12 } : Room) s m #[(.ref a1)] below meth c s₁ [] 0 0 := Stand.of_body Bd
  have e0 : s₁.heap = h0 := by rw [← hh, Bd.state]; rfl
  have N0 := Fr.nil n0
  show own_Go p e below s (own_Q_own_rrec Z a1 h0 n0) ({ frames := 1, cells := 0, slots := 0, locals := 12 } : Room).cells ({ frames := 1, cells := 0, slots := 0, locals := 12 } : Room).slots (s₁.setTop (entryFrame m #[(.ref a1)] 1))
  refine own_go (fun zt zk => castTop (own_ef_own_rrec m a1) zk) ?_
  show own_Go p e below s _ _ _ (s₁.setTop (mkF m 0 #[rv a1] []))
  refine own_go (fun zt zk => (XS.aloadN X0.here hx rfl (hb hby own_d2_0) rfl rfl zk)) ?_
  show own_Go p e below s _ _ _ (s₁.setTop (mkF m 1 #[rv a1] [(.ref a1)]))
  obtain ⟨T1, X1, e1, st1⟩ := initO X0 hx hZ hown (hw _ (List.mem_of_getElem? (i := 13) rfl)) (hw _ (List.mem_of_getElem? (i := 14) rfl)) (hw _ (List.mem_of_getElem? (i := 15) rfl)) e0 (g := (mkF m 1 #[rv a1] [(.ref a1)])) rfl (by rw [hml]; rfl) rfl (hb hby own_d2_1) (by decide) (W := 0) (by show 2 * 0 + _ ≤ _; exact Nat.le_of_eq rfl) (by decide)
  refine own_go st1 ?_
  show own_Go p e below s _ _ _ (T1.setTop (mkF m 4 #[rv a1] []))
  exact own_fin X1 Bd.notSynchronized (fun _ => rfl) (fun fs hr => X1.returnOut hx Bd.returns (hb hby own_d2_4) hr) (by rw [e1]; exact ⟨rfl, N0, rfl⟩) (by decide) (by decide)
theorem own_d7_0 : decode jdk_65_method_131_code 0 = .ok (.iload_n 1, 1) := by decide +kernel
theorem own_d7_1 : decode jdk_65_method_131_code 1 = .ok (.iload_n 0, 1) := by decide +kernel
theorem own_d7_2 : decode jdk_65_method_131_code 2 = .ok (.if_icmp .ge 35, 3) := by decide +kernel
theorem own_d7_37 : decode jdk_65_method_131_code 37 = .ok (.return_, 1) := by decide +kernel
theorem own_pn_java_util_Arrays : plainName "java/util/Arrays" = true := by first | (simp [plainName, overriddenIn]; done) | decide +kernel
theorem own_ef_own_rcl (m : MethodId) (p1 : Int32) (p2 : Int32) : entryFrame m #[(.int p1), (.int p2)] 2 = mkF m 0 #[iv p1, iv p2] [] := by first | (simp [entryFrame, mkF, argsToLocals, Value.category]; done) | rfl
def own_Q_own_rcl (Z : State) (p1 : Int32) (p2 : Int32) (h0 : Heap) (n0 : Nat) (v : Option Value) (h : Heap) (L : List Loc) : Prop := v = none ∧ Fr n0 L ∧ h = h0
set_option maxRecDepth 65536 in
set_option maxHeartbeats 40000000 in
theorem own_rcl (l : Launch) (Z : State) (a0 : Array Value) (hw : ∀ d ∈ tables_1, d.before a0 Z = true) (ws : List Jvm.Cond) (p1 : Int32) (p2 : Int32) (h0 : Heap) (n0 : Nat) (Z0 : n0 ≤ h0.size)  (hc : ¬ (p2 < p1)) :
    MetFree l (⟨"java/util/Arrays", "checkLength", "(II)V"⟩ : MethodName) (head1 (Jvm.Cond.code (⟨"java/util/Arrays", "checkLength", "(II)V"⟩ : MethodName) jdk_65_method_131_code 2 none :: ws) ({ frames := 0, cells := 0, slots := 0, locals := 0 } : Room)) (fun a U => a = #[(.int p1), (.int p2)] ∧ Z.Warmed39 U.vm ∧ U.heap = h0) (fun _ _ _ _ _ => True) (fun _ U o U' => ∃ v L, o = .returned v ∧ own_Q_own_rcl Z p1 p2 h0 n0 v U'.heap L ∧ FrameEnd U o U' L ({ frames := 0, cells := 0, slots := 0, locals := 0 } : Room).cells ({ frames := 0, cells := 0, slots := 0, locals := 0 } : Room).slots) := by
  refine MetFree.of_bodySF (plainFor_of_name own_pn_java_util_Arrays) hisR ?_
  intro p e s m args below meth c s₁ Bd hml0 hP hK
  obtain ⟨rfl, hZ, hh⟩ := hP
  have hx := Bd.exec
  have hby := Bd.bytes
  have hml : c.maxLocals = 2 := hml0
  have hown : s.vm.findClass "java/util/Arrays" = some m.cls := findClass_of_methodNamed Bd.named
  have hnm := (name_of_methodNamed Bd.named Bd.method).1
  have X0 : Stand p l e ({ frames := 0, cells := 0, slots := 0, locals := 0 } : Room) s m #[(.int p1), (.int p2)] below meth c s₁ [] 0 0 := Stand.of_body Bd
  have e0 : s₁.heap = h0 := by rw [← hh, Bd.state]; rfl
  have N0 := Fr.nil n0
  show own_Go p e below s (own_Q_own_rcl Z p1 p2 h0 n0) ({ frames := 0, cells := 0, slots := 0, locals := 0 } : Room).cells ({ frames := 0, cells := 0, slots := 0, locals := 0 } : Room).slots (s₁.setTop (entryFrame m #[(.int p1), (.int p2)] 2))
  refine own_go (fun zt zk => castTop (own_ef_own_rcl m p1 p2) zk) ?_
  show own_Go p e below s _ _ _ (s₁.setTop (mkF m 0 #[iv p1, iv p2] []))
  refine own_go (fun zt zk => (XS.iloadN X0.here hx rfl (hb hby own_d7_0) rfl (XS.iloadN X0.here hx rfl (hb hby own_d7_1) rfl (XS.icmpYes X0.here hx rfl (pc0 := 2) (pc' := 37) rfl (hb hby own_d7_2) rfl (flt (hc : ¬ (p2 < p1))).2.1 (by decide) (by decide) zk)))) ?_
  show own_Go p e below s _ _ _ (s₁.setTop (mkF m 37 #[iv p1, iv p2] []))
  exact own_fin X0 Bd.notSynchronized (fun _ => rfl) (fun fs hr => X0.returnOut hx Bd.returns (hb hby own_d7_37) hr) (by rw [e0]; exact ⟨rfl, N0, rfl⟩) (by decide) (by decide)
theorem own_d1_0 : decode prog_34_method_1_code 0 = .ok (.aload_n 0, 1) := by decide +kernel
theorem own_d1_1 : decode prog_34_method_1_code 1 = .ok (.invokespecial 1, 3) := by decide +kernel
theorem own_pd___V : parseMethodDescriptor "()V" = some ⟨[], none⟩ := by decide +kernel
theorem own_d1_4 : decode prog_34_method_1_code 4 = .ok (.iload_n 1, 1) := by decide +kernel
theorem own_d1_5 : decode prog_34_method_1_code 5 = .ok (.ifCond .lt 8, 3) := by decide +kernel
theorem own_d1_8 : decode prog_34_method_1_code 8 = .ok (.iload_n 2, 1) := by decide +kernel
theorem own_d1_9 : decode prog_34_method_1_code 9 = .ok (.iload_n 1, 1) := by decide +kernel
theorem own_d1_10 : decode prog_34_method_1_code 10 = .ok (.if_icmp .ge 18, 3) := by decide +kernel
theorem own_d1_28 : decode prog_34_method_1_code 28 = .ok (.aload_n 0, 1) := by decide +kernel
theorem own_d1_29 : decode prog_34_method_1_code 29 = .ok (.iload_n 1, 1) := by decide +kernel
theorem own_d1_30 : decode prog_34_method_1_code 30 = .ok (.putfield 16, 3) := by decide +kernel
theorem own_d1_33 : decode prog_34_method_1_code 33 = .ok (.aload_n 0, 1) := by decide +kernel
theorem own_d1_34 : decode prog_34_method_1_code 34 = .ok (.iload_n 2, 1) := by decide +kernel
theorem own_d1_35 : decode prog_34_method_1_code 35 = .ok (.putfield 22, 3) := by decide +kernel
theorem own_d1_38 : decode prog_34_method_1_code 38 = .ok (.return_, 1) := by decide +kernel
theorem own_pn_com_example_tranche_tranche_model_Span : plainName "com/example/tranche/tranche/model/Span" = true := by first | (simp [plainName, overriddenIn]; done) | decide +kernel
theorem own_ef_own_rspan (m : MethodId) (a1 : Addr) (p1 : Int32) (p2 : Int32) : entryFrame m #[(.ref a1), (.int p1), (.int p2)] 3 = mkF m 0 #[rv a1, iv p1, iv p2] [] := by first | (simp [entryFrame, mkF, argsToLocals, Value.category]; done) | rfl
def own_Q_own_rspan (Z : State) (a1 : Addr) (p1 : Int32) (p2 : Int32) (h0 : Heap) (n0 : Nat) (v : Option Value) (h : Heap) (L : List Loc) : Prop := v = none ∧ Fr n0 L ∧ Keep h0 h [a1] ∧ Exa Z h a1 "com/example/tranche/tranche/model/Span" ∧ Fld Z h a1 "com/example/tranche/tranche/model/Span" "start" "I" (.int p1) ∧ Fld Z h a1 "com/example/tranche/tranche/model/Span" "end" "I" (.int p2)
set_option maxRecDepth 65536 in
set_option maxHeartbeats 40000000 in
theorem own_rspan (l : Launch) (Z : State) (a0 : Array Value) (hw : ∀ d ∈ tables_1, d.before a0 Z = true) (ws : List Jvm.Cond) (a1 : Addr) (p1 : Int32) (p2 : Int32) (h0 : Heap) (n0 : Nat) (Z0 : n0 ≤ h0.size) (Ex : Exa Z h0 a1 "com/example/tranche/tranche/model/Span") (Fs : Fld Z h0 a1 "com/example/tranche/tranche/model/Span" "start" "I" (.int (0 : Int32))) (Fe : Fld Z h0 a1 "com/example/tranche/tranche/model/Span" "end" "I" (.int (0 : Int32))) (g_a1 : n0 ≤ a1) (hs : ¬ (p1 < (0 : Int32))) (he : ¬ (p2 < p1)) :
    MetFree l (⟨"com/example/tranche/tranche/model/Span", "<init>", "(II)V"⟩ : MethodName) (head1 (Jvm.Cond.code (⟨"com/example/tranche/tranche/model/Span", "<init>", "(II)V"⟩ : MethodName) prog_34_method_1_code 3 none :: ws) ({ frames := 2, cells := 0, slots := 0, locals := 24 } : Room)) (fun a U => a = #[(.ref a1), (.int p1), (.int p2)] ∧ Z.Warmed39 U.vm ∧ U.heap = h0) (fun _ _ _ _ _ => True) (fun _ U o U' => ∃ v L, o = .returned v ∧ own_Q_own_rspan Z a1 p1 p2 h0 n0 v U'.heap L ∧ FrameEnd U o U' L ({ frames := 2, cells := 0, slots := 0, locals := 24 } : Room).cells ({ frames := 2, cells := 0, slots := 0, locals := 24 } : Room).slots) := by
  refine MetFree.of_bodySF (plainFor_of_name own_pn_com_example_tranche_tranche_model_Span) hisR ?_
  intro p e s m args below meth c s₁ Bd hml0 hP hK
  obtain ⟨rfl, hZ, hh⟩ := hP
  have hx := Bd.exec
  have hby := Bd.bytes
  have hml : c.maxLocals = 3 := hml0
  have hown : s.vm.findClass "com/example/tranche/tranche/model/Span" = some m.cls := findClass_of_methodNamed Bd.named
  have hnm := (name_of_methodNamed Bd.named Bd.method).1
  have X0 : Stand p l e ({ frames := 2, cells := 0, slots := 0, locals := 24 } : Room) s m #[(.ref a1), (.int p1), (.int p2)] below meth c s₁ [] 0 0 := Stand.of_body Bd
  have e0 : s₁.heap = h0 := by rw [← hh, Bd.state]; rfl
  have N0 := Fr.nil n0
  have Kp : Keep h0 h0 [a1] := Keep.refl h0 _
  show own_Go p e below s (own_Q_own_rspan Z a1 p1 p2 h0 n0) ({ frames := 2, cells := 0, slots := 0, locals := 24 } : Room).cells ({ frames := 2, cells := 0, slots := 0, locals := 24 } : Room).slots (s₁.setTop (entryFrame m #[(.ref a1), (.int p1), (.int p2)] 3))
  refine own_go (fun zt zk => castTop (own_ef_own_rspan m a1 p1 p2) zk) ?_
  show own_Go p e below s _ _ _ (s₁.setTop (mkF m 0 #[rv a1, iv p1, iv p2] []))
  refine own_go (fun zt zk => (XS.aloadN X0.here hx rfl (hb hby own_d1_0) rfl rfl zk)) ?_
  show own_Go p e below s _ _ _ (s₁.setTop (mkF m 1 #[rv a1, iv p1, iv p2] [(.ref a1)]))
  obtain ⟨_, _, ⟨T1, L1, k1, n1⟩, -, X1, ⟨Lc1, hQ1, l1, y1, z1⟩, st1⟩ := X0.specialBack hx (y := (⟨"java/lang/Record", "<init>", "()V"⟩ : MethodName)) rfl hown (mvT hZ (hw _ (List.mem_of_getElem? (i := 8) rfl))) (mvT hZ (hw _ (List.mem_of_getElem? (i := 9) rfl))) (mvT hZ (hw _ (List.mem_of_getElem? (i := 12) rfl))) (by decide) (backOf (W := 0) (own_rrec l Z a0 hw [] a1  h0 n0 Z0 ) hZ (hw _ (List.mem_of_getElem? (i := 12) rfl)) (hw _ (List.mem_of_getElem? (i := 11) rfl)) (by decide) (by decide)) (g := (mkF m 1 #[rv a1, iv p1, iv p2] [(.ref a1)])) rfl (by rw [hml]; rfl) (Steps.refl _) (a := a1) (argsL := []) (rest := []) (lenOf own_pd___V rfl) rfl (by show 2 * 0 + _ ≤ _; exact Nat.le_of_eq rfl) (hb hby own_d1_1) (fun _ _ => ⟨rfl, e0, (by decide : 0 + 0 ≤ _), (by decide : 0 + 0 ≤ _)⟩)
  dsimp only [Pt.U, Pt.locs, Pt.cells, Pt.slots] at X1 l1 y1 z1 st1 hQ1
  subst l1 y1 z1
  obtain ⟨rfl, Nq1, e1⟩ := hQ1
  have N1 := Fr.app N0 Nq1
  refine own_go (fun zt zk => st1.trans zk) ?_
  show own_Go p e below s _ _ _ (T1.setTop (mkF m 4 #[rv a1, iv p1, iv p2] []))
  refine own_go (fun zt zk => (XS.iloadN X1.here hx rfl (hb hby own_d1_4) rfl (XS.ifNo X1.here hx rfl (hb hby own_d1_5) rfl ((if0 _ _).trans (flt (hs : ¬ (p1 < (0 : Int32)))).1) (XS.iloadN X1.here hx rfl (hb hby own_d1_8) rfl (XS.iloadN X1.here hx rfl (hb hby own_d1_9) rfl (XS.icmpYes X1.here hx rfl (pc0 := 10) (pc' := 28) rfl (hb hby own_d1_10) rfl (flt (he : ¬ (p2 < p1))).2.1 (by decide) (by decide) (XS.aloadN X1.here hx rfl (hb hby own_d1_28) rfl rfl (XS.iloadN X1.here hx rfl (hb hby own_d1_29) rfl zk)))))))) ?_
  show own_Go p e below s _ _ _ (T1.setTop (mkF m 30 #[rv a1, iv p1, iv p2] [(.int p1), (.ref a1)]))
  obtain ⟨T2, h2, X2, e2, W2, st2⟩ := putF X1 hx hZ hown (host := "") (Or.inl (hw _ (List.mem_of_getElem? (i := 16) rfl))) Via.refl e1 Fs Ex (Or.inr ⟨(hw _ (List.mem_of_getElem? (i := 17) rfl)), rfl, hnm⟩) (hw _ (List.mem_of_getElem? (i := 3) rfl)) (ty := .int) (by decide) rfl rfl (g := (mkF m 30 #[rv a1, iv p1, iv p2] [(.int p1), (.ref a1)])) rfl rfl (hb hby own_d1_30)
  refine own_go st2 ?_
  have N2 := Fr.snoc X2 N1 g_a1
  replace Ex := Ex.wr W2
  replace Fe := Fe.other W2 (Or.inr (slot_ne (Or.inr (hw _ (List.mem_of_getElem? (i := 19) rfl))) (Or.inr (hw _ (List.mem_of_getElem? (i := 17) rfl))) (by decide) (t := .int) (t' := .int) (by decide) (by decide)))
  replace Kp := Kp.wr W2 (Or.inl (List.mem_of_getElem? (i := 0) rfl))
  replace Fs := Fs.same W2
  show own_Go p e below s _ _ _ (T2.setTop (mkF m 33 #[rv a1, iv p1, iv p2] []))
  refine own_go (fun zt zk => (XS.aloadN X2.here hx rfl (hb hby own_d1_33) rfl rfl (XS.iloadN X2.here hx rfl (hb hby own_d1_34) rfl zk))) ?_
  show own_Go p e below s _ _ _ (T2.setTop (mkF m 35 #[rv a1, iv p1, iv p2] [(.int p2), (.ref a1)]))
  obtain ⟨T3, h3, X3, e3, W3, st3⟩ := putF X2 hx hZ hown (host := "") (Or.inl (hw _ (List.mem_of_getElem? (i := 18) rfl))) Via.refl e2 Fe Ex (Or.inr ⟨(hw _ (List.mem_of_getElem? (i := 19) rfl)), rfl, hnm⟩) (hw _ (List.mem_of_getElem? (i := 3) rfl)) (ty := .int) (by decide) rfl rfl (g := (mkF m 35 #[rv a1, iv p1, iv p2] [(.int p2), (.ref a1)])) rfl rfl (hb hby own_d1_35)
  refine own_go st3 ?_
  have N3 := Fr.snoc X3 N2 g_a1
  replace Ex := Ex.wr W3
  replace Fs := Fs.other W3 (Or.inr (slot_ne (Or.inr (hw _ (List.mem_of_getElem? (i := 17) rfl))) (Or.inr (hw _ (List.mem_of_getElem? (i := 19) rfl))) (by decide) (t := .int) (t' := .int) (by decide) (by decide)))
  replace Kp := Kp.wr W3 (Or.inl (List.mem_of_getElem? (i := 0) rfl))
  replace Fe := Fe.same W3
  show own_Go p e below s _ _ _ (T3.setTop (mkF m 38 #[rv a1, iv p1, iv p2] []))
  exact own_fin X3 Bd.notSynchronized (fun _ => rfl) (fun fs hr => X3.returnOut hx Bd.returns (hb hby own_d1_38) hr) (by rw [e3]; exact ⟨rfl, N3, Kp, Ex, Fs, Fe⟩) (by decide) (by decide)
theorem own_d6_0 : decode jdk_65_method_133_code 0 = .ok (.iload_n 1, 1) := by decide +kernel
theorem own_d6_1 : decode jdk_65_method_133_code 1 = .ok (.iload_n 2, 1) := by decide +kernel
theorem own_d6_2 : decode jdk_65_method_133_code 2 = .ok (.invokestatic 343, 3) := by decide +kernel
theorem own_pd__II_V : parseMethodDescriptor "(II)V" = some ⟨[.int, .int], none⟩ := by decide +kernel
theorem own_d6_5 : decode jdk_65_method_133_code 5 = .ok (.iload_n 2, 1) := by decide +kernel
theorem own_d6_6 : decode jdk_65_method_133_code 6 = .ok (.iload_n 1, 1) := by decide +kernel
theorem own_d6_7 : decode jdk_65_method_133_code 7 = .ok (.isub, 1) := by decide +kernel
theorem own_d6_8 : decode jdk_65_method_133_code 8 = .ok (.istore_n 3, 1) := by decide +kernel
theorem own_d6_9 : decode jdk_65_method_133_code 9 = .ok (.iload_n 3, 1) := by decide +kernel
theorem own_d6_10 : decode jdk_65_method_133_code 10 = .ok (.newarray .byte, 2) := by decide +kernel
theorem own_d6_12 : decode jdk_65_method_133_code 12 = .ok (.astore 4, 2) := by decide +kernel
theorem own_d6_14 : decode jdk_65_method_133_code 14 = .ok (.aload_n 0, 1) := by decide +kernel
theorem own_d6_15 : decode jdk_65_method_133_code 15 = .ok (.iload_n 1, 1) := by decide +kernel
theorem own_d6_16 : decode jdk_65_method_133_code 16 = .ok (.aload 4, 2) := by decide +kernel
theorem own_d6_18 : decode jdk_65_method_133_code 18 = .ok (.iconst 0, 1) := by decide +kernel
theorem own_d6_19 : decode jdk_65_method_133_code 19 = .ok (.aload_n 0, 1) := by decide +kernel
theorem own_d6_20 : decode jdk_65_method_133_code 20 = .ok (.arraylength, 1) := by decide +kernel
theorem own_d6_21 : decode jdk_65_method_133_code 21 = .ok (.iload_n 1, 1) := by decide +kernel
theorem own_d6_22 : decode jdk_65_method_133_code 22 = .ok (.isub, 1) := by decide +kernel
theorem own_d6_23 : decode jdk_65_method_133_code 23 = .ok (.iload_n 3, 1) := by decide +kernel
theorem own_d6_24 : decode jdk_65_method_133_code 24 = .ok (.invokestatic 304, 3) := by decide +kernel
theorem own_pd__II_I : parseMethodDescriptor "(II)I" = some ⟨[.int, .int], some .int⟩ := by decide +kernel
theorem own_d6_27 : decode jdk_65_method_133_code 27 = .ok (.invokestatic 150, 3) := by decide +kernel
theorem own_d6_30 : decode jdk_65_method_133_code 30 = .ok (.aload 4, 2) := by decide +kernel
theorem own_d6_32 : decode jdk_65_method_133_code 32 = .ok (.areturn, 1) := by decide +kernel
theorem own_ef_own_rcrb00 (m : MethodId) (a1 : Addr) : entryFrame m #[(.ref a1), (.int (0 : Int32)), (.int (0 : Int32))] 5 = mkF m 0 #[rv a1, iv (0 : Int32), iv (0 : Int32), .unset, .unset] [] := by first | (simp [entryFrame, mkF, argsToLocals, Value.category]; done) | rfl
def own_Q_own_rcrb00 (Z : State) (a1 : Addr) (k1 : ClassId) (v0 v1 v2 v3 : Value) (h0 : Heap) (n0 : Nat) (v : Option Value) (h : Heap) (L : List Loc) : Prop := ∃ b k, v = some (.ref b) ∧ Fr n0 L ∧ Keep h0 h [] ∧ h0.size ≤ b ∧ Exa Z h b "[B" ∧ Arv Z h b k .byte (0 : Int32) [] (.int (0 : Int32))
set_option maxRecDepth 65536 in
set_option maxHeartbeats 40000000 in
theorem own_rcrb00 (l : Launch) (Z : State) (a0 : Array Value) (hw : ∀ d ∈ tables_1, d.before a0 Z = true) (ws : List Jvm.Cond) (a1 : Addr) (k1 : ClassId) (v0 v1 v2 v3 : Value) (h0 : Heap) (n0 : Nat) (Z0 : n0 ≤ h0.size) (Va : Arv Z h0 a1 k1 .byte (4 : Int32) [v0, v1, v2, v3] (.int (0 : Int32)))  :
    MetFree l (⟨"java/util/Arrays", "copyOfRangeByte", "([BII)[B"⟩ : MethodName) (head1 (Jvm.Cond.code (⟨"java/util/Arrays", "copyOfRangeByte", "([BII)[B"⟩ : MethodName) jdk_65_method_133_code 5 (some (.array .byte)) :: ws) ({ frames := 1, cells := 1, slots := 0, locals := 32 } : Room)) (fun a U => a = #[(.ref a1), (.int (0 : Int32)), (.int (0 : Int32))] ∧ Z.Warmed39 U.vm ∧ U.heap = h0) (fun _ _ _ _ _ => True) (fun _ U o U' => ∃ v L, o = .returned v ∧ own_Q_own_rcrb00 Z a1 k1 v0 v1 v2 v3 h0 n0 v U'.heap L ∧ FrameEnd U o U' L ({ frames := 1, cells := 1, slots := 0, locals := 32 } : Room).cells ({ frames := 1, cells := 1, slots := 0, locals := 32 } : Room).slots) := by
  refine MetFree.of_bodySF (plainFor_of_name own_pn_java_util_Arrays) hisR ?_
  intro p e s m args below meth c s₁ Bd hml0 hP hK
  obtain ⟨rfl, hZ, hh⟩ := hP
  have hx := Bd.exec
  have hby := Bd.bytes
  have hml : c.maxLocals = 5 := hml0
  have hown : s.vm.findClass "java/util/Arrays" = some m.cls := findClass_of_methodNamed Bd.named
  have hnm := (name_of_methodNamed Bd.named Bd.method).1
  have X0 : Stand p l e ({ frames := 1, cells := 1, slots := 0, locals := 32 } : Room) s m #[(.ref a1), (.int (0 : Int32)), (.int (0 : Int32))] below meth c s₁ [] 0 0 := Stand.of_body Bd
  have e0 : s₁.heap = h0 := by rw [← hh, Bd.state]; rfl
  have N0 := Fr.nil n0
  have Kp : Keep h0 h0 [] := Keep.refl h0 _
  show own_Go p e below s (own_Q_own_rcrb00 Z a1 k1 v0 v1 v2 v3 h0 n0) ({ frames := 1, cells := 1, slots := 0, locals := 32 } : Room).cells ({ frames := 1, cells := 1, slots := 0, locals := 32 } : Room).slots (s₁.setTop (entryFrame m #[(.ref a1), (.int (0 : Int32)), (.int (0 : Int32))] 5))
  refine own_go (fun zt zk => castTop (own_ef_own_rcrb00 m a1) zk) ?_
  show own_Go p e below s _ _ _ (s₁.setTop (mkF m 0 #[rv a1, iv (0 : Int32), iv (0 : Int32), .unset, .unset] []))
  refine own_go (fun zt zk => (XS.iloadN X0.here hx rfl (hb hby own_d6_0) rfl (XS.iloadN X0.here hx rfl (hb hby own_d6_1) rfl zk))) ?_
  show own_Go p e below s _ _ _ (s₁.setTop (mkF m 2 #[rv a1, iv (0 : Int32), iv (0 : Int32), .unset, .unset] [(.int (0 : Int32)), (.int (0 : Int32))]))
  obtain ⟨_, _, ⟨T1, L1, k1, n1⟩, -, X1, ⟨Lc1, hQ1, l1, y1, z1⟩, st1⟩ := Jvm.LawKit.callS X0 hx (y := (⟨"java/util/Arrays", "checkLength", "(II)V"⟩ : MethodName)) hown (mvT hZ (hw _ (List.mem_of_getElem? (i := 32) rfl))) (mvT hZ (hw _ (List.mem_of_getElem? (i := 33) rfl))) (mvT hZ (hw _ (List.mem_of_getElem? (i := 27) rfl))) (mvT hZ (hw _ (List.mem_of_getElem? (i := 34) rfl))) (by decide) (backOf (W := 0) (own_rcl l Z a0 hw [] (0 : Int32) (0 : Int32)  h0 n0 Z0 (by decide)) hZ (hw _ (List.mem_of_getElem? (i := 34) rfl)) (hw _ (List.mem_of_getElem? (i := 27) rfl)) (by decide) (by decide)) (g := (mkF m 2 #[rv a1, iv (0 : Int32), iv (0 : Int32), .unset, .unset] [(.int (0 : Int32)), (.int (0 : Int32))])) rfl (by rw [hml]; rfl) (argsL := [(.int (0 : Int32)), (.int (0 : Int32))]) (rest := []) (lenOf own_pd__II_V rfl) rfl (by show 2 * 0 + _ ≤ _; exact Nat.le_of_eq rfl) (hb hby own_d6_2) (fun _ _ => ⟨rfl, e0, (by decide : 0 + 0 ≤ _), (by decide : 0 + 0 ≤ _)⟩)
  dsimp only [Pt.U, Pt.locs, Pt.cells, Pt.slots] at X1 l1 y1 z1 st1 hQ1
  subst l1 y1 z1
  obtain ⟨rfl, Nq1, e1⟩ := hQ1
  have N1 := Fr.app N0 Nq1
  refine own_go st1 ?_
  show own_Go p e below s _ _ _ (T1.setTop (mkF m 5 #[rv a1, iv (0 : Int32), iv (0 : Int32), .unset, .unset] []))
  refine own_go (fun zt zk => (XS.iloadN X1.here hx rfl (hb hby own_d6_5) rfl (XS.iloadN X1.here hx rfl (hb hby own_d6_6) rfl (XS.isub X1.here hx rfl (hb hby own_d6_7) rfl (XS.istoreN X1.here hx rfl (hb hby own_d6_8) rfl (l' := #[rv a1, iv (0 : Int32), iv (0 : Int32), iv (0 : Int32), .unset]) rfl (XS.iloadN X1.here hx rfl (hb hby own_d6_9) rfl zk)))))) ?_
  show own_Go p e below s _ _ _ (T1.setTop (mkF m 10 #[rv a1, iv (0 : Int32), iv (0 : Int32), iv (0 : Int32), .unset] [(.int (0 : Int32))]))
  obtain ⟨T2, h2, k2, X2, e2, E2, A2, Ea2, st2⟩ := newPE X1 hx hZ (hw _ (List.mem_of_getElem? (i := 0) rfl)) e1 (g := (mkF m 10 #[rv a1, iv (0 : Int32), iv (0 : Int32), iv (0 : Int32), .unset] [(.int (0 : Int32))])) rfl (hb hby own_d6_10) rfl (by decide) (cap := 0) (by decide) (by decide) (by decide) (by decide) (ad := "[B") (by decide)
  obtain ⟨b2, g2⟩ : ∃ z, z = h0.size := ⟨_, rfl⟩
  rw [← g2] at A2 Ea2 st2
  refine own_go st2 ?_
  have ne_a1_b2 : a1 ≠ b2 := Nat.ne_of_lt (Nat.lt_of_lt_of_le Va.lt (Nat.le_of_eq g2.symm))
  have sz_b2 : h0.size ≤ b2 := Nat.le_trans Kp.1 (Nat.le_of_eq g2.symm)
  have g_b2 : n0 ≤ b2 := Nat.le_trans Z0 sz_b2
  replace Va := Va.ext E2
  replace Kp := Kp.ext E2
  have V_b2 : Arv Z h2 b2 k2 .byte (0 : Int32) [] (.int (0 : Int32)) := (Arv.new A2 (by decide)).pad (pad_rep [] (.int (0 : Int32)) 0)
  have Ea_b2 := Ea2
  show own_Go p e below s _ _ _ (T2.setTop (mkF m 12 #[rv a1, iv (0 : Int32), iv (0 : Int32), iv (0 : Int32), .unset] [(.ref b2)]))
  refine own_go (fun zt zk => (XS.astore X2.here hx rfl (hb hby own_d6_12) rfl rfl (l' := #[rv a1, iv (0 : Int32), iv (0 : Int32), iv (0 : Int32), rv b2]) rfl (XS.aloadN X2.here hx rfl (hb hby own_d6_14) rfl rfl (XS.iloadN X2.here hx rfl (hb hby own_d6_15) rfl (XS.aload X2.here hx rfl (hb hby own_d6_16) rfl rfl (XS.iconst X2.here hx rfl (hb hby own_d6_18) (XS.aloadN X2.here hx rfl (hb hby own_d6_19) rfl rfl zk))))))) ?_
  show own_Go p e below s _ _ _ (T2.setTop (mkF m 20 #[rv a1, iv (0 : Int32), iv (0 : Int32), iv (0 : Int32), rv b2] [(.ref a1), (.int (0 : Int32)), (.ref b2), (.int (0 : Int32)), (.ref a1)]))
  obtain ⟨cl3, Ar3, -, Sz3, Nz3, -, -⟩ := id Va
  refine own_go (X2.arraylength hx (by rw [e2]; exact Ar3.1) (State.isArrayOf_alike hZ.alike Ar3.2.1) (g := (mkF m 20 #[rv a1, iv (0 : Int32), iv (0 : Int32), iv (0 : Int32), rv b2] [(.ref a1), (.int (0 : Int32)), (.ref b2), (.int (0 : Int32)), (.ref a1)])) rfl rfl (hb hby own_d6_20)) ?_
  rw [len_of Sz3 Nz3]
  show own_Go p e below s _ _ _ (T2.setTop (mkF m 21 #[rv a1, iv (0 : Int32), iv (0 : Int32), iv (0 : Int32), rv b2] [(.int (4 : Int32)), (.int (0 : Int32)), (.ref b2), (.int (0 : Int32)), (.ref a1)]))
  refine own_go (fun zt zk => (XS.iloadN X2.here hx rfl (hb hby own_d6_21) rfl (XS.isub X2.here hx rfl (hb hby own_d6_22) rfl (XS.iloadN X2.here hx rfl (hb hby own_d6_23) rfl zk)))) ?_
  show own_Go p e below s _ _ _ (T2.setTop (mkF m 24 #[rv a1, iv (0 : Int32), iv (0 : Int32), iv (0 : Int32), rv b2] [(.int (0 : Int32)), (.int (4 : Int32)), (.int (0 : Int32)), (.ref b2), (.int (0 : Int32)), (.ref a1)]))
  obtain ⟨_, _, ⟨T4, L4, k4, n4⟩, -, X4, ⟨Lc4, hQ4, l4, y4, z4⟩, st4⟩ := Jvm.LawKit.callS X2 hx (y := (⟨"java/lang/Math", "min", "(II)I"⟩ : MethodName)) hown (mvT hZ (hw _ (List.mem_of_getElem? (i := 35) rfl))) (mvT hZ (hw _ (List.mem_of_getElem? (i := 36) rfl))) (mvT hZ (hw _ (List.mem_of_getElem? (i := 37) rfl))) (mvT hZ (hw _ (List.mem_of_getElem? (i := 38) rfl))) (by decide) (backOf (W := 4) (own_rmin l Z a0 hw [] (4 : Int32) (0 : Int32)  h2 n0 (Nat.le_trans Z0 Kp.1) ) hZ (hw _ (List.mem_of_getElem? (i := 38) rfl)) (hw _ (List.mem_of_getElem? (i := 37) rfl)) (by decide) (by decide)) (g := (mkF m 24 #[rv a1, iv (0 : Int32), iv (0 : Int32), iv (0 : Int32), rv b2] [(.int (0 : Int32)), (.int (4 : Int32)), (.int (0 : Int32)), (.ref b2), (.int (0 : Int32)), (.ref a1)])) rfl (by rw [hml]; rfl) (argsL := [(.int (4 : Int32)), (.int (0 : Int32))]) (rest := [(.int (0 : Int32)), (.ref b2), (.int (0 : Int32)), (.ref a1)]) (lenOf own_pd__II_I rfl) rfl (by show 2 * 0 + _ ≤ _; exact Nat.le_of_eq rfl) (hb hby own_d6_24) (fun _ _ => ⟨rfl, e2, (by decide : 1 + 0 ≤ _), (by decide : 0 + 0 ≤ _)⟩)
  dsimp only [Pt.U, Pt.locs, Pt.cells, Pt.slots] at X4 l4 y4 z4 st4 hQ4
  subst l4 y4 z4
  obtain ⟨rfl, Nq4, e4⟩ := hQ4
  have N4 := Fr.app N1 Nq4
  refine own_go st4 ?_
  show own_Go p e below s _ _ _ (T4.setTop (mkF m 27 #[rv a1, iv (0 : Int32), iv (0 : Int32), iv (0 : Int32), rv b2] [(.int (0 : Int32)), (.int (0 : Int32)), (.ref b2), (.int (0 : Int32)), (.ref a1)]))
  obtain ⟨T5, h5, L5, X5, e5, N5, K5, V5, st5⟩ := cpA X4 hx hZ hown (hw _ (List.mem_of_getElem? (i := 39) rfl)) (hw _ (List.mem_of_getElem? (i := 42) rfl)) (hw _ (List.mem_of_getElem? (i := 40) rfl)) (hw _ (List.mem_of_getElem? (i := 41) rfl)) e4 Va V_b2 (us := []) (Or.inl ⟨rfl, rfl⟩) (by decide) (by decide) (by decide) (by decide) (by decide) rfl (by decide) N4 g_b2 (g := (mkF m 27 #[rv a1, iv (0 : Int32), iv (0 : Int32), iv (0 : Int32), rv b2] [(.int (0 : Int32)), (.int (0 : Int32)), (.ref b2), (.int (0 : Int32)), (.ref a1)])) rfl (by rw [hml]; rfl) rfl (hb hby own_d6_27) (by decide) (W := 0) (by show 2 * 0 + _ ≤ _; exact Nat.le_of_eq rfl) (by decide)
  refine own_go st5 ?_
  replace Va := Va.keep K5 (ninS ne_a1_b2 nin0)
  replace Kp := Kp.trans K5 (allS (Or.inr sz_b2) all0)
  replace Ea_b2 := Ea_b2.keep K5
  replace V_b2 : Arv Z h5 b2 k2 .byte (0 : Int32) [] (.int (0 : Int32)) := V5
  show own_Go p e below s _ _ _ (T5.setTop (mkF m 30 #[rv a1, iv (0 : Int32), iv (0 : Int32), iv (0 : Int32), rv b2] []))
  refine own_go (fun zt zk => (XS.aload X5.here hx rfl (hb hby own_d6_30) rfl rfl zk)) ?_
  show own_Go p e below s _ _ _ (T5.setTop (mkF m 32 #[rv a1, iv (0 : Int32), iv (0 : Int32), iv (0 : Int32), rv b2] [(.ref b2)]))
  exact own_fin X5 Bd.notSynchronized (fun h => by rw [Bd.returns] at h; cases h) (fun fs hr => retOut X5 hx (t := (.array .byte)) (w := (.ref b2)) Bd.returns rfl (Or.inr (Or.inr (Or.inr (Or.inr ⟨rfl, rfl, rfl⟩)))) (hb hby own_d6_32) hr) (by rw [e5]; exact ⟨_, _, rfl, N5, Kp, sz_b2, Ea_b2, V_b2⟩) (by decide) (by decide)
theorem own_d5_0 : decode jdk_65_method_132_code 0 = .ok (.iload_n 1, 1) := by decide +kernel
theorem own_d5_1 : decode jdk_65_method_132_code 1 = .ok (.ifCond .ne 9, 3) := by decide +kernel
theorem own_d5_4 : decode jdk_65_method_132_code 4 = .ok (.iload_n 2, 1) := by decide +kernel
theorem own_d5_5 : decode jdk_65_method_132_code 5 = .ok (.aload_n 0, 1) := by decide +kernel
theorem own_d5_6 : decode jdk_65_method_132_code 6 = .ok (.arraylength, 1) := by decide +kernel
theorem own_d5_7 : decode jdk_65_method_132_code 7 = .ok (.if_icmp .eq 10, 3) := by decide +kernel
theorem own_d5_10 : decode jdk_65_method_132_code 10 = .ok (.aload_n 0, 1) := by decide +kernel
theorem own_d5_11 : decode jdk_65_method_132_code 11 = .ok (.iload_n 1, 1) := by decide +kernel
theorem own_d5_12 : decode jdk_65_method_132_code 12 = .ok (.iload_n 2, 1) := by decide +kernel
theorem own_d5_13 : decode jdk_65_method_132_code 13 = .ok (.invokestatic 339, 3) := by decide +kernel
theorem own_pd___BII__B : parseMethodDescriptor "([BII)[B" = some ⟨[(.array .byte), .int, .int], some (.array .byte)⟩ := by decide +kernel
theorem own_d5_16 : decode jdk_65_method_132_code 16 = .ok (.areturn, 1) := by decide +kernel
theorem own_ef_own_rcr00 (m : MethodId) (a1 : Addr) : entryFrame m #[(.ref a1), (.int (0 : Int32)), (.int (0 : Int32))] 3 = mkF m 0 #[rv a1, iv (0 : Int32), iv (0 : Int32)] [] := by first | (simp [entryFrame, mkF, argsToLocals, Value.category]; done) | rfl
def own_Q_own_rcr00 (Z : State) (a1 : Addr) (k1 : ClassId) (v0 v1 v2 v3 : Value) (h0 : Heap) (n0 : Nat) (v : Option Value) (h : Heap) (L : List Loc) : Prop := ∃ b k, v = some (.ref b) ∧ Fr n0 L ∧ Keep h0 h [] ∧ h0.size ≤ b ∧ Exa Z h b "[B" ∧ Arv Z h b k .byte (0 : Int32) [] (.int (0 : Int32))
set_option maxRecDepth 65536 in
set_option maxHeartbeats 40000000 in
theorem own_rcr00 (l : Launch) (Z : State) (a0 : Array Value) (hw : ∀ d ∈ tables_1, d.before a0 Z = true) (ws : List Jvm.Cond) (a1 : Addr) (k1 : ClassId) (v0 v1 v2 v3 : Value) (h0 : Heap) (n0 : Nat) (Z0 : n0 ≤ h0.size) (Va : Arv Z h0 a1 k1 .byte (4 : Int32) [v0, v1, v2, v3] (.int (0 : Int32))) (Ea : Exa Z h0 a1 "[B")  :
    MetFree l (⟨"java/util/Arrays", "copyOfRange", "([BII)[B"⟩ : MethodName) (head1 (Jvm.Cond.code (⟨"java/util/Arrays", "copyOfRange", "([BII)[B"⟩ : MethodName) jdk_65_method_132_code 3 (some (.array .byte)) :: ws) ({ frames := 2, cells := 1, slots := 0, locals := 48 } : Room)) (fun a U => a = #[(.ref a1), (.int (0 : Int32)), (.int (0 : Int32))] ∧ Z.Warmed39 U.vm ∧ U.heap = h0) (fun _ _ _ _ _ => True) (fun _ U o U' => ∃ v L, o = .returned v ∧ own_Q_own_rcr00 Z a1 k1 v0 v1 v2 v3 h0 n0 v U'.heap L ∧ FrameEnd U o U' L ({ frames := 2, cells := 1, slots := 0, locals := 48 } : Room).cells ({ frames := 2, cells := 1, slots := 0, locals := 48 } : Room).slots) := by
  refine MetFree.of_bodySF (plainFor_of_name own_pn_java_util_Arrays) hisR ?_
  intro p e s m args below meth c s₁ Bd hml0 hP hK
  obtain ⟨rfl, hZ, hh⟩ := hP
  have hx := Bd.exec
  have hby := Bd.bytes
  have hml : c.maxLocals = 3 := hml0
  have hown : s.vm.findClass "java/util/Arrays" = some m.cls := findClass_of_methodNamed Bd.named
  have hnm := (name_of_methodNamed Bd.named Bd.method).1
  have X0 : Stand p l e ({ frames := 2, cells := 1, slots := 0, locals := 48 } : Room) s m #[(.ref a1), (.int (0 : Int32)), (.int (0 : Int32))] below meth c s₁ [] 0 0 := Stand.of_body Bd
  have e0 : s₁.heap = h0 := by rw [← hh, Bd.state]; rfl
  have N0 := Fr.nil n0
  have Kp : Keep h0 h0 [] := Keep.refl h0 _
  show own_Go p e below s (own_Q_own_rcr00 Z a1 k1 v0 v1 v2 v3 h0 n0) ({ frames := 2, cells := 1, slots := 0, locals := 48 } : Room).cells ({ frames := 2, cells := 1, slots := 0, locals := 48 } : Room).slots (s₁.setTop (entryFrame m #[(.ref a1), (.int (0 : Int32)), (.int (0 : Int32))] 3))
  refine own_go (fun zt zk => castTop (own_ef_own_rcr00 m a1) zk) ?_
  show own_Go p e below s _ _ _ (s₁.setTop (mkF m 0 #[rv a1, iv (0 : Int32), iv (0 : Int32)] []))
  refine own_go (fun zt zk => (XS.iloadN X0.here hx rfl (hb hby own_d5_0) rfl (XS.ifNo X0.here hx rfl (hb hby own_d5_1) rfl ((if0 _ _).trans (teq (rfl : (0 : Int32) = (0 : Int32))).2) (XS.iloadN X0.here hx rfl (hb hby own_d5_4) rfl (XS.aloadN X0.here hx rfl (hb hby own_d5_5) rfl rfl zk))))) ?_
  show own_Go p e below s _ _ _ (s₁.setTop (mkF m 6 #[rv a1, iv (0 : Int32), iv (0 : Int32)] [(.ref a1), (.int (0 : Int32))]))
  obtain ⟨cl1, Ar1, -, Sz1, Nz1, -, -⟩ := id Va
  refine own_go (X0.arraylength hx (by rw [e0]; exact Ar1.1) (State.isArrayOf_alike hZ.alike Ar1.2.1) (g := (mkF m 6 #[rv a1, iv (0 : Int32), iv (0 : Int32)] [(.ref a1), (.int (0 : Int32))])) rfl rfl (hb hby own_d5_6)) ?_
  rw [len_of Sz1 Nz1]
  show own_Go p e below s _ _ _ (s₁.setTop (mkF m 7 #[rv a1, iv (0 : Int32), iv (0 : Int32)] [(.int (4 : Int32)), (.int (0 : Int32))]))
  refine own_go (fun zt zk => (XS.icmpNo X0.here hx rfl (hb hby own_d5_7) rfl (feq ((by decide) : ¬ ((0 : Int32) = (4 : Int32)))).1 (XS.aloadN X0.here hx rfl (hb hby own_d5_10) rfl rfl (XS.iloadN X0.here hx rfl (hb hby own_d5_11) rfl (XS.iloadN X0.here hx rfl (hb hby own_d5_12) rfl zk))))) ?_
  show own_Go p e below s _ _ _ (s₁.setTop (mkF m 13 #[rv a1, iv (0 : Int32), iv (0 : Int32)] [(.int (0 : Int32)), (.int (0 : Int32)), (.ref a1)]))
  obtain ⟨_, _, ⟨T2, L2, k2, n2⟩, -, X2, ⟨Lc2, hQ2, l2, y2, z2⟩, st2⟩ := Jvm.LawKit.callS X0 hx (y := (⟨"java/util/Arrays", "copyOfRangeByte", "([BII)[B"⟩ : MethodName)) hown (mvT hZ (hw _ (List.mem_of_getElem? (i := 29) rfl))) (mvT hZ (hw _ (List.mem_of_getElem? (i := 30) rfl))) (mvT hZ (hw _ (List.mem_of_getElem? (i := 27) rfl))) (mvT hZ (hw _ (List.mem_of_getElem? (i := 31) rfl))) (by decide) (backOf (W := 0) (own_rcrb00 l Z a0 hw [] a1 k1 v0 v1 v2 v3 h0 n0 Z0 Va) hZ (hw _ (List.mem_of_getElem? (i := 31) rfl)) (hw _ (List.mem_of_getElem? (i := 27) rfl)) (by decide) (by decide)) (g := (mkF m 13 #[rv a1, iv (0 : Int32), iv (0 : Int32)] [(.int (0 : Int32)), (.int (0 : Int32)), (.ref a1)])) rfl (by rw [hml]; rfl) (argsL := [(.ref a1), (.int (0 : Int32)), (.int (0 : Int32))]) (rest := []) (lenOf own_pd___BII__B rfl) rfl (by show 2 * 0 + _ ≤ _; exact Nat.le_of_eq rfl) (hb hby own_d5_13) (fun _ _ => ⟨rfl, e0, (by decide : 0 + 1 ≤ _), (by decide : 0 + 0 ≤ _)⟩)
  dsimp only [Pt.U, Pt.locs, Pt.cells, Pt.slots] at X2 l2 y2 z2 st2 hQ2
  subst l2 y2 z2
  obtain ⟨b2, k2', rfl, Nq2, K2, sz_b2, Ea_b2, V_b2⟩ := hQ2
  have N2 := Fr.app N0 Nq2
  refine own_go st2 ?_
  replace Va := Va.keep K2 nin0
  replace Ea := Ea.keep K2
  replace Kp := Kp.trans K2 all0
  show own_Go p e below s _ _ _ (T2.setTop (mkF m 16 #[rv a1, iv (0 : Int32), iv (0 : Int32)] [(.ref b2)]))
  exact own_fin X2 Bd.notSynchronized (fun h => by rw [Bd.returns] at h; cases h) (fun fs hr => retOut X2 hx (t := (.array .byte)) (w := (.ref b2)) Bd.returns rfl (Or.inr (Or.inr (Or.inr (Or.inr ⟨rfl, rfl, rfl⟩)))) (hb hby own_d5_16) hr) ⟨_, _, rfl, N2, Kp, sz_b2, Ea_b2, V_b2⟩ (by decide) (by decide)
theorem own_d4_0 : decode prog_34_method_2_code 0 = .ok (.aload_n 0, 1) := by decide +kernel
theorem own_d4_1 : decode prog_34_method_2_code 1 = .ok (.getfield 22, 3) := by decide +kernel
theorem own_d4_4 : decode prog_34_method_2_code 4 = .ok (.aload_n 1, 1) := by decide +kernel
theorem own_d4_5 : decode prog_34_method_2_code 5 = .ok (.arraylength, 1) := by decide +kernel
theorem own_d4_6 : decode prog_34_method_2_code 6 = .ok (.if_icmp .le 26, 3) := by decide +kernel
theorem own_d4_32 : decode prog_34_method_2_code 32 = .ok (.aload_n 1, 1) := by decide +kernel
theorem own_d4_33 : decode prog_34_method_2_code 33 = .ok (.aload_n 0, 1) := by decide +kernel
theorem own_d4_34 : decode prog_34_method_2_code 34 = .ok (.getfield 16, 3) := by decide +kernel
theorem own_d4_37 : decode prog_34_method_2_code 37 = .ok (.aload_n 0, 1) := by decide +kernel
theorem own_d4_38 : decode prog_34_method_2_code 38 = .ok (.getfield 22, 3) := by decide +kernel
theorem own_d4_41 : decode prog_34_method_2_code 41 = .ok (.invokestatic 31, 3) := by decide +kernel
theorem own_d4_44 : decode prog_34_method_2_code 44 = .ok (.areturn, 1) := by decide +kernel
theorem own_ef_own_rbi00 (m : MethodId) (a0' : Addr) (a1 : Addr) : entryFrame m #[(.ref a0'), (.ref a1)] 2 = mkF m 0 #[rv a0', rv a1] [] := by first | (simp [entryFrame, mkF, argsToLocals, Value.category]; done) | rfl
def own_Q_own_rbi00 (Z : State) (a0' : Addr) (a1 : Addr) (k1 : ClassId) (v0 v1 v2 v3 : Value) (h0 : Heap) (n0 : Nat) (v : Option Value) (h : Heap) (L : List Loc) : Prop := ∃ b k, v = some (.ref b) ∧ Fr n0 L ∧ Keep h0 h [] ∧ h0.size ≤ b ∧ Exa Z h b "[B" ∧ Arv Z h b k .byte (0 : Int32) [] (.int (0 : Int32))
set_option maxRecDepth 65536 in
set_option maxHeartbeats 40000000 in
theorem own_rbi00 (l : Launch) (Z : State) (a0 : Array Value) (hw : ∀ d ∈ tables_1, d.before a0 Z = true) (ws : List Jvm.Cond) (a0' : Addr) (a1 : Addr) (k1 : ClassId) (v0 v1 v2 v3 : Value) (h0 : Heap) (n0 : Nat) (Z0 : n0 ≤ h0.size) (Va : Arv Z h0 a1 k1 .byte (4 : Int32) [v0, v1, v2, v3] (.int (0 : Int32))) (Ea : Exa Z h0 a1 "[B") (Fs : Fld Z h0 a0' "com/example/tranche/tranche/model/Span" "start" "I" (.int (0 : Int32))) (Fe : Fld Z h0 a0' "com/example/tranche/tranche/model/Span" "end" "I" (.int (0 : Int32)))  :
    MetFree l (⟨"com/example/tranche/tranche/model/Span", "bytesIn", "([B)[B"⟩ : MethodName) (head1 (Jvm.Cond.code (⟨"com/example/tranche/tranche/model/Span", "bytesIn", "([B)[B"⟩ : MethodName) prog_34_method_2_code 2 (some (.array .byte)) :: ws) ({ frames := 3, cells := 1, slots := 0, locals := 62 } : Room)) (fun a U => a = #[(.ref a0'), (.ref a1)] ∧ Z.Warmed39 U.vm ∧ U.heap = h0) (fun _ _ _ _ _ => True) (fun _ U o U' => ∃ v L, o = .returned v ∧ own_Q_own_rbi00 Z a0' a1 k1 v0 v1 v2 v3 h0 n0 v U'.heap L ∧ FrameEnd U o U' L ({ frames := 3, cells := 1, slots := 0, locals := 62 } : Room).cells ({ frames := 3, cells := 1, slots := 0, locals := 62 } : Room).slots) := by
  refine MetFree.of_bodySF (plainFor_of_name own_pn_com_example_tranche_tranche_model_Span) hisR ?_
  intro p e s m args below meth c s₁ Bd hml0 hP hK
  obtain ⟨rfl, hZ, hh⟩ := hP
  have hx := Bd.exec
  have hby := Bd.bytes
  have hml : c.maxLocals = 2 := hml0
  have hown : s.vm.findClass "com/example/tranche/tranche/model/Span" = some m.cls := findClass_of_methodNamed Bd.named
  have hnm := (name_of_methodNamed Bd.named Bd.method).1
  have X0 : Stand p l e ({ frames := 3, cells := 1, slots := 0, locals := 62 } : Room) s m #[(.ref a0'), (.ref a1)] below meth c s₁ [] 0 0 := Stand.of_body Bd
  have e0 : s₁.heap = h0 := by rw [← hh, Bd.state]; rfl
  have N0 := Fr.nil n0
  have Kp : Keep h0 h0 [] := Keep.refl h0 _
  show own_Go p e below s (own_Q_own_rbi00 Z a0' a1 k1 v0 v1 v2 v3 h0 n0) ({ frames := 3, cells := 1, slots := 0, locals := 62 } : Room).cells ({ frames := 3, cells := 1, slots := 0, locals := 62 } : Room).slots (s₁.setTop (entryFrame m #[(.ref a0'), (.ref a1)] 2))
  refine own_go (fun zt zk => castTop (own_ef_own_rbi00 m a0' a1) zk) ?_
  show own_Go p e below s _ _ _ (s₁.setTop (mkF m 0 #[rv a0', rv a1] []))
  refine own_go (fun zt zk => (XS.aloadN X0.here hx rfl (hb hby own_d4_0) rfl rfl zk)) ?_
  show own_Go p e below s _ _ _ (s₁.setTop (mkF m 1 #[rv a0', rv a1] [(.ref a0')]))
  obtain ⟨T1, X1, e1, st1⟩ := getF X0 hx hZ hown (host := "") (Or.inl (hw _ (List.mem_of_getElem? (i := 18) rfl))) Via.refl e0 Fe (g := (mkF m 1 #[rv a0', rv a1] [(.ref a0')])) rfl rfl (hb hby own_d4_1)
  refine own_go st1 ?_
  show own_Go p e below s _ _ _ (T1.setTop (mkF m 4 #[rv a0', rv a1] [(.int (0 : Int32))]))
  refine own_go (fun zt zk => (XS.aloadN X1.here hx rfl (hb hby own_d4_4) rfl rfl zk)) ?_
  show own_Go p e below s _ _ _ (T1.setTop (mkF m 5 #[rv a0', rv a1] [(.ref a1), (.int (0 : Int32))]))
  obtain ⟨cl2, Ar2, -, Sz2, Nz2, -, -⟩ := id Va
  refine own_go (X1.arraylength hx (by rw [e1]; exact Ar2.1) (State.isArrayOf_alike hZ.alike Ar2.2.1) (g := (mkF m 5 #[rv a0', rv a1] [(.ref a1), (.int (0 : Int32))])) rfl rfl (hb hby own_d4_5)) ?_
  rw [len_of Sz2 Nz2]
  show own_Go p e below s _ _ _ (T1.setTop (mkF m 6 #[rv a0', rv a1] [(.int (4 : Int32)), (.int (0 : Int32))]))
  refine own_go (fun zt zk => (XS.icmpYes X1.here hx rfl (pc0 := 6) (pc' := 32) rfl (hb hby own_d4_6) rfl (flt ((by decide) : ¬ ((4 : Int32) < (0 : Int32)))).2.2.2 (by decide) (by decide) (XS.aloadN X1.here hx rfl (hb hby own_d4_32) rfl rfl (XS.aloadN X1.here hx rfl (hb hby own_d4_33) rfl rfl zk)))) ?_
  show own_Go p e below s _ _ _ (T1.setTop (mkF m 34 #[rv a0', rv a1] [(.ref a0'), (.ref a1)]))
  obtain ⟨T3, X3, e3, st3⟩ := getF X1 hx hZ hown (host := "") (Or.inl (hw _ (List.mem_of_getElem? (i := 16) rfl))) Via.refl e1 Fs (g := (mkF m 34 #[rv a0', rv a1] [(.ref a0'), (.ref a1)])) rfl rfl (hb hby own_d4_34)
  refine own_go st3 ?_
  show own_Go p e below s _ _ _ (T3.setTop (mkF m 37 #[rv a0', rv a1] [(.int (0 : Int32)), (.ref a1)]))
  refine own_go (fun zt zk => (XS.aloadN X3.here hx rfl (hb hby own_d4_37) rfl rfl zk)) ?_
  show own_Go p e below s _ _ _ (T3.setTop (mkF m 38 #[rv a0', rv a1] [(.ref a0'), (.int (0 : Int32)), (.ref a1)]))
  obtain ⟨T4, X4, e4, st4⟩ := getF X3 hx hZ hown (host := "") (Or.inl (hw _ (List.mem_of_getElem? (i := 18) rfl))) Via.refl e3 Fe (g := (mkF m 38 #[rv a0', rv a1] [(.ref a0'), (.int (0 : Int32)), (.ref a1)])) rfl rfl (hb hby own_d4_38)
  refine own_go st4 ?_
  show own_Go p e below s _ _ _ (T4.setTop (mkF m 41 #[rv a0', rv a1] [(.int (0 : Int32)), (.int (0 : Int32)), (.ref a1)]))
  obtain ⟨_, _, ⟨T5, L5, k5, n5⟩, -, X5, ⟨Lc5, hQ5, l5, y5, z5⟩, st5⟩ := Jvm.LawKit.callS X4 hx (y := (⟨"java/util/Arrays", "copyOfRange", "([BII)[B"⟩ : MethodName)) hown (mvT hZ (hw _ (List.mem_of_getElem? (i := 25) rfl))) (mvT hZ (hw _ (List.mem_of_getElem? (i := 26) rfl))) (mvT hZ (hw _ (List.mem_of_getElem? (i := 27) rfl))) (mvT hZ (hw _ (List.mem_of_getElem? (i := 28) rfl))) (by decide) (backOf (W := 0) (own_rcr00 l Z a0 hw [] a1 k1 v0 v1 v2 v3 h0 n0 Z0 Va Ea) hZ (hw _ (List.mem_of_getElem? (i := 28) rfl)) (hw _ (List.mem_of_getElem? (i := 27) rfl)) (by decide) (by decide)) (g := (mkF m 41 #[rv a0', rv a1] [(.int (0 : Int32)), (.int (0 : Int32)), (.ref a1)])) rfl (by rw [hml]; rfl) (argsL := [(.ref a1), (.int (0 : Int32)), (.int (0 : Int32))]) (rest := []) (lenOf own_pd___BII__B rfl) rfl (by show 2 * 0 + _ ≤ _; exact Nat.le_of_eq rfl) (hb hby own_d4_41) (fun _ _ => ⟨rfl, e4, (by decide : 0 + 1 ≤ _), (by decide : 0 + 0 ≤ _)⟩)
  dsimp only [Pt.U, Pt.locs, Pt.cells, Pt.slots] at X5 l5 y5 z5 st5 hQ5
  subst l5 y5 z5
  obtain ⟨b5, k5', rfl, Nq5, K5, sz_b5, Ea_b5, V_b5⟩ := hQ5
  have N5 := Fr.app N0 Nq5
  refine own_go st5 ?_
  replace Va := Va.keep K5 nin0
  replace Ea := Ea.keep K5
  replace Fs := Fs.keep K5 nin0
  replace Fe := Fe.keep K5 nin0
  replace Kp := Kp.trans K5 all0
  show own_Go p e below s _ _ _ (T5.setTop (mkF m 44 #[rv a0', rv a1] [(.ref b5)]))
  exact own_fin X5 Bd.notSynchronized (fun h => by rw [Bd.returns] at h; cases h) (fun fs hr => retOut X5 hx (t := (.array .byte)) (w := (.ref b5)) Bd.returns rfl (Or.inr (Or.inr (Or.inr (Or.inr ⟨rfl, rfl, rfl⟩)))) (hb hby own_d4_44) hr) ⟨_, _, rfl, N5, Kp, sz_b5, Ea_b5, V_b5⟩ (by decide) (by decide)
theorem own_ef_own_rcrb01 (m : MethodId) (a1 : Addr) : entryFrame m #[(.ref a1), (.int (0 : Int32)), (.int (1 : Int32))] 5 = mkF m 0 #[rv a1, iv (0 : Int32), iv (1 : Int32), .unset, .unset] [] := by first | (simp [entryFrame, mkF, argsToLocals, Value.category]; done) | rfl
def own_Q_own_rcrb01 (Z : State) (a1 : Addr) (k1 : ClassId) (v0 v1 v2 v3 : Value) (h0 : Heap) (n0 : Nat) (v : Option Value) (h : Heap) (L : List Loc) : Prop := ∃ b k, v = some (.ref b) ∧ Fr n0 L ∧ Keep h0 h [] ∧ h0.size ≤ b ∧ Exa Z h b "[B" ∧ Arv Z h b k .byte (1 : Int32) [v0] (.int (0 : Int32))
set_option maxRecDepth 65536 in
set_option maxHeartbeats 40000000 in
theorem own_rcrb01 (l : Launch) (Z : State) (a0 : Array Value) (hw : ∀ d ∈ tables_1, d.before a0 Z = true) (ws : List Jvm.Cond) (a1 : Addr) (k1 : ClassId) (v0 v1 v2 v3 : Value) (h0 : Heap) (n0 : Nat) (Z0 : n0 ≤ h0.size) (Va : Arv Z h0 a1 k1 .byte (4 : Int32) [v0, v1, v2, v3] (.int (0 : Int32)))  :
    MetFree l (⟨"java/util/Arrays", "copyOfRangeByte", "([BII)[B"⟩ : MethodName) (head1 (Jvm.Cond.code (⟨"java/util/Arrays", "copyOfRangeByte", "([BII)[B"⟩ : MethodName) jdk_65_method_133_code 5 (some (.array .byte)) :: ws) ({ frames := 1, cells := 1, slots := 1, locals := 32 } : Room)) (fun a U => a = #[(.ref a1), (.int (0 : Int32)), (.int (1 : Int32))] ∧ Z.Warmed39 U.vm ∧ U.heap = h0) (fun _ _ _ _ _ => True) (fun _ U o U' => ∃ v L, o = .returned v ∧ own_Q_own_rcrb01 Z a1 k1 v0 v1 v2 v3 h0 n0 v U'.heap L ∧ FrameEnd U o U' L ({ frames := 1, cells := 1, slots := 1, locals := 32 } : Room).cells ({ frames := 1, cells := 1, slots := 1, locals := 32 } : Room).slots) := by
  refine MetFree.of_bodySF (plainFor_of_name own_pn_java_util_Arrays) hisR ?_
  intro p e s m args below meth c s₁ Bd hml0 hP hK
  obtain ⟨rfl, hZ, hh⟩ := hP
  have hx := Bd.exec
  have hby := Bd.bytes
  have hml : c.maxLocals = 5 := hml0
  have hown : s.vm.findClass "java/util/Arrays" = some m.cls := findClass_of_methodNamed Bd.named
  have hnm := (name_of_methodNamed Bd.named Bd.method).1
  have X0 : Stand p l e ({ frames := 1, cells := 1, slots := 1, locals := 32 } : Room) s m #[(.ref a1), (.int (0 : Int32)), (.int (1 : Int32))] below meth c s₁ [] 0 0 := Stand.of_body Bd
  have e0 : s₁.heap = h0 := by rw [← hh, Bd.state]; rfl
  have N0 := Fr.nil n0
  have Kp : Keep h0 h0 [] := Keep.refl h0 _
  show own_Go p e below s (own_Q_own_rcrb01 Z a1 k1 v0 v1 v2 v3 h0 n0) ({ frames := 1, cells := 1, slots := 1, locals := 32 } : Room).cells ({ frames := 1, cells := 1, slots := 1, locals := 32 } : Room).slots (s₁.setTop (entryFrame m #[(.ref a1), (.int (0 : Int32)), (.int (1 : Int32))] 5))
  refine own_go (fun zt zk => castTop (own_ef_own_rcrb01 m a1) zk) ?_
  show own_Go p e below s _ _ _ (s₁.setTop (mkF m 0 #[rv a1, iv (0 : Int32), iv (1 : Int32), .unset, .unset] []))
  refine own_go (fun zt zk => (XS.iloadN X0.here hx rfl (hb hby own_d6_0) rfl (XS.iloadN X0.here hx rfl (hb hby own_d6_1) rfl zk))) ?_
  show own_Go p e below s _ _ _ (s₁.setTop (mkF m 2 #[rv a1, iv (0 : Int32), iv (1 : Int32), .unset, .unset] [(.int (1 : Int32)), (.int (0 : Int32))]))
  obtain ⟨_, _, ⟨T1, L1, k1, n1⟩, -, X1, ⟨Lc1, hQ1, l1, y1, z1⟩, st1⟩ := Jvm.LawKit.callS X0 hx (y := (⟨"java/util/Arrays", "checkLength", "(II)V"⟩ : MethodName)) hown (mvT hZ (hw _ (List.mem_of_getElem? (i := 32) rfl))) (mvT hZ (hw _ (List.mem_of_getElem? (i := 33) rfl))) (mvT hZ (hw _ (List.mem_of_getElem? (i := 27) rfl))) (mvT hZ (hw _ (List.mem_of_getElem? (i := 34) rfl))) (by decide) (backOf (W := 0) (own_rcl l Z a0 hw [] (0 : Int32) (1 : Int32)  h0 n0 Z0 (by decide)) hZ (hw _ (List.mem_of_getElem? (i := 34) rfl)) (hw _ (List.mem_of_getElem? (i := 27) rfl)) (by decide) (by decide)) (g := (mkF m 2 #[rv a1, iv (0 : Int32), iv (1 : Int32), .unset, .unset] [(.int (1 : Int32)), (.int (0 : Int32))])) rfl (by rw [hml]; rfl) (argsL := [(.int (0 : Int32)), (.int (1 : Int32))]) (rest := []) (lenOf own_pd__II_V rfl) rfl (by show 2 * 0 + _ ≤ _; exact Nat.le_of_eq rfl) (hb hby own_d6_2) (fun _ _ => ⟨rfl, e0, (by decide : 0 + 0 ≤ _), (by decide : 0 + 0 ≤ _)⟩)
  dsimp only [Pt.U, Pt.locs, Pt.cells, Pt.slots] at X1 l1 y1 z1 st1 hQ1
  subst l1 y1 z1
  obtain ⟨rfl, Nq1, e1⟩ := hQ1
  have N1 := Fr.app N0 Nq1
  refine own_go st1 ?_
  show own_Go p e below s _ _ _ (T1.setTop (mkF m 5 #[rv a1, iv (0 : Int32), iv (1 : Int32), .unset, .unset] []))
  refine own_go (fun zt zk => (XS.iloadN X1.here hx rfl (hb hby own_d6_5) rfl (XS.iloadN X1.here hx rfl (hb hby own_d6_6) rfl (XS.isub X1.here hx rfl (hb hby own_d6_7) rfl (XS.istoreN X1.here hx rfl (hb hby own_d6_8) rfl (l' := #[rv a1, iv (0 : Int32), iv (1 : Int32), iv (1 : Int32), .unset]) rfl (XS.iloadN X1.here hx rfl (hb hby own_d6_9) rfl zk)))))) ?_
  show own_Go p e below s _ _ _ (T1.setTop (mkF m 10 #[rv a1, iv (0 : Int32), iv (1 : Int32), iv (1 : Int32), .unset] [(.int (1 : Int32))]))
  obtain ⟨T2, h2, k2, X2, e2, E2, A2, Ea2, st2⟩ := newPE X1 hx hZ (hw _ (List.mem_of_getElem? (i := 0) rfl)) e1 (g := (mkF m 10 #[rv a1, iv (0 : Int32), iv (1 : Int32), iv (1 : Int32), .unset] [(.int (1 : Int32))])) rfl (hb hby own_d6_10) rfl (by decide) (cap := 1) (by decide) (by decide) (by decide) (by decide) (ad := "[B") (by decide)
  obtain ⟨b2, g2⟩ : ∃ z, z = h0.size := ⟨_, rfl⟩
  rw [← g2] at A2 Ea2 st2
  refine own_go st2 ?_
  have ne_a1_b2 : a1 ≠ b2 := Nat.ne_of_lt (Nat.lt_of_lt_of_le Va.lt (Nat.le_of_eq g2.symm))
  have sz_b2 : h0.size ≤ b2 := Nat.le_trans Kp.1 (Nat.le_of_eq g2.symm)
  have g_b2 : n0 ≤ b2 := Nat.le_trans Z0 sz_b2
  replace Va := Va.ext E2
  replace Kp := Kp.ext E2
  have V_b2 : Arv Z h2 b2 k2 .byte (1 : Int32) [(.int (0 : Int32))] (.int (0 : Int32)) := (Arv.new A2 (by decide)).pad (pad_rep [] (.int (0 : Int32)) 1)
  have Ea_b2 := Ea2
  show own_Go p e below s _ _ _ (T2.setTop (mkF m 12 #[rv a1, iv (0 : Int32), iv (1 : Int32), iv (1 : Int32), .unset] [(.ref b2)]))
  refine own_go (fun zt zk => (XS.astore X2.here hx rfl (hb hby own_d6_12) rfl rfl (l' := #[rv a1, iv (0 : Int32), iv (1 : Int32), iv (1 : Int32), rv b2]) rfl (XS.aloadN X2.here hx rfl (hb hby own_d6_14) rfl rfl (XS.iloadN X2.here hx rfl (hb hby own_d6_15) rfl (XS.aload X2.here hx rfl (hb hby own_d6_16) rfl rfl (XS.iconst X2.here hx rfl (hb hby own_d6_18) (XS.aloadN X2.here hx rfl (hb hby own_d6_19) rfl rfl zk))))))) ?_
  show own_Go p e below s _ _ _ (T2.setTop (mkF m 20 #[rv a1, iv (0 : Int32), iv (1 : Int32), iv (1 : Int32), rv b2] [(.ref a1), (.int (0 : Int32)), (.ref b2), (.int (0 : Int32)), (.ref a1)]))
  obtain ⟨cl3, Ar3, -, Sz3, Nz3, -, -⟩ := id Va
  refine own_go (X2.arraylength hx (by rw [e2]; exact Ar3.1) (State.isArrayOf_alike hZ.alike Ar3.2.1) (g := (mkF m 20 #[rv a1, iv (0 : Int32), iv (1 : Int32), iv (1 : Int32), rv b2] [(.ref a1), (.int (0 : Int32)), (.ref b2), (.int (0 : Int32)), (.ref a1)])) rfl rfl (hb hby own_d6_20)) ?_
  rw [len_of Sz3 Nz3]
  show own_Go p e below s _ _ _ (T2.setTop (mkF m 21 #[rv a1, iv (0 : Int32), iv (1 : Int32), iv (1 : Int32), rv b2] [(.int (4 : Int32)), (.int (0 : Int32)), (.ref b2), (.int (0 : Int32)), (.ref a1)]))
  refine own_go (fun zt zk => (XS.iloadN X2.here hx rfl (hb hby own_d6_21) rfl (XS.isub X2.here hx rfl (hb hby own_d6_22) rfl (XS.iloadN X2.here hx rfl (hb hby own_d6_23) rfl zk)))) ?_
  show own_Go p e below s _ _ _ (T2.setTop (mkF m 24 #[rv a1, iv (0 : Int32), iv (1 : Int32), iv (1 : Int32), rv b2] [(.int (1 : Int32)), (.int (4 : Int32)), (.int (0 : Int32)), (.ref b2), (.int (0 : Int32)), (.ref a1)]))
  obtain ⟨_, _, ⟨T4, L4, k4, n4⟩, -, X4, ⟨Lc4, hQ4, l4, y4, z4⟩, st4⟩ := Jvm.LawKit.callS X2 hx (y := (⟨"java/lang/Math", "min", "(II)I"⟩ : MethodName)) hown (mvT hZ (hw _ (List.mem_of_getElem? (i := 35) rfl))) (mvT hZ (hw _ (List.mem_of_getElem? (i := 36) rfl))) (mvT hZ (hw _ (List.mem_of_getElem? (i := 37) rfl))) (mvT hZ (hw _ (List.mem_of_getElem? (i := 38) rfl))) (by decide) (backOf (W := 4) (own_rmin l Z a0 hw [] (4 : Int32) (1 : Int32)  h2 n0 (Nat.le_trans Z0 Kp.1) ) hZ (hw _ (List.mem_of_getElem? (i := 38) rfl)) (hw _ (List.mem_of_getElem? (i := 37) rfl)) (by decide) (by decide)) (g := (mkF m 24 #[rv a1, iv (0 : Int32), iv (1 : Int32), iv (1 : Int32), rv b2] [(.int (1 : Int32)), (.int (4 : Int32)), (.int (0 : Int32)), (.ref b2), (.int (0 : Int32)), (.ref a1)])) rfl (by rw [hml]; rfl) (argsL := [(.int (4 : Int32)), (.int (1 : Int32))]) (rest := [(.int (0 : Int32)), (.ref b2), (.int (0 : Int32)), (.ref a1)]) (lenOf own_pd__II_I rfl) rfl (by show 2 * 0 + _ ≤ _; exact Nat.le_of_eq rfl) (hb hby own_d6_24) (fun _ _ => ⟨rfl, e2, (by decide : 1 + 0 ≤ _), (by decide : 1 + 0 ≤ _)⟩)
  dsimp only [Pt.U, Pt.locs, Pt.cells, Pt.slots] at X4 l4 y4 z4 st4 hQ4
  subst l4 y4 z4
  obtain ⟨rfl, Nq4, e4⟩ := hQ4
  have N4 := Fr.app N1 Nq4
  refine own_go st4 ?_
  show own_Go p e below s _ _ _ (T4.setTop (mkF m 27 #[rv a1, iv (0 : Int32), iv (1 : Int32), iv (1 : Int32), rv b2] [(.int (1 : Int32)), (.int (0 : Int32)), (.ref b2), (.int (0 : Int32)), (.ref a1)]))
  obtain ⟨T5, h5, L5, X5, e5, N5, K5, V5, st5⟩ := cpA X4 hx hZ hown (hw _ (List.mem_of_getElem? (i := 39) rfl)) (hw _ (List.mem_of_getElem? (i := 42) rfl)) (hw _ (List.mem_of_getElem? (i := 40) rfl)) (hw _ (List.mem_of_getElem? (i := 41) rfl)) e4 Va V_b2 (us := [v0]) (Or.inl ⟨rfl, rfl⟩) (by decide) (by decide) (by decide) (by decide) (by decide) rfl (by decide) N4 g_b2 (g := (mkF m 27 #[rv a1, iv (0 : Int32), iv (1 : Int32), iv (1 : Int32), rv b2] [(.int (1 : Int32)), (.int (0 : Int32)), (.ref b2), (.int (0 : Int32)), (.ref a1)])) rfl (by rw [hml]; rfl) rfl (hb hby own_d6_27) (by decide) (W := 0) (by show 2 * 0 + _ ≤ _; exact Nat.le_of_eq rfl) (by decide)
  refine own_go st5 ?_
  replace Va := Va.keep K5 (ninS ne_a1_b2 nin0)
  replace Kp := Kp.trans K5 (allS (Or.inr sz_b2) all0)
  replace Ea_b2 := Ea_b2.keep K5
  replace V_b2 : Arv Z h5 b2 k2 .byte (1 : Int32) [v0] (.int (0 : Int32)) := V5
  show own_Go p e below s _ _ _ (T5.setTop (mkF m 30 #[rv a1, iv (0 : Int32), iv (1 : Int32), iv (1 : Int32), rv b2] []))
  refine own_go (fun zt zk => (XS.aload X5.here hx rfl (hb hby own_d6_30) rfl rfl zk)) ?_
  show own_Go p e below s _ _ _ (T5.setTop (mkF m 32 #[rv a1, iv (0 : Int32), iv (1 : Int32), iv (1 : Int32), rv b2] [(.ref b2)]))
  exact own_fin X5 Bd.notSynchronized (fun h => by rw [Bd.returns] at h; cases h) (fun fs hr => retOut X5 hx (t := (.array .byte)) (w := (.ref b2)) Bd.returns rfl (Or.inr (Or.inr (Or.inr (Or.inr ⟨rfl, rfl, rfl⟩)))) (hb hby own_d6_32) hr) (by rw [e5]; exact ⟨_, _, rfl, N5, Kp, sz_b2, Ea_b2, V_b2⟩) (by decide) (by decide)
theorem own_ef_own_rcr01 (m : MethodId) (a1 : Addr) : entryFrame m #[(.ref a1), (.int (0 : Int32)), (.int (1 : Int32))] 3 = mkF m 0 #[rv a1, iv (0 : Int32), iv (1 : Int32)] [] := by first | (simp [entryFrame, mkF, argsToLocals, Value.category]; done) | rfl
def own_Q_own_rcr01 (Z : State) (a1 : Addr) (k1 : ClassId) (v0 v1 v2 v3 : Value) (h0 : Heap) (n0 : Nat) (v : Option Value) (h : Heap) (L : List Loc) : Prop := ∃ b k, v = some (.ref b) ∧ Fr n0 L ∧ Keep h0 h [] ∧ h0.size ≤ b ∧ Exa Z h b "[B" ∧ Arv Z h b k .byte (1 : Int32) [v0] (.int (0 : Int32))
set_option maxRecDepth 65536 in
set_option maxHeartbeats 40000000 in
theorem own_rcr01 (l : Launch) (Z : State) (a0 : Array Value) (hw : ∀ d ∈ tables_1, d.before a0 Z = true) (ws : List Jvm.Cond) (a1 : Addr) (k1 : ClassId) (v0 v1 v2 v3 : Value) (h0 : Heap) (n0 : Nat) (Z0 : n0 ≤ h0.size) (Va : Arv Z h0 a1 k1 .byte (4 : Int32) [v0, v1, v2, v3] (.int (0 : Int32))) (Ea : Exa Z h0 a1 "[B")  :
    MetFree l (⟨"java/util/Arrays", "copyOfRange", "([BII)[B"⟩ : MethodName) (head1 (Jvm.Cond.code (⟨"java/util/Arrays", "copyOfRange", "([BII)[B"⟩ : MethodName) jdk_65_method_132_code 3 (some (.array .byte)) :: ws) ({ frames := 2, cells := 1, slots := 1, locals := 48 } : Room)) (fun a U => a = #[(.ref a1), (.int (0 : Int32)), (.int (1 : Int32))] ∧ Z.Warmed39 U.vm ∧ U.heap = h0) (fun _ _ _ _ _ => True) (fun _ U o U' => ∃ v L, o = .returned v ∧ own_Q_own_rcr01 Z a1 k1 v0 v1 v2 v3 h0 n0 v U'.heap L ∧ FrameEnd U o U' L ({ frames := 2, cells := 1, slots := 1, locals := 48 } : Room).cells ({ frames := 2, cells := 1, slots := 1, locals := 48 } : Room).slots) := by
  refine MetFree.of_bodySF (plainFor_of_name own_pn_java_util_Arrays) hisR ?_
  intro p e s m args below meth c s₁ Bd hml0 hP hK
  obtain ⟨rfl, hZ, hh⟩ := hP
  have hx := Bd.exec
  have hby := Bd.bytes
  have hml : c.maxLocals = 3 := hml0
  have hown : s.vm.findClass "java/util/Arrays" = some m.cls := findClass_of_methodNamed Bd.named
  have hnm := (name_of_methodNamed Bd.named Bd.method).1
  have X0 : Stand p l e ({ frames := 2, cells := 1, slots := 1, locals := 48 } : Room) s m #[(.ref a1), (.int (0 : Int32)), (.int (1 : Int32))] below meth c s₁ [] 0 0 := Stand.of_body Bd
  have e0 : s₁.heap = h0 := by rw [← hh, Bd.state]; rfl
  have N0 := Fr.nil n0
  have Kp : Keep h0 h0 [] := Keep.refl h0 _
  show own_Go p e below s (own_Q_own_rcr01 Z a1 k1 v0 v1 v2 v3 h0 n0) ({ frames := 2, cells := 1, slots := 1, locals := 48 } : Room).cells ({ frames := 2, cells := 1, slots := 1, locals := 48 } : Room).slots (s₁.setTop (entryFrame m #[(.ref a1), (.int (0 : Int32)), (.int (1 : Int32))] 3))
  refine own_go (fun zt zk => castTop (own_ef_own_rcr01 m a1) zk) ?_
  show own_Go p e below s _ _ _ (s₁.setTop (mkF m 0 #[rv a1, iv (0 : Int32), iv (1 : Int32)] []))
  refine own_go (fun zt zk => (XS.iloadN X0.here hx rfl (hb hby own_d5_0) rfl (XS.ifNo X0.here hx rfl (hb hby own_d5_1) rfl ((if0 _ _).trans (teq (rfl : (0 : Int32) = (0 : Int32))).2) (XS.iloadN X0.here hx rfl (hb hby own_d5_4) rfl (XS.aloadN X0.here hx rfl (hb hby own_d5_5) rfl rfl zk))))) ?_
  show own_Go p e below s _ _ _ (s₁.setTop (mkF m 6 #[rv a1, iv (0 : Int32), iv (1 : Int32)] [(.ref a1), (.int (1 : Int32))]))
  obtain ⟨cl1, Ar1, -, Sz1, Nz1, -, -⟩ := id Va
  refine own_go (X0.arraylength hx (by rw [e0]; exact Ar1.1) (State.isArrayOf_alike hZ.alike Ar1.2.1) (g := (mkF m 6 #[rv a1, iv (0 : Int32), iv (1 : Int32)] [(.ref a1), (.int (1 : Int32))])) rfl rfl (hb hby own_d5_6)) ?_
  rw [len_of Sz1 Nz1]
  show own_Go p e below s _ _ _ (s₁.setTop (mkF m 7 #[rv a1, iv (0 : Int32), iv (1 : Int32)] [(.int (4 : Int32)), (.int (1 : Int32))]))
  refine own_go (fun zt zk => (XS.icmpNo X0.here hx rfl (hb hby own_d5_7) rfl (feq ((by decide) : ¬ ((1 : Int32) = (4 : Int32)))).1 (XS.aloadN X0.here hx rfl (hb hby own_d5_10) rfl rfl (XS.iloadN X0.here hx rfl (hb hby own_d5_11) rfl (XS.iloadN X0.here hx rfl (hb hby own_d5_12) rfl zk))))) ?_
  show own_Go p e below s _ _ _ (s₁.setTop (mkF m 13 #[rv a1, iv (0 : Int32), iv (1 : Int32)] [(.int (1 : Int32)), (.int (0 : Int32)), (.ref a1)]))
  obtain ⟨_, _, ⟨T2, L2, k2, n2⟩, -, X2, ⟨Lc2, hQ2, l2, y2, z2⟩, st2⟩ := Jvm.LawKit.callS X0 hx (y := (⟨"java/util/Arrays", "copyOfRangeByte", "([BII)[B"⟩ : MethodName)) hown (mvT hZ (hw _ (List.mem_of_getElem? (i := 29) rfl))) (mvT hZ (hw _ (List.mem_of_getElem? (i := 30) rfl))) (mvT hZ (hw _ (List.mem_of_getElem? (i := 27) rfl))) (mvT hZ (hw _ (List.mem_of_getElem? (i := 31) rfl))) (by decide) (backOf (W := 0) (own_rcrb01 l Z a0 hw [] a1 k1 v0 v1 v2 v3 h0 n0 Z0 Va) hZ (hw _ (List.mem_of_getElem? (i := 31) rfl)) (hw _ (List.mem_of_getElem? (i := 27) rfl)) (by decide) (by decide)) (g := (mkF m 13 #[rv a1, iv (0 : Int32), iv (1 : Int32)] [(.int (1 : Int32)), (.int (0 : Int32)), (.ref a1)])) rfl (by rw [hml]; rfl) (argsL := [(.ref a1), (.int (0 : Int32)), (.int (1 : Int32))]) (rest := []) (lenOf own_pd___BII__B rfl) rfl (by show 2 * 0 + _ ≤ _; exact Nat.le_of_eq rfl) (hb hby own_d5_13) (fun _ _ => ⟨rfl, e0, (by decide : 0 + 1 ≤ _), (by decide : 0 + 1 ≤ _)⟩)
  dsimp only [Pt.U, Pt.locs, Pt.cells, Pt.slots] at X2 l2 y2 z2 st2 hQ2
  subst l2 y2 z2
  obtain ⟨b2, k2', rfl, Nq2, K2, sz_b2, Ea_b2, V_b2⟩ := hQ2
  have N2 := Fr.app N0 Nq2
  refine own_go st2 ?_
  replace Va := Va.keep K2 nin0
  replace Ea := Ea.keep K2
  replace Kp := Kp.trans K2 all0
  show own_Go p e below s _ _ _ (T2.setTop (mkF m 16 #[rv a1, iv (0 : Int32), iv (1 : Int32)] [(.ref b2)]))
  exact own_fin X2 Bd.notSynchronized (fun h => by rw [Bd.returns] at h; cases h) (fun fs hr => retOut X2 hx (t := (.array .byte)) (w := (.ref b2)) Bd.returns rfl (Or.inr (Or.inr (Or.inr (Or.inr ⟨rfl, rfl, rfl⟩)))) (hb hby own_d5_16) hr) ⟨_, _, rfl, N2, Kp, sz_b2, Ea_b2, V_b2⟩ (by decide) (by decide)
theorem own_ef_own_rbi01 (m : MethodId) (a0' : Addr) (a1 : Addr) : entryFrame m #[(.ref a0'), (.ref a1)] 2 = mkF m 0 #[rv a0', rv a1] [] := by first | (simp [entryFrame, mkF, argsToLocals, Value.category]; done) | rfl
def own_Q_own_rbi01 (Z : State) (a0' : Addr) (a1 : Addr) (k1 : ClassId) (v0 v1 v2 v3 : Value) (h0 : Heap) (n0 : Nat) (v : Option Value) (h : Heap) (L : List Loc) : Prop := ∃ b k, v = some (.ref b) ∧ Fr n0 L ∧ Keep h0 h [] ∧ h0.size ≤ b ∧ Exa Z h b "[B" ∧ Arv Z h b k .byte (1 : Int32) [v0] (.int (0 : Int32))
set_option maxRecDepth 65536 in
set_option maxHeartbeats 40000000 in
theorem own_rbi01 (l : Launch) (Z : State) (a0 : Array Value) (hw : ∀ d ∈ tables_1, d.before a0 Z = true) (ws : List Jvm.Cond) (a0' : Addr) (a1 : Addr) (k1 : ClassId) (v0 v1 v2 v3 : Value) (h0 : Heap) (n0 : Nat) (Z0 : n0 ≤ h0.size) (Va : Arv Z h0 a1 k1 .byte (4 : Int32) [v0, v1, v2, v3] (.int (0 : Int32))) (Ea : Exa Z h0 a1 "[B") (Fs : Fld Z h0 a0' "com/example/tranche/tranche/model/Span" "start" "I" (.int (0 : Int32))) (Fe : Fld Z h0 a0' "com/example/tranche/tranche/model/Span" "end" "I" (.int (1 : Int32)))  :
    MetFree l (⟨"com/example/tranche/tranche/model/Span", "bytesIn", "([B)[B"⟩ : MethodName) (head1 (Jvm.Cond.code (⟨"com/example/tranche/tranche/model/Span", "bytesIn", "([B)[B"⟩ : MethodName) prog_34_method_2_code 2 (some (.array .byte)) :: ws) ({ frames := 3, cells := 1, slots := 1, locals := 62 } : Room)) (fun a U => a = #[(.ref a0'), (.ref a1)] ∧ Z.Warmed39 U.vm ∧ U.heap = h0) (fun _ _ _ _ _ => True) (fun _ U o U' => ∃ v L, o = .returned v ∧ own_Q_own_rbi01 Z a0' a1 k1 v0 v1 v2 v3 h0 n0 v U'.heap L ∧ FrameEnd U o U' L ({ frames := 3, cells := 1, slots := 1, locals := 62 } : Room).cells ({ frames := 3, cells := 1, slots := 1, locals := 62 } : Room).slots) := by
  refine MetFree.of_bodySF (plainFor_of_name own_pn_com_example_tranche_tranche_model_Span) hisR ?_
  intro p e s m args below meth c s₁ Bd hml0 hP hK
  obtain ⟨rfl, hZ, hh⟩ := hP
  have hx := Bd.exec
  have hby := Bd.bytes
  have hml : c.maxLocals = 2 := hml0
  have hown : s.vm.findClass "com/example/tranche/tranche/model/Span" = some m.cls := findClass_of_methodNamed Bd.named
  have hnm := (name_of_methodNamed Bd.named Bd.method).1
  have X0 : Stand p l e ({ frames := 3, cells := 1, slots := 1, locals := 62 } : Room) s m #[(.ref a0'), (.ref a1)] below meth c s₁ [] 0 0 := Stand.of_body Bd
  have e0 : s₁.heap = h0 := by rw [← hh, Bd.state]; rfl
  have N0 := Fr.nil n0
  have Kp : Keep h0 h0 [] := Keep.refl h0 _
  show own_Go p e below s (own_Q_own_rbi01 Z a0' a1 k1 v0 v1 v2 v3 h0 n0) ({ frames := 3, cells := 1, slots := 1, locals := 62 } : Room).cells ({ frames := 3, cells := 1, slots := 1, locals := 62 } : Room).slots (s₁.setTop (entryFrame m #[(.ref a0'), (.ref a1)] 2))
  refine own_go (fun zt zk => castTop (own_ef_own_rbi01 m a0' a1) zk) ?_
  show own_Go p e below s _ _ _ (s₁.setTop (mkF m 0 #[rv a0', rv a1] []))
  refine own_go (fun zt zk => (XS.aloadN X0.here hx rfl (hb hby own_d4_0) rfl rfl zk)) ?_
  show own_Go p e below s _ _ _ (s₁.setTop (mkF m 1 #[rv a0', rv a1] [(.ref a0')]))
  obtain ⟨T1, X1, e1, st1⟩ := getF X0 hx hZ hown (host := "") (Or.inl (hw _ (List.mem_of_getElem? (i := 18) rfl))) Via.refl e0 Fe (g := (mkF m 1 #[rv a0', rv a1] [(.ref a0')])) rfl rfl (hb hby own_d4_1)
  refine own_go st1 ?_
  show own_Go p e below s _ _ _ (T1.setTop (mkF m 4 #[rv a0', rv a1] [(.int (1 : Int32))]))
  refine own_go (fun zt zk => (XS.aloadN X1.here hx rfl (hb hby own_d4_4) rfl rfl zk)) ?_
  show own_Go p e below s _ _ _ (T1.setTop (mkF m 5 #[rv a0', rv a1] [(.ref a1), (.int (1 : Int32))]))
  obtain ⟨cl2, Ar2, -, Sz2, Nz2, -, -⟩ := id Va
  refine own_go (X1.arraylength hx (by rw [e1]; exact Ar2.1) (State.isArrayOf_alike hZ.alike Ar2.2.1) (g := (mkF m 5 #[rv a0', rv a1] [(.ref a1), (.int (1 : Int32))])) rfl rfl (hb hby own_d4_5)) ?_
  rw [len_of Sz2 Nz2]
  show own_Go p e below s _ _ _ (T1.setTop (mkF m 6 #[rv a0', rv a1] [(.int (4 : Int32)), (.int (1 : Int32))]))
  refine own_go (fun zt zk => (XS.icmpYes X1.here hx rfl (pc0 := 6) (pc' := 32) rfl (hb hby own_d4_6) rfl (flt ((by decide) : ¬ ((4 : Int32) < (1 : Int32)))).2.2.2 (by decide) (by decide) (XS.aloadN X1.here hx rfl (hb hby own_d4_32) rfl rfl (XS.aloadN X1.here hx rfl (hb hby own_d4_33) rfl rfl zk)))) ?_
  show own_Go p e below s _ _ _ (T1.setTop (mkF m 34 #[rv a0', rv a1] [(.ref a0'), (.ref a1)]))
  obtain ⟨T3, X3, e3, st3⟩ := getF X1 hx hZ hown (host := "") (Or.inl (hw _ (List.mem_of_getElem? (i := 16) rfl))) Via.refl e1 Fs (g := (mkF m 34 #[rv a0', rv a1] [(.ref a0'), (.ref a1)])) rfl rfl (hb hby own_d4_34)
  refine own_go st3 ?_
  show own_Go p e below s _ _ _ (T3.setTop (mkF m 37 #[rv a0', rv a1] [(.int (0 : Int32)), (.ref a1)]))
  refine own_go (fun zt zk => (XS.aloadN X3.here hx rfl (hb hby own_d4_37) rfl rfl zk)) ?_
  show own_Go p e below s _ _ _ (T3.setTop (mkF m 38 #[rv a0', rv a1] [(.ref a0'), (.int (0 : Int32)), (.ref a1)]))
  obtain ⟨T4, X4, e4, st4⟩ := getF X3 hx hZ hown (host := "") (Or.inl (hw _ (List.mem_of_getElem? (i := 18) rfl))) Via.refl e3 Fe (g := (mkF m 38 #[rv a0', rv a1] [(.ref a0'), (.int (0 : Int32)), (.ref a1)])) rfl rfl (hb hby own_d4_38)
  refine own_go st4 ?_
  show own_Go p e below s _ _ _ (T4.setTop (mkF m 41 #[rv a0', rv a1] [(.int (1 : Int32)), (.int (0 : Int32)), (.ref a1)]))
  obtain ⟨_, _, ⟨T5, L5, k5, n5⟩, -, X5, ⟨Lc5, hQ5, l5, y5, z5⟩, st5⟩ := Jvm.LawKit.callS X4 hx (y := (⟨"java/util/Arrays", "copyOfRange", "([BII)[B"⟩ : MethodName)) hown (mvT hZ (hw _ (List.mem_of_getElem? (i := 25) rfl))) (mvT hZ (hw _ (List.mem_of_getElem? (i := 26) rfl))) (mvT hZ (hw _ (List.mem_of_getElem? (i := 27) rfl))) (mvT hZ (hw _ (List.mem_of_getElem? (i := 28) rfl))) (by decide) (backOf (W := 0) (own_rcr01 l Z a0 hw [] a1 k1 v0 v1 v2 v3 h0 n0 Z0 Va Ea) hZ (hw _ (List.mem_of_getElem? (i := 28) rfl)) (hw _ (List.mem_of_getElem? (i := 27) rfl)) (by decide) (by decide)) (g := (mkF m 41 #[rv a0', rv a1] [(.int (1 : Int32)), (.int (0 : Int32)), (.ref a1)])) rfl (by rw [hml]; rfl) (argsL := [(.ref a1), (.int (0 : Int32)), (.int (1 : Int32))]) (rest := []) (lenOf own_pd___BII__B rfl) rfl (by show 2 * 0 + _ ≤ _; exact Nat.le_of_eq rfl) (hb hby own_d4_41) (fun _ _ => ⟨rfl, e4, (by decide : 0 + 1 ≤ _), (by decide : 0 + 1 ≤ _)⟩)
  dsimp only [Pt.U, Pt.locs, Pt.cells, Pt.slots] at X5 l5 y5 z5 st5 hQ5
  subst l5 y5 z5
  obtain ⟨b5, k5', rfl, Nq5, K5, sz_b5, Ea_b5, V_b5⟩ := hQ5
  have N5 := Fr.app N0 Nq5
  refine own_go st5 ?_
  replace Va := Va.keep K5 nin0
  replace Ea := Ea.keep K5
  replace Fs := Fs.keep K5 nin0
  replace Fe := Fe.keep K5 nin0
  replace Kp := Kp.trans K5 all0
  show own_Go p e below s _ _ _ (T5.setTop (mkF m 44 #[rv a0', rv a1] [(.ref b5)]))
  exact own_fin X5 Bd.notSynchronized (fun h => by rw [Bd.returns] at h; cases h) (fun fs hr => retOut X5 hx (t := (.array .byte)) (w := (.ref b5)) Bd.returns rfl (Or.inr (Or.inr (Or.inr (Or.inr ⟨rfl, rfl, rfl⟩)))) (hb hby own_d4_44) hr) ⟨_, _, rfl, N5, Kp, sz_b5, Ea_b5, V_b5⟩ (by decide) (by decide)
theorem own_ef_own_rcrb02 (m : MethodId) (a1 : Addr) : entryFrame m #[(.ref a1), (.int (0 : Int32)), (.int (2 : Int32))] 5 = mkF m 0 #[rv a1, iv (0 : Int32), iv (2 : Int32), .unset, .unset] [] := by first | (simp [entryFrame, mkF, argsToLocals, Value.category]; done) | rfl
def own_Q_own_rcrb02 (Z : State) (a1 : Addr) (k1 : ClassId) (v0 v1 v2 v3 : Value) (h0 : Heap) (n0 : Nat) (v : Option Value) (h : Heap) (L : List Loc) : Prop := ∃ b k, v = some (.ref b) ∧ Fr n0 L ∧ Keep h0 h [] ∧ h0.size ≤ b ∧ Exa Z h b "[B" ∧ Arv Z h b k .byte (2 : Int32) [v0, v1] (.int (0 : Int32))
set_option maxRecDepth 65536 in
set_option maxHeartbeats 40000000 in
theorem own_rcrb02 (l : Launch) (Z : State) (a0 : Array Value) (hw : ∀ d ∈ tables_1, d.before a0 Z = true) (ws : List Jvm.Cond) (a1 : Addr) (k1 : ClassId) (v0 v1 v2 v3 : Value) (h0 : Heap) (n0 : Nat) (Z0 : n0 ≤ h0.size) (Va : Arv Z h0 a1 k1 .byte (4 : Int32) [v0, v1, v2, v3] (.int (0 : Int32)))  :
    MetFree l (⟨"java/util/Arrays", "copyOfRangeByte", "([BII)[B"⟩ : MethodName) (head1 (Jvm.Cond.code (⟨"java/util/Arrays", "copyOfRangeByte", "([BII)[B"⟩ : MethodName) jdk_65_method_133_code 5 (some (.array .byte)) :: ws) ({ frames := 1, cells := 1, slots := 2, locals := 32 } : Room)) (fun a U => a = #[(.ref a1), (.int (0 : Int32)), (.int (2 : Int32))] ∧ Z.Warmed39 U.vm ∧ U.heap = h0) (fun _ _ _ _ _ => True) (fun _ U o U' => ∃ v L, o = .returned v ∧ own_Q_own_rcrb02 Z a1 k1 v0 v1 v2 v3 h0 n0 v U'.heap L ∧ FrameEnd U o U' L ({ frames := 1, cells := 1, slots := 2, locals := 32 } : Room).cells ({ frames := 1, cells := 1, slots := 2, locals := 32 } : Room).slots) := by
  refine MetFree.of_bodySF (plainFor_of_name own_pn_java_util_Arrays) hisR ?_
  intro p e s m args below meth c s₁ Bd hml0 hP hK
  obtain ⟨rfl, hZ, hh⟩ := hP
  have hx := Bd.exec
  have hby := Bd.bytes
  have hml : c.maxLocals = 5 := hml0
  have hown : s.vm.findClass "java/util/Arrays" = some m.cls := findClass_of_methodNamed Bd.named
  have hnm := (name_of_methodNamed Bd.named Bd.method).1
  have X0 : Stand p l e ({ frames := 1, cells := 1, slots := 2, locals := 32 } : Room) s m #[(.ref a1), (.int (0 : Int32)), (.int (2 : Int32))] below meth c s₁ [] 0 0 := Stand.of_body Bd
  have e0 : s₁.heap = h0 := by rw [← hh, Bd.state]; rfl
  have N0 := Fr.nil n0
  have Kp : Keep h0 h0 [] := Keep.refl h0 _
  show own_Go p e below s (own_Q_own_rcrb02 Z a1 k1 v0 v1 v2 v3 h0 n0) ({ frames := 1, cells := 1, slots := 2, locals := 32 } : Room).cells ({ frames := 1, cells := 1, slots := 2, locals := 32 } : Room).slots (s₁.setTop (entryFrame m #[(.ref a1), (.int (0 : Int32)), (.int (2 : Int32))] 5))
  refine own_go (fun zt zk => castTop (own_ef_own_rcrb02 m a1) zk) ?_
  show own_Go p e below s _ _ _ (s₁.setTop (mkF m 0 #[rv a1, iv (0 : Int32), iv (2 : Int32), .unset, .unset] []))
  refine own_go (fun zt zk => (XS.iloadN X0.here hx rfl (hb hby own_d6_0) rfl (XS.iloadN X0.here hx rfl (hb hby own_d6_1) rfl zk))) ?_
  show own_Go p e below s _ _ _ (s₁.setTop (mkF m 2 #[rv a1, iv (0 : Int32), iv (2 : Int32), .unset, .unset] [(.int (2 : Int32)), (.int (0 : Int32))]))
  obtain ⟨_, _, ⟨T1, L1, k1, n1⟩, -, X1, ⟨Lc1, hQ1, l1, y1, z1⟩, st1⟩ := Jvm.LawKit.callS X0 hx (y := (⟨"java/util/Arrays", "checkLength", "(II)V"⟩ : MethodName)) hown (mvT hZ (hw _ (List.mem_of_getElem? (i := 32) rfl))) (mvT hZ (hw _ (List.mem_of_getElem? (i := 33) rfl))) (mvT hZ (hw _ (List.mem_of_getElem? (i := 27) rfl))) (mvT hZ (hw _ (List.mem_of_getElem? (i := 34) rfl))) (by decide) (backOf (W := 0) (own_rcl l Z a0 hw [] (0 : Int32) (2 : Int32)  h0 n0 Z0 (by decide)) hZ (hw _ (List.mem_of_getElem? (i := 34) rfl)) (hw _ (List.mem_of_getElem? (i := 27) rfl)) (by decide) (by decide)) (g := (mkF m 2 #[rv a1, iv (0 : Int32), iv (2 : Int32), .unset, .unset] [(.int (2 : Int32)), (.int (0 : Int32))])) rfl (by rw [hml]; rfl) (argsL := [(.int (0 : Int32)), (.int (2 : Int32))]) (rest := []) (lenOf own_pd__II_V rfl) rfl (by show 2 * 0 + _ ≤ _; exact Nat.le_of_eq rfl) (hb hby own_d6_2) (fun _ _ => ⟨rfl, e0, (by decide : 0 + 0 ≤ _), (by decide : 0 + 0 ≤ _)⟩)
  dsimp only [Pt.U, Pt.locs, Pt.cells, Pt.slots] at X1 l1 y1 z1 st1 hQ1
  subst l1 y1 z1
  obtain ⟨rfl, Nq1, e1⟩ := hQ1
  have N1 := Fr.app N0 Nq1
  refine own_go st1 ?_
  show own_Go p e below s _ _ _ (T1.setTop (mkF m 5 #[rv a1, iv (0 : Int32), iv (2 : Int32), .unset, .unset] []))
  refine own_go (fun zt zk => (XS.iloadN X1.here hx rfl (hb hby own_d6_5) rfl (XS.iloadN X1.here hx rfl (hb hby own_d6_6) rfl (XS.isub X1.here hx rfl (hb hby own_d6_7) rfl (XS.istoreN X1.here hx rfl (hb hby own_d6_8) rfl (l' := #[rv a1, iv (0 : Int32), iv (2 : Int32), iv (2 : Int32), .unset]) rfl (XS.iloadN X1.here hx rfl (hb hby own_d6_9) rfl zk)))))) ?_
  show own_Go p e below s _ _ _ (T1.setTop (mkF m 10 #[rv a1, iv (0 : Int32), iv (2 : Int32), iv (2 : Int32), .unset] [(.int (2 : Int32))]))
  obtain ⟨T2, h2, k2, X2, e2, E2, A2, Ea2, st2⟩ := newPE X1 hx hZ (hw _ (List.mem_of_getElem? (i := 0) rfl)) e1 (g := (mkF m 10 #[rv a1, iv (0 : Int32), iv (2 : Int32), iv (2 : Int32), .unset] [(.int (2 : Int32))])) rfl (hb hby own_d6_10) rfl (by decide) (cap := 2) (by decide) (by decide) (by decide) (by decide) (ad := "[B") (by decide)
  obtain ⟨b2, g2⟩ : ∃ z, z = h0.size := ⟨_, rfl⟩
  rw [← g2] at A2 Ea2 st2
  refine own_go st2 ?_
  have ne_a1_b2 : a1 ≠ b2 := Nat.ne_of_lt (Nat.lt_of_lt_of_le Va.lt (Nat.le_of_eq g2.symm))
  have sz_b2 : h0.size ≤ b2 := Nat.le_trans Kp.1 (Nat.le_of_eq g2.symm)
  have g_b2 : n0 ≤ b2 := Nat.le_trans Z0 sz_b2
  replace Va := Va.ext E2
  replace Kp := Kp.ext E2
  have V_b2 : Arv Z h2 b2 k2 .byte (2 : Int32) [(.int (0 : Int32)), (.int (0 : Int32))] (.int (0 : Int32)) := (Arv.new A2 (by decide)).pad (pad_rep [] (.int (0 : Int32)) 2)
  have Ea_b2 := Ea2
  show own_Go p e below s _ _ _ (T2.setTop (mkF m 12 #[rv a1, iv (0 : Int32), iv (2 : Int32), iv (2 : Int32), .unset] [(.ref b2)]))
  refine own_go (fun zt zk => (XS.astore X2.here hx rfl (hb hby own_d6_12) rfl rfl (l' := #[rv a1, iv (0 : Int32), iv (2 : Int32), iv (2 : Int32), rv b2]) rfl (XS.aloadN X2.here hx rfl (hb hby own_d6_14) rfl rfl (XS.iloadN X2.here hx rfl (hb hby own_d6_15) rfl (XS.aload X2.here hx rfl (hb hby own_d6_16) rfl rfl (XS.iconst X2.here hx rfl (hb hby own_d6_18) (XS.aloadN X2.here hx rfl (hb hby own_d6_19) rfl rfl zk))))))) ?_
  show own_Go p e below s _ _ _ (T2.setTop (mkF m 20 #[rv a1, iv (0 : Int32), iv (2 : Int32), iv (2 : Int32), rv b2] [(.ref a1), (.int (0 : Int32)), (.ref b2), (.int (0 : Int32)), (.ref a1)]))
  obtain ⟨cl3, Ar3, -, Sz3, Nz3, -, -⟩ := id Va
  refine own_go (X2.arraylength hx (by rw [e2]; exact Ar3.1) (State.isArrayOf_alike hZ.alike Ar3.2.1) (g := (mkF m 20 #[rv a1, iv (0 : Int32), iv (2 : Int32), iv (2 : Int32), rv b2] [(.ref a1), (.int (0 : Int32)), (.ref b2), (.int (0 : Int32)), (.ref a1)])) rfl rfl (hb hby own_d6_20)) ?_
  rw [len_of Sz3 Nz3]
  show own_Go p e below s _ _ _ (T2.setTop (mkF m 21 #[rv a1, iv (0 : Int32), iv (2 : Int32), iv (2 : Int32), rv b2] [(.int (4 : Int32)), (.int (0 : Int32)), (.ref b2), (.int (0 : Int32)), (.ref a1)]))
  refine own_go (fun zt zk => (XS.iloadN X2.here hx rfl (hb hby own_d6_21) rfl (XS.isub X2.here hx rfl (hb hby own_d6_22) rfl (XS.iloadN X2.here hx rfl (hb hby own_d6_23) rfl zk)))) ?_
  show own_Go p e below s _ _ _ (T2.setTop (mkF m 24 #[rv a1, iv (0 : Int32), iv (2 : Int32), iv (2 : Int32), rv b2] [(.int (2 : Int32)), (.int (4 : Int32)), (.int (0 : Int32)), (.ref b2), (.int (0 : Int32)), (.ref a1)]))
  obtain ⟨_, _, ⟨T4, L4, k4, n4⟩, -, X4, ⟨Lc4, hQ4, l4, y4, z4⟩, st4⟩ := Jvm.LawKit.callS X2 hx (y := (⟨"java/lang/Math", "min", "(II)I"⟩ : MethodName)) hown (mvT hZ (hw _ (List.mem_of_getElem? (i := 35) rfl))) (mvT hZ (hw _ (List.mem_of_getElem? (i := 36) rfl))) (mvT hZ (hw _ (List.mem_of_getElem? (i := 37) rfl))) (mvT hZ (hw _ (List.mem_of_getElem? (i := 38) rfl))) (by decide) (backOf (W := 4) (own_rmin l Z a0 hw [] (4 : Int32) (2 : Int32)  h2 n0 (Nat.le_trans Z0 Kp.1) ) hZ (hw _ (List.mem_of_getElem? (i := 38) rfl)) (hw _ (List.mem_of_getElem? (i := 37) rfl)) (by decide) (by decide)) (g := (mkF m 24 #[rv a1, iv (0 : Int32), iv (2 : Int32), iv (2 : Int32), rv b2] [(.int (2 : Int32)), (.int (4 : Int32)), (.int (0 : Int32)), (.ref b2), (.int (0 : Int32)), (.ref a1)])) rfl (by rw [hml]; rfl) (argsL := [(.int (4 : Int32)), (.int (2 : Int32))]) (rest := [(.int (0 : Int32)), (.ref b2), (.int (0 : Int32)), (.ref a1)]) (lenOf own_pd__II_I rfl) rfl (by show 2 * 0 + _ ≤ _; exact Nat.le_of_eq rfl) (hb hby own_d6_24) (fun _ _ => ⟨rfl, e2, (by decide : 1 + 0 ≤ _), (by decide : 2 + 0 ≤ _)⟩)
  dsimp only [Pt.U, Pt.locs, Pt.cells, Pt.slots] at X4 l4 y4 z4 st4 hQ4
  subst l4 y4 z4
  obtain ⟨rfl, Nq4, e4⟩ := hQ4
  have N4 := Fr.app N1 Nq4
  refine own_go st4 ?_
  show own_Go p e below s _ _ _ (T4.setTop (mkF m 27 #[rv a1, iv (0 : Int32), iv (2 : Int32), iv (2 : Int32), rv b2] [(.int (2 : Int32)), (.int (0 : Int32)), (.ref b2), (.int (0 : Int32)), (.ref a1)]))
  obtain ⟨T5, h5, L5, X5, e5, N5, K5, V5, st5⟩ := cpA X4 hx hZ hown (hw _ (List.mem_of_getElem? (i := 39) rfl)) (hw _ (List.mem_of_getElem? (i := 42) rfl)) (hw _ (List.mem_of_getElem? (i := 40) rfl)) (hw _ (List.mem_of_getElem? (i := 41) rfl)) e4 Va V_b2 (us := [v0, v1]) (Or.inl ⟨rfl, rfl⟩) (by decide) (by decide) (by decide) (by decide) (by decide) rfl (by decide) N4 g_b2 (g := (mkF m 27 #[rv a1, iv (0 : Int32), iv (2 : Int32), iv (2 : Int32), rv b2] [(.int (2 : Int32)), (.int (0 : Int32)), (.ref b2), (.int (0 : Int32)), (.ref a1)])) rfl (by rw [hml]; rfl) rfl (hb hby own_d6_27) (by decide) (W := 0) (by show 2 * 0 + _ ≤ _; exact Nat.le_of_eq rfl) (by decide)
  refine own_go st5 ?_
  replace Va := Va.keep K5 (ninS ne_a1_b2 nin0)
  replace Kp := Kp.trans K5 (allS (Or.inr sz_b2) all0)
  replace Ea_b2 := Ea_b2.keep K5
  replace V_b2 : Arv Z h5 b2 k2 .byte (2 : Int32) [v0, v1] (.int (0 : Int32)) := V5
  show own_Go p e below s _ _ _ (T5.setTop (mkF m 30 #[rv a1, iv (0 : Int32), iv (2 : Int32), iv (2 : Int32), rv b2] []))
  refine own_go (fun zt zk => (XS.aload X5.here hx rfl (hb hby own_d6_30) rfl rfl zk)) ?_
  show own_Go p e below s _ _ _ (T5.setTop (mkF m 32 #[rv a1, iv (0 : Int32), iv (2 : Int32), iv (2 : Int32), rv b2] [(.ref b2)]))
  exact own_fin X5 Bd.notSynchronized (fun h => by rw [Bd.returns] at h; cases h) (fun fs hr => retOut X5 hx (t := (.array .byte)) (w := (.ref b2)) Bd.returns rfl (Or.inr (Or.inr (Or.inr (Or.inr ⟨rfl, rfl, rfl⟩)))) (hb hby own_d6_32) hr) (by rw [e5]; exact ⟨_, _, rfl, N5, Kp, sz_b2, Ea_b2, V_b2⟩) (by decide) (by decide)
theorem own_ef_own_rcr02 (m : MethodId) (a1 : Addr) : entryFrame m #[(.ref a1), (.int (0 : Int32)), (.int (2 : Int32))] 3 = mkF m 0 #[rv a1, iv (0 : Int32), iv (2 : Int32)] [] := by first | (simp [entryFrame, mkF, argsToLocals, Value.category]; done) | rfl
def own_Q_own_rcr02 (Z : State) (a1 : Addr) (k1 : ClassId) (v0 v1 v2 v3 : Value) (h0 : Heap) (n0 : Nat) (v : Option Value) (h : Heap) (L : List Loc) : Prop := ∃ b k, v = some (.ref b) ∧ Fr n0 L ∧ Keep h0 h [] ∧ h0.size ≤ b ∧ Exa Z h b "[B" ∧ Arv Z h b k .byte (2 : Int32) [v0, v1] (.int (0 : Int32))
set_option maxRecDepth 65536 in
set_option maxHeartbeats 40000000 in
theorem own_rcr02 (l : Launch) (Z : State) (a0 : Array Value) (hw : ∀ d ∈ tables_1, d.before a0 Z = true) (ws : List Jvm.Cond) (a1 : Addr) (k1 : ClassId) (v0 v1 v2 v3 : Value) (h0 : Heap) (n0 : Nat) (Z0 : n0 ≤ h0.size) (Va : Arv Z h0 a1 k1 .byte (4 : Int32) [v0, v1, v2, v3] (.int (0 : Int32))) (Ea : Exa Z h0 a1 "[B")  :
    MetFree l (⟨"java/util/Arrays", "copyOfRange", "([BII)[B"⟩ : MethodName) (head1 (Jvm.Cond.code (⟨"java/util/Arrays", "copyOfRange", "([BII)[B"⟩ : MethodName) jdk_65_method_132_code 3 (some (.array .byte)) :: ws) ({ frames := 2, cells := 1, slots := 2, locals := 48 } : Room)) (fun a U => a = #[(.ref a1), (.int (0 : Int32)), (.int (2 : Int32))] ∧ Z.Warmed39 U.vm ∧ U.heap = h0) (fun _ _ _ _ _ => True) (fun _ U o U' => ∃ v L, o = .returned v ∧ own_Q_own_rcr02 Z a1 k1 v0 v1 v2 v3 h0 n0 v U'.heap L ∧ FrameEnd U o U' L ({ frames := 2, cells := 1, slots := 2, locals := 48 } : Room).cells ({ frames := 2, cells := 1, slots := 2, locals := 48 } : Room).slots) := by
  refine MetFree.of_bodySF (plainFor_of_name own_pn_java_util_Arrays) hisR ?_
  intro p e s m args below meth c s₁ Bd hml0 hP hK
  obtain ⟨rfl, hZ, hh⟩ := hP
  have hx := Bd.exec
  have hby := Bd.bytes
  have hml : c.maxLocals = 3 := hml0
  have hown : s.vm.findClass "java/util/Arrays" = some m.cls := findClass_of_methodNamed Bd.named
  have hnm := (name_of_methodNamed Bd.named Bd.method).1
  have X0 : Stand p l e ({ frames := 2, cells := 1, slots := 2, locals := 48 } : Room) s m #[(.ref a1), (.int (0 : Int32)), (.int (2 : Int32))] below meth c s₁ [] 0 0 := Stand.of_body Bd
  have e0 : s₁.heap = h0 := by rw [← hh, Bd.state]; rfl
  have N0 := Fr.nil n0
  have Kp : Keep h0 h0 [] := Keep.refl h0 _
  show own_Go p e below s (own_Q_own_rcr02 Z a1 k1 v0 v1 v2 v3 h0 n0) ({ frames := 2, cells := 1, slots := 2, locals := 48 } : Room).cells ({ frames := 2, cells := 1, slots := 2, locals := 48 } : Room).slots (s₁.setTop (entryFrame m #[(.ref a1), (.int (0 : Int32)), (.int (2 : Int32))] 3))
  refine own_go (fun zt zk => castTop (own_ef_own_rcr02 m a1) zk) ?_
  show own_Go p e below s _ _ _ (s₁.setTop (mkF m 0 #[rv a1, iv (0 : Int32), iv (2 : Int32)] []))
  refine own_go (fun zt zk => (XS.iloadN X0.here hx rfl (hb hby own_d5_0) rfl (XS.ifNo X0.here hx rfl (hb hby own_d5_1) rfl ((if0 _ _).trans (teq (rfl : (0 : Int32) = (0 : Int32))).2) (XS.iloadN X0.here hx rfl (hb hby own_d5_4) rfl (XS.aloadN X0.here hx rfl (hb hby own_d5_5) rfl rfl zk))))) ?_
  show own_Go p e below s _ _ _ (s₁.setTop (mkF m 6 #[rv a1, iv (0 : Int32), iv (2 : Int32)] [(.ref a1), (.int (2 : Int32))]))
  obtain ⟨cl1, Ar1, -, Sz1, Nz1, -, -⟩ := id Va
  refine own_go (X0.arraylength hx (by rw [e0]; exact Ar1.1) (State.isArrayOf_alike hZ.alike Ar1.2.1) (g := (mkF m 6 #[rv a1, iv (0 : Int32), iv (2 : Int32)] [(.ref a1), (.int (2 : Int32))])) rfl rfl (hb hby own_d5_6)) ?_
  rw [len_of Sz1 Nz1]
  show own_Go p e below s _ _ _ (s₁.setTop (mkF m 7 #[rv a1, iv (0 : Int32), iv (2 : Int32)] [(.int (4 : Int32)), (.int (2 : Int32))]))
  refine own_go (fun zt zk => (XS.icmpNo X0.here hx rfl (hb hby own_d5_7) rfl (feq ((by decide) : ¬ ((2 : Int32) = (4 : Int32)))).1 (XS.aloadN X0.here hx rfl (hb hby own_d5_10) rfl rfl (XS.iloadN X0.here hx rfl (hb hby own_d5_11) rfl (XS.iloadN X0.here hx rfl (hb hby own_d5_12) rfl zk))))) ?_
  show own_Go p e below s _ _ _ (s₁.setTop (mkF m 13 #[rv a1, iv (0 : Int32), iv (2 : Int32)] [(.int (2 : Int32)), (.int (0 : Int32)), (.ref a1)]))
  obtain ⟨_, _, ⟨T2, L2, k2, n2⟩, -, X2, ⟨Lc2, hQ2, l2, y2, z2⟩, st2⟩ := Jvm.LawKit.callS X0 hx (y := (⟨"java/util/Arrays", "copyOfRangeByte", "([BII)[B"⟩ : MethodName)) hown (mvT hZ (hw _ (List.mem_of_getElem? (i := 29) rfl))) (mvT hZ (hw _ (List.mem_of_getElem? (i := 30) rfl))) (mvT hZ (hw _ (List.mem_of_getElem? (i := 27) rfl))) (mvT hZ (hw _ (List.mem_of_getElem? (i := 31) rfl))) (by decide) (backOf (W := 0) (own_rcrb02 l Z a0 hw [] a1 k1 v0 v1 v2 v3 h0 n0 Z0 Va) hZ (hw _ (List.mem_of_getElem? (i := 31) rfl)) (hw _ (List.mem_of_getElem? (i := 27) rfl)) (by decide) (by decide)) (g := (mkF m 13 #[rv a1, iv (0 : Int32), iv (2 : Int32)] [(.int (2 : Int32)), (.int (0 : Int32)), (.ref a1)])) rfl (by rw [hml]; rfl) (argsL := [(.ref a1), (.int (0 : Int32)), (.int (2 : Int32))]) (rest := []) (lenOf own_pd___BII__B rfl) rfl (by show 2 * 0 + _ ≤ _; exact Nat.le_of_eq rfl) (hb hby own_d5_13) (fun _ _ => ⟨rfl, e0, (by decide : 0 + 1 ≤ _), (by decide : 0 + 2 ≤ _)⟩)
  dsimp only [Pt.U, Pt.locs, Pt.cells, Pt.slots] at X2 l2 y2 z2 st2 hQ2
  subst l2 y2 z2
  obtain ⟨b2, k2', rfl, Nq2, K2, sz_b2, Ea_b2, V_b2⟩ := hQ2
  have N2 := Fr.app N0 Nq2
  refine own_go st2 ?_
  replace Va := Va.keep K2 nin0
  replace Ea := Ea.keep K2
  replace Kp := Kp.trans K2 all0
  show own_Go p e below s _ _ _ (T2.setTop (mkF m 16 #[rv a1, iv (0 : Int32), iv (2 : Int32)] [(.ref b2)]))
  exact own_fin X2 Bd.notSynchronized (fun h => by rw [Bd.returns] at h; cases h) (fun fs hr => retOut X2 hx (t := (.array .byte)) (w := (.ref b2)) Bd.returns rfl (Or.inr (Or.inr (Or.inr (Or.inr ⟨rfl, rfl, rfl⟩)))) (hb hby own_d5_16) hr) ⟨_, _, rfl, N2, Kp, sz_b2, Ea_b2, V_b2⟩ (by decide) (by decide)
theorem own_ef_own_rbi02 (m : MethodId) (a0' : Addr) (a1 : Addr) : entryFrame m #[(.ref a0'), (.ref a1)] 2 = mkF m 0 #[rv a0', rv a1] [] := by first | (simp [entryFrame, mkF, argsToLocals, Value.category]; done) | rfl
def own_Q_own_rbi02 (Z : State) (a0' : Addr) (a1 : Addr) (k1 : ClassId) (v0 v1 v2 v3 : Value) (h0 : Heap) (n0 : Nat) (v : Option Value) (h : Heap) (L : List Loc) : Prop := ∃ b k, v = some (.ref b) ∧ Fr n0 L ∧ Keep h0 h [] ∧ h0.size ≤ b ∧ Exa Z h b "[B" ∧ Arv Z h b k .byte (2 : Int32) [v0, v1] (.int (0 : Int32))
set_option maxRecDepth 65536 in
set_option maxHeartbeats 40000000 in
theorem own_rbi02 (l : Launch) (Z : State) (a0 : Array Value) (hw : ∀ d ∈ tables_1, d.before a0 Z = true) (ws : List Jvm.Cond) (a0' : Addr) (a1 : Addr) (k1 : ClassId) (v0 v1 v2 v3 : Value) (h0 : Heap) (n0 : Nat) (Z0 : n0 ≤ h0.size) (Va : Arv Z h0 a1 k1 .byte (4 : Int32) [v0, v1, v2, v3] (.int (0 : Int32))) (Ea : Exa Z h0 a1 "[B") (Fs : Fld Z h0 a0' "com/example/tranche/tranche/model/Span" "start" "I" (.int (0 : Int32))) (Fe : Fld Z h0 a0' "com/example/tranche/tranche/model/Span" "end" "I" (.int (2 : Int32)))  :
    MetFree l (⟨"com/example/tranche/tranche/model/Span", "bytesIn", "([B)[B"⟩ : MethodName) (head1 (Jvm.Cond.code (⟨"com/example/tranche/tranche/model/Span", "bytesIn", "([B)[B"⟩ : MethodName) prog_34_method_2_code 2 (some (.array .byte)) :: ws) ({ frames := 3, cells := 1, slots := 2, locals := 62 } : Room)) (fun a U => a = #[(.ref a0'), (.ref a1)] ∧ Z.Warmed39 U.vm ∧ U.heap = h0) (fun _ _ _ _ _ => True) (fun _ U o U' => ∃ v L, o = .returned v ∧ own_Q_own_rbi02 Z a0' a1 k1 v0 v1 v2 v3 h0 n0 v U'.heap L ∧ FrameEnd U o U' L ({ frames := 3, cells := 1, slots := 2, locals := 62 } : Room).cells ({ frames := 3, cells := 1, slots := 2, locals := 62 } : Room).slots) := by
  refine MetFree.of_bodySF (plainFor_of_name own_pn_com_example_tranche_tranche_model_Span) hisR ?_
  intro p e s m args below meth c s₁ Bd hml0 hP hK
  obtain ⟨rfl, hZ, hh⟩ := hP
  have hx := Bd.exec
  have hby := Bd.bytes
  have hml : c.maxLocals = 2 := hml0
  have hown : s.vm.findClass "com/example/tranche/tranche/model/Span" = some m.cls := findClass_of_methodNamed Bd.named
  have hnm := (name_of_methodNamed Bd.named Bd.method).1
  have X0 : Stand p l e ({ frames := 3, cells := 1, slots := 2, locals := 62 } : Room) s m #[(.ref a0'), (.ref a1)] below meth c s₁ [] 0 0 := Stand.of_body Bd
  have e0 : s₁.heap = h0 := by rw [← hh, Bd.state]; rfl
  have N0 := Fr.nil n0
  have Kp : Keep h0 h0 [] := Keep.refl h0 _
  show own_Go p e below s (own_Q_own_rbi02 Z a0' a1 k1 v0 v1 v2 v3 h0 n0) ({ frames := 3, cells := 1, slots := 2, locals := 62 } : Room).cells ({ frames := 3, cells := 1, slots := 2, locals := 62 } : Room).slots (s₁.setTop (entryFrame m #[(.ref a0'), (.ref a1)] 2))
  refine own_go (fun zt zk => castTop (own_ef_own_rbi02 m a0' a1) zk) ?_
  show own_Go p e below s _ _ _ (s₁.setTop (mkF m 0 #[rv a0', rv a1] []))
  refine own_go (fun zt zk => (XS.aloadN X0.here hx rfl (hb hby own_d4_0) rfl rfl zk)) ?_
  show own_Go p e below s _ _ _ (s₁.setTop (mkF m 1 #[rv a0', rv a1] [(.ref a0')]))
  obtain ⟨T1, X1, e1, st1⟩ := getF X0 hx hZ hown (host := "") (Or.inl (hw _ (List.mem_of_getElem? (i := 18) rfl))) Via.refl e0 Fe (g := (mkF m 1 #[rv a0', rv a1] [(.ref a0')])) rfl rfl (hb hby own_d4_1)
  refine own_go st1 ?_
  show own_Go p e below s _ _ _ (T1.setTop (mkF m 4 #[rv a0', rv a1] [(.int (2 : Int32))]))
  refine own_go (fun zt zk => (XS.aloadN X1.here hx rfl (hb hby own_d4_4) rfl rfl zk)) ?_
  show own_Go p e below s _ _ _ (T1.setTop (mkF m 5 #[rv a0', rv a1] [(.ref a1), (.int (2 : Int32))]))
  obtain ⟨cl2, Ar2, -, Sz2, Nz2, -, -⟩ := id Va
  refine own_go (X1.arraylength hx (by rw [e1]; exact Ar2.1) (State.isArrayOf_alike hZ.alike Ar2.2.1) (g := (mkF m 5 #[rv a0', rv a1] [(.ref a1), (.int (2 : Int32))])) rfl rfl (hb hby own_d4_5)) ?_
  rw [len_of Sz2 Nz2]
  show own_Go p e below s _ _ _ (T1.setTop (mkF m 6 #[rv a0', rv a1] [(.int (4 : Int32)), (.int (2 : Int32))]))
  refine own_go (fun zt zk => (XS.icmpYes X1.here hx rfl (pc0 := 6) (pc' := 32) rfl (hb hby own_d4_6) rfl (flt ((by decide) : ¬ ((4 : Int32) < (2 : Int32)))).2.2.2 (by decide) (by decide) (XS.aloadN X1.here hx rfl (hb hby own_d4_32) rfl rfl (XS.aloadN X1.here hx rfl (hb hby own_d4_33) rfl rfl zk)))) ?_
  show own_Go p e below s _ _ _ (T1.setTop (mkF m 34 #[rv a0', rv a1] [(.ref a0'), (.ref a1)]))
  obtain ⟨T3, X3, e3, st3⟩ := getF X1 hx hZ hown (host := "") (Or.inl (hw _ (List.mem_of_getElem? (i := 16) rfl))) Via.refl e1 Fs (g := (mkF m 34 #[rv a0', rv a1] [(.ref a0'), (.ref a1)])) rfl rfl (hb hby own_d4_34)
  refine own_go st3 ?_
  show own_Go p e below s _ _ _ (T3.setTop (mkF m 37 #[rv a0', rv a1] [(.int (0 : Int32)), (.ref a1)]))
  refine own_go (fun zt zk => (XS.aloadN X3.here hx rfl (hb hby own_d4_37) rfl rfl zk)) ?_
  show own_Go p e below s _ _ _ (T3.setTop (mkF m 38 #[rv a0', rv a1] [(.ref a0'), (.int (0 : Int32)), (.ref a1)]))
  obtain ⟨T4, X4, e4, st4⟩ := getF X3 hx hZ hown (host := "") (Or.inl (hw _ (List.mem_of_getElem? (i := 18) rfl))) Via.refl e3 Fe (g := (mkF m 38 #[rv a0', rv a1] [(.ref a0'), (.int (0 : Int32)), (.ref a1)])) rfl rfl (hb hby own_d4_38)
  refine own_go st4 ?_
  show own_Go p e below s _ _ _ (T4.setTop (mkF m 41 #[rv a0', rv a1] [(.int (2 : Int32)), (.int (0 : Int32)), (.ref a1)]))
  obtain ⟨_, _, ⟨T5, L5, k5, n5⟩, -, X5, ⟨Lc5, hQ5, l5, y5, z5⟩, st5⟩ := Jvm.LawKit.callS X4 hx (y := (⟨"java/util/Arrays", "copyOfRange", "([BII)[B"⟩ : MethodName)) hown (mvT hZ (hw _ (List.mem_of_getElem? (i := 25) rfl))) (mvT hZ (hw _ (List.mem_of_getElem? (i := 26) rfl))) (mvT hZ (hw _ (List.mem_of_getElem? (i := 27) rfl))) (mvT hZ (hw _ (List.mem_of_getElem? (i := 28) rfl))) (by decide) (backOf (W := 0) (own_rcr02 l Z a0 hw [] a1 k1 v0 v1 v2 v3 h0 n0 Z0 Va Ea) hZ (hw _ (List.mem_of_getElem? (i := 28) rfl)) (hw _ (List.mem_of_getElem? (i := 27) rfl)) (by decide) (by decide)) (g := (mkF m 41 #[rv a0', rv a1] [(.int (2 : Int32)), (.int (0 : Int32)), (.ref a1)])) rfl (by rw [hml]; rfl) (argsL := [(.ref a1), (.int (0 : Int32)), (.int (2 : Int32))]) (rest := []) (lenOf own_pd___BII__B rfl) rfl (by show 2 * 0 + _ ≤ _; exact Nat.le_of_eq rfl) (hb hby own_d4_41) (fun _ _ => ⟨rfl, e4, (by decide : 0 + 1 ≤ _), (by decide : 0 + 2 ≤ _)⟩)
  dsimp only [Pt.U, Pt.locs, Pt.cells, Pt.slots] at X5 l5 y5 z5 st5 hQ5
  subst l5 y5 z5
  obtain ⟨b5, k5', rfl, Nq5, K5, sz_b5, Ea_b5, V_b5⟩ := hQ5
  have N5 := Fr.app N0 Nq5
  refine own_go st5 ?_
  replace Va := Va.keep K5 nin0
  replace Ea := Ea.keep K5
  replace Fs := Fs.keep K5 nin0
  replace Fe := Fe.keep K5 nin0
  replace Kp := Kp.trans K5 all0
  show own_Go p e below s _ _ _ (T5.setTop (mkF m 44 #[rv a0', rv a1] [(.ref b5)]))
  exact own_fin X5 Bd.notSynchronized (fun h => by rw [Bd.returns] at h; cases h) (fun fs hr => retOut X5 hx (t := (.array .byte)) (w := (.ref b5)) Bd.returns rfl (Or.inr (Or.inr (Or.inr (Or.inr ⟨rfl, rfl, rfl⟩)))) (hb hby own_d4_44) hr) ⟨_, _, rfl, N5, Kp, sz_b5, Ea_b5, V_b5⟩ (by decide) (by decide)
theorem own_ef_own_rcrb03 (m : MethodId) (a1 : Addr) : entryFrame m #[(.ref a1), (.int (0 : Int32)), (.int (3 : Int32))] 5 = mkF m 0 #[rv a1, iv (0 : Int32), iv (3 : Int32), .unset, .unset] [] := by first | (simp [entryFrame, mkF, argsToLocals, Value.category]; done) | rfl
def own_Q_own_rcrb03 (Z : State) (a1 : Addr) (k1 : ClassId) (v0 v1 v2 v3 : Value) (h0 : Heap) (n0 : Nat) (v : Option Value) (h : Heap) (L : List Loc) : Prop := ∃ b k, v = some (.ref b) ∧ Fr n0 L ∧ Keep h0 h [] ∧ h0.size ≤ b ∧ Exa Z h b "[B" ∧ Arv Z h b k .byte (3 : Int32) [v0, v1, v2] (.int (0 : Int32))
set_option maxRecDepth 65536 in
set_option maxHeartbeats 40000000 in
theorem own_rcrb03 (l : Launch) (Z : State) (a0 : Array Value) (hw : ∀ d ∈ tables_1, d.before a0 Z = true) (ws : List Jvm.Cond) (a1 : Addr) (k1 : ClassId) (v0 v1 v2 v3 : Value) (h0 : Heap) (n0 : Nat) (Z0 : n0 ≤ h0.size) (Va : Arv Z h0 a1 k1 .byte (4 : Int32) [v0, v1, v2, v3] (.int (0 : Int32)))  :
    MetFree l (⟨"java/util/Arrays", "copyOfRangeByte", "([BII)[B"⟩ : MethodName) (head1 (Jvm.Cond.code (⟨"java/util/Arrays", "copyOfRangeByte", "([BII)[B"⟩ : MethodName) jdk_65_method_133_code 5 (some (.array .byte)) :: ws) ({ frames := 1, cells := 1, slots := 3, locals := 32 } : Room)) (fun a U => a = #[(.ref a1), (.int (0 : Int32)), (.int (3 : Int32))] ∧ Z.Warmed39 U.vm ∧ U.heap = h0) (fun _ _ _ _ _ => True) (fun _ U o U' => ∃ v L, o = .returned v ∧ own_Q_own_rcrb03 Z a1 k1 v0 v1 v2 v3 h0 n0 v U'.heap L ∧ FrameEnd U o U' L ({ frames := 1, cells := 1, slots := 3, locals := 32 } : Room).cells ({ frames := 1, cells := 1, slots := 3, locals := 32 } : Room).slots) := by
  refine MetFree.of_bodySF (plainFor_of_name own_pn_java_util_Arrays) hisR ?_
  intro p e s m args below meth c s₁ Bd hml0 hP hK
  obtain ⟨rfl, hZ, hh⟩ := hP
  have hx := Bd.exec
  have hby := Bd.bytes
  have hml : c.maxLocals = 5 := hml0
  have hown : s.vm.findClass "java/util/Arrays" = some m.cls := findClass_of_methodNamed Bd.named
  have hnm := (name_of_methodNamed Bd.named Bd.method).1
  have X0 : Stand p l e ({ frames := 1, cells := 1, slots := 3, locals := 32 } : Room) s m #[(.ref a1), (.int (0 : Int32)), (.int (3 : Int32))] below meth c s₁ [] 0 0 := Stand.of_body Bd
  have e0 : s₁.heap = h0 := by rw [← hh, Bd.state]; rfl
  have N0 := Fr.nil n0
  have Kp : Keep h0 h0 [] := Keep.refl h0 _
  show own_Go p e below s (own_Q_own_rcrb03 Z a1 k1 v0 v1 v2 v3 h0 n0) ({ frames := 1, cells := 1, slots := 3, locals := 32 } : Room).cells ({ frames := 1, cells := 1, slots := 3, locals := 32 } : Room).slots (s₁.setTop (entryFrame m #[(.ref a1), (.int (0 : Int32)), (.int (3 : Int32))] 5))
  refine own_go (fun zt zk => castTop (own_ef_own_rcrb03 m a1) zk) ?_
  show own_Go p e below s _ _ _ (s₁.setTop (mkF m 0 #[rv a1, iv (0 : Int32), iv (3 : Int32), .unset, .unset] []))
  refine own_go (fun zt zk => (XS.iloadN X0.here hx rfl (hb hby own_d6_0) rfl (XS.iloadN X0.here hx rfl (hb hby own_d6_1) rfl zk))) ?_
  show own_Go p e below s _ _ _ (s₁.setTop (mkF m 2 #[rv a1, iv (0 : Int32), iv (3 : Int32), .unset, .unset] [(.int (3 : Int32)), (.int (0 : Int32))]))
  obtain ⟨_, _, ⟨T1, L1, k1, n1⟩, -, X1, ⟨Lc1, hQ1, l1, y1, z1⟩, st1⟩ := Jvm.LawKit.callS X0 hx (y := (⟨"java/util/Arrays", "checkLength", "(II)V"⟩ : MethodName)) hown (mvT hZ (hw _ (List.mem_of_getElem? (i := 32) rfl))) (mvT hZ (hw _ (List.mem_of_getElem? (i := 33) rfl))) (mvT hZ (hw _ (List.mem_of_getElem? (i := 27) rfl))) (mvT hZ (hw _ (List.mem_of_getElem? (i := 34) rfl))) (by decide) (backOf (W := 0) (own_rcl l Z a0 hw [] (0 : Int32) (3 : Int32)  h0 n0 Z0 (by decide)) hZ (hw _ (List.mem_of_getElem? (i := 34) rfl)) (hw _ (List.mem_of_getElem? (i := 27) rfl)) (by decide) (by decide)) (g := (mkF m 2 #[rv a1, iv (0 : Int32), iv (3 : Int32), .unset, .unset] [(.int (3 : Int32)), (.int (0 : Int32))])) rfl (by rw [hml]; rfl) (argsL := [(.int (0 : Int32)), (.int (3 : Int32))]) (rest := []) (lenOf own_pd__II_V rfl) rfl (by show 2 * 0 + _ ≤ _; exact Nat.le_of_eq rfl) (hb hby own_d6_2) (fun _ _ => ⟨rfl, e0, (by decide : 0 + 0 ≤ _), (by decide : 0 + 0 ≤ _)⟩)
  dsimp only [Pt.U, Pt.locs, Pt.cells, Pt.slots] at X1 l1 y1 z1 st1 hQ1
  subst l1 y1 z1
  obtain ⟨rfl, Nq1, e1⟩ := hQ1
  have N1 := Fr.app N0 Nq1
  refine own_go st1 ?_
  show own_Go p e below s _ _ _ (T1.setTop (mkF m 5 #[rv a1, iv (0 : Int32), iv (3 : Int32), .unset, .unset] []))
  refine own_go (fun zt zk => (XS.iloadN X1.here hx rfl (hb hby own_d6_5) rfl (XS.iloadN X1.here hx rfl (hb hby own_d6_6) rfl (XS.isub X1.here hx rfl (hb hby own_d6_7) rfl (XS.istoreN X1.here hx rfl (hb hby own_d6_8) rfl (l' := #[rv a1, iv (0 : Int32), iv (3 : Int32), iv (3 : Int32), .unset]) rfl (XS.iloadN X1.here hx rfl (hb hby own_d6_9) rfl zk)))))) ?_
  show own_Go p e below s _ _ _ (T1.setTop (mkF m 10 #[rv a1, iv (0 : Int32), iv (3 : Int32), iv (3 : Int32), .unset] [(.int (3 : Int32))]))
  obtain ⟨T2, h2, k2, X2, e2, E2, A2, Ea2, st2⟩ := newPE X1 hx hZ (hw _ (List.mem_of_getElem? (i := 0) rfl)) e1 (g := (mkF m 10 #[rv a1, iv (0 : Int32), iv (3 : Int32), iv (3 : Int32), .unset] [(.int (3 : Int32))])) rfl (hb hby own_d6_10) rfl (by decide) (cap := 3) (by decide) (by decide) (by decide) (by decide) (ad := "[B") (by decide)
  obtain ⟨b2, g2⟩ : ∃ z, z = h0.size := ⟨_, rfl⟩
  rw [← g2] at A2 Ea2 st2
  refine own_go st2 ?_
  have ne_a1_b2 : a1 ≠ b2 := Nat.ne_of_lt (Nat.lt_of_lt_of_le Va.lt (Nat.le_of_eq g2.symm))
  have sz_b2 : h0.size ≤ b2 := Nat.le_trans Kp.1 (Nat.le_of_eq g2.symm)
  have g_b2 : n0 ≤ b2 := Nat.le_trans Z0 sz_b2
  replace Va := Va.ext E2
  replace Kp := Kp.ext E2
  have V_b2 : Arv Z h2 b2 k2 .byte (3 : Int32) [(.int (0 : Int32)), (.int (0 : Int32)), (.int (0 : Int32))] (.int (0 : Int32)) := (Arv.new A2 (by decide)).pad (pad_rep [] (.int (0 : Int32)) 3)
  have Ea_b2 := Ea2
  show own_Go p e below s _ _ _ (T2.setTop (mkF m 12 #[rv a1, iv (0 : Int32), iv (3 : Int32), iv (3 : Int32), .unset] [(.ref b2)]))
  refine own_go (fun zt zk => (XS.astore X2.here hx rfl (hb hby own_d6_12) rfl rfl (l' := #[rv a1, iv (0 : Int32), iv (3 : Int32), iv (3 : Int32), rv b2]) rfl (XS.aloadN X2.here hx rfl (hb hby own_d6_14) rfl rfl (XS.iloadN X2.here hx rfl (hb hby own_d6_15) rfl (XS.aload X2.here hx rfl (hb hby own_d6_16) rfl rfl (XS.iconst X2.here hx rfl (hb hby own_d6_18) (XS.aloadN X2.here hx rfl (hb hby own_d6_19) rfl rfl zk))))))) ?_
  show own_Go p e below s _ _ _ (T2.setTop (mkF m 20 #[rv a1, iv (0 : Int32), iv (3 : Int32), iv (3 : Int32), rv b2] [(.ref a1), (.int (0 : Int32)), (.ref b2), (.int (0 : Int32)), (.ref a1)]))
  obtain ⟨cl3, Ar3, -, Sz3, Nz3, -, -⟩ := id Va
  refine own_go (X2.arraylength hx (by rw [e2]; exact Ar3.1) (State.isArrayOf_alike hZ.alike Ar3.2.1) (g := (mkF m 20 #[rv a1, iv (0 : Int32), iv (3 : Int32), iv (3 : Int32), rv b2] [(.ref a1), (.int (0 : Int32)), (.ref b2), (.int (0 : Int32)), (.ref a1)])) rfl rfl (hb hby own_d6_20)) ?_
  rw [len_of Sz3 Nz3]
  show own_Go p e below s _ _ _ (T2.setTop (mkF m 21 #[rv a1, iv (0 : Int32), iv (3 : Int32), iv (3 : Int32), rv b2] [(.int (4 : Int32)), (.int (0 : Int32)), (.ref b2), (.int (0 : Int32)), (.ref a1)]))
  refine own_go (fun zt zk => (XS.iloadN X2.here hx rfl (hb hby own_d6_21) rfl (XS.isub X2.here hx rfl (hb hby own_d6_22) rfl (XS.iloadN X2.here hx rfl (hb hby own_d6_23) rfl zk)))) ?_
  show own_Go p e below s _ _ _ (T2.setTop (mkF m 24 #[rv a1, iv (0 : Int32), iv (3 : Int32), iv (3 : Int32), rv b2] [(.int (3 : Int32)), (.int (4 : Int32)), (.int (0 : Int32)), (.ref b2), (.int (0 : Int32)), (.ref a1)]))
  obtain ⟨_, _, ⟨T4, L4, k4, n4⟩, -, X4, ⟨Lc4, hQ4, l4, y4, z4⟩, st4⟩ := Jvm.LawKit.callS X2 hx (y := (⟨"java/lang/Math", "min", "(II)I"⟩ : MethodName)) hown (mvT hZ (hw _ (List.mem_of_getElem? (i := 35) rfl))) (mvT hZ (hw _ (List.mem_of_getElem? (i := 36) rfl))) (mvT hZ (hw _ (List.mem_of_getElem? (i := 37) rfl))) (mvT hZ (hw _ (List.mem_of_getElem? (i := 38) rfl))) (by decide) (backOf (W := 4) (own_rmin l Z a0 hw [] (4 : Int32) (3 : Int32)  h2 n0 (Nat.le_trans Z0 Kp.1) ) hZ (hw _ (List.mem_of_getElem? (i := 38) rfl)) (hw _ (List.mem_of_getElem? (i := 37) rfl)) (by decide) (by decide)) (g := (mkF m 24 #[rv a1, iv (0 : Int32), iv (3 : Int32), iv (3 : Int32), rv b2] [(.int (3 : Int32)), (.int (4 : Int32)), (.int (0 : Int32)), (.ref b2), (.int (0 : Int32)), (.ref a1)])) rfl (by rw [hml]; rfl) (argsL := [(.int (4 : Int32)), (.int (3 : Int32))]) (rest := [(.int (0 : Int32)), (.ref b2), (.int (0 : Int32)), (.ref a1)]) (lenOf own_pd__II_I rfl) rfl (by show 2 * 0 + _ ≤ _; exact Nat.le_of_eq rfl) (hb hby own_d6_24) (fun _ _ => ⟨rfl, e2, (by decide : 1 + 0 ≤ _), (by decide : 3 + 0 ≤ _)⟩)
  dsimp only [Pt.U, Pt.locs, Pt.cells, Pt.slots] at X4 l4 y4 z4 st4 hQ4
  subst l4 y4 z4
  obtain ⟨rfl, Nq4, e4⟩ := hQ4
  have N4 := Fr.app N1 Nq4
  refine own_go st4 ?_
  show own_Go p e below s _ _ _ (T4.setTop (mkF m 27 #[rv a1, iv (0 : Int32), iv (3 : Int32), iv (3 : Int32), rv b2] [(.int (3 : Int32)), (.int (0 : Int32)), (.ref b2), (.int (0 : Int32)), (.ref a1)]))
  obtain ⟨T5, h5, L5, X5, e5, N5, K5, V5, st5⟩ := cpA X4 hx hZ hown (hw _ (List.mem_of_getElem? (i := 39) rfl)) (hw _ (List.mem_of_getElem? (i := 42) rfl)) (hw _ (List.mem_of_getElem? (i := 40) rfl)) (hw _ (List.mem_of_getElem? (i := 41) rfl)) e4 Va V_b2 (us := [v0, v1, v2]) (Or.inl ⟨rfl, rfl⟩) (by decide) (by decide) (by decide) (by decide) (by decide) rfl (by decide) N4 g_b2 (g := (mkF m 27 #[rv a1, iv (0 : Int32), iv (3 : Int32), iv (3 : Int32), rv b2] [(.int (3 : Int32)), (.int (0 : Int32)), (.ref b2), (.int (0 : Int32)), (.ref a1)])) rfl (by rw [hml]; rfl) rfl (hb hby own_d6_27) (by decide) (W := 0) (by show 2 * 0 + _ ≤ _; exact Nat.le_of_eq rfl) (by decide)
  refine own_go st5 ?_
  replace Va := Va.keep K5 (ninS ne_a1_b2 nin0)
  replace Kp := Kp.trans K5 (allS (Or.inr sz_b2) all0)
  replace Ea_b2 := Ea_b2.keep K5
  replace V_b2 : Arv Z h5 b2 k2 .byte (3 : Int32) [v0, v1, v2] (.int (0 : Int32)) := V5
  show own_Go p e below s _ _ _ (T5.setTop (mkF m 30 #[rv a1, iv (0 : Int32), iv (3 : Int32), iv (3 : Int32), rv b2] []))
  refine own_go (fun zt zk => (XS.aload X5.here hx rfl (hb hby own_d6_30) rfl rfl zk)) ?_
  show own_Go p e below s _ _ _ (T5.setTop (mkF m 32 #[rv a1, iv (0 : Int32), iv (3 : Int32), iv (3 : Int32), rv b2] [(.ref b2)]))
  exact own_fin X5 Bd.notSynchronized (fun h => by rw [Bd.returns] at h; cases h) (fun fs hr => retOut X5 hx (t := (.array .byte)) (w := (.ref b2)) Bd.returns rfl (Or.inr (Or.inr (Or.inr (Or.inr ⟨rfl, rfl, rfl⟩)))) (hb hby own_d6_32) hr) (by rw [e5]; exact ⟨_, _, rfl, N5, Kp, sz_b2, Ea_b2, V_b2⟩) (by decide) (by decide)
theorem own_ef_own_rcr03 (m : MethodId) (a1 : Addr) : entryFrame m #[(.ref a1), (.int (0 : Int32)), (.int (3 : Int32))] 3 = mkF m 0 #[rv a1, iv (0 : Int32), iv (3 : Int32)] [] := by first | (simp [entryFrame, mkF, argsToLocals, Value.category]; done) | rfl
def own_Q_own_rcr03 (Z : State) (a1 : Addr) (k1 : ClassId) (v0 v1 v2 v3 : Value) (h0 : Heap) (n0 : Nat) (v : Option Value) (h : Heap) (L : List Loc) : Prop := ∃ b k, v = some (.ref b) ∧ Fr n0 L ∧ Keep h0 h [] ∧ h0.size ≤ b ∧ Exa Z h b "[B" ∧ Arv Z h b k .byte (3 : Int32) [v0, v1, v2] (.int (0 : Int32))
set_option maxRecDepth 65536 in
set_option maxHeartbeats 40000000 in
theorem own_rcr03 (l : Launch) (Z : State) (a0 : Array Value) (hw : ∀ d ∈ tables_1, d.before a0 Z = true) (ws : List Jvm.Cond) (a1 : Addr) (k1 : ClassId) (v0 v1 v2 v3 : Value) (h0 : Heap) (n0 : Nat) (Z0 : n0 ≤ h0.size) (Va : Arv Z h0 a1 k1 .byte (4 : Int32) [v0, v1, v2, v3] (.int (0 : Int32))) (Ea : Exa Z h0 a1 "[B")  :
    MetFree l (⟨"java/util/Arrays", "copyOfRange", "([BII)[B"⟩ : MethodName) (head1 (Jvm.Cond.code (⟨"java/util/Arrays", "copyOfRange", "([BII)[B"⟩ : MethodName) jdk_65_method_132_code 3 (some (.array .byte)) :: ws) ({ frames := 2, cells := 1, slots := 3, locals := 48 } : Room)) (fun a U => a = #[(.ref a1), (.int (0 : Int32)), (.int (3 : Int32))] ∧ Z.Warmed39 U.vm ∧ U.heap = h0) (fun _ _ _ _ _ => True) (fun _ U o U' => ∃ v L, o = .returned v ∧ own_Q_own_rcr03 Z a1 k1 v0 v1 v2 v3 h0 n0 v U'.heap L ∧ FrameEnd U o U' L ({ frames := 2, cells := 1, slots := 3, locals := 48 } : Room).cells ({ frames := 2, cells := 1, slots := 3, locals := 48 } : Room).slots) := by
  refine MetFree.of_bodySF (plainFor_of_name own_pn_java_util_Arrays) hisR ?_
  intro p e s m args below meth c s₁ Bd hml0 hP hK
  obtain ⟨rfl, hZ, hh⟩ := hP
  have hx := Bd.exec
  have hby := Bd.bytes
  have hml : c.maxLocals = 3 := hml0
  have hown : s.vm.findClass "java/util/Arrays" = some m.cls := findClass_of_methodNamed Bd.named
  have hnm := (name_of_methodNamed Bd.named Bd.method).1
  have X0 : Stand p l e ({ frames := 2, cells := 1, slots := 3, locals := 48 } : Room) s m #[(.ref a1), (.int (0 : Int32)), (.int (3 : Int32))] below meth c s₁ [] 0 0 := Stand.of_body Bd
  have e0 : s₁.heap = h0 := by rw [← hh, Bd.state]; rfl
  have N0 := Fr.nil n0
  have Kp : Keep h0 h0 [] := Keep.refl h0 _
  show own_Go p e below s (own_Q_own_rcr03 Z a1 k1 v0 v1 v2 v3 h0 n0) ({ frames := 2, cells := 1, slots := 3, locals := 48 } : Room).cells ({ frames := 2, cells := 1, slots := 3, locals := 48 } : Room).slots (s₁.setTop (entryFrame m #[(.ref a1), (.int (0 : Int32)), (.int (3 : Int32))] 3))
  refine own_go (fun zt zk => castTop (own_ef_own_rcr03 m a1) zk) ?_
  show own_Go p e below s _ _ _ (s₁.setTop (mkF m 0 #[rv a1, iv (0 : Int32), iv (3 : Int32)] []))
  refine own_go (fun zt zk => (XS.iloadN X0.here hx rfl (hb hby own_d5_0) rfl (XS.ifNo X0.here hx rfl (hb hby own_d5_1) rfl ((if0 _ _).trans (teq (rfl : (0 : Int32) = (0 : Int32))).2) (XS.iloadN X0.here hx rfl (hb hby own_d5_4) rfl (XS.aloadN X0.here hx rfl (hb hby own_d5_5) rfl rfl zk))))) ?_
  show own_Go p e below s _ _ _ (s₁.setTop (mkF m 6 #[rv a1, iv (0 : Int32), iv (3 : Int32)] [(.ref a1), (.int (3 : Int32))]))
  obtain ⟨cl1, Ar1, -, Sz1, Nz1, -, -⟩ := id Va
  refine own_go (X0.arraylength hx (by rw [e0]; exact Ar1.1) (State.isArrayOf_alike hZ.alike Ar1.2.1) (g := (mkF m 6 #[rv a1, iv (0 : Int32), iv (3 : Int32)] [(.ref a1), (.int (3 : Int32))])) rfl rfl (hb hby own_d5_6)) ?_
  rw [len_of Sz1 Nz1]
  show own_Go p e below s _ _ _ (s₁.setTop (mkF m 7 #[rv a1, iv (0 : Int32), iv (3 : Int32)] [(.int (4 : Int32)), (.int (3 : Int32))]))
  refine own_go (fun zt zk => (XS.icmpNo X0.here hx rfl (hb hby own_d5_7) rfl (feq ((by decide) : ¬ ((3 : Int32) = (4 : Int32)))).1 (XS.aloadN X0.here hx rfl (hb hby own_d5_10) rfl rfl (XS.iloadN X0.here hx rfl (hb hby own_d5_11) rfl (XS.iloadN X0.here hx rfl (hb hby own_d5_12) rfl zk))))) ?_
  show own_Go p e below s _ _ _ (s₁.setTop (mkF m 13 #[rv a1, iv (0 : Int32), iv (3 : Int32)] [(.int (3 : Int32)), (.int (0 : Int32)), (.ref a1)]))
  obtain ⟨_, _, ⟨T2, L2, k2, n2⟩, -, X2, ⟨Lc2, hQ2, l2, y2, z2⟩, st2⟩ := Jvm.LawKit.callS X0 hx (y := (⟨"java/util/Arrays", "copyOfRangeByte", "([BII)[B"⟩ : MethodName)) hown (mvT hZ (hw _ (List.mem_of_getElem? (i := 29) rfl))) (mvT hZ (hw _ (List.mem_of_getElem? (i := 30) rfl))) (mvT hZ (hw _ (List.mem_of_getElem? (i := 27) rfl))) (mvT hZ (hw _ (List.mem_of_getElem? (i := 31) rfl))) (by decide) (backOf (W := 0) (own_rcrb03 l Z a0 hw [] a1 k1 v0 v1 v2 v3 h0 n0 Z0 Va) hZ (hw _ (List.mem_of_getElem? (i := 31) rfl)) (hw _ (List.mem_of_getElem? (i := 27) rfl)) (by decide) (by decide)) (g := (mkF m 13 #[rv a1, iv (0 : Int32), iv (3 : Int32)] [(.int (3 : Int32)), (.int (0 : Int32)), (.ref a1)])) rfl (by rw [hml]; rfl) (argsL := [(.ref a1), (.int (0 : Int32)), (.int (3 : Int32))]) (rest := []) (lenOf own_pd___BII__B rfl) rfl (by show 2 * 0 + _ ≤ _; exact Nat.le_of_eq rfl) (hb hby own_d5_13) (fun _ _ => ⟨rfl, e0, (by decide : 0 + 1 ≤ _), (by decide : 0 + 3 ≤ _)⟩)
  dsimp only [Pt.U, Pt.locs, Pt.cells, Pt.slots] at X2 l2 y2 z2 st2 hQ2
  subst l2 y2 z2
  obtain ⟨b2, k2', rfl, Nq2, K2, sz_b2, Ea_b2, V_b2⟩ := hQ2
  have N2 := Fr.app N0 Nq2
  refine own_go st2 ?_
  replace Va := Va.keep K2 nin0
  replace Ea := Ea.keep K2
  replace Kp := Kp.trans K2 all0
  show own_Go p e below s _ _ _ (T2.setTop (mkF m 16 #[rv a1, iv (0 : Int32), iv (3 : Int32)] [(.ref b2)]))
  exact own_fin X2 Bd.notSynchronized (fun h => by rw [Bd.returns] at h; cases h) (fun fs hr => retOut X2 hx (t := (.array .byte)) (w := (.ref b2)) Bd.returns rfl (Or.inr (Or.inr (Or.inr (Or.inr ⟨rfl, rfl, rfl⟩)))) (hb hby own_d5_16) hr) ⟨_, _, rfl, N2, Kp, sz_b2, Ea_b2, V_b2⟩ (by decide) (by decide)
theorem own_ef_own_rbi03 (m : MethodId) (a0' : Addr) (a1 : Addr) : entryFrame m #[(.ref a0'), (.ref a1)] 2 = mkF m 0 #[rv a0', rv a1] [] := by first | (simp [entryFrame, mkF, argsToLocals, Value.category]; done) | rfl
def own_Q_own_rbi03 (Z : State) (a0' : Addr) (a1 : Addr) (k1 : ClassId) (v0 v1 v2 v3 : Value) (h0 : Heap) (n0 : Nat) (v : Option Value) (h : Heap) (L : List Loc) : Prop := ∃ b k, v = some (.ref b) ∧ Fr n0 L ∧ Keep h0 h [] ∧ h0.size ≤ b ∧ Exa Z h b "[B" ∧ Arv Z h b k .byte (3 : Int32) [v0, v1, v2] (.int (0 : Int32))
set_option maxRecDepth 65536 in
set_option maxHeartbeats 40000000 in
theorem own_rbi03 (l : Launch) (Z : State) (a0 : Array Value) (hw : ∀ d ∈ tables_1, d.before a0 Z = true) (ws : List Jvm.Cond) (a0' : Addr) (a1 : Addr) (k1 : ClassId) (v0 v1 v2 v3 : Value) (h0 : Heap) (n0 : Nat) (Z0 : n0 ≤ h0.size) (Va : Arv Z h0 a1 k1 .byte (4 : Int32) [v0, v1, v2, v3] (.int (0 : Int32))) (Ea : Exa Z h0 a1 "[B") (Fs : Fld Z h0 a0' "com/example/tranche/tranche/model/Span" "start" "I" (.int (0 : Int32))) (Fe : Fld Z h0 a0' "com/example/tranche/tranche/model/Span" "end" "I" (.int (3 : Int32)))  :
    MetFree l (⟨"com/example/tranche/tranche/model/Span", "bytesIn", "([B)[B"⟩ : MethodName) (head1 (Jvm.Cond.code (⟨"com/example/tranche/tranche/model/Span", "bytesIn", "([B)[B"⟩ : MethodName) prog_34_method_2_code 2 (some (.array .byte)) :: ws) ({ frames := 3, cells := 1, slots := 3, locals := 62 } : Room)) (fun a U => a = #[(.ref a0'), (.ref a1)] ∧ Z.Warmed39 U.vm ∧ U.heap = h0) (fun _ _ _ _ _ => True) (fun _ U o U' => ∃ v L, o = .returned v ∧ own_Q_own_rbi03 Z a0' a1 k1 v0 v1 v2 v3 h0 n0 v U'.heap L ∧ FrameEnd U o U' L ({ frames := 3, cells := 1, slots := 3, locals := 62 } : Room).cells ({ frames := 3, cells := 1, slots := 3, locals := 62 } : Room).slots) := by
  refine MetFree.of_bodySF (plainFor_of_name own_pn_com_example_tranche_tranche_model_Span) hisR ?_
  intro p e s m args below meth c s₁ Bd hml0 hP hK
  obtain ⟨rfl, hZ, hh⟩ := hP
  have hx := Bd.exec
  have hby := Bd.bytes
  have hml : c.maxLocals = 2 := hml0
  have hown : s.vm.findClass "com/example/tranche/tranche/model/Span" = some m.cls := findClass_of_methodNamed Bd.named
  have hnm := (name_of_methodNamed Bd.named Bd.method).1
  have X0 : Stand p l e ({ frames := 3, cells := 1, slots := 3, locals := 62 } : Room) s m #[(.ref a0'), (.ref a1)] below meth c s₁ [] 0 0 := Stand.of_body Bd
  have e0 : s₁.heap = h0 := by rw [← hh, Bd.state]; rfl
  have N0 := Fr.nil n0
  have Kp : Keep h0 h0 [] := Keep.refl h0 _
  show own_Go p e below s (own_Q_own_rbi03 Z a0' a1 k1 v0 v1 v2 v3 h0 n0) ({ frames := 3, cells := 1, slots := 3, locals := 62 } : Room).cells ({ frames := 3, cells := 1, slots := 3, locals := 62 } : Room).slots (s₁.setTop (entryFrame m #[(.ref a0'), (.ref a1)] 2))
  refine own_go (fun zt zk => castTop (own_ef_own_rbi03 m a0' a1) zk) ?_
  show own_Go p e below s _ _ _ (s₁.setTop (mkF m 0 #[rv a0', rv a1] []))
  refine own_go (fun zt zk => (XS.aloadN X0.here hx rfl (hb hby own_d4_0) rfl rfl zk)) ?_
  show own_Go p e below s _ _ _ (s₁.setTop (mkF m 1 #[rv a0', rv a1] [(.ref a0')]))
  obtain ⟨T1, X1, e1, st1⟩ := getF X0 hx hZ hown (host := "") (Or.inl (hw _ (List.mem_of_getElem? (i := 18) rfl))) Via.refl e0 Fe (g := (mkF m 1 #[rv a0', rv a1] [(.ref a0')])) rfl rfl (hb hby own_d4_1)
  refine own_go st1 ?_
  show own_Go p e below s _ _ _ (T1.setTop (mkF m 4 #[rv a0', rv a1] [(.int (3 : Int32))]))
  refine own_go (fun zt zk => (XS.aloadN X1.here hx rfl (hb hby own_d4_4) rfl rfl zk)) ?_
  show own_Go p e below s _ _ _ (T1.setTop (mkF m 5 #[rv a0', rv a1] [(.ref a1), (.int (3 : Int32))]))
  obtain ⟨cl2, Ar2, -, Sz2, Nz2, -, -⟩ := id Va
  refine own_go (X1.arraylength hx (by rw [e1]; exact Ar2.1) (State.isArrayOf_alike hZ.alike Ar2.2.1) (g := (mkF m 5 #[rv a0', rv a1] [(.ref a1), (.int (3 : Int32))])) rfl rfl (hb hby own_d4_5)) ?_
  rw [len_of Sz2 Nz2]
  show own_Go p e below s _ _ _ (T1.setTop (mkF m 6 #[rv a0', rv a1] [(.int (4 : Int32)), (.int (3 : Int32))]))
  refine own_go (fun zt zk => (XS.icmpYes X1.here hx rfl (pc0 := 6) (pc' := 32) rfl (hb hby own_d4_6) rfl (flt ((by decide) : ¬ ((4 : Int32) < (3 : Int32)))).2.2.2 (by decide) (by decide) (XS.aloadN X1.here hx rfl (hb hby own_d4_32) rfl rfl (XS.aloadN X1.here hx rfl (hb hby own_d4_33) rfl rfl zk)))) ?_
  show own_Go p e below s _ _ _ (T1.setTop (mkF m 34 #[rv a0', rv a1] [(.ref a0'), (.ref a1)]))
  obtain ⟨T3, X3, e3, st3⟩ := getF X1 hx hZ hown (host := "") (Or.inl (hw _ (List.mem_of_getElem? (i := 16) rfl))) Via.refl e1 Fs (g := (mkF m 34 #[rv a0', rv a1] [(.ref a0'), (.ref a1)])) rfl rfl (hb hby own_d4_34)
  refine own_go st3 ?_
  show own_Go p e below s _ _ _ (T3.setTop (mkF m 37 #[rv a0', rv a1] [(.int (0 : Int32)), (.ref a1)]))
  refine own_go (fun zt zk => (XS.aloadN X3.here hx rfl (hb hby own_d4_37) rfl rfl zk)) ?_
  show own_Go p e below s _ _ _ (T3.setTop (mkF m 38 #[rv a0', rv a1] [(.ref a0'), (.int (0 : Int32)), (.ref a1)]))
  obtain ⟨T4, X4, e4, st4⟩ := getF X3 hx hZ hown (host := "") (Or.inl (hw _ (List.mem_of_getElem? (i := 18) rfl))) Via.refl e3 Fe (g := (mkF m 38 #[rv a0', rv a1] [(.ref a0'), (.int (0 : Int32)), (.ref a1)])) rfl rfl (hb hby own_d4_38)
  refine own_go st4 ?_
  show own_Go p e below s _ _ _ (T4.setTop (mkF m 41 #[rv a0', rv a1] [(.int (3 : Int32)), (.int (0 : Int32)), (.ref a1)]))
  obtain ⟨_, _, ⟨T5, L5, k5, n5⟩, -, X5, ⟨Lc5, hQ5, l5, y5, z5⟩, st5⟩ := Jvm.LawKit.callS X4 hx (y := (⟨"java/util/Arrays", "copyOfRange", "([BII)[B"⟩ : MethodName)) hown (mvT hZ (hw _ (List.mem_of_getElem? (i := 25) rfl))) (mvT hZ (hw _ (List.mem_of_getElem? (i := 26) rfl))) (mvT hZ (hw _ (List.mem_of_getElem? (i := 27) rfl))) (mvT hZ (hw _ (List.mem_of_getElem? (i := 28) rfl))) (by decide) (backOf (W := 0) (own_rcr03 l Z a0 hw [] a1 k1 v0 v1 v2 v3 h0 n0 Z0 Va Ea) hZ (hw _ (List.mem_of_getElem? (i := 28) rfl)) (hw _ (List.mem_of_getElem? (i := 27) rfl)) (by decide) (by decide)) (g := (mkF m 41 #[rv a0', rv a1] [(.int (3 : Int32)), (.int (0 : Int32)), (.ref a1)])) rfl (by rw [hml]; rfl) (argsL := [(.ref a1), (.int (0 : Int32)), (.int (3 : Int32))]) (rest := []) (lenOf own_pd___BII__B rfl) rfl (by show 2 * 0 + _ ≤ _; exact Nat.le_of_eq rfl) (hb hby own_d4_41) (fun _ _ => ⟨rfl, e4, (by decide : 0 + 1 ≤ _), (by decide : 0 + 3 ≤ _)⟩)
  dsimp only [Pt.U, Pt.locs, Pt.cells, Pt.slots] at X5 l5 y5 z5 st5 hQ5
  subst l5 y5 z5
  obtain ⟨b5, k5', rfl, Nq5, K5, sz_b5, Ea_b5, V_b5⟩ := hQ5
  have N5 := Fr.app N0 Nq5
  refine own_go st5 ?_
  replace Va := Va.keep K5 nin0
  replace Ea := Ea.keep K5
  replace Fs := Fs.keep K5 nin0
  replace Fe := Fe.keep K5 nin0
  replace Kp := Kp.trans K5 all0
  show own_Go p e below s _ _ _ (T5.setTop (mkF m 44 #[rv a0', rv a1] [(.ref b5)]))
  exact own_fin X5 Bd.notSynchronized (fun h => by rw [Bd.returns] at h; cases h) (fun fs hr => retOut X5 hx (t := (.array .byte)) (w := (.ref b5)) Bd.returns rfl (Or.inr (Or.inr (Or.inr (Or.inr ⟨rfl, rfl, rfl⟩)))) (hb hby own_d4_44) hr) ⟨_, _, rfl, N5, Kp, sz_b5, Ea_b5, V_b5⟩ (by decide) (by decide)
theorem own_d5_17 : decode jdk_65_method_132_code 17 = .ok (.aload_n 0, 1) := by decide +kernel
theorem own_d5_18 : decode jdk_65_method_132_code 18 = .ok (.invokevirtual 310, 3) := by decide +kernel
theorem own_d5_21 : decode jdk_65_method_132_code 21 = .ok (.checkcast 311, 3) := by decide +kernel
theorem own_d5_24 : decode jdk_65_method_132_code 24 = .ok (.areturn, 1) := by decide +kernel
theorem own_ef_own_rcr04 (m : MethodId) (a1 : Addr) : entryFrame m #[(.ref a1), (.int (0 : Int32)), (.int (4 : Int32))] 3 = mkF m 0 #[rv a1, iv (0 : Int32), iv (4 : Int32)] [] := by first | (simp [entryFrame, mkF, argsToLocals, Value.category]; done) | rfl
def own_Q_own_rcr04 (Z : State) (a1 : Addr) (k1 : ClassId) (v0 v1 v2 v3 : Value) (h0 : Heap) (n0 : Nat) (v : Option Value) (h : Heap) (L : List Loc) : Prop := ∃ b k, v = some (.ref b) ∧ Fr n0 L ∧ Keep h0 h [] ∧ h0.size ≤ b ∧ Exa Z h b "[B" ∧ Arv Z h b k .byte (4 : Int32) [v0, v1, v2, v3] (.int (0 : Int32))
set_option maxRecDepth 65536 in
set_option maxHeartbeats 40000000 in
theorem own_rcr04 (l : Launch) (Z : State) (a0 : Array Value) (hw : ∀ d ∈ tables_1, d.before a0 Z = true) (ws : List Jvm.Cond) (a1 : Addr) (k1 : ClassId) (v0 v1 v2 v3 : Value) (h0 : Heap) (n0 : Nat) (Z0 : n0 ≤ h0.size) (Va : Arv Z h0 a1 k1 .byte (4 : Int32) [v0, v1, v2, v3] (.int (0 : Int32))) (Ea : Exa Z h0 a1 "[B")  :
    MetFree l (⟨"java/util/Arrays", "copyOfRange", "([BII)[B"⟩ : MethodName) (head1 (Jvm.Cond.code (⟨"java/util/Arrays", "copyOfRange", "([BII)[B"⟩ : MethodName) jdk_65_method_132_code 3 (some (.array .byte)) :: ws) ({ frames := 1, cells := 1, slots := 4, locals := 14 } : Room)) (fun a U => a = #[(.ref a1), (.int (0 : Int32)), (.int (4 : Int32))] ∧ Z.Warmed39 U.vm ∧ U.heap = h0) (fun _ _ _ _ _ => True) (fun _ U o U' => ∃ v L, o = .returned v ∧ own_Q_own_rcr04 Z a1 k1 v0 v1 v2 v3 h0 n0 v U'.heap L ∧ FrameEnd U o U' L ({ frames := 1, cells := 1, slots := 4, locals := 14 } : Room).cells ({ frames := 1, cells := 1, slots := 4, locals := 14 } : Room).slots) := by
  refine MetFree.of_bodySF (plainFor_of_name own_pn_java_util_Arrays) hisR ?_
  intro p e s m args below meth c s₁ Bd hml0 hP hK
  obtain ⟨rfl, hZ, hh⟩ := hP
  have hx := Bd.exec
  have hby := Bd.bytes
  have hml : c.maxLocals = 3 := hml0
  have hown : s.vm.findClass "java/util/Arrays" = some m.cls := findClass_of_methodNamed Bd.named
  have hnm := (name_of_methodNamed Bd.named Bd.method).1
  have X0 : Stand p l e ({ frames := 1, cells := 1, slots := 4, locals := 14 } : Room) s m #[(.ref a1), (.int (0 : Int32)), (.int (4 : Int32))] below meth c s₁ [] 0 0 := Stand.of_body Bd
  have e0 : s₁.heap = h0 := by rw [← hh, Bd.state]; rfl
  have N0 := Fr.nil n0
  have Kp : Keep h0 h0 [] := Keep.refl h0 _
  show own_Go p e below s (own_Q_own_rcr04 Z a1 k1 v0 v1 v2 v3 h0 n0) ({ frames := 1, cells := 1, slots := 4, locals := 14 } : Room).cells ({ frames := 1, cells := 1, slots := 4, locals := 14 } : Room).slots (s₁.setTop (entryFrame m #[(.ref a1), (.int (0 : Int32)), (.int (4 : Int32))] 3))
  refine own_go (fun zt zk => castTop (own_ef_own_rcr04 m a1) zk) ?_
  show own_Go p e below s _ _ _ (s₁.setTop (mkF m 0 #[rv a1, iv (0 : Int32), iv (4 : Int32)] []))
  refine own_go (fun zt zk => (XS.iloadN X0.here hx rfl (hb hby own_d5_0) rfl (XS.ifNo X0.here hx rfl (hb hby own_d5_1) rfl ((if0 _ _).trans (teq (rfl : (0 : Int32) = (0 : Int32))).2) (XS.iloadN X0.here hx rfl (hb hby own_d5_4) rfl (XS.aloadN X0.here hx rfl (hb hby own_d5_5) rfl rfl zk))))) ?_
  show own_Go p e below s _ _ _ (s₁.setTop (mkF m 6 #[rv a1, iv (0 : Int32), iv (4 : Int32)] [(.ref a1), (.int (4 : Int32))]))
  obtain ⟨cl1, Ar1, -, Sz1, Nz1, -, -⟩ := id Va
  refine own_go (X0.arraylength hx (by rw [e0]; exact Ar1.1) (State.isArrayOf_alike hZ.alike Ar1.2.1) (g := (mkF m 6 #[rv a1, iv (0 : Int32), iv (4 : Int32)] [(.ref a1), (.int (4 : Int32))])) rfl rfl (hb hby own_d5_6)) ?_
  rw [len_of Sz1 Nz1]
  show own_Go p e below s _ _ _ (s₁.setTop (mkF m 7 #[rv a1, iv (0 : Int32), iv (4 : Int32)] [(.int (4 : Int32)), (.int (4 : Int32))]))
  refine own_go (fun zt zk => (XS.icmpYes X0.here hx rfl (pc0 := 7) (pc' := 17) rfl (hb hby own_d5_7) rfl (teq (rfl : (4 : Int32) = (4 : Int32))).1 (by decide) (by decide) (XS.aloadN X0.here hx rfl (hb hby own_d5_17) rfl rfl zk))) ?_
  show own_Go p e below s _ _ _ (s₁.setTop (mkF m 18 #[rv a1, iv (0 : Int32), iv (4 : Int32)] [(.ref a1)]))
  obtain ⟨T2, h2, X2, e2, E2, A2, Ea2, st2⟩ := cloneH X0 hx hZ hown (hw _ (List.mem_of_getElem? (i := 47) rfl)) (hw _ (List.mem_of_getElem? (i := 48) rfl)) (hw _ (List.mem_of_getElem? (i := 52) rfl)) (hw _ (List.mem_of_getElem? (i := 50) rfl)) (hw _ (List.mem_of_getElem? (i := 51) rfl)) (hw _ (List.mem_of_getElem? (i := 53) rfl)) e0 (Arv.arh Va) Ea (g := (mkF m 18 #[rv a1, iv (0 : Int32), iv (4 : Int32)] [(.ref a1)])) rfl (by rw [hml]; rfl) rfl (hb hby own_d5_18) (by decide) (W := 0) (cap := 4) (by show 2 * 0 + _ ≤ _; exact Nat.le_of_eq rfl) (by decide) (by decide) (by decide) (by decide)
  obtain ⟨b2, g2⟩ : ∃ z, z = h0.size := ⟨_, rfl⟩
  rw [← g2] at A2 Ea2 st2
  refine own_go st2 ?_
  have ne_a1_b2 : a1 ≠ b2 := Nat.ne_of_lt (Nat.lt_of_lt_of_le Va.lt (Nat.le_of_eq g2.symm))
  have sz_b2 : h0.size ≤ b2 := Nat.le_trans Kp.1 (Nat.le_of_eq g2.symm)
  have g_b2 : n0 ≤ b2 := Nat.le_trans Z0 sz_b2
  replace Va := Va.ext E2
  replace Ea := Ea.ext E2
  replace Kp := Kp.ext E2
  have V_b2 : Arv Z h2 b2 k1 .byte (4 : Int32) [v0, v1, v2, v3] (.int (0 : Int32)) := A2
  have Ea_b2 := Ea2
  show own_Go p e below s _ _ _ (T2.setTop (mkF m 21 #[rv a1, iv (0 : Int32), iv (4 : Int32)] [(.ref b2)]))
  obtain ⟨T3, X3, e3, st3⟩ := castY X2 hx hZ hown (hw _ (List.mem_of_getElem? (i := 54) rfl)) e2 (Ins.self Ea_b2) (g := (mkF m 21 #[rv a1, iv (0 : Int32), iv (4 : Int32)] [(.ref b2)])) rfl rfl (hb hby own_d5_21)
  refine own_go st3 ?_
  show own_Go p e below s _ _ _ (T3.setTop (mkF m 24 #[rv a1, iv (0 : Int32), iv (4 : Int32)] [(.ref b2)]))
  exact own_fin X3 Bd.notSynchronized (fun h => by rw [Bd.returns] at h; cases h) (fun fs hr => retOut X3 hx (t := (.array .byte)) (w := (.ref b2)) Bd.returns rfl (Or.inr (Or.inr (Or.inr (Or.inr ⟨rfl, rfl, rfl⟩)))) (hb hby own_d5_24) hr) (by rw [e3]; exact ⟨_, _, rfl, N0, Kp, sz_b2, Ea_b2, V_b2⟩) (by decide) (by decide)
theorem own_ef_own_rbi04 (m : MethodId) (a0' : Addr) (a1 : Addr) : entryFrame m #[(.ref a0'), (.ref a1)] 2 = mkF m 0 #[rv a0', rv a1] [] := by first | (simp [entryFrame, mkF, argsToLocals, Value.category]; done) | rfl
def own_Q_own_rbi04 (Z : State) (a0' : Addr) (a1 : Addr) (k1 : ClassId) (v0 v1 v2 v3 : Value) (h0 : Heap) (n0 : Nat) (v : Option Value) (h : Heap) (L : List Loc) : Prop := ∃ b k, v = some (.ref b) ∧ Fr n0 L ∧ Keep h0 h [] ∧ h0.size ≤ b ∧ Exa Z h b "[B" ∧ Arv Z h b k .byte (4 : Int32) [v0, v1, v2, v3] (.int (0 : Int32))
set_option maxRecDepth 65536 in
set_option maxHeartbeats 40000000 in
theorem own_rbi04 (l : Launch) (Z : State) (a0 : Array Value) (hw : ∀ d ∈ tables_1, d.before a0 Z = true) (ws : List Jvm.Cond) (a0' : Addr) (a1 : Addr) (k1 : ClassId) (v0 v1 v2 v3 : Value) (h0 : Heap) (n0 : Nat) (Z0 : n0 ≤ h0.size) (Va : Arv Z h0 a1 k1 .byte (4 : Int32) [v0, v1, v2, v3] (.int (0 : Int32))) (Ea : Exa Z h0 a1 "[B") (Fs : Fld Z h0 a0' "com/example/tranche/tranche/model/Span" "start" "I" (.int (0 : Int32))) (Fe : Fld Z h0 a0' "com/example/tranche/tranche/model/Span" "end" "I" (.int (4 : Int32)))  :
    MetFree l (⟨"com/example/tranche/tranche/model/Span", "bytesIn", "([B)[B"⟩ : MethodName) (head1 (Jvm.Cond.code (⟨"com/example/tranche/tranche/model/Span", "bytesIn", "([B)[B"⟩ : MethodName) prog_34_method_2_code 2 (some (.array .byte)) :: ws) ({ frames := 2, cells := 1, slots := 4, locals := 28 } : Room)) (fun a U => a = #[(.ref a0'), (.ref a1)] ∧ Z.Warmed39 U.vm ∧ U.heap = h0) (fun _ _ _ _ _ => True) (fun _ U o U' => ∃ v L, o = .returned v ∧ own_Q_own_rbi04 Z a0' a1 k1 v0 v1 v2 v3 h0 n0 v U'.heap L ∧ FrameEnd U o U' L ({ frames := 2, cells := 1, slots := 4, locals := 28 } : Room).cells ({ frames := 2, cells := 1, slots := 4, locals := 28 } : Room).slots) := by
  refine MetFree.of_bodySF (plainFor_of_name own_pn_com_example_tranche_tranche_model_Span) hisR ?_
  intro p e s m args below meth c s₁ Bd hml0 hP hK
  obtain ⟨rfl, hZ, hh⟩ := hP
  have hx := Bd.exec
  have hby := Bd.bytes
  have hml : c.maxLocals = 2 := hml0
  have hown : s.vm.findClass "com/example/tranche/tranche/model/Span" = some m.cls := findClass_of_methodNamed Bd.named
  have hnm := (name_of_methodNamed Bd.named Bd.method).1
  have X0 : Stand p l e ({ frames := 2, cells := 1, slots := 4, locals := 28 } : Room) s m #[(.ref a0'), (.ref a1)] below meth c s₁ [] 0 0 := Stand.of_body Bd
  have e0 : s₁.heap = h0 := by rw [← hh, Bd.state]; rfl
  have N0 := Fr.nil n0
  have Kp : Keep h0 h0 [] := Keep.refl h0 _
  show own_Go p e below s (own_Q_own_rbi04 Z a0' a1 k1 v0 v1 v2 v3 h0 n0) ({ frames := 2, cells := 1, slots := 4, locals := 28 } : Room).cells ({ frames := 2, cells := 1, slots := 4, locals := 28 } : Room).slots (s₁.setTop (entryFrame m #[(.ref a0'), (.ref a1)] 2))
  refine own_go (fun zt zk => castTop (own_ef_own_rbi04 m a0' a1) zk) ?_
  show own_Go p e below s _ _ _ (s₁.setTop (mkF m 0 #[rv a0', rv a1] []))
  refine own_go (fun zt zk => (XS.aloadN X0.here hx rfl (hb hby own_d4_0) rfl rfl zk)) ?_
  show own_Go p e below s _ _ _ (s₁.setTop (mkF m 1 #[rv a0', rv a1] [(.ref a0')]))
  obtain ⟨T1, X1, e1, st1⟩ := getF X0 hx hZ hown (host := "") (Or.inl (hw _ (List.mem_of_getElem? (i := 18) rfl))) Via.refl e0 Fe (g := (mkF m 1 #[rv a0', rv a1] [(.ref a0')])) rfl rfl (hb hby own_d4_1)
  refine own_go st1 ?_
  show own_Go p e below s _ _ _ (T1.setTop (mkF m 4 #[rv a0', rv a1] [(.int (4 : Int32))]))
  refine own_go (fun zt zk => (XS.aloadN X1.here hx rfl (hb hby own_d4_4) rfl rfl zk)) ?_
  show own_Go p e below s _ _ _ (T1.setTop (mkF m 5 #[rv a0', rv a1] [(.ref a1), (.int (4 : Int32))]))
  obtain ⟨cl2, Ar2, -, Sz2, Nz2, -, -⟩ := id Va
  refine own_go (X1.arraylength hx (by rw [e1]; exact Ar2.1) (State.isArrayOf_alike hZ.alike Ar2.2.1) (g := (mkF m 5 #[rv a0', rv a1] [(.ref a1), (.int (4 : Int32))])) rfl rfl (hb hby own_d4_5)) ?_
  rw [len_of Sz2 Nz2]
  show own_Go p e below s _ _ _ (T1.setTop (mkF m 6 #[rv a0', rv a1] [(.int (4 : Int32)), (.int (4 : Int32))]))
  refine own_go (fun zt zk => (XS.icmpYes X1.here hx rfl (pc0 := 6) (pc' := 32) rfl (hb hby own_d4_6) rfl (flt ((own_irr _) : ¬ ((4 : Int32) < (4 : Int32)))).2.2.2 (by decide) (by decide) (XS.aloadN X1.here hx rfl (hb hby own_d4_32) rfl rfl (XS.aloadN X1.here hx rfl (hb hby own_d4_33) rfl rfl zk)))) ?_
  show own_Go p e below s _ _ _ (T1.setTop (mkF m 34 #[rv a0', rv a1] [(.ref a0'), (.ref a1)]))
  obtain ⟨T3, X3, e3, st3⟩ := getF X1 hx hZ hown (host := "") (Or.inl (hw _ (List.mem_of_getElem? (i := 16) rfl))) Via.refl e1 Fs (g := (mkF m 34 #[rv a0', rv a1] [(.ref a0'), (.ref a1)])) rfl rfl (hb hby own_d4_34)
  refine own_go st3 ?_
  show own_Go p e below s _ _ _ (T3.setTop (mkF m 37 #[rv a0', rv a1] [(.int (0 : Int32)), (.ref a1)]))
  refine own_go (fun zt zk => (XS.aloadN X3.here hx rfl (hb hby own_d4_37) rfl rfl zk)) ?_
  show own_Go p e below s _ _ _ (T3.setTop (mkF m 38 #[rv a0', rv a1] [(.ref a0'), (.int (0 : Int32)), (.ref a1)]))
  obtain ⟨T4, X4, e4, st4⟩ := getF X3 hx hZ hown (host := "") (Or.inl (hw _ (List.mem_of_getElem? (i := 18) rfl))) Via.refl e3 Fe (g := (mkF m 38 #[rv a0', rv a1] [(.ref a0'), (.int (0 : Int32)), (.ref a1)])) rfl rfl (hb hby own_d4_38)
  refine own_go st4 ?_
  show own_Go p e below s _ _ _ (T4.setTop (mkF m 41 #[rv a0', rv a1] [(.int (4 : Int32)), (.int (0 : Int32)), (.ref a1)]))
  obtain ⟨_, _, ⟨T5, L5, k5, n5⟩, -, X5, ⟨Lc5, hQ5, l5, y5, z5⟩, st5⟩ := Jvm.LawKit.callS X4 hx (y := (⟨"java/util/Arrays", "copyOfRange", "([BII)[B"⟩ : MethodName)) hown (mvT hZ (hw _ (List.mem_of_getElem? (i := 25) rfl))) (mvT hZ (hw _ (List.mem_of_getElem? (i := 26) rfl))) (mvT hZ (hw _ (List.mem_of_getElem? (i := 27) rfl))) (mvT hZ (hw _ (List.mem_of_getElem? (i := 28) rfl))) (by decide) (backOf (W := 0) (own_rcr04 l Z a0 hw [] a1 k1 v0 v1 v2 v3 h0 n0 Z0 Va Ea) hZ (hw _ (List.mem_of_getElem? (i := 28) rfl)) (hw _ (List.mem_of_getElem? (i := 27) rfl)) (by decide) (by decide)) (g := (mkF m 41 #[rv a0', rv a1] [(.int (4 : Int32)), (.int (0 : Int32)), (.ref a1)])) rfl (by rw [hml]; rfl) (argsL := [(.ref a1), (.int (0 : Int32)), (.int (4 : Int32))]) (rest := []) (lenOf own_pd___BII__B rfl) rfl (by show 2 * 0 + _ ≤ _; exact Nat.le_of_eq rfl) (hb hby own_d4_41) (fun _ _ => ⟨rfl, e4, (by decide : 0 + 1 ≤ _), (by decide : 0 + 4 ≤ _)⟩)
  dsimp only [Pt.U, Pt.locs, Pt.cells, Pt.slots] at X5 l5 y5 z5 st5 hQ5
  subst l5 y5 z5
  obtain ⟨b5, k5', rfl, Nq5, K5, sz_b5, Ea_b5, V_b5⟩ := hQ5
  have N5 := Fr.app N0 Nq5
  refine own_go st5 ?_
  replace Va := Va.keep K5 nin0
  replace Ea := Ea.keep K5
  replace Fs := Fs.keep K5 nin0
  replace Fe := Fe.keep K5 nin0
  replace Kp := Kp.trans K5 all0
  show own_Go p e below s _ _ _ (T5.setTop (mkF m 44 #[rv a0', rv a1] [(.ref b5)]))
  exact own_fin X5 Bd.notSynchronized (fun h => by rw [Bd.returns] at h; cases h) (fun fs hr => retOut X5 hx (t := (.array .byte)) (w := (.ref b5)) Bd.returns rfl (Or.inr (Or.inr (Or.inr (Or.inr ⟨rfl, rfl, rfl⟩)))) (hb hby own_d4_44) hr) ⟨_, _, rfl, N5, Kp, sz_b5, Ea_b5, V_b5⟩ (by decide) (by decide)
theorem own_ef_own_rcrb11 (m : MethodId) (a1 : Addr) : entryFrame m #[(.ref a1), (.int (1 : Int32)), (.int (1 : Int32))] 5 = mkF m 0 #[rv a1, iv (1 : Int32), iv (1 : Int32), .unset, .unset] [] := by first | (simp [entryFrame, mkF, argsToLocals, Value.category]; done) | rfl
def own_Q_own_rcrb11 (Z : State) (a1 : Addr) (k1 : ClassId) (v0 v1 v2 v3 : Value) (h0 : Heap) (n0 : Nat) (v : Option Value) (h : Heap) (L : List Loc) : Prop := ∃ b k, v = some (.ref b) ∧ Fr n0 L ∧ Keep h0 h [] ∧ h0.size ≤ b ∧ Exa Z h b "[B" ∧ Arv Z h b k .byte (0 : Int32) [] (.int (0 : Int32))
set_option maxRecDepth 65536 in
set_option maxHeartbeats 40000000 in
theorem own_rcrb11 (l : Launch) (Z : State) (a0 : Array Value) (hw : ∀ d ∈ tables_1, d.before a0 Z = true) (ws : List Jvm.Cond) (a1 : Addr) (k1 : ClassId) (v0 v1 v2 v3 : Value) (h0 : Heap) (n0 : Nat) (Z0 : n0 ≤ h0.size) (Va : Arv Z h0 a1 k1 .byte (4 : Int32) [v0, v1, v2, v3] (.int (0 : Int32)))  :
    MetFree l (⟨"java/util/Arrays", "copyOfRangeByte", "([BII)[B"⟩ : MethodName) (head1 (Jvm.Cond.code (⟨"java/util/Arrays", "copyOfRangeByte", "([BII)[B"⟩ : MethodName) jdk_65_method_133_code 5 (some (.array .byte)) :: ws) ({ frames := 1, cells := 1, slots := 0, locals := 32 } : Room)) (fun a U => a = #[(.ref a1), (.int (1 : Int32)), (.int (1 : Int32))] ∧ Z.Warmed39 U.vm ∧ U.heap = h0) (fun _ _ _ _ _ => True) (fun _ U o U' => ∃ v L, o = .returned v ∧ own_Q_own_rcrb11 Z a1 k1 v0 v1 v2 v3 h0 n0 v U'.heap L ∧ FrameEnd U o U' L ({ frames := 1, cells := 1, slots := 0, locals := 32 } : Room).cells ({ frames := 1, cells := 1, slots := 0, locals := 32 } : Room).slots) := by
  refine MetFree.of_bodySF (plainFor_of_name own_pn_java_util_Arrays) hisR ?_
  intro p e s m args below meth c s₁ Bd hml0 hP hK
  obtain ⟨rfl, hZ, hh⟩ := hP
  have hx := Bd.exec
  have hby := Bd.bytes
  have hml : c.maxLocals = 5 := hml0
  have hown : s.vm.findClass "java/util/Arrays" = some m.cls := findClass_of_methodNamed Bd.named
  have hnm := (name_of_methodNamed Bd.named Bd.method).1
  have X0 : Stand p l e ({ frames := 1, cells := 1, slots := 0, locals := 32 } : Room) s m #[(.ref a1), (.int (1 : Int32)), (.int (1 : Int32))] below meth c s₁ [] 0 0 := Stand.of_body Bd
  have e0 : s₁.heap = h0 := by rw [← hh, Bd.state]; rfl
  have N0 := Fr.nil n0
  have Kp : Keep h0 h0 [] := Keep.refl h0 _
  show own_Go p e below s (own_Q_own_rcrb11 Z a1 k1 v0 v1 v2 v3 h0 n0) ({ frames := 1, cells := 1, slots := 0, locals := 32 } : Room).cells ({ frames := 1, cells := 1, slots := 0, locals := 32 } : Room).slots (s₁.setTop (entryFrame m #[(.ref a1), (.int (1 : Int32)), (.int (1 : Int32))] 5))
  refine own_go (fun zt zk => castTop (own_ef_own_rcrb11 m a1) zk) ?_
  show own_Go p e below s _ _ _ (s₁.setTop (mkF m 0 #[rv a1, iv (1 : Int32), iv (1 : Int32), .unset, .unset] []))
  refine own_go (fun zt zk => (XS.iloadN X0.here hx rfl (hb hby own_d6_0) rfl (XS.iloadN X0.here hx rfl (hb hby own_d6_1) rfl zk))) ?_
  show own_Go p e below s _ _ _ (s₁.setTop (mkF m 2 #[rv a1, iv (1 : Int32), iv (1 : Int32), .unset, .unset] [(.int (1 : Int32)), (.int (1 : Int32))]))
  obtain ⟨_, _, ⟨T1, L1, k1, n1⟩, -, X1, ⟨Lc1, hQ1, l1, y1, z1⟩, st1⟩ := Jvm.LawKit.callS X0 hx (y := (⟨"java/util/Arrays", "checkLength", "(II)V"⟩ : MethodName)) hown (mvT hZ (hw _ (List.mem_of_getElem? (i := 32) rfl))) (mvT hZ (hw _ (List.mem_of_getElem? (i := 33) rfl))) (mvT hZ (hw _ (List.mem_of_getElem? (i := 27) rfl))) (mvT hZ (hw _ (List.mem_of_getElem? (i := 34) rfl))) (by decide) (backOf (W := 0) (own_rcl l Z a0 hw [] (1 : Int32) (1 : Int32)  h0 n0 Z0 (by decide)) hZ (hw _ (List.mem_of_getElem? (i := 34) rfl)) (hw _ (List.mem_of_getElem? (i := 27) rfl)) (by decide) (by decide)) (g := (mkF m 2 #[rv a1, iv (1 : Int32), iv (1 : Int32), .unset, .unset] [(.int (1 : Int32)), (.int (1 : Int32))])) rfl (by rw [hml]; rfl) (argsL := [(.int (1 : Int32)), (.int (1 : Int32))]) (rest := []) (lenOf own_pd__II_V rfl) rfl (by show 2 * 0 + _ ≤ _; exact Nat.le_of_eq rfl) (hb hby own_d6_2) (fun _ _ => ⟨rfl, e0, (by decide : 0 + 0 ≤ _), (by decide : 0 + 0 ≤ _)⟩)
  dsimp only [Pt.U, Pt.locs, Pt.cells, Pt.slots] at X1 l1 y1 z1 st1 hQ1
  subst l1 y1 z1
  obtain ⟨rfl, Nq1, e1⟩ := hQ1
  have N1 := Fr.app N0 Nq1
  refine own_go st1 ?_
  show own_Go p e below s _ _ _ (T1.setTop (mkF m 5 #[rv a1, iv (1 : Int32), iv (1 : Int32), .unset, .unset] []))
  refine own_go (fun zt zk => (XS.iloadN X1.here hx rfl (hb hby own_d6_5) rfl (XS.iloadN X1.here hx rfl (hb hby own_d6_6) rfl (XS.isub X1.here hx rfl (hb hby own_d6_7) rfl (XS.istoreN X1.here hx rfl (hb hby own_d6_8) rfl (l' := #[rv a1, iv (1 : Int32), iv (1 : Int32), iv (0 : Int32), .unset]) rfl (XS.iloadN X1.here hx rfl (hb hby own_d6_9) rfl zk)))))) ?_
  show own_Go p e below s _ _ _ (T1.setTop (mkF m 10 #[rv a1, iv (1 : Int32), iv (1 : Int32), iv (0 : Int32), .unset] [(.int (0 : Int32))]))
  obtain ⟨T2, h2, k2, X2, e2, E2, A2, Ea2, st2⟩ := newPE X1 hx hZ (hw _ (List.mem_of_getElem? (i := 0) rfl)) e1 (g := (mkF m 10 #[rv a1, iv (1 : Int32), iv (1 : Int32), iv (0 : Int32), .unset] [(.int (0 : Int32))])) rfl (hb hby own_d6_10) rfl (by decide) (cap := 0) (by decide) (by decide) (by decide) (by decide) (ad := "[B") (by decide)
  obtain ⟨b2, g2⟩ : ∃ z, z = h0.size := ⟨_, rfl⟩
  rw [← g2] at A2 Ea2 st2
  refine own_go st2 ?_
  have ne_a1_b2 : a1 ≠ b2 := Nat.ne_of_lt (Nat.lt_of_lt_of_le Va.lt (Nat.le_of_eq g2.symm))
  have sz_b2 : h0.size ≤ b2 := Nat.le_trans Kp.1 (Nat.le_of_eq g2.symm)
  have g_b2 : n0 ≤ b2 := Nat.le_trans Z0 sz_b2
  replace Va := Va.ext E2
  replace Kp := Kp.ext E2
  have V_b2 : Arv Z h2 b2 k2 .byte (0 : Int32) [] (.int (0 : Int32)) := (Arv.new A2 (by decide)).pad (pad_rep [] (.int (0 : Int32)) 0)
  have Ea_b2 := Ea2
  show own_Go p e below s _ _ _ (T2.setTop (mkF m 12 #[rv a1, iv (1 : Int32), iv (1 : Int32), iv (0 : Int32), .unset] [(.ref b2)]))
  refine own_go (fun zt zk => (XS.astore X2.here hx rfl (hb hby own_d6_12) rfl rfl (l' := #[rv a1, iv (1 : Int32), iv (1 : Int32), iv (0 : Int32), rv b2]) rfl (XS.aloadN X2.here hx rfl (hb hby own_d6_14) rfl rfl (XS.iloadN X2.here hx rfl (hb hby own_d6_15) rfl (XS.aload X2.here hx rfl (hb hby own_d6_16) rfl rfl (XS.iconst X2.here hx rfl (hb hby own_d6_18) (XS.aloadN X2.here hx rfl (hb hby own_d6_19) rfl rfl zk))))))) ?_
  show own_Go p e below s _ _ _ (T2.setTop (mkF m 20 #[rv a1, iv (1 : Int32), iv (1 : Int32), iv (0 : Int32), rv b2] [(.ref a1), (.int (0 : Int32)), (.ref b2), (.int (1 : Int32)), (.ref a1)]))
  obtain ⟨cl3, Ar3, -, Sz3, Nz3, -, -⟩ := id Va
  refine own_go (X2.arraylength hx (by rw [e2]; exact Ar3.1) (State.isArrayOf_alike hZ.alike Ar3.2.1) (g := (mkF m 20 #[rv a1, iv (1 : Int32), iv (1 : Int32), iv (0 : Int32), rv b2] [(.ref a1), (.int (0 : Int32)), (.ref b2), (.int (1 : Int32)), (.ref a1)])) rfl rfl (hb hby own_d6_20)) ?_
  rw [len_of Sz3 Nz3]
  show own_Go p e below s _ _ _ (T2.setTop (mkF m 21 #[rv a1, iv (1 : Int32), iv (1 : Int32), iv (0 : Int32), rv b2] [(.int (4 : Int32)), (.int (0 : Int32)), (.ref b2), (.int (1 : Int32)), (.ref a1)]))
  refine own_go (fun zt zk => (XS.iloadN X2.here hx rfl (hb hby own_d6_21) rfl (XS.isub X2.here hx rfl (hb hby own_d6_22) rfl (XS.iloadN X2.here hx rfl (hb hby own_d6_23) rfl zk)))) ?_
  show own_Go p e below s _ _ _ (T2.setTop (mkF m 24 #[rv a1, iv (1 : Int32), iv (1 : Int32), iv (0 : Int32), rv b2] [(.int (0 : Int32)), (.int (3 : Int32)), (.int (0 : Int32)), (.ref b2), (.int (1 : Int32)), (.ref a1)]))
  obtain ⟨_, _, ⟨T4, L4, k4, n4⟩, -, X4, ⟨Lc4, hQ4, l4, y4, z4⟩, st4⟩ := Jvm.LawKit.callS X2 hx (y := (⟨"java/lang/Math", "min", "(II)I"⟩ : MethodName)) hown (mvT hZ (hw _ (List.mem_of_getElem? (i := 35) rfl))) (mvT hZ (hw _ (List.mem_of_getElem? (i := 36) rfl))) (mvT hZ (hw _ (List.mem_of_getElem? (i := 37) rfl))) (mvT hZ (hw _ (List.mem_of_getElem? (i := 38) rfl))) (by decide) (backOf (W := 4) (own_rmin l Z a0 hw [] (3 : Int32) (0 : Int32)  h2 n0 (Nat.le_trans Z0 Kp.1) ) hZ (hw _ (List.mem_of_getElem? (i := 38) rfl)) (hw _ (List.mem_of_getElem? (i := 37) rfl)) (by decide) (by decide)) (g := (mkF m 24 #[rv a1, iv (1 : Int32), iv (1 : Int32), iv (0 : Int32), rv b2] [(.int (0 : Int32)), (.int (3 : Int32)), (.int (0 : Int32)), (.ref b2), (.int (1 : Int32)), (.ref a1)])) rfl (by rw [hml]; rfl) (argsL := [(.int (3 : Int32)), (.int (0 : Int32))]) (rest := [(.int (0 : Int32)), (.ref b2), (.int (1 : Int32)), (.ref a1)]) (lenOf own_pd__II_I rfl) rfl (by show 2 * 0 + _ ≤ _; exact Nat.le_of_eq rfl) (hb hby own_d6_24) (fun _ _ => ⟨rfl, e2, (by decide : 1 + 0 ≤ _), (by decide : 0 + 0 ≤ _)⟩)
  dsimp only [Pt.U, Pt.locs, Pt.cells, Pt.slots] at X4 l4 y4 z4 st4 hQ4
  subst l4 y4 z4
  obtain ⟨rfl, Nq4, e4⟩ := hQ4
  have N4 := Fr.app N1 Nq4
  refine own_go st4 ?_
  show own_Go p e below s _ _ _ (T4.setTop (mkF m 27 #[rv a1, iv (1 : Int32), iv (1 : Int32), iv (0 : Int32), rv b2] [(.int (0 : Int32)), (.int (0 : Int32)), (.ref b2), (.int (1 : Int32)), (.ref a1)]))
  obtain ⟨T5, h5, L5, X5, e5, N5, K5, V5, st5⟩ := cpA X4 hx hZ hown (hw _ (List.mem_of_getElem? (i := 39) rfl)) (hw _ (List.mem_of_getElem? (i := 42) rfl)) (hw _ (List.mem_of_getElem? (i := 40) rfl)) (hw _ (List.mem_of_getElem? (i := 41) rfl)) e4 Va V_b2 (us := []) (Or.inl ⟨rfl, rfl⟩) (by decide) (by decide) (by decide) (by decide) (by decide) rfl (by decide) N4 g_b2 (g := (mkF m 27 #[rv a1, iv (1 : Int32), iv (1 : Int32), iv (0 : Int32), rv b2] [(.int (0 : Int32)), (.int (0 : Int32)), (.ref b2), (.int (1 : Int32)), (.ref a1)])) rfl (by rw [hml]; rfl) rfl (hb hby own_d6_27) (by decide) (W := 0) (by show 2 * 0 + _ ≤ _; exact Nat.le_of_eq rfl) (by decide)
  refine own_go st5 ?_
  replace Va := Va.keep K5 (ninS ne_a1_b2 nin0)
  replace Kp := Kp.trans K5 (allS (Or.inr sz_b2) all0)
  replace Ea_b2 := Ea_b2.keep K5
  replace V_b2 : Arv Z h5 b2 k2 .byte (0 : Int32) [] (.int (0 : Int32)) := V5
  show own_Go p e below s _ _ _ (T5.setTop (mkF m 30 #[rv a1, iv (1 : Int32), iv (1 : Int32), iv (0 : Int32), rv b2] []))
  refine own_go (fun zt zk => (XS.aload X5.here hx rfl (hb hby own_d6_30) rfl rfl zk)) ?_
  show own_Go p e below s _ _ _ (T5.setTop (mkF m 32 #[rv a1, iv (1 : Int32), iv (1 : Int32), iv (0 : Int32), rv b2] [(.ref b2)]))
  exact own_fin X5 Bd.notSynchronized (fun h => by rw [Bd.returns] at h; cases h) (fun fs hr => retOut X5 hx (t := (.array .byte)) (w := (.ref b2)) Bd.returns rfl (Or.inr (Or.inr (Or.inr (Or.inr ⟨rfl, rfl, rfl⟩)))) (hb hby own_d6_32) hr) (by rw [e5]; exact ⟨_, _, rfl, N5, Kp, sz_b2, Ea_b2, V_b2⟩) (by decide) (by decide)
theorem own_ef_own_rcr11 (m : MethodId) (a1 : Addr) : entryFrame m #[(.ref a1), (.int (1 : Int32)), (.int (1 : Int32))] 3 = mkF m 0 #[rv a1, iv (1 : Int32), iv (1 : Int32)] [] := by first | (simp [entryFrame, mkF, argsToLocals, Value.category]; done) | rfl
def own_Q_own_rcr11 (Z : State) (a1 : Addr) (k1 : ClassId) (v0 v1 v2 v3 : Value) (h0 : Heap) (n0 : Nat) (v : Option Value) (h : Heap) (L : List Loc) : Prop := ∃ b k, v = some (.ref b) ∧ Fr n0 L ∧ Keep h0 h [] ∧ h0.size ≤ b ∧ Exa Z h b "[B" ∧ Arv Z h b k .byte (0 : Int32) [] (.int (0 : Int32))
set_option maxRecDepth 65536 in
set_option maxHeartbeats 40000000 in
theorem own_rcr11 (l : Launch) (Z : State) (a0 : Array Value) (hw : ∀ d ∈ tables_1, d.before a0 Z = true) (ws : List Jvm.Cond) (a1 : Addr) (k1 : ClassId) (v0 v1 v2 v3 : Value) (h0 : Heap) (n0 : Nat) (Z0 : n0 ≤ h0.size) (Va : Arv Z h0 a1 k1 .byte (4 : Int32) [v0, v1, v2, v3] (.int (0 : Int32))) (Ea : Exa Z h0 a1 "[B")  :
    MetFree l (⟨"java/util/Arrays", "copyOfRange", "([BII)[B"⟩ : MethodName) (head1 (Jvm.Cond.code (⟨"java/util/Arrays", "copyOfRange", "([BII)[B"⟩ : MethodName) jdk_65_method_132_code 3 (some (.array .byte)) :: ws) ({ frames := 2, cells := 1, slots := 0, locals := 48 } : Room)) (fun a U => a = #[(.ref a1), (.int (1 : Int32)), (.int (1 : Int32))] ∧ Z.Warmed39 U.vm ∧ U.heap = h0) (fun _ _ _ _ _ => True) (fun _ U o U' => ∃ v L, o = .returned v ∧ own_Q_own_rcr11 Z a1 k1 v0 v1 v2 v3 h0 n0 v U'.heap L ∧ FrameEnd U o U' L ({ frames := 2, cells := 1, slots := 0, locals := 48 } : Room).cells ({ frames := 2, cells := 1, slots := 0, locals := 48 } : Room).slots) := by
  refine MetFree.of_bodySF (plainFor_of_name own_pn_java_util_Arrays) hisR ?_
  intro p e s m args below meth c s₁ Bd hml0 hP hK
  obtain ⟨rfl, hZ, hh⟩ := hP
  have hx := Bd.exec
  have hby := Bd.bytes
  have hml : c.maxLocals = 3 := hml0
  have hown : s.vm.findClass "java/util/Arrays" = some m.cls := findClass_of_methodNamed Bd.named
  have hnm := (name_of_methodNamed Bd.named Bd.method).1
  have X0 : Stand p l e ({ frames := 2, cells := 1, slots := 0, locals := 48 } : Room) s m #[(.ref a1), (.int (1 : Int32)), (.int (1 : Int32))] below meth c s₁ [] 0 0 := Stand.of_body Bd
  have e0 : s₁.heap = h0 := by rw [← hh, Bd.state]; rfl
  have N0 := Fr.nil n0
  have Kp : Keep h0 h0 [] := Keep.refl h0 _
  show own_Go p e below s (own_Q_own_rcr11 Z a1 k1 v0 v1 v2 v3 h0 n0) ({ frames := 2, cells := 1, slots := 0, locals := 48 } : Room).cells ({ frames := 2, cells := 1, slots := 0, locals := 48 } : Room).slots (s₁.setTop (entryFrame m #[(.ref a1), (.int (1 : Int32)), (.int (1 : Int32))] 3))
  refine own_go (fun zt zk => castTop (own_ef_own_rcr11 m a1) zk) ?_
  show own_Go p e below s _ _ _ (s₁.setTop (mkF m 0 #[rv a1, iv (1 : Int32), iv (1 : Int32)] []))
  refine own_go (fun zt zk => (XS.iloadN X0.here hx rfl (hb hby own_d5_0) rfl (XS.ifYes X0.here hx rfl (pc0 := 1) (pc' := 10) rfl (hb hby own_d5_1) rfl ((if0 _ _).trans (feq ((by decide) : ¬ ((1 : Int32) = (0 : Int32)))).2) (by decide) (by decide) (XS.aloadN X0.here hx rfl (hb hby own_d5_10) rfl rfl (XS.iloadN X0.here hx rfl (hb hby own_d5_11) rfl (XS.iloadN X0.here hx rfl (hb hby own_d5_12) rfl zk)))))) ?_
  show own_Go p e below s _ _ _ (s₁.setTop (mkF m 13 #[rv a1, iv (1 : Int32), iv (1 : Int32)] [(.int (1 : Int32)), (.int (1 : Int32)), (.ref a1)]))
  obtain ⟨_, _, ⟨T1, L1, k1, n1⟩, -, X1, ⟨Lc1, hQ1, l1, y1, z1⟩, st1⟩ := Jvm.LawKit.callS X0 hx (y := (⟨"java/util/Arrays", "copyOfRangeByte", "([BII)[B"⟩ : MethodName)) hown (mvT hZ (hw _ (List.mem_of_getElem? (i := 29) rfl))) (mvT hZ (hw _ (List.mem_of_getElem? (i := 30) rfl))) (mvT hZ (hw _ (List.mem_of_getElem? (i := 27) rfl))) (mvT hZ (hw _ (List.mem_of_getElem? (i := 31) rfl))) (by decide) (backOf (W := 0) (own_rcrb11 l Z a0 hw [] a1 k1 v0 v1 v2 v3 h0 n0 Z0 Va) hZ (hw _ (List.mem_of_getElem? (i := 31) rfl)) (hw _ (List.mem_of_getElem? (i := 27) rfl)) (by decide) (by decide)) (g := (mkF m 13 #[rv a1, iv (1 : Int32), iv (1 : Int32)] [(.int (1 : Int32)), (.int (1 : Int32)), (.ref a1)])) rfl (by rw [hml]; rfl) (argsL := [(.ref a1), (.int (1 : Int32)), (.int (1 : Int32))]) (rest := []) (lenOf own_pd___BII__B rfl) rfl (by show 2 * 0 + _ ≤ _; exact Nat.le_of_eq rfl) (hb hby own_d5_13) (fun _ _ => ⟨rfl, e0, (by decide : 0 + 1 ≤ _), (by decide : 0 + 0 ≤ _)⟩)
  dsimp only [Pt.U, Pt.locs, Pt.cells, Pt.slots] at X1 l1 y1 z1 st1 hQ1
  subst l1 y1 z1
  obtain ⟨b1, k1', rfl, Nq1, K1, sz_b1, Ea_b1, V_b1⟩ := hQ1
  have N1 := Fr.app N0 Nq1
  refine own_go st1 ?_
  replace Va := Va.keep K1 nin0
  replace Ea := Ea.keep K1
  replace Kp := Kp.trans K1 all0
  show own_Go p e below s _ _ _ (T1.setTop (mkF m 16 #[rv a1, iv (1 : Int32), iv (1 : Int32)] [(.ref b1)]))
  exact own_fin X1 Bd.notSynchronized (fun h => by rw [Bd.returns] at h; cases h) (fun fs hr => retOut X1 hx (t := (.array .byte)) (w := (.ref b1)) Bd.returns rfl (Or.inr (Or.inr (Or.inr (Or.inr ⟨rfl, rfl, rfl⟩)))) (hb hby own_d5_16) hr) ⟨_, _, rfl, N1, Kp, sz_b1, Ea_b1, V_b1⟩ (by decide) (by decide)
theorem own_ef_own_rbi11 (m : MethodId) (a0' : Addr) (a1 : Addr) : entryFrame m #[(.ref a0'), (.ref a1)] 2 = mkF m 0 #[rv a0', rv a1] [] := by first | (simp [entryFrame, mkF, argsToLocals, Value.category]; done) | rfl
def own_Q_own_rbi11 (Z : State) (a0' : Addr) (a1 : Addr) (k1 : ClassId) (v0 v1 v2 v3 : Value) (h0 : Heap) (n0 : Nat) (v : Option Value) (h : Heap) (L : List Loc) : Prop := ∃ b k, v = some (.ref b) ∧ Fr n0 L ∧ Keep h0 h [] ∧ h0.size ≤ b ∧ Exa Z h b "[B" ∧ Arv Z h b k .byte (0 : Int32) [] (.int (0 : Int32))
set_option maxRecDepth 65536 in
set_option maxHeartbeats 40000000 in
theorem own_rbi11 (l : Launch) (Z : State) (a0 : Array Value) (hw : ∀ d ∈ tables_1, d.before a0 Z = true) (ws : List Jvm.Cond) (a0' : Addr) (a1 : Addr) (k1 : ClassId) (v0 v1 v2 v3 : Value) (h0 : Heap) (n0 : Nat) (Z0 : n0 ≤ h0.size) (Va : Arv Z h0 a1 k1 .byte (4 : Int32) [v0, v1, v2, v3] (.int (0 : Int32))) (Ea : Exa Z h0 a1 "[B") (Fs : Fld Z h0 a0' "com/example/tranche/tranche/model/Span" "start" "I" (.int (1 : Int32))) (Fe : Fld Z h0 a0' "com/example/tranche/tranche/model/Span" "end" "I" (.int (1 : Int32)))  :
    MetFree l (⟨"com/example/tranche/tranche/model/Span", "bytesIn", "([B)[B"⟩ : MethodName) (head1 (Jvm.Cond.code (⟨"com/example/tranche/tranche/model/Span", "bytesIn", "([B)[B"⟩ : MethodName) prog_34_method_2_code 2 (some (.array .byte)) :: ws) ({ frames := 3, cells := 1, slots := 0, locals := 62 } : Room)) (fun a U => a = #[(.ref a0'), (.ref a1)] ∧ Z.Warmed39 U.vm ∧ U.heap = h0) (fun _ _ _ _ _ => True) (fun _ U o U' => ∃ v L, o = .returned v ∧ own_Q_own_rbi11 Z a0' a1 k1 v0 v1 v2 v3 h0 n0 v U'.heap L ∧ FrameEnd U o U' L ({ frames := 3, cells := 1, slots := 0, locals := 62 } : Room).cells ({ frames := 3, cells := 1, slots := 0, locals := 62 } : Room).slots) := by
  refine MetFree.of_bodySF (plainFor_of_name own_pn_com_example_tranche_tranche_model_Span) hisR ?_
  intro p e s m args below meth c s₁ Bd hml0 hP hK
  obtain ⟨rfl, hZ, hh⟩ := hP
  have hx := Bd.exec
  have hby := Bd.bytes
  have hml : c.maxLocals = 2 := hml0
  have hown : s.vm.findClass "com/example/tranche/tranche/model/Span" = some m.cls := findClass_of_methodNamed Bd.named
  have hnm := (name_of_methodNamed Bd.named Bd.method).1
  have X0 : Stand p l e ({ frames := 3, cells := 1, slots := 0, locals := 62 } : Room) s m #[(.ref a0'), (.ref a1)] below meth c s₁ [] 0 0 := Stand.of_body Bd
  have e0 : s₁.heap = h0 := by rw [← hh, Bd.state]; rfl
  have N0 := Fr.nil n0
  have Kp : Keep h0 h0 [] := Keep.refl h0 _
  show own_Go p e below s (own_Q_own_rbi11 Z a0' a1 k1 v0 v1 v2 v3 h0 n0) ({ frames := 3, cells := 1, slots := 0, locals := 62 } : Room).cells ({ frames := 3, cells := 1, slots := 0, locals := 62 } : Room).slots (s₁.setTop (entryFrame m #[(.ref a0'), (.ref a1)] 2))
  refine own_go (fun zt zk => castTop (own_ef_own_rbi11 m a0' a1) zk) ?_
  show own_Go p e below s _ _ _ (s₁.setTop (mkF m 0 #[rv a0', rv a1] []))
  refine own_go (fun zt zk => (XS.aloadN X0.here hx rfl (hb hby own_d4_0) rfl rfl zk)) ?_
  show own_Go p e below s _ _ _ (s₁.setTop (mkF m 1 #[rv a0', rv a1] [(.ref a0')]))
  obtain ⟨T1, X1, e1, st1⟩ := getF X0 hx hZ hown (host := "") (Or.inl (hw _ (List.mem_of_getElem? (i := 18) rfl))) Via.refl e0 Fe (g := (mkF m 1 #[rv a0', rv a1] [(.ref a0')])) rfl rfl (hb hby own_d4_1)
  refine own_go st1 ?_
  show own_Go p e below s _ _ _ (T1.setTop (mkF m 4 #[rv a0', rv a1] [(.int (1 : Int32))]))
  refine own_go (fun zt zk => (XS.aloadN X1.here hx rfl (hb hby own_d4_4) rfl rfl zk)) ?_
  show own_Go p e below s _ _ _ (T1.setTop (mkF m 5 #[rv a0', rv a1] [(.ref a1), (.int (1 : Int32))]))
  obtain ⟨cl2, Ar2, -, Sz2, Nz2, -, -⟩ := id Va
  refine own_go (X1.arraylength hx (by rw [e1]; exact Ar2.1) (State.isArrayOf_alike hZ.alike Ar2.2.1) (g := (mkF m 5 #[rv a0', rv a1] [(.ref a1), (.int (1 : Int32))])) rfl rfl (hb hby own_d4_5)) ?_
  rw [len_of Sz2 Nz2]
  show own_Go p e below s _ _ _ (T1.setTop (mkF m 6 #[rv a0', rv a1] [(.int (4 : Int32)), (.int (1 : Int32))]))
  refine own_go (fun zt zk => (XS.icmpYes X1.here hx rfl (pc0 := 6) (pc' := 32) rfl (hb hby own_d4_6) rfl (flt ((by decide) : ¬ ((4 : Int32) < (1 : Int32)))).2.2.2 (by decide) (by decide) (XS.aloadN X1.here hx rfl (hb hby own_d4_32) rfl rfl (XS.aloadN X1.here hx rfl (hb hby own_d4_33) rfl rfl zk)))) ?_
  show own_Go p e below s _ _ _ (T1.setTop (mkF m 34 #[rv a0', rv a1] [(.ref a0'), (.ref a1)]))
  obtain ⟨T3, X3, e3, st3⟩ := getF X1 hx hZ hown (host := "") (Or.inl (hw _ (List.mem_of_getElem? (i := 16) rfl))) Via.refl e1 Fs (g := (mkF m 34 #[rv a0', rv a1] [(.ref a0'), (.ref a1)])) rfl rfl (hb hby own_d4_34)
  refine own_go st3 ?_
  show own_Go p e below s _ _ _ (T3.setTop (mkF m 37 #[rv a0', rv a1] [(.int (1 : Int32)), (.ref a1)]))
  refine own_go (fun zt zk => (XS.aloadN X3.here hx rfl (hb hby own_d4_37) rfl rfl zk)) ?_
  show own_Go p e below s _ _ _ (T3.setTop (mkF m 38 #[rv a0', rv a1] [(.ref a0'), (.int (1 : Int32)), (.ref a1)]))
  obtain ⟨T4, X4, e4, st4⟩ := getF X3 hx hZ hown (host := "") (Or.inl (hw _ (List.mem_of_getElem? (i := 18) rfl))) Via.refl e3 Fe (g := (mkF m 38 #[rv a0', rv a1] [(.ref a0'), (.int (1 : Int32)), (.ref a1)])) rfl rfl (hb hby own_d4_38)
  refine own_go st4 ?_
  show own_Go p e below s _ _ _ (T4.setTop (mkF m 41 #[rv a0', rv a1] [(.int (1 : Int32)), (.int (1 : Int32)), (.ref a1)]))
  obtain ⟨_, _, ⟨T5, L5, k5, n5⟩, -, X5, ⟨Lc5, hQ5, l5, y5, z5⟩, st5⟩ := Jvm.LawKit.callS X4 hx (y := (⟨"java/util/Arrays", "copyOfRange", "([BII)[B"⟩ : MethodName)) hown (mvT hZ (hw _ (List.mem_of_getElem? (i := 25) rfl))) (mvT hZ (hw _ (List.mem_of_getElem? (i := 26) rfl))) (mvT hZ (hw _ (List.mem_of_getElem? (i := 27) rfl))) (mvT hZ (hw _ (List.mem_of_getElem? (i := 28) rfl))) (by decide) (backOf (W := 0) (own_rcr11 l Z a0 hw [] a1 k1 v0 v1 v2 v3 h0 n0 Z0 Va Ea) hZ (hw _ (List.mem_of_getElem? (i := 28) rfl)) (hw _ (List.mem_of_getElem? (i := 27) rfl)) (by decide) (by decide)) (g := (mkF m 41 #[rv a0', rv a1] [(.int (1 : Int32)), (.int (1 : Int32)), (.ref a1)])) rfl (by rw [hml]; rfl) (argsL := [(.ref a1), (.int (1 : Int32)), (.int (1 : Int32))]) (rest := []) (lenOf own_pd___BII__B rfl) rfl (by show 2 * 0 + _ ≤ _; exact Nat.le_of_eq rfl) (hb hby own_d4_41) (fun _ _ => ⟨rfl, e4, (by decide : 0 + 1 ≤ _), (by decide : 0 + 0 ≤ _)⟩)
  dsimp only [Pt.U, Pt.locs, Pt.cells, Pt.slots] at X5 l5 y5 z5 st5 hQ5
  subst l5 y5 z5
  obtain ⟨b5, k5', rfl, Nq5, K5, sz_b5, Ea_b5, V_b5⟩ := hQ5
  have N5 := Fr.app N0 Nq5
  refine own_go st5 ?_
  replace Va := Va.keep K5 nin0
  replace Ea := Ea.keep K5
  replace Fs := Fs.keep K5 nin0
  replace Fe := Fe.keep K5 nin0
  replace Kp := Kp.trans K5 all0
  show own_Go p e below s _ _ _ (T5.setTop (mkF m 44 #[rv a0', rv a1] [(.ref b5)]))
  exact own_fin X5 Bd.notSynchronized (fun h => by rw [Bd.returns] at h; cases h) (fun fs hr => retOut X5 hx (t := (.array .byte)) (w := (.ref b5)) Bd.returns rfl (Or.inr (Or.inr (Or.inr (Or.inr ⟨rfl, rfl, rfl⟩)))) (hb hby own_d4_44) hr) ⟨_, _, rfl, N5, Kp, sz_b5, Ea_b5, V_b5⟩ (by decide) (by decide)
theorem own_ef_own_rcrb12 (m : MethodId) (a1 : Addr) : entryFrame m #[(.ref a1), (.int (1 : Int32)), (.int (2 : Int32))] 5 = mkF m 0 #[rv a1, iv (1 : Int32), iv (2 : Int32), .unset, .unset] [] := by first | (simp [entryFrame, mkF, argsToLocals, Value.category]; done) | rfl
def own_Q_own_rcrb12 (Z : State) (a1 : Addr) (k1 : ClassId) (v0 v1 v2 v3 : Value) (h0 : Heap) (n0 : Nat) (v : Option Value) (h : Heap) (L : List Loc) : Prop := ∃ b k, v = some (.ref b) ∧ Fr n0 L ∧ Keep h0 h [] ∧ h0.size ≤ b ∧ Exa Z h b "[B" ∧ Arv Z h b k .byte (1 : Int32) [v1] (.int (0 : Int32))
set_option maxRecDepth 65536 in
set_option maxHeartbeats 40000000 in
theorem own_rcrb12 (l : Launch) (Z : State) (a0 : Array Value) (hw : ∀ d ∈ tables_1, d.before a0 Z = true) (ws : List Jvm.Cond) (a1 : Addr) (k1 : ClassId) (v0 v1 v2 v3 : Value) (h0 : Heap) (n0 : Nat) (Z0 : n0 ≤ h0.size) (Va : Arv Z h0 a1 k1 .byte (4 : Int32) [v0, v1, v2, v3] (.int (0 : Int32)))  :
    MetFree l (⟨"java/util/Arrays", "copyOfRangeByte", "([BII)[B"⟩ : MethodName) (head1 (Jvm.Cond.code (⟨"java/util/Arrays", "copyOfRangeByte", "([BII)[B"⟩ : MethodName) jdk_65_method_133_code 5 (some (.array .byte)) :: ws) ({ frames := 1, cells := 1, slots := 1, locals := 32 } : Room)) (fun a U => a = #[(.ref a1), (.int (1 : Int32)), (.int (2 : Int32))] ∧ Z.Warmed39 U.vm ∧ U.heap = h0) (fun _ _ _ _ _ => True) (fun _ U o U' => ∃ v L, o = .returned v ∧ own_Q_own_rcrb12 Z a1 k1 v0 v1 v2 v3 h0 n0 v U'.heap L ∧ FrameEnd U o U' L ({ frames := 1, cells := 1, slots := 1, locals := 32 } : Room).cells ({ frames := 1, cells := 1, slots := 1, locals := 32 } : Room).slots) := by
  refine MetFree.of_bodySF (plainFor_of_name own_pn_java_util_Arrays) hisR ?_
  intro p e s m args below meth c s₁ Bd hml0 hP hK
  obtain ⟨rfl, hZ, hh⟩ := hP
  have hx := Bd.exec
  have hby := Bd.bytes
  have hml : c.maxLocals = 5 := hml0
  have hown : s.vm.findClass "java/util/Arrays" = some m.cls := findClass_of_methodNamed Bd.named
  have hnm := (name_of_methodNamed Bd.named Bd.method).1
  have X0 : Stand p l e ({ frames := 1, cells := 1, slots := 1, locals := 32 } : Room) s m #[(.ref a1), (.int (1 : Int32)), (.int (2 : Int32))] below meth c s₁ [] 0 0 := Stand.of_body Bd
  have e0 : s₁.heap = h0 := by rw [← hh, Bd.state]; rfl
  have N0 := Fr.nil n0
  have Kp : Keep h0 h0 [] := Keep.refl h0 _
  show own_Go p e below s (own_Q_own_rcrb12 Z a1 k1 v0 v1 v2 v3 h0 n0) ({ frames := 1, cells := 1, slots := 1, locals := 32 } : Room).cells ({ frames := 1, cells := 1, slots := 1, locals := 32 } : Room).slots (s₁.setTop (entryFrame m #[(.ref a1), (.int (1 : Int32)), (.int (2 : Int32))] 5))
  refine own_go (fun zt zk => castTop (own_ef_own_rcrb12 m a1) zk) ?_
  show own_Go p e below s _ _ _ (s₁.setTop (mkF m 0 #[rv a1, iv (1 : Int32), iv (2 : Int32), .unset, .unset] []))
  refine own_go (fun zt zk => (XS.iloadN X0.here hx rfl (hb hby own_d6_0) rfl (XS.iloadN X0.here hx rfl (hb hby own_d6_1) rfl zk))) ?_
  show own_Go p e below s _ _ _ (s₁.setTop (mkF m 2 #[rv a1, iv (1 : Int32), iv (2 : Int32), .unset, .unset] [(.int (2 : Int32)), (.int (1 : Int32))]))
  obtain ⟨_, _, ⟨T1, L1, k1, n1⟩, -, X1, ⟨Lc1, hQ1, l1, y1, z1⟩, st1⟩ := Jvm.LawKit.callS X0 hx (y := (⟨"java/util/Arrays", "checkLength", "(II)V"⟩ : MethodName)) hown (mvT hZ (hw _ (List.mem_of_getElem? (i := 32) rfl))) (mvT hZ (hw _ (List.mem_of_getElem? (i := 33) rfl))) (mvT hZ (hw _ (List.mem_of_getElem? (i := 27) rfl))) (mvT hZ (hw _ (List.mem_of_getElem? (i := 34) rfl))) (by decide) (backOf (W := 0) (own_rcl l Z a0 hw [] (1 : Int32) (2 : Int32)  h0 n0 Z0 (by decide)) hZ (hw _ (List.mem_of_getElem? (i := 34) rfl)) (hw _ (List.mem_of_getElem? (i := 27) rfl)) (by decide) (by decide)) (g := (mkF m 2 #[rv a1, iv (1 : Int32), iv (2 : Int32), .unset, .unset] [(.int (2 : Int32)), (.int (1 : Int32))])) rfl (by rw [hml]; rfl) (argsL := [(.int (1 : Int32)), (.int (2 : Int32))]) (rest := []) (lenOf own_pd__II_V rfl) rfl (by show 2 * 0 + _ ≤ _; exact Nat.le_of_eq rfl) (hb hby own_d6_2) (fun _ _ => ⟨rfl, e0, (by decide : 0 + 0 ≤ _), (by decide : 0 + 0 ≤ _)⟩)
  dsimp only [Pt.U, Pt.locs, Pt.cells, Pt.slots] at X1 l1 y1 z1 st1 hQ1
  subst l1 y1 z1
  obtain ⟨rfl, Nq1, e1⟩ := hQ1
  have N1 := Fr.app N0 Nq1
  refine own_go st1 ?_
  show own_Go p e below s _ _ _ (T1.setTop (mkF m 5 #[rv a1, iv (1 : Int32), iv (2 : Int32), .unset, .unset] []))
  refine own_go (fun zt zk => (XS.iloadN X1.here hx rfl (hb hby own_d6_5) rfl (XS.iloadN X1.here hx rfl (hb hby own_d6_6) rfl (XS.isub X1.here hx rfl (hb hby own_d6_7) rfl (XS.istoreN X1.here hx rfl (hb hby own_d6_8) rfl (l' := #[rv a1, iv (1 : Int32), iv (2 : Int32), iv (1 : Int32), .unset]) rfl (XS.iloadN X1.here hx rfl (hb hby own_d6_9) rfl zk)))))) ?_
  show own_Go p e below s _ _ _ (T1.setTop (mkF m 10 #[rv a1, iv (1 : Int32), iv (2 : Int32), iv (1 : Int32), .unset] [(.int (1 : Int32))]))
  obtain ⟨T2, h2, k2, X2, e2, E2, A2, Ea2, st2⟩ := newPE X1 hx hZ (hw _ (List.mem_of_getElem? (i := 0) rfl)) e1 (g := (mkF m 10 #[rv a1, iv (1 : Int32), iv (2 : Int32), iv (1 : Int32), .unset] [(.int (1 : Int32))])) rfl (hb hby own_d6_10) rfl (by decide) (cap := 1) (by decide) (by decide) (by decide) (by decide) (ad := "[B") (by decide)
  obtain ⟨b2, g2⟩ : ∃ z, z = h0.size := ⟨_, rfl⟩
  rw [← g2] at A2 Ea2 st2
  refine own_go st2 ?_
  have ne_a1_b2 : a1 ≠ b2 := Nat.ne_of_lt (Nat.lt_of_lt_of_le Va.lt (Nat.le_of_eq g2.symm))
  have sz_b2 : h0.size ≤ b2 := Nat.le_trans Kp.1 (Nat.le_of_eq g2.symm)
  have g_b2 : n0 ≤ b2 := Nat.le_trans Z0 sz_b2
  replace Va := Va.ext E2
  replace Kp := Kp.ext E2
  have V_b2 : Arv Z h2 b2 k2 .byte (1 : Int32) [(.int (0 : Int32))] (.int (0 : Int32)) := (Arv.new A2 (by decide)).pad (pad_rep [] (.int (0 : Int32)) 1)
  have Ea_b2 := Ea2
  show own_Go p e below s _ _ _ (T2.setTop (mkF m 12 #[rv a1, iv (1 : Int32), iv (2 : Int32), iv (1 : Int32), .unset] [(.ref b2)]))
  refine own_go (fun zt zk => (XS.astore X2.here hx rfl (hb hby own_d6_12) rfl rfl (l' := #[rv a1, iv (1 : Int32), iv (2 : Int32), iv (1 : Int32), rv b2]) rfl (XS.aloadN X2.here hx rfl (hb hby own_d6_14) rfl rfl (XS.iloadN X2.here hx rfl (hb hby own_d6_15) rfl (XS.aload X2.here hx rfl (hb hby own_d6_16) rfl rfl (XS.iconst X2.here hx rfl (hb hby own_d6_18) (XS.aloadN X2.here hx rfl (hb hby own_d6_19) rfl rfl zk))))))) ?_
  show own_Go p e below s _ _ _ (T2.setTop (mkF m 20 #[rv a1, iv (1 : Int32), iv (2 : Int32), iv (1 : Int32), rv b2] [(.ref a1), (.int (0 : Int32)), (.ref b2), (.int (1 : Int32)), (.ref a1)]))
  obtain ⟨cl3, Ar3, -, Sz3, Nz3, -, -⟩ := id Va
  refine own_go (X2.arraylength hx (by rw [e2]; exact Ar3.1) (State.isArrayOf_alike hZ.alike Ar3.2.1) (g := (mkF m 20 #[rv a1, iv (1 : Int32), iv (2 : Int32), iv (1 : Int32), rv b2] [(.ref a1), (.int (0 : Int32)), (.ref b2), (.int (1 : Int32)), (.ref a1)])) rfl rfl (hb hby own_d6_20)) ?_
  rw [len_of Sz3 Nz3]
  show own_Go p e below s _ _ _ (T2.setTop (mkF m 21 #[rv a1, iv (1 : Int32), iv (2 : Int32), iv (1 : Int32), rv b2] [(.int (4 : Int32)), (.int (0 : Int32)), (.ref b2), (.int (1 : Int32)), (.ref a1)]))
  refine own_go (fun zt zk => (XS.iloadN X2.here hx rfl (hb hby own_d6_21) rfl (XS.isub X2.here hx rfl (hb hby own_d6_22) rfl (XS.iloadN X2.here hx rfl (hb hby own_d6_23) rfl zk)))) ?_
  show own_Go p e below s _ _ _ (T2.setTop (mkF m 24 #[rv a1, iv (1 : Int32), iv (2 : Int32), iv (1 : Int32), rv b2] [(.int (1 : Int32)), (.int (3 : Int32)), (.int (0 : Int32)), (.ref b2), (.int (1 : Int32)), (.ref a1)]))
  obtain ⟨_, _, ⟨T4, L4, k4, n4⟩, -, X4, ⟨Lc4, hQ4, l4, y4, z4⟩, st4⟩ := Jvm.LawKit.callS X2 hx (y := (⟨"java/lang/Math", "min", "(II)I"⟩ : MethodName)) hown (mvT hZ (hw _ (List.mem_of_getElem? (i := 35) rfl))) (mvT hZ (hw _ (List.mem_of_getElem? (i := 36) rfl))) (mvT hZ (hw _ (List.mem_of_getElem? (i := 37) rfl))) (mvT hZ (hw _ (List.mem_of_getElem? (i := 38) rfl))) (by decide) (backOf (W := 4) (own_rmin l Z a0 hw [] (3 : Int32) (1 : Int32)  h2 n0 (Nat.le_trans Z0 Kp.1) ) hZ (hw _ (List.mem_of_getElem? (i := 38) rfl)) (hw _ (List.mem_of_getElem? (i := 37) rfl)) (by decide) (by decide)) (g := (mkF m 24 #[rv a1, iv (1 : Int32), iv (2 : Int32), iv (1 : Int32), rv b2] [(.int (1 : Int32)), (.int (3 : Int32)), (.int (0 : Int32)), (.ref b2), (.int (1 : Int32)), (.ref a1)])) rfl (by rw [hml]; rfl) (argsL := [(.int (3 : Int32)), (.int (1 : Int32))]) (rest := [(.int (0 : Int32)), (.ref b2), (.int (1 : Int32)), (.ref a1)]) (lenOf own_pd__II_I rfl) rfl (by show 2 * 0 + _ ≤ _; exact Nat.le_of_eq rfl) (hb hby own_d6_24) (fun _ _ => ⟨rfl, e2, (by decide : 1 + 0 ≤ _), (by decide : 1 + 0 ≤ _)⟩)
  dsimp only [Pt.U, Pt.locs, Pt.cells, Pt.slots] at X4 l4 y4 z4 st4 hQ4
  subst l4 y4 z4
  obtain ⟨rfl, Nq4, e4⟩ := hQ4
  have N4 := Fr.app N1 Nq4
  refine own_go st4 ?_
  show own_Go p e below s _ _ _ (T4.setTop (mkF m 27 #[rv a1, iv (1 : Int32), iv (2 : Int32), iv (1 : Int32), rv b2] [(.int (1 : Int32)), (.int (0 : Int32)), (.ref b2), (.int (1 : Int32)), (.ref a1)]))
  obtain ⟨T5, h5, L5, X5, e5, N5, K5, V5, st5⟩ := cpA X4 hx hZ hown (hw _ (List.mem_of_getElem? (i := 39) rfl)) (hw _ (List.mem_of_getElem? (i := 42) rfl)) (hw _ (List.mem_of_getElem? (i := 40) rfl)) (hw _ (List.mem_of_getElem? (i := 41) rfl)) e4 Va V_b2 (us := [v1]) (Or.inl ⟨rfl, rfl⟩) (by decide) (by decide) (by decide) (by decide) (by decide) rfl (by decide) N4 g_b2 (g := (mkF m 27 #[rv a1, iv (1 : Int32), iv (2 : Int32), iv (1 : Int32), rv b2] [(.int (1 : Int32)), (.int (0 : Int32)), (.ref b2), (.int (1 : Int32)), (.ref a1)])) rfl (by rw [hml]; rfl) rfl (hb hby own_d6_27) (by decide) (W := 0) (by show 2 * 0 + _ ≤ _; exact Nat.le_of_eq rfl) (by decide)
  refine own_go st5 ?_
  replace Va := Va.keep K5 (ninS ne_a1_b2 nin0)
  replace Kp := Kp.trans K5 (allS (Or.inr sz_b2) all0)
  replace Ea_b2 := Ea_b2.keep K5
  replace V_b2 : Arv Z h5 b2 k2 .byte (1 : Int32) [v1] (.int (0 : Int32)) := V5
  show own_Go p e below s _ _ _ (T5.setTop (mkF m 30 #[rv a1, iv (1 : Int32), iv (2 : Int32), iv (1 : Int32), rv b2] []))
  refine own_go (fun zt zk => (XS.aload X5.here hx rfl (hb hby own_d6_30) rfl rfl zk)) ?_
  show own_Go p e below s _ _ _ (T5.setTop (mkF m 32 #[rv a1, iv (1 : Int32), iv (2 : Int32), iv (1 : Int32), rv b2] [(.ref b2)]))
  exact own_fin X5 Bd.notSynchronized (fun h => by rw [Bd.returns] at h; cases h) (fun fs hr => retOut X5 hx (t := (.array .byte)) (w := (.ref b2)) Bd.returns rfl (Or.inr (Or.inr (Or.inr (Or.inr ⟨rfl, rfl, rfl⟩)))) (hb hby own_d6_32) hr) (by rw [e5]; exact ⟨_, _, rfl, N5, Kp, sz_b2, Ea_b2, V_b2⟩) (by decide) (by decide)
theorem own_ef_own_rcr12 (m : MethodId) (a1 : Addr) : entryFrame m #[(.ref a1), (.int (1 : Int32)), (.int (2 : Int32))] 3 = mkF m 0 #[rv a1, iv (1 : Int32), iv (2 : Int32)] [] := by first | (simp [entryFrame, mkF, argsToLocals, Value.category]; done) | rfl
def own_Q_own_rcr12 (Z : State) (a1 : Addr) (k1 : ClassId) (v0 v1 v2 v3 : Value) (h0 : Heap) (n0 : Nat) (v : Option Value) (h : Heap) (L : List Loc) : Prop := ∃ b k, v = some (.ref b) ∧ Fr n0 L ∧ Keep h0 h [] ∧ h0.size ≤ b ∧ Exa Z h b "[B" ∧ Arv Z h b k .byte (1 : Int32) [v1] (.int (0 : Int32))
set_option maxRecDepth 65536 in
set_option maxHeartbeats 40000000 in
theorem own_rcr12 (l : Launch) (Z : State) (a0 : Array Value) (hw : ∀ d ∈ tables_1, d.before a0 Z = true) (ws : List Jvm.Cond) (a1 : Addr) (k1 : ClassId) (v0 v1 v2 v3 : Value) (h0 : Heap) (n0 : Nat) (Z0 : n0 ≤ h0.size) (Va : Arv Z h0 a1 k1 .byte (4 : Int32) [v0, v1, v2, v3] (.int (0 : Int32))) (Ea : Exa Z h0 a1 "[B")  :
    MetFree l (⟨"java/util/Arrays", "copyOfRange", "([BII)[B"⟩ : MethodName) (head1 (Jvm.Cond.code (⟨"java/util/Arrays", "copyOfRange", "([BII)[B"⟩ : MethodName) jdk_65_method_132_code 3 (some (.array .byte)) :: ws) ({ frames := 2, cells := 1, slots := 1, locals := 48 } : Room)) (fun a U => a = #[(.ref a1), (.int (1 : Int32)), (.int (2 : Int32))] ∧ Z.Warmed39 U.vm ∧ U.heap = h0) (fun _ _ _ _ _ => True) (fun _ U o U' => ∃ v L, o = .returned v ∧ own_Q_own_rcr12 Z a1 k1 v0 v1 v2 v3 h0 n0 v U'.heap L ∧ FrameEnd U o U' L ({ frames := 2, cells := 1, slots := 1, locals := 48 } : Room).cells ({ frames := 2, cells := 1, slots := 1, locals := 48 } : Room).slots) := by
  refine MetFree.of_bodySF (plainFor_of_name own_pn_java_util_Arrays) hisR ?_
  intro p e s m args below meth c s₁ Bd hml0 hP hK
  obtain ⟨rfl, hZ, hh⟩ := hP
  have hx := Bd.exec
  have hby := Bd.bytes
  have hml : c.maxLocals = 3 := hml0
  have hown : s.vm.findClass "java/util/Arrays" = some m.cls := findClass_of_methodNamed Bd.named
  have hnm := (name_of_methodNamed Bd.named Bd.method).1
  have X0 : Stand p l e ({ frames := 2, cells := 1, slots := 1, locals := 48 } : Room) s m #[(.ref a1), (.int (1 : Int32)), (.int (2 : Int32))] below meth c s₁ [] 0 0 := Stand.of_body Bd
  have e0 : s₁.heap = h0 := by rw [← hh, Bd.state]; rfl
  have N0 := Fr.nil n0
  have Kp : Keep h0 h0 [] := Keep.refl h0 _
  show own_Go p e below s (own_Q_own_rcr12 Z a1 k1 v0 v1 v2 v3 h0 n0) ({ frames := 2, cells := 1, slots := 1, locals := 48 } : Room).cells ({ frames := 2, cells := 1, slots := 1, locals := 48 } : Room).slots (s₁.setTop (entryFrame m #[(.ref a1), (.int (1 : Int32)), (.int (2 : Int32))] 3))
  refine own_go (fun zt zk => castTop (own_ef_own_rcr12 m a1) zk) ?_
  show own_Go p e below s _ _ _ (s₁.setTop (mkF m 0 #[rv a1, iv (1 : Int32), iv (2 : Int32)] []))
  refine own_go (fun zt zk => (XS.iloadN X0.here hx rfl (hb hby own_d5_0) rfl (XS.ifYes X0.here hx rfl (pc0 := 1) (pc' := 10) rfl (hb hby own_d5_1) rfl ((if0 _ _).trans (feq ((by decide) : ¬ ((1 : Int32) = (0 : Int32)))).2) (by decide) (by decide) (XS.aloadN X0.here hx rfl (hb hby own_d5_10) rfl rfl (XS.iloadN X0.here hx rfl (hb hby own_d5_11) rfl (XS.iloadN X0.here hx rfl (hb hby own_d5_12) rfl zk)))))) ?_
  show own_Go p e below s _ _ _ (s₁.setTop (mkF m 13 #[rv a1, iv (1 : Int32), iv (2 : Int32)] [(.int (2 : Int32)), (.int (1 : Int32)), (.ref a1)]))
  obtain ⟨_, _, ⟨T1, L1, k1, n1⟩, -, X1, ⟨Lc1, hQ1, l1, y1, z1⟩, st1⟩ := Jvm.LawKit.callS X0 hx (y := (⟨"java/util/Arrays", "copyOfRangeByte", "([BII)[B"⟩ : MethodName)) hown (mvT hZ (hw _ (List.mem_of_getElem? (i := 29) rfl))) (mvT hZ (hw _ (List.mem_of_getElem? (i := 30) rfl))) (mvT hZ (hw _ (List.mem_of_getElem? (i := 27) rfl))) (mvT hZ (hw _ (List.mem_of_getElem? (i := 31) rfl))) (by decide) (backOf (W := 0) (own_rcrb12 l Z a0 hw [] a1 k1 v0 v1 v2 v3 h0 n0 Z0 Va) hZ (hw _ (List.mem_of_getElem? (i := 31) rfl)) (hw _ (List.mem_of_getElem? (i := 27) rfl)) (by decide) (by decide)) (g := (mkF m 13 #[rv a1, iv (1 : Int32), iv (2 : Int32)] [(.int (2 : Int32)), (.int (1 : Int32)), (.ref a1)])) rfl (by rw [hml]; rfl) (argsL := [(.ref a1), (.int (1 : Int32)), (.int (2 : Int32))]) (rest := []) (lenOf own_pd___BII__B rfl) rfl (by show 2 * 0 + _ ≤ _; exact Nat.le_of_eq rfl) (hb hby own_d5_13) (fun _ _ => ⟨rfl, e0, (by decide : 0 + 1 ≤ _), (by decide : 0 + 1 ≤ _)⟩)
  dsimp only [Pt.U, Pt.locs, Pt.cells, Pt.slots] at X1 l1 y1 z1 st1 hQ1
  subst l1 y1 z1
  obtain ⟨b1, k1', rfl, Nq1, K1, sz_b1, Ea_b1, V_b1⟩ := hQ1
  have N1 := Fr.app N0 Nq1
  refine own_go st1 ?_
  replace Va := Va.keep K1 nin0
  replace Ea := Ea.keep K1
  replace Kp := Kp.trans K1 all0
  show own_Go p e below s _ _ _ (T1.setTop (mkF m 16 #[rv a1, iv (1 : Int32), iv (2 : Int32)] [(.ref b1)]))
  exact own_fin X1 Bd.notSynchronized (fun h => by rw [Bd.returns] at h; cases h) (fun fs hr => retOut X1 hx (t := (.array .byte)) (w := (.ref b1)) Bd.returns rfl (Or.inr (Or.inr (Or.inr (Or.inr ⟨rfl, rfl, rfl⟩)))) (hb hby own_d5_16) hr) ⟨_, _, rfl, N1, Kp, sz_b1, Ea_b1, V_b1⟩ (by decide) (by decide)
theorem own_ef_own_rbi12 (m : MethodId) (a0' : Addr) (a1 : Addr) : entryFrame m #[(.ref a0'), (.ref a1)] 2 = mkF m 0 #[rv a0', rv a1] [] := by first | (simp [entryFrame, mkF, argsToLocals, Value.category]; done) | rfl
def own_Q_own_rbi12 (Z : State) (a0' : Addr) (a1 : Addr) (k1 : ClassId) (v0 v1 v2 v3 : Value) (h0 : Heap) (n0 : Nat) (v : Option Value) (h : Heap) (L : List Loc) : Prop := ∃ b k, v = some (.ref b) ∧ Fr n0 L ∧ Keep h0 h [] ∧ h0.size ≤ b ∧ Exa Z h b "[B" ∧ Arv Z h b k .byte (1 : Int32) [v1] (.int (0 : Int32))
set_option maxRecDepth 65536 in
set_option maxHeartbeats 40000000 in
theorem own_rbi12 (l : Launch) (Z : State) (a0 : Array Value) (hw : ∀ d ∈ tables_1, d.before a0 Z = true) (ws : List Jvm.Cond) (a0' : Addr) (a1 : Addr) (k1 : ClassId) (v0 v1 v2 v3 : Value) (h0 : Heap) (n0 : Nat) (Z0 : n0 ≤ h0.size) (Va : Arv Z h0 a1 k1 .byte (4 : Int32) [v0, v1, v2, v3] (.int (0 : Int32))) (Ea : Exa Z h0 a1 "[B") (Fs : Fld Z h0 a0' "com/example/tranche/tranche/model/Span" "start" "I" (.int (1 : Int32))) (Fe : Fld Z h0 a0' "com/example/tranche/tranche/model/Span" "end" "I" (.int (2 : Int32)))  :
    MetFree l (⟨"com/example/tranche/tranche/model/Span", "bytesIn", "([B)[B"⟩ : MethodName) (head1 (Jvm.Cond.code (⟨"com/example/tranche/tranche/model/Span", "bytesIn", "([B)[B"⟩ : MethodName) prog_34_method_2_code 2 (some (.array .byte)) :: ws) ({ frames := 3, cells := 1, slots := 1, locals := 62 } : Room)) (fun a U => a = #[(.ref a0'), (.ref a1)] ∧ Z.Warmed39 U.vm ∧ U.heap = h0) (fun _ _ _ _ _ => True) (fun _ U o U' => ∃ v L, o = .returned v ∧ own_Q_own_rbi12 Z a0' a1 k1 v0 v1 v2 v3 h0 n0 v U'.heap L ∧ FrameEnd U o U' L ({ frames := 3, cells := 1, slots := 1, locals := 62 } : Room).cells ({ frames := 3, cells := 1, slots := 1, locals := 62 } : Room).slots) := by
  refine MetFree.of_bodySF (plainFor_of_name own_pn_com_example_tranche_tranche_model_Span) hisR ?_
  intro p e s m args below meth c s₁ Bd hml0 hP hK
  obtain ⟨rfl, hZ, hh⟩ := hP
  have hx := Bd.exec
  have hby := Bd.bytes
  have hml : c.maxLocals = 2 := hml0
  have hown : s.vm.findClass "com/example/tranche/tranche/model/Span" = some m.cls := findClass_of_methodNamed Bd.named
  have hnm := (name_of_methodNamed Bd.named Bd.method).1
  have X0 : Stand p l e ({ frames := 3, cells := 1, slots := 1, locals := 62 } : Room) s m #[(.ref a0'), (.ref a1)] below meth c s₁ [] 0 0 := Stand.of_body Bd
  have e0 : s₁.heap = h0 := by rw [← hh, Bd.state]; rfl
  have N0 := Fr.nil n0
  have Kp : Keep h0 h0 [] := Keep.refl h0 _
  show own_Go p e below s (own_Q_own_rbi12 Z a0' a1 k1 v0 v1 v2 v3 h0 n0) ({ frames := 3, cells := 1, slots := 1, locals := 62 } : Room).cells ({ frames := 3, cells := 1, slots := 1, locals := 62 } : Room).slots (s₁.setTop (entryFrame m #[(.ref a0'), (.ref a1)] 2))
  refine own_go (fun zt zk => castTop (own_ef_own_rbi12 m a0' a1) zk) ?_
  show own_Go p e below s _ _ _ (s₁.setTop (mkF m 0 #[rv a0', rv a1] []))
  refine own_go (fun zt zk => (XS.aloadN X0.here hx rfl (hb hby own_d4_0) rfl rfl zk)) ?_
  show own_Go p e below s _ _ _ (s₁.setTop (mkF m 1 #[rv a0', rv a1] [(.ref a0')]))
  obtain ⟨T1, X1, e1, st1⟩ := getF X0 hx hZ hown (host := "") (Or.inl (hw _ (List.mem_of_getElem? (i := 18) rfl))) Via.refl e0 Fe (g := (mkF m 1 #[rv a0', rv a1] [(.ref a0')])) rfl rfl (hb hby own_d4_1)
  refine own_go st1 ?_
  show own_Go p e below s _ _ _ (T1.setTop (mkF m 4 #[rv a0', rv a1] [(.int (2 : Int32))]))
  refine own_go (fun zt zk => (XS.aloadN X1.here hx rfl (hb hby own_d4_4) rfl rfl zk)) ?_
  show own_Go p e below s _ _ _ (T1.setTop (mkF m 5 #[rv a0', rv a1] [(.ref a1), (.int (2 : Int32))]))
  obtain ⟨cl2, Ar2, -, Sz2, Nz2, -, -⟩ := id Va
  refine own_go (X1.arraylength hx (by rw [e1]; exact Ar2.1) (State.isArrayOf_alike hZ.alike Ar2.2.1) (g := (mkF m 5 #[rv a0', rv a1] [(.ref a1), (.int (2 : Int32))])) rfl rfl (hb hby own_d4_5)) ?_
  rw [len_of Sz2 Nz2]
  show own_Go p e below s _ _ _ (T1.setTop (mkF m 6 #[rv a0', rv a1] [(.int (4 : Int32)), (.int (2 : Int32))]))
  refine own_go (fun zt zk => (XS.icmpYes X1.here hx rfl (pc0 := 6) (pc' := 32) rfl (hb hby own_d4_6) rfl (flt ((by decide) : ¬ ((4 : Int32) < (2 : Int32)))).2.2.2 (by decide) (by decide) (XS.aloadN X1.here hx rfl (hb hby own_d4_32) rfl rfl (XS.aloadN X1.here hx rfl (hb hby own_d4_33) rfl rfl zk)))) ?_
  show own_Go p e below s _ _ _ (T1.setTop (mkF m 34 #[rv a0', rv a1] [(.ref a0'), (.ref a1)]))
  obtain ⟨T3, X3, e3, st3⟩ := getF X1 hx hZ hown (host := "") (Or.inl (hw _ (List.mem_of_getElem? (i := 16) rfl))) Via.refl e1 Fs (g := (mkF m 34 #[rv a0', rv a1] [(.ref a0'), (.ref a1)])) rfl rfl (hb hby own_d4_34)
  refine own_go st3 ?_
  show own_Go p e below s _ _ _ (T3.setTop (mkF m 37 #[rv a0', rv a1] [(.int (1 : Int32)), (.ref a1)]))
  refine own_go (fun zt zk => (XS.aloadN X3.here hx rfl (hb hby own_d4_37) rfl rfl zk)) ?_
  show own_Go p e below s _ _ _ (T3.setTop (mkF m 38 #[rv a0', rv a1] [(.ref a0'), (.int (1 : Int32)), (.ref a1)]))
  obtain ⟨T4, X4, e4, st4⟩ := getF X3 hx hZ hown (host := "") (Or.inl (hw _ (List.mem_of_getElem? (i := 18) rfl))) Via.refl e3 Fe (g := (mkF m 38 #[rv a0', rv a1] [(.ref a0'), (.int (1 : Int32)), (.ref a1)])) rfl rfl (hb hby own_d4_38)
  refine own_go st4 ?_
  show own_Go p e below s _ _ _ (T4.setTop (mkF m 41 #[rv a0', rv a1] [(.int (2 : Int32)), (.int (1 : Int32)), (.ref a1)]))
  obtain ⟨_, _, ⟨T5, L5, k5, n5⟩, -, X5, ⟨Lc5, hQ5, l5, y5, z5⟩, st5⟩ := Jvm.LawKit.callS X4 hx (y := (⟨"java/util/Arrays", "copyOfRange", "([BII)[B"⟩ : MethodName)) hown (mvT hZ (hw _ (List.mem_of_getElem? (i := 25) rfl))) (mvT hZ (hw _ (List.mem_of_getElem? (i := 26) rfl))) (mvT hZ (hw _ (List.mem_of_getElem? (i := 27) rfl))) (mvT hZ (hw _ (List.mem_of_getElem? (i := 28) rfl))) (by decide) (backOf (W := 0) (own_rcr12 l Z a0 hw [] a1 k1 v0 v1 v2 v3 h0 n0 Z0 Va Ea) hZ (hw _ (List.mem_of_getElem? (i := 28) rfl)) (hw _ (List.mem_of_getElem? (i := 27) rfl)) (by decide) (by decide)) (g := (mkF m 41 #[rv a0', rv a1] [(.int (2 : Int32)), (.int (1 : Int32)), (.ref a1)])) rfl (by rw [hml]; rfl) (argsL := [(.ref a1), (.int (1 : Int32)), (.int (2 : Int32))]) (rest := []) (lenOf own_pd___BII__B rfl) rfl (by show 2 * 0 + _ ≤ _; exact Nat.le_of_eq rfl) (hb hby own_d4_41) (fun _ _ => ⟨rfl, e4, (by decide : 0 + 1 ≤ _), (by decide : 0 + 1 ≤ _)⟩)
  dsimp only [Pt.U, Pt.locs, Pt.cells, Pt.slots] at X5 l5 y5 z5 st5 hQ5
  subst l5 y5 z5
  obtain ⟨b5, k5', rfl, Nq5, K5, sz_b5, Ea_b5, V_b5⟩ := hQ5
  have N5 := Fr.app N0 Nq5
  refine own_go st5 ?_
  replace Va := Va.keep K5 nin0
  replace Ea := Ea.keep K5
  replace Fs := Fs.keep K5 nin0
  replace Fe := Fe.keep K5 nin0
  replace Kp := Kp.trans K5 all0
  show own_Go p e below s _ _ _ (T5.setTop (mkF m 44 #[rv a0', rv a1] [(.ref b5)]))
  exact own_fin X5 Bd.notSynchronized (fun h => by rw [Bd.returns] at h; cases h) (fun fs hr => retOut X5 hx (t := (.array .byte)) (w := (.ref b5)) Bd.returns rfl (Or.inr (Or.inr (Or.inr (Or.inr ⟨rfl, rfl, rfl⟩)))) (hb hby own_d4_44) hr) ⟨_, _, rfl, N5, Kp, sz_b5, Ea_b5, V_b5⟩ (by decide) (by decide)
theorem own_ef_own_rcrb13 (m : MethodId) (a1 : Addr) : entryFrame m #[(.ref a1), (.int (1 : Int32)), (.int (3 : Int32))] 5 = mkF m 0 #[rv a1, iv (1 : Int32), iv (3 : Int32), .unset, .unset] [] := by first | (simp [entryFrame, mkF, argsToLocals, Value.category]; done) | rfl
def own_Q_own_rcrb13 (Z : State) (a1 : Addr) (k1 : ClassId) (v0 v1 v2 v3 : Value) (h0 : Heap) (n0 : Nat) (v : Option Value) (h : Heap) (L : List Loc) : Prop := ∃ b k, v = some (.ref b) ∧ Fr n0 L ∧ Keep h0 h [] ∧ h0.size ≤ b ∧ Exa Z h b "[B" ∧ Arv Z h b k .byte (2 : Int32) [v1, v2] (.int (0 : Int32))
set_option maxRecDepth 65536 in
set_option maxHeartbeats 40000000 in
theorem own_rcrb13 (l : Launch) (Z : State) (a0 : Array Value) (hw : ∀ d ∈ tables_1, d.before a0 Z = true) (ws : List Jvm.Cond) (a1 : Addr) (k1 : ClassId) (v0 v1 v2 v3 : Value) (h0 : Heap) (n0 : Nat) (Z0 : n0 ≤ h0.size) (Va : Arv Z h0 a1 k1 .byte (4 : Int32) [v0, v1, v2, v3] (.int (0 : Int32)))  :
    MetFree l (⟨"java/util/Arrays", "copyOfRangeByte", "([BII)[B"⟩ : MethodName) (head1 (Jvm.Cond.code (⟨"java/util/Arrays", "copyOfRangeByte", "([BII)[B"⟩ : MethodName) jdk_65_method_133_code 5 (some (.array .byte)) :: ws) ({ frames := 1, cells := 1, slots := 2, locals := 32 } : Room)) (fun a U => a = #[(.ref a1), (.int (1 : Int32)), (.int (3 : Int32))] ∧ Z.Warmed39 U.vm ∧ U.heap = h0) (fun _ _ _ _ _ => True) (fun _ U o U' => ∃ v L, o = .returned v ∧ own_Q_own_rcrb13 Z a1 k1 v0 v1 v2 v3 h0 n0 v U'.heap L ∧ FrameEnd U o U' L ({ frames := 1, cells := 1, slots := 2, locals := 32 } : Room).cells ({ frames := 1, cells := 1, slots := 2, locals := 32 } : Room).slots) := by
  refine MetFree.of_bodySF (plainFor_of_name own_pn_java_util_Arrays) hisR ?_
  intro p e s m args below meth c s₁ Bd hml0 hP hK
  obtain ⟨rfl, hZ, hh⟩ := hP
  have hx := Bd.exec
  have hby := Bd.bytes
  have hml : c.maxLocals = 5 := hml0
  have hown : s.vm.findClass "java/util/Arrays" = some m.cls := findClass_of_methodNamed Bd.named
  have hnm := (name_of_methodNamed Bd.named Bd.method).1
  have X0 : Stand p l e ({ frames := 1, cells := 1, slots := 2, locals := 32 } : Room) s m #[(.ref a1), (.int (1 : Int32)), (.int (3 : Int32))] below meth c s₁ [] 0 0 := Stand.of_body Bd
  have e0 : s₁.heap = h0 := by rw [← hh, Bd.state]; rfl
  have N0 := Fr.nil n0
  have Kp : Keep h0 h0 [] := Keep.refl h0 _
  show own_Go p e below s (own_Q_own_rcrb13 Z a1 k1 v0 v1 v2 v3 h0 n0) ({ frames := 1, cells := 1, slots := 2, locals := 32 } : Room).cells ({ frames := 1, cells := 1, slots := 2, locals := 32 } : Room).slots (s₁.setTop (entryFrame m #[(.ref a1), (.int (1 : Int32)), (.int (3 : Int32))] 5))
  refine own_go (fun zt zk => castTop (own_ef_own_rcrb13 m a1) zk) ?_
  show own_Go p e below s _ _ _ (s₁.setTop (mkF m 0 #[rv a1, iv (1 : Int32), iv (3 : Int32), .unset, .unset] []))
  refine own_go (fun zt zk => (XS.iloadN X0.here hx rfl (hb hby own_d6_0) rfl (XS.iloadN X0.here hx rfl (hb hby own_d6_1) rfl zk))) ?_
  show own_Go p e below s _ _ _ (s₁.setTop (mkF m 2 #[rv a1, iv (1 : Int32), iv (3 : Int32), .unset, .unset] [(.int (3 : Int32)), (.int (1 : Int32))]))
  obtain ⟨_, _, ⟨T1, L1, k1, n1⟩, -, X1, ⟨Lc1, hQ1, l1, y1, z1⟩, st1⟩ := Jvm.LawKit.callS X0 hx (y := (⟨"java/util/Arrays", "checkLength", "(II)V"⟩ : MethodName)) hown (mvT hZ (hw _ (List.mem_of_getElem? (i := 32) rfl))) (mvT hZ (hw _ (List.mem_of_getElem? (i := 33) rfl))) (mvT hZ (hw _ (List.mem_of_getElem? (i := 27) rfl))) (mvT hZ (hw _ (List.mem_of_getElem? (i := 34) rfl))) (by decide) (backOf (W := 0) (own_rcl l Z a0 hw [] (1 : Int32) (3 : Int32)  h0 n0 Z0 (by decide)) hZ (hw _ (List.mem_of_getElem? (i := 34) rfl)) (hw _ (List.mem_of_getElem? (i := 27) rfl)) (by decide) (by decide)) (g := (mkF m 2 #[rv a1, iv (1 : Int32), iv (3 : Int32), .unset, .unset] [(.int (3 : Int32)), (.int (1 : Int32))])) rfl (by rw [hml]; rfl) (argsL := [(.int (1 : Int32)), (.int (3 : Int32))]) (rest := []) (lenOf own_pd__II_V rfl) rfl (by show 2 * 0 + _ ≤ _; exact Nat.le_of_eq rfl) (hb hby own_d6_2) (fun _ _ => ⟨rfl, e0, (by decide : 0 + 0 ≤ _), (by decide : 0 + 0 ≤ _)⟩)
  dsimp only [Pt.U, Pt.locs, Pt.cells, Pt.slots] at X1 l1 y1 z1 st1 hQ1
  subst l1 y1 z1
  obtain ⟨rfl, Nq1, e1⟩ := hQ1
  have N1 := Fr.app N0 Nq1
  refine own_go st1 ?_
  show own_Go p e below s _ _ _ (T1.setTop (mkF m 5 #[rv a1, iv (1 : Int32), iv (3 : Int32), .unset, .unset] []))
  refine own_go (fun zt zk => (XS.iloadN X1.here hx rfl (hb hby own_d6_5) rfl (XS.iloadN X1.here hx rfl (hb hby own_d6_6) rfl (XS.isub X1.here hx rfl (hb hby own_d6_7) rfl (XS.istoreN X1.here hx rfl (hb hby own_d6_8) rfl (l' := #[rv a1, iv (1 : Int32), iv (3 : Int32), iv (2 : Int32), .unset]) rfl (XS.iloadN X1.here hx rfl (hb hby own_d6_9) rfl zk)))))) ?_
  show own_Go p e below s _ _ _ (T1.setTop (mkF m 10 #[rv a1, iv (1 : Int32), iv (3 : Int32), iv (2 : Int32), .unset] [(.int (2 : Int32))]))
  obtain ⟨T2, h2, k2, X2, e2, E2, A2, Ea2, st2⟩ := newPE X1 hx hZ (hw _ (List.mem_of_getElem? (i := 0) rfl)) e1 (g := (mkF m 10 #[rv a1, iv (1 : Int32), iv (3 : Int32), iv (2 : Int32), .unset] [(.int (2 : Int32))])) rfl (hb hby own_d6_10) rfl (by decide) (cap := 2) (by decide) (by decide) (by decide) (by decide) (ad := "[B") (by decide)
  obtain ⟨b2, g2⟩ : ∃ z, z = h0.size := ⟨_, rfl⟩
  rw [← g2] at A2 Ea2 st2
  refine own_go st2 ?_
  have ne_a1_b2 : a1 ≠ b2 := Nat.ne_of_lt (Nat.lt_of_lt_of_le Va.lt (Nat.le_of_eq g2.symm))
  have sz_b2 : h0.size ≤ b2 := Nat.le_trans Kp.1 (Nat.le_of_eq g2.symm)
  have g_b2 : n0 ≤ b2 := Nat.le_trans Z0 sz_b2
  replace Va := Va.ext E2
  replace Kp := Kp.ext E2
  have V_b2 : Arv Z h2 b2 k2 .byte (2 : Int32) [(.int (0 : Int32)), (.int (0 : Int32))] (.int (0 : Int32)) := (Arv.new A2 (by decide)).pad (pad_rep [] (.int (0 : Int32)) 2)
  have Ea_b2 := Ea2
  show own_Go p e below s _ _ _ (T2.setTop (mkF m 12 #[rv a1, iv (1 : Int32), iv (3 : Int32), iv (2 : Int32), .unset] [(.ref b2)]))
  refine own_go (fun zt zk => (XS.astore X2.here hx rfl (hb hby own_d6_12) rfl rfl (l' := #[rv a1, iv (1 : Int32), iv (3 : Int32), iv (2 : Int32), rv b2]) rfl (XS.aloadN X2.here hx rfl (hb hby own_d6_14) rfl rfl (XS.iloadN X2.here hx rfl (hb hby own_d6_15) rfl (XS.aload X2.here hx rfl (hb hby own_d6_16) rfl rfl (XS.iconst X2.here hx rfl (hb hby own_d6_18) (XS.aloadN X2.here hx rfl (hb hby own_d6_19) rfl rfl zk))))))) ?_
  show own_Go p e below s _ _ _ (T2.setTop (mkF m 20 #[rv a1, iv (1 : Int32), iv (3 : Int32), iv (2 : Int32), rv b2] [(.ref a1), (.int (0 : Int32)), (.ref b2), (.int (1 : Int32)), (.ref a1)]))
  obtain ⟨cl3, Ar3, -, Sz3, Nz3, -, -⟩ := id Va
  refine own_go (X2.arraylength hx (by rw [e2]; exact Ar3.1) (State.isArrayOf_alike hZ.alike Ar3.2.1) (g := (mkF m 20 #[rv a1, iv (1 : Int32), iv (3 : Int32), iv (2 : Int32), rv b2] [(.ref a1), (.int (0 : Int32)), (.ref b2), (.int (1 : Int32)), (.ref a1)])) rfl rfl (hb hby own_d6_20)) ?_
  rw [len_of Sz3 Nz3]
  show own_Go p e below s _ _ _ (T2.setTop (mkF m 21 #[rv a1, iv (1 : Int32), iv (3 : Int32), iv (2 : Int32), rv b2] [(.int (4 : Int32)), (.int (0 : Int32)), (.ref b2), (.int (1 : Int32)), (.ref a1)]))
  refine own_go (fun zt zk => (XS.iloadN X2.here hx rfl (hb hby own_d6_21) rfl (XS.isub X2.here hx rfl (hb hby own_d6_22) rfl (XS.iloadN X2.here hx rfl (hb hby own_d6_23) rfl zk)))) ?_
  show own_Go p e below s _ _ _ (T2.setTop (mkF m 24 #[rv a1, iv (1 : Int32), iv (3 : Int32), iv (2 : Int32), rv b2] [(.int (2 : Int32)), (.int (3 : Int32)), (.int (0 : Int32)), (.ref b2), (.int (1 : Int32)), (.ref a1)]))
  obtain ⟨_, _, ⟨T4, L4, k4, n4⟩, -, X4, ⟨Lc4, hQ4, l4, y4, z4⟩, st4⟩ := Jvm.LawKit.callS X2 hx (y := (⟨"java/lang/Math", "min", "(II)I"⟩ : MethodName)) hown (mvT hZ (hw _ (List.mem_of_getElem? (i := 35) rfl))) (mvT hZ (hw _ (List.mem_of_getElem? (i := 36) rfl))) (mvT hZ (hw _ (List.mem_of_getElem? (i := 37) rfl))) (mvT hZ (hw _ (List.mem_of_getElem? (i := 38) rfl))) (by decide) (backOf (W := 4) (own_rmin l Z a0 hw [] (3 : Int32) (2 : Int32)  h2 n0 (Nat.le_trans Z0 Kp.1) ) hZ (hw _ (List.mem_of_getElem? (i := 38) rfl)) (hw _ (List.mem_of_getElem? (i := 37) rfl)) (by decide) (by decide)) (g := (mkF m 24 #[rv a1, iv (1 : Int32), iv (3 : Int32), iv (2 : Int32), rv b2] [(.int (2 : Int32)), (.int (3 : Int32)), (.int (0 : Int32)), (.ref b2), (.int (1 : Int32)), (.ref a1)])) rfl (by rw [hml]; rfl) (argsL := [(.int (3 : Int32)), (.int (2 : Int32))]) (rest := [(.int (0 : Int32)), (.ref b2), (.int (1 : Int32)), (.ref a1)]) (lenOf own_pd__II_I rfl) rfl (by show 2 * 0 + _ ≤ _; exact Nat.le_of_eq rfl) (hb hby own_d6_24) (fun _ _ => ⟨rfl, e2, (by decide : 1 + 0 ≤ _), (by decide : 2 + 0 ≤ _)⟩)
  dsimp only [Pt.U, Pt.locs, Pt.cells, Pt.slots] at X4 l4 y4 z4 st4 hQ4
  subst l4 y4 z4
  obtain ⟨rfl, Nq4, e4⟩ := hQ4
  have N4 := Fr.app N1 Nq4
  refine own_go st4 ?_
  show own_Go p e below s _ _ _ (T4.setTop (mkF m 27 #[rv a1, iv (1 : Int32), iv (3 : Int32), iv (2 : Int32), rv b2] [(.int (2 : Int32)), (.int (0 : Int32)), (.ref b2), (.int (1 : Int32)), (.ref a1)]))
  obtain ⟨T5, h5, L5, X5, e5, N5, K5, V5, st5⟩ := cpA X4 hx hZ hown (hw _ (List.mem_of_getElem? (i := 39) rfl)) (hw _ (List.mem_of_getElem? (i := 42) rfl)) (hw _ (List.mem_of_getElem? (i := 40) rfl)) (hw _ (List.mem_of_getElem? (i := 41) rfl)) e4 Va V_b2 (us := [v1, v2]) (Or.inl ⟨rfl, rfl⟩) (by decide) (by decide) (by decide) (by decide) (by decide) rfl (by decide) N4 g_b2 (g := (mkF m 27 #[rv a1, iv (1 : Int32), iv (3 : Int32), iv (2 : Int32), rv b2] [(.int (2 : Int32)), (.int (0 : Int32)), (.ref b2), (.int (1 : Int32)), (.ref a1)])) rfl (by rw [hml]; rfl) rfl (hb hby own_d6_27) (by decide) (W := 0) (by show 2 * 0 + _ ≤ _; exact Nat.le_of_eq rfl) (by decide)
  refine own_go st5 ?_
  replace Va := Va.keep K5 (ninS ne_a1_b2 nin0)
  replace Kp := Kp.trans K5 (allS (Or.inr sz_b2) all0)
  replace Ea_b2 := Ea_b2.keep K5
  replace V_b2 : Arv Z h5 b2 k2 .byte (2 : Int32) [v1, v2] (.int (0 : Int32)) := V5
  show own_Go p e below s _ _ _ (T5.setTop (mkF m 30 #[rv a1, iv (1 : Int32), iv (3 : Int32), iv (2 : Int32), rv b2] []))
  refine own_go (fun zt zk => (XS.aload X5.here hx rfl (hb hby own_d6_30) rfl rfl zk)) ?_
  show own_Go p e below s _ _ _ (T5.setTop (mkF m 32 #[rv a1, iv (1 : Int32), iv (3 : Int32), iv (2 : Int32), rv b2] [(.ref b2)]))
  exact own_fin X5 Bd.notSynchronized (fun h => by rw [Bd.returns] at h; cases h) (fun fs hr => retOut X5 hx (t := (.array .byte)) (w := (.ref b2)) Bd.returns rfl (Or.inr (Or.inr (Or.inr (Or.inr ⟨rfl, rfl, rfl⟩)))) (hb hby own_d6_32) hr) (by rw [e5]; exact ⟨_, _, rfl, N5, Kp, sz_b2, Ea_b2, V_b2⟩) (by decide) (by decide)
theorem own_ef_own_rcr13 (m : MethodId) (a1 : Addr) : entryFrame m #[(.ref a1), (.int (1 : Int32)), (.int (3 : Int32))] 3 = mkF m 0 #[rv a1, iv (1 : Int32), iv (3 : Int32)] [] := by first | (simp [entryFrame, mkF, argsToLocals, Value.category]; done) | rfl
def own_Q_own_rcr13 (Z : State) (a1 : Addr) (k1 : ClassId) (v0 v1 v2 v3 : Value) (h0 : Heap) (n0 : Nat) (v : Option Value) (h : Heap) (L : List Loc) : Prop := ∃ b k, v = some (.ref b) ∧ Fr n0 L ∧ Keep h0 h [] ∧ h0.size ≤ b ∧ Exa Z h b "[B" ∧ Arv Z h b k .byte (2 : Int32) [v1, v2] (.int (0 : Int32))
set_option maxRecDepth 65536 in
set_option maxHeartbeats 40000000 in
theorem own_rcr13 (l : Launch) (Z : State) (a0 : Array Value) (hw : ∀ d ∈ tables_1, d.before a0 Z = true) (ws : List Jvm.Cond) (a1 : Addr) (k1 : ClassId) (v0 v1 v2 v3 : Value) (h0 : Heap) (n0 : Nat) (Z0 : n0 ≤ h0.size) (Va : Arv Z h0 a1 k1 .byte (4 : Int32) [v0, v1, v2, v3] (.int (0 : Int32))) (Ea : Exa Z h0 a1 "[B")  :
    MetFree l (⟨"java/util/Arrays", "copyOfRange", "([BII)[B"⟩ : MethodName) (head1 (Jvm.Cond.code (⟨"java/util/Arrays", "copyOfRange", "([BII)[B"⟩ : MethodName) jdk_65_method_132_code 3 (some (.array .byte)) :: ws) ({ frames := 2, cells := 1, slots := 2, locals := 48 } : Room)) (fun a U => a = #[(.ref a1), (.int (1 : Int32)), (.int (3 : Int32))] ∧ Z.Warmed39 U.vm ∧ U.heap = h0) (fun _ _ _ _ _ => True) (fun _ U o U' => ∃ v L, o = .returned v ∧ own_Q_own_rcr13 Z a1 k1 v0 v1 v2 v3 h0 n0 v U'.heap L ∧ FrameEnd U o U' L ({ frames := 2, cells := 1, slots := 2, locals := 48 } : Room).cells ({ frames := 2, cells := 1, slots := 2, locals := 48 } : Room).slots) := by
  refine MetFree.of_bodySF (plainFor_of_name own_pn_java_util_Arrays) hisR ?_
  intro p e s m args below meth c s₁ Bd hml0 hP hK
  obtain ⟨rfl, hZ, hh⟩ := hP
  have hx := Bd.exec
  have hby := Bd.bytes
  have hml : c.maxLocals = 3 := hml0
  have hown : s.vm.findClass "java/util/Arrays" = some m.cls := findClass_of_methodNamed Bd.named
  have hnm := (name_of_methodNamed Bd.named Bd.method).1
  have X0 : Stand p l e ({ frames := 2, cells := 1, slots := 2, locals := 48 } : Room) s m #[(.ref a1), (.int (1 : Int32)), (.int (3 : Int32))] below meth c s₁ [] 0 0 := Stand.of_body Bd
  have e0 : s₁.heap = h0 := by rw [← hh, Bd.state]; rfl
  have N0 := Fr.nil n0
  have Kp : Keep h0 h0 [] := Keep.refl h0 _
  show own_Go p e below s (own_Q_own_rcr13 Z a1 k1 v0 v1 v2 v3 h0 n0) ({ frames := 2, cells := 1, slots := 2, locals := 48 } : Room).cells ({ frames := 2, cells := 1, slots := 2, locals := 48 } : Room).slots (s₁.setTop (entryFrame m #[(.ref a1), (.int (1 : Int32)), (.int (3 : Int32))] 3))
  refine own_go (fun zt zk => castTop (own_ef_own_rcr13 m a1) zk) ?_
  show own_Go p e below s _ _ _ (s₁.setTop (mkF m 0 #[rv a1, iv (1 : Int32), iv (3 : Int32)] []))
  refine own_go (fun zt zk => (XS.iloadN X0.here hx rfl (hb hby own_d5_0) rfl (XS.ifYes X0.here hx rfl (pc0 := 1) (pc' := 10) rfl (hb hby own_d5_1) rfl ((if0 _ _).trans (feq ((by decide) : ¬ ((1 : Int32) = (0 : Int32)))).2) (by decide) (by decide) (XS.aloadN X0.here hx rfl (hb hby own_d5_10) rfl rfl (XS.iloadN X0.here hx rfl (hb hby own_d5_11) rfl (XS.iloadN X0.here hx rfl (hb hby own_d5_12) rfl zk)))))) ?_
  show own_Go p e below s _ _ _ (s₁.setTop (mkF m 13 #[rv a1, iv (1 : Int32), iv (3 : Int32)] [(.int (3 : Int32)), (.int (1 : Int32)), (.ref a1)]))
  obtain ⟨_, _, ⟨T1, L1, k1, n1⟩, -, X1, ⟨Lc1, hQ1, l1, y1, z1⟩, st1⟩ := Jvm.LawKit.callS X0 hx (y := (⟨"java/util/Arrays", "copyOfRangeByte", "([BII)[B"⟩ : MethodName)) hown (mvT hZ (hw _ (List.mem_of_getElem? (i := 29) rfl))) (mvT hZ (hw _ (List.mem_of_getElem? (i := 30) rfl))) (mvT hZ (hw _ (List.mem_of_getElem? (i := 27) rfl))) (mvT hZ (hw _ (List.mem_of_getElem? (i := 31) rfl))) (by decide) (backOf (W := 0) (own_rcrb13 l Z a0 hw [] a1 k1 v0 v1 v2 v3 h0 n0 Z0 Va) hZ (hw _ (List.mem_of_getElem? (i := 31) rfl)) (hw _ (List.mem_of_getElem? (i := 27) rfl)) (by decide) (by decide)) (g := (mkF m 13 #[rv a1, iv (1 : Int32), iv (3 : Int32)] [(.int (3 : Int32)), (.int (1 : Int32)), (.ref a1)])) rfl (by rw [hml]; rfl) (argsL := [(.ref a1), (.int (1 : Int32)), (.int (3 : Int32))]) (rest := []) (lenOf own_pd___BII__B rfl) rfl (by show 2 * 0 + _ ≤ _; exact Nat.le_of_eq rfl) (hb hby own_d5_13) (fun _ _ => ⟨rfl, e0, (by decide : 0 + 1 ≤ _), (by decide : 0 + 2 ≤ _)⟩)
  dsimp only [Pt.U, Pt.locs, Pt.cells, Pt.slots] at X1 l1 y1 z1 st1 hQ1
  subst l1 y1 z1
  obtain ⟨b1, k1', rfl, Nq1, K1, sz_b1, Ea_b1, V_b1⟩ := hQ1
  have N1 := Fr.app N0 Nq1
  refine own_go st1 ?_
  replace Va := Va.keep K1 nin0
  replace Ea := Ea.keep K1
  replace Kp := Kp.trans K1 all0
  show own_Go p e below s _ _ _ (T1.setTop (mkF m 16 #[rv a1, iv (1 : Int32), iv (3 : Int32)] [(.ref b1)]))
  exact own_fin X1 Bd.notSynchronized (fun h => by rw [Bd.returns] at h; cases h) (fun fs hr => retOut X1 hx (t := (.array .byte)) (w := (.ref b1)) Bd.returns rfl (Or.inr (Or.inr (Or.inr (Or.inr ⟨rfl, rfl, rfl⟩)))) (hb hby own_d5_16) hr) ⟨_, _, rfl, N1, Kp, sz_b1, Ea_b1, V_b1⟩ (by decide) (by decide)
theorem own_ef_own_rbi13 (m : MethodId) (a0' : Addr) (a1 : Addr) : entryFrame m #[(.ref a0'), (.ref a1)] 2 = mkF m 0 #[rv a0', rv a1] [] := by first | (simp [entryFrame, mkF, argsToLocals, Value.category]; done) | rfl
def own_Q_own_rbi13 (Z : State) (a0' : Addr) (a1 : Addr) (k1 : ClassId) (v0 v1 v2 v3 : Value) (h0 : Heap) (n0 : Nat) (v : Option Value) (h : Heap) (L : List Loc) : Prop := ∃ b k, v = some (.ref b) ∧ Fr n0 L ∧ Keep h0 h [] ∧ h0.size ≤ b ∧ Exa Z h b "[B" ∧ Arv Z h b k .byte (2 : Int32) [v1, v2] (.int (0 : Int32))
set_option maxRecDepth 65536 in
set_option maxHeartbeats 40000000 in
theorem own_rbi13 (l : Launch) (Z : State) (a0 : Array Value) (hw : ∀ d ∈ tables_1, d.before a0 Z = true) (ws : List Jvm.Cond) (a0' : Addr) (a1 : Addr) (k1 : ClassId) (v0 v1 v2 v3 : Value) (h0 : Heap) (n0 : Nat) (Z0 : n0 ≤ h0.size) (Va : Arv Z h0 a1 k1 .byte (4 : Int32) [v0, v1, v2, v3] (.int (0 : Int32))) (Ea : Exa Z h0 a1 "[B") (Fs : Fld Z h0 a0' "com/example/tranche/tranche/model/Span" "start" "I" (.int (1 : Int32))) (Fe : Fld Z h0 a0' "com/example/tranche/tranche/model/Span" "end" "I" (.int (3 : Int32)))  :
    MetFree l (⟨"com/example/tranche/tranche/model/Span", "bytesIn", "([B)[B"⟩ : MethodName) (head1 (Jvm.Cond.code (⟨"com/example/tranche/tranche/model/Span", "bytesIn", "([B)[B"⟩ : MethodName) prog_34_method_2_code 2 (some (.array .byte)) :: ws) ({ frames := 3, cells := 1, slots := 2, locals := 62 } : Room)) (fun a U => a = #[(.ref a0'), (.ref a1)] ∧ Z.Warmed39 U.vm ∧ U.heap = h0) (fun _ _ _ _ _ => True) (fun _ U o U' => ∃ v L, o = .returned v ∧ own_Q_own_rbi13 Z a0' a1 k1 v0 v1 v2 v3 h0 n0 v U'.heap L ∧ FrameEnd U o U' L ({ frames := 3, cells := 1, slots := 2, locals := 62 } : Room).cells ({ frames := 3, cells := 1, slots := 2, locals := 62 } : Room).slots) := by
  refine MetFree.of_bodySF (plainFor_of_name own_pn_com_example_tranche_tranche_model_Span) hisR ?_
  intro p e s m args below meth c s₁ Bd hml0 hP hK
  obtain ⟨rfl, hZ, hh⟩ := hP
  have hx := Bd.exec
  have hby := Bd.bytes
  have hml : c.maxLocals = 2 := hml0
  have hown : s.vm.findClass "com/example/tranche/tranche/model/Span" = some m.cls := findClass_of_methodNamed Bd.named
  have hnm := (name_of_methodNamed Bd.named Bd.method).1
  have X0 : Stand p l e ({ frames := 3, cells := 1, slots := 2, locals := 62 } : Room) s m #[(.ref a0'), (.ref a1)] below meth c s₁ [] 0 0 := Stand.of_body Bd
  have e0 : s₁.heap = h0 := by rw [← hh, Bd.state]; rfl
  have N0 := Fr.nil n0
  have Kp : Keep h0 h0 [] := Keep.refl h0 _
  show own_Go p e below s (own_Q_own_rbi13 Z a0' a1 k1 v0 v1 v2 v3 h0 n0) ({ frames := 3, cells := 1, slots := 2, locals := 62 } : Room).cells ({ frames := 3, cells := 1, slots := 2, locals := 62 } : Room).slots (s₁.setTop (entryFrame m #[(.ref a0'), (.ref a1)] 2))
  refine own_go (fun zt zk => castTop (own_ef_own_rbi13 m a0' a1) zk) ?_
  show own_Go p e below s _ _ _ (s₁.setTop (mkF m 0 #[rv a0', rv a1] []))
  refine own_go (fun zt zk => (XS.aloadN X0.here hx rfl (hb hby own_d4_0) rfl rfl zk)) ?_
  show own_Go p e below s _ _ _ (s₁.setTop (mkF m 1 #[rv a0', rv a1] [(.ref a0')]))
  obtain ⟨T1, X1, e1, st1⟩ := getF X0 hx hZ hown (host := "") (Or.inl (hw _ (List.mem_of_getElem? (i := 18) rfl))) Via.refl e0 Fe (g := (mkF m 1 #[rv a0', rv a1] [(.ref a0')])) rfl rfl (hb hby own_d4_1)
  refine own_go st1 ?_
  show own_Go p e below s _ _ _ (T1.setTop (mkF m 4 #[rv a0', rv a1] [(.int (3 : Int32))]))
  refine own_go (fun zt zk => (XS.aloadN X1.here hx rfl (hb hby own_d4_4) rfl rfl zk)) ?_
  show own_Go p e below s _ _ _ (T1.setTop (mkF m 5 #[rv a0', rv a1] [(.ref a1), (.int (3 : Int32))]))
  obtain ⟨cl2, Ar2, -, Sz2, Nz2, -, -⟩ := id Va
  refine own_go (X1.arraylength hx (by rw [e1]; exact Ar2.1) (State.isArrayOf_alike hZ.alike Ar2.2.1) (g := (mkF m 5 #[rv a0', rv a1] [(.ref a1), (.int (3 : Int32))])) rfl rfl (hb hby own_d4_5)) ?_
  rw [len_of Sz2 Nz2]
  show own_Go p e below s _ _ _ (T1.setTop (mkF m 6 #[rv a0', rv a1] [(.int (4 : Int32)), (.int (3 : Int32))]))
  refine own_go (fun zt zk => (XS.icmpYes X1.here hx rfl (pc0 := 6) (pc' := 32) rfl (hb hby own_d4_6) rfl (flt ((by decide) : ¬ ((4 : Int32) < (3 : Int32)))).2.2.2 (by decide) (by decide) (XS.aloadN X1.here hx rfl (hb hby own_d4_32) rfl rfl (XS.aloadN X1.here hx rfl (hb hby own_d4_33) rfl rfl zk)))) ?_
  show own_Go p e below s _ _ _ (T1.setTop (mkF m 34 #[rv a0', rv a1] [(.ref a0'), (.ref a1)]))
  obtain ⟨T3, X3, e3, st3⟩ := getF X1 hx hZ hown (host := "") (Or.inl (hw _ (List.mem_of_getElem? (i := 16) rfl))) Via.refl e1 Fs (g := (mkF m 34 #[rv a0', rv a1] [(.ref a0'), (.ref a1)])) rfl rfl (hb hby own_d4_34)
  refine own_go st3 ?_
  show own_Go p e below s _ _ _ (T3.setTop (mkF m 37 #[rv a0', rv a1] [(.int (1 : Int32)), (.ref a1)]))
  refine own_go (fun zt zk => (XS.aloadN X3.here hx rfl (hb hby own_d4_37) rfl rfl zk)) ?_
  show own_Go p e below s _ _ _ (T3.setTop (mkF m 38 #[rv a0', rv a1] [(.ref a0'), (.int (1 : Int32)), (.ref a1)]))
  obtain ⟨T4, X4, e4, st4⟩ := getF X3 hx hZ hown (host := "") (Or.inl (hw _ (List.mem_of_getElem? (i := 18) rfl))) Via.refl e3 Fe (g := (mkF m 38 #[rv a0', rv a1] [(.ref a0'), (.int (1 : Int32)), (.ref a1)])) rfl rfl (hb hby own_d4_38)
  refine own_go st4 ?_
  show own_Go p e below s _ _ _ (T4.setTop (mkF m 41 #[rv a0', rv a1] [(.int (3 : Int32)), (.int (1 : Int32)), (.ref a1)]))
  obtain ⟨_, _, ⟨T5, L5, k5, n5⟩, -, X5, ⟨Lc5, hQ5, l5, y5, z5⟩, st5⟩ := Jvm.LawKit.callS X4 hx (y := (⟨"java/util/Arrays", "copyOfRange", "([BII)[B"⟩ : MethodName)) hown (mvT hZ (hw _ (List.mem_of_getElem? (i := 25) rfl))) (mvT hZ (hw _ (List.mem_of_getElem? (i := 26) rfl))) (mvT hZ (hw _ (List.mem_of_getElem? (i := 27) rfl))) (mvT hZ (hw _ (List.mem_of_getElem? (i := 28) rfl))) (by decide) (backOf (W := 0) (own_rcr13 l Z a0 hw [] a1 k1 v0 v1 v2 v3 h0 n0 Z0 Va Ea) hZ (hw _ (List.mem_of_getElem? (i := 28) rfl)) (hw _ (List.mem_of_getElem? (i := 27) rfl)) (by decide) (by decide)) (g := (mkF m 41 #[rv a0', rv a1] [(.int (3 : Int32)), (.int (1 : Int32)), (.ref a1)])) rfl (by rw [hml]; rfl) (argsL := [(.ref a1), (.int (1 : Int32)), (.int (3 : Int32))]) (rest := []) (lenOf own_pd___BII__B rfl) rfl (by show 2 * 0 + _ ≤ _; exact Nat.le_of_eq rfl) (hb hby own_d4_41) (fun _ _ => ⟨rfl, e4, (by decide : 0 + 1 ≤ _), (by decide : 0 + 2 ≤ _)⟩)
  dsimp only [Pt.U, Pt.locs, Pt.cells, Pt.slots] at X5 l5 y5 z5 st5 hQ5
  subst l5 y5 z5
  obtain ⟨b5, k5', rfl, Nq5, K5, sz_b5, Ea_b5, V_b5⟩ := hQ5
  have N5 := Fr.app N0 Nq5
  refine own_go st5 ?_
  replace Va := Va.keep K5 nin0
  replace Ea := Ea.keep K5
  replace Fs := Fs.keep K5 nin0
  replace Fe := Fe.keep K5 nin0
  replace Kp := Kp.trans K5 all0
  show own_Go p e below s _ _ _ (T5.setTop (mkF m 44 #[rv a0', rv a1] [(.ref b5)]))
  exact own_fin X5 Bd.notSynchronized (fun h => by rw [Bd.returns] at h; cases h) (fun fs hr => retOut X5 hx (t := (.array .byte)) (w := (.ref b5)) Bd.returns rfl (Or.inr (Or.inr (Or.inr (Or.inr ⟨rfl, rfl, rfl⟩)))) (hb hby own_d4_44) hr) ⟨_, _, rfl, N5, Kp, sz_b5, Ea_b5, V_b5⟩ (by decide) (by decide)
theorem own_ef_own_rcrb14 (m : MethodId) (a1 : Addr) : entryFrame m #[(.ref a1), (.int (1 : Int32)), (.int (4 : Int32))] 5 = mkF m 0 #[rv a1, iv (1 : Int32), iv (4 : Int32), .unset, .unset] [] := by first | (simp [entryFrame, mkF, argsToLocals, Value.category]; done) | rfl
def own_Q_own_rcrb14 (Z : State) (a1 : Addr) (k1 : ClassId) (v0 v1 v2 v3 : Value) (h0 : Heap) (n0 : Nat) (v : Option Value) (h : Heap) (L : List Loc) : Prop := ∃ b k, v = some (.ref b) ∧ Fr n0 L ∧ Keep h0 h [] ∧ h0.size ≤ b ∧ Exa Z h b "[B" ∧ Arv Z h b k .byte (3 : Int32) [v1, v2, v3] (.int (0 : Int32))
set_option maxRecDepth 65536 in
set_option maxHeartbeats 40000000 in
theorem own_rcrb14 (l : Launch) (Z : State) (a0 : Array Value) (hw : ∀ d ∈ tables_1, d.before a0 Z = true) (ws : List Jvm.Cond) (a1 : Addr) (k1 : ClassId) (v0 v1 v2 v3 : Value) (h0 : Heap) (n0 : Nat) (Z0 : n0 ≤ h0.size) (Va : Arv Z h0 a1 k1 .byte (4 : Int32) [v0, v1, v2, v3] (.int (0 : Int32)))  :
    MetFree l (⟨"java/util/Arrays", "copyOfRangeByte", "([BII)[B"⟩ : MethodName) (head1 (Jvm.Cond.code (⟨"java/util/Arrays", "copyOfRangeByte", "([BII)[B"⟩ : MethodName) jdk_65_method_133_code 5 (some (.array .byte)) :: ws) ({ frames := 1, cells := 1, slots := 3, locals := 32 } : Room)) (fun a U => a = #[(.ref a1), (.int (1 : Int32)), (.int (4 : Int32))] ∧ Z.Warmed39 U.vm ∧ U.heap = h0) (fun _ _ _ _ _ => True) (fun _ U o U' => ∃ v L, o = .returned v ∧ own_Q_own_rcrb14 Z a1 k1 v0 v1 v2 v3 h0 n0 v U'.heap L ∧ FrameEnd U o U' L ({ frames := 1, cells := 1, slots := 3, locals := 32 } : Room).cells ({ frames := 1, cells := 1, slots := 3, locals := 32 } : Room).slots) := by
  refine MetFree.of_bodySF (plainFor_of_name own_pn_java_util_Arrays) hisR ?_
  intro p e s m args below meth c s₁ Bd hml0 hP hK
  obtain ⟨rfl, hZ, hh⟩ := hP
  have hx := Bd.exec
  have hby := Bd.bytes
  have hml : c.maxLocals = 5 := hml0
  have hown : s.vm.findClass "java/util/Arrays" = some m.cls := findClass_of_methodNamed Bd.named
  have hnm := (name_of_methodNamed Bd.named Bd.method).1
  have X0 : Stand p l e ({ frames := 1, cells := 1, slots := 3, locals := 32 } : Room) s m #[(.ref a1), (.int (1 : Int32)), (.int (4 : Int32))] below meth c s₁ [] 0 0 := Stand.of_body Bd
  have e0 : s₁.heap = h0 := by rw [← hh, Bd.state]; rfl
  have N0 := Fr.nil n0
  have Kp : Keep h0 h0 [] := Keep.refl h0 _
  show own_Go p e below s (own_Q_own_rcrb14 Z a1 k1 v0 v1 v2 v3 h0 n0) ({ frames := 1, cells := 1, slots := 3, locals := 32 } : Room).cells ({ frames := 1, cells := 1, slots := 3, locals := 32 } : Room).slots (s₁.setTop (entryFrame m #[(.ref a1), (.int (1 : Int32)), (.int (4 : Int32))] 5))
  refine own_go (fun zt zk => castTop (own_ef_own_rcrb14 m a1) zk) ?_
  show own_Go p e below s _ _ _ (s₁.setTop (mkF m 0 #[rv a1, iv (1 : Int32), iv (4 : Int32), .unset, .unset] []))
  refine own_go (fun zt zk => (XS.iloadN X0.here hx rfl (hb hby own_d6_0) rfl (XS.iloadN X0.here hx rfl (hb hby own_d6_1) rfl zk))) ?_
  show own_Go p e below s _ _ _ (s₁.setTop (mkF m 2 #[rv a1, iv (1 : Int32), iv (4 : Int32), .unset, .unset] [(.int (4 : Int32)), (.int (1 : Int32))]))
  obtain ⟨_, _, ⟨T1, L1, k1, n1⟩, -, X1, ⟨Lc1, hQ1, l1, y1, z1⟩, st1⟩ := Jvm.LawKit.callS X0 hx (y := (⟨"java/util/Arrays", "checkLength", "(II)V"⟩ : MethodName)) hown (mvT hZ (hw _ (List.mem_of_getElem? (i := 32) rfl))) (mvT hZ (hw _ (List.mem_of_getElem? (i := 33) rfl))) (mvT hZ (hw _ (List.mem_of_getElem? (i := 27) rfl))) (mvT hZ (hw _ (List.mem_of_getElem? (i := 34) rfl))) (by decide) (backOf (W := 0) (own_rcl l Z a0 hw [] (1 : Int32) (4 : Int32)  h0 n0 Z0 (by decide)) hZ (hw _ (List.mem_of_getElem? (i := 34) rfl)) (hw _ (List.mem_of_getElem? (i := 27) rfl)) (by decide) (by decide)) (g := (mkF m 2 #[rv a1, iv (1 : Int32), iv (4 : Int32), .unset, .unset] [(.int (4 : Int32)), (.int (1 : Int32))])) rfl (by rw [hml]; rfl) (argsL := [(.int (1 : Int32)), (.int (4 : Int32))]) (rest := []) (lenOf own_pd__II_V rfl) rfl (by show 2 * 0 + _ ≤ _; exact Nat.le_of_eq rfl) (hb hby own_d6_2) (fun _ _ => ⟨rfl, e0, (by decide : 0 + 0 ≤ _), (by decide : 0 + 0 ≤ _)⟩)
  dsimp only [Pt.U, Pt.locs, Pt.cells, Pt.slots] at X1 l1 y1 z1 st1 hQ1
  subst l1 y1 z1
  obtain ⟨rfl, Nq1, e1⟩ := hQ1
  have N1 := Fr.app N0 Nq1
  refine own_go st1 ?_
  show own_Go p e below s _ _ _ (T1.setTop (mkF m 5 #[rv a1, iv (1 : Int32), iv (4 : Int32), .unset, .unset] []))
  refine own_go (fun zt zk => (XS.iloadN X1.here hx rfl (hb hby own_d6_5) rfl (XS.iloadN X1.here hx rfl (hb hby own_d6_6) rfl (XS.isub X1.here hx rfl (hb hby own_d6_7) rfl (XS.istoreN X1.here hx rfl (hb hby own_d6_8) rfl (l' := #[rv a1, iv (1 : Int32), iv (4 : Int32), iv (3 : Int32), .unset]) rfl (XS.iloadN X1.here hx rfl (hb hby own_d6_9) rfl zk)))))) ?_
  show own_Go p e below s _ _ _ (T1.setTop (mkF m 10 #[rv a1, iv (1 : Int32), iv (4 : Int32), iv (3 : Int32), .unset] [(.int (3 : Int32))]))
  obtain ⟨T2, h2, k2, X2, e2, E2, A2, Ea2, st2⟩ := newPE X1 hx hZ (hw _ (List.mem_of_getElem? (i := 0) rfl)) e1 (g := (mkF m 10 #[rv a1, iv (1 : Int32), iv (4 : Int32), iv (3 : Int32), .unset] [(.int (3 : Int32))])) rfl (hb hby own_d6_10) rfl (by decide) (cap := 3) (by decide) (by decide) (by decide) (by decide) (ad := "[B") (by decide)
  obtain ⟨b2, g2⟩ : ∃ z, z = h0.size := ⟨_, rfl⟩
  rw [← g2] at A2 Ea2 st2
  refine own_go st2 ?_
  have ne_a1_b2 : a1 ≠ b2 := Nat.ne_of_lt (Nat.lt_of_lt_of_le Va.lt (Nat.le_of_eq g2.symm))
  have sz_b2 : h0.size ≤ b2 := Nat.le_trans Kp.1 (Nat.le_of_eq g2.symm)
  have g_b2 : n0 ≤ b2 := Nat.le_trans Z0 sz_b2
  replace Va := Va.ext E2
  replace Kp := Kp.ext E2
  have V_b2 : Arv Z h2 b2 k2 .byte (3 : Int32) [(.int (0 : Int32)), (.int (0 : Int32)), (.int (0 : Int32))] (.int (0 : Int32)) := (Arv.new A2 (by decide)).pad (pad_rep [] (.int (0 : Int32)) 3)
  have Ea_b2 := Ea2
  show own_Go p e below s _ _ _ (T2.setTop (mkF m 12 #[rv a1, iv (1 : Int32), iv (4 : Int32), iv (3 : Int32), .unset] [(.ref b2)]))
  refine own_go (fun zt zk => (XS.astore X2.here hx rfl (hb hby own_d6_12) rfl rfl (l' := #[rv a1, iv (1 : Int32), iv (4 : Int32), iv (3 : Int32), rv b2]) rfl (XS.aloadN X2.here hx rfl (hb hby own_d6_14) rfl rfl (XS.iloadN X2.here hx rfl (hb hby own_d6_15) rfl (XS.aload X2.here hx rfl (hb hby own_d6_16) rfl rfl (XS.iconst X2.here hx rfl (hb hby own_d6_18) (XS.aloadN X2.here hx rfl (hb hby own_d6_19) rfl rfl zk))))))) ?_
  show own_Go p e below s _ _ _ (T2.setTop (mkF m 20 #[rv a1, iv (1 : Int32), iv (4 : Int32), iv (3 : Int32), rv b2] [(.ref a1), (.int (0 : Int32)), (.ref b2), (.int (1 : Int32)), (.ref a1)]))
  obtain ⟨cl3, Ar3, -, Sz3, Nz3, -, -⟩ := id Va
  refine own_go (X2.arraylength hx (by rw [e2]; exact Ar3.1) (State.isArrayOf_alike hZ.alike Ar3.2.1) (g := (mkF m 20 #[rv a1, iv (1 : Int32), iv (4 : Int32), iv (3 : Int32), rv b2] [(.ref a1), (.int (0 : Int32)), (.ref b2), (.int (1 : Int32)), (.ref a1)])) rfl rfl (hb hby own_d6_20)) ?_
  rw [len_of Sz3 Nz3]
  show own_Go p e below s _ _ _ (T2.setTop (mkF m 21 #[rv a1, iv (1 : Int32), iv (4 : Int32), iv (3 : Int32), rv b2] [(.int (4 : Int32)), (.int (0 : Int32)), (.ref b2), (.int (1 : Int32)), (.ref a1)]))
  refine own_go (fun zt zk => (XS.iloadN X2.here hx rfl (hb hby own_d6_21) rfl (XS.isub X2.here hx rfl (hb hby own_d6_22) rfl (XS.iloadN X2.here hx rfl (hb hby own_d6_23) rfl zk)))) ?_
  show own_Go p e below s _ _ _ (T2.setTop (mkF m 24 #[rv a1, iv (1 : Int32), iv (4 : Int32), iv (3 : Int32), rv b2] [(.int (3 : Int32)), (.int (3 : Int32)), (.int (0 : Int32)), (.ref b2), (.int (1 : Int32)), (.ref a1)]))
  obtain ⟨_, _, ⟨T4, L4, k4, n4⟩, -, X4, ⟨Lc4, hQ4, l4, y4, z4⟩, st4⟩ := Jvm.LawKit.callS X2 hx (y := (⟨"java/lang/Math", "min", "(II)I"⟩ : MethodName)) hown (mvT hZ (hw _ (List.mem_of_getElem? (i := 35) rfl))) (mvT hZ (hw _ (List.mem_of_getElem? (i := 36) rfl))) (mvT hZ (hw _ (List.mem_of_getElem? (i := 37) rfl))) (mvT hZ (hw _ (List.mem_of_getElem? (i := 38) rfl))) (by decide) (backOf (W := 4) (own_rmin l Z a0 hw [] (3 : Int32) (3 : Int32)  h2 n0 (Nat.le_trans Z0 Kp.1) ) hZ (hw _ (List.mem_of_getElem? (i := 38) rfl)) (hw _ (List.mem_of_getElem? (i := 37) rfl)) (by decide) (by decide)) (g := (mkF m 24 #[rv a1, iv (1 : Int32), iv (4 : Int32), iv (3 : Int32), rv b2] [(.int (3 : Int32)), (.int (3 : Int32)), (.int (0 : Int32)), (.ref b2), (.int (1 : Int32)), (.ref a1)])) rfl (by rw [hml]; rfl) (argsL := [(.int (3 : Int32)), (.int (3 : Int32))]) (rest := [(.int (0 : Int32)), (.ref b2), (.int (1 : Int32)), (.ref a1)]) (lenOf own_pd__II_I rfl) rfl (by show 2 * 0 + _ ≤ _; exact Nat.le_of_eq rfl) (hb hby own_d6_24) (fun _ _ => ⟨rfl, e2, (by decide : 1 + 0 ≤ _), (by decide : 3 + 0 ≤ _)⟩)
  dsimp only [Pt.U, Pt.locs, Pt.cells, Pt.slots] at X4 l4 y4 z4 st4 hQ4
  subst l4 y4 z4
  obtain ⟨rfl, Nq4, e4⟩ := hQ4
  have N4 := Fr.app N1 Nq4
  refine own_go st4 ?_
  show own_Go p e below s _ _ _ (T4.setTop (mkF m 27 #[rv a1, iv (1 : Int32), iv (4 : Int32), iv (3 : Int32), rv b2] [(.int (3 : Int32)), (.int (0 : Int32)), (.ref b2), (.int (1 : Int32)), (.ref a1)]))
  obtain ⟨T5, h5, L5, X5, e5, N5, K5, V5, st5⟩ := cpA X4 hx hZ hown (hw _ (List.mem_of_getElem? (i := 39) rfl)) (hw _ (List.mem_of_getElem? (i := 42) rfl)) (hw _ (List.mem_of_getElem? (i := 40) rfl)) (hw _ (List.mem_of_getElem? (i := 41) rfl)) e4 Va V_b2 (us := [v1, v2, v3]) (Or.inl ⟨rfl, rfl⟩) (by decide) (by decide) (by decide) (by decide) (by decide) rfl (by decide) N4 g_b2 (g := (mkF m 27 #[rv a1, iv (1 : Int32), iv (4 : Int32), iv (3 : Int32), rv b2] [(.int (3 : Int32)), (.int (0 : Int32)), (.ref b2), (.int (1 : Int32)), (.ref a1)])) rfl (by rw [hml]; rfl) rfl (hb hby own_d6_27) (by decide) (W := 0) (by show 2 * 0 + _ ≤ _; exact Nat.le_of_eq rfl) (by decide)
  refine own_go st5 ?_
  replace Va := Va.keep K5 (ninS ne_a1_b2 nin0)
  replace Kp := Kp.trans K5 (allS (Or.inr sz_b2) all0)
  replace Ea_b2 := Ea_b2.keep K5
  replace V_b2 : Arv Z h5 b2 k2 .byte (3 : Int32) [v1, v2, v3] (.int (0 : Int32)) := V5
  show own_Go p e below s _ _ _ (T5.setTop (mkF m 30 #[rv a1, iv (1 : Int32), iv (4 : Int32), iv (3 : Int32), rv b2] []))
  refine own_go (fun zt zk => (XS.aload X5.here hx rfl (hb hby own_d6_30) rfl rfl zk)) ?_
  show own_Go p e below s _ _ _ (T5.setTop (mkF m 32 #[rv a1, iv (1 : Int32), iv (4 : Int32), iv (3 : Int32), rv b2] [(.ref b2)]))
  exact own_fin X5 Bd.notSynchronized (fun h => by rw [Bd.returns] at h; cases h) (fun fs hr => retOut X5 hx (t := (.array .byte)) (w := (.ref b2)) Bd.returns rfl (Or.inr (Or.inr (Or.inr (Or.inr ⟨rfl, rfl, rfl⟩)))) (hb hby own_d6_32) hr) (by rw [e5]; exact ⟨_, _, rfl, N5, Kp, sz_b2, Ea_b2, V_b2⟩) (by decide) (by decide)
theorem own_ef_own_rcr14 (m : MethodId) (a1 : Addr) : entryFrame m #[(.ref a1), (.int (1 : Int32)), (.int (4 : Int32))] 3 = mkF m 0 #[rv a1, iv (1 : Int32), iv (4 : Int32)] [] := by first | (simp [entryFrame, mkF, argsToLocals, Value.category]; done) | rfl
def own_Q_own_rcr14 (Z : State) (a1 : Addr) (k1 : ClassId) (v0 v1 v2 v3 : Value) (h0 : Heap) (n0 : Nat) (v : Option Value) (h : Heap) (L : List Loc) : Prop := ∃ b k, v = some (.ref b) ∧ Fr n0 L ∧ Keep h0 h [] ∧ h0.size ≤ b ∧ Exa Z h b "[B" ∧ Arv Z h b k .byte (3 : Int32) [v1, v2, v3] (.int (0 : Int32))
set_option maxRecDepth 65536 in
set_option maxHeartbeats 40000000 in
theorem own_rcr14 (l : Launch) (Z : State) (a0 : Array Value) (hw : ∀ d ∈ tables_1, d.before a0 Z = true) (ws : List Jvm.Cond) (a1 : Addr) (k1 : ClassId) (v0 v1 v2 v3 : Value) (h0 : Heap) (n0 : Nat) (Z0 : n0 ≤ h0.size) (Va : Arv Z h0 a1 k1 .byte (4 : Int32) [v0, v1, v2, v3] (.int (0 : Int32))) (Ea : Exa Z h0 a1 "[B")  :
    MetFree l (⟨"java/util/Arrays", "copyOfRange", "([BII)[B"⟩ : MethodName) (head1 (Jvm.Cond.code (⟨"java/util/Arrays", "copyOfRange", "([BII)[B"⟩ : MethodName) jdk_65_method_132_code 3 (some (.array .byte)) :: ws) ({ frames := 2, cells := 1, slots := 3, locals := 48 } : Room)) (fun a U => a = #[(.ref a1), (.int (1 : Int32)), (.int (4 : Int32))] ∧ Z.Warmed39 U.vm ∧ U.heap = h0) (fun _ _ _ _ _ => True) (fun _ U o U' => ∃ v L, o = .returned v ∧ own_Q_own_rcr14 Z a1 k1 v0 v1 v2 v3 h0 n0 v U'.heap L ∧ FrameEnd U o U' L ({ frames := 2, cells := 1, slots := 3, locals := 48 } : Room).cells ({ frames := 2, cells := 1, slots := 3, locals := 48 } : Room).slots) := by
  refine MetFree.of_bodySF (plainFor_of_name own_pn_java_util_Arrays) hisR ?_
  intro p e s m args below meth c s₁ Bd hml0 hP hK
  obtain ⟨rfl, hZ, hh⟩ := hP
  have hx := Bd.exec
  have hby := Bd.bytes
  have hml : c.maxLocals = 3 := hml0
  have hown : s.vm.findClass "java/util/Arrays" = some m.cls := findClass_of_methodNamed Bd.named
  have hnm := (name_of_methodNamed Bd.named Bd.method).1
  have X0 : Stand p l e ({ frames := 2, cells := 1, slots := 3, locals := 48 } : Room) s m #[(.ref a1), (.int (1 : Int32)), (.int (4 : Int32))] below meth c s₁ [] 0 0 := Stand.of_body Bd
  have e0 : s₁.heap = h0 := by rw [← hh, Bd.state]; rfl
  have N0 := Fr.nil n0
  have Kp : Keep h0 h0 [] := Keep.refl h0 _
  show own_Go p e below s (own_Q_own_rcr14 Z a1 k1 v0 v1 v2 v3 h0 n0) ({ frames := 2, cells := 1, slots := 3, locals := 48 } : Room).cells ({ frames := 2, cells := 1, slots := 3, locals := 48 } : Room).slots (s₁.setTop (entryFrame m #[(.ref a1), (.int (1 : Int32)), (.int (4 : Int32))] 3))
  refine own_go (fun zt zk => castTop (own_ef_own_rcr14 m a1) zk) ?_
  show own_Go p e below s _ _ _ (s₁.setTop (mkF m 0 #[rv a1, iv (1 : Int32), iv (4 : Int32)] []))
  refine own_go (fun zt zk => (XS.iloadN X0.here hx rfl (hb hby own_d5_0) rfl (XS.ifYes X0.here hx rfl (pc0 := 1) (pc' := 10) rfl (hb hby own_d5_1) rfl ((if0 _ _).trans (feq ((by decide) : ¬ ((1 : Int32) = (0 : Int32)))).2) (by decide) (by decide) (XS.aloadN X0.here hx rfl (hb hby own_d5_10) rfl rfl (XS.iloadN X0.here hx rfl (hb hby own_d5_11) rfl (XS.iloadN X0.here hx rfl (hb hby own_d5_12) rfl zk)))))) ?_
  show own_Go p e below s _ _ _ (s₁.setTop (mkF m 13 #[rv a1, iv (1 : Int32), iv (4 : Int32)] [(.int (4 : Int32)), (.int (1 : Int32)), (.ref a1)]))
  obtain ⟨_, _, ⟨T1, L1, k1, n1⟩, -, X1, ⟨Lc1, hQ1, l1, y1, z1⟩, st1⟩ := Jvm.LawKit.callS X0 hx (y := (⟨"java/util/Arrays", "copyOfRangeByte", "([BII)[B"⟩ : MethodName)) hown (mvT hZ (hw _ (List.mem_of_getElem? (i := 29) rfl))) (mvT hZ (hw _ (List.mem_of_getElem? (i := 30) rfl))) (mvT hZ (hw _ (List.mem_of_getElem? (i := 27) rfl))) (mvT hZ (hw _ (List.mem_of_getElem? (i := 31) rfl))) (by decide) (backOf (W := 0) (own_rcrb14 l Z a0 hw [] a1 k1 v0 v1 v2 v3 h0 n0 Z0 Va) hZ (hw _ (List.mem_of_getElem? (i := 31) rfl)) (hw _ (List.mem_of_getElem? (i := 27) rfl)) (by decide) (by decide)) (g := (mkF m 13 #[rv a1, iv (1 : Int32), iv (4 : Int32)] [(.int (4 : Int32)), (.int (1 : Int32)), (.ref a1)])) rfl (by rw [hml]; rfl) (argsL := [(.ref a1), (.int (1 : Int32)), (.int (4 : Int32))]) (rest := []) (lenOf own_pd___BII__B rfl) rfl (by show 2 * 0 + _ ≤ _; exact Nat.le_of_eq rfl) (hb hby own_d5_13) (fun _ _ => ⟨rfl, e0, (by decide : 0 + 1 ≤ _), (by decide : 0 + 3 ≤ _)⟩)
  dsimp only [Pt.U, Pt.locs, Pt.cells, Pt.slots] at X1 l1 y1 z1 st1 hQ1
  subst l1 y1 z1
  obtain ⟨b1, k1', rfl, Nq1, K1, sz_b1, Ea_b1, V_b1⟩ := hQ1
  have N1 := Fr.app N0 Nq1
  refine own_go st1 ?_
  replace Va := Va.keep K1 nin0
  replace Ea := Ea.keep K1
  replace Kp := Kp.trans K1 all0
  show own_Go p e below s _ _ _ (T1.setTop (mkF m 16 #[rv a1, iv (1 : Int32), iv (4 : Int32)] [(.ref b1)]))
  exact own_fin X1 Bd.notSynchronized (fun h => by rw [Bd.returns] at h; cases h) (fun fs hr => retOut X1 hx (t := (.array .byte)) (w := (.ref b1)) Bd.returns rfl (Or.inr (Or.inr (Or.inr (Or.inr ⟨rfl, rfl, rfl⟩)))) (hb hby own_d5_16) hr) ⟨_, _, rfl, N1, Kp, sz_b1, Ea_b1, V_b1⟩ (by decide) (by decide)
theorem own_ef_own_rbi14 (m : MethodId) (a0' : Addr) (a1 : Addr) : entryFrame m #[(.ref a0'), (.ref a1)] 2 = mkF m 0 #[rv a0', rv a1] [] := by first | (simp [entryFrame, mkF, argsToLocals, Value.category]; done) | rfl
def own_Q_own_rbi14 (Z : State) (a0' : Addr) (a1 : Addr) (k1 : ClassId) (v0 v1 v2 v3 : Value) (h0 : Heap) (n0 : Nat) (v : Option Value) (h : Heap) (L : List Loc) : Prop := ∃ b k, v = some (.ref b) ∧ Fr n0 L ∧ Keep h0 h [] ∧ h0.size ≤ b ∧ Exa Z h b "[B" ∧ Arv Z h b k .byte (3 : Int32) [v1, v2, v3] (.int (0 : Int32))
set_option maxRecDepth 65536 in
set_option maxHeartbeats 40000000 in
theorem own_rbi14 (l : Launch) (Z : State) (a0 : Array Value) (hw : ∀ d ∈ tables_1, d.before a0 Z = true) (ws : List Jvm.Cond) (a0' : Addr) (a1 : Addr) (k1 : ClassId) (v0 v1 v2 v3 : Value) (h0 : Heap) (n0 : Nat) (Z0 : n0 ≤ h0.size) (Va : Arv Z h0 a1 k1 .byte (4 : Int32) [v0, v1, v2, v3] (.int (0 : Int32))) (Ea : Exa Z h0 a1 "[B") (Fs : Fld Z h0 a0' "com/example/tranche/tranche/model/Span" "start" "I" (.int (1 : Int32))) (Fe : Fld Z h0 a0' "com/example/tranche/tranche/model/Span" "end" "I" (.int (4 : Int32)))  :
    MetFree l (⟨"com/example/tranche/tranche/model/Span", "bytesIn", "([B)[B"⟩ : MethodName) (head1 (Jvm.Cond.code (⟨"com/example/tranche/tranche/model/Span", "bytesIn", "([B)[B"⟩ : MethodName) prog_34_method_2_code 2 (some (.array .byte)) :: ws) ({ frames := 3, cells := 1, slots := 3, locals := 62 } : Room)) (fun a U => a = #[(.ref a0'), (.ref a1)] ∧ Z.Warmed39 U.vm ∧ U.heap = h0) (fun _ _ _ _ _ => True) (fun _ U o U' => ∃ v L, o = .returned v ∧ own_Q_own_rbi14 Z a0' a1 k1 v0 v1 v2 v3 h0 n0 v U'.heap L ∧ FrameEnd U o U' L ({ frames := 3, cells := 1, slots := 3, locals := 62 } : Room).cells ({ frames := 3, cells := 1, slots := 3, locals := 62 } : Room).slots) := by
  refine MetFree.of_bodySF (plainFor_of_name own_pn_com_example_tranche_tranche_model_Span) hisR ?_
  intro p e s m args below meth c s₁ Bd hml0 hP hK
  obtain ⟨rfl, hZ, hh⟩ := hP
  have hx := Bd.exec
  have hby := Bd.bytes
  have hml : c.maxLocals = 2 := hml0
  have hown : s.vm.findClass "com/example/tranche/tranche/model/Span" = some m.cls := findClass_of_methodNamed Bd.named
  have hnm := (name_of_methodNamed Bd.named Bd.method).1
  have X0 : Stand p l e ({ frames := 3, cells := 1, slots := 3, locals := 62 } : Room) s m #[(.ref a0'), (.ref a1)] below meth c s₁ [] 0 0 := Stand.of_body Bd
  have e0 : s₁.heap = h0 := by rw [← hh, Bd.state]; rfl
  have N0 := Fr.nil n0
  have Kp : Keep h0 h0 [] := Keep.refl h0 _
  show own_Go p e below s (own_Q_own_rbi14 Z a0' a1 k1 v0 v1 v2 v3 h0 n0) ({ frames := 3, cells := 1, slots := 3, locals := 62 } : Room).cells ({ frames := 3, cells := 1, slots := 3, locals := 62 } : Room).slots (s₁.setTop (entryFrame m #[(.ref a0'), (.ref a1)] 2))
  refine own_go (fun zt zk => castTop (own_ef_own_rbi14 m a0' a1) zk) ?_
  show own_Go p e below s _ _ _ (s₁.setTop (mkF m 0 #[rv a0', rv a1] []))
  refine own_go (fun zt zk => (XS.aloadN X0.here hx rfl (hb hby own_d4_0) rfl rfl zk)) ?_
  show own_Go p e below s _ _ _ (s₁.setTop (mkF m 1 #[rv a0', rv a1] [(.ref a0')]))
  obtain ⟨T1, X1, e1, st1⟩ := getF X0 hx hZ hown (host := "") (Or.inl (hw _ (List.mem_of_getElem? (i := 18) rfl))) Via.refl e0 Fe (g := (mkF m 1 #[rv a0', rv a1] [(.ref a0')])) rfl rfl (hb hby own_d4_1)
  refine own_go st1 ?_
  show own_Go p e below s _ _ _ (T1.setTop (mkF m 4 #[rv a0', rv a1] [(.int (4 : Int32))]))
  refine own_go (fun zt zk => (XS.aloadN X1.here hx rfl (hb hby own_d4_4) rfl rfl zk)) ?_
  show own_Go p e below s _ _ _ (T1.setTop (mkF m 5 #[rv a0', rv a1] [(.ref a1), (.int (4 : Int32))]))
  obtain ⟨cl2, Ar2, -, Sz2, Nz2, -, -⟩ := id Va
  refine own_go (X1.arraylength hx (by rw [e1]; exact Ar2.1) (State.isArrayOf_alike hZ.alike Ar2.2.1) (g := (mkF m 5 #[rv a0', rv a1] [(.ref a1), (.int (4 : Int32))])) rfl rfl (hb hby own_d4_5)) ?_
  rw [len_of Sz2 Nz2]
  show own_Go p e below s _ _ _ (T1.setTop (mkF m 6 #[rv a0', rv a1] [(.int (4 : Int32)), (.int (4 : Int32))]))
  refine own_go (fun zt zk => (XS.icmpYes X1.here hx rfl (pc0 := 6) (pc' := 32) rfl (hb hby own_d4_6) rfl (flt ((own_irr _) : ¬ ((4 : Int32) < (4 : Int32)))).2.2.2 (by decide) (by decide) (XS.aloadN X1.here hx rfl (hb hby own_d4_32) rfl rfl (XS.aloadN X1.here hx rfl (hb hby own_d4_33) rfl rfl zk)))) ?_
  show own_Go p e below s _ _ _ (T1.setTop (mkF m 34 #[rv a0', rv a1] [(.ref a0'), (.ref a1)]))
  obtain ⟨T3, X3, e3, st3⟩ := getF X1 hx hZ hown (host := "") (Or.inl (hw _ (List.mem_of_getElem? (i := 16) rfl))) Via.refl e1 Fs (g := (mkF m 34 #[rv a0', rv a1] [(.ref a0'), (.ref a1)])) rfl rfl (hb hby own_d4_34)
  refine own_go st3 ?_
  show own_Go p e below s _ _ _ (T3.setTop (mkF m 37 #[rv a0', rv a1] [(.int (1 : Int32)), (.ref a1)]))
  refine own_go (fun zt zk => (XS.aloadN X3.here hx rfl (hb hby own_d4_37) rfl rfl zk)) ?_
  show own_Go p e below s _ _ _ (T3.setTop (mkF m 38 #[rv a0', rv a1] [(.ref a0'), (.int (1 : Int32)), (.ref a1)]))
  obtain ⟨T4, X4, e4, st4⟩ := getF X3 hx hZ hown (host := "") (Or.inl (hw _ (List.mem_of_getElem? (i := 18) rfl))) Via.refl e3 Fe (g := (mkF m 38 #[rv a0', rv a1] [(.ref a0'), (.int (1 : Int32)), (.ref a1)])) rfl rfl (hb hby own_d4_38)
  refine own_go st4 ?_
  show own_Go p e below s _ _ _ (T4.setTop (mkF m 41 #[rv a0', rv a1] [(.int (4 : Int32)), (.int (1 : Int32)), (.ref a1)]))
  obtain ⟨_, _, ⟨T5, L5, k5, n5⟩, -, X5, ⟨Lc5, hQ5, l5, y5, z5⟩, st5⟩ := Jvm.LawKit.callS X4 hx (y := (⟨"java/util/Arrays", "copyOfRange", "([BII)[B"⟩ : MethodName)) hown (mvT hZ (hw _ (List.mem_of_getElem? (i := 25) rfl))) (mvT hZ (hw _ (List.mem_of_getElem? (i := 26) rfl))) (mvT hZ (hw _ (List.mem_of_getElem? (i := 27) rfl))) (mvT hZ (hw _ (List.mem_of_getElem? (i := 28) rfl))) (by decide) (backOf (W := 0) (own_rcr14 l Z a0 hw [] a1 k1 v0 v1 v2 v3 h0 n0 Z0 Va Ea) hZ (hw _ (List.mem_of_getElem? (i := 28) rfl)) (hw _ (List.mem_of_getElem? (i := 27) rfl)) (by decide) (by decide)) (g := (mkF m 41 #[rv a0', rv a1] [(.int (4 : Int32)), (.int (1 : Int32)), (.ref a1)])) rfl (by rw [hml]; rfl) (argsL := [(.ref a1), (.int (1 : Int32)), (.int (4 : Int32))]) (rest := []) (lenOf own_pd___BII__B rfl) rfl (by show 2 * 0 + _ ≤ _; exact Nat.le_of_eq rfl) (hb hby own_d4_41) (fun _ _ => ⟨rfl, e4, (by decide : 0 + 1 ≤ _), (by decide : 0 + 3 ≤ _)⟩)
  dsimp only [Pt.U, Pt.locs, Pt.cells, Pt.slots] at X5 l5 y5 z5 st5 hQ5
  subst l5 y5 z5
  obtain ⟨b5, k5', rfl, Nq5, K5, sz_b5, Ea_b5, V_b5⟩ := hQ5
  have N5 := Fr.app N0 Nq5
  refine own_go st5 ?_
  replace Va := Va.keep K5 nin0
  replace Ea := Ea.keep K5
  replace Fs := Fs.keep K5 nin0
  replace Fe := Fe.keep K5 nin0
  replace Kp := Kp.trans K5 all0
  show own_Go p e below s _ _ _ (T5.setTop (mkF m 44 #[rv a0', rv a1] [(.ref b5)]))
  exact own_fin X5 Bd.notSynchronized (fun h => by rw [Bd.returns] at h; cases h) (fun fs hr => retOut X5 hx (t := (.array .byte)) (w := (.ref b5)) Bd.returns rfl (Or.inr (Or.inr (Or.inr (Or.inr ⟨rfl, rfl, rfl⟩)))) (hb hby own_d4_44) hr) ⟨_, _, rfl, N5, Kp, sz_b5, Ea_b5, V_b5⟩ (by decide) (by decide)
theorem own_ef_own_rcrb22 (m : MethodId) (a1 : Addr) : entryFrame m #[(.ref a1), (.int (2 : Int32)), (.int (2 : Int32))] 5 = mkF m 0 #[rv a1, iv (2 : Int32), iv (2 : Int32), .unset, .unset] [] := by first | (simp [entryFrame, mkF, argsToLocals, Value.category]; done) | rfl
def own_Q_own_rcrb22 (Z : State) (a1 : Addr) (k1 : ClassId) (v0 v1 v2 v3 : Value) (h0 : Heap) (n0 : Nat) (v : Option Value) (h : Heap) (L : List Loc) : Prop := ∃ b k, v = some (.ref b) ∧ Fr n0 L ∧ Keep h0 h [] ∧ h0.size ≤ b ∧ Exa Z h b "[B" ∧ Arv Z h b k .byte (0 : Int32) [] (.int (0 : Int32))
set_option maxRecDepth 65536 in
set_option maxHeartbeats 40000000 in
theorem own_rcrb22 (l : Launch) (Z : State) (a0 : Array Value) (hw : ∀ d ∈ tables_1, d.before a0 Z = true) (ws : List Jvm.Cond) (a1 : Addr) (k1 : ClassId) (v0 v1 v2 v3 : Value) (h0 : Heap) (n0 : Nat) (Z0 : n0 ≤ h0.size) (Va : Arv Z h0 a1 k1 .byte (4 : Int32) [v0, v1, v2, v3] (.int (0 : Int32)))  :
    MetFree l (⟨"java/util/Arrays", "copyOfRangeByte", "([BII)[B"⟩ : MethodName) (head1 (Jvm.Cond.code (⟨"java/util/Arrays", "copyOfRangeByte", "([BII)[B"⟩ : MethodName) jdk_65_method_133_code 5 (some (.array .byte)) :: ws) ({ frames := 1, cells := 1, slots := 0, locals := 32 } : Room)) (fun a U => a = #[(.ref a1), (.int (2 : Int32)), (.int (2 : Int32))] ∧ Z.Warmed39 U.vm ∧ U.heap = h0) (fun _ _ _ _ _ => True) (fun _ U o U' => ∃ v L, o = .returned v ∧ own_Q_own_rcrb22 Z a1 k1 v0 v1 v2 v3 h0 n0 v U'.heap L ∧ FrameEnd U o U' L ({ frames := 1, cells := 1, slots := 0, locals := 32 } : Room).cells ({ frames := 1, cells := 1, slots := 0, locals := 32 } : Room).slots) := by
  refine MetFree.of_bodySF (plainFor_of_name own_pn_java_util_Arrays) hisR ?_
  intro p e s m args below meth c s₁ Bd hml0 hP hK
  obtain ⟨rfl, hZ, hh⟩ := hP
  have hx := Bd.exec
  have hby := Bd.bytes
  have hml : c.maxLocals = 5 := hml0
  have hown : s.vm.findClass "java/util/Arrays" = some m.cls := findClass_of_methodNamed Bd.named
  have hnm := (name_of_methodNamed Bd.named Bd.method).1
  have X0 : Stand p l e ({ frames := 1, cells := 1, slots := 0, locals := 32 } : Room) s m #[(.ref a1), (.int (2 : Int32)), (.int (2 : Int32))] below meth c s₁ [] 0 0 := Stand.of_body Bd
  have e0 : s₁.heap = h0 := by rw [← hh, Bd.state]; rfl
  have N0 := Fr.nil n0
  have Kp : Keep h0 h0 [] := Keep.refl h0 _
  show own_Go p e below s (own_Q_own_rcrb22 Z a1 k1 v0 v1 v2 v3 h0 n0) ({ frames := 1, cells := 1, slots := 0, locals := 32 } : Room).cells ({ frames := 1, cells := 1, slots := 0, locals := 32 } : Room).slots (s₁.setTop (entryFrame m #[(.ref a1), (.int (2 : Int32)), (.int (2 : Int32))] 5))
  refine own_go (fun zt zk => castTop (own_ef_own_rcrb22 m a1) zk) ?_
  show own_Go p e below s _ _ _ (s₁.setTop (mkF m 0 #[rv a1, iv (2 : Int32), iv (2 : Int32), .unset, .unset] []))
  refine own_go (fun zt zk => (XS.iloadN X0.here hx rfl (hb hby own_d6_0) rfl (XS.iloadN X0.here hx rfl (hb hby own_d6_1) rfl zk))) ?_
  show own_Go p e below s _ _ _ (s₁.setTop (mkF m 2 #[rv a1, iv (2 : Int32), iv (2 : Int32), .unset, .unset] [(.int (2 : Int32)), (.int (2 : Int32))]))
  obtain ⟨_, _, ⟨T1, L1, k1, n1⟩, -, X1, ⟨Lc1, hQ1, l1, y1, z1⟩, st1⟩ := Jvm.LawKit.callS X0 hx (y := (⟨"java/util/Arrays", "checkLength", "(II)V"⟩ : MethodName)) hown (mvT hZ (hw _ (List.mem_of_getElem? (i := 32) rfl))) (mvT hZ (hw _ (List.mem_of_getElem? (i := 33) rfl))) (mvT hZ (hw _ (List.mem_of_getElem? (i := 27) rfl))) (mvT hZ (hw _ (List.mem_of_getElem? (i := 34) rfl))) (by decide) (backOf (W := 0) (own_rcl l Z a0 hw [] (2 : Int32) (2 : Int32)  h0 n0 Z0 (by decide)) hZ (hw _ (List.mem_of_getElem? (i := 34) rfl)) (hw _ (List.mem_of_getElem? (i := 27) rfl)) (by decide) (by decide)) (g := (mkF m 2 #[rv a1, iv (2 : Int32), iv (2 : Int32), .unset, .unset] [(.int (2 : Int32)), (.int (2 : Int32))])) rfl (by rw [hml]; rfl) (argsL := [(.int (2 : Int32)), (.int (2 : Int32))]) (rest := []) (lenOf own_pd__II_V rfl) rfl (by show 2 * 0 + _ ≤ _; exact Nat.le_of_eq rfl) (hb hby own_d6_2) (fun _ _ => ⟨rfl, e0, (by decide : 0 + 0 ≤ _), (by decide : 0 + 0 ≤ _)⟩)
  dsimp only [Pt.U, Pt.locs, Pt.cells, Pt.slots] at X1 l1 y1 z1 st1 hQ1
  subst l1 y1 z1
  obtain ⟨rfl, Nq1, e1⟩ := hQ1
  have N1 := Fr.app N0 Nq1
  refine own_go st1 ?_
  show own_Go p e below s _ _ _ (T1.setTop (mkF m 5 #[rv a1, iv (2 : Int32), iv (2 : Int32), .unset, .unset] []))
  refine own_go (fun zt zk => (XS.iloadN X1.here hx rfl (hb hby own_d6_5) rfl (XS.iloadN X1.here hx rfl (hb hby own_d6_6) rfl (XS.isub X1.here hx rfl (hb hby own_d6_7) rfl (XS.istoreN X1.here hx rfl (hb hby own_d6_8) rfl (l' := #[rv a1, iv (2 : Int32), iv (2 : Int32), iv (0 : Int32), .unset]) rfl (XS.iloadN X1.here hx rfl (hb hby own_d6_9) rfl zk)))))) ?_
  show own_Go p e below s _ _ _ (T1.setTop (mkF m 10 #[rv a1, iv (2 : Int32), iv (2 : Int32), iv (0 : Int32), .unset] [(.int (0 : Int32))]))
  obtain ⟨T2, h2, k2, X2, e2, E2, A2, Ea2, st2⟩ := newPE X1 hx hZ (hw _ (List.mem_of_getElem? (i := 0) rfl)) e1 (g := (mkF m 10 #[rv a1, iv (2 : Int32), iv (2 : Int32), iv (0 : Int32), .unset] [(.int (0 : Int32))])) rfl (hb hby own_d6_10) rfl (by decide) (cap := 0) (by decide) (by decide) (by decide) (by decide) (ad := "[B") (by decide)
  obtain ⟨b2, g2⟩ : ∃ z, z = h0.size := ⟨_, rfl⟩
  rw [← g2] at A2 Ea2 st2
  refine own_go st2 ?_
  have ne_a1_b2 : a1 ≠ b2 := Nat.ne_of_lt (Nat.lt_of_lt_of_le Va.lt (Nat.le_of_eq g2.symm))
  have sz_b2 : h0.size ≤ b2 := Nat.le_trans Kp.1 (Nat.le_of_eq g2.symm)
  have g_b2 : n0 ≤ b2 := Nat.le_trans Z0 sz_b2
  replace Va := Va.ext E2
  replace Kp := Kp.ext E2
  have V_b2 : Arv Z h2 b2 k2 .byte (0 : Int32) [] (.int (0 : Int32)) := (Arv.new A2 (by decide)).pad (pad_rep [] (.int (0 : Int32)) 0)
  have Ea_b2 := Ea2
  show own_Go p e below s _ _ _ (T2.setTop (mkF m 12 #[rv a1, iv (2 : Int32), iv (2 : Int32), iv (0 : Int32), .unset] [(.ref b2)]))
  refine own_go (fun zt zk => (XS.astore X2.here hx rfl (hb hby own_d6_12) rfl rfl (l' := #[rv a1, iv (2 : Int32), iv (2 : Int32), iv (0 : Int32), rv b2]) rfl (XS.aloadN X2.here hx rfl (hb hby own_d6_14) rfl rfl (XS.iloadN X2.here hx rfl (hb hby own_d6_15) rfl (XS.aload X2.here hx rfl (hb hby own_d6_16) rfl rfl (XS.iconst X2.here hx rfl (hb hby own_d6_18) (XS.aloadN X2.here hx rfl (hb hby own_d6_19) rfl rfl zk))))))) ?_
  show own_Go p e below s _ _ _ (T2.setTop (mkF m 20 #[rv a1, iv (2 : Int32), iv (2 : Int32), iv (0 : Int32), rv b2] [(.ref a1), (.int (0 : Int32)), (.ref b2), (.int (2 : Int32)), (.ref a1)]))
  obtain ⟨cl3, Ar3, -, Sz3, Nz3, -, -⟩ := id Va
  refine own_go (X2.arraylength hx (by rw [e2]; exact Ar3.1) (State.isArrayOf_alike hZ.alike Ar3.2.1) (g := (mkF m 20 #[rv a1, iv (2 : Int32), iv (2 : Int32), iv (0 : Int32), rv b2] [(.ref a1), (.int (0 : Int32)), (.ref b2), (.int (2 : Int32)), (.ref a1)])) rfl rfl (hb hby own_d6_20)) ?_
  rw [len_of Sz3 Nz3]
  show own_Go p e below s _ _ _ (T2.setTop (mkF m 21 #[rv a1, iv (2 : Int32), iv (2 : Int32), iv (0 : Int32), rv b2] [(.int (4 : Int32)), (.int (0 : Int32)), (.ref b2), (.int (2 : Int32)), (.ref a1)]))
  refine own_go (fun zt zk => (XS.iloadN X2.here hx rfl (hb hby own_d6_21) rfl (XS.isub X2.here hx rfl (hb hby own_d6_22) rfl (XS.iloadN X2.here hx rfl (hb hby own_d6_23) rfl zk)))) ?_
  show own_Go p e below s _ _ _ (T2.setTop (mkF m 24 #[rv a1, iv (2 : Int32), iv (2 : Int32), iv (0 : Int32), rv b2] [(.int (0 : Int32)), (.int (2 : Int32)), (.int (0 : Int32)), (.ref b2), (.int (2 : Int32)), (.ref a1)]))
  obtain ⟨_, _, ⟨T4, L4, k4, n4⟩, -, X4, ⟨Lc4, hQ4, l4, y4, z4⟩, st4⟩ := Jvm.LawKit.callS X2 hx (y := (⟨"java/lang/Math", "min", "(II)I"⟩ : MethodName)) hown (mvT hZ (hw _ (List.mem_of_getElem? (i := 35) rfl))) (mvT hZ (hw _ (List.mem_of_getElem? (i := 36) rfl))) (mvT hZ (hw _ (List.mem_of_getElem? (i := 37) rfl))) (mvT hZ (hw _ (List.mem_of_getElem? (i := 38) rfl))) (by decide) (backOf (W := 4) (own_rmin l Z a0 hw [] (2 : Int32) (0 : Int32)  h2 n0 (Nat.le_trans Z0 Kp.1) ) hZ (hw _ (List.mem_of_getElem? (i := 38) rfl)) (hw _ (List.mem_of_getElem? (i := 37) rfl)) (by decide) (by decide)) (g := (mkF m 24 #[rv a1, iv (2 : Int32), iv (2 : Int32), iv (0 : Int32), rv b2] [(.int (0 : Int32)), (.int (2 : Int32)), (.int (0 : Int32)), (.ref b2), (.int (2 : Int32)), (.ref a1)])) rfl (by rw [hml]; rfl) (argsL := [(.int (2 : Int32)), (.int (0 : Int32))]) (rest := [(.int (0 : Int32)), (.ref b2), (.int (2 : Int32)), (.ref a1)]) (lenOf own_pd__II_I rfl) rfl (by show 2 * 0 + _ ≤ _; exact Nat.le_of_eq rfl) (hb hby own_d6_24) (fun _ _ => ⟨rfl, e2, (by decide : 1 + 0 ≤ _), (by decide : 0 + 0 ≤ _)⟩)
  dsimp only [Pt.U, Pt.locs, Pt.cells, Pt.slots] at X4 l4 y4 z4 st4 hQ4
  subst l4 y4 z4
  obtain ⟨rfl, Nq4, e4⟩ := hQ4
  have N4 := Fr.app N1 Nq4
  refine own_go st4 ?_
  show own_Go p e below s _ _ _ (T4.setTop (mkF m 27 #[rv a1, iv (2 : Int32), iv (2 : Int32), iv (0 : Int32), rv b2] [(.int (0 : Int32)), (.int (0 : Int32)), (.ref b2), (.int (2 : Int32)), (.ref a1)]))
  obtain ⟨T5, h5, L5, X5, e5, N5, K5, V5, st5⟩ := cpA X4 hx hZ hown (hw _ (List.mem_of_getElem? (i := 39) rfl)) (hw _ (List.mem_of_getElem? (i := 42) rfl)) (hw _ (List.mem_of_getElem? (i := 40) rfl)) (hw _ (List.mem_of_getElem? (i := 41) rfl)) e4 Va V_b2 (us := []) (Or.inl ⟨rfl, rfl⟩) (by decide) (by decide) (by decide) (by decide) (by decide) rfl (by decide) N4 g_b2 (g := (mkF m 27 #[rv a1, iv (2 : Int32), iv (2 : Int32), iv (0 : Int32), rv b2] [(.int (0 : Int32)), (.int (0 : Int32)), (.ref b2), (.int (2 : Int32)), (.ref a1)])) rfl (by rw [hml]; rfl) rfl (hb hby own_d6_27) (by decide) (W := 0) (by show 2 * 0 + _ ≤ _; exact Nat.le_of_eq rfl) (by decide)
  refine own_go st5 ?_
  replace Va := Va.keep K5 (ninS ne_a1_b2 nin0)
  replace Kp := Kp.trans K5 (allS (Or.inr sz_b2) all0)
  replace Ea_b2 := Ea_b2.keep K5
  replace V_b2 : Arv Z h5 b2 k2 .byte (0 : Int32) [] (.int (0 : Int32)) := V5
  show own_Go p e below s _ _ _ (T5.setTop (mkF m 30 #[rv a1, iv (2 : Int32), iv (2 : Int32), iv (0 : Int32), rv b2] []))
  refine own_go (fun zt zk => (XS.aload X5.here hx rfl (hb hby own_d6_30) rfl rfl zk)) ?_
  show own_Go p e below s _ _ _ (T5.setTop (mkF m 32 #[rv a1, iv (2 : Int32), iv (2 : Int32), iv (0 : Int32), rv b2] [(.ref b2)]))
  exact own_fin X5 Bd.notSynchronized (fun h => by rw [Bd.returns] at h; cases h) (fun fs hr => retOut X5 hx (t := (.array .byte)) (w := (.ref b2)) Bd.returns rfl (Or.inr (Or.inr (Or.inr (Or.inr ⟨rfl, rfl, rfl⟩)))) (hb hby own_d6_32) hr) (by rw [e5]; exact ⟨_, _, rfl, N5, Kp, sz_b2, Ea_b2, V_b2⟩) (by decide) (by decide)
theorem own_ef_own_rcr22 (m : MethodId) (a1 : Addr) : entryFrame m #[(.ref a1), (.int (2 : Int32)), (.int (2 : Int32))] 3 = mkF m 0 #[rv a1, iv (2 : Int32), iv (2 : Int32)] [] := by first | (simp [entryFrame, mkF, argsToLocals, Value.category]; done) | rfl
def own_Q_own_rcr22 (Z : State) (a1 : Addr) (k1 : ClassId) (v0 v1 v2 v3 : Value) (h0 : Heap) (n0 : Nat) (v : Option Value) (h : Heap) (L : List Loc) : Prop := ∃ b k, v = some (.ref b) ∧ Fr n0 L ∧ Keep h0 h [] ∧ h0.size ≤ b ∧ Exa Z h b "[B" ∧ Arv Z h b k .byte (0 : Int32) [] (.int (0 : Int32))
set_option maxRecDepth 65536 in
set_option maxHeartbeats 40000000 in
theorem own_rcr22 (l : Launch) (Z : State) (a0 : Array Value) (hw : ∀ d ∈ tables_1, d.before a0 Z = true) (ws : List Jvm.Cond) (a1 : Addr) (k1 : ClassId) (v0 v1 v2 v3 : Value) (h0 : Heap) (n0 : Nat) (Z0 : n0 ≤ h0.size) (Va : Arv Z h0 a1 k1 .byte (4 : Int32) [v0, v1, v2, v3] (.int (0 : Int32))) (Ea : Exa Z h0 a1 "[B")  :
    MetFree l (⟨"java/util/Arrays", "copyOfRange", "([BII)[B"⟩ : MethodName) (head1 (Jvm.Cond.code (⟨"java/util/Arrays", "copyOfRange", "([BII)[B"⟩ : MethodName) jdk_65_method_132_code 3 (some (.array .byte)) :: ws) ({ frames := 2, cells := 1, slots := 0, locals := 48 } : Room)) (fun a U => a = #[(.ref a1), (.int (2 : Int32)), (.int (2 : Int32))] ∧ Z.Warmed39 U.vm ∧ U.heap = h0) (fun _ _ _ _ _ => True) (fun _ U o U' => ∃ v L, o = .returned v ∧ own_Q_own_rcr22 Z a1 k1 v0 v1 v2 v3 h0 n0 v U'.heap L ∧ FrameEnd U o U' L ({ frames := 2, cells := 1, slots := 0, locals := 48 } : Room).cells ({ frames := 2, cells := 1, slots := 0, locals := 48 } : Room).slots) := by
  refine MetFree.of_bodySF (plainFor_of_name own_pn_java_util_Arrays) hisR ?_
  intro p e s m args below meth c s₁ Bd hml0 hP hK
  obtain ⟨rfl, hZ, hh⟩ := hP
  have hx := Bd.exec
  have hby := Bd.bytes
  have hml : c.maxLocals = 3 := hml0
  have hown : s.vm.findClass "java/util/Arrays" = some m.cls := findClass_of_methodNamed Bd.named
  have hnm := (name_of_methodNamed Bd.named Bd.method).1
  have X0 : Stand p l e ({ frames := 2, cells := 1, slots := 0, locals := 48 } : Room) s m #[(.ref a1), (.int (2 : Int32)), (.int (2 : Int32))] below meth c s₁ [] 0 0 := Stand.of_body Bd
  have e0 : s₁.heap = h0 := by rw [← hh, Bd.state]; rfl
  have N0 := Fr.nil n0
  have Kp : Keep h0 h0 [] := Keep.refl h0 _
  show own_Go p e below s (own_Q_own_rcr22 Z a1 k1 v0 v1 v2 v3 h0 n0) ({ frames := 2, cells := 1, slots := 0, locals := 48 } : Room).cells ({ frames := 2, cells := 1, slots := 0, locals := 48 } : Room).slots (s₁.setTop (entryFrame m #[(.ref a1), (.int (2 : Int32)), (.int (2 : Int32))] 3))
  refine own_go (fun zt zk => castTop (own_ef_own_rcr22 m a1) zk) ?_
  show own_Go p e below s _ _ _ (s₁.setTop (mkF m 0 #[rv a1, iv (2 : Int32), iv (2 : Int32)] []))
  refine own_go (fun zt zk => (XS.iloadN X0.here hx rfl (hb hby own_d5_0) rfl (XS.ifYes X0.here hx rfl (pc0 := 1) (pc' := 10) rfl (hb hby own_d5_1) rfl ((if0 _ _).trans (feq ((by decide) : ¬ ((2 : Int32) = (0 : Int32)))).2) (by decide) (by decide) (XS.aloadN X0.here hx rfl (hb hby own_d5_10) rfl rfl (XS.iloadN X0.here hx rfl (hb hby own_d5_11) rfl (XS.iloadN X0.here hx rfl (hb hby own_d5_12) rfl zk)))))) ?_
  show own_Go p e below s _ _ _ (s₁.setTop (mkF m 13 #[rv a1, iv (2 : Int32), iv (2 : Int32)] [(.int (2 : Int32)), (.int (2 : Int32)), (.ref a1)]))
  obtain ⟨_, _, ⟨T1, L1, k1, n1⟩, -, X1, ⟨Lc1, hQ1, l1, y1, z1⟩, st1⟩ := Jvm.LawKit.callS X0 hx (y := (⟨"java/util/Arrays", "copyOfRangeByte", "([BII)[B"⟩ : MethodName)) hown (mvT hZ (hw _ (List.mem_of_getElem? (i := 29) rfl))) (mvT hZ (hw _ (List.mem_of_getElem? (i := 30) rfl))) (mvT hZ (hw _ (List.mem_of_getElem? (i := 27) rfl))) (mvT hZ (hw _ (List.mem_of_getElem? (i := 31) rfl))) (by decide) (backOf (W := 0) (own_rcrb22 l Z a0 hw [] a1 k1 v0 v1 v2 v3 h0 n0 Z0 Va) hZ (hw _ (List.mem_of_getElem? (i := 31) rfl)) (hw _ (List.mem_of_getElem? (i := 27) rfl)) (by decide) (by decide)) (g := (mkF m 13 #[rv a1, iv (2 : Int32), iv (2 : Int32)] [(.int (2 : Int32)), (.int (2 : Int32)), (.ref a1)])) rfl (by rw [hml]; rfl) (argsL := [(.ref a1), (.int (2 : Int32)), (.int (2 : Int32))]) (rest := []) (lenOf own_pd___BII__B rfl) rfl (by show 2 * 0 + _ ≤ _; exact Nat.le_of_eq rfl) (hb hby own_d5_13) (fun _ _ => ⟨rfl, e0, (by decide : 0 + 1 ≤ _), (by decide : 0 + 0 ≤ _)⟩)
  dsimp only [Pt.U, Pt.locs, Pt.cells, Pt.slots] at X1 l1 y1 z1 st1 hQ1
  subst l1 y1 z1
  obtain ⟨b1, k1', rfl, Nq1, K1, sz_b1, Ea_b1, V_b1⟩ := hQ1
  have N1 := Fr.app N0 Nq1
  refine own_go st1 ?_
  replace Va := Va.keep K1 nin0
  replace Ea := Ea.keep K1
  replace Kp := Kp.trans K1 all0
  show own_Go p e below s _ _ _ (T1.setTop (mkF m 16 #[rv a1, iv (2 : Int32), iv (2 : Int32)] [(.ref b1)]))
  exact own_fin X1 Bd.notSynchronized (fun h => by rw [Bd.returns] at h; cases h) (fun fs hr => retOut X1 hx (t := (.array .byte)) (w := (.ref b1)) Bd.returns rfl (Or.inr (Or.inr (Or.inr (Or.inr ⟨rfl, rfl, rfl⟩)))) (hb hby own_d5_16) hr) ⟨_, _, rfl, N1, Kp, sz_b1, Ea_b1, V_b1⟩ (by decide) (by decide)
theorem own_ef_own_rbi22 (m : MethodId) (a0' : Addr) (a1 : Addr) : entryFrame m #[(.ref a0'), (.ref a1)] 2 = mkF m 0 #[rv a0', rv a1] [] := by first | (simp [entryFrame, mkF, argsToLocals, Value.category]; done) | rfl
def own_Q_own_rbi22 (Z : State) (a0' : Addr) (a1 : Addr) (k1 : ClassId) (v0 v1 v2 v3 : Value) (h0 : Heap) (n0 : Nat) (v : Option Value) (h : Heap) (L : List Loc) : Prop := ∃ b k, v = some (.ref b) ∧ Fr n0 L ∧ Keep h0 h [] ∧ h0.size ≤ b ∧ Exa Z h b "[B" ∧ Arv Z h b k .byte (0 : Int32) [] (.int (0 : Int32))
set_option maxRecDepth 65536 in
set_option maxHeartbeats 40000000 in
theorem own_rbi22 (l : Launch) (Z : State) (a0 : Array Value) (hw : ∀ d ∈ tables_1, d.before a0 Z = true) (ws : List Jvm.Cond) (a0' : Addr) (a1 : Addr) (k1 : ClassId) (v0 v1 v2 v3 : Value) (h0 : Heap) (n0 : Nat) (Z0 : n0 ≤ h0.size) (Va : Arv Z h0 a1 k1 .byte (4 : Int32) [v0, v1, v2, v3] (.int (0 : Int32))) (Ea : Exa Z h0 a1 "[B") (Fs : Fld Z h0 a0' "com/example/tranche/tranche/model/Span" "start" "I" (.int (2 : Int32))) (Fe : Fld Z h0 a0' "com/example/tranche/tranche/model/Span" "end" "I" (.int (2 : Int32)))  :
    MetFree l (⟨"com/example/tranche/tranche/model/Span", "bytesIn", "([B)[B"⟩ : MethodName) (head1 (Jvm.Cond.code (⟨"com/example/tranche/tranche/model/Span", "bytesIn", "([B)[B"⟩ : MethodName) prog_34_method_2_code 2 (some (.array .byte)) :: ws) ({ frames := 3, cells := 1, slots := 0, locals := 62 } : Room)) (fun a U => a = #[(.ref a0'), (.ref a1)] ∧ Z.Warmed39 U.vm ∧ U.heap = h0) (fun _ _ _ _ _ => True) (fun _ U o U' => ∃ v L, o = .returned v ∧ own_Q_own_rbi22 Z a0' a1 k1 v0 v1 v2 v3 h0 n0 v U'.heap L ∧ FrameEnd U o U' L ({ frames := 3, cells := 1, slots := 0, locals := 62 } : Room).cells ({ frames := 3, cells := 1, slots := 0, locals := 62 } : Room).slots) := by
  refine MetFree.of_bodySF (plainFor_of_name own_pn_com_example_tranche_tranche_model_Span) hisR ?_
  intro p e s m args below meth c s₁ Bd hml0 hP hK
  obtain ⟨rfl, hZ, hh⟩ := hP
  have hx := Bd.exec
  have hby := Bd.bytes
  have hml : c.maxLocals = 2 := hml0
  have hown : s.vm.findClass "com/example/tranche/tranche/model/Span" = some m.cls := findClass_of_methodNamed Bd.named
  have hnm := (name_of_methodNamed Bd.named Bd.method).1
  have X0 : Stand p l e ({ frames := 3, cells := 1, slots := 0, locals := 62 } : Room) s m #[(.ref a0'), (.ref a1)] below meth c s₁ [] 0 0 := Stand.of_body Bd
  have e0 : s₁.heap = h0 := by rw [← hh, Bd.state]; rfl
  have N0 := Fr.nil n0
  have Kp : Keep h0 h0 [] := Keep.refl h0 _
  show own_Go p e below s (own_Q_own_rbi22 Z a0' a1 k1 v0 v1 v2 v3 h0 n0) ({ frames := 3, cells := 1, slots := 0, locals := 62 } : Room).cells ({ frames := 3, cells := 1, slots := 0, locals := 62 } : Room).slots (s₁.setTop (entryFrame m #[(.ref a0'), (.ref a1)] 2))
  refine own_go (fun zt zk => castTop (own_ef_own_rbi22 m a0' a1) zk) ?_
  show own_Go p e below s _ _ _ (s₁.setTop (mkF m 0 #[rv a0', rv a1] []))
  refine own_go (fun zt zk => (XS.aloadN X0.here hx rfl (hb hby own_d4_0) rfl rfl zk)) ?_
  show own_Go p e below s _ _ _ (s₁.setTop (mkF m 1 #[rv a0', rv a1] [(.ref a0')]))
  obtain ⟨T1, X1, e1, st1⟩ := getF X0 hx hZ hown (host := "") (Or.inl (hw _ (List.mem_of_getElem? (i := 18) rfl))) Via.refl e0 Fe (g := (mkF m 1 #[rv a0', rv a1] [(.ref a0')])) rfl rfl (hb hby own_d4_1)
  refine own_go st1 ?_
  show own_Go p e below s _ _ _ (T1.setTop (mkF m 4 #[rv a0', rv a1] [(.int (2 : Int32))]))
  refine own_go (fun zt zk => (XS.aloadN X1.here hx rfl (hb hby own_d4_4) rfl rfl zk)) ?_
  show own_Go p e below s _ _ _ (T1.setTop (mkF m 5 #[rv a0', rv a1] [(.ref a1), (.int (2 : Int32))]))
  obtain ⟨cl2, Ar2, -, Sz2, Nz2, -, -⟩ := id Va
  refine own_go (X1.arraylength hx (by rw [e1]; exact Ar2.1) (State.isArrayOf_alike hZ.alike Ar2.2.1) (g := (mkF m 5 #[rv a0', rv a1] [(.ref a1), (.int (2 : Int32))])) rfl rfl (hb hby own_d4_5)) ?_
  rw [len_of Sz2 Nz2]
  show own_Go p e below s _ _ _ (T1.setTop (mkF m 6 #[rv a0', rv a1] [(.int (4 : Int32)), (.int (2 : Int32))]))
  refine own_go (fun zt zk => (XS.icmpYes X1.here hx rfl (pc0 := 6) (pc' := 32) rfl (hb hby own_d4_6) rfl (flt ((by decide) : ¬ ((4 : Int32) < (2 : Int32)))).2.2.2 (by decide) (by decide) (XS.aloadN X1.here hx rfl (hb hby own_d4_32) rfl rfl (XS.aloadN X1.here hx rfl (hb hby own_d4_33) rfl rfl zk)))) ?_
  show own_Go p e below s _ _ _ (T1.setTop (mkF m 34 #[rv a0', rv a1] [(.ref a0'), (.ref a1)]))
  obtain ⟨T3, X3, e3, st3⟩ := getF X1 hx hZ hown (host := "") (Or.inl (hw _ (List.mem_of_getElem? (i := 16) rfl))) Via.refl e1 Fs (g := (mkF m 34 #[rv a0', rv a1] [(.ref a0'), (.ref a1)])) rfl rfl (hb hby own_d4_34)
  refine own_go st3 ?_
  show own_Go p e below s _ _ _ (T3.setTop (mkF m 37 #[rv a0', rv a1] [(.int (2 : Int32)), (.ref a1)]))
  refine own_go (fun zt zk => (XS.aloadN X3.here hx rfl (hb hby own_d4_37) rfl rfl zk)) ?_
  show own_Go p e below s _ _ _ (T3.setTop (mkF m 38 #[rv a0', rv a1] [(.ref a0'), (.int (2 : Int32)), (.ref a1)]))
  obtain ⟨T4, X4, e4, st4⟩ := getF X3 hx hZ hown (host := "") (Or.inl (hw _ (List.mem_of_getElem? (i := 18) rfl))) Via.refl e3 Fe (g := (mkF m 38 #[rv a0', rv a1] [(.ref a0'), (.int (2 : Int32)), (.ref a1)])) rfl rfl (hb hby own_d4_38)
  refine own_go st4 ?_
  show own_Go p e below s _ _ _ (T4.setTop (mkF m 41 #[rv a0', rv a1] [(.int (2 : Int32)), (.int (2 : Int32)), (.ref a1)]))
  obtain ⟨_, _, ⟨T5, L5, k5, n5⟩, -, X5, ⟨Lc5, hQ5, l5, y5, z5⟩, st5⟩ := Jvm.LawKit.callS X4 hx (y := (⟨"java/util/Arrays", "copyOfRange", "([BII)[B"⟩ : MethodName)) hown (mvT hZ (hw _ (List.mem_of_getElem? (i := 25) rfl))) (mvT hZ (hw _ (List.mem_of_getElem? (i := 26) rfl))) (mvT hZ (hw _ (List.mem_of_getElem? (i := 27) rfl))) (mvT hZ (hw _ (List.mem_of_getElem? (i := 28) rfl))) (by decide) (backOf (W := 0) (own_rcr22 l Z a0 hw [] a1 k1 v0 v1 v2 v3 h0 n0 Z0 Va Ea) hZ (hw _ (List.mem_of_getElem? (i := 28) rfl)) (hw _ (List.mem_of_getElem? (i := 27) rfl)) (by decide) (by decide)) (g := (mkF m 41 #[rv a0', rv a1] [(.int (2 : Int32)), (.int (2 : Int32)), (.ref a1)])) rfl (by rw [hml]; rfl) (argsL := [(.ref a1), (.int (2 : Int32)), (.int (2 : Int32))]) (rest := []) (lenOf own_pd___BII__B rfl) rfl (by show 2 * 0 + _ ≤ _; exact Nat.le_of_eq rfl) (hb hby own_d4_41) (fun _ _ => ⟨rfl, e4, (by decide : 0 + 1 ≤ _), (by decide : 0 + 0 ≤ _)⟩)
  dsimp only [Pt.U, Pt.locs, Pt.cells, Pt.slots] at X5 l5 y5 z5 st5 hQ5
  subst l5 y5 z5
  obtain ⟨b5, k5', rfl, Nq5, K5, sz_b5, Ea_b5, V_b5⟩ := hQ5
  have N5 := Fr.app N0 Nq5
  refine own_go st5 ?_
  replace Va := Va.keep K5 nin0
  replace Ea := Ea.keep K5
  replace Fs := Fs.keep K5 nin0
  replace Fe := Fe.keep K5 nin0
  replace Kp := Kp.trans K5 all0
  show own_Go p e below s _ _ _ (T5.setTop (mkF m 44 #[rv a0', rv a1] [(.ref b5)]))
  exact own_fin X5 Bd.notSynchronized (fun h => by rw [Bd.returns] at h; cases h) (fun fs hr => retOut X5 hx (t := (.array .byte)) (w := (.ref b5)) Bd.returns rfl (Or.inr (Or.inr (Or.inr (Or.inr ⟨rfl, rfl, rfl⟩)))) (hb hby own_d4_44) hr) ⟨_, _, rfl, N5, Kp, sz_b5, Ea_b5, V_b5⟩ (by decide) (by decide)
theorem own_ef_own_rcrb23 (m : MethodId) (a1 : Addr) : entryFrame m #[(.ref a1), (.int (2 : Int32)), (.int (3 : Int32))] 5 = mkF m 0 #[rv a1, iv (2 : Int32), iv (3 : Int32), .unset, .unset] [] := by first | (simp [entryFrame, mkF, argsToLocals, Value.category]; done) | rfl
def own_Q_own_rcrb23 (Z : State) (a1 : Addr) (k1 : ClassId) (v0 v1 v2 v3 : Value) (h0 : Heap) (n0 : Nat) (v : Option Value) (h : Heap) (L : List Loc) : Prop := ∃ b k, v = some (.ref b) ∧ Fr n0 L ∧ Keep h0 h [] ∧ h0.size ≤ b ∧ Exa Z h b "[B" ∧ Arv Z h b k .byte (1 : Int32) [v2] (.int (0 : Int32))
set_option maxRecDepth 65536 in
set_option maxHeartbeats 40000000 in
theorem own_rcrb23 (l : Launch) (Z : State) (a0 : Array Value) (hw : ∀ d ∈ tables_1, d.before a0 Z = true) (ws : List Jvm.Cond) (a1 : Addr) (k1 : ClassId) (v0 v1 v2 v3 : Value) (h0 : Heap) (n0 : Nat) (Z0 : n0 ≤ h0.size) (Va : Arv Z h0 a1 k1 .byte (4 : Int32) [v0, v1, v2, v3] (.int (0 : Int32)))  :
    MetFree l (⟨"java/util/Arrays", "copyOfRangeByte", "([BII)[B"⟩ : MethodName) (head1 (Jvm.Cond.code (⟨"java/util/Arrays", "copyOfRangeByte", "([BII)[B"⟩ : MethodName) jdk_65_method_133_code 5 (some (.array .byte)) :: ws) ({ frames := 1, cells := 1, slots := 1, locals := 32 } : Room)) (fun a U => a = #[(.ref a1), (.int (2 : Int32)), (.int (3 : Int32))] ∧ Z.Warmed39 U.vm ∧ U.heap = h0) (fun _ _ _ _ _ => True) (fun _ U o U' => ∃ v L, o = .returned v ∧ own_Q_own_rcrb23 Z a1 k1 v0 v1 v2 v3 h0 n0 v U'.heap L ∧ FrameEnd U o U' L ({ frames := 1, cells := 1, slots := 1, locals := 32 } : Room).cells ({ frames := 1, cells := 1, slots := 1, locals := 32 } : Room).slots) := by
  refine MetFree.of_bodySF (plainFor_of_name own_pn_java_util_Arrays) hisR ?_
  intro p e s m args below meth c s₁ Bd hml0 hP hK
  obtain ⟨rfl, hZ, hh⟩ := hP
  have hx := Bd.exec
  have hby := Bd.bytes
  have hml : c.maxLocals = 5 := hml0
  have hown : s.vm.findClass "java/util/Arrays" = some m.cls := findClass_of_methodNamed Bd.named
  have hnm := (name_of_methodNamed Bd.named Bd.method).1
  have X0 : Stand p l e ({ frames := 1, cells := 1, slots := 1, locals := 32 } : Room) s m #[(.ref a1), (.int (2 : Int32)), (.int (3 : Int32))] below meth c s₁ [] 0 0 := Stand.of_body Bd
  have e0 : s₁.heap = h0 := by rw [← hh, Bd.state]; rfl
  have N0 := Fr.nil n0
  have Kp : Keep h0 h0 [] := Keep.refl h0 _
  show own_Go p e below s (own_Q_own_rcrb23 Z a1 k1 v0 v1 v2 v3 h0 n0) ({ frames := 1, cells := 1, slots := 1, locals := 32 } : Room).cells ({ frames := 1, cells := 1, slots := 1, locals := 32 } : Room).slots (s₁.setTop (entryFrame m #[(.ref a1), (.int (2 : Int32)), (.int (3 : Int32))] 5))
  refine own_go (fun zt zk => castTop (own_ef_own_rcrb23 m a1) zk) ?_
  show own_Go p e below s _ _ _ (s₁.setTop (mkF m 0 #[rv a1, iv (2 : Int32), iv (3 : Int32), .unset, .unset] []))
  refine own_go (fun zt zk => (XS.iloadN X0.here hx rfl (hb hby own_d6_0) rfl (XS.iloadN X0.here hx rfl (hb hby own_d6_1) rfl zk))) ?_
  show own_Go p e below s _ _ _ (s₁.setTop (mkF m 2 #[rv a1, iv (2 : Int32), iv (3 : Int32), .unset, .unset] [(.int (3 : Int32)), (.int (2 : Int32))]))
  obtain ⟨_, _, ⟨T1, L1, k1, n1⟩, -, X1, ⟨Lc1, hQ1, l1, y1, z1⟩, st1⟩ := Jvm.LawKit.callS X0 hx (y := (⟨"java/util/Arrays", "checkLength", "(II)V"⟩ : MethodName)) hown (mvT hZ (hw _ (List.mem_of_getElem? (i := 32) rfl))) (mvT hZ (hw _ (List.mem_of_getElem? (i := 33) rfl))) (mvT hZ (hw _ (List.mem_of_getElem? (i := 27) rfl))) (mvT hZ (hw _ (List.mem_of_getElem? (i := 34) rfl))) (by decide) (backOf (W := 0) (own_rcl l Z a0 hw [] (2 : Int32) (3 : Int32)  h0 n0 Z0 (by decide)) hZ (hw _ (List.mem_of_getElem? (i := 34) rfl)) (hw _ (List.mem_of_getElem? (i := 27) rfl)) (by decide) (by decide)) (g := (mkF m 2 #[rv a1, iv (2 : Int32), iv (3 : Int32), .unset, .unset] [(.int (3 : Int32)), (.int (2 : Int32))])) rfl (by rw [hml]; rfl) (argsL := [(.int (2 : Int32)), (.int (3 : Int32))]) (rest := []) (lenOf own_pd__II_V rfl) rfl (by show 2 * 0 + _ ≤ _; exact Nat.le_of_eq rfl) (hb hby own_d6_2) (fun _ _ => ⟨rfl, e0, (by decide : 0 + 0 ≤ _), (by decide : 0 + 0 ≤ _)⟩)
  dsimp only [Pt.U, Pt.locs, Pt.cells, Pt.slots] at X1 l1 y1 z1 st1 hQ1
  subst l1 y1 z1
  obtain ⟨rfl, Nq1, e1⟩ := hQ1
  have N1 := Fr.app N0 Nq1
  refine own_go st1 ?_
  show own_Go p e below s _ _ _ (T1.setTop (mkF m 5 #[rv a1, iv (2 : Int32), iv (3 : Int32), .unset, .unset] []))
  refine own_go (fun zt zk => (XS.iloadN X1.here hx rfl (hb hby own_d6_5) rfl (XS.iloadN X1.here hx rfl (hb hby own_d6_6) rfl (XS.isub X1.here hx rfl (hb hby own_d6_7) rfl (XS.istoreN X1.here hx rfl (hb hby own_d6_8) rfl (l' := #[rv a1, iv (2 : Int32), iv (3 : Int32), iv (1 : Int32), .unset]) rfl (XS.iloadN X1.here hx rfl (hb hby own_d6_9) rfl zk)))))) ?_
  show own_Go p e below s _ _ _ (T1.setTop (mkF m 10 #[rv a1, iv (2 : Int32), iv (3 : Int32), iv (1 : Int32), .unset] [(.int (1 : Int32))]))
  obtain ⟨T2, h2, k2, X2, e2, E2, A2, Ea2, st2⟩ := newPE X1 hx hZ (hw _ (List.mem_of_getElem? (i := 0) rfl)) e1 (g := (mkF m 10 #[rv a1, iv (2 : Int32), iv (3 : Int32), iv (1 : Int32), .unset] [(.int (1 : Int32))])) rfl (hb hby own_d6_10) rfl (by decide) (cap := 1) (by decide) (by decide) (by decide) (by decide) (ad := "[B") (by decide)
  obtain ⟨b2, g2⟩ : ∃ z, z = h0.size := ⟨_, rfl⟩
  rw [← g2] at A2 Ea2 st2
  refine own_go st2 ?_
  have ne_a1_b2 : a1 ≠ b2 := Nat.ne_of_lt (Nat.lt_of_lt_of_le Va.lt (Nat.le_of_eq g2.symm))
  have sz_b2 : h0.size ≤ b2 := Nat.le_trans Kp.1 (Nat.le_of_eq g2.symm)
  have g_b2 : n0 ≤ b2 := Nat.le_trans Z0 sz_b2
  replace Va := Va.ext E2
  replace Kp := Kp.ext E2
  have V_b2 : Arv Z h2 b2 k2 .byte (1 : Int32) [(.int (0 : Int32))] (.int (0 : Int32)) := (Arv.new A2 (by decide)).pad (pad_rep [] (.int (0 : Int32)) 1)
  have Ea_b2 := Ea2
  show own_Go p e below s _ _ _ (T2.setTop (mkF m 12 #[rv a1, iv (2 : Int32), iv (3 : Int32), iv (1 : Int32), .unset] [(.ref b2)]))
  refine own_go (fun zt zk => (XS.astore X2.here hx rfl (hb hby own_d6_12) rfl rfl (l' := #[rv a1, iv (2 : Int32), iv (3 : Int32), iv (1 : Int32), rv b2]) rfl (XS.aloadN X2.here hx rfl (hb hby own_d6_14) rfl rfl (XS.iloadN X2.here hx rfl (hb hby own_d6_15) rfl (XS.aload X2.here hx rfl (hb hby own_d6_16) rfl rfl (XS.iconst X2.here hx rfl (hb hby own_d6_18) (XS.aloadN X2.here hx rfl (hb hby own_d6_19) rfl rfl zk))))))) ?_
  show own_Go p e below s _ _ _ (T2.setTop (mkF m 20 #[rv a1, iv (2 : Int32), iv (3 : Int32), iv (1 : Int32), rv b2] [(.ref a1), (.int (0 : Int32)), (.ref b2), (.int (2 : Int32)), (.ref a1)]))
  obtain ⟨cl3, Ar3, -, Sz3, Nz3, -, -⟩ := id Va
  refine own_go (X2.arraylength hx (by rw [e2]; exact Ar3.1) (State.isArrayOf_alike hZ.alike Ar3.2.1) (g := (mkF m 20 #[rv a1, iv (2 : Int32), iv (3 : Int32), iv (1 : Int32), rv b2] [(.ref a1), (.int (0 : Int32)), (.ref b2), (.int (2 : Int32)), (.ref a1)])) rfl rfl (hb hby own_d6_20)) ?_
  rw [len_of Sz3 Nz3]
  show own_Go p e below s _ _ _ (T2.setTop (mkF m 21 #[rv a1, iv (2 : Int32), iv (3 : Int32), iv (1 : Int32), rv b2] [(.int (4 : Int32)), (.int (0 : Int32)), (.ref b2), (.int (2 : Int32)), (.ref a1)]))
  refine own_go (fun zt zk => (XS.iloadN X2.here hx rfl (hb hby own_d6_21) rfl (XS.isub X2.here hx rfl (hb hby own_d6_22) rfl (XS.iloadN X2.here hx rfl (hb hby own_d6_23) rfl zk)))) ?_
  show own_Go p e below s _ _ _ (T2.setTop (mkF m 24 #[rv a1, iv (2 : Int32), iv (3 : Int32), iv (1 : Int32), rv b2] [(.int (1 : Int32)), (.int (2 : Int32)), (.int (0 : Int32)), (.ref b2), (.int (2 : Int32)), (.ref a1)]))
  obtain ⟨_, _, ⟨T4, L4, k4, n4⟩, -, X4, ⟨Lc4, hQ4, l4, y4, z4⟩, st4⟩ := Jvm.LawKit.callS X2 hx (y := (⟨"java/lang/Math", "min", "(II)I"⟩ : MethodName)) hown (mvT hZ (hw _ (List.mem_of_getElem? (i := 35) rfl))) (mvT hZ (hw _ (List.mem_of_getElem? (i := 36) rfl))) (mvT hZ (hw _ (List.mem_of_getElem? (i := 37) rfl))) (mvT hZ (hw _ (List.mem_of_getElem? (i := 38) rfl))) (by decide) (backOf (W := 4) (own_rmin l Z a0 hw [] (2 : Int32) (1 : Int32)  h2 n0 (Nat.le_trans Z0 Kp.1) ) hZ (hw _ (List.mem_of_getElem? (i := 38) rfl)) (hw _ (List.mem_of_getElem? (i := 37) rfl)) (by decide) (by decide)) (g := (mkF m 24 #[rv a1, iv (2 : Int32), iv (3 : Int32), iv (1 : Int32), rv b2] [(.int (1 : Int32)), (.int (2 : Int32)), (.int (0 : Int32)), (.ref b2), (.int (2 : Int32)), (.ref a1)])) rfl (by rw [hml]; rfl) (argsL := [(.int (2 : Int32)), (.int (1 : Int32))]) (rest := [(.int (0 : Int32)), (.ref b2), (.int (2 : Int32)), (.ref a1)]) (lenOf own_pd__II_I rfl) rfl (by show 2 * 0 + _ ≤ _; exact Nat.le_of_eq rfl) (hb hby own_d6_24) (fun _ _ => ⟨rfl, e2, (by decide : 1 + 0 ≤ _), (by decide : 1 + 0 ≤ _)⟩)
  dsimp only [Pt.U, Pt.locs, Pt.cells, Pt.slots] at X4 l4 y4 z4 st4 hQ4
  subst l4 y4 z4
  obtain ⟨rfl, Nq4, e4⟩ := hQ4
  have N4 := Fr.app N1 Nq4
  refine own_go st4 ?_
  show own_Go p e below s _ _ _ (T4.setTop (mkF m 27 #[rv a1, iv (2 : Int32), iv (3 : Int32), iv (1 : Int32), rv b2] [(.int (1 : Int32)), (.int (0 : Int32)), (.ref b2), (.int (2 : Int32)), (.ref a1)]))
  obtain ⟨T5, h5, L5, X5, e5, N5, K5, V5, st5⟩ := cpA X4 hx hZ hown (hw _ (List.mem_of_getElem? (i := 39) rfl)) (hw _ (List.mem_of_getElem? (i := 42) rfl)) (hw _ (List.mem_of_getElem? (i := 40) rfl)) (hw _ (List.mem_of_getElem? (i := 41) rfl)) e4 Va V_b2 (us := [v2]) (Or.inl ⟨rfl, rfl⟩) (by decide) (by decide) (by decide) (by decide) (by decide) rfl (by decide) N4 g_b2 (g := (mkF m 27 #[rv a1, iv (2 : Int32), iv (3 : Int32), iv (1 : Int32), rv b2] [(.int (1 : Int32)), (.int (0 : Int32)), (.ref b2), (.int (2 : Int32)), (.ref a1)])) rfl (by rw [hml]; rfl) rfl (hb hby own_d6_27) (by decide) (W := 0) (by show 2 * 0 + _ ≤ _; exact Nat.le_of_eq rfl) (by decide)
  refine own_go st5 ?_
  replace Va := Va.keep K5 (ninS ne_a1_b2 nin0)
  replace Kp := Kp.trans K5 (allS (Or.inr sz_b2) all0)
  replace Ea_b2 := Ea_b2.keep K5
  replace V_b2 : Arv Z h5 b2 k2 .byte (1 : Int32) [v2] (.int (0 : Int32)) := V5
  show own_Go p e below s _ _ _ (T5.setTop (mkF m 30 #[rv a1, iv (2 : Int32), iv (3 : Int32), iv (1 : Int32), rv b2] []))
  refine own_go (fun zt zk => (XS.aload X5.here hx rfl (hb hby own_d6_30) rfl rfl zk)) ?_
  show own_Go p e below s _ _ _ (T5.setTop (mkF m 32 #[rv a1, iv (2 : Int32), iv (3 : Int32), iv (1 : Int32), rv b2] [(.ref b2)]))
  exact own_fin X5 Bd.notSynchronized (fun h => by rw [Bd.returns] at h; cases h) (fun fs hr => retOut X5 hx (t := (.array .byte)) (w := (.ref b2)) Bd.returns rfl (Or.inr (Or.inr (Or.inr (Or.inr ⟨rfl, rfl, rfl⟩)))) (hb hby own_d6_32) hr) (by rw [e5]; exact ⟨_, _, rfl, N5, Kp, sz_b2, Ea_b2, V_b2⟩) (by decide) (by decide)
theorem own_ef_own_rcr23 (m : MethodId) (a1 : Addr) : entryFrame m #[(.ref a1), (.int (2 : Int32)), (.int (3 : Int32))] 3 = mkF m 0 #[rv a1, iv (2 : Int32), iv (3 : Int32)] [] := by first | (simp [entryFrame, mkF, argsToLocals, Value.category]; done) | rfl
def own_Q_own_rcr23 (Z : State) (a1 : Addr) (k1 : ClassId) (v0 v1 v2 v3 : Value) (h0 : Heap) (n0 : Nat) (v : Option Value) (h : Heap) (L : List Loc) : Prop := ∃ b k, v = some (.ref b) ∧ Fr n0 L ∧ Keep h0 h [] ∧ h0.size ≤ b ∧ Exa Z h b "[B" ∧ Arv Z h b k .byte (1 : Int32) [v2] (.int (0 : Int32))
set_option maxRecDepth 65536 in
set_option maxHeartbeats 40000000 in
theorem own_rcr23 (l : Launch) (Z : State) (a0 : Array Value) (hw : ∀ d ∈ tables_1, d.before a0 Z = true) (ws : List Jvm.Cond) (a1 : Addr) (k1 : ClassId) (v0 v1 v2 v3 : Value) (h0 : Heap) (n0 : Nat) (Z0 : n0 ≤ h0.size) (Va : Arv Z h0 a1 k1 .byte (4 : Int32) [v0, v1, v2, v3] (.int (0 : Int32))) (Ea : Exa Z h0 a1 "[B")  :
    MetFree l (⟨"java/util/Arrays", "copyOfRange", "([BII)[B"⟩ : MethodName) (head1 (Jvm.Cond.code (⟨"java/util/Arrays", "copyOfRange", "([BII)[B"⟩ : MethodName) jdk_65_method_132_code 3 (some (.array .byte)) :: ws) ({ frames := 2, cells := 1, slots := 1, locals := 48 } : Room)) (fun a U => a = #[(.ref a1), (.int (2 : Int32)), (.int (3 : Int32))] ∧ Z.Warmed39 U.vm ∧ U.heap = h0) (fun _ _ _ _ _ => True) (fun _ U o U' => ∃ v L, o = .returned v ∧ own_Q_own_rcr23 Z a1 k1 v0 v1 v2 v3 h0 n0 v U'.heap L ∧ FrameEnd U o U' L ({ frames := 2, cells := 1, slots := 1, locals := 48 } : Room).cells ({ frames := 2, cells := 1, slots := 1, locals := 48 } : Room).slots) := by
  refine MetFree.of_bodySF (plainFor_of_name own_pn_java_util_Arrays) hisR ?_
  intro p e s m args below meth c s₁ Bd hml0 hP hK
  obtain ⟨rfl, hZ, hh⟩ := hP
  have hx := Bd.exec
  have hby := Bd.bytes
  have hml : c.maxLocals = 3 := hml0
  have hown : s.vm.findClass "java/util/Arrays" = some m.cls := findClass_of_methodNamed Bd.named
  have hnm := (name_of_methodNamed Bd.named Bd.method).1
  have X0 : Stand p l e ({ frames := 2, cells := 1, slots := 1, locals := 48 } : Room) s m #[(.ref a1), (.int (2 : Int32)), (.int (3 : Int32))] below meth c s₁ [] 0 0 := Stand.of_body Bd
  have e0 : s₁.heap = h0 := by rw [← hh, Bd.state]; rfl
  have N0 := Fr.nil n0
  have Kp : Keep h0 h0 [] := Keep.refl h0 _
  show own_Go p e below s (own_Q_own_rcr23 Z a1 k1 v0 v1 v2 v3 h0 n0) ({ frames := 2, cells := 1, slots := 1, locals := 48 } : Room).cells ({ frames := 2, cells := 1, slots := 1, locals := 48 } : Room).slots (s₁.setTop (entryFrame m #[(.ref a1), (.int (2 : Int32)), (.int (3 : Int32))] 3))
  refine own_go (fun zt zk => castTop (own_ef_own_rcr23 m a1) zk) ?_
  show own_Go p e below s _ _ _ (s₁.setTop (mkF m 0 #[rv a1, iv (2 : Int32), iv (3 : Int32)] []))
  refine own_go (fun zt zk => (XS.iloadN X0.here hx rfl (hb hby own_d5_0) rfl (XS.ifYes X0.here hx rfl (pc0 := 1) (pc' := 10) rfl (hb hby own_d5_1) rfl ((if0 _ _).trans (feq ((by decide) : ¬ ((2 : Int32) = (0 : Int32)))).2) (by decide) (by decide) (XS.aloadN X0.here hx rfl (hb hby own_d5_10) rfl rfl (XS.iloadN X0.here hx rfl (hb hby own_d5_11) rfl (XS.iloadN X0.here hx rfl (hb hby own_d5_12) rfl zk)))))) ?_
  show own_Go p e below s _ _ _ (s₁.setTop (mkF m 13 #[rv a1, iv (2 : Int32), iv (3 : Int32)] [(.int (3 : Int32)), (.int (2 : Int32)), (.ref a1)]))
  obtain ⟨_, _, ⟨T1, L1, k1, n1⟩, -, X1, ⟨Lc1, hQ1, l1, y1, z1⟩, st1⟩ := Jvm.LawKit.callS X0 hx (y := (⟨"java/util/Arrays", "copyOfRangeByte", "([BII)[B"⟩ : MethodName)) hown (mvT hZ (hw _ (List.mem_of_getElem? (i := 29) rfl))) (mvT hZ (hw _ (List.mem_of_getElem? (i := 30) rfl))) (mvT hZ (hw _ (List.mem_of_getElem? (i := 27) rfl))) (mvT hZ (hw _ (List.mem_of_getElem? (i := 31) rfl))) (by decide) (backOf (W := 0) (own_rcrb23 l Z a0 hw [] a1 k1 v0 v1 v2 v3 h0 n0 Z0 Va) hZ (hw _ (List.mem_of_getElem? (i := 31) rfl)) (hw _ (List.mem_of_getElem? (i := 27) rfl)) (by decide) (by decide)) (g := (mkF m 13 #[rv a1, iv (2 : Int32), iv (3 : Int32)] [(.int (3 : Int32)), (.int (2 : Int32)), (.ref a1)])) rfl (by rw [hml]; rfl) (argsL := [(.ref a1), (.int (2 : Int32)), (.int (3 : Int32))]) (rest := []) (lenOf own_pd___BII__B rfl) rfl (by show 2 * 0 + _ ≤ _; exact Nat.le_of_eq rfl) (hb hby own_d5_13) (fun _ _ => ⟨rfl, e0, (by decide : 0 + 1 ≤ _), (by decide : 0 + 1 ≤ _)⟩)
  dsimp only [Pt.U, Pt.locs, Pt.cells, Pt.slots] at X1 l1 y1 z1 st1 hQ1
  subst l1 y1 z1
  obtain ⟨b1, k1', rfl, Nq1, K1, sz_b1, Ea_b1, V_b1⟩ := hQ1
  have N1 := Fr.app N0 Nq1
  refine own_go st1 ?_
  replace Va := Va.keep K1 nin0
  replace Ea := Ea.keep K1
  replace Kp := Kp.trans K1 all0
  show own_Go p e below s _ _ _ (T1.setTop (mkF m 16 #[rv a1, iv (2 : Int32), iv (3 : Int32)] [(.ref b1)]))
  exact own_fin X1 Bd.notSynchronized (fun h => by rw [Bd.returns] at h; cases h) (fun fs hr => retOut X1 hx (t := (.array .byte)) (w := (.ref b1)) Bd.returns rfl (Or.inr (Or.inr (Or.inr (Or.inr ⟨rfl, rfl, rfl⟩)))) (hb hby own_d5_16) hr) ⟨_, _, rfl, N1, Kp, sz_b1, Ea_b1, V_b1⟩ (by decide) (by decide)
theorem own_ef_own_rbi23 (m : MethodId) (a0' : Addr) (a1 : Addr) : entryFrame m #[(.ref a0'), (.ref a1)] 2 = mkF m 0 #[rv a0', rv a1] [] := by first | (simp [entryFrame, mkF, argsToLocals, Value.category]; done) | rfl
def own_Q_own_rbi23 (Z : State) (a0' : Addr) (a1 : Addr) (k1 : ClassId) (v0 v1 v2 v3 : Value) (h0 : Heap) (n0 : Nat) (v : Option Value) (h : Heap) (L : List Loc) : Prop := ∃ b k, v = some (.ref b) ∧ Fr n0 L ∧ Keep h0 h [] ∧ h0.size ≤ b ∧ Exa Z h b "[B" ∧ Arv Z h b k .byte (1 : Int32) [v2] (.int (0 : Int32))
set_option maxRecDepth 65536 in
set_option maxHeartbeats 40000000 in
theorem own_rbi23 (l : Launch) (Z : State) (a0 : Array Value) (hw : ∀ d ∈ tables_1, d.before a0 Z = true) (ws : List Jvm.Cond) (a0' : Addr) (a1 : Addr) (k1 : ClassId) (v0 v1 v2 v3 : Value) (h0 : Heap) (n0 : Nat) (Z0 : n0 ≤ h0.size) (Va : Arv Z h0 a1 k1 .byte (4 : Int32) [v0, v1, v2, v3] (.int (0 : Int32))) (Ea : Exa Z h0 a1 "[B") (Fs : Fld Z h0 a0' "com/example/tranche/tranche/model/Span" "start" "I" (.int (2 : Int32))) (Fe : Fld Z h0 a0' "com/example/tranche/tranche/model/Span" "end" "I" (.int (3 : Int32)))  :
    MetFree l (⟨"com/example/tranche/tranche/model/Span", "bytesIn", "([B)[B"⟩ : MethodName) (head1 (Jvm.Cond.code (⟨"com/example/tranche/tranche/model/Span", "bytesIn", "([B)[B"⟩ : MethodName) prog_34_method_2_code 2 (some (.array .byte)) :: ws) ({ frames := 3, cells := 1, slots := 1, locals := 62 } : Room)) (fun a U => a = #[(.ref a0'), (.ref a1)] ∧ Z.Warmed39 U.vm ∧ U.heap = h0) (fun _ _ _ _ _ => True) (fun _ U o U' => ∃ v L, o = .returned v ∧ own_Q_own_rbi23 Z a0' a1 k1 v0 v1 v2 v3 h0 n0 v U'.heap L ∧ FrameEnd U o U' L ({ frames := 3, cells := 1, slots := 1, locals := 62 } : Room).cells ({ frames := 3, cells := 1, slots := 1, locals := 62 } : Room).slots) := by
  refine MetFree.of_bodySF (plainFor_of_name own_pn_com_example_tranche_tranche_model_Span) hisR ?_
  intro p e s m args below meth c s₁ Bd hml0 hP hK
  obtain ⟨rfl, hZ, hh⟩ := hP
  have hx := Bd.exec
  have hby := Bd.bytes
  have hml : c.maxLocals = 2 := hml0
  have hown : s.vm.findClass "com/example/tranche/tranche/model/Span" = some m.cls := findClass_of_methodNamed Bd.named
  have hnm := (name_of_methodNamed Bd.named Bd.method).1
  have X0 : Stand p l e ({ frames := 3, cells := 1, slots := 1, locals := 62 } : Room) s m #[(.ref a0'), (.ref a1)] below meth c s₁ [] 0 0 := Stand.of_body Bd
  have e0 : s₁.heap = h0 := by rw [← hh, Bd.state]; rfl
  have N0 := Fr.nil n0
  have Kp : Keep h0 h0 [] := Keep.refl h0 _
  show own_Go p e below s (own_Q_own_rbi23 Z a0' a1 k1 v0 v1 v2 v3 h0 n0) ({ frames := 3, cells := 1, slots := 1, locals := 62 } : Room).cells ({ frames := 3, cells := 1, slots := 1, locals := 62 } : Room).slots (s₁.setTop (entryFrame m #[(.ref a0'), (.ref a1)] 2))
  refine own_go (fun zt zk => castTop (own_ef_own_rbi23 m a0' a1) zk) ?_
  show own_Go p e below s _ _ _ (s₁.setTop (mkF m 0 #[rv a0', rv a1] []))
  refine own_go (fun zt zk => (XS.aloadN X0.here hx rfl (hb hby own_d4_0) rfl rfl zk)) ?_
  show own_Go p e below s _ _ _ (s₁.setTop (mkF m 1 #[rv a0', rv a1] [(.ref a0')]))
  obtain ⟨T1, X1, e1, st1⟩ := getF X0 hx hZ hown (host := "") (Or.inl (hw _ (List.mem_of_getElem? (i := 18) rfl))) Via.refl e0 Fe (g := (mkF m 1 #[rv a0', rv a1] [(.ref a0')])) rfl rfl (hb hby own_d4_1)
  refine own_go st1 ?_
  show own_Go p e below s _ _ _ (T1.setTop (mkF m 4 #[rv a0', rv a1] [(.int (3 : Int32))]))
  refine own_go (fun zt zk => (XS.aloadN X1.here hx rfl (hb hby own_d4_4) rfl rfl zk)) ?_
  show own_Go p e below s _ _ _ (T1.setTop (mkF m 5 #[rv a0', rv a1] [(.ref a1), (.int (3 : Int32))]))
  obtain ⟨cl2, Ar2, -, Sz2, Nz2, -, -⟩ := id Va
  refine own_go (X1.arraylength hx (by rw [e1]; exact Ar2.1) (State.isArrayOf_alike hZ.alike Ar2.2.1) (g := (mkF m 5 #[rv a0', rv a1] [(.ref a1), (.int (3 : Int32))])) rfl rfl (hb hby own_d4_5)) ?_
  rw [len_of Sz2 Nz2]
  show own_Go p e below s _ _ _ (T1.setTop (mkF m 6 #[rv a0', rv a1] [(.int (4 : Int32)), (.int (3 : Int32))]))
  refine own_go (fun zt zk => (XS.icmpYes X1.here hx rfl (pc0 := 6) (pc' := 32) rfl (hb hby own_d4_6) rfl (flt ((by decide) : ¬ ((4 : Int32) < (3 : Int32)))).2.2.2 (by decide) (by decide) (XS.aloadN X1.here hx rfl (hb hby own_d4_32) rfl rfl (XS.aloadN X1.here hx rfl (hb hby own_d4_33) rfl rfl zk)))) ?_
  show own_Go p e below s _ _ _ (T1.setTop (mkF m 34 #[rv a0', rv a1] [(.ref a0'), (.ref a1)]))
  obtain ⟨T3, X3, e3, st3⟩ := getF X1 hx hZ hown (host := "") (Or.inl (hw _ (List.mem_of_getElem? (i := 16) rfl))) Via.refl e1 Fs (g := (mkF m 34 #[rv a0', rv a1] [(.ref a0'), (.ref a1)])) rfl rfl (hb hby own_d4_34)
  refine own_go st3 ?_
  show own_Go p e below s _ _ _ (T3.setTop (mkF m 37 #[rv a0', rv a1] [(.int (2 : Int32)), (.ref a1)]))
  refine own_go (fun zt zk => (XS.aloadN X3.here hx rfl (hb hby own_d4_37) rfl rfl zk)) ?_
  show own_Go p e below s _ _ _ (T3.setTop (mkF m 38 #[rv a0', rv a1] [(.ref a0'), (.int (2 : Int32)), (.ref a1)]))
  obtain ⟨T4, X4, e4, st4⟩ := getF X3 hx hZ hown (host := "") (Or.inl (hw _ (List.mem_of_getElem? (i := 18) rfl))) Via.refl e3 Fe (g := (mkF m 38 #[rv a0', rv a1] [(.ref a0'), (.int (2 : Int32)), (.ref a1)])) rfl rfl (hb hby own_d4_38)
  refine own_go st4 ?_
  show own_Go p e below s _ _ _ (T4.setTop (mkF m 41 #[rv a0', rv a1] [(.int (3 : Int32)), (.int (2 : Int32)), (.ref a1)]))
  obtain ⟨_, _, ⟨T5, L5, k5, n5⟩, -, X5, ⟨Lc5, hQ5, l5, y5, z5⟩, st5⟩ := Jvm.LawKit.callS X4 hx (y := (⟨"java/util/Arrays", "copyOfRange", "([BII)[B"⟩ : MethodName)) hown (mvT hZ (hw _ (List.mem_of_getElem? (i := 25) rfl))) (mvT hZ (hw _ (List.mem_of_getElem? (i := 26) rfl))) (mvT hZ (hw _ (List.mem_of_getElem? (i := 27) rfl))) (mvT hZ (hw _ (List.mem_of_getElem? (i := 28) rfl))) (by decide) (backOf (W := 0) (own_rcr23 l Z a0 hw [] a1 k1 v0 v1 v2 v3 h0 n0 Z0 Va Ea) hZ (hw _ (List.mem_of_getElem? (i := 28) rfl)) (hw _ (List.mem_of_getElem? (i := 27) rfl)) (by decide) (by decide)) (g := (mkF m 41 #[rv a0', rv a1] [(.int (3 : Int32)), (.int (2 : Int32)), (.ref a1)])) rfl (by rw [hml]; rfl) (argsL := [(.ref a1), (.int (2 : Int32)), (.int (3 : Int32))]) (rest := []) (lenOf own_pd___BII__B rfl) rfl (by show 2 * 0 + _ ≤ _; exact Nat.le_of_eq rfl) (hb hby own_d4_41) (fun _ _ => ⟨rfl, e4, (by decide : 0 + 1 ≤ _), (by decide : 0 + 1 ≤ _)⟩)
  dsimp only [Pt.U, Pt.locs, Pt.cells, Pt.slots] at X5 l5 y5 z5 st5 hQ5
  subst l5 y5 z5
  obtain ⟨b5, k5', rfl, Nq5, K5, sz_b5, Ea_b5, V_b5⟩ := hQ5
  have N5 := Fr.app N0 Nq5
  refine own_go st5 ?_
  replace Va := Va.keep K5 nin0
  replace Ea := Ea.keep K5
  replace Fs := Fs.keep K5 nin0
  replace Fe := Fe.keep K5 nin0
  replace Kp := Kp.trans K5 all0
  show own_Go p e below s _ _ _ (T5.setTop (mkF m 44 #[rv a0', rv a1] [(.ref b5)]))
  exact own_fin X5 Bd.notSynchronized (fun h => by rw [Bd.returns] at h; cases h) (fun fs hr => retOut X5 hx (t := (.array .byte)) (w := (.ref b5)) Bd.returns rfl (Or.inr (Or.inr (Or.inr (Or.inr ⟨rfl, rfl, rfl⟩)))) (hb hby own_d4_44) hr) ⟨_, _, rfl, N5, Kp, sz_b5, Ea_b5, V_b5⟩ (by decide) (by decide)
theorem own_ef_own_rcrb24 (m : MethodId) (a1 : Addr) : entryFrame m #[(.ref a1), (.int (2 : Int32)), (.int (4 : Int32))] 5 = mkF m 0 #[rv a1, iv (2 : Int32), iv (4 : Int32), .unset, .unset] [] := by first | (simp [entryFrame, mkF, argsToLocals, Value.category]; done) | rfl
def own_Q_own_rcrb24 (Z : State) (a1 : Addr) (k1 : ClassId) (v0 v1 v2 v3 : Value) (h0 : Heap) (n0 : Nat) (v : Option Value) (h : Heap) (L : List Loc) : Prop := ∃ b k, v = some (.ref b) ∧ Fr n0 L ∧ Keep h0 h [] ∧ h0.size ≤ b ∧ Exa Z h b "[B" ∧ Arv Z h b k .byte (2 : Int32) [v2, v3] (.int (0 : Int32))
set_option maxRecDepth 65536 in
set_option maxHeartbeats 40000000 in
theorem own_rcrb24 (l : Launch) (Z : State) (a0 : Array Value) (hw : ∀ d ∈ tables_1, d.before a0 Z = true) (ws : List Jvm.Cond) (a1 : Addr) (k1 : ClassId) (v0 v1 v2 v3 : Value) (h0 : Heap) (n0 : Nat) (Z0 : n0 ≤ h0.size) (Va : Arv Z h0 a1 k1 .byte (4 : Int32) [v0, v1, v2, v3] (.int (0 : Int32)))  :
    MetFree l (⟨"java/util/Arrays", "copyOfRangeByte", "([BII)[B"⟩ : MethodName) (head1 (Jvm.Cond.code (⟨"java/util/Arrays", "copyOfRangeByte", "([BII)[B"⟩ : MethodName) jdk_65_method_133_code 5 (some (.array .byte)) :: ws) ({ frames := 1, cells := 1, slots := 2, locals := 32 } : Room)) (fun a U => a = #[(.ref a1), (.int (2 : Int32)), (.int (4 : Int32))] ∧ Z.Warmed39 U.vm ∧ U.heap = h0) (fun _ _ _ _ _ => True) (fun _ U o U' => ∃ v L, o = .returned v ∧ own_Q_own_rcrb24 Z a1 k1 v0 v1 v2 v3 h0 n0 v U'.heap L ∧ FrameEnd U o U' L ({ frames := 1, cells := 1, slots := 2, locals := 32 } : Room).cells ({ frames := 1, cells := 1, slots := 2, locals := 32 } : Room).slots) := by
  refine MetFree.of_bodySF (plainFor_of_name own_pn_java_util_Arrays) hisR ?_
  intro p e s m args below meth c s₁ Bd hml0 hP hK
  obtain ⟨rfl, hZ, hh⟩ := hP
  have hx := Bd.exec
  have hby := Bd.bytes
  have hml : c.maxLocals = 5 := hml0
  have hown : s.vm.findClass "java/util/Arrays" = some m.cls := findClass_of_methodNamed Bd.named
  have hnm := (name_of_methodNamed Bd.named Bd.method).1
  have X0 : Stand p l e ({ frames := 1, cells := 1, slots := 2, locals := 32 } : Room) s m #[(.ref a1), (.int (2 : Int32)), (.int (4 : Int32))] below meth c s₁ [] 0 0 := Stand.of_body Bd
  have e0 : s₁.heap = h0 := by rw [← hh, Bd.state]; rfl
  have N0 := Fr.nil n0
  have Kp : Keep h0 h0 [] := Keep.refl h0 _
  show own_Go p e below s (own_Q_own_rcrb24 Z a1 k1 v0 v1 v2 v3 h0 n0) ({ frames := 1, cells := 1, slots := 2, locals := 32 } : Room).cells ({ frames := 1, cells := 1, slots := 2, locals := 32 } : Room).slots (s₁.setTop (entryFrame m #[(.ref a1), (.int (2 : Int32)), (.int (4 : Int32))] 5))
  refine own_go (fun zt zk => castTop (own_ef_own_rcrb24 m a1) zk) ?_
  show own_Go p e below s _ _ _ (s₁.setTop (mkF m 0 #[rv a1, iv (2 : Int32), iv (4 : Int32), .unset, .unset] []))
  refine own_go (fun zt zk => (XS.iloadN X0.here hx rfl (hb hby own_d6_0) rfl (XS.iloadN X0.here hx rfl (hb hby own_d6_1) rfl zk))) ?_
  show own_Go p e below s _ _ _ (s₁.setTop (mkF m 2 #[rv a1, iv (2 : Int32), iv (4 : Int32), .unset, .unset] [(.int (4 : Int32)), (.int (2 : Int32))]))
  obtain ⟨_, _, ⟨T1, L1, k1, n1⟩, -, X1, ⟨Lc1, hQ1, l1, y1, z1⟩, st1⟩ := Jvm.LawKit.callS X0 hx (y := (⟨"java/util/Arrays", "checkLength", "(II)V"⟩ : MethodName)) hown (mvT hZ (hw _ (List.mem_of_getElem? (i := 32) rfl))) (mvT hZ (hw _ (List.mem_of_getElem? (i := 33) rfl))) (mvT hZ (hw _ (List.mem_of_getElem? (i := 27) rfl))) (mvT hZ (hw _ (List.mem_of_getElem? (i := 34) rfl))) (by decide) (backOf (W := 0) (own_rcl l Z a0 hw [] (2 : Int32) (4 : Int32)  h0 n0 Z0 (by decide)) hZ (hw _ (List.mem_of_getElem? (i := 34) rfl)) (hw _ (List.mem_of_getElem? (i := 27) rfl)) (by decide) (by decide)) (g := (mkF m 2 #[rv a1, iv (2 : Int32), iv (4 : Int32), .unset, .unset] [(.int (4 : Int32)), (.int (2 : Int32))])) rfl (by rw [hml]; rfl) (argsL := [(.int (2 : Int32)), (.int (4 : Int32))]) (rest := []) (lenOf own_pd__II_V rfl) rfl (by show 2 * 0 + _ ≤ _; exact Nat.le_of_eq rfl) (hb hby own_d6_2) (fun _ _ => ⟨rfl, e0, (by decide : 0 + 0 ≤ _), (by decide : 0 + 0 ≤ _)⟩)
  dsimp only [Pt.U, Pt.locs, Pt.cells, Pt.slots] at X1 l1 y1 z1 st1 hQ1
  subst l1 y1 z1
  obtain ⟨rfl, Nq1, e1⟩ := hQ1
  have N1 := Fr.app N0 Nq1
  refine own_go st1 ?_
  show own_Go p e below s _ _ _ (T1.setTop (mkF m 5 #[rv a1, iv (2 : Int32), iv (4 : Int32), .unset, .unset] []))
  refine own_go (fun zt zk => (XS.iloadN X1.here hx rfl (hb hby own_d6_5) rfl (XS.iloadN X1.here hx rfl (hb hby own_d6_6) rfl (XS.isub X1.here hx rfl (hb hby own_d6_7) rfl (XS.istoreN X1.here hx rfl (hb hby own_d6_8) rfl (l' := #[rv a1, iv (2 : Int32), iv (4 : Int32), iv (2 : Int32), .unset]) rfl (XS.iloadN X1.here hx rfl (hb hby own_d6_9) rfl zk)))))) ?_
  show own_Go p e below s _ _ _ (T1.setTop (mkF m 10 #[rv a1, iv (2 : Int32), iv (4 : Int32), iv (2 : Int32), .unset] [(.int (2 : Int32))]))
  obtain ⟨T2, h2, k2, X2, e2, E2, A2, Ea2, st2⟩ := newPE X1 hx hZ (hw _ (List.mem_of_getElem? (i := 0) rfl)) e1 (g := (mkF m 10 #[rv a1, iv (2 : Int32), iv (4 : Int32), iv (2 : Int32), .unset] [(.int (2 : Int32))])) rfl (hb hby own_d6_10) rfl (by decide) (cap := 2) (by decide) (by decide) (by decide) (by decide) (ad := "[B") (by decide)
  obtain ⟨b2, g2⟩ : ∃ z, z = h0.size := ⟨_, rfl⟩
  rw [← g2] at A2 Ea2 st2
  refine own_go st2 ?_
  have ne_a1_b2 : a1 ≠ b2 := Nat.ne_of_lt (Nat.lt_of_lt_of_le Va.lt (Nat.le_of_eq g2.symm))
  have sz_b2 : h0.size ≤ b2 := Nat.le_trans Kp.1 (Nat.le_of_eq g2.symm)
  have g_b2 : n0 ≤ b2 := Nat.le_trans Z0 sz_b2
  replace Va := Va.ext E2
  replace Kp := Kp.ext E2
  have V_b2 : Arv Z h2 b2 k2 .byte (2 : Int32) [(.int (0 : Int32)), (.int (0 : Int32))] (.int (0 : Int32)) := (Arv.new A2 (by decide)).pad (pad_rep [] (.int (0 : Int32)) 2)
  have Ea_b2 := Ea2
  show own_Go p e below s _ _ _ (T2.setTop (mkF m 12 #[rv a1, iv (2 : Int32), iv (4 : Int32), iv (2 : Int32), .unset] [(.ref b2)]))
  refine own_go (fun zt zk => (XS.astore X2.here hx rfl (hb hby own_d6_12) rfl rfl (l' := #[rv a1, iv (2 : Int32), iv (4 : Int32), iv (2 : Int32), rv b2]) rfl (XS.aloadN X2.here hx rfl (hb hby own_d6_14) rfl rfl (XS.iloadN X2.here hx rfl (hb hby own_d6_15) rfl (XS.aload X2.here hx rfl (hb hby own_d6_16) rfl rfl (XS.iconst X2.here hx rfl (hb hby own_d6_18) (XS.aloadN X2.here hx rfl (hb hby own_d6_19) rfl rfl zk))))))) ?_
  show own_Go p e below s _ _ _ (T2.setTop (mkF m 20 #[rv a1, iv (2 : Int32), iv (4 : Int32), iv (2 : Int32), rv b2] [(.ref a1), (.int (0 : Int32)), (.ref b2), (.int (2 : Int32)), (.ref a1)]))
  obtain ⟨cl3, Ar3, -, Sz3, Nz3, -, -⟩ := id Va
  refine own_go (X2.arraylength hx (by rw [e2]; exact Ar3.1) (State.isArrayOf_alike hZ.alike Ar3.2.1) (g := (mkF m 20 #[rv a1, iv (2 : Int32), iv (4 : Int32), iv (2 : Int32), rv b2] [(.ref a1), (.int (0 : Int32)), (.ref b2), (.int (2 : Int32)), (.ref a1)])) rfl rfl (hb hby own_d6_20)) ?_
  rw [len_of Sz3 Nz3]
  show own_Go p e below s _ _ _ (T2.setTop (mkF m 21 #[rv a1, iv (2 : Int32), iv (4 : Int32), iv (2 : Int32), rv b2] [(.int (4 : Int32)), (.int (0 : Int32)), (.ref b2), (.int (2 : Int32)), (.ref a1)]))
  refine own_go (fun zt zk => (XS.iloadN X2.here hx rfl (hb hby own_d6_21) rfl (XS.isub X2.here hx rfl (hb hby own_d6_22) rfl (XS.iloadN X2.here hx rfl (hb hby own_d6_23) rfl zk)))) ?_
  show own_Go p e below s _ _ _ (T2.setTop (mkF m 24 #[rv a1, iv (2 : Int32), iv (4 : Int32), iv (2 : Int32), rv b2] [(.int (2 : Int32)), (.int (2 : Int32)), (.int (0 : Int32)), (.ref b2), (.int (2 : Int32)), (.ref a1)]))
  obtain ⟨_, _, ⟨T4, L4, k4, n4⟩, -, X4, ⟨Lc4, hQ4, l4, y4, z4⟩, st4⟩ := Jvm.LawKit.callS X2 hx (y := (⟨"java/lang/Math", "min", "(II)I"⟩ : MethodName)) hown (mvT hZ (hw _ (List.mem_of_getElem? (i := 35) rfl))) (mvT hZ (hw _ (List.mem_of_getElem? (i := 36) rfl))) (mvT hZ (hw _ (List.mem_of_getElem? (i := 37) rfl))) (mvT hZ (hw _ (List.mem_of_getElem? (i := 38) rfl))) (by decide) (backOf (W := 4) (own_rmin l Z a0 hw [] (2 : Int32) (2 : Int32)  h2 n0 (Nat.le_trans Z0 Kp.1) ) hZ (hw _ (List.mem_of_getElem? (i := 38) rfl)) (hw _ (List.mem_of_getElem? (i := 37) rfl)) (by decide) (by decide)) (g := (mkF m 24 #[rv a1, iv (2 : Int32), iv (4 : Int32), iv (2 : Int32), rv b2] [(.int (2 : Int32)), (.int (2 : Int32)), (.int (0 : Int32)), (.ref b2), (.int (2 : Int32)), (.ref a1)])) rfl (by rw [hml]; rfl) (argsL := [(.int (2 : Int32)), (.int (2 : Int32))]) (rest := [(.int (0 : Int32)), (.ref b2), (.int (2 : Int32)), (.ref a1)]) (lenOf own_pd__II_I rfl) rfl (by show 2 * 0 + _ ≤ _; exact Nat.le_of_eq rfl) (hb hby own_d6_24) (fun _ _ => ⟨rfl, e2, (by decide : 1 + 0 ≤ _), (by decide : 2 + 0 ≤ _)⟩)
  dsimp only [Pt.U, Pt.locs, Pt.cells, Pt.slots] at X4 l4 y4 z4 st4 hQ4
  subst l4 y4 z4
  obtain ⟨rfl, Nq4, e4⟩ := hQ4
  have N4 := Fr.app N1 Nq4
  refine own_go st4 ?_
  show own_Go p e below s _ _ _ (T4.setTop (mkF m 27 #[rv a1, iv (2 : Int32), iv (4 : Int32), iv (2 : Int32), rv b2] [(.int (2 : Int32)), (.int (0 : Int32)), (.ref b2), (.int (2 : Int32)), (.ref a1)]))
  obtain ⟨T5, h5, L5, X5, e5, N5, K5, V5, st5⟩ := cpA X4 hx hZ hown (hw _ (List.mem_of_getElem? (i := 39) rfl)) (hw _ (List.mem_of_getElem? (i := 42) rfl)) (hw _ (List.mem_of_getElem? (i := 40) rfl)) (hw _ (List.mem_of_getElem? (i := 41) rfl)) e4 Va V_b2 (us := [v2, v3]) (Or.inl ⟨rfl, rfl⟩) (by decide) (by decide) (by decide) (by decide) (by decide) rfl (by decide) N4 g_b2 (g := (mkF m 27 #[rv a1, iv (2 : Int32), iv (4 : Int32), iv (2 : Int32), rv b2] [(.int (2 : Int32)), (.int (0 : Int32)), (.ref b2), (.int (2 : Int32)), (.ref a1)])) rfl (by rw [hml]; rfl) rfl (hb hby own_d6_27) (by decide) (W := 0) (by show 2 * 0 + _ ≤ _; exact Nat.le_of_eq rfl) (by decide)
  refine own_go st5 ?_
  replace Va := Va.keep K5 (ninS ne_a1_b2 nin0)
  replace Kp := Kp.trans K5 (allS (Or.inr sz_b2) all0)
  replace Ea_b2 := Ea_b2.keep K5
  replace V_b2 : Arv Z h5 b2 k2 .byte (2 : Int32) [v2, v3] (.int (0 : Int32)) := V5
  show own_Go p e below s _ _ _ (T5.setTop (mkF m 30 #[rv a1, iv (2 : Int32), iv (4 : Int32), iv (2 : Int32), rv b2] []))
  refine own_go (fun zt zk => (XS.aload X5.here hx rfl (hb hby own_d6_30) rfl rfl zk)) ?_
  show own_Go p e below s _ _ _ (T5.setTop (mkF m 32 #[rv a1, iv (2 : Int32), iv (4 : Int32), iv (2 : Int32), rv b2] [(.ref b2)]))
  exact own_fin X5 Bd.notSynchronized (fun h => by rw [Bd.returns] at h; cases h) (fun fs hr => retOut X5 hx (t := (.array .byte)) (w := (.ref b2)) Bd.returns rfl (Or.inr (Or.inr (Or.inr (Or.inr ⟨rfl, rfl, rfl⟩)))) (hb hby own_d6_32) hr) (by rw [e5]; exact ⟨_, _, rfl, N5, Kp, sz_b2, Ea_b2, V_b2⟩) (by decide) (by decide)
theorem own_ef_own_rcr24 (m : MethodId) (a1 : Addr) : entryFrame m #[(.ref a1), (.int (2 : Int32)), (.int (4 : Int32))] 3 = mkF m 0 #[rv a1, iv (2 : Int32), iv (4 : Int32)] [] := by first | (simp [entryFrame, mkF, argsToLocals, Value.category]; done) | rfl
def own_Q_own_rcr24 (Z : State) (a1 : Addr) (k1 : ClassId) (v0 v1 v2 v3 : Value) (h0 : Heap) (n0 : Nat) (v : Option Value) (h : Heap) (L : List Loc) : Prop := ∃ b k, v = some (.ref b) ∧ Fr n0 L ∧ Keep h0 h [] ∧ h0.size ≤ b ∧ Exa Z h b "[B" ∧ Arv Z h b k .byte (2 : Int32) [v2, v3] (.int (0 : Int32))
set_option maxRecDepth 65536 in
set_option maxHeartbeats 40000000 in
theorem own_rcr24 (l : Launch) (Z : State) (a0 : Array Value) (hw : ∀ d ∈ tables_1, d.before a0 Z = true) (ws : List Jvm.Cond) (a1 : Addr) (k1 : ClassId) (v0 v1 v2 v3 : Value) (h0 : Heap) (n0 : Nat) (Z0 : n0 ≤ h0.size) (Va : Arv Z h0 a1 k1 .byte (4 : Int32) [v0, v1, v2, v3] (.int (0 : Int32))) (Ea : Exa Z h0 a1 "[B")  :
    MetFree l (⟨"java/util/Arrays", "copyOfRange", "([BII)[B"⟩ : MethodName) (head1 (Jvm.Cond.code (⟨"java/util/Arrays", "copyOfRange", "([BII)[B"⟩ : MethodName) jdk_65_method_132_code 3 (some (.array .byte)) :: ws) ({ frames := 2, cells := 1, slots := 2, locals := 48 } : Room)) (fun a U => a = #[(.ref a1), (.int (2 : Int32)), (.int (4 : Int32))] ∧ Z.Warmed39 U.vm ∧ U.heap = h0) (fun _ _ _ _ _ => True) (fun _ U o U' => ∃ v L, o = .returned v ∧ own_Q_own_rcr24 Z a1 k1 v0 v1 v2 v3 h0 n0 v U'.heap L ∧ FrameEnd U o U' L ({ frames := 2, cells := 1, slots := 2, locals := 48 } : Room).cells ({ frames := 2, cells := 1, slots := 2, locals := 48 } : Room).slots) := by
  refine MetFree.of_bodySF (plainFor_of_name own_pn_java_util_Arrays) hisR ?_
  intro p e s m args below meth c s₁ Bd hml0 hP hK
  obtain ⟨rfl, hZ, hh⟩ := hP
  have hx := Bd.exec
  have hby := Bd.bytes
  have hml : c.maxLocals = 3 := hml0
  have hown : s.vm.findClass "java/util/Arrays" = some m.cls := findClass_of_methodNamed Bd.named
  have hnm := (name_of_methodNamed Bd.named Bd.method).1
  have X0 : Stand p l e ({ frames := 2, cells := 1, slots := 2, locals := 48 } : Room) s m #[(.ref a1), (.int (2 : Int32)), (.int (4 : Int32))] below meth c s₁ [] 0 0 := Stand.of_body Bd
  have e0 : s₁.heap = h0 := by rw [← hh, Bd.state]; rfl
  have N0 := Fr.nil n0
  have Kp : Keep h0 h0 [] := Keep.refl h0 _
  show own_Go p e below s (own_Q_own_rcr24 Z a1 k1 v0 v1 v2 v3 h0 n0) ({ frames := 2, cells := 1, slots := 2, locals := 48 } : Room).cells ({ frames := 2, cells := 1, slots := 2, locals := 48 } : Room).slots (s₁.setTop (entryFrame m #[(.ref a1), (.int (2 : Int32)), (.int (4 : Int32))] 3))
  refine own_go (fun zt zk => castTop (own_ef_own_rcr24 m a1) zk) ?_
  show own_Go p e below s _ _ _ (s₁.setTop (mkF m 0 #[rv a1, iv (2 : Int32), iv (4 : Int32)] []))
  refine own_go (fun zt zk => (XS.iloadN X0.here hx rfl (hb hby own_d5_0) rfl (XS.ifYes X0.here hx rfl (pc0 := 1) (pc' := 10) rfl (hb hby own_d5_1) rfl ((if0 _ _).trans (feq ((by decide) : ¬ ((2 : Int32) = (0 : Int32)))).2) (by decide) (by decide) (XS.aloadN X0.here hx rfl (hb hby own_d5_10) rfl rfl (XS.iloadN X0.here hx rfl (hb hby own_d5_11) rfl (XS.iloadN X0.here hx rfl (hb hby own_d5_12) rfl zk)))))) ?_
  show own_Go p e below s _ _ _ (s₁.setTop (mkF m 13 #[rv a1, iv (2 : Int32), iv (4 : Int32)] [(.int (4 : Int32)), (.int (2 : Int32)), (.ref a1)]))
  obtain ⟨_, _, ⟨T1, L1, k1, n1⟩, -, X1, ⟨Lc1, hQ1, l1, y1, z1⟩, st1⟩ := Jvm.LawKit.callS X0 hx (y := (⟨"java/util/Arrays", "copyOfRangeByte", "([BII)[B"⟩ : MethodName)) hown (mvT hZ (hw _ (List.mem_of_getElem? (i := 29) rfl))) (mvT hZ (hw _ (List.mem_of_getElem? (i := 30) rfl))) (mvT hZ (hw _ (List.mem_of_getElem? (i := 27) rfl))) (mvT hZ (hw _ (List.mem_of_getElem? (i := 31) rfl))) (by decide) (backOf (W := 0) (own_rcrb24 l Z a0 hw [] a1 k1 v0 v1 v2 v3 h0 n0 Z0 Va) hZ (hw _ (List.mem_of_getElem? (i := 31) rfl)) (hw _ (List.mem_of_getElem? (i := 27) rfl)) (by decide) (by decide)) (g := (mkF m 13 #[rv a1, iv (2 : Int32), iv (4 : Int32)] [(.int (4 : Int32)), (.int (2 : Int32)), (.ref a1)])) rfl (by rw [hml]; rfl) (argsL := [(.ref a1), (.int (2 : Int32)), (.int (4 : Int32))]) (rest := []) (lenOf own_pd___BII__B rfl) rfl (by show 2 * 0 + _ ≤ _; exact Nat.le_of_eq rfl) (hb hby own_d5_13) (fun _ _ => ⟨rfl, e0, (by decide : 0 + 1 ≤ _), (by decide : 0 + 2 ≤ _)⟩)
  dsimp only [Pt.U, Pt.locs, Pt.cells, Pt.slots] at X1 l1 y1 z1 st1 hQ1
  subst l1 y1 z1
  obtain ⟨b1, k1', rfl, Nq1, K1, sz_b1, Ea_b1, V_b1⟩ := hQ1
  have N1 := Fr.app N0 Nq1
  refine own_go st1 ?_
  replace Va := Va.keep K1 nin0
  replace Ea := Ea.keep K1
  replace Kp := Kp.trans K1 all0
  show own_Go p e below s _ _ _ (T1.setTop (mkF m 16 #[rv a1, iv (2 : Int32), iv (4 : Int32)] [(.ref b1)]))
  exact own_fin X1 Bd.notSynchronized (fun h => by rw [Bd.returns] at h; cases h) (fun fs hr => retOut X1 hx (t := (.array .byte)) (w := (.ref b1)) Bd.returns rfl (Or.inr (Or.inr (Or.inr (Or.inr ⟨rfl, rfl, rfl⟩)))) (hb hby own_d5_16) hr) ⟨_, _, rfl, N1, Kp, sz_b1, Ea_b1, V_b1⟩ (by decide) (by decide)
theorem own_ef_own_rbi24 (m : MethodId) (a0' : Addr) (a1 : Addr) : entryFrame m #[(.ref a0'), (.ref a1)] 2 = mkF m 0 #[rv a0', rv a1] [] := by first | (simp [entryFrame, mkF, argsToLocals, Value.category]; done) | rfl
def own_Q_own_rbi24 (Z : State) (a0' : Addr) (a1 : Addr) (k1 : ClassId) (v0 v1 v2 v3 : Value) (h0 : Heap) (n0 : Nat) (v : Option Value) (h : Heap) (L : List Loc) : Prop := ∃ b k, v = some (.ref b) ∧ Fr n0 L ∧ Keep h0 h [] ∧ h0.size ≤ b ∧ Exa Z h b "[B" ∧ Arv Z h b k .byte (2 : Int32) [v2, v3] (.int (0 : Int32))
set_option maxRecDepth 65536 in
set_option maxHeartbeats 40000000 in
theorem own_rbi24 (l : Launch) (Z : State) (a0 : Array Value) (hw : ∀ d ∈ tables_1, d.before a0 Z = true) (ws : List Jvm.Cond) (a0' : Addr) (a1 : Addr) (k1 : ClassId) (v0 v1 v2 v3 : Value) (h0 : Heap) (n0 : Nat) (Z0 : n0 ≤ h0.size) (Va : Arv Z h0 a1 k1 .byte (4 : Int32) [v0, v1, v2, v3] (.int (0 : Int32))) (Ea : Exa Z h0 a1 "[B") (Fs : Fld Z h0 a0' "com/example/tranche/tranche/model/Span" "start" "I" (.int (2 : Int32))) (Fe : Fld Z h0 a0' "com/example/tranche/tranche/model/Span" "end" "I" (.int (4 : Int32)))  :
    MetFree l (⟨"com/example/tranche/tranche/model/Span", "bytesIn", "([B)[B"⟩ : MethodName) (head1 (Jvm.Cond.code (⟨"com/example/tranche/tranche/model/Span", "bytesIn", "([B)[B"⟩ : MethodName) prog_34_method_2_code 2 (some (.array .byte)) :: ws) ({ frames := 3, cells := 1, slots := 2, locals := 62 } : Room)) (fun a U => a = #[(.ref a0'), (.ref a1)] ∧ Z.Warmed39 U.vm ∧ U.heap = h0) (fun _ _ _ _ _ => True) (fun _ U o U' => ∃ v L, o = .returned v ∧ own_Q_own_rbi24 Z a0' a1 k1 v0 v1 v2 v3 h0 n0 v U'.heap L ∧ FrameEnd U o U' L ({ frames := 3, cells := 1, slots := 2, locals := 62 } : Room).cells ({ frames := 3, cells := 1, slots := 2, locals := 62 } : Room).slots) := by
  refine MetFree.of_bodySF (plainFor_of_name own_pn_com_example_tranche_tranche_model_Span) hisR ?_
  intro p e s m args below meth c s₁ Bd hml0 hP hK
  obtain ⟨rfl, hZ, hh⟩ := hP
  have hx := Bd.exec
  have hby := Bd.bytes
  have hml : c.maxLocals = 2 := hml0
  have hown : s.vm.findClass "com/example/tranche/tranche/model/Span" = some m.cls := findClass_of_methodNamed Bd.named
  have hnm := (name_of_methodNamed Bd.named Bd.method).1
  have X0 : Stand p l e ({ frames := 3, cells := 1, slots := 2, locals := 62 } : Room) s m #[(.ref a0'), (.ref a1)] below meth c s₁ [] 0 0 := Stand.of_body Bd
  have e0 : s₁.heap = h0 := by rw [← hh, Bd.state]; rfl
  have N0 := Fr.nil n0
  have Kp : Keep h0 h0 [] := Keep.refl h0 _
  show own_Go p e below s (own_Q_own_rbi24 Z a0' a1 k1 v0 v1 v2 v3 h0 n0) ({ frames := 3, cells := 1, slots := 2, locals := 62 } : Room).cells ({ frames := 3, cells := 1, slots := 2, locals := 62 } : Room).slots (s₁.setTop (entryFrame m #[(.ref a0'), (.ref a1)] 2))
  refine own_go (fun zt zk => castTop (own_ef_own_rbi24 m a0' a1) zk) ?_
  show own_Go p e below s _ _ _ (s₁.setTop (mkF m 0 #[rv a0', rv a1] []))
  refine own_go (fun zt zk => (XS.aloadN X0.here hx rfl (hb hby own_d4_0) rfl rfl zk)) ?_
  show own_Go p e below s _ _ _ (s₁.setTop (mkF m 1 #[rv a0', rv a1] [(.ref a0')]))
  obtain ⟨T1, X1, e1, st1⟩ := getF X0 hx hZ hown (host := "") (Or.inl (hw _ (List.mem_of_getElem? (i := 18) rfl))) Via.refl e0 Fe (g := (mkF m 1 #[rv a0', rv a1] [(.ref a0')])) rfl rfl (hb hby own_d4_1)
  refine own_go st1 ?_
  show own_Go p e below s _ _ _ (T1.setTop (mkF m 4 #[rv a0', rv a1] [(.int (4 : Int32))]))
  refine own_go (fun zt zk => (XS.aloadN X1.here hx rfl (hb hby own_d4_4) rfl rfl zk)) ?_
  show own_Go p e below s _ _ _ (T1.setTop (mkF m 5 #[rv a0', rv a1] [(.ref a1), (.int (4 : Int32))]))
  obtain ⟨cl2, Ar2, -, Sz2, Nz2, -, -⟩ := id Va
  refine own_go (X1.arraylength hx (by rw [e1]; exact Ar2.1) (State.isArrayOf_alike hZ.alike Ar2.2.1) (g := (mkF m 5 #[rv a0', rv a1] [(.ref a1), (.int (4 : Int32))])) rfl rfl (hb hby own_d4_5)) ?_
  rw [len_of Sz2 Nz2]
  show own_Go p e below s _ _ _ (T1.setTop (mkF m 6 #[rv a0', rv a1] [(.int (4 : Int32)), (.int (4 : Int32))]))
  refine own_go (fun zt zk => (XS.icmpYes X1.here hx rfl (pc0 := 6) (pc' := 32) rfl (hb hby own_d4_6) rfl (flt ((own_irr _) : ¬ ((4 : Int32) < (4 : Int32)))).2.2.2 (by decide) (by decide) (XS.aloadN X1.here hx rfl (hb hby own_d4_32) rfl rfl (XS.aloadN X1.here hx rfl (hb hby own_d4_33) rfl rfl zk)))) ?_
  show own_Go p e below s _ _ _ (T1.setTop (mkF m 34 #[rv a0', rv a1] [(.ref a0'), (.ref a1)]))
  obtain ⟨T3, X3, e3, st3⟩ := getF X1 hx hZ hown (host := "") (Or.inl (hw _ (List.mem_of_getElem? (i := 16) rfl))) Via.refl e1 Fs (g := (mkF m 34 #[rv a0', rv a1] [(.ref a0'), (.ref a1)])) rfl rfl (hb hby own_d4_34)
  refine own_go st3 ?_
  show own_Go p e below s _ _ _ (T3.setTop (mkF m 37 #[rv a0', rv a1] [(.int (2 : Int32)), (.ref a1)]))
  refine own_go (fun zt zk => (XS.aloadN X3.here hx rfl (hb hby own_d4_37) rfl rfl zk)) ?_
  show own_Go p e below s _ _ _ (T3.setTop (mkF m 38 #[rv a0', rv a1] [(.ref a0'), (.int (2 : Int32)), (.ref a1)]))
  obtain ⟨T4, X4, e4, st4⟩ := getF X3 hx hZ hown (host := "") (Or.inl (hw _ (List.mem_of_getElem? (i := 18) rfl))) Via.refl e3 Fe (g := (mkF m 38 #[rv a0', rv a1] [(.ref a0'), (.int (2 : Int32)), (.ref a1)])) rfl rfl (hb hby own_d4_38)
  refine own_go st4 ?_
  show own_Go p e below s _ _ _ (T4.setTop (mkF m 41 #[rv a0', rv a1] [(.int (4 : Int32)), (.int (2 : Int32)), (.ref a1)]))
  obtain ⟨_, _, ⟨T5, L5, k5, n5⟩, -, X5, ⟨Lc5, hQ5, l5, y5, z5⟩, st5⟩ := Jvm.LawKit.callS X4 hx (y := (⟨"java/util/Arrays", "copyOfRange", "([BII)[B"⟩ : MethodName)) hown (mvT hZ (hw _ (List.mem_of_getElem? (i := 25) rfl))) (mvT hZ (hw _ (List.mem_of_getElem? (i := 26) rfl))) (mvT hZ (hw _ (List.mem_of_getElem? (i := 27) rfl))) (mvT hZ (hw _ (List.mem_of_getElem? (i := 28) rfl))) (by decide) (backOf (W := 0) (own_rcr24 l Z a0 hw [] a1 k1 v0 v1 v2 v3 h0 n0 Z0 Va Ea) hZ (hw _ (List.mem_of_getElem? (i := 28) rfl)) (hw _ (List.mem_of_getElem? (i := 27) rfl)) (by decide) (by decide)) (g := (mkF m 41 #[rv a0', rv a1] [(.int (4 : Int32)), (.int (2 : Int32)), (.ref a1)])) rfl (by rw [hml]; rfl) (argsL := [(.ref a1), (.int (2 : Int32)), (.int (4 : Int32))]) (rest := []) (lenOf own_pd___BII__B rfl) rfl (by show 2 * 0 + _ ≤ _; exact Nat.le_of_eq rfl) (hb hby own_d4_41) (fun _ _ => ⟨rfl, e4, (by decide : 0 + 1 ≤ _), (by decide : 0 + 2 ≤ _)⟩)
  dsimp only [Pt.U, Pt.locs, Pt.cells, Pt.slots] at X5 l5 y5 z5 st5 hQ5
  subst l5 y5 z5
  obtain ⟨b5, k5', rfl, Nq5, K5, sz_b5, Ea_b5, V_b5⟩ := hQ5
  have N5 := Fr.app N0 Nq5
  refine own_go st5 ?_
  replace Va := Va.keep K5 nin0
  replace Ea := Ea.keep K5
  replace Fs := Fs.keep K5 nin0
  replace Fe := Fe.keep K5 nin0
  replace Kp := Kp.trans K5 all0
  show own_Go p e below s _ _ _ (T5.setTop (mkF m 44 #[rv a0', rv a1] [(.ref b5)]))
  exact own_fin X5 Bd.notSynchronized (fun h => by rw [Bd.returns] at h; cases h) (fun fs hr => retOut X5 hx (t := (.array .byte)) (w := (.ref b5)) Bd.returns rfl (Or.inr (Or.inr (Or.inr (Or.inr ⟨rfl, rfl, rfl⟩)))) (hb hby own_d4_44) hr) ⟨_, _, rfl, N5, Kp, sz_b5, Ea_b5, V_b5⟩ (by decide) (by decide)
theorem own_ef_own_rcrb33 (m : MethodId) (a1 : Addr) : entryFrame m #[(.ref a1), (.int (3 : Int32)), (.int (3 : Int32))] 5 = mkF m 0 #[rv a1, iv (3 : Int32), iv (3 : Int32), .unset, .unset] [] := by first | (simp [entryFrame, mkF, argsToLocals, Value.category]; done) | rfl
def own_Q_own_rcrb33 (Z : State) (a1 : Addr) (k1 : ClassId) (v0 v1 v2 v3 : Value) (h0 : Heap) (n0 : Nat) (v : Option Value) (h : Heap) (L : List Loc) : Prop := ∃ b k, v = some (.ref b) ∧ Fr n0 L ∧ Keep h0 h [] ∧ h0.size ≤ b ∧ Exa Z h b "[B" ∧ Arv Z h b k .byte (0 : Int32) [] (.int (0 : Int32))
set_option maxRecDepth 65536 in
set_option maxHeartbeats 40000000 in
theorem own_rcrb33 (l : Launch) (Z : State) (a0 : Array Value) (hw : ∀ d ∈ tables_1, d.before a0 Z = true) (ws : List Jvm.Cond) (a1 : Addr) (k1 : ClassId) (v0 v1 v2 v3 : Value) (h0 : Heap) (n0 : Nat) (Z0 : n0 ≤ h0.size) (Va : Arv Z h0 a1 k1 .byte (4 : Int32) [v0, v1, v2, v3] (.int (0 : Int32)))  :
    MetFree l (⟨"java/util/Arrays", "copyOfRangeByte", "([BII)[B"⟩ : MethodName) (head1 (Jvm.Cond.code (⟨"java/util/Arrays", "copyOfRangeByte", "([BII)[B"⟩ : MethodName) jdk_65_method_133_code 5 (some (.array .byte)) :: ws) ({ frames := 1, cells := 1, slots := 0, locals := 32 } : Room)) (fun a U => a = #[(.ref a1), (.int (3 : Int32)), (.int (3 : Int32))] ∧ Z.Warmed39 U.vm ∧ U.heap = h0) (fun _ _ _ _ _ => True) (fun _ U o U' => ∃ v L, o = .returned v ∧ own_Q_own_rcrb33 Z a1 k1 v0 v1 v2 v3 h0 n0 v U'.heap L ∧ FrameEnd U o U' L ({ frames := 1, cells := 1, slots := 0, locals := 32 } : Room).cells ({ frames := 1, cells := 1, slots := 0, locals := 32 } : Room).slots) := by
  refine MetFree.of_bodySF (plainFor_of_name own_pn_java_util_Arrays) hisR ?_
  intro p e s m args below meth c s₁ Bd hml0 hP hK
  obtain ⟨rfl, hZ, hh⟩ := hP
  have hx := Bd.exec
  have hby := Bd.bytes
  have hml : c.maxLocals = 5 := hml0
  have hown : s.vm.findClass "java/util/Arrays" = some m.cls := findClass_of_methodNamed Bd.named
  have hnm := (name_of_methodNamed Bd.named Bd.method).1
  have X0 : Stand p l e ({ frames := 1, cells := 1, slots := 0, locals := 32 } : Room) s m #[(.ref a1), (.int (3 : Int32)), (.int (3 : Int32))] below meth c s₁ [] 0 0 := Stand.of_body Bd
  have e0 : s₁.heap = h0 := by rw [← hh, Bd.state]; rfl
  have N0 := Fr.nil n0
  have Kp : Keep h0 h0 [] := Keep.refl h0 _
  show own_Go p e below s (own_Q_own_rcrb33 Z a1 k1 v0 v1 v2 v3 h0 n0) ({ frames := 1, cells := 1, slots := 0, locals := 32 } : Room).cells ({ frames := 1, cells := 1, slots := 0, locals := 32 } : Room).slots (s₁.setTop (entryFrame m #[(.ref a1), (.int (3 : Int32)), (.int (3 : Int32))] 5))
  refine own_go (fun zt zk => castTop (own_ef_own_rcrb33 m a1) zk) ?_
  show own_Go p e below s _ _ _ (s₁.setTop (mkF m 0 #[rv a1, iv (3 : Int32), iv (3 : Int32), .unset, .unset] []))
  refine own_go (fun zt zk => (XS.iloadN X0.here hx rfl (hb hby own_d6_0) rfl (XS.iloadN X0.here hx rfl (hb hby own_d6_1) rfl zk))) ?_
  show own_Go p e below s _ _ _ (s₁.setTop (mkF m 2 #[rv a1, iv (3 : Int32), iv (3 : Int32), .unset, .unset] [(.int (3 : Int32)), (.int (3 : Int32))]))
  obtain ⟨_, _, ⟨T1, L1, k1, n1⟩, -, X1, ⟨Lc1, hQ1, l1, y1, z1⟩, st1⟩ := Jvm.LawKit.callS X0 hx (y := (⟨"java/util/Arrays", "checkLength", "(II)V"⟩ : MethodName)) hown (mvT hZ (hw _ (List.mem_of_getElem? (i := 32) rfl))) (mvT hZ (hw _ (List.mem_of_getElem? (i := 33) rfl))) (mvT hZ (hw _ (List.mem_of_getElem? (i := 27) rfl))) (mvT hZ (hw _ (List.mem_of_getElem? (i := 34) rfl))) (by decide) (backOf (W := 0) (own_rcl l Z a0 hw [] (3 : Int32) (3 : Int32)  h0 n0 Z0 (by decide)) hZ (hw _ (List.mem_of_getElem? (i := 34) rfl)) (hw _ (List.mem_of_getElem? (i := 27) rfl)) (by decide) (by decide)) (g := (mkF m 2 #[rv a1, iv (3 : Int32), iv (3 : Int32), .unset, .unset] [(.int (3 : Int32)), (.int (3 : Int32))])) rfl (by rw [hml]; rfl) (argsL := [(.int (3 : Int32)), (.int (3 : Int32))]) (rest := []) (lenOf own_pd__II_V rfl) rfl (by show 2 * 0 + _ ≤ _; exact Nat.le_of_eq rfl) (hb hby own_d6_2) (fun _ _ => ⟨rfl, e0, (by decide : 0 + 0 ≤ _), (by decide : 0 + 0 ≤ _)⟩)
  dsimp only [Pt.U, Pt.locs, Pt.cells, Pt.slots] at X1 l1 y1 z1 st1 hQ1
  subst l1 y1 z1
  obtain ⟨rfl, Nq1, e1⟩ := hQ1
  have N1 := Fr.app N0 Nq1
  refine own_go st1 ?_
  show own_Go p e below s _ _ _ (T1.setTop (mkF m 5 #[rv a1, iv (3 : Int32), iv (3 : Int32), .unset, .unset] []))
  refine own_go (fun zt zk => (XS.iloadN X1.here hx rfl (hb hby own_d6_5) rfl (XS.iloadN X1.here hx rfl (hb hby own_d6_6) rfl (XS.isub X1.here hx rfl (hb hby own_d6_7) rfl (XS.istoreN X1.here hx rfl (hb hby own_d6_8) rfl (l' := #[rv a1, iv (3 : Int32), iv (3 : Int32), iv (0 : Int32), .unset]) rfl (XS.iloadN X1.here hx rfl (hb hby own_d6_9) rfl zk)))))) ?_
  show own_Go p e below s _ _ _ (T1.setTop (mkF m 10 #[rv a1, iv (3 : Int32), iv (3 : Int32), iv (0 : Int32), .unset] [(.int (0 : Int32))]))
  obtain ⟨T2, h2, k2, X2, e2, E2, A2, Ea2, st2⟩ := newPE X1 hx hZ (hw _ (List.mem_of_getElem? (i := 0) rfl)) e1 (g := (mkF m 10 #[rv a1, iv (3 : Int32), iv (3 : Int32), iv (0 : Int32), .unset] [(.int (0 : Int32))])) rfl (hb hby own_d6_10) rfl (by decide) (cap := 0) (by decide) (by decide) (by decide) (by decide) (ad := "[B") (by decide)
  obtain ⟨b2, g2⟩ : ∃ z, z = h0.size := ⟨_, rfl⟩
  rw [← g2] at A2 Ea2 st2
  refine own_go st2 ?_
  have ne_a1_b2 : a1 ≠ b2 := Nat.ne_of_lt (Nat.lt_of_lt_of_le Va.lt (Nat.le_of_eq g2.symm))
  have sz_b2 : h0.size ≤ b2 := Nat.le_trans Kp.1 (Nat.le_of_eq g2.symm)
  have g_b2 : n0 ≤ b2 := Nat.le_trans Z0 sz_b2
  replace Va := Va.ext E2
  replace Kp := Kp.ext E2
  have V_b2 : Arv Z h2 b2 k2 .byte (0 : Int32) [] (.int (0 : Int32)) := (Arv.new A2 (by decide)).pad (pad_rep [] (.int (0 : Int32)) 0)
  have Ea_b2 := Ea2
  show own_Go p e below s _ _ _ (T2.setTop (mkF m 12 #[rv a1, iv (3 : Int32), iv (3 : Int32), iv (0 : Int32), .unset] [(.ref b2)]))
  refine own_go (fun zt zk => (XS.astore X2.here hx rfl (hb hby own_d6_12) rfl rfl (l' := #[rv a1, iv (3 : Int32), iv (3 : Int32), iv (0 : Int32), rv b2]) rfl (XS.aloadN X2.here hx rfl (hb hby own_d6_14) rfl rfl (XS.iloadN X2.here hx rfl (hb hby own_d6_15) rfl (XS.aload X2.here hx rfl (hb hby own_d6_16) rfl rfl (XS.iconst X2.here hx rfl (hb hby own_d6_18) (XS.aloadN X2.here hx rfl (hb hby own_d6_19) rfl rfl zk))))))) ?_
  show own_Go p e below s _ _ _ (T2.setTop (mkF m 20 #[rv a1, iv (3 : Int32), iv (3 : Int32), iv (0 : Int32), rv b2] [(.ref a1), (.int (0 : Int32)), (.ref b2), (.int (3 : Int32)), (.ref a1)]))
  obtain ⟨cl3, Ar3, -, Sz3, Nz3, -, -⟩ := id Va
  refine own_go (X2.arraylength hx (by rw [e2]; exact Ar3.1) (State.isArrayOf_alike hZ.alike Ar3.2.1) (g := (mkF m 20 #[rv a1, iv (3 : Int32), iv (3 : Int32), iv (0 : Int32), rv b2] [(.ref a1), (.int (0 : Int32)), (.ref b2), (.int (3 : Int32)), (.ref a1)])) rfl rfl (hb hby own_d6_20)) ?_
  rw [len_of Sz3 Nz3]
  show own_Go p e below s _ _ _ (T2.setTop (mkF m 21 #[rv a1, iv (3 : Int32), iv (3 : Int32), iv (0 : Int32), rv b2] [(.int (4 : Int32)), (.int (0 : Int32)), (.ref b2), (.int (3 : Int32)), (.ref a1)]))
  refine own_go (fun zt zk => (XS.iloadN X2.here hx rfl (hb hby own_d6_21) rfl (XS.isub X2.here hx rfl (hb hby own_d6_22) rfl (XS.iloadN X2.here hx rfl (hb hby own_d6_23) rfl zk)))) ?_
  show own_Go p e below s _ _ _ (T2.setTop (mkF m 24 #[rv a1, iv (3 : Int32), iv (3 : Int32), iv (0 : Int32), rv b2] [(.int (0 : Int32)), (.int (1 : Int32)), (.int (0 : Int32)), (.ref b2), (.int (3 : Int32)), (.ref a1)]))
  obtain ⟨_, _, ⟨T4, L4, k4, n4⟩, -, X4, ⟨Lc4, hQ4, l4, y4, z4⟩, st4⟩ := Jvm.LawKit.callS X2 hx (y := (⟨"java/lang/Math", "min", "(II)I"⟩ : MethodName)) hown (mvT hZ (hw _ (List.mem_of_getElem? (i := 35) rfl))) (mvT hZ (hw _ (List.mem_of_getElem? (i := 36) rfl))) (mvT hZ (hw _ (List.mem_of_getElem? (i := 37) rfl))) (mvT hZ (hw _ (List.mem_of_getElem? (i := 38) rfl))) (by decide) (backOf (W := 4) (own_rmin l Z a0 hw [] (1 : Int32) (0 : Int32)  h2 n0 (Nat.le_trans Z0 Kp.1) ) hZ (hw _ (List.mem_of_getElem? (i := 38) rfl)) (hw _ (List.mem_of_getElem? (i := 37) rfl)) (by decide) (by decide)) (g := (mkF m 24 #[rv a1, iv (3 : Int32), iv (3 : Int32), iv (0 : Int32), rv b2] [(.int (0 : Int32)), (.int (1 : Int32)), (.int (0 : Int32)), (.ref b2), (.int (3 : Int32)), (.ref a1)])) rfl (by rw [hml]; rfl) (argsL := [(.int (1 : Int32)), (.int (0 : Int32))]) (rest := [(.int (0 : Int32)), (.ref b2), (.int (3 : Int32)), (.ref a1)]) (lenOf own_pd__II_I rfl) rfl (by show 2 * 0 + _ ≤ _; exact Nat.le_of_eq rfl) (hb hby own_d6_24) (fun _ _ => ⟨rfl, e2, (by decide : 1 + 0 ≤ _), (by decide : 0 + 0 ≤ _)⟩)
  dsimp only [Pt.U, Pt.locs, Pt.cells, Pt.slots] at X4 l4 y4 z4 st4 hQ4
  subst l4 y4 z4
  obtain ⟨rfl, Nq4, e4⟩ := hQ4
  have N4 := Fr.app N1 Nq4
  refine own_go st4 ?_
  show own_Go p e below s _ _ _ (T4.setTop (mkF m 27 #[rv a1, iv (3 : Int32), iv (3 : Int32), iv (0 : Int32), rv b2] [(.int (0 : Int32)), (.int (0 : Int32)), (.ref b2), (.int (3 : Int32)), (.ref a1)]))
  obtain ⟨T5, h5, L5, X5, e5, N5, K5, V5, st5⟩ := cpA X4 hx hZ hown (hw _ (List.mem_of_getElem? (i := 39) rfl)) (hw _ (List.mem_of_getElem? (i := 42) rfl)) (hw _ (List.mem_of_getElem? (i := 40) rfl)) (hw _ (List.mem_of_getElem? (i := 41) rfl)) e4 Va V_b2 (us := []) (Or.inl ⟨rfl, rfl⟩) (by decide) (by decide) (by decide) (by decide) (by decide) rfl (by decide) N4 g_b2 (g := (mkF m 27 #[rv a1, iv (3 : Int32), iv (3 : Int32), iv (0 : Int32), rv b2] [(.int (0 : Int32)), (.int (0 : Int32)), (.ref b2), (.int (3 : Int32)), (.ref a1)])) rfl (by rw [hml]; rfl) rfl (hb hby own_d6_27) (by decide) (W := 0) (by show 2 * 0 + _ ≤ _; exact Nat.le_of_eq rfl) (by decide)
  refine own_go st5 ?_
  replace Va := Va.keep K5 (ninS ne_a1_b2 nin0)
  replace Kp := Kp.trans K5 (allS (Or.inr sz_b2) all0)
  replace Ea_b2 := Ea_b2.keep K5
  replace V_b2 : Arv Z h5 b2 k2 .byte (0 : Int32) [] (.int (0 : Int32)) := V5
  show own_Go p e below s _ _ _ (T5.setTop (mkF m 30 #[rv a1, iv (3 : Int32), iv (3 : Int32), iv (0 : Int32), rv b2] []))
  refine own_go (fun zt zk => (XS.aload X5.here hx rfl (hb hby own_d6_30) rfl rfl zk)) ?_
  show own_Go p e below s _ _ _ (T5.setTop (mkF m 32 #[rv a1, iv (3 : Int32), iv (3 : Int32), iv (0 : Int32), rv b2] [(.ref b2)]))
  exact own_fin X5 Bd.notSynchronized (fun h => by rw [Bd.returns] at h; cases h) (fun fs hr => retOut X5 hx (t := (.array .byte)) (w := (.ref b2)) Bd.returns rfl (Or.inr (Or.inr (Or.inr (Or.inr ⟨rfl, rfl, rfl⟩)))) (hb hby own_d6_32) hr) (by rw [e5]; exact ⟨_, _, rfl, N5, Kp, sz_b2, Ea_b2, V_b2⟩) (by decide) (by decide)
theorem own_ef_own_rcr33 (m : MethodId) (a1 : Addr) : entryFrame m #[(.ref a1), (.int (3 : Int32)), (.int (3 : Int32))] 3 = mkF m 0 #[rv a1, iv (3 : Int32), iv (3 : Int32)] [] := by first | (simp [entryFrame, mkF, argsToLocals, Value.category]; done) | rfl
def own_Q_own_rcr33 (Z : State) (a1 : Addr) (k1 : ClassId) (v0 v1 v2 v3 : Value) (h0 : Heap) (n0 : Nat) (v : Option Value) (h : Heap) (L : List Loc) : Prop := ∃ b k, v = some (.ref b) ∧ Fr n0 L ∧ Keep h0 h [] ∧ h0.size ≤ b ∧ Exa Z h b "[B" ∧ Arv Z h b k .byte (0 : Int32) [] (.int (0 : Int32))
set_option maxRecDepth 65536 in
set_option maxHeartbeats 40000000 in
theorem own_rcr33 (l : Launch) (Z : State) (a0 : Array Value) (hw : ∀ d ∈ tables_1, d.before a0 Z = true) (ws : List Jvm.Cond) (a1 : Addr) (k1 : ClassId) (v0 v1 v2 v3 : Value) (h0 : Heap) (n0 : Nat) (Z0 : n0 ≤ h0.size) (Va : Arv Z h0 a1 k1 .byte (4 : Int32) [v0, v1, v2, v3] (.int (0 : Int32))) (Ea : Exa Z h0 a1 "[B")  :
    MetFree l (⟨"java/util/Arrays", "copyOfRange", "([BII)[B"⟩ : MethodName) (head1 (Jvm.Cond.code (⟨"java/util/Arrays", "copyOfRange", "([BII)[B"⟩ : MethodName) jdk_65_method_132_code 3 (some (.array .byte)) :: ws) ({ frames := 2, cells := 1, slots := 0, locals := 48 } : Room)) (fun a U => a = #[(.ref a1), (.int (3 : Int32)), (.int (3 : Int32))] ∧ Z.Warmed39 U.vm ∧ U.heap = h0) (fun _ _ _ _ _ => True) (fun _ U o U' => ∃ v L, o = .returned v ∧ own_Q_own_rcr33 Z a1 k1 v0 v1 v2 v3 h0 n0 v U'.heap L ∧ FrameEnd U o U' L ({ frames := 2, cells := 1, slots := 0, locals := 48 } : Room).cells ({ frames := 2, cells := 1, slots := 0, locals := 48 } : Room).slots) := by
  refine MetFree.of_bodySF (plainFor_of_name own_pn_java_util_Arrays) hisR ?_
  intro p e s m args below meth c s₁ Bd hml0 hP hK
  obtain ⟨rfl, hZ, hh⟩ := hP
  have hx := Bd.exec
  have hby := Bd.bytes
  have hml : c.maxLocals = 3 := hml0
  have hown : s.vm.findClass "java/util/Arrays" = some m.cls := findClass_of_methodNamed Bd.named
  have hnm := (name_of_methodNamed Bd.named Bd.method).1
  have X0 : Stand p l e ({ frames := 2, cells := 1, slots := 0, locals := 48 } : Room) s m #[(.ref a1), (.int (3 : Int32)), (.int (3 : Int32))] below meth c s₁ [] 0 0 := Stand.of_body Bd
  have e0 : s₁.heap = h0 := by rw [← hh, Bd.state]; rfl
  have N0 := Fr.nil n0
  have Kp : Keep h0 h0 [] := Keep.refl h0 _
  show own_Go p e below s (own_Q_own_rcr33 Z a1 k1 v0 v1 v2 v3 h0 n0) ({ frames := 2, cells := 1, slots := 0, locals := 48 } : Room).cells ({ frames := 2, cells := 1, slots := 0, locals := 48 } : Room).slots (s₁.setTop (entryFrame m #[(.ref a1), (.int (3 : Int32)), (.int (3 : Int32))] 3))
  refine own_go (fun zt zk => castTop (own_ef_own_rcr33 m a1) zk) ?_
  show own_Go p e below s _ _ _ (s₁.setTop (mkF m 0 #[rv a1, iv (3 : Int32), iv (3 : Int32)] []))
  refine own_go (fun zt zk => (XS.iloadN X0.here hx rfl (hb hby own_d5_0) rfl (XS.ifYes X0.here hx rfl (pc0 := 1) (pc' := 10) rfl (hb hby own_d5_1) rfl ((if0 _ _).trans (feq ((by decide) : ¬ ((3 : Int32) = (0 : Int32)))).2) (by decide) (by decide) (XS.aloadN X0.here hx rfl (hb hby own_d5_10) rfl rfl (XS.iloadN X0.here hx rfl (hb hby own_d5_11) rfl (XS.iloadN X0.here hx rfl (hb hby own_d5_12) rfl zk)))))) ?_
  show own_Go p e below s _ _ _ (s₁.setTop (mkF m 13 #[rv a1, iv (3 : Int32), iv (3 : Int32)] [(.int (3 : Int32)), (.int (3 : Int32)), (.ref a1)]))
  obtain ⟨_, _, ⟨T1, L1, k1, n1⟩, -, X1, ⟨Lc1, hQ1, l1, y1, z1⟩, st1⟩ := Jvm.LawKit.callS X0 hx (y := (⟨"java/util/Arrays", "copyOfRangeByte", "([BII)[B"⟩ : MethodName)) hown (mvT hZ (hw _ (List.mem_of_getElem? (i := 29) rfl))) (mvT hZ (hw _ (List.mem_of_getElem? (i := 30) rfl))) (mvT hZ (hw _ (List.mem_of_getElem? (i := 27) rfl))) (mvT hZ (hw _ (List.mem_of_getElem? (i := 31) rfl))) (by decide) (backOf (W := 0) (own_rcrb33 l Z a0 hw [] a1 k1 v0 v1 v2 v3 h0 n0 Z0 Va) hZ (hw _ (List.mem_of_getElem? (i := 31) rfl)) (hw _ (List.mem_of_getElem? (i := 27) rfl)) (by decide) (by decide)) (g := (mkF m 13 #[rv a1, iv (3 : Int32), iv (3 : Int32)] [(.int (3 : Int32)), (.int (3 : Int32)), (.ref a1)])) rfl (by rw [hml]; rfl) (argsL := [(.ref a1), (.int (3 : Int32)), (.int (3 : Int32))]) (rest := []) (lenOf own_pd___BII__B rfl) rfl (by show 2 * 0 + _ ≤ _; exact Nat.le_of_eq rfl) (hb hby own_d5_13) (fun _ _ => ⟨rfl, e0, (by decide : 0 + 1 ≤ _), (by decide : 0 + 0 ≤ _)⟩)
  dsimp only [Pt.U, Pt.locs, Pt.cells, Pt.slots] at X1 l1 y1 z1 st1 hQ1
  subst l1 y1 z1
  obtain ⟨b1, k1', rfl, Nq1, K1, sz_b1, Ea_b1, V_b1⟩ := hQ1
  have N1 := Fr.app N0 Nq1
  refine own_go st1 ?_
  replace Va := Va.keep K1 nin0
  replace Ea := Ea.keep K1
  replace Kp := Kp.trans K1 all0
  show own_Go p e below s _ _ _ (T1.setTop (mkF m 16 #[rv a1, iv (3 : Int32), iv (3 : Int32)] [(.ref b1)]))
  exact own_fin X1 Bd.notSynchronized (fun h => by rw [Bd.returns] at h; cases h) (fun fs hr => retOut X1 hx (t := (.array .byte)) (w := (.ref b1)) Bd.returns rfl (Or.inr (Or.inr (Or.inr (Or.inr ⟨rfl, rfl, rfl⟩)))) (hb hby own_d5_16) hr) ⟨_, _, rfl, N1, Kp, sz_b1, Ea_b1, V_b1⟩ (by decide) (by decide)
theorem own_ef_own_rbi33 (m : MethodId) (a0' : Addr) (a1 : Addr) : entryFrame m #[(.ref a0'), (.ref a1)] 2 = mkF m 0 #[rv a0', rv a1] [] := by first | (simp [entryFrame, mkF, argsToLocals, Value.category]; done) | rfl
def own_Q_own_rbi33 (Z : State) (a0' : Addr) (a1 : Addr) (k1 : ClassId) (v0 v1 v2 v3 : Value) (h0 : Heap) (n0 : Nat) (v : Option Value) (h : Heap) (L : List Loc) : Prop := ∃ b k, v = some (.ref b) ∧ Fr n0 L ∧ Keep h0 h [] ∧ h0.size ≤ b ∧ Exa Z h b "[B" ∧ Arv Z h b k .byte (0 : Int32) [] (.int (0 : Int32))
set_option maxRecDepth 65536 in
set_option maxHeartbeats 40000000 in
theorem own_rbi33 (l : Launch) (Z : State) (a0 : Array Value) (hw : ∀ d ∈ tables_1, d.before a0 Z = true) (ws : List Jvm.Cond) (a0' : Addr) (a1 : Addr) (k1 : ClassId) (v0 v1 v2 v3 : Value) (h0 : Heap) (n0 : Nat) (Z0 : n0 ≤ h0.size) (Va : Arv Z h0 a1 k1 .byte (4 : Int32) [v0, v1, v2, v3] (.int (0 : Int32))) (Ea : Exa Z h0 a1 "[B") (Fs : Fld Z h0 a0' "com/example/tranche/tranche/model/Span" "start" "I" (.int (3 : Int32))) (Fe : Fld Z h0 a0' "com/example/tranche/tranche/model/Span" "end" "I" (.int (3 : Int32)))  :
    MetFree l (⟨"com/example/tranche/tranche/model/Span", "bytesIn", "([B)[B"⟩ : MethodName) (head1 (Jvm.Cond.code (⟨"com/example/tranche/tranche/model/Span", "bytesIn", "([B)[B"⟩ : MethodName) prog_34_method_2_code 2 (some (.array .byte)) :: ws) ({ frames := 3, cells := 1, slots := 0, locals := 62 } : Room)) (fun a U => a = #[(.ref a0'), (.ref a1)] ∧ Z.Warmed39 U.vm ∧ U.heap = h0) (fun _ _ _ _ _ => True) (fun _ U o U' => ∃ v L, o = .returned v ∧ own_Q_own_rbi33 Z a0' a1 k1 v0 v1 v2 v3 h0 n0 v U'.heap L ∧ FrameEnd U o U' L ({ frames := 3, cells := 1, slots := 0, locals := 62 } : Room).cells ({ frames := 3, cells := 1, slots := 0, locals := 62 } : Room).slots) := by
  refine MetFree.of_bodySF (plainFor_of_name own_pn_com_example_tranche_tranche_model_Span) hisR ?_
  intro p e s m args below meth c s₁ Bd hml0 hP hK
  obtain ⟨rfl, hZ, hh⟩ := hP
  have hx := Bd.exec
  have hby := Bd.bytes
  have hml : c.maxLocals = 2 := hml0
  have hown : s.vm.findClass "com/example/tranche/tranche/model/Span" = some m.cls := findClass_of_methodNamed Bd.named
  have hnm := (name_of_methodNamed Bd.named Bd.method).1
  have X0 : Stand p l e ({ frames := 3, cells := 1, slots := 0, locals := 62 } : Room) s m #[(.ref a0'), (.ref a1)] below meth c s₁ [] 0 0 := Stand.of_body Bd
  have e0 : s₁.heap = h0 := by rw [← hh, Bd.state]; rfl
  have N0 := Fr.nil n0
  have Kp : Keep h0 h0 [] := Keep.refl h0 _
  show own_Go p e below s (own_Q_own_rbi33 Z a0' a1 k1 v0 v1 v2 v3 h0 n0) ({ frames := 3, cells := 1, slots := 0, locals := 62 } : Room).cells ({ frames := 3, cells := 1, slots := 0, locals := 62 } : Room).slots (s₁.setTop (entryFrame m #[(.ref a0'), (.ref a1)] 2))
  refine own_go (fun zt zk => castTop (own_ef_own_rbi33 m a0' a1) zk) ?_
  show own_Go p e below s _ _ _ (s₁.setTop (mkF m 0 #[rv a0', rv a1] []))
  refine own_go (fun zt zk => (XS.aloadN X0.here hx rfl (hb hby own_d4_0) rfl rfl zk)) ?_
  show own_Go p e below s _ _ _ (s₁.setTop (mkF m 1 #[rv a0', rv a1] [(.ref a0')]))
  obtain ⟨T1, X1, e1, st1⟩ := getF X0 hx hZ hown (host := "") (Or.inl (hw _ (List.mem_of_getElem? (i := 18) rfl))) Via.refl e0 Fe (g := (mkF m 1 #[rv a0', rv a1] [(.ref a0')])) rfl rfl (hb hby own_d4_1)
  refine own_go st1 ?_
  show own_Go p e below s _ _ _ (T1.setTop (mkF m 4 #[rv a0', rv a1] [(.int (3 : Int32))]))
  refine own_go (fun zt zk => (XS.aloadN X1.here hx rfl (hb hby own_d4_4) rfl rfl zk)) ?_
  show own_Go p e below s _ _ _ (T1.setTop (mkF m 5 #[rv a0', rv a1] [(.ref a1), (.int (3 : Int32))]))
  obtain ⟨cl2, Ar2, -, Sz2, Nz2, -, -⟩ := id Va
  refine own_go (X1.arraylength hx (by rw [e1]; exact Ar2.1) (State.isArrayOf_alike hZ.alike Ar2.2.1) (g := (mkF m 5 #[rv a0', rv a1] [(.ref a1), (.int (3 : Int32))])) rfl rfl (hb hby own_d4_5)) ?_
  rw [len_of Sz2 Nz2]
  show own_Go p e below s _ _ _ (T1.setTop (mkF m 6 #[rv a0', rv a1] [(.int (4 : Int32)), (.int (3 : Int32))]))
  refine own_go (fun zt zk => (XS.icmpYes X1.here hx rfl (pc0 := 6) (pc' := 32) rfl (hb hby own_d4_6) rfl (flt ((by decide) : ¬ ((4 : Int32) < (3 : Int32)))).2.2.2 (by decide) (by decide) (XS.aloadN X1.here hx rfl (hb hby own_d4_32) rfl rfl (XS.aloadN X1.here hx rfl (hb hby own_d4_33) rfl rfl zk)))) ?_
  show own_Go p e below s _ _ _ (T1.setTop (mkF m 34 #[rv a0', rv a1] [(.ref a0'), (.ref a1)]))
  obtain ⟨T3, X3, e3, st3⟩ := getF X1 hx hZ hown (host := "") (Or.inl (hw _ (List.mem_of_getElem? (i := 16) rfl))) Via.refl e1 Fs (g := (mkF m 34 #[rv a0', rv a1] [(.ref a0'), (.ref a1)])) rfl rfl (hb hby own_d4_34)
  refine own_go st3 ?_
  show own_Go p e below s _ _ _ (T3.setTop (mkF m 37 #[rv a0', rv a1] [(.int (3 : Int32)), (.ref a1)]))
  refine own_go (fun zt zk => (XS.aloadN X3.here hx rfl (hb hby own_d4_37) rfl rfl zk)) ?_
  show own_Go p e below s _ _ _ (T3.setTop (mkF m 38 #[rv a0', rv a1] [(.ref a0'), (.int (3 : Int32)), (.ref a1)]))
  obtain ⟨T4, X4, e4, st4⟩ := getF X3 hx hZ hown (host := "") (Or.inl (hw _ (List.mem_of_getElem? (i := 18) rfl))) Via.refl e3 Fe (g := (mkF m 38 #[rv a0', rv a1] [(.ref a0'), (.int (3 : Int32)), (.ref a1)])) rfl rfl (hb hby own_d4_38)
  refine own_go st4 ?_
  show own_Go p e below s _ _ _ (T4.setTop (mkF m 41 #[rv a0', rv a1] [(.int (3 : Int32)), (.int (3 : Int32)), (.ref a1)]))
  obtain ⟨_, _, ⟨T5, L5, k5, n5⟩, -, X5, ⟨Lc5, hQ5, l5, y5, z5⟩, st5⟩ := Jvm.LawKit.callS X4 hx (y := (⟨"java/util/Arrays", "copyOfRange", "([BII)[B"⟩ : MethodName)) hown (mvT hZ (hw _ (List.mem_of_getElem? (i := 25) rfl))) (mvT hZ (hw _ (List.mem_of_getElem? (i := 26) rfl))) (mvT hZ (hw _ (List.mem_of_getElem? (i := 27) rfl))) (mvT hZ (hw _ (List.mem_of_getElem? (i := 28) rfl))) (by decide) (backOf (W := 0) (own_rcr33 l Z a0 hw [] a1 k1 v0 v1 v2 v3 h0 n0 Z0 Va Ea) hZ (hw _ (List.mem_of_getElem? (i := 28) rfl)) (hw _ (List.mem_of_getElem? (i := 27) rfl)) (by decide) (by decide)) (g := (mkF m 41 #[rv a0', rv a1] [(.int (3 : Int32)), (.int (3 : Int32)), (.ref a1)])) rfl (by rw [hml]; rfl) (argsL := [(.ref a1), (.int (3 : Int32)), (.int (3 : Int32))]) (rest := []) (lenOf own_pd___BII__B rfl) rfl (by show 2 * 0 + _ ≤ _; exact Nat.le_of_eq rfl) (hb hby own_d4_41) (fun _ _ => ⟨rfl, e4, (by decide : 0 + 1 ≤ _), (by decide : 0 + 0 ≤ _)⟩)
  dsimp only [Pt.U, Pt.locs, Pt.cells, Pt.slots] at X5 l5 y5 z5 st5 hQ5
  subst l5 y5 z5
  obtain ⟨b5, k5', rfl, Nq5, K5, sz_b5, Ea_b5, V_b5⟩ := hQ5
  have N5 := Fr.app N0 Nq5
  refine own_go st5 ?_
  replace Va := Va.keep K5 nin0
  replace Ea := Ea.keep K5
  replace Fs := Fs.keep K5 nin0
  replace Fe := Fe.keep K5 nin0
  replace Kp := Kp.trans K5 all0
  show own_Go p e below s _ _ _ (T5.setTop (mkF m 44 #[rv a0', rv a1] [(.ref b5)]))
  exact own_fin X5 Bd.notSynchronized (fun h => by rw [Bd.returns] at h; cases h) (fun fs hr => retOut X5 hx (t := (.array .byte)) (w := (.ref b5)) Bd.returns rfl (Or.inr (Or.inr (Or.inr (Or.inr ⟨rfl, rfl, rfl⟩)))) (hb hby own_d4_44) hr) ⟨_, _, rfl, N5, Kp, sz_b5, Ea_b5, V_b5⟩ (by decide) (by decide)
theorem own_ef_own_rcrb34 (m : MethodId) (a1 : Addr) : entryFrame m #[(.ref a1), (.int (3 : Int32)), (.int (4 : Int32))] 5 = mkF m 0 #[rv a1, iv (3 : Int32), iv (4 : Int32), .unset, .unset] [] := by first | (simp [entryFrame, mkF, argsToLocals, Value.category]; done) | rfl
def own_Q_own_rcrb34 (Z : State) (a1 : Addr) (k1 : ClassId) (v0 v1 v2 v3 : Value) (h0 : Heap) (n0 : Nat) (v : Option Value) (h : Heap) (L : List Loc) : Prop := ∃ b k, v = some (.ref b) ∧ Fr n0 L ∧ Keep h0 h [] ∧ h0.size ≤ b ∧ Exa Z h b "[B" ∧ Arv Z h b k .byte (1 : Int32) [v3] (.int (0 : Int32))
set_option maxRecDepth 65536 in
set_option maxHeartbeats 40000000 in
theorem own_rcrb34 (l : Launch) (Z : State) (a0 : Array Value) (hw : ∀ d ∈ tables_1, d.before a0 Z = true) (ws : List Jvm.Cond) (a1 : Addr) (k1 : ClassId) (v0 v1 v2 v3 : Value) (h0 : Heap) (n0 : Nat) (Z0 : n0 ≤ h0.size) (Va : Arv Z h0 a1 k1 .byte (4 : Int32) [v0, v1, v2, v3] (.int (0 : Int32)))  :
    MetFree l (⟨"java/util/Arrays", "copyOfRangeByte", "([BII)[B"⟩ : MethodName) (head1 (Jvm.Cond.code (⟨"java/util/Arrays", "copyOfRangeByte", "([BII)[B"⟩ : MethodName) jdk_65_method_133_code 5 (some (.array .byte)) :: ws) ({ frames := 1, cells := 1, slots := 1, locals := 32 } : Room)) (fun a U => a = #[(.ref a1), (.int (3 : Int32)), (.int (4 : Int32))] ∧ Z.Warmed39 U.vm ∧ U.heap = h0) (fun _ _ _ _ _ => True) (fun _ U o U' => ∃ v L, o = .returned v ∧ own_Q_own_rcrb34 Z a1 k1 v0 v1 v2 v3 h0 n0 v U'.heap L ∧ FrameEnd U o U' L ({ frames := 1, cells := 1, slots := 1, locals := 32 } : Room).cells ({ frames := 1, cells := 1, slots := 1, locals := 32 } : Room).slots) := by
  refine MetFree.of_bodySF (plainFor_of_name own_pn_java_util_Arrays) hisR ?_
  intro p e s m args below meth c s₁ Bd hml0 hP hK
  obtain ⟨rfl, hZ, hh⟩ := hP
  have hx := Bd.exec
  have hby := Bd.bytes
  have hml : c.maxLocals = 5 := hml0
  have hown : s.vm.findClass "java/util/Arrays" = some m.cls := findClass_of_methodNamed Bd.named
  have hnm := (name_of_methodNamed Bd.named Bd.method).1
  have X0 : Stand p l e ({ frames := 1, cells := 1, slots := 1, locals := 32 } : Room) s m #[(.ref a1), (.int (3 : Int32)), (.int (4 : Int32))] below meth c s₁ [] 0 0 := Stand.of_body Bd
  have e0 : s₁.heap = h0 := by rw [← hh, Bd.state]; rfl
  have N0 := Fr.nil n0
  have Kp : Keep h0 h0 [] := Keep.refl h0 _
  show own_Go p e below s (own_Q_own_rcrb34 Z a1 k1 v0 v1 v2 v3 h0 n0) ({ frames := 1, cells := 1, slots := 1, locals := 32 } : Room).cells ({ frames := 1, cells := 1, slots := 1, locals := 32 } : Room).slots (s₁.setTop (entryFrame m #[(.ref a1), (.int (3 : Int32)), (.int (4 : Int32))] 5))
  refine own_go (fun zt zk => castTop (own_ef_own_rcrb34 m a1) zk) ?_
  show own_Go p e below s _ _ _ (s₁.setTop (mkF m 0 #[rv a1, iv (3 : Int32), iv (4 : Int32), .unset, .unset] []))
  refine own_go (fun zt zk => (XS.iloadN X0.here hx rfl (hb hby own_d6_0) rfl (XS.iloadN X0.here hx rfl (hb hby own_d6_1) rfl zk))) ?_
  show own_Go p e below s _ _ _ (s₁.setTop (mkF m 2 #[rv a1, iv (3 : Int32), iv (4 : Int32), .unset, .unset] [(.int (4 : Int32)), (.int (3 : Int32))]))
  obtain ⟨_, _, ⟨T1, L1, k1, n1⟩, -, X1, ⟨Lc1, hQ1, l1, y1, z1⟩, st1⟩ := Jvm.LawKit.callS X0 hx (y := (⟨"java/util/Arrays", "checkLength", "(II)V"⟩ : MethodName)) hown (mvT hZ (hw _ (List.mem_of_getElem? (i := 32) rfl))) (mvT hZ (hw _ (List.mem_of_getElem? (i := 33) rfl))) (mvT hZ (hw _ (List.mem_of_getElem? (i := 27) rfl))) (mvT hZ (hw _ (List.mem_of_getElem? (i := 34) rfl))) (by decide) (backOf (W := 0) (own_rcl l Z a0 hw [] (3 : Int32) (4 : Int32)  h0 n0 Z0 (by decide)) hZ (hw _ (List.mem_of_getElem? (i := 34) rfl)) (hw _ (List.mem_of_getElem? (i := 27) rfl)) (by decide) (by decide)) (g := (mkF m 2 #[rv a1, iv (3 : Int32), iv (4 : Int32), .unset, .unset] [(.int (4 : Int32)), (.int (3 : Int32))])) rfl (by rw [hml]; rfl) (argsL := [(.int (3 : Int32)), (.int (4 : Int32))]) (rest := []) (lenOf own_pd__II_V rfl) rfl (by show 2 * 0 + _ ≤ _; exact Nat.le_of_eq rfl) (hb hby own_d6_2) (fun _ _ => ⟨rfl, e0, (by decide : 0 + 0 ≤ _), (by decide : 0 + 0 ≤ _)⟩)
  dsimp only [Pt.U, Pt.locs, Pt.cells, Pt.slots] at X1 l1 y1 z1 st1 hQ1
  subst l1 y1 z1
  obtain ⟨rfl, Nq1, e1⟩ := hQ1
  have N1 := Fr.app N0 Nq1
  refine own_go st1 ?_
  show own_Go p e below s _ _ _ (T1.setTop (mkF m 5 #[rv a1, iv (3 : Int32), iv (4 : Int32), .unset, .unset] []))
  refine own_go (fun zt zk => (XS.iloadN X1.here hx rfl (hb hby own_d6_5) rfl (XS.iloadN X1.here hx rfl (hb hby own_d6_6) rfl (XS.isub X1.here hx rfl (hb hby own_d6_7) rfl (XS.istoreN X1.here hx rfl (hb hby own_d6_8) rfl (l' := #[rv a1, iv (3 : Int32), iv (4 : Int32), iv (1 : Int32), .unset]) rfl (XS.iloadN X1.here hx rfl (hb hby own_d6_9) rfl zk)))))) ?_
  show own_Go p e below s _ _ _ (T1.setTop (mkF m 10 #[rv a1, iv (3 : Int32), iv (4 : Int32), iv (1 : Int32), .unset] [(.int (1 : Int32))]))
  obtain ⟨T2, h2, k2, X2, e2, E2, A2, Ea2, st2⟩ := newPE X1 hx hZ (hw _ (List.mem_of_getElem? (i := 0) rfl)) e1 (g := (mkF m 10 #[rv a1, iv (3 : Int32), iv (4 : Int32), iv (1 : Int32), .unset] [(.int (1 : Int32))])) rfl (hb hby own_d6_10) rfl (by decide) (cap := 1) (by decide) (by decide) (by decide) (by decide) (ad := "[B") (by decide)
  obtain ⟨b2, g2⟩ : ∃ z, z = h0.size := ⟨_, rfl⟩
  rw [← g2] at A2 Ea2 st2
  refine own_go st2 ?_
  have ne_a1_b2 : a1 ≠ b2 := Nat.ne_of_lt (Nat.lt_of_lt_of_le Va.lt (Nat.le_of_eq g2.symm))
  have sz_b2 : h0.size ≤ b2 := Nat.le_trans Kp.1 (Nat.le_of_eq g2.symm)
  have g_b2 : n0 ≤ b2 := Nat.le_trans Z0 sz_b2
  replace Va := Va.ext E2
  replace Kp := Kp.ext E2
  have V_b2 : Arv Z h2 b2 k2 .byte (1 : Int32) [(.int (0 : Int32))] (.int (0 : Int32)) := (Arv.new A2 (by decide)).pad (pad_rep [] (.int (0 : Int32)) 1)
  have Ea_b2 := Ea2
  show own_Go p e below s _ _ _ (T2.setTop (mkF m 12 #[rv a1, iv (3 : Int32), iv (4 : Int32), iv (1 : Int32), .unset] [(.ref b2)]))
  refine own_go (fun zt zk => (XS.astore X2.here hx rfl (hb hby own_d6_12) rfl rfl (l' := #[rv a1, iv (3 : Int32), iv (4 : Int32), iv (1 : Int32), rv b2]) rfl (XS.aloadN X2.here hx rfl (hb hby own_d6_14) rfl rfl (XS.iloadN X2.here hx rfl (hb hby own_d6_15) rfl (XS.aload X2.here hx rfl (hb hby own_d6_16) rfl rfl (XS.iconst X2.here hx rfl (hb hby own_d6_18) (XS.aloadN X2.here hx rfl (hb hby own_d6_19) rfl rfl zk))))))) ?_
  show own_Go p e below s _ _ _ (T2.setTop (mkF m 20 #[rv a1, iv (3 : Int32), iv (4 : Int32), iv (1 : Int32), rv b2] [(.ref a1), (.int (0 : Int32)), (.ref b2), (.int (3 : Int32)), (.ref a1)]))
  obtain ⟨cl3, Ar3, -, Sz3, Nz3, -, -⟩ := id Va
  refine own_go (X2.arraylength hx (by rw [e2]; exact Ar3.1) (State.isArrayOf_alike hZ.alike Ar3.2.1) (g := (mkF m 20 #[rv a1, iv (3 : Int32), iv (4 : Int32), iv (1 : Int32), rv b2] [(.ref a1), (.int (0 : Int32)), (.ref b2), (.int (3 : Int32)), (.ref a1)])) rfl rfl (hb hby own_d6_20)) ?_
  rw [len_of Sz3 Nz3]
  show own_Go p e below s _ _ _ (T2.setTop (mkF m 21 #[rv a1, iv (3 : Int32), iv (4 : Int32), iv (1 : Int32), rv b2] [(.int (4 : Int32)), (.int (0 : Int32)), (.ref b2), (.int (3 : Int32)), (.ref a1)]))
  refine own_go (fun zt zk => (XS.iloadN X2.here hx rfl (hb hby own_d6_21) rfl (XS.isub X2.here hx rfl (hb hby own_d6_22) rfl (XS.iloadN X2.here hx rfl (hb hby own_d6_23) rfl zk)))) ?_
  show own_Go p e below s _ _ _ (T2.setTop (mkF m 24 #[rv a1, iv (3 : Int32), iv (4 : Int32), iv (1 : Int32), rv b2] [(.int (1 : Int32)), (.int (1 : Int32)), (.int (0 : Int32)), (.ref b2), (.int (3 : Int32)), (.ref a1)]))
  obtain ⟨_, _, ⟨T4, L4, k4, n4⟩, -, X4, ⟨Lc4, hQ4, l4, y4, z4⟩, st4⟩ := Jvm.LawKit.callS X2 hx (y := (⟨"java/lang/Math", "min", "(II)I"⟩ : MethodName)) hown (mvT hZ (hw _ (List.mem_of_getElem? (i := 35) rfl))) (mvT hZ (hw _ (List.mem_of_getElem? (i := 36) rfl))) (mvT hZ (hw _ (List.mem_of_getElem? (i := 37) rfl))) (mvT hZ (hw _ (List.mem_of_getElem? (i := 38) rfl))) (by decide) (backOf (W := 4) (own_rmin l Z a0 hw [] (1 : Int32) (1 : Int32)  h2 n0 (Nat.le_trans Z0 Kp.1) ) hZ (hw _ (List.mem_of_getElem? (i := 38) rfl)) (hw _ (List.mem_of_getElem? (i := 37) rfl)) (by decide) (by decide)) (g := (mkF m 24 #[rv a1, iv (3 : Int32), iv (4 : Int32), iv (1 : Int32), rv b2] [(.int (1 : Int32)), (.int (1 : Int32)), (.int (0 : Int32)), (.ref b2), (.int (3 : Int32)), (.ref a1)])) rfl (by rw [hml]; rfl) (argsL := [(.int (1 : Int32)), (.int (1 : Int32))]) (rest := [(.int (0 : Int32)), (.ref b2), (.int (3 : Int32)), (.ref a1)]) (lenOf own_pd__II_I rfl) rfl (by show 2 * 0 + _ ≤ _; exact Nat.le_of_eq rfl) (hb hby own_d6_24) (fun _ _ => ⟨rfl, e2, (by decide : 1 + 0 ≤ _), (by decide : 1 + 0 ≤ _)⟩)
  dsimp only [Pt.U, Pt.locs, Pt.cells, Pt.slots] at X4 l4 y4 z4 st4 hQ4
  subst l4 y4 z4
  obtain ⟨rfl, Nq4, e4⟩ := hQ4
  have N4 := Fr.app N1 Nq4
  refine own_go st4 ?_
  show own_Go p e below s _ _ _ (T4.setTop (mkF m 27 #[rv a1, iv (3 : Int32), iv (4 : Int32), iv (1 : Int32), rv b2] [(.int (1 : Int32)), (.int (0 : Int32)), (.ref b2), (.int (3 : Int32)), (.ref a1)]))
  obtain ⟨T5, h5, L5, X5, e5, N5, K5, V5, st5⟩ := cpA X4 hx hZ hown (hw _ (List.mem_of_getElem? (i := 39) rfl)) (hw _ (List.mem_of_getElem? (i := 42) rfl)) (hw _ (List.mem_of_getElem? (i := 40) rfl)) (hw _ (List.mem_of_getElem? (i := 41) rfl)) e4 Va V_b2 (us := [v3]) (Or.inl ⟨rfl, rfl⟩) (by decide) (by decide) (by decide) (by decide) (by decide) rfl (by decide) N4 g_b2 (g := (mkF m 27 #[rv a1, iv (3 : Int32), iv (4 : Int32), iv (1 : Int32), rv b2] [(.int (1 : Int32)), (.int (0 : Int32)), (.ref b2), (.int (3 : Int32)), (.ref a1)])) rfl (by rw [hml]; rfl) rfl (hb hby own_d6_27) (by decide) (W := 0) (by show 2 * 0 + _ ≤ _; exact Nat.le_of_eq rfl) (by decide)
  refine own_go st5 ?_
  replace Va := Va.keep K5 (ninS ne_a1_b2 nin0)
  replace Kp := Kp.trans K5 (allS (Or.inr sz_b2) all0)
  replace Ea_b2 := Ea_b2.keep K5
  replace V_b2 : Arv Z h5 b2 k2 .byte (1 : Int32) [v3] (.int (0 : Int32)) := V5
  show own_Go p e below s _ _ _ (T5.setTop (mkF m 30 #[rv a1, iv (3 : Int32), iv (4 : Int32), iv (1 : Int32), rv b2] []))
  refine own_go (fun zt zk => (XS.aload X5.here hx rfl (hb hby own_d6_30) rfl rfl zk)) ?_
  show own_Go p e below s _ _ _ (T5.setTop (mkF m 32 #[rv a1, iv (3 : Int32), iv (4 : Int32), iv (1 : Int32), rv b2] [(.ref b2)]))
  exact own_fin X5 Bd.notSynchronized (fun h => by rw [Bd.returns] at h; cases h) (fun fs hr => retOut X5 hx (t := (.array .byte)) (w := (.ref b2)) Bd.returns rfl (Or.inr (Or.inr (Or.inr (Or.inr ⟨rfl, rfl, rfl⟩)))) (hb hby own_d6_32) hr) (by rw [e5]; exact ⟨_, _, rfl, N5, Kp, sz_b2, Ea_b2, V_b2⟩) (by decide) (by decide)
theorem own_ef_own_rcr34 (m : MethodId) (a1 : Addr) : entryFrame m #[(.ref a1), (.int (3 : Int32)), (.int (4 : Int32))] 3 = mkF m 0 #[rv a1, iv (3 : Int32), iv (4 : Int32)] [] := by first | (simp [entryFrame, mkF, argsToLocals, Value.category]; done) | rfl
def own_Q_own_rcr34 (Z : State) (a1 : Addr) (k1 : ClassId) (v0 v1 v2 v3 : Value) (h0 : Heap) (n0 : Nat) (v : Option Value) (h : Heap) (L : List Loc) : Prop := ∃ b k, v = some (.ref b) ∧ Fr n0 L ∧ Keep h0 h [] ∧ h0.size ≤ b ∧ Exa Z h b "[B" ∧ Arv Z h b k .byte (1 : Int32) [v3] (.int (0 : Int32))
set_option maxRecDepth 65536 in
set_option maxHeartbeats 40000000 in
theorem own_rcr34 (l : Launch) (Z : State) (a0 : Array Value) (hw : ∀ d ∈ tables_1, d.before a0 Z = true) (ws : List Jvm.Cond) (a1 : Addr) (k1 : ClassId) (v0 v1 v2 v3 : Value) (h0 : Heap) (n0 : Nat) (Z0 : n0 ≤ h0.size) (Va : Arv Z h0 a1 k1 .byte (4 : Int32) [v0, v1, v2, v3] (.int (0 : Int32))) (Ea : Exa Z h0 a1 "[B")  :
    MetFree l (⟨"java/util/Arrays", "copyOfRange", "([BII)[B"⟩ : MethodName) (head1 (Jvm.Cond.code (⟨"java/util/Arrays", "copyOfRange", "([BII)[B"⟩ : MethodName) jdk_65_method_132_code 3 (some (.array .byte)) :: ws) ({ frames := 2, cells := 1, slots := 1, locals := 48 } : Room)) (fun a U => a = #[(.ref a1), (.int (3 : Int32)), (.int (4 : Int32))] ∧ Z.Warmed39 U.vm ∧ U.heap = h0) (fun _ _ _ _ _ => True) (fun _ U o U' => ∃ v L, o = .returned v ∧ own_Q_own_rcr34 Z a1 k1 v0 v1 v2 v3 h0 n0 v U'.heap L ∧ FrameEnd U o U' L ({ frames := 2, cells := 1, slots := 1, locals := 48 } : Room).cells ({ frames := 2, cells := 1, slots := 1, locals := 48 } : Room).slots) := by
  refine MetFree.of_bodySF (plainFor_of_name own_pn_java_util_Arrays) hisR ?_
  intro p e s m args below meth c s₁ Bd hml0 hP hK
  obtain ⟨rfl, hZ, hh⟩ := hP
  have hx := Bd.exec
  have hby := Bd.bytes
  have hml : c.maxLocals = 3 := hml0
  have hown : s.vm.findClass "java/util/Arrays" = some m.cls := findClass_of_methodNamed Bd.named
  have hnm := (name_of_methodNamed Bd.named Bd.method).1
  have X0 : Stand p l e ({ frames := 2, cells := 1, slots := 1, locals := 48 } : Room) s m #[(.ref a1), (.int (3 : Int32)), (.int (4 : Int32))] below meth c s₁ [] 0 0 := Stand.of_body Bd
  have e0 : s₁.heap = h0 := by rw [← hh, Bd.state]; rfl
  have N0 := Fr.nil n0
  have Kp : Keep h0 h0 [] := Keep.refl h0 _
  show own_Go p e below s (own_Q_own_rcr34 Z a1 k1 v0 v1 v2 v3 h0 n0) ({ frames := 2, cells := 1, slots := 1, locals := 48 } : Room).cells ({ frames := 2, cells := 1, slots := 1, locals := 48 } : Room).slots (s₁.setTop (entryFrame m #[(.ref a1), (.int (3 : Int32)), (.int (4 : Int32))] 3))
  refine own_go (fun zt zk => castTop (own_ef_own_rcr34 m a1) zk) ?_
  show own_Go p e below s _ _ _ (s₁.setTop (mkF m 0 #[rv a1, iv (3 : Int32), iv (4 : Int32)] []))
  refine own_go (fun zt zk => (XS.iloadN X0.here hx rfl (hb hby own_d5_0) rfl (XS.ifYes X0.here hx rfl (pc0 := 1) (pc' := 10) rfl (hb hby own_d5_1) rfl ((if0 _ _).trans (feq ((by decide) : ¬ ((3 : Int32) = (0 : Int32)))).2) (by decide) (by decide) (XS.aloadN X0.here hx rfl (hb hby own_d5_10) rfl rfl (XS.iloadN X0.here hx rfl (hb hby own_d5_11) rfl (XS.iloadN X0.here hx rfl (hb hby own_d5_12) rfl zk)))))) ?_
  show own_Go p e below s _ _ _ (s₁.setTop (mkF m 13 #[rv a1, iv (3 : Int32), iv (4 : Int32)] [(.int (4 : Int32)), (.int (3 : Int32)), (.ref a1)]))
  obtain ⟨_, _, ⟨T1, L1, k1, n1⟩, -, X1, ⟨Lc1, hQ1, l1, y1, z1⟩, st1⟩ := Jvm.LawKit.callS X0 hx (y := (⟨"java/util/Arrays", "copyOfRangeByte", "([BII)[B"⟩ : MethodName)) hown (mvT hZ (hw _ (List.mem_of_getElem? (i := 29) rfl))) (mvT hZ (hw _ (List.mem_of_getElem? (i := 30) rfl))) (mvT hZ (hw _ (List.mem_of_getElem? (i := 27) rfl))) (mvT hZ (hw _ (List.mem_of_getElem? (i := 31) rfl))) (by decide) (backOf (W := 0) (own_rcrb34 l Z a0 hw [] a1 k1 v0 v1 v2 v3 h0 n0 Z0 Va) hZ (hw _ (List.mem_of_getElem? (i := 31) rfl)) (hw _ (List.mem_of_getElem? (i := 27) rfl)) (by decide) (by decide)) (g := (mkF m 13 #[rv a1, iv (3 : Int32), iv (4 : Int32)] [(.int (4 : Int32)), (.int (3 : Int32)), (.ref a1)])) rfl (by rw [hml]; rfl) (argsL := [(.ref a1), (.int (3 : Int32)), (.int (4 : Int32))]) (rest := []) (lenOf own_pd___BII__B rfl) rfl (by show 2 * 0 + _ ≤ _; exact Nat.le_of_eq rfl) (hb hby own_d5_13) (fun _ _ => ⟨rfl, e0, (by decide : 0 + 1 ≤ _), (by decide : 0 + 1 ≤ _)⟩)
  dsimp only [Pt.U, Pt.locs, Pt.cells, Pt.slots] at X1 l1 y1 z1 st1 hQ1
  subst l1 y1 z1
  obtain ⟨b1, k1', rfl, Nq1, K1, sz_b1, Ea_b1, V_b1⟩ := hQ1
  have N1 := Fr.app N0 Nq1
  refine own_go st1 ?_
  replace Va := Va.keep K1 nin0
  replace Ea := Ea.keep K1
  replace Kp := Kp.trans K1 all0
  show own_Go p e below s _ _ _ (T1.setTop (mkF m 16 #[rv a1, iv (3 : Int32), iv (4 : Int32)] [(.ref b1)]))
  exact own_fin X1 Bd.notSynchronized (fun h => by rw [Bd.returns] at h; cases h) (fun fs hr => retOut X1 hx (t := (.array .byte)) (w := (.ref b1)) Bd.returns rfl (Or.inr (Or.inr (Or.inr (Or.inr ⟨rfl, rfl, rfl⟩)))) (hb hby own_d5_16) hr) ⟨_, _, rfl, N1, Kp, sz_b1, Ea_b1, V_b1⟩ (by decide) (by decide)
theorem own_ef_own_rbi34 (m : MethodId) (a0' : Addr) (a1 : Addr) : entryFrame m #[(.ref a0'), (.ref a1)] 2 = mkF m 0 #[rv a0', rv a1] [] := by first | (simp [entryFrame, mkF, argsToLocals, Value.category]; done) | rfl
def own_Q_own_rbi34 (Z : State) (a0' : Addr) (a1 : Addr) (k1 : ClassId) (v0 v1 v2 v3 : Value) (h0 : Heap) (n0 : Nat) (v : Option Value) (h : Heap) (L : List Loc) : Prop := ∃ b k, v = some (.ref b) ∧ Fr n0 L ∧ Keep h0 h [] ∧ h0.size ≤ b ∧ Exa Z h b "[B" ∧ Arv Z h b k .byte (1 : Int32) [v3] (.int (0 : Int32))
set_option maxRecDepth 65536 in
set_option maxHeartbeats 40000000 in
theorem own_rbi34 (l : Launch) (Z : State) (a0 : Array Value) (hw : ∀ d ∈ tables_1, d.before a0 Z = true) (ws : List Jvm.Cond) (a0' : Addr) (a1 : Addr) (k1 : ClassId) (v0 v1 v2 v3 : Value) (h0 : Heap) (n0 : Nat) (Z0 : n0 ≤ h0.size) (Va : Arv Z h0 a1 k1 .byte (4 : Int32) [v0, v1, v2, v3] (.int (0 : Int32))) (Ea : Exa Z h0 a1 "[B") (Fs : Fld Z h0 a0' "com/example/tranche/tranche/model/Span" "start" "I" (.int (3 : Int32))) (Fe : Fld Z h0 a0' "com/example/tranche/tranche/model/Span" "end" "I" (.int (4 : Int32)))  :
    MetFree l (⟨"com/example/tranche/tranche/model/Span", "bytesIn", "([B)[B"⟩ : MethodName) (head1 (Jvm.Cond.code (⟨"com/example/tranche/tranche/model/Span", "bytesIn", "([B)[B"⟩ : MethodName) prog_34_method_2_code 2 (some (.array .byte)) :: ws) ({ frames := 3, cells := 1, slots := 1, locals := 62 } : Room)) (fun a U => a = #[(.ref a0'), (.ref a1)] ∧ Z.Warmed39 U.vm ∧ U.heap = h0) (fun _ _ _ _ _ => True) (fun _ U o U' => ∃ v L, o = .returned v ∧ own_Q_own_rbi34 Z a0' a1 k1 v0 v1 v2 v3 h0 n0 v U'.heap L ∧ FrameEnd U o U' L ({ frames := 3, cells := 1, slots := 1, locals := 62 } : Room).cells ({ frames := 3, cells := 1, slots := 1, locals := 62 } : Room).slots) := by
  refine MetFree.of_bodySF (plainFor_of_name own_pn_com_example_tranche_tranche_model_Span) hisR ?_
  intro p e s m args below meth c s₁ Bd hml0 hP hK
  obtain ⟨rfl, hZ, hh⟩ := hP
  have hx := Bd.exec
  have hby := Bd.bytes
  have hml : c.maxLocals = 2 := hml0
  have hown : s.vm.findClass "com/example/tranche/tranche/model/Span" = some m.cls := findClass_of_methodNamed Bd.named
  have hnm := (name_of_methodNamed Bd.named Bd.method).1
  have X0 : Stand p l e ({ frames := 3, cells := 1, slots := 1, locals := 62 } : Room) s m #[(.ref a0'), (.ref a1)] below meth c s₁ [] 0 0 := Stand.of_body Bd
  have e0 : s₁.heap = h0 := by rw [← hh, Bd.state]; rfl
  have N0 := Fr.nil n0
  have Kp : Keep h0 h0 [] := Keep.refl h0 _
  show own_Go p e below s (own_Q_own_rbi34 Z a0' a1 k1 v0 v1 v2 v3 h0 n0) ({ frames := 3, cells := 1, slots := 1, locals := 62 } : Room).cells ({ frames := 3, cells := 1, slots := 1, locals := 62 } : Room).slots (s₁.setTop (entryFrame m #[(.ref a0'), (.ref a1)] 2))
  refine own_go (fun zt zk => castTop (own_ef_own_rbi34 m a0' a1) zk) ?_
  show own_Go p e below s _ _ _ (s₁.setTop (mkF m 0 #[rv a0', rv a1] []))
  refine own_go (fun zt zk => (XS.aloadN X0.here hx rfl (hb hby own_d4_0) rfl rfl zk)) ?_
  show own_Go p e below s _ _ _ (s₁.setTop (mkF m 1 #[rv a0', rv a1] [(.ref a0')]))
  obtain ⟨T1, X1, e1, st1⟩ := getF X0 hx hZ hown (host := "") (Or.inl (hw _ (List.mem_of_getElem? (i := 18) rfl))) Via.refl e0 Fe (g := (mkF m 1 #[rv a0', rv a1] [(.ref a0')])) rfl rfl (hb hby own_d4_1)
  refine own_go st1 ?_
  show own_Go p e below s _ _ _ (T1.setTop (mkF m 4 #[rv a0', rv a1] [(.int (4 : Int32))]))
  refine own_go (fun zt zk => (XS.aloadN X1.here hx rfl (hb hby own_d4_4) rfl rfl zk)) ?_
  show own_Go p e below s _ _ _ (T1.setTop (mkF m 5 #[rv a0', rv a1] [(.ref a1), (.int (4 : Int32))]))
  obtain ⟨cl2, Ar2, -, Sz2, Nz2, -, -⟩ := id Va
  refine own_go (X1.arraylength hx (by rw [e1]; exact Ar2.1) (State.isArrayOf_alike hZ.alike Ar2.2.1) (g := (mkF m 5 #[rv a0', rv a1] [(.ref a1), (.int (4 : Int32))])) rfl rfl (hb hby own_d4_5)) ?_
  rw [len_of Sz2 Nz2]
  show own_Go p e below s _ _ _ (T1.setTop (mkF m 6 #[rv a0', rv a1] [(.int (4 : Int32)), (.int (4 : Int32))]))
  refine own_go (fun zt zk => (XS.icmpYes X1.here hx rfl (pc0 := 6) (pc' := 32) rfl (hb hby own_d4_6) rfl (flt ((own_irr _) : ¬ ((4 : Int32) < (4 : Int32)))).2.2.2 (by decide) (by decide) (XS.aloadN X1.here hx rfl (hb hby own_d4_32) rfl rfl (XS.aloadN X1.here hx rfl (hb hby own_d4_33) rfl rfl zk)))) ?_
  show own_Go p e below s _ _ _ (T1.setTop (mkF m 34 #[rv a0', rv a1] [(.ref a0'), (.ref a1)]))
  obtain ⟨T3, X3, e3, st3⟩ := getF X1 hx hZ hown (host := "") (Or.inl (hw _ (List.mem_of_getElem? (i := 16) rfl))) Via.refl e1 Fs (g := (mkF m 34 #[rv a0', rv a1] [(.ref a0'), (.ref a1)])) rfl rfl (hb hby own_d4_34)
  refine own_go st3 ?_
  show own_Go p e below s _ _ _ (T3.setTop (mkF m 37 #[rv a0', rv a1] [(.int (3 : Int32)), (.ref a1)]))
  refine own_go (fun zt zk => (XS.aloadN X3.here hx rfl (hb hby own_d4_37) rfl rfl zk)) ?_
  show own_Go p e below s _ _ _ (T3.setTop (mkF m 38 #[rv a0', rv a1] [(.ref a0'), (.int (3 : Int32)), (.ref a1)]))
  obtain ⟨T4, X4, e4, st4⟩ := getF X3 hx hZ hown (host := "") (Or.inl (hw _ (List.mem_of_getElem? (i := 18) rfl))) Via.refl e3 Fe (g := (mkF m 38 #[rv a0', rv a1] [(.ref a0'), (.int (3 : Int32)), (.ref a1)])) rfl rfl (hb hby own_d4_38)
  refine own_go st4 ?_
  show own_Go p e below s _ _ _ (T4.setTop (mkF m 41 #[rv a0', rv a1] [(.int (4 : Int32)), (.int (3 : Int32)), (.ref a1)]))
  obtain ⟨_, _, ⟨T5, L5, k5, n5⟩, -, X5, ⟨Lc5, hQ5, l5, y5, z5⟩, st5⟩ := Jvm.LawKit.callS X4 hx (y := (⟨"java/util/Arrays", "copyOfRange", "([BII)[B"⟩ : MethodName)) hown (mvT hZ (hw _ (List.mem_of_getElem? (i := 25) rfl))) (mvT hZ (hw _ (List.mem_of_getElem? (i := 26) rfl))) (mvT hZ (hw _ (List.mem_of_getElem? (i := 27) rfl))) (mvT hZ (hw _ (List.mem_of_getElem? (i := 28) rfl))) (by decide) (backOf (W := 0) (own_rcr34 l Z a0 hw [] a1 k1 v0 v1 v2 v3 h0 n0 Z0 Va Ea) hZ (hw _ (List.mem_of_getElem? (i := 28) rfl)) (hw _ (List.mem_of_getElem? (i := 27) rfl)) (by decide) (by decide)) (g := (mkF m 41 #[rv a0', rv a1] [(.int (4 : Int32)), (.int (3 : Int32)), (.ref a1)])) rfl (by rw [hml]; rfl) (argsL := [(.ref a1), (.int (3 : Int32)), (.int (4 : Int32))]) (rest := []) (lenOf own_pd___BII__B rfl) rfl (by show 2 * 0 + _ ≤ _; exact Nat.le_of_eq rfl) (hb hby own_d4_41) (fun _ _ => ⟨rfl, e4, (by decide : 0 + 1 ≤ _), (by decide : 0 + 1 ≤ _)⟩)
  dsimp only [Pt.U, Pt.locs, Pt.cells, Pt.slots] at X5 l5 y5 z5 st5 hQ5
  subst l5 y5 z5
  obtain ⟨b5, k5', rfl, Nq5, K5, sz_b5, Ea_b5, V_b5⟩ := hQ5
  have N5 := Fr.app N0 Nq5
  refine own_go st5 ?_
  replace Va := Va.keep K5 nin0
  replace Ea := Ea.keep K5
  replace Fs := Fs.keep K5 nin0
  replace Fe := Fe.keep K5 nin0
  replace Kp := Kp.trans K5 all0
  show own_Go p e below s _ _ _ (T5.setTop (mkF m 44 #[rv a0', rv a1] [(.ref b5)]))
  exact own_fin X5 Bd.notSynchronized (fun h => by rw [Bd.returns] at h; cases h) (fun fs hr => retOut X5 hx (t := (.array .byte)) (w := (.ref b5)) Bd.returns rfl (Or.inr (Or.inr (Or.inr (Or.inr ⟨rfl, rfl, rfl⟩)))) (hb hby own_d4_44) hr) ⟨_, _, rfl, N5, Kp, sz_b5, Ea_b5, V_b5⟩ (by decide) (by decide)
theorem own_ef_own_rcrb44 (m : MethodId) (a1 : Addr) : entryFrame m #[(.ref a1), (.int (4 : Int32)), (.int (4 : Int32))] 5 = mkF m 0 #[rv a1, iv (4 : Int32), iv (4 : Int32), .unset, .unset] [] := by first | (simp [entryFrame, mkF, argsToLocals, Value.category]; done) | rfl
def own_Q_own_rcrb44 (Z : State) (a1 : Addr) (k1 : ClassId) (v0 v1 v2 v3 : Value) (h0 : Heap) (n0 : Nat) (v : Option Value) (h : Heap) (L : List Loc) : Prop := ∃ b k, v = some (.ref b) ∧ Fr n0 L ∧ Keep h0 h [] ∧ h0.size ≤ b ∧ Exa Z h b "[B" ∧ Arv Z h b k .byte (0 : Int32) [] (.int (0 : Int32))
set_option maxRecDepth 65536 in
set_option maxHeartbeats 40000000 in
theorem own_rcrb44 (l : Launch) (Z : State) (a0 : Array Value) (hw : ∀ d ∈ tables_1, d.before a0 Z = true) (ws : List Jvm.Cond) (a1 : Addr) (k1 : ClassId) (v0 v1 v2 v3 : Value) (h0 : Heap) (n0 : Nat) (Z0 : n0 ≤ h0.size) (Va : Arv Z h0 a1 k1 .byte (4 : Int32) [v0, v1, v2, v3] (.int (0 : Int32)))  :
    MetFree l (⟨"java/util/Arrays", "copyOfRangeByte", "([BII)[B"⟩ : MethodName) (head1 (Jvm.Cond.code (⟨"java/util/Arrays", "copyOfRangeByte", "([BII)[B"⟩ : MethodName) jdk_65_method_133_code 5 (some (.array .byte)) :: ws) ({ frames := 1, cells := 1, slots := 0, locals := 32 } : Room)) (fun a U => a = #[(.ref a1), (.int (4 : Int32)), (.int (4 : Int32))] ∧ Z.Warmed39 U.vm ∧ U.heap = h0) (fun _ _ _ _ _ => True) (fun _ U o U' => ∃ v L, o = .returned v ∧ own_Q_own_rcrb44 Z a1 k1 v0 v1 v2 v3 h0 n0 v U'.heap L ∧ FrameEnd U o U' L ({ frames := 1, cells := 1, slots := 0, locals := 32 } : Room).cells ({ frames := 1, cells := 1, slots := 0, locals := 32 } : Room).slots) := by
  refine MetFree.of_bodySF (plainFor_of_name own_pn_java_util_Arrays) hisR ?_
  intro p e s m args below meth c s₁ Bd hml0 hP hK
  obtain ⟨rfl, hZ, hh⟩ := hP
  have hx := Bd.exec
  have hby := Bd.bytes
  have hml : c.maxLocals = 5 := hml0
  have hown : s.vm.findClass "java/util/Arrays" = some m.cls := findClass_of_methodNamed Bd.named
  have hnm := (name_of_methodNamed Bd.named Bd.method).1
  have X0 : Stand p l e ({ frames := 1, cells := 1, slots := 0, locals := 32 } : Room) s m #[(.ref a1), (.int (4 : Int32)), (.int (4 : Int32))] below meth c s₁ [] 0 0 := Stand.of_body Bd
  have e0 : s₁.heap = h0 := by rw [← hh, Bd.state]; rfl
  have N0 := Fr.nil n0
  have Kp : Keep h0 h0 [] := Keep.refl h0 _
  show own_Go p e below s (own_Q_own_rcrb44 Z a1 k1 v0 v1 v2 v3 h0 n0) ({ frames := 1, cells := 1, slots := 0, locals := 32 } : Room).cells ({ frames := 1, cells := 1, slots := 0, locals := 32 } : Room).slots (s₁.setTop (entryFrame m #[(.ref a1), (.int (4 : Int32)), (.int (4 : Int32))] 5))
  refine own_go (fun zt zk => castTop (own_ef_own_rcrb44 m a1) zk) ?_
  show own_Go p e below s _ _ _ (s₁.setTop (mkF m 0 #[rv a1, iv (4 : Int32), iv (4 : Int32), .unset, .unset] []))
  refine own_go (fun zt zk => (XS.iloadN X0.here hx rfl (hb hby own_d6_0) rfl (XS.iloadN X0.here hx rfl (hb hby own_d6_1) rfl zk))) ?_
  show own_Go p e below s _ _ _ (s₁.setTop (mkF m 2 #[rv a1, iv (4 : Int32), iv (4 : Int32), .unset, .unset] [(.int (4 : Int32)), (.int (4 : Int32))]))
  obtain ⟨_, _, ⟨T1, L1, k1, n1⟩, -, X1, ⟨Lc1, hQ1, l1, y1, z1⟩, st1⟩ := Jvm.LawKit.callS X0 hx (y := (⟨"java/util/Arrays", "checkLength", "(II)V"⟩ : MethodName)) hown (mvT hZ (hw _ (List.mem_of_getElem? (i := 32) rfl))) (mvT hZ (hw _ (List.mem_of_getElem? (i := 33) rfl))) (mvT hZ (hw _ (List.mem_of_getElem? (i := 27) rfl))) (mvT hZ (hw _ (List.mem_of_getElem? (i := 34) rfl))) (by decide) (backOf (W := 0) (own_rcl l Z a0 hw [] (4 : Int32) (4 : Int32)  h0 n0 Z0 (by decide)) hZ (hw _ (List.mem_of_getElem? (i := 34) rfl)) (hw _ (List.mem_of_getElem? (i := 27) rfl)) (by decide) (by decide)) (g := (mkF m 2 #[rv a1, iv (4 : Int32), iv (4 : Int32), .unset, .unset] [(.int (4 : Int32)), (.int (4 : Int32))])) rfl (by rw [hml]; rfl) (argsL := [(.int (4 : Int32)), (.int (4 : Int32))]) (rest := []) (lenOf own_pd__II_V rfl) rfl (by show 2 * 0 + _ ≤ _; exact Nat.le_of_eq rfl) (hb hby own_d6_2) (fun _ _ => ⟨rfl, e0, (by decide : 0 + 0 ≤ _), (by decide : 0 + 0 ≤ _)⟩)
  dsimp only [Pt.U, Pt.locs, Pt.cells, Pt.slots] at X1 l1 y1 z1 st1 hQ1
  subst l1 y1 z1
  obtain ⟨rfl, Nq1, e1⟩ := hQ1
  have N1 := Fr.app N0 Nq1
  refine own_go st1 ?_
  show own_Go p e below s _ _ _ (T1.setTop (mkF m 5 #[rv a1, iv (4 : Int32), iv (4 : Int32), .unset, .unset] []))
  refine own_go (fun zt zk => (XS.iloadN X1.here hx rfl (hb hby own_d6_5) rfl (XS.iloadN X1.here hx rfl (hb hby own_d6_6) rfl (XS.isub X1.here hx rfl (hb hby own_d6_7) rfl (XS.istoreN X1.here hx rfl (hb hby own_d6_8) rfl (l' := #[rv a1, iv (4 : Int32), iv (4 : Int32), iv (0 : Int32), .unset]) rfl (XS.iloadN X1.here hx rfl (hb hby own_d6_9) rfl zk)))))) ?_
  show own_Go p e below s _ _ _ (T1.setTop (mkF m 10 #[rv a1, iv (4 : Int32), iv (4 : Int32), iv (0 : Int32), .unset] [(.int (0 : Int32))]))
  obtain ⟨T2, h2, k2, X2, e2, E2, A2, Ea2, st2⟩ := newPE X1 hx hZ (hw _ (List.mem_of_getElem? (i := 0) rfl)) e1 (g := (mkF m 10 #[rv a1, iv (4 : Int32), iv (4 : Int32), iv (0 : Int32), .unset] [(.int (0 : Int32))])) rfl (hb hby own_d6_10) rfl (by decide) (cap := 0) (by decide) (by decide) (by decide) (by decide) (ad := "[B") (by decide)
  obtain ⟨b2, g2⟩ : ∃ z, z = h0.size := ⟨_, rfl⟩
  rw [← g2] at A2 Ea2 st2
  refine own_go st2 ?_
  have ne_a1_b2 : a1 ≠ b2 := Nat.ne_of_lt (Nat.lt_of_lt_of_le Va.lt (Nat.le_of_eq g2.symm))
  have sz_b2 : h0.size ≤ b2 := Nat.le_trans Kp.1 (Nat.le_of_eq g2.symm)
  have g_b2 : n0 ≤ b2 := Nat.le_trans Z0 sz_b2
  replace Va := Va.ext E2
  replace Kp := Kp.ext E2
  have V_b2 : Arv Z h2 b2 k2 .byte (0 : Int32) [] (.int (0 : Int32)) := (Arv.new A2 (by decide)).pad (pad_rep [] (.int (0 : Int32)) 0)
  have Ea_b2 := Ea2
  show own_Go p e below s _ _ _ (T2.setTop (mkF m 12 #[rv a1, iv (4 : Int32), iv (4 : Int32), iv (0 : Int32), .unset] [(.ref b2)]))
  refine own_go (fun zt zk => (XS.astore X2.here hx rfl (hb hby own_d6_12) rfl rfl (l' := #[rv a1, iv (4 : Int32), iv (4 : Int32), iv (0 : Int32), rv b2]) rfl (XS.aloadN X2.here hx rfl (hb hby own_d6_14) rfl rfl (XS.iloadN X2.here hx rfl (hb hby own_d6_15) rfl (XS.aload X2.here hx rfl (hb hby own_d6_16) rfl rfl (XS.iconst X2.here hx rfl (hb hby own_d6_18) (XS.aloadN X2.here hx rfl (hb hby own_d6_19) rfl rfl zk))))))) ?_
  show own_Go p e below s _ _ _ (T2.setTop (mkF m 20 #[rv a1, iv (4 : Int32), iv (4 : Int32), iv (0 : Int32), rv b2] [(.ref a1), (.int (0 : Int32)), (.ref b2), (.int (4 : Int32)), (.ref a1)]))
  obtain ⟨cl3, Ar3, -, Sz3, Nz3, -, -⟩ := id Va
  refine own_go (X2.arraylength hx (by rw [e2]; exact Ar3.1) (State.isArrayOf_alike hZ.alike Ar3.2.1) (g := (mkF m 20 #[rv a1, iv (4 : Int32), iv (4 : Int32), iv (0 : Int32), rv b2] [(.ref a1), (.int (0 : Int32)), (.ref b2), (.int (4 : Int32)), (.ref a1)])) rfl rfl (hb hby own_d6_20)) ?_
  rw [len_of Sz3 Nz3]
  show own_Go p e below s _ _ _ (T2.setTop (mkF m 21 #[rv a1, iv (4 : Int32), iv (4 : Int32), iv (0 : Int32), rv b2] [(.int (4 : Int32)), (.int (0 : Int32)), (.ref b2), (.int (4 : Int32)), (.ref a1)]))
  refine own_go (fun zt zk => (XS.iloadN X2.here hx rfl (hb hby own_d6_21) rfl (XS.isub X2.here hx rfl (hb hby own_d6_22) rfl (XS.iloadN X2.here hx rfl (hb hby own_d6_23) rfl zk)))) ?_
  show own_Go p e below s _ _ _ (T2.setTop (mkF m 24 #[rv a1, iv (4 : Int32), iv (4 : Int32), iv (0 : Int32), rv b2] [(.int (0 : Int32)), (.int (0 : Int32)), (.int (0 : Int32)), (.ref b2), (.int (4 : Int32)), (.ref a1)]))
  obtain ⟨_, _, ⟨T4, L4, k4, n4⟩, -, X4, ⟨Lc4, hQ4, l4, y4, z4⟩, st4⟩ := Jvm.LawKit.callS X2 hx (y := (⟨"java/lang/Math", "min", "(II)I"⟩ : MethodName)) hown (mvT hZ (hw _ (List.mem_of_getElem? (i := 35) rfl))) (mvT hZ (hw _ (List.mem_of_getElem? (i := 36) rfl))) (mvT hZ (hw _ (List.mem_of_getElem? (i := 37) rfl))) (mvT hZ (hw _ (List.mem_of_getElem? (i := 38) rfl))) (by decide) (backOf (W := 4) (own_rmin l Z a0 hw [] (0 : Int32) (0 : Int32)  h2 n0 (Nat.le_trans Z0 Kp.1) ) hZ (hw _ (List.mem_of_getElem? (i := 38) rfl)) (hw _ (List.mem_of_getElem? (i := 37) rfl)) (by decide) (by decide)) (g := (mkF m 24 #[rv a1, iv (4 : Int32), iv (4 : Int32), iv (0 : Int32), rv b2] [(.int (0 : Int32)), (.int (0 : Int32)), (.int (0 : Int32)), (.ref b2), (.int (4 : Int32)), (.ref a1)])) rfl (by rw [hml]; rfl) (argsL := [(.int (0 : Int32)), (.int (0 : Int32))]) (rest := [(.int (0 : Int32)), (.ref b2), (.int (4 : Int32)), (.ref a1)]) (lenOf own_pd__II_I rfl) rfl (by show 2 * 0 + _ ≤ _; exact Nat.le_of_eq rfl) (hb hby own_d6_24) (fun _ _ => ⟨rfl, e2, (by decide : 1 + 0 ≤ _), (by decide : 0 + 0 ≤ _)⟩)
  dsimp only [Pt.U, Pt.locs, Pt.cells, Pt.slots] at X4 l4 y4 z4 st4 hQ4
  subst l4 y4 z4
  obtain ⟨rfl, Nq4, e4⟩ := hQ4
  have N4 := Fr.app N1 Nq4
  refine own_go st4 ?_
  show own_Go p e below s _ _ _ (T4.setTop (mkF m 27 #[rv a1, iv (4 : Int32), iv (4 : Int32), iv (0 : Int32), rv b2] [(.int (0 : Int32)), (.int (0 : Int32)), (.ref b2), (.int (4 : Int32)), (.ref a1)]))
  obtain ⟨T5, h5, L5, X5, e5, N5, K5, V5, st5⟩ := cpA X4 hx hZ hown (hw _ (List.mem_of_getElem? (i := 39) rfl)) (hw _ (List.mem_of_getElem? (i := 42) rfl)) (hw _ (List.mem_of_getElem? (i := 40) rfl)) (hw _ (List.mem_of_getElem? (i := 41) rfl)) e4 Va V_b2 (us := []) (Or.inl ⟨rfl, rfl⟩) (by decide) (by decide) (by decide) (by decide) (by decide) rfl (by decide) N4 g_b2 (g := (mkF m 27 #[rv a1, iv (4 : Int32), iv (4 : Int32), iv (0 : Int32), rv b2] [(.int (0 : Int32)), (.int (0 : Int32)), (.ref b2), (.int (4 : Int32)), (.ref a1)])) rfl (by rw [hml]; rfl) rfl (hb hby own_d6_27) (by decide) (W := 0) (by show 2 * 0 + _ ≤ _; exact Nat.le_of_eq rfl) (by decide)
  refine own_go st5 ?_
  replace Va := Va.keep K5 (ninS ne_a1_b2 nin0)
  replace Kp := Kp.trans K5 (allS (Or.inr sz_b2) all0)
  replace Ea_b2 := Ea_b2.keep K5
  replace V_b2 : Arv Z h5 b2 k2 .byte (0 : Int32) [] (.int (0 : Int32)) := V5
  show own_Go p e below s _ _ _ (T5.setTop (mkF m 30 #[rv a1, iv (4 : Int32), iv (4 : Int32), iv (0 : Int32), rv b2] []))
  refine own_go (fun zt zk => (XS.aload X5.here hx rfl (hb hby own_d6_30) rfl rfl zk)) ?_
  show own_Go p e below s _ _ _ (T5.setTop (mkF m 32 #[rv a1, iv (4 : Int32), iv (4 : Int32), iv (0 : Int32), rv b2] [(.ref b2)]))
  exact own_fin X5 Bd.notSynchronized (fun h => by rw [Bd.returns] at h; cases h) (fun fs hr => retOut X5 hx (t := (.array .byte)) (w := (.ref b2)) Bd.returns rfl (Or.inr (Or.inr (Or.inr (Or.inr ⟨rfl, rfl, rfl⟩)))) (hb hby own_d6_32) hr) (by rw [e5]; exact ⟨_, _, rfl, N5, Kp, sz_b2, Ea_b2, V_b2⟩) (by decide) (by decide)
theorem own_ef_own_rcr44 (m : MethodId) (a1 : Addr) : entryFrame m #[(.ref a1), (.int (4 : Int32)), (.int (4 : Int32))] 3 = mkF m 0 #[rv a1, iv (4 : Int32), iv (4 : Int32)] [] := by first | (simp [entryFrame, mkF, argsToLocals, Value.category]; done) | rfl
def own_Q_own_rcr44 (Z : State) (a1 : Addr) (k1 : ClassId) (v0 v1 v2 v3 : Value) (h0 : Heap) (n0 : Nat) (v : Option Value) (h : Heap) (L : List Loc) : Prop := ∃ b k, v = some (.ref b) ∧ Fr n0 L ∧ Keep h0 h [] ∧ h0.size ≤ b ∧ Exa Z h b "[B" ∧ Arv Z h b k .byte (0 : Int32) [] (.int (0 : Int32))
set_option maxRecDepth 65536 in
set_option maxHeartbeats 40000000 in
theorem own_rcr44 (l : Launch) (Z : State) (a0 : Array Value) (hw : ∀ d ∈ tables_1, d.before a0 Z = true) (ws : List Jvm.Cond) (a1 : Addr) (k1 : ClassId) (v0 v1 v2 v3 : Value) (h0 : Heap) (n0 : Nat) (Z0 : n0 ≤ h0.size) (Va : Arv Z h0 a1 k1 .byte (4 : Int32) [v0, v1, v2, v3] (.int (0 : Int32))) (Ea : Exa Z h0 a1 "[B")  :
    MetFree l (⟨"java/util/Arrays", "copyOfRange", "([BII)[B"⟩ : MethodName) (head1 (Jvm.Cond.code (⟨"java/util/Arrays", "copyOfRange", "([BII)[B"⟩ : MethodName) jdk_65_method_132_code 3 (some (.array .byte)) :: ws) ({ frames := 2, cells := 1, slots := 0, locals := 48 } : Room)) (fun a U => a = #[(.ref a1), (.int (4 : Int32)), (.int (4 : Int32))] ∧ Z.Warmed39 U.vm ∧ U.heap = h0) (fun _ _ _ _ _ => True) (fun _ U o U' => ∃ v L, o = .returned v ∧ own_Q_own_rcr44 Z a1 k1 v0 v1 v2 v3 h0 n0 v U'.heap L ∧ FrameEnd U o U' L ({ frames := 2, cells := 1, slots := 0, locals := 48 } : Room).cells ({ frames := 2, cells := 1, slots := 0, locals := 48 } : Room).slots) := by
  refine MetFree.of_bodySF (plainFor_of_name own_pn_java_util_Arrays) hisR ?_
  intro p e s m args below meth c s₁ Bd hml0 hP hK
  obtain ⟨rfl, hZ, hh⟩ := hP
  have hx := Bd.exec
  have hby := Bd.bytes
  have hml : c.maxLocals = 3 := hml0
  have hown : s.vm.findClass "java/util/Arrays" = some m.cls := findClass_of_methodNamed Bd.named
  have hnm := (name_of_methodNamed Bd.named Bd.method).1
  have X0 : Stand p l e ({ frames := 2, cells := 1, slots := 0, locals := 48 } : Room) s m #[(.ref a1), (.int (4 : Int32)), (.int (4 : Int32))] below meth c s₁ [] 0 0 := Stand.of_body Bd
  have e0 : s₁.heap = h0 := by rw [← hh, Bd.state]; rfl
  have N0 := Fr.nil n0
  have Kp : Keep h0 h0 [] := Keep.refl h0 _
  show own_Go p e below s (own_Q_own_rcr44 Z a1 k1 v0 v1 v2 v3 h0 n0) ({ frames := 2, cells := 1, slots := 0, locals := 48 } : Room).cells ({ frames := 2, cells := 1, slots := 0, locals := 48 } : Room).slots (s₁.setTop (entryFrame m #[(.ref a1), (.int (4 : Int32)), (.int (4 : Int32))] 3))
  refine own_go (fun zt zk => castTop (own_ef_own_rcr44 m a1) zk) ?_
  show own_Go p e below s _ _ _ (s₁.setTop (mkF m 0 #[rv a1, iv (4 : Int32), iv (4 : Int32)] []))
  refine own_go (fun zt zk => (XS.iloadN X0.here hx rfl (hb hby own_d5_0) rfl (XS.ifYes X0.here hx rfl (pc0 := 1) (pc' := 10) rfl (hb hby own_d5_1) rfl ((if0 _ _).trans (feq ((by decide) : ¬ ((4 : Int32) = (0 : Int32)))).2) (by decide) (by decide) (XS.aloadN X0.here hx rfl (hb hby own_d5_10) rfl rfl (XS.iloadN X0.here hx rfl (hb hby own_d5_11) rfl (XS.iloadN X0.here hx rfl (hb hby own_d5_12) rfl zk)))))) ?_
  show own_Go p e below s _ _ _ (s₁.setTop (mkF m 13 #[rv a1, iv (4 : Int32), iv (4 : Int32)] [(.int (4 : Int32)), (.int (4 : Int32)), (.ref a1)]))
  obtain ⟨_, _, ⟨T1, L1, k1, n1⟩, -, X1, ⟨Lc1, hQ1, l1, y1, z1⟩, st1⟩ := Jvm.LawKit.callS X0 hx (y := (⟨"java/util/Arrays", "copyOfRangeByte", "([BII)[B"⟩ : MethodName)) hown (mvT hZ (hw _ (List.mem_of_getElem? (i := 29) rfl))) (mvT hZ (hw _ (List.mem_of_getElem? (i := 30) rfl))) (mvT hZ (hw _ (List.mem_of_getElem? (i := 27) rfl))) (mvT hZ (hw _ (List.mem_of_getElem? (i := 31) rfl))) (by decide) (backOf (W := 0) (own_rcrb44 l Z a0 hw [] a1 k1 v0 v1 v2 v3 h0 n0 Z0 Va) hZ (hw _ (List.mem_of_getElem? (i := 31) rfl)) (hw _ (List.mem_of_getElem? (i := 27) rfl)) (by decide) (by decide)) (g := (mkF m 13 #[rv a1, iv (4 : Int32), iv (4 : Int32)] [(.int (4 : Int32)), (.int (4 : Int32)), (.ref a1)])) rfl (by rw [hml]; rfl) (argsL := [(.ref a1), (.int (4 : Int32)), (.int (4 : Int32))]) (rest := []) (lenOf own_pd___BII__B rfl) rfl (by show 2 * 0 + _ ≤ _; exact Nat.le_of_eq rfl) (hb hby own_d5_13) (fun _ _ => ⟨rfl, e0, (by decide : 0 + 1 ≤ _), (by decide : 0 + 0 ≤ _)⟩)
  dsimp only [Pt.U, Pt.locs, Pt.cells, Pt.slots] at X1 l1 y1 z1 st1 hQ1
  subst l1 y1 z1
  obtain ⟨b1, k1', rfl, Nq1, K1, sz_b1, Ea_b1, V_b1⟩ := hQ1
  have N1 := Fr.app N0 Nq1
  refine own_go st1 ?_
  replace Va := Va.keep K1 nin0
  replace Ea := Ea.keep K1
  replace Kp := Kp.trans K1 all0
  show own_Go p e below s _ _ _ (T1.setTop (mkF m 16 #[rv a1, iv (4 : Int32), iv (4 : Int32)] [(.ref b1)]))
  exact own_fin X1 Bd.notSynchronized (fun h => by rw [Bd.returns] at h; cases h) (fun fs hr => retOut X1 hx (t := (.array .byte)) (w := (.ref b1)) Bd.returns rfl (Or.inr (Or.inr (Or.inr (Or.inr ⟨rfl, rfl, rfl⟩)))) (hb hby own_d5_16) hr) ⟨_, _, rfl, N1, Kp, sz_b1, Ea_b1, V_b1⟩ (by decide) (by decide)
theorem own_ef_own_rbi44 (m : MethodId) (a0' : Addr) (a1 : Addr) : entryFrame m #[(.ref a0'), (.ref a1)] 2 = mkF m 0 #[rv a0', rv a1] [] := by first | (simp [entryFrame, mkF, argsToLocals, Value.category]; done) | rfl
def own_Q_own_rbi44 (Z : State) (a0' : Addr) (a1 : Addr) (k1 : ClassId) (v0 v1 v2 v3 : Value) (h0 : Heap) (n0 : Nat) (v : Option Value) (h : Heap) (L : List Loc) : Prop := ∃ b k, v = some (.ref b) ∧ Fr n0 L ∧ Keep h0 h [] ∧ h0.size ≤ b ∧ Exa Z h b "[B" ∧ Arv Z h b k .byte (0 : Int32) [] (.int (0 : Int32))
set_option maxRecDepth 65536 in
set_option maxHeartbeats 40000000 in
theorem own_rbi44 (l : Launch) (Z : State) (a0 : Array Value) (hw : ∀ d ∈ tables_1, d.before a0 Z = true) (ws : List Jvm.Cond) (a0' : Addr) (a1 : Addr) (k1 : ClassId) (v0 v1 v2 v3 : Value) (h0 : Heap) (n0 : Nat) (Z0 : n0 ≤ h0.size) (Va : Arv Z h0 a1 k1 .byte (4 : Int32) [v0, v1, v2, v3] (.int (0 : Int32))) (Ea : Exa Z h0 a1 "[B") (Fs : Fld Z h0 a0' "com/example/tranche/tranche/model/Span" "start" "I" (.int (4 : Int32))) (Fe : Fld Z h0 a0' "com/example/tranche/tranche/model/Span" "end" "I" (.int (4 : Int32)))  :
    MetFree l (⟨"com/example/tranche/tranche/model/Span", "bytesIn", "([B)[B"⟩ : MethodName) (head1 (Jvm.Cond.code (⟨"com/example/tranche/tranche/model/Span", "bytesIn", "([B)[B"⟩ : MethodName) prog_34_method_2_code 2 (some (.array .byte)) :: ws) ({ frames := 3, cells := 1, slots := 0, locals := 62 } : Room)) (fun a U => a = #[(.ref a0'), (.ref a1)] ∧ Z.Warmed39 U.vm ∧ U.heap = h0) (fun _ _ _ _ _ => True) (fun _ U o U' => ∃ v L, o = .returned v ∧ own_Q_own_rbi44 Z a0' a1 k1 v0 v1 v2 v3 h0 n0 v U'.heap L ∧ FrameEnd U o U' L ({ frames := 3, cells := 1, slots := 0, locals := 62 } : Room).cells ({ frames := 3, cells := 1, slots := 0, locals := 62 } : Room).slots) := by
  refine MetFree.of_bodySF (plainFor_of_name own_pn_com_example_tranche_tranche_model_Span) hisR ?_
  intro p e s m args below meth c s₁ Bd hml0 hP hK
  obtain ⟨rfl, hZ, hh⟩ := hP
  have hx := Bd.exec
  have hby := Bd.bytes
  have hml : c.maxLocals = 2 := hml0
  have hown : s.vm.findClass "com/example/tranche/tranche/model/Span" = some m.cls := findClass_of_methodNamed Bd.named
  have hnm := (name_of_methodNamed Bd.named Bd.method).1
  have X0 : Stand p l e ({ frames := 3, cells := 1, slots := 0, locals := 62 } : Room) s m #[(.ref a0'), (.ref a1)] below meth c s₁ [] 0 0 := Stand.of_body Bd
  have e0 : s₁.heap = h0 := by rw [← hh, Bd.state]; rfl
  have N0 := Fr.nil n0
  have Kp : Keep h0 h0 [] := Keep.refl h0 _
  show own_Go p e below s (own_Q_own_rbi44 Z a0' a1 k1 v0 v1 v2 v3 h0 n0) ({ frames := 3, cells := 1, slots := 0, locals := 62 } : Room).cells ({ frames := 3, cells := 1, slots := 0, locals := 62 } : Room).slots (s₁.setTop (entryFrame m #[(.ref a0'), (.ref a1)] 2))
  refine own_go (fun zt zk => castTop (own_ef_own_rbi44 m a0' a1) zk) ?_
  show own_Go p e below s _ _ _ (s₁.setTop (mkF m 0 #[rv a0', rv a1] []))
  refine own_go (fun zt zk => (XS.aloadN X0.here hx rfl (hb hby own_d4_0) rfl rfl zk)) ?_
  show own_Go p e below s _ _ _ (s₁.setTop (mkF m 1 #[rv a0', rv a1] [(.ref a0')]))
  obtain ⟨T1, X1, e1, st1⟩ := getF X0 hx hZ hown (host := "") (Or.inl (hw _ (List.mem_of_getElem? (i := 18) rfl))) Via.refl e0 Fe (g := (mkF m 1 #[rv a0', rv a1] [(.ref a0')])) rfl rfl (hb hby own_d4_1)
  refine own_go st1 ?_
  show own_Go p e below s _ _ _ (T1.setTop (mkF m 4 #[rv a0', rv a1] [(.int (4 : Int32))]))
  refine own_go (fun zt zk => (XS.aloadN X1.here hx rfl (hb hby own_d4_4) rfl rfl zk)) ?_
  show own_Go p e below s _ _ _ (T1.setTop (mkF m 5 #[rv a0', rv a1] [(.ref a1), (.int (4 : Int32))]))
  obtain ⟨cl2, Ar2, -, Sz2, Nz2, -, -⟩ := id Va
  refine own_go (X1.arraylength hx (by rw [e1]; exact Ar2.1) (State.isArrayOf_alike hZ.alike Ar2.2.1) (g := (mkF m 5 #[rv a0', rv a1] [(.ref a1), (.int (4 : Int32))])) rfl rfl (hb hby own_d4_5)) ?_
  rw [len_of Sz2 Nz2]
  show own_Go p e below s _ _ _ (T1.setTop (mkF m 6 #[rv a0', rv a1] [(.int (4 : Int32)), (.int (4 : Int32))]))
  refine own_go (fun zt zk => (XS.icmpYes X1.here hx rfl (pc0 := 6) (pc' := 32) rfl (hb hby own_d4_6) rfl (flt ((own_irr _) : ¬ ((4 : Int32) < (4 : Int32)))).2.2.2 (by decide) (by decide) (XS.aloadN X1.here hx rfl (hb hby own_d4_32) rfl rfl (XS.aloadN X1.here hx rfl (hb hby own_d4_33) rfl rfl zk)))) ?_
  show own_Go p e below s _ _ _ (T1.setTop (mkF m 34 #[rv a0', rv a1] [(.ref a0'), (.ref a1)]))
  obtain ⟨T3, X3, e3, st3⟩ := getF X1 hx hZ hown (host := "") (Or.inl (hw _ (List.mem_of_getElem? (i := 16) rfl))) Via.refl e1 Fs (g := (mkF m 34 #[rv a0', rv a1] [(.ref a0'), (.ref a1)])) rfl rfl (hb hby own_d4_34)
  refine own_go st3 ?_
  show own_Go p e below s _ _ _ (T3.setTop (mkF m 37 #[rv a0', rv a1] [(.int (4 : Int32)), (.ref a1)]))
  refine own_go (fun zt zk => (XS.aloadN X3.here hx rfl (hb hby own_d4_37) rfl rfl zk)) ?_
  show own_Go p e below s _ _ _ (T3.setTop (mkF m 38 #[rv a0', rv a1] [(.ref a0'), (.int (4 : Int32)), (.ref a1)]))
  obtain ⟨T4, X4, e4, st4⟩ := getF X3 hx hZ hown (host := "") (Or.inl (hw _ (List.mem_of_getElem? (i := 18) rfl))) Via.refl e3 Fe (g := (mkF m 38 #[rv a0', rv a1] [(.ref a0'), (.int (4 : Int32)), (.ref a1)])) rfl rfl (hb hby own_d4_38)
  refine own_go st4 ?_
  show own_Go p e below s _ _ _ (T4.setTop (mkF m 41 #[rv a0', rv a1] [(.int (4 : Int32)), (.int (4 : Int32)), (.ref a1)]))
  obtain ⟨_, _, ⟨T5, L5, k5, n5⟩, -, X5, ⟨Lc5, hQ5, l5, y5, z5⟩, st5⟩ := Jvm.LawKit.callS X4 hx (y := (⟨"java/util/Arrays", "copyOfRange", "([BII)[B"⟩ : MethodName)) hown (mvT hZ (hw _ (List.mem_of_getElem? (i := 25) rfl))) (mvT hZ (hw _ (List.mem_of_getElem? (i := 26) rfl))) (mvT hZ (hw _ (List.mem_of_getElem? (i := 27) rfl))) (mvT hZ (hw _ (List.mem_of_getElem? (i := 28) rfl))) (by decide) (backOf (W := 0) (own_rcr44 l Z a0 hw [] a1 k1 v0 v1 v2 v3 h0 n0 Z0 Va Ea) hZ (hw _ (List.mem_of_getElem? (i := 28) rfl)) (hw _ (List.mem_of_getElem? (i := 27) rfl)) (by decide) (by decide)) (g := (mkF m 41 #[rv a0', rv a1] [(.int (4 : Int32)), (.int (4 : Int32)), (.ref a1)])) rfl (by rw [hml]; rfl) (argsL := [(.ref a1), (.int (4 : Int32)), (.int (4 : Int32))]) (rest := []) (lenOf own_pd___BII__B rfl) rfl (by show 2 * 0 + _ ≤ _; exact Nat.le_of_eq rfl) (hb hby own_d4_41) (fun _ _ => ⟨rfl, e4, (by decide : 0 + 1 ≤ _), (by decide : 0 + 0 ≤ _)⟩)
  dsimp only [Pt.U, Pt.locs, Pt.cells, Pt.slots] at X5 l5 y5 z5 st5 hQ5
  subst l5 y5 z5
  obtain ⟨b5, k5', rfl, Nq5, K5, sz_b5, Ea_b5, V_b5⟩ := hQ5
  have N5 := Fr.app N0 Nq5
  refine own_go st5 ?_
  replace Va := Va.keep K5 nin0
  replace Ea := Ea.keep K5
  replace Fs := Fs.keep K5 nin0
  replace Fe := Fe.keep K5 nin0
  replace Kp := Kp.trans K5 all0
  show own_Go p e below s _ _ _ (T5.setTop (mkF m 44 #[rv a0', rv a1] [(.ref b5)]))
  exact own_fin X5 Bd.notSynchronized (fun h => by rw [Bd.returns] at h; cases h) (fun fs hr => retOut X5 hx (t := (.array .byte)) (w := (.ref b5)) Bd.returns rfl (Or.inr (Or.inr (Or.inr (Or.inr ⟨rfl, rfl, rfl⟩)))) (hb hby own_d4_44) hr) ⟨_, _, rfl, N5, Kp, sz_b5, Ea_b5, V_b5⟩ (by decide) (by decide)
theorem own_d9_0 : decode method_3_code 0 = .ok (.iload_n 0, 1) := by decide +kernel
theorem own_d9_1 : decode method_3_code 1 = .ok (.ifCond .ne 6, 3) := by decide +kernel
theorem own_d9_4 : decode method_3_code 4 = .ok (.iload_n 1, 1) := by decide +kernel
theorem own_d9_5 : decode method_3_code 5 = .ok (.i2b, 1) := by decide +kernel
theorem own_d9_6 : decode method_3_code 6 = .ok (.ireturn, 1) := by decide +kernel
theorem own_pn_com_example_tranche_tranche_model_SpanBytesInPinLaw : plainName "com/example/tranche/tranche/model/SpanBytesInPinLaw" = true := by first | (simp [plainName, overriddenIn]; done) | decide +kernel
theorem own_ef_own_rat0 (m : MethodId) (p0 : Int32) (p1 : Int32) (p2 : Int32) (p3 : Int32) : entryFrame m #[(.int (0 : Int32)), (.int p0), (.int p1), (.int p2), (.int p3)] 5 = mkF m 0 #[iv (0 : Int32), iv p0, iv p1, iv p2, iv p3] [] := by first | (simp [entryFrame, mkF, argsToLocals, Value.category]; done) | rfl
def own_Q_own_rat0 (Z : State) (p0 : Int32) (p1 : Int32) (p2 : Int32) (p3 : Int32) (h0 : Heap) (n0 : Nat) (v : Option Value) (h : Heap) (L : List Loc) : Prop := v = some (.int (p0.toInt8.toInt32)) ∧ Fr n0 L ∧ h = h0
set_option maxRecDepth 65536 in
set_option maxHeartbeats 40000000 in
theorem own_rat0 (l : Launch) (Z : State) (a0 : Array Value) (hw : ∀ d ∈ tables_1, d.before a0 Z = true) (ws : List Jvm.Cond) (p0 : Int32) (p1 : Int32) (p2 : Int32) (p3 : Int32) (h0 : Heap) (n0 : Nat) (Z0 : n0 ≤ h0.size)   :
    MetFree l (⟨"com/example/tranche/tranche/model/SpanBytesInPinLaw", "at", "(IIIII)B"⟩ : MethodName) (head1 (Jvm.Cond.code (⟨"com/example/tranche/tranche/model/SpanBytesInPinLaw", "at", "(IIIII)B"⟩ : MethodName) method_3_code 5 (some .byte) :: ws) ({ frames := 0, cells := 0, slots := 0, locals := 0 } : Room)) (fun a U => a = #[(.int (0 : Int32)), (.int p0), (.int p1), (.int p2), (.int p3)] ∧ Z.Warmed39 U.vm ∧ U.heap = h0) (fun _ _ _ _ _ => True) (fun _ U o U' => ∃ v L, o = .returned v ∧ own_Q_own_rat0 Z p0 p1 p2 p3 h0 n0 v U'.heap L ∧ FrameEnd U o U' L ({ frames := 0, cells := 0, slots := 0, locals := 0 } : Room).cells ({ frames := 0, cells := 0, slots := 0, locals := 0 } : Room).slots) := by
  refine MetFree.of_bodySF (plainFor_of_name own_pn_com_example_tranche_tranche_model_SpanBytesInPinLaw) hisR ?_
  intro p e s m args below meth c s₁ Bd hml0 hP hK
  obtain ⟨rfl, hZ, hh⟩ := hP
  have hx := Bd.exec
  have hby := Bd.bytes
  have hml : c.maxLocals = 5 := hml0
  have hown : s.vm.findClass "com/example/tranche/tranche/model/SpanBytesInPinLaw" = some m.cls := findClass_of_methodNamed Bd.named
  have hnm := (name_of_methodNamed Bd.named Bd.method).1
  have X0 : Stand p l e ({ frames := 0, cells := 0, slots := 0, locals := 0 } : Room) s m #[(.int (0 : Int32)), (.int p0), (.int p1), (.int p2), (.int p3)] below meth c s₁ [] 0 0 := Stand.of_body Bd
  have e0 : s₁.heap = h0 := by rw [← hh, Bd.state]; rfl
  have N0 := Fr.nil n0
  show own_Go p e below s (own_Q_own_rat0 Z p0 p1 p2 p3 h0 n0) ({ frames := 0, cells := 0, slots := 0, locals := 0 } : Room).cells ({ frames := 0, cells := 0, slots := 0, locals := 0 } : Room).slots (s₁.setTop (entryFrame m #[(.int (0 : Int32)), (.int p0), (.int p1), (.int p2), (.int p3)] 5))
  refine own_go (fun zt zk => castTop (own_ef_own_rat0 m p0 p1 p2 p3) zk) ?_
  show own_Go p e below s _ _ _ (s₁.setTop (mkF m 0 #[iv (0 : Int32), iv p0, iv p1, iv p2, iv p3] []))
  refine own_go (fun zt zk => (XS.iloadN X0.here hx rfl (hb hby own_d9_0) rfl (XS.ifNo X0.here hx rfl (hb hby own_d9_1) rfl ((if0 _ _).trans (teq (rfl : (0 : Int32) = (0 : Int32))).2) (XS.iloadN X0.here hx rfl (hb hby own_d9_4) rfl (XS.i2b X0.here hx rfl (hb hby own_d9_5) rfl zk))))) ?_
  show own_Go p e below s _ _ _ (s₁.setTop (mkF m 6 #[iv (0 : Int32), iv p0, iv p1, iv p2, iv p3] [(.int (p0.toInt8.toInt32))]))
  exact own_fin X0 Bd.notSynchronized (fun h => by rw [Bd.returns] at h; cases h) (fun fs hr => retN X0 hx (t := .byte) Bd.returns (by simp) (hb hby own_d9_6) hr) (by rw [e0]; exact ⟨congrArg (fun z => some (Value.int z)) (own_b8 _), N0, rfl⟩) (by decide) (by decide)
theorem own_d9_7 : decode method_3_code 7 = .ok (.iload_n 0, 1) := by decide +kernel
theorem own_d9_8 : decode method_3_code 8 = .ok (.iconst 1, 1) := by decide +kernel
theorem own_d9_9 : decode method_3_code 9 = .ok (.if_icmp .ne 6, 3) := by decide +kernel
theorem own_d9_12 : decode method_3_code 12 = .ok (.iload_n 2, 1) := by decide +kernel
theorem own_d9_13 : decode method_3_code 13 = .ok (.i2b, 1) := by decide +kernel
theorem own_d9_14 : decode method_3_code 14 = .ok (.ireturn, 1) := by decide +kernel
theorem own_ef_own_rat1 (m : MethodId) (p0 : Int32) (p1 : Int32) (p2 : Int32) (p3 : Int32) : entryFrame m #[(.int (1 : Int32)), (.int p0), (.int p1), (.int p2), (.int p3)] 5 = mkF m 0 #[iv (1 : Int32), iv p0, iv p1, iv p2, iv p3] [] := by first | (simp [entryFrame, mkF, argsToLocals, Value.category]; done) | rfl
def own_Q_own_rat1 (Z : State) (p0 : Int32) (p1 : Int32) (p2 : Int32) (p3 : Int32) (h0 : Heap) (n0 : Nat) (v : Option Value) (h : Heap) (L : List Loc) : Prop := v = some (.int (p1.toInt8.toInt32)) ∧ Fr n0 L ∧ h = h0
set_option maxRecDepth 65536 in
set_option maxHeartbeats 40000000 in
theorem own_rat1 (l : Launch) (Z : State) (a0 : Array Value) (hw : ∀ d ∈ tables_1, d.before a0 Z = true) (ws : List Jvm.Cond) (p0 : Int32) (p1 : Int32) (p2 : Int32) (p3 : Int32) (h0 : Heap) (n0 : Nat) (Z0 : n0 ≤ h0.size)   :
    MetFree l (⟨"com/example/tranche/tranche/model/SpanBytesInPinLaw", "at", "(IIIII)B"⟩ : MethodName) (head1 (Jvm.Cond.code (⟨"com/example/tranche/tranche/model/SpanBytesInPinLaw", "at", "(IIIII)B"⟩ : MethodName) method_3_code 5 (some .byte) :: ws) ({ frames := 0, cells := 0, slots := 0, locals := 0 } : Room)) (fun a U => a = #[(.int (1 : Int32)), (.int p0), (.int p1), (.int p2), (.int p3)] ∧ Z.Warmed39 U.vm ∧ U.heap = h0) (fun _ _ _ _ _ => True) (fun _ U o U' => ∃ v L, o = .returned v ∧ own_Q_own_rat1 Z p0 p1 p2 p3 h0 n0 v U'.heap L ∧ FrameEnd U o U' L ({ frames := 0, cells := 0, slots := 0, locals := 0 } : Room).cells ({ frames := 0, cells := 0, slots := 0, locals := 0 } : Room).slots) := by
  refine MetFree.of_bodySF (plainFor_of_name own_pn_com_example_tranche_tranche_model_SpanBytesInPinLaw) hisR ?_
  intro p e s m args below meth c s₁ Bd hml0 hP hK
  obtain ⟨rfl, hZ, hh⟩ := hP
  have hx := Bd.exec
  have hby := Bd.bytes
  have hml : c.maxLocals = 5 := hml0
  have hown : s.vm.findClass "com/example/tranche/tranche/model/SpanBytesInPinLaw" = some m.cls := findClass_of_methodNamed Bd.named
  have hnm := (name_of_methodNamed Bd.named Bd.method).1
  have X0 : Stand p l e ({ frames := 0, cells := 0, slots := 0, locals := 0 } : Room) s m #[(.int (1 : Int32)), (.int p0), (.int p1), (.int p2), (.int p3)] below meth c s₁ [] 0 0 := Stand.of_body Bd
  have e0 : s₁.heap = h0 := by rw [← hh, Bd.state]; rfl
  have N0 := Fr.nil n0
  show own_Go p e below s (own_Q_own_rat1 Z p0 p1 p2 p3 h0 n0) ({ frames := 0, cells := 0, slots := 0, locals := 0 } : Room).cells ({ frames := 0, cells := 0, slots := 0, locals := 0 } : Room).slots (s₁.setTop (entryFrame m #[(.int (1 : Int32)), (.int p0), (.int p1), (.int p2), (.int p3)] 5))
  refine own_go (fun zt zk => castTop (own_ef_own_rat1 m p0 p1 p2 p3) zk) ?_
  show own_Go p e below s _ _ _ (s₁.setTop (mkF m 0 #[iv (1 : Int32), iv p0, iv p1, iv p2, iv p3] []))
  refine own_go (fun zt zk => (XS.iloadN X0.here hx rfl (hb hby own_d9_0) rfl (XS.ifYes X0.here hx rfl (pc0 := 1) (pc' := 7) rfl (hb hby own_d9_1) rfl ((if0 _ _).trans (feq ((by decide) : ¬ ((1 : Int32) = (0 : Int32)))).2) (by decide) (by decide) (XS.iloadN X0.here hx rfl (hb hby own_d9_7) rfl (XS.iconst X0.here hx rfl (hb hby own_d9_8) (XS.icmpNo X0.here hx rfl (hb hby own_d9_9) rfl (teq (rfl : (1 : Int32) = (1 : Int32))).2 (XS.iloadN X0.here hx rfl (hb hby own_d9_12) rfl (XS.i2b X0.here hx rfl (hb hby own_d9_13) rfl zk)))))))) ?_
  show own_Go p e below s _ _ _ (s₁.setTop (mkF m 14 #[iv (1 : Int32), iv p0, iv p1, iv p2, iv p3] [(.int (p1.toInt8.toInt32))]))
  exact own_fin X0 Bd.notSynchronized (fun h => by rw [Bd.returns] at h; cases h) (fun fs hr => retN X0 hx (t := .byte) Bd.returns (by simp) (hb hby own_d9_14) hr) (by rw [e0]; exact ⟨congrArg (fun z => some (Value.int z)) (own_b8 _), N0, rfl⟩) (by decide) (by decide)
theorem own_d9_15 : decode method_3_code 15 = .ok (.iload_n 0, 1) := by decide +kernel
theorem own_d9_16 : decode method_3_code 16 = .ok (.iconst 2, 1) := by decide +kernel
theorem own_d9_17 : decode method_3_code 17 = .ok (.if_icmp .ne 6, 3) := by decide +kernel
theorem own_d9_20 : decode method_3_code 20 = .ok (.iload_n 3, 1) := by decide +kernel
theorem own_d9_21 : decode method_3_code 21 = .ok (.i2b, 1) := by decide +kernel
theorem own_d9_22 : decode method_3_code 22 = .ok (.ireturn, 1) := by decide +kernel
theorem own_ef_own_rat2 (m : MethodId) (p0 : Int32) (p1 : Int32) (p2 : Int32) (p3 : Int32) : entryFrame m #[(.int (2 : Int32)), (.int p0), (.int p1), (.int p2), (.int p3)] 5 = mkF m 0 #[iv (2 : Int32), iv p0, iv p1, iv p2, iv p3] [] := by first | (simp [entryFrame, mkF, argsToLocals, Value.category]; done) | rfl
def own_Q_own_rat2 (Z : State) (p0 : Int32) (p1 : Int32) (p2 : Int32) (p3 : Int32) (h0 : Heap) (n0 : Nat) (v : Option Value) (h : Heap) (L : List Loc) : Prop := v = some (.int (p2.toInt8.toInt32)) ∧ Fr n0 L ∧ h = h0
set_option maxRecDepth 65536 in
set_option maxHeartbeats 40000000 in
theorem own_rat2 (l : Launch) (Z : State) (a0 : Array Value) (hw : ∀ d ∈ tables_1, d.before a0 Z = true) (ws : List Jvm.Cond) (p0 : Int32) (p1 : Int32) (p2 : Int32) (p3 : Int32) (h0 : Heap) (n0 : Nat) (Z0 : n0 ≤ h0.size)   :
    MetFree l (⟨"com/example/tranche/tranche/model/SpanBytesInPinLaw", "at", "(IIIII)B"⟩ : MethodName) (head1 (Jvm.Cond.code (⟨"com/example/tranche/tranche/model/SpanBytesInPinLaw", "at", "(IIIII)B"⟩ : MethodName) method_3_code 5 (some .byte) :: ws) ({ frames := 0, cells := 0, slots := 0, locals := 0 } : Room)) (fun a U => a = #[(.int (2 : Int32)), (.int p0), (.int p1), (.int p2), (.int p3)] ∧ Z.Warmed39 U.vm ∧ U.heap = h0) (fun _ _ _ _ _ => True) (fun _ U o U' => ∃ v L, o = .returned v ∧ own_Q_own_rat2 Z p0 p1 p2 p3 h0 n0 v U'.heap L ∧ FrameEnd U o U' L ({ frames := 0, cells := 0, slots := 0, locals := 0 } : Room).cells ({ frames := 0, cells := 0, slots := 0, locals := 0 } : Room).slots) := by
  refine MetFree.of_bodySF (plainFor_of_name own_pn_com_example_tranche_tranche_model_SpanBytesInPinLaw) hisR ?_
  intro p e s m args below meth c s₁ Bd hml0 hP hK
  obtain ⟨rfl, hZ, hh⟩ := hP
  have hx := Bd.exec
  have hby := Bd.bytes
  have hml : c.maxLocals = 5 := hml0
  have hown : s.vm.findClass "com/example/tranche/tranche/model/SpanBytesInPinLaw" = some m.cls := findClass_of_methodNamed Bd.named
  have hnm := (name_of_methodNamed Bd.named Bd.method).1
  have X0 : Stand p l e ({ frames := 0, cells := 0, slots := 0, locals := 0 } : Room) s m #[(.int (2 : Int32)), (.int p0), (.int p1), (.int p2), (.int p3)] below meth c s₁ [] 0 0 := Stand.of_body Bd
  have e0 : s₁.heap = h0 := by rw [← hh, Bd.state]; rfl
  have N0 := Fr.nil n0
  show own_Go p e below s (own_Q_own_rat2 Z p0 p1 p2 p3 h0 n0) ({ frames := 0, cells := 0, slots := 0, locals := 0 } : Room).cells ({ frames := 0, cells := 0, slots := 0, locals := 0 } : Room).slots (s₁.setTop (entryFrame m #[(.int (2 : Int32)), (.int p0), (.int p1), (.int p2), (.int p3)] 5))
  refine own_go (fun zt zk => castTop (own_ef_own_rat2 m p0 p1 p2 p3) zk) ?_
  show own_Go p e below s _ _ _ (s₁.setTop (mkF m 0 #[iv (2 : Int32), iv p0, iv p1, iv p2, iv p3] []))
  refine own_go (fun zt zk => (XS.iloadN X0.here hx rfl (hb hby own_d9_0) rfl (XS.ifYes X0.here hx rfl (pc0 := 1) (pc' := 7) rfl (hb hby own_d9_1) rfl ((if0 _ _).trans (feq ((by decide) : ¬ ((2 : Int32) = (0 : Int32)))).2) (by decide) (by decide) (XS.iloadN X0.here hx rfl (hb hby own_d9_7) rfl (XS.iconst X0.here hx rfl (hb hby own_d9_8) (XS.icmpYes X0.here hx rfl (pc0 := 9) (pc' := 15) rfl (hb hby own_d9_9) rfl (feq ((by decide) : ¬ ((2 : Int32) = (1 : Int32)))).2 (by decide) (by decide) (XS.iloadN X0.here hx rfl (hb hby own_d9_15) rfl (XS.iconst X0.here hx rfl (hb hby own_d9_16) (XS.icmpNo X0.here hx rfl (hb hby own_d9_17) rfl (teq (rfl : (2 : Int32) = (2 : Int32))).2 (XS.iloadN X0.here hx rfl (hb hby own_d9_20) rfl (XS.i2b X0.here hx rfl (hb hby own_d9_21) rfl zk))))))))))) ?_
  show own_Go p e below s _ _ _ (s₁.setTop (mkF m 22 #[iv (2 : Int32), iv p0, iv p1, iv p2, iv p3] [(.int (p2.toInt8.toInt32))]))
  exact own_fin X0 Bd.notSynchronized (fun h => by rw [Bd.returns] at h; cases h) (fun fs hr => retN X0 hx (t := .byte) Bd.returns (by simp) (hb hby own_d9_22) hr) (by rw [e0]; exact ⟨congrArg (fun z => some (Value.int z)) (own_b8 _), N0, rfl⟩) (by decide) (by decide)
theorem own_d9_23 : decode method_3_code 23 = .ok (.iload 4, 2) := by decide +kernel
theorem own_d9_25 : decode method_3_code 25 = .ok (.i2b, 1) := by decide +kernel
theorem own_d9_26 : decode method_3_code 26 = .ok (.ireturn, 1) := by decide +kernel
theorem own_ef_own_rat3 (m : MethodId) (p0 : Int32) (p1 : Int32) (p2 : Int32) (p3 : Int32) : entryFrame m #[(.int (3 : Int32)), (.int p0), (.int p1), (.int p2), (.int p3)] 5 = mkF m 0 #[iv (3 : Int32), iv p0, iv p1, iv p2, iv p3] [] := by first | (simp [entryFrame, mkF, argsToLocals, Value.category]; done) | rfl
def own_Q_own_rat3 (Z : State) (p0 : Int32) (p1 : Int32) (p2 : Int32) (p3 : Int32) (h0 : Heap) (n0 : Nat) (v : Option Value) (h : Heap) (L : List Loc) : Prop := v = some (.int (p3.toInt8.toInt32)) ∧ Fr n0 L ∧ h = h0
set_option maxRecDepth 65536 in
set_option maxHeartbeats 40000000 in
theorem own_rat3 (l : Launch) (Z : State) (a0 : Array Value) (hw : ∀ d ∈ tables_1, d.before a0 Z = true) (ws : List Jvm.Cond) (p0 : Int32) (p1 : Int32) (p2 : Int32) (p3 : Int32) (h0 : Heap) (n0 : Nat) (Z0 : n0 ≤ h0.size)   :
    MetFree l (⟨"com/example/tranche/tranche/model/SpanBytesInPinLaw", "at", "(IIIII)B"⟩ : MethodName) (head1 (Jvm.Cond.code (⟨"com/example/tranche/tranche/model/SpanBytesInPinLaw", "at", "(IIIII)B"⟩ : MethodName) method_3_code 5 (some .byte) :: ws) ({ frames := 0, cells := 0, slots := 0, locals := 0 } : Room)) (fun a U => a = #[(.int (3 : Int32)), (.int p0), (.int p1), (.int p2), (.int p3)] ∧ Z.Warmed39 U.vm ∧ U.heap = h0) (fun _ _ _ _ _ => True) (fun _ U o U' => ∃ v L, o = .returned v ∧ own_Q_own_rat3 Z p0 p1 p2 p3 h0 n0 v U'.heap L ∧ FrameEnd U o U' L ({ frames := 0, cells := 0, slots := 0, locals := 0 } : Room).cells ({ frames := 0, cells := 0, slots := 0, locals := 0 } : Room).slots) := by
  refine MetFree.of_bodySF (plainFor_of_name own_pn_com_example_tranche_tranche_model_SpanBytesInPinLaw) hisR ?_
  intro p e s m args below meth c s₁ Bd hml0 hP hK
  obtain ⟨rfl, hZ, hh⟩ := hP
  have hx := Bd.exec
  have hby := Bd.bytes
  have hml : c.maxLocals = 5 := hml0
  have hown : s.vm.findClass "com/example/tranche/tranche/model/SpanBytesInPinLaw" = some m.cls := findClass_of_methodNamed Bd.named
  have hnm := (name_of_methodNamed Bd.named Bd.method).1
  have X0 : Stand p l e ({ frames := 0, cells := 0, slots := 0, locals := 0 } : Room) s m #[(.int (3 : Int32)), (.int p0), (.int p1), (.int p2), (.int p3)] below meth c s₁ [] 0 0 := Stand.of_body Bd
  have e0 : s₁.heap = h0 := by rw [← hh, Bd.state]; rfl
  have N0 := Fr.nil n0
  show own_Go p e below s (own_Q_own_rat3 Z p0 p1 p2 p3 h0 n0) ({ frames := 0, cells := 0, slots := 0, locals := 0 } : Room).cells ({ frames := 0, cells := 0, slots := 0, locals := 0 } : Room).slots (s₁.setTop (entryFrame m #[(.int (3 : Int32)), (.int p0), (.int p1), (.int p2), (.int p3)] 5))
  refine own_go (fun zt zk => castTop (own_ef_own_rat3 m p0 p1 p2 p3) zk) ?_
  show own_Go p e below s _ _ _ (s₁.setTop (mkF m 0 #[iv (3 : Int32), iv p0, iv p1, iv p2, iv p3] []))
  refine own_go (fun zt zk => (XS.iloadN X0.here hx rfl (hb hby own_d9_0) rfl (XS.ifYes X0.here hx rfl (pc0 := 1) (pc' := 7) rfl (hb hby own_d9_1) rfl ((if0 _ _).trans (feq ((by decide) : ¬ ((3 : Int32) = (0 : Int32)))).2) (by decide) (by decide) (XS.iloadN X0.here hx rfl (hb hby own_d9_7) rfl (XS.iconst X0.here hx rfl (hb hby own_d9_8) (XS.icmpYes X0.here hx rfl (pc0 := 9) (pc' := 15) rfl (hb hby own_d9_9) rfl (feq ((by decide) : ¬ ((3 : Int32) = (1 : Int32)))).2 (by decide) (by decide) (XS.iloadN X0.here hx rfl (hb hby own_d9_15) rfl (XS.iconst X0.here hx rfl (hb hby own_d9_16) (XS.icmpYes X0.here hx rfl (pc0 := 17) (pc' := 23) rfl (hb hby own_d9_17) rfl (feq ((by decide) : ¬ ((3 : Int32) = (2 : Int32)))).2 (by decide) (by decide) (XS.iload X0.here hx rfl (hb hby own_d9_23) rfl (XS.i2b X0.here hx rfl (hb hby own_d9_25) rfl zk))))))))))) ?_
  show own_Go p e below s _ _ _ (s₁.setTop (mkF m 26 #[iv (3 : Int32), iv p0, iv p1, iv p2, iv p3] [(.int (p3.toInt8.toInt32))]))
  exact own_fin X0 Bd.notSynchronized (fun h => by rw [Bd.returns] at h; cases h) (fun fs hr => retN X0 hx (t := .byte) Bd.returns (by simp) (hb hby own_d9_26) hr) (by rw [e0]; exact ⟨congrArg (fun z => some (Value.int z)) (own_b8 _), N0, rfl⟩) (by decide) (by decide)
theorem own_pd___B__B : parseMethodDescriptor "([B)[B" = some ⟨[(.array .byte)], some (.array .byte)⟩ := by decide +kernel
theorem own_pd__IIIII_B : parseMethodDescriptor "(IIIII)B" = some ⟨[.int, .int, .int, .int, .int], some .byte⟩ := by decide +kernel
theorem own_ef_own_law (m : MethodId) (p1 : Int32) (p2 : Int32) (p3 : Int32) (p4 : Int32) (p5 : Int32) (p6 : Int32) : entryFrame m #[(.int p1), (.int p2), (.int p3), (.int p4), (.int p5), (.int p6)] maxLocals = mkF m 0 #[iv p1, iv p2, iv p3, iv p4, iv p5, iv p6, .unset, .unset, .unset, .unset, .unset, .unset] [] := by first | (simp [entryFrame, mkF, argsToLocals, Value.category, maxLocals]; done) | rfl
def own_Q_own_law (Z : State) (p1 : Int32) (p2 : Int32) (p3 : Int32) (p4 : Int32) (p5 : Int32) (p6 : Int32) (h0 : Heap) (n0 : Nat) (v : Option Value) (h : Heap) (L : List Loc) : Prop := v = some (.int 1) ∧ Fr n0 L
set_option maxRecDepth 65536 in
set_option maxHeartbeats 40000000 in
theorem own_law (l : Launch) (Z : State) (a0 : Array Value) (hw : ∀ d ∈ tables_1, d.before a0 Z = true) (ws : List Jvm.Cond) (p1 : Int32) (p2 : Int32) (p3 : Int32) (p4 : Int32) (p5 : Int32) (p6 : Int32) (h0 : Heap) (n0 : Nat) (Z0 : n0 ≤ h0.size)   :
    MetFree l x (head1 (Jvm.Cond.code x code maxLocals ret :: ws) room_1) (fun a U => a = #[(.int p1), (.int p2), (.int p3), (.int p4), (.int p5), (.int p6)] ∧ Z.Warmed39 U.vm ∧ U.heap = h0) (fun _ _ _ _ _ => True) (fun _ U o U' => ∃ v L, o = .returned v ∧ own_Q_own_law Z p1 p2 p3 p4 p5 p6 h0 n0 v U'.heap L ∧ FrameEnd U o U' L room_1.cells room_1.slots) := by
  refine MetFree.of_bodySF (plainFor_of_name own_pn_com_example_tranche_tranche_model_SpanBytesInPinLaw) hisR ?_
  intro p e s m args below meth c s₁ Bd hml0 hP hK
  obtain ⟨rfl, hZ, hh⟩ := hP
  have hx := Bd.exec
  have hby := Bd.bytes
  have hml : c.maxLocals = 12 := hml0
  have hown : s.vm.findClass "com/example/tranche/tranche/model/SpanBytesInPinLaw" = some m.cls := findClass_of_methodNamed Bd.named
  have hnm := (name_of_methodNamed Bd.named Bd.method).1
  have X0 : Stand p l e room_1 s m #[(.int p1), (.int p2), (.int p3), (.int p4), (.int p5), (.int p6)] below meth c s₁ [] 0 0 := Stand.of_body Bd
  have e0 : s₁.heap = h0 := by rw [← hh, Bd.state]; rfl
  have N0 := Fr.nil n0
  have Kp : Keep h0 h0 [] := Keep.refl h0 _
  show own_Go p e below s (own_Q_own_law Z p1 p2 p3 p4 p5 p6 h0 n0) room_1.cells room_1.slots (s₁.setTop (entryFrame m #[(.int p1), (.int p2), (.int p3), (.int p4), (.int p5), (.int p6)] maxLocals))
  refine own_go (fun zt zk => castTop (own_ef_own_law m p1 p2 p3 p4 p5 p6) zk) ?_
  show own_Go p e below s _ _ _ (s₁.setTop (mkF m 0 #[iv p1, iv p2, iv p3, iv p4, iv p5, iv p6, .unset, .unset, .unset, .unset, .unset, .unset] []))
  refine own_go (fun zt zk => (XS.iconst X0.here hx rfl (hb hby at_0) zk)) ?_
  show own_Go p e below s _ _ _ (s₁.setTop (mkF m 1 #[iv p1, iv p2, iv p3, iv p4, iv p5, iv p6, .unset, .unset, .unset, .unset, .unset, .unset] [(.int (4 : Int32))]))
  obtain ⟨T1, h1, k1, X1, e1, E1, A1, Ea1, st1⟩ := newPE X0 hx hZ (hw _ (List.mem_of_getElem? (i := 0) rfl)) e0 (g := (mkF m 1 #[iv p1, iv p2, iv p3, iv p4, iv p5, iv p6, .unset, .unset, .unset, .unset, .unset, .unset] [(.int (4 : Int32))])) rfl (hb hby at_1) rfl (by decide) (cap := 4) (by decide) (by decide) (by decide) (by decide) (ad := "[B") (by decide)
  obtain ⟨b1, g1⟩ : ∃ z, z = h0.size := ⟨_, rfl⟩
  rw [← g1] at A1 Ea1 st1
  refine own_go st1 ?_
  have sz_b1 : h0.size ≤ b1 := Nat.le_trans Kp.1 (Nat.le_of_eq g1.symm)
  have g_b1 : n0 ≤ b1 := Nat.le_trans Z0 sz_b1
  replace Kp := Kp.ext E1
  have V_b1 : Arv Z h1 b1 k1 .byte (4 : Int32) [(.int (0 : Int32)), (.int (0 : Int32)), (.int (0 : Int32)), (.int (0 : Int32))] (.int (0 : Int32)) := (Arv.new A1 (by decide)).pad (pad_rep [] (.int (0 : Int32)) 4)
  have Ea_b1 := Ea1
  show own_Go p e below s _ _ _ (T1.setTop (mkF m 3 #[iv p1, iv p2, iv p3, iv p4, iv p5, iv p6, .unset, .unset, .unset, .unset, .unset, .unset] [(.ref b1)]))
  refine own_go (fun zt zk => (XS.dup X1.here hx rfl (hb hby at_3) rfl rfl (XS.iconst X1.here hx rfl (hb hby at_4) (XS.iloadN X1.here hx rfl (hb hby at_5) rfl (XS.i2b X1.here hx rfl (hb hby at_6) rfl zk))))) ?_
  show own_Go p e below s _ _ _ (T1.setTop (mkF m 7 #[iv p1, iv p2, iv p3, iv p4, iv p5, iv p6, .unset, .unset, .unset, .unset, .unset, .unset] [(.int (p1.toInt8.toInt32)), (.int (0 : Int32)), (.ref b1), (.ref b1)]))
  obtain ⟨cl2, Ar2, q2, Sz2, Nz2, Ha2, Ga2⟩ := id V_b1
  have hin2 : ¬ ((0 : Int32) < 0 ∨ cl2.slots.size ≤ ((0 : Int32)).toNatClampNeg) := inb_of Sz2 ⟨by decide, by decide⟩
  obtain ⟨T3, h3, X3, e3, W3, st3⟩ := stB X1 hx hZ e1 Ar2 (j := (0 : Int32)) hin2 (g := (mkF m 7 #[iv p1, iv p2, iv p3, iv p4, iv p5, iv p6, .unset, .unset, .unset, .unset, .unset, .unset] [(.int (p1.toInt8.toInt32)), (.int (0 : Int32)), (.ref b1), (.ref b1)])) rfl rfl (hb hby at_7)
  refine own_go st3 ?_
  rw [show nar .byte (p1.toInt8.toInt32) = (p1.toInt8.toInt32) from own_b8 _] at W3
  have V3 := Arv.set Ar2 q2 Sz2 Nz2 Ha2 Ga2 (fits_nar_byte _) W3 0 rfl (Nat.le_of_ble_eq_true rfl)
  have N3 := Fr.snoc X3 N0 g_b1
  replace Kp := Kp.wr W3 (Or.inr sz_b1)
  replace Ea_b1 := Ea_b1.wr W3
  replace V_b1 : Arv Z h3 b1 k1 .byte (4 : Int32) [(.int (p1.toInt8.toInt32)), (.int (0 : Int32)), (.int (0 : Int32)), (.int (0 : Int32))] (.int (0 : Int32)) := V3
  show own_Go p e below s _ _ _ (T3.setTop (mkF m 8 #[iv p1, iv p2, iv p3, iv p4, iv p5, iv p6, .unset, .unset, .unset, .unset, .unset, .unset] [(.ref b1)]))
  refine own_go (fun zt zk => (XS.dup X3.here hx rfl (hb hby at_8) rfl rfl (XS.iconst X3.here hx rfl (hb hby at_9) (XS.iloadN X3.here hx rfl (hb hby at_10) rfl (XS.i2b X3.here hx rfl (hb hby at_11) rfl zk))))) ?_
  show own_Go p e below s _ _ _ (T3.setTop (mkF m 12 #[iv p1, iv p2, iv p3, iv p4, iv p5, iv p6, .unset, .unset, .unset, .unset, .unset, .unset] [(.int (p2.toInt8.toInt32)), (.int (1 : Int32)), (.ref b1), (.ref b1)]))
  obtain ⟨cl4, Ar4, q4, Sz4, Nz4, Ha4, Ga4⟩ := id V_b1
  have hin4 : ¬ ((1 : Int32) < 0 ∨ cl4.slots.size ≤ ((1 : Int32)).toNatClampNeg) := inb_of Sz4 ⟨by decide, by decide⟩
  obtain ⟨T5, h5, X5, e5, W5, st5⟩ := stB X3 hx hZ e3 Ar4 (j := (1 : Int32)) hin4 (g := (mkF m 12 #[iv p1, iv p2, iv p3, iv p4, iv p5, iv p6, .unset, .unset, .unset, .unset, .unset, .unset] [(.int (p2.toInt8.toInt32)), (.int (1 : Int32)), (.ref b1), (.ref b1)])) rfl rfl (hb hby at_12)
  refine own_go st5 ?_
  rw [show nar .byte (p2.toInt8.toInt32) = (p2.toInt8.toInt32) from own_b8 _] at W5
  have V5 := Arv.set Ar4 q4 Sz4 Nz4 Ha4 Ga4 (fits_nar_byte _) W5 1 rfl (Nat.le_of_ble_eq_true rfl)
  have N5 := Fr.snoc X5 N3 g_b1
  replace Kp := Kp.wr W5 (Or.inr sz_b1)
  replace Ea_b1 := Ea_b1.wr W5
  replace V_b1 : Arv Z h5 b1 k1 .byte (4 : Int32) [(.int (p1.toInt8.toInt32)), (.int (p2.toInt8.toInt32)), (.int (0 : Int32)), (.int (0 : Int32))] (.int (0 : Int32)) := V5
  show own_Go p e below s _ _ _ (T5.setTop (mkF m 13 #[iv p1, iv p2, iv p3, iv p4, iv p5, iv p6, .unset, .unset, .unset, .unset, .unset, .unset] [(.ref b1)]))
  refine own_go (fun zt zk => (XS.dup X5.here hx rfl (hb hby at_13) rfl rfl (XS.iconst X5.here hx rfl (hb hby at_14) (XS.iloadN X5.here hx rfl (hb hby at_15) rfl (XS.i2b X5.here hx rfl (hb hby at_16) rfl zk))))) ?_
  show own_Go p e below s _ _ _ (T5.setTop (mkF m 17 #[iv p1, iv p2, iv p3, iv p4, iv p5, iv p6, .unset, .unset, .unset, .unset, .unset, .unset] [(.int (p3.toInt8.toInt32)), (.int (2 : Int32)), (.ref b1), (.ref b1)]))
  obtain ⟨cl6, Ar6, q6, Sz6, Nz6, Ha6, Ga6⟩ := id V_b1
  have hin6 : ¬ ((2 : Int32) < 0 ∨ cl6.slots.size ≤ ((2 : Int32)).toNatClampNeg) := inb_of Sz6 ⟨by decide, by decide⟩
  obtain ⟨T7, h7, X7, e7, W7, st7⟩ := stB X5 hx hZ e5 Ar6 (j := (2 : Int32)) hin6 (g := (mkF m 17 #[iv p1, iv p2, iv p3, iv p4, iv p5, iv p6, .unset, .unset, .unset, .unset, .unset, .unset] [(.int (p3.toInt8.toInt32)), (.int (2 : Int32)), (.ref b1), (.ref b1)])) rfl rfl (hb hby at_17)
  refine own_go st7 ?_
  rw [show nar .byte (p3.toInt8.toInt32) = (p3.toInt8.toInt32) from own_b8 _] at W7
  have V7 := Arv.set Ar6 q6 Sz6 Nz6 Ha6 Ga6 (fits_nar_byte _) W7 2 rfl (Nat.le_of_ble_eq_true rfl)
  have N7 := Fr.snoc X7 N5 g_b1
  replace Kp := Kp.wr W7 (Or.inr sz_b1)
  replace Ea_b1 := Ea_b1.wr W7
  replace V_b1 : Arv Z h7 b1 k1 .byte (4 : Int32) [(.int (p1.toInt8.toInt32)), (.int (p2.toInt8.toInt32)), (.int (p3.toInt8.toInt32)), (.int (0 : Int32))] (.int (0 : Int32)) := V7
  show own_Go p e below s _ _ _ (T7.setTop (mkF m 18 #[iv p1, iv p2, iv p3, iv p4, iv p5, iv p6, .unset, .unset, .unset, .unset, .unset, .unset] [(.ref b1)]))
  refine own_go (fun zt zk => (XS.dup X7.here hx rfl (hb hby at_18) rfl rfl (XS.iconst X7.here hx rfl (hb hby at_19) (XS.iloadN X7.here hx rfl (hb hby at_20) rfl (XS.i2b X7.here hx rfl (hb hby at_21) rfl zk))))) ?_
  show own_Go p e below s _ _ _ (T7.setTop (mkF m 22 #[iv p1, iv p2, iv p3, iv p4, iv p5, iv p6, .unset, .unset, .unset, .unset, .unset, .unset] [(.int (p4.toInt8.toInt32)), (.int (3 : Int32)), (.ref b1), (.ref b1)]))
  obtain ⟨cl8, Ar8, q8, Sz8, Nz8, Ha8, Ga8⟩ := id V_b1
  have hin8 : ¬ ((3 : Int32) < 0 ∨ cl8.slots.size ≤ ((3 : Int32)).toNatClampNeg) := inb_of Sz8 ⟨by decide, by decide⟩
  obtain ⟨T9, h9, X9, e9, W9, st9⟩ := stB X7 hx hZ e7 Ar8 (j := (3 : Int32)) hin8 (g := (mkF m 22 #[iv p1, iv p2, iv p3, iv p4, iv p5, iv p6, .unset, .unset, .unset, .unset, .unset, .unset] [(.int (p4.toInt8.toInt32)), (.int (3 : Int32)), (.ref b1), (.ref b1)])) rfl rfl (hb hby at_22)
  refine own_go st9 ?_
  rw [show nar .byte (p4.toInt8.toInt32) = (p4.toInt8.toInt32) from own_b8 _] at W9
  have V9 := Arv.set Ar8 q8 Sz8 Nz8 Ha8 Ga8 (fits_nar_byte _) W9 3 rfl (Nat.le_of_ble_eq_true rfl)
  have N9 := Fr.snoc X9 N7 g_b1
  replace Kp := Kp.wr W9 (Or.inr sz_b1)
  replace Ea_b1 := Ea_b1.wr W9
  replace V_b1 : Arv Z h9 b1 k1 .byte (4 : Int32) [(.int (p1.toInt8.toInt32)), (.int (p2.toInt8.toInt32)), (.int (p3.toInt8.toInt32)), (.int (p4.toInt8.toInt32))] (.int (0 : Int32)) := V9
  show own_Go p e below s _ _ _ (T9.setTop (mkF m 23 #[iv p1, iv p2, iv p3, iv p4, iv p5, iv p6, .unset, .unset, .unset, .unset, .unset, .unset] [(.ref b1)]))
  refine own_go (fun zt zk => (XS.astore X9.here hx rfl (hb hby at_23) rfl rfl (l' := #[iv p1, iv p2, iv p3, iv p4, iv p5, iv p6, rv b1, .unset, .unset, .unset, .unset, .unset]) rfl (XS.iload X9.here hx rfl (hb hby at_25) rfl (X9.ldcI hx hown (mvT hZ (hw _ (List.mem_of_getElem? (i := 1) rfl))) (g := (mkF m 27 #[iv p1, iv p2, iv p3, iv p4, iv p5, iv p6, rv b1, .unset, .unset, .unset, .unset, .unset] [(.int p5)])) rfl (hb hby at_27) (XS.iand X9.here hx rfl (hb hby at_29) rfl (XS.iconst X9.here hx rfl (hb hby at_30) (iremM X9 hx rfl (hb hby at_31) rfl (by decide) (XS.istore X9.here hx rfl (hb hby at_32) rfl (l' := #[iv p1, iv p2, iv p3, iv p4, iv p5, iv p6, rv b1, iv ((p5 &&& (2147483647 : Int32)) % (5 : Int32)), .unset, .unset, .unset, .unset]) rfl zk)))))))) ?_
  show own_Go p e below s _ _ _ (T9.setTop (mkF m 34 #[iv p1, iv p2, iv p3, iv p4, iv p5, iv p6, rv b1, iv ((p5 &&& (2147483647 : Int32)) % (5 : Int32)), .unset, .unset, .unset, .unset] []))
  generalize hv_st : ((p5 &&& (2147483647 : Int32)) % (5 : Int32)) = st
  show own_Go p e below s _ _ _ (T9.setTop (mkF m 34 #[iv p1, iv p2, iv p3, iv p4, iv p5, iv p6, rv b1, iv st, .unset, .unset, .unset, .unset] []))
  by_cases hk0_st : st = (0 : Int32)
  · subst hk0_st
    show own_Go p e below s _ _ _ (T9.setTop (mkF m 34 #[iv p1, iv p2, iv p3, iv p4, iv p5, iv p6, rv b1, iv (0 : Int32), .unset, .unset, .unset, .unset] []))
    refine own_go (fun zt zk => (XS.iload X9.here hx rfl (hb hby at_34) rfl (XS.iload X9.here hx rfl (hb hby at_36) rfl (X9.ldcI hx hown (mvT hZ (hw _ (List.mem_of_getElem? (i := 1) rfl))) (g := (mkF m 38 #[iv p1, iv p2, iv p3, iv p4, iv p5, iv p6, rv b1, iv (0 : Int32), .unset, .unset, .unset, .unset] [(.int p6), (.int (0 : Int32))])) rfl (hb hby at_38) (XS.iand X9.here hx rfl (hb hby at_40) rfl (XS.iconst X9.here hx rfl (hb hby at_41) (XS.iload X9.here hx rfl (hb hby at_42) rfl (XS.isub X9.here hx rfl (hb hby at_44) rfl (iremM X9 hx rfl (hb hby at_45) rfl (by decide) zk))))))))) ?_
    show own_Go p e below s _ _ _ (T9.setTop (mkF m 46 #[iv p1, iv p2, iv p3, iv p4, iv p5, iv p6, rv b1, iv (0 : Int32), .unset, .unset, .unset, .unset] [(.int ((p6 &&& (2147483647 : Int32)) % (5 : Int32))), (.int (0 : Int32))]))
    generalize hv_en : ((p6 &&& (2147483647 : Int32)) % (5 : Int32)) = en
    show own_Go p e below s _ _ _ (T9.setTop (mkF m 46 #[iv p1, iv p2, iv p3, iv p4, iv p5, iv p6, rv b1, iv (0 : Int32), .unset, .unset, .unset, .unset] [(.int en), (.int (0 : Int32))]))
    by_cases hk0_en : en = (0 : Int32)
    · subst hk0_en
      show own_Go p e below s _ _ _ (T9.setTop (mkF m 46 #[iv p1, iv p2, iv p3, iv p4, iv p5, iv p6, rv b1, iv (0 : Int32), .unset, .unset, .unset, .unset] [(.int (0 : Int32)), (.int (0 : Int32))]))
      refine own_go (fun zt zk => (XS.iadd X9.here hx rfl (hb hby at_46) rfl (XS.istore X9.here hx rfl (hb hby at_47) rfl (l' := #[iv p1, iv p2, iv p3, iv p4, iv p5, iv p6, rv b1, iv (0 : Int32), iv (0 : Int32), .unset, .unset, .unset]) rfl zk))) ?_
      show own_Go p e below s _ _ _ (T9.setTop (mkF m 49 #[iv p1, iv p2, iv p3, iv p4, iv p5, iv p6, rv b1, iv (0 : Int32), iv (0 : Int32), .unset, .unset, .unset] []))
      obtain ⟨T10, h10, X10, e10, E10, A10, D10, -, st10⟩ := newO X9 hx hZ hown (hw _ (List.mem_of_getElem? (i := 2) rfl)) (hw _ (List.mem_of_getElem? (i := 3) rfl)) (hw _ (List.mem_of_getElem? (i := 4) rfl)) e9 (g := (mkF m 49 #[iv p1, iv p2, iv p3, iv p4, iv p5, iv p6, rv b1, iv (0 : Int32), iv (0 : Int32), .unset, .unset, .unset] [])) rfl (hb hby at_49) (by decide) (by decide)
      obtain ⟨b10, g10⟩ : ∃ z, z = h9.size := ⟨_, rfl⟩
      rw [← g10] at A10 D10 st10
      refine own_go st10 ?_
      have ne_b1_b10 : b1 ≠ b10 := Nat.ne_of_lt (Nat.lt_of_lt_of_le V_b1.lt (Nat.le_of_eq g10.symm))
      have sz_b10 : h0.size ≤ b10 := Nat.le_trans Kp.1 (Nat.le_of_eq g10.symm)
      have g_b10 : n0 ≤ b10 := Nat.le_trans Z0 sz_b10
      replace Kp := Kp.ext E10
      replace V_b1 := V_b1.ext E10
      replace Ea_b1 := Ea_b1.ext E10
      have Ex_b10 := A10
      have F_start_b10 : Fld Z h10 b10 "com/example/tranche/tranche/model/Span" "start" "I" (.int (0 : Int32)) := D10 (Or.inr (hw _ (List.mem_of_getElem? (i := 17) rfl))) (ty := .int) (by decide)
      have F_end_b10 : Fld Z h10 b10 "com/example/tranche/tranche/model/Span" "end" "I" (.int (0 : Int32)) := D10 (Or.inr (hw _ (List.mem_of_getElem? (i := 19) rfl))) (ty := .int) (by decide)
      show own_Go p e below s _ _ _ (T10.setTop (mkF m 52 #[iv p1, iv p2, iv p3, iv p4, iv p5, iv p6, rv b1, iv (0 : Int32), iv (0 : Int32), .unset, .unset, .unset] [(.ref b10)]))
      refine own_go (fun zt zk => (XS.dup X10.here hx rfl (hb hby at_52) rfl rfl (XS.iload X10.here hx rfl (hb hby at_53) rfl (XS.iload X10.here hx rfl (hb hby at_55) rfl zk)))) ?_
      show own_Go p e below s _ _ _ (T10.setTop (mkF m 57 #[iv p1, iv p2, iv p3, iv p4, iv p5, iv p6, rv b1, iv (0 : Int32), iv (0 : Int32), .unset, .unset, .unset] [(.int (0 : Int32)), (.int (0 : Int32)), (.ref b10), (.ref b10)]))
      obtain ⟨_, _, ⟨T11, L11, k11, n11⟩, -, X11, ⟨Lc11, hQ11, l11, y11, z11⟩, st11⟩ := X10.specialBack hx (y := (⟨"com/example/tranche/tranche/model/Span", "<init>", "(II)V"⟩ : MethodName)) rfl hown (mvT hZ (hw _ (List.mem_of_getElem? (i := 5) rfl))) (mvT hZ (hw _ (List.mem_of_getElem? (i := 6) rfl))) (mvT hZ (hw _ (List.mem_of_getElem? (i := 7) rfl))) (by decide) (backOf (W := 1) (own_rspan l Z a0 hw [] b10 (0 : Int32) (0 : Int32)  h10 n0 (Nat.le_trans Z0 Kp.1) Ex_b10 F_start_b10 F_end_b10 g_b10 (by decide) (by decide)) hZ (hw _ (List.mem_of_getElem? (i := 7) rfl)) (hw _ (List.mem_of_getElem? (i := 4) rfl)) (by decide) (by decide)) (g := (mkF m 57 #[iv p1, iv p2, iv p3, iv p4, iv p5, iv p6, rv b1, iv (0 : Int32), iv (0 : Int32), .unset, .unset, .unset] [(.int (0 : Int32)), (.int (0 : Int32)), (.ref b10), (.ref b10)])) rfl (by rw [hml]; rfl) (Steps.refl _) (a := b10) (argsL := [(.int (0 : Int32)), (.int (0 : Int32))]) (rest := [(.ref b10)]) (lenOf own_pd__II_V rfl) rfl (by show 2 * 0 + _ ≤ _; exact Nat.le_of_eq rfl) (hb hby at_57) (fun _ _ => ⟨rfl, e10, (by decide : 2 + 0 ≤ _), (by decide : 6 + 0 ≤ _)⟩)
      dsimp only [Pt.U, Pt.locs, Pt.cells, Pt.slots] at X11 l11 y11 z11 st11 hQ11
      subst l11 y11 z11
      obtain ⟨rfl, Nq11, K11, -, F_start_b10, F_end_b10⟩ := hQ11
      have N11 := Fr.app N9 Nq11
      refine own_go (fun zt zk => st11.trans zk) ?_
      replace Kp := Kp.trans K11 (allS (Or.inr sz_b10) all0)
      replace V_b1 := V_b1.keep K11 (ninS ne_b1_b10 nin0)
      replace Ea_b1 := Ea_b1.keep K11
      replace Ex_b10 := Ex_b10.keep K11
      show own_Go p e below s _ _ _ (T11.setTop (mkF m 60 #[iv p1, iv p2, iv p3, iv p4, iv p5, iv p6, rv b1, iv (0 : Int32), iv (0 : Int32), .unset, .unset, .unset] [(.ref b10)]))
      refine own_go (fun zt zk => (XS.astore X11.here hx rfl (hb hby at_60) rfl rfl (l' := #[iv p1, iv p2, iv p3, iv p4, iv p5, iv p6, rv b1, iv (0 : Int32), iv (0 : Int32), rv b10, .unset, .unset]) rfl (XS.aload X11.here hx rfl (hb hby at_62) rfl rfl (XS.aload X11.here hx rfl (hb hby at_64) rfl rfl zk)))) ?_
      show own_Go p e below s _ _ _ (T11.setTop (mkF m 66 #[iv p1, iv p2, iv p3, iv p4, iv p5, iv p6, rv b1, iv (0 : Int32), iv (0 : Int32), rv b10, .unset, .unset] [(.ref b1), (.ref b10)]))
      obtain ⟨cq12, kq12, qa12, qb12, qc12⟩ := isOf hZ rfl Ex_b10
      obtain ⟨_, _, ⟨T12, L12, k12, n12⟩, -, X12, ⟨Lc12, hQ12, l12, y12, z12⟩, st12⟩ := X11.virtualBack hx (y := (⟨"com/example/tranche/tranche/model/Span", "bytesIn", "([B)[B"⟩ : MethodName)) (z := (⟨"com/example/tranche/tranche/model/Span", "bytesIn", "([B)[B"⟩ : MethodName)) hown (mvT hZ (hw _ (List.mem_of_getElem? (i := 20) rfl))) (mvT hZ (hw _ (List.mem_of_getElem? (i := 21) rfl))) (notFace_of_selects (args := #[]) (mvT hZ (hw _ (List.mem_of_getElem? (i := 23) rfl)))) (mvT hZ (hw _ (List.mem_of_getElem? (i := 23) rfl))) (mvT hZ (hw _ (List.mem_of_getElem? (i := 22) rfl))) (by decide) (backOf (W := 0) (own_rbi00 l Z a0 hw [] b10 b1 k1 (.int (p1.toInt8.toInt32)) (.int (p2.toInt8.toInt32)) (.int (p3.toInt8.toInt32)) (.int (p4.toInt8.toInt32)) T11.heap n0 (Nat.le_trans Z0 Kp.1) V_b1 Ea_b1 F_start_b10 F_end_b10) hZ (hw _ (List.mem_of_getElem? (i := 24) rfl)) (hw _ (List.mem_of_getElem? (i := 4) rfl)) (by decide) (by decide)) qa12 qc12 (g := (mkF m 66 #[iv p1, iv p2, iv p3, iv p4, iv p5, iv p6, rv b1, iv (0 : Int32), iv (0 : Int32), rv b10, .unset, .unset] [(.ref b1), (.ref b10)])) rfl (by rw [hml]; rfl) (Steps.refl _) (argsL := [(.ref b1)]) (rest := []) (lenOf own_pd___B__B rfl) rfl (by show 2 * 0 + _ ≤ _; exact Nat.le_of_eq rfl) (hb hby at_66) (fun _ _ => ⟨rfl, rfl, (by decide : 2 + 1 ≤ _), (by decide : 6 + 0 ≤ _)⟩)
      dsimp only [Pt.U, Pt.locs, Pt.cells, Pt.slots] at X12 l12 y12 z12 st12 hQ12
      subst l12 y12 z12
      obtain ⟨r12, kr12, rfl, Nq12, K12, sr12, Ea_r12, V_r12⟩ := hQ12
      have sz_r12 := Nat.le_trans Kp.1 sr12
      have g_r12 := Nat.le_trans Z0 sz_r12
      have ne_b1_r12 : b1 ≠ r12 := Nat.ne_of_lt (Nat.lt_of_lt_of_le V_b1.lt sr12)
      have ne_b10_r12 : b10 ≠ r12 := Nat.ne_of_lt (Nat.lt_of_lt_of_le Ex_b10.lt sr12)
      have N12 := Fr.app N11 Nq12
      refine own_go (fun zt zk => st12.trans zk) ?_
      replace Kp := Kp.trans K12 all0
      replace V_b1 := V_b1.keep K12 nin0
      replace Ea_b1 := Ea_b1.keep K12
      replace Ex_b10 := Ex_b10.keep K12
      replace F_start_b10 := F_start_b10.keep K12 nin0
      replace F_end_b10 := F_end_b10.keep K12 nin0
      show own_Go p e below s _ _ _ (T12.setTop (mkF m 69 #[iv p1, iv p2, iv p3, iv p4, iv p5, iv p6, rv b1, iv (0 : Int32), iv (0 : Int32), rv b10, .unset, .unset] [(.ref r12)]))
      refine own_go (fun zt zk => (XS.astore X12.here hx rfl (hb hby at_69) rfl rfl (l' := #[iv p1, iv p2, iv p3, iv p4, iv p5, iv p6, rv b1, iv (0 : Int32), iv (0 : Int32), rv b10, rv r12, .unset]) rfl (XS.aload X12.here hx rfl (hb hby at_71) rfl rfl (XS.ifnonnullYes X12.here hx rfl (pc0 := 73) (pc' := 78) rfl (hb hby at_73) rfl (by decide) (by decide) (XS.aload X12.here hx rfl (hb hby at_78) rfl rfl zk))))) ?_
      show own_Go p e below s _ _ _ (T12.setTop (mkF m 80 #[iv p1, iv p2, iv p3, iv p4, iv p5, iv p6, rv b1, iv (0 : Int32), iv (0 : Int32), rv b10, rv r12, .unset] [(.ref r12)]))
      obtain ⟨cl13, Ar13, -, Sz13, Nz13, -, -⟩ := id V_r12
      refine own_go (X12.arraylength hx (by exact Ar13.1) (State.isArrayOf_alike hZ.alike Ar13.2.1) (g := (mkF m 80 #[iv p1, iv p2, iv p3, iv p4, iv p5, iv p6, rv b1, iv (0 : Int32), iv (0 : Int32), rv b10, rv r12, .unset] [(.ref r12)])) rfl rfl (hb hby at_80)) ?_
      rw [len_of Sz13 Nz13]
      show own_Go p e below s _ _ _ (T12.setTop (mkF m 81 #[iv p1, iv p2, iv p3, iv p4, iv p5, iv p6, rv b1, iv (0 : Int32), iv (0 : Int32), rv b10, rv r12, .unset] [(.int (0 : Int32))]))
      refine own_go (fun zt zk => (XS.iload X12.here hx rfl (hb hby at_81) rfl (XS.iload X12.here hx rfl (hb hby at_83) rfl (XS.isub X12.here hx rfl (hb hby at_85) rfl (XS.icmpYes X12.here hx rfl (pc0 := 86) (pc' := 91) rfl (hb hby at_86) rfl (teq (rfl : (0 : Int32) = (0 : Int32))).1 (by decide) (by decide) (XS.iconst X12.here hx rfl (hb hby at_91) (XS.istore X12.here hx rfl (hb hby at_92) rfl (l' := #[iv p1, iv p2, iv p3, iv p4, iv p5, iv p6, rv b1, iv (0 : Int32), iv (0 : Int32), rv b10, rv r12, iv (1 : Int32)]) rfl (XS.aload X12.here hx rfl (hb hby at_94) rfl rfl zk)))))))) ?_
      show own_Go p e below s _ _ _ (T12.setTop (mkF m 96 #[iv p1, iv p2, iv p3, iv p4, iv p5, iv p6, rv b1, iv (0 : Int32), iv (0 : Int32), rv b10, rv r12, iv (1 : Int32)] [(.ref r12)]))
      obtain ⟨cl14, Ar14, -, Sz14, Nz14, -, -⟩ := id V_r12
      refine own_go (X12.arraylength hx (by exact Ar14.1) (State.isArrayOf_alike hZ.alike Ar14.2.1) (g := (mkF m 96 #[iv p1, iv p2, iv p3, iv p4, iv p5, iv p6, rv b1, iv (0 : Int32), iv (0 : Int32), rv b10, rv r12, iv (1 : Int32)] [(.ref r12)])) rfl rfl (hb hby at_96)) ?_
      rw [len_of Sz14 Nz14]
      show own_Go p e below s _ _ _ (T12.setTop (mkF m 97 #[iv p1, iv p2, iv p3, iv p4, iv p5, iv p6, rv b1, iv (0 : Int32), iv (0 : Int32), rv b10, rv r12, iv (1 : Int32)] [(.int (0 : Int32))]))
      refine own_go (fun zt zk => (XS.ifYes X12.here hx rfl (pc0 := 97) (pc' := 128) rfl (hb hby at_97) rfl ((if0 _ _).trans (flt ((own_irr _) : ¬ ((0 : Int32) < (0 : Int32)))).2.2.2) (by decide) (by decide) (XS.aload X12.here hx rfl (hb hby at_128) rfl rfl zk))) ?_
      show own_Go p e below s _ _ _ (T12.setTop (mkF m 130 #[iv p1, iv p2, iv p3, iv p4, iv p5, iv p6, rv b1, iv (0 : Int32), iv (0 : Int32), rv b10, rv r12, iv (1 : Int32)] [(.ref r12)]))
      obtain ⟨cl15, Ar15, -, Sz15, Nz15, -, -⟩ := id V_r12
      refine own_go (X12.arraylength hx (by exact Ar15.1) (State.isArrayOf_alike hZ.alike Ar15.2.1) (g := (mkF m 130 #[iv p1, iv p2, iv p3, iv p4, iv p5, iv p6, rv b1, iv (0 : Int32), iv (0 : Int32), rv b10, rv r12, iv (1 : Int32)] [(.ref r12)])) rfl rfl (hb hby at_130)) ?_
      rw [len_of Sz15 Nz15]
      show own_Go p e below s _ _ _ (T12.setTop (mkF m 131 #[iv p1, iv p2, iv p3, iv p4, iv p5, iv p6, rv b1, iv (0 : Int32), iv (0 : Int32), rv b10, rv r12, iv (1 : Int32)] [(.int (0 : Int32))]))
      refine own_go (fun zt zk => (XS.iconst X12.here hx rfl (hb hby at_131) (XS.icmpYes X12.here hx rfl (pc0 := 132) (pc' := 165) rfl (hb hby at_132) rfl (flt ((by decide) : ¬ ((1 : Int32) < (0 : Int32)))).2.2.2 (by decide) (by decide) (XS.aload X12.here hx rfl (hb hby at_165) rfl rfl zk)))) ?_
      show own_Go p e below s _ _ _ (T12.setTop (mkF m 167 #[iv p1, iv p2, iv p3, iv p4, iv p5, iv p6, rv b1, iv (0 : Int32), iv (0 : Int32), rv b10, rv r12, iv (1 : Int32)] [(.ref r12)]))
      obtain ⟨cl16, Ar16, -, Sz16, Nz16, -, -⟩ := id V_r12
      refine own_go (X12.arraylength hx (by exact Ar16.1) (State.isArrayOf_alike hZ.alike Ar16.2.1) (g := (mkF m 167 #[iv p1, iv p2, iv p3, iv p4, iv p5, iv p6, rv b1, iv (0 : Int32), iv (0 : Int32), rv b10, rv r12, iv (1 : Int32)] [(.ref r12)])) rfl rfl (hb hby at_167)) ?_
      rw [len_of Sz16 Nz16]
      show own_Go p e below s _ _ _ (T12.setTop (mkF m 168 #[iv p1, iv p2, iv p3, iv p4, iv p5, iv p6, rv b1, iv (0 : Int32), iv (0 : Int32), rv b10, rv r12, iv (1 : Int32)] [(.int (0 : Int32))]))
      refine own_go (fun zt zk => (XS.iconst X12.here hx rfl (hb hby at_168) (XS.icmpYes X12.here hx rfl (pc0 := 169) (pc' := 202) rfl (hb hby at_169) rfl (flt ((by decide) : ¬ ((2 : Int32) < (0 : Int32)))).2.2.2 (by decide) (by decide) (XS.aload X12.here hx rfl (hb hby at_202) rfl rfl zk)))) ?_
      show own_Go p e below s _ _ _ (T12.setTop (mkF m 204 #[iv p1, iv p2, iv p3, iv p4, iv p5, iv p6, rv b1, iv (0 : Int32), iv (0 : Int32), rv b10, rv r12, iv (1 : Int32)] [(.ref r12)]))
      obtain ⟨cl17, Ar17, -, Sz17, Nz17, -, -⟩ := id V_r12
      refine own_go (X12.arraylength hx (by exact Ar17.1) (State.isArrayOf_alike hZ.alike Ar17.2.1) (g := (mkF m 204 #[iv p1, iv p2, iv p3, iv p4, iv p5, iv p6, rv b1, iv (0 : Int32), iv (0 : Int32), rv b10, rv r12, iv (1 : Int32)] [(.ref r12)])) rfl rfl (hb hby at_204)) ?_
      rw [len_of Sz17 Nz17]
      show own_Go p e below s _ _ _ (T12.setTop (mkF m 205 #[iv p1, iv p2, iv p3, iv p4, iv p5, iv p6, rv b1, iv (0 : Int32), iv (0 : Int32), rv b10, rv r12, iv (1 : Int32)] [(.int (0 : Int32))]))
      refine own_go (fun zt zk => (XS.iconst X12.here hx rfl (hb hby at_205) (XS.icmpYes X12.here hx rfl (pc0 := 206) (pc' := 239) rfl (hb hby at_206) rfl (flt ((by decide) : ¬ ((3 : Int32) < (0 : Int32)))).2.2.2 (by decide) (by decide) (XS.iload X12.here hx rfl (hb hby at_239) rfl (XS.ifNo X12.here hx rfl (hb hby at_241) rfl ((if0 _ _).trans (feq ((by decide) : ¬ ((1 : Int32) = (0 : Int32)))).1) (XS.aload X12.here hx rfl (hb hby at_244) rfl rfl (XS.iconst X12.here hx rfl (hb hby at_246) zk))))))) ?_
      show own_Go p e below s _ _ _ (T12.setTop (mkF m 247 #[iv p1, iv p2, iv p3, iv p4, iv p5, iv p6, rv b1, iv (0 : Int32), iv (0 : Int32), rv b10, rv r12, iv (1 : Int32)] [(.int (0 : Int32)), (.ref b1)]))
      obtain ⟨cl18, Ar18, q18, Sz18, Nz18, Ha18, Ga18⟩ := id V_b1
      have hin18 : ¬ ((0 : Int32) < 0 ∨ cl18.slots.size ≤ ((0 : Int32)).toNatClampNeg) := inb_of Sz18 ⟨by decide, by decide⟩
      have hat18 : cl18.slots[((0 : Int32)).toNatClampNeg]? = some (.int (p1.toInt8.toInt32)) := Has.at Ha18 hin18 rfl
      refine own_go (X12.baloadBytes hx (j := (0 : Int32)) (v := (.int (p1.toInt8.toInt32))) (by exact Ar18.1) (State.isArrayOf_alike hZ.alike Ar18.2.1) Ar18.2.2 hin18 hat18 (g := (mkF m 247 #[iv p1, iv p2, iv p3, iv p4, iv p5, iv p6, rv b1, iv (0 : Int32), iv (0 : Int32), rv b10, rv r12, iv (1 : Int32)] [(.int (0 : Int32)), (.ref b1)])) rfl rfl (hb hby at_247)) ?_
      show own_Go p e below s _ _ _ (T12.setTop (mkF m 248 #[iv p1, iv p2, iv p3, iv p4, iv p5, iv p6, rv b1, iv (0 : Int32), iv (0 : Int32), rv b10, rv r12, iv (1 : Int32)] [(.int (p1.toInt8.toInt32))]))
      refine own_go (fun zt zk => (XS.iloadN X12.here hx rfl (hb hby at_248) rfl (XS.i2b X12.here hx rfl (hb hby at_249) rfl (XS.icmpNo X12.here hx rfl (hb hby at_250) rfl (teq (rfl : (p1.toInt8.toInt32) = (p1.toInt8.toInt32))).2 (XS.aload X12.here hx rfl (hb hby at_253) rfl rfl (XS.iconst X12.here hx rfl (hb hby at_255) zk)))))) ?_
      show own_Go p e below s _ _ _ (T12.setTop (mkF m 256 #[iv p1, iv p2, iv p3, iv p4, iv p5, iv p6, rv b1, iv (0 : Int32), iv (0 : Int32), rv b10, rv r12, iv (1 : Int32)] [(.int (1 : Int32)), (.ref b1)]))
      obtain ⟨cl19, Ar19, q19, Sz19, Nz19, Ha19, Ga19⟩ := id V_b1
      have hin19 : ¬ ((1 : Int32) < 0 ∨ cl19.slots.size ≤ ((1 : Int32)).toNatClampNeg) := inb_of Sz19 ⟨by decide, by decide⟩
      have hat19 : cl19.slots[((1 : Int32)).toNatClampNeg]? = some (.int (p2.toInt8.toInt32)) := Has.at Ha19 hin19 rfl
      refine own_go (X12.baloadBytes hx (j := (1 : Int32)) (v := (.int (p2.toInt8.toInt32))) (by exact Ar19.1) (State.isArrayOf_alike hZ.alike Ar19.2.1) Ar19.2.2 hin19 hat19 (g := (mkF m 256 #[iv p1, iv p2, iv p3, iv p4, iv p5, iv p6, rv b1, iv (0 : Int32), iv (0 : Int32), rv b10, rv r12, iv (1 : Int32)] [(.int (1 : Int32)), (.ref b1)])) rfl rfl (hb hby at_256)) ?_
      show own_Go p e below s _ _ _ (T12.setTop (mkF m 257 #[iv p1, iv p2, iv p3, iv p4, iv p5, iv p6, rv b1, iv (0 : Int32), iv (0 : Int32), rv b10, rv r12, iv (1 : Int32)] [(.int (p2.toInt8.toInt32))]))
      refine own_go (fun zt zk => (XS.iloadN X12.here hx rfl (hb hby at_257) rfl (XS.i2b X12.here hx rfl (hb hby at_258) rfl (XS.icmpNo X12.here hx rfl (hb hby at_259) rfl (teq (rfl : (p2.toInt8.toInt32) = (p2.toInt8.toInt32))).2 (XS.aload X12.here hx rfl (hb hby at_262) rfl rfl (XS.iconst X12.here hx rfl (hb hby at_264) zk)))))) ?_
      show own_Go p e below s _ _ _ (T12.setTop (mkF m 265 #[iv p1, iv p2, iv p3, iv p4, iv p5, iv p6, rv b1, iv (0 : Int32), iv (0 : Int32), rv b10, rv r12, iv (1 : Int32)] [(.int (2 : Int32)), (.ref b1)]))
      obtain ⟨cl20, Ar20, q20, Sz20, Nz20, Ha20, Ga20⟩ := id V_b1
      have hin20 : ¬ ((2 : Int32) < 0 ∨ cl20.slots.size ≤ ((2 : Int32)).toNatClampNeg) := inb_of Sz20 ⟨by decide, by decide⟩
      have hat20 : cl20.slots[((2 : Int32)).toNatClampNeg]? = some (.int (p3.toInt8.toInt32)) := Has.at Ha20 hin20 rfl
      refine own_go (X12.baloadBytes hx (j := (2 : Int32)) (v := (.int (p3.toInt8.toInt32))) (by exact Ar20.1) (State.isArrayOf_alike hZ.alike Ar20.2.1) Ar20.2.2 hin20 hat20 (g := (mkF m 265 #[iv p1, iv p2, iv p3, iv p4, iv p5, iv p6, rv b1, iv (0 : Int32), iv (0 : Int32), rv b10, rv r12, iv (1 : Int32)] [(.int (2 : Int32)), (.ref b1)])) rfl rfl (hb hby at_265)) ?_
      show own_Go p e below s _ _ _ (T12.setTop (mkF m 266 #[iv p1, iv p2, iv p3, iv p4, iv p5, iv p6, rv b1, iv (0 : Int32), iv (0 : Int32), rv b10, rv r12, iv (1 : Int32)] [(.int (p3.toInt8.toInt32))]))
      refine own_go (fun zt zk => (XS.iloadN X12.here hx rfl (hb hby at_266) rfl (XS.i2b X12.here hx rfl (hb hby at_267) rfl (XS.icmpNo X12.here hx rfl (hb hby at_268) rfl (teq (rfl : (p3.toInt8.toInt32) = (p3.toInt8.toInt32))).2 (XS.aload X12.here hx rfl (hb hby at_271) rfl rfl (XS.iconst X12.here hx rfl (hb hby at_273) zk)))))) ?_
      show own_Go p e below s _ _ _ (T12.setTop (mkF m 274 #[iv p1, iv p2, iv p3, iv p4, iv p5, iv p6, rv b1, iv (0 : Int32), iv (0 : Int32), rv b10, rv r12, iv (1 : Int32)] [(.int (3 : Int32)), (.ref b1)]))
      obtain ⟨cl21, Ar21, q21, Sz21, Nz21, Ha21, Ga21⟩ := id V_b1
      have hin21 : ¬ ((3 : Int32) < 0 ∨ cl21.slots.size ≤ ((3 : Int32)).toNatClampNeg) := inb_of Sz21 ⟨by decide, by decide⟩
      have hat21 : cl21.slots[((3 : Int32)).toNatClampNeg]? = some (.int (p4.toInt8.toInt32)) := Has.at Ha21 hin21 rfl
      refine own_go (X12.baloadBytes hx (j := (3 : Int32)) (v := (.int (p4.toInt8.toInt32))) (by exact Ar21.1) (State.isArrayOf_alike hZ.alike Ar21.2.1) Ar21.2.2 hin21 hat21 (g := (mkF m 274 #[iv p1, iv p2, iv p3, iv p4, iv p5, iv p6, rv b1, iv (0 : Int32), iv (0 : Int32), rv b10, rv r12, iv (1 : Int32)] [(.int (3 : Int32)), (.ref b1)])) rfl rfl (hb hby at_274)) ?_
      show own_Go p e below s _ _ _ (T12.setTop (mkF m 275 #[iv p1, iv p2, iv p3, iv p4, iv p5, iv p6, rv b1, iv (0 : Int32), iv (0 : Int32), rv b10, rv r12, iv (1 : Int32)] [(.int (p4.toInt8.toInt32))]))
      refine own_go (fun zt zk => (XS.iloadN X12.here hx rfl (hb hby at_275) rfl (XS.i2b X12.here hx rfl (hb hby at_276) rfl (XS.icmpNo X12.here hx rfl (hb hby at_277) rfl (teq (rfl : (p4.toInt8.toInt32) = (p4.toInt8.toInt32))).2 (XS.iconst X12.here hx rfl (hb hby at_280) (XS.goto X12.here hx rfl (pc0 := 281) (pc' := 285) rfl (hb hby at_281) (by decide) (by decide) (XS.istore X12.here hx rfl (hb hby at_285) rfl (l' := #[iv p1, iv p2, iv p3, iv p4, iv p5, iv p6, rv b1, iv (0 : Int32), iv (0 : Int32), rv b10, rv r12, iv (1 : Int32)]) rfl (XS.aload X12.here hx rfl (hb hby at_287) rfl rfl zk)))))))) ?_
      show own_Go p e below s _ _ _ (T12.setTop (mkF m 289 #[iv p1, iv p2, iv p3, iv p4, iv p5, iv p6, rv b1, iv (0 : Int32), iv (0 : Int32), rv b10, rv r12, iv (1 : Int32)] [(.ref r12)]))
      obtain ⟨cl22, Ar22, -, Sz22, Nz22, -, -⟩ := id V_r12
      refine own_go (X12.arraylength hx (by exact Ar22.1) (State.isArrayOf_alike hZ.alike Ar22.2.1) (g := (mkF m 289 #[iv p1, iv p2, iv p3, iv p4, iv p5, iv p6, rv b1, iv (0 : Int32), iv (0 : Int32), rv b10, rv r12, iv (1 : Int32)] [(.ref r12)])) rfl rfl (hb hby at_289)) ?_
      rw [len_of Sz22 Nz22]
      show own_Go p e below s _ _ _ (T12.setTop (mkF m 290 #[iv p1, iv p2, iv p3, iv p4, iv p5, iv p6, rv b1, iv (0 : Int32), iv (0 : Int32), rv b10, rv r12, iv (1 : Int32)] [(.int (0 : Int32))]))
      refine own_go (fun zt zk => (XS.ifYes X12.here hx rfl (pc0 := 290) (pc' := 333) rfl (hb hby at_290) rfl ((if0 _ _).trans (flt ((own_irr _) : ¬ ((0 : Int32) < (0 : Int32)))).2.2.2) (by decide) (by decide) (XS.iload X12.here hx rfl (hb hby at_333) rfl zk))) ?_
      show own_Go p e below s _ _ _ (T12.setTop (mkF m 335 #[iv p1, iv p2, iv p3, iv p4, iv p5, iv p6, rv b1, iv (0 : Int32), iv (0 : Int32), rv b10, rv r12, iv (1 : Int32)] [(.int (1 : Int32))]))
      exact own_fin X12 Bd.notSynchronized (fun h => by rw [Bd.returns] at h; cases h) (fun fs hr => retN X12 hx (t := .boolean) Bd.returns (by simp) (hb hby at_335) hr) ⟨rfl, N12⟩ (by decide) (by decide)
    · by_cases hk1_en : en = (1 : Int32)
      · subst hk1_en
        show own_Go p e below s _ _ _ (T9.setTop (mkF m 46 #[iv p1, iv p2, iv p3, iv p4, iv p5, iv p6, rv b1, iv (0 : Int32), .unset, .unset, .unset, .unset] [(.int (1 : Int32)), (.int (0 : Int32))]))
        refine own_go (fun zt zk => (XS.iadd X9.here hx rfl (hb hby at_46) rfl (XS.istore X9.here hx rfl (hb hby at_47) rfl (l' := #[iv p1, iv p2, iv p3, iv p4, iv p5, iv p6, rv b1, iv (0 : Int32), iv (1 : Int32), .unset, .unset, .unset]) rfl zk))) ?_
        show own_Go p e below s _ _ _ (T9.setTop (mkF m 49 #[iv p1, iv p2, iv p3, iv p4, iv p5, iv p6, rv b1, iv (0 : Int32), iv (1 : Int32), .unset, .unset, .unset] []))
        obtain ⟨T23, h23, X23, e23, E23, A23, D23, -, st23⟩ := newO X9 hx hZ hown (hw _ (List.mem_of_getElem? (i := 2) rfl)) (hw _ (List.mem_of_getElem? (i := 3) rfl)) (hw _ (List.mem_of_getElem? (i := 4) rfl)) e9 (g := (mkF m 49 #[iv p1, iv p2, iv p3, iv p4, iv p5, iv p6, rv b1, iv (0 : Int32), iv (1 : Int32), .unset, .unset, .unset] [])) rfl (hb hby at_49) (by decide) (by decide)
        obtain ⟨b23, g23⟩ : ∃ z, z = h9.size := ⟨_, rfl⟩
        rw [← g23] at A23 D23 st23
        refine own_go st23 ?_
        have ne_b1_b23 : b1 ≠ b23 := Nat.ne_of_lt (Nat.lt_of_lt_of_le V_b1.lt (Nat.le_of_eq g23.symm))
        have sz_b23 : h0.size ≤ b23 := Nat.le_trans Kp.1 (Nat.le_of_eq g23.symm)
        have g_b23 : n0 ≤ b23 := Nat.le_trans Z0 sz_b23
        replace Kp := Kp.ext E23
        replace V_b1 := V_b1.ext E23
        replace Ea_b1 := Ea_b1.ext E23
        have Ex_b23 := A23
        have F_start_b23 : Fld Z h23 b23 "com/example/tranche/tranche/model/Span" "start" "I" (.int (0 : Int32)) := D23 (Or.inr (hw _ (List.mem_of_getElem? (i := 17) rfl))) (ty := .int) (by decide)
        have F_end_b23 : Fld Z h23 b23 "com/example/tranche/tranche/model/Span" "end" "I" (.int (0 : Int32)) := D23 (Or.inr (hw _ (List.mem_of_getElem? (i := 19) rfl))) (ty := .int) (by decide)
        show own_Go p e below s _ _ _ (T23.setTop (mkF m 52 #[iv p1, iv p2, iv p3, iv p4, iv p5, iv p6, rv b1, iv (0 : Int32), iv (1 : Int32), .unset, .unset, .unset] [(.ref b23)]))
        refine own_go (fun zt zk => (XS.dup X23.here hx rfl (hb hby at_52) rfl rfl (XS.iload X23.here hx rfl (hb hby at_53) rfl (XS.iload X23.here hx rfl (hb hby at_55) rfl zk)))) ?_
        show own_Go p e below s _ _ _ (T23.setTop (mkF m 57 #[iv p1, iv p2, iv p3, iv p4, iv p5, iv p6, rv b1, iv (0 : Int32), iv (1 : Int32), .unset, .unset, .unset] [(.int (1 : Int32)), (.int (0 : Int32)), (.ref b23), (.ref b23)]))
        obtain ⟨_, _, ⟨T24, L24, k24, n24⟩, -, X24, ⟨Lc24, hQ24, l24, y24, z24⟩, st24⟩ := X23.specialBack hx (y := (⟨"com/example/tranche/tranche/model/Span", "<init>", "(II)V"⟩ : MethodName)) rfl hown (mvT hZ (hw _ (List.mem_of_getElem? (i := 5) rfl))) (mvT hZ (hw _ (List.mem_of_getElem? (i := 6) rfl))) (mvT hZ (hw _ (List.mem_of_getElem? (i := 7) rfl))) (by decide) (backOf (W := 1) (own_rspan l Z a0 hw [] b23 (0 : Int32) (1 : Int32)  h23 n0 (Nat.le_trans Z0 Kp.1) Ex_b23 F_start_b23 F_end_b23 g_b23 (by decide) (by decide)) hZ (hw _ (List.mem_of_getElem? (i := 7) rfl)) (hw _ (List.mem_of_getElem? (i := 4) rfl)) (by decide) (by decide)) (g := (mkF m 57 #[iv p1, iv p2, iv p3, iv p4, iv p5, iv p6, rv b1, iv (0 : Int32), iv (1 : Int32), .unset, .unset, .unset] [(.int (1 : Int32)), (.int (0 : Int32)), (.ref b23), (.ref b23)])) rfl (by rw [hml]; rfl) (Steps.refl _) (a := b23) (argsL := [(.int (0 : Int32)), (.int (1 : Int32))]) (rest := [(.ref b23)]) (lenOf own_pd__II_V rfl) rfl (by show 2 * 0 + _ ≤ _; exact Nat.le_of_eq rfl) (hb hby at_57) (fun _ _ => ⟨rfl, e23, (by decide : 2 + 0 ≤ _), (by decide : 6 + 0 ≤ _)⟩)
        dsimp only [Pt.U, Pt.locs, Pt.cells, Pt.slots] at X24 l24 y24 z24 st24 hQ24
        subst l24 y24 z24
        obtain ⟨rfl, Nq24, K24, -, F_start_b23, F_end_b23⟩ := hQ24
        have N24 := Fr.app N9 Nq24
        refine own_go (fun zt zk => st24.trans zk) ?_
        replace Kp := Kp.trans K24 (allS (Or.inr sz_b23) all0)
        replace V_b1 := V_b1.keep K24 (ninS ne_b1_b23 nin0)
        replace Ea_b1 := Ea_b1.keep K24
        replace Ex_b23 := Ex_b23.keep K24
        show own_Go p e below s _ _ _ (T24.setTop (mkF m 60 #[iv p1, iv p2, iv p3, iv p4, iv p5, iv p6, rv b1, iv (0 : Int32), iv (1 : Int32), .unset, .unset, .unset] [(.ref b23)]))
        refine own_go (fun zt zk => (XS.astore X24.here hx rfl (hb hby at_60) rfl rfl (l' := #[iv p1, iv p2, iv p3, iv p4, iv p5, iv p6, rv b1, iv (0 : Int32), iv (1 : Int32), rv b23, .unset, .unset]) rfl (XS.aload X24.here hx rfl (hb hby at_62) rfl rfl (XS.aload X24.here hx rfl (hb hby at_64) rfl rfl zk)))) ?_
        show own_Go p e below s _ _ _ (T24.setTop (mkF m 66 #[iv p1, iv p2, iv p3, iv p4, iv p5, iv p6, rv b1, iv (0 : Int32), iv (1 : Int32), rv b23, .unset, .unset] [(.ref b1), (.ref b23)]))
        obtain ⟨cq25, kq25, qa25, qb25, qc25⟩ := isOf hZ rfl Ex_b23
        obtain ⟨_, _, ⟨T25, L25, k25, n25⟩, -, X25, ⟨Lc25, hQ25, l25, y25, z25⟩, st25⟩ := X24.virtualBack hx (y := (⟨"com/example/tranche/tranche/model/Span", "bytesIn", "([B)[B"⟩ : MethodName)) (z := (⟨"com/example/tranche/tranche/model/Span", "bytesIn", "([B)[B"⟩ : MethodName)) hown (mvT hZ (hw _ (List.mem_of_getElem? (i := 20) rfl))) (mvT hZ (hw _ (List.mem_of_getElem? (i := 21) rfl))) (notFace_of_selects (args := #[]) (mvT hZ (hw _ (List.mem_of_getElem? (i := 23) rfl)))) (mvT hZ (hw _ (List.mem_of_getElem? (i := 23) rfl))) (mvT hZ (hw _ (List.mem_of_getElem? (i := 22) rfl))) (by decide) (backOf (W := 0) (own_rbi01 l Z a0 hw [] b23 b1 k1 (.int (p1.toInt8.toInt32)) (.int (p2.toInt8.toInt32)) (.int (p3.toInt8.toInt32)) (.int (p4.toInt8.toInt32)) T24.heap n0 (Nat.le_trans Z0 Kp.1) V_b1 Ea_b1 F_start_b23 F_end_b23) hZ (hw _ (List.mem_of_getElem? (i := 24) rfl)) (hw _ (List.mem_of_getElem? (i := 4) rfl)) (by decide) (by decide)) qa25 qc25 (g := (mkF m 66 #[iv p1, iv p2, iv p3, iv p4, iv p5, iv p6, rv b1, iv (0 : Int32), iv (1 : Int32), rv b23, .unset, .unset] [(.ref b1), (.ref b23)])) rfl (by rw [hml]; rfl) (Steps.refl _) (argsL := [(.ref b1)]) (rest := []) (lenOf own_pd___B__B rfl) rfl (by show 2 * 0 + _ ≤ _; exact Nat.le_of_eq rfl) (hb hby at_66) (fun _ _ => ⟨rfl, rfl, (by decide : 2 + 1 ≤ _), (by decide : 6 + 1 ≤ _)⟩)
        dsimp only [Pt.U, Pt.locs, Pt.cells, Pt.slots] at X25 l25 y25 z25 st25 hQ25
        subst l25 y25 z25
        obtain ⟨r25, kr25, rfl, Nq25, K25, sr25, Ea_r25, V_r25⟩ := hQ25
        have sz_r25 := Nat.le_trans Kp.1 sr25
        have g_r25 := Nat.le_trans Z0 sz_r25
        have ne_b1_r25 : b1 ≠ r25 := Nat.ne_of_lt (Nat.lt_of_lt_of_le V_b1.lt sr25)
        have ne_b23_r25 : b23 ≠ r25 := Nat.ne_of_lt (Nat.lt_of_lt_of_le Ex_b23.lt sr25)
        have N25 := Fr.app N24 Nq25
        refine own_go (fun zt zk => st25.trans zk) ?_
        replace Kp := Kp.trans K25 all0
        replace V_b1 := V_b1.keep K25 nin0
        replace Ea_b1 := Ea_b1.keep K25
        replace Ex_b23 := Ex_b23.keep K25
        replace F_start_b23 := F_start_b23.keep K25 nin0
        replace F_end_b23 := F_end_b23.keep K25 nin0
        show own_Go p e below s _ _ _ (T25.setTop (mkF m 69 #[iv p1, iv p2, iv p3, iv p4, iv p5, iv p6, rv b1, iv (0 : Int32), iv (1 : Int32), rv b23, .unset, .unset] [(.ref r25)]))
        refine own_go (fun zt zk => (XS.astore X25.here hx rfl (hb hby at_69) rfl rfl (l' := #[iv p1, iv p2, iv p3, iv p4, iv p5, iv p6, rv b1, iv (0 : Int32), iv (1 : Int32), rv b23, rv r25, .unset]) rfl (XS.aload X25.here hx rfl (hb hby at_71) rfl rfl (XS.ifnonnullYes X25.here hx rfl (pc0 := 73) (pc' := 78) rfl (hb hby at_73) rfl (by decide) (by decide) (XS.aload X25.here hx rfl (hb hby at_78) rfl rfl zk))))) ?_
        show own_Go p e below s _ _ _ (T25.setTop (mkF m 80 #[iv p1, iv p2, iv p3, iv p4, iv p5, iv p6, rv b1, iv (0 : Int32), iv (1 : Int32), rv b23, rv r25, .unset] [(.ref r25)]))
        obtain ⟨cl26, Ar26, -, Sz26, Nz26, -, -⟩ := id V_r25
        refine own_go (X25.arraylength hx (by exact Ar26.1) (State.isArrayOf_alike hZ.alike Ar26.2.1) (g := (mkF m 80 #[iv p1, iv p2, iv p3, iv p4, iv p5, iv p6, rv b1, iv (0 : Int32), iv (1 : Int32), rv b23, rv r25, .unset] [(.ref r25)])) rfl rfl (hb hby at_80)) ?_
        rw [len_of Sz26 Nz26]
        show own_Go p e below s _ _ _ (T25.setTop (mkF m 81 #[iv p1, iv p2, iv p3, iv p4, iv p5, iv p6, rv b1, iv (0 : Int32), iv (1 : Int32), rv b23, rv r25, .unset] [(.int (1 : Int32))]))
        refine own_go (fun zt zk => (XS.iload X25.here hx rfl (hb hby at_81) rfl (XS.iload X25.here hx rfl (hb hby at_83) rfl (XS.isub X25.here hx rfl (hb hby at_85) rfl (XS.icmpYes X25.here hx rfl (pc0 := 86) (pc' := 91) rfl (hb hby at_86) rfl (teq (rfl : (1 : Int32) = (1 : Int32))).1 (by decide) (by decide) (XS.iconst X25.here hx rfl (hb hby at_91) (XS.istore X25.here hx rfl (hb hby at_92) rfl (l' := #[iv p1, iv p2, iv p3, iv p4, iv p5, iv p6, rv b1, iv (0 : Int32), iv (1 : Int32), rv b23, rv r25, iv (1 : Int32)]) rfl (XS.aload X25.here hx rfl (hb hby at_94) rfl rfl zk)))))))) ?_
        show own_Go p e below s _ _ _ (T25.setTop (mkF m 96 #[iv p1, iv p2, iv p3, iv p4, iv p5, iv p6, rv b1, iv (0 : Int32), iv (1 : Int32), rv b23, rv r25, iv (1 : Int32)] [(.ref r25)]))
        obtain ⟨cl27, Ar27, -, Sz27, Nz27, -, -⟩ := id V_r25
        refine own_go (X25.arraylength hx (by exact Ar27.1) (State.isArrayOf_alike hZ.alike Ar27.2.1) (g := (mkF m 96 #[iv p1, iv p2, iv p3, iv p4, iv p5, iv p6, rv b1, iv (0 : Int32), iv (1 : Int32), rv b23, rv r25, iv (1 : Int32)] [(.ref r25)])) rfl rfl (hb hby at_96)) ?_
        rw [len_of Sz27 Nz27]
        show own_Go p e below s _ _ _ (T25.setTop (mkF m 97 #[iv p1, iv p2, iv p3, iv p4, iv p5, iv p6, rv b1, iv (0 : Int32), iv (1 : Int32), rv b23, rv r25, iv (1 : Int32)] [(.int (1 : Int32))]))
        refine own_go (fun zt zk => (XS.ifNo X25.here hx rfl (hb hby at_97) rfl ((if0 _ _).trans (tlt ((by decide) : (0 : Int32) < (1 : Int32))).2.2.2) (XS.iload X25.here hx rfl (hb hby at_100) rfl (XS.ifNo X25.here hx rfl (hb hby at_102) rfl ((if0 _ _).trans (feq ((by decide) : ¬ ((1 : Int32) = (0 : Int32)))).1) (XS.aload X25.here hx rfl (hb hby at_105) rfl rfl (XS.iconst X25.here hx rfl (hb hby at_107) zk)))))) ?_
        show own_Go p e below s _ _ _ (T25.setTop (mkF m 108 #[iv p1, iv p2, iv p3, iv p4, iv p5, iv p6, rv b1, iv (0 : Int32), iv (1 : Int32), rv b23, rv r25, iv (1 : Int32)] [(.int (0 : Int32)), (.ref r25)]))
        obtain ⟨cl28, Ar28, q28, Sz28, Nz28, Ha28, Ga28⟩ := id V_r25
        have hin28 : ¬ ((0 : Int32) < 0 ∨ cl28.slots.size ≤ ((0 : Int32)).toNatClampNeg) := inb_of Sz28 ⟨by decide, by decide⟩
        have hat28 : cl28.slots[((0 : Int32)).toNatClampNeg]? = some (.int (p1.toInt8.toInt32)) := Has.at Ha28 hin28 rfl
        refine own_go (X25.baloadBytes hx (j := (0 : Int32)) (v := (.int (p1.toInt8.toInt32))) (by exact Ar28.1) (State.isArrayOf_alike hZ.alike Ar28.2.1) Ar28.2.2 hin28 hat28 (g := (mkF m 108 #[iv p1, iv p2, iv p3, iv p4, iv p5, iv p6, rv b1, iv (0 : Int32), iv (1 : Int32), rv b23, rv r25, iv (1 : Int32)] [(.int (0 : Int32)), (.ref r25)])) rfl rfl (hb hby at_108)) ?_
        show own_Go p e below s _ _ _ (T25.setTop (mkF m 109 #[iv p1, iv p2, iv p3, iv p4, iv p5, iv p6, rv b1, iv (0 : Int32), iv (1 : Int32), rv b23, rv r25, iv (1 : Int32)] [(.int (p1.toInt8.toInt32))]))
        refine own_go (fun zt zk => (XS.iload X25.here hx rfl (hb hby at_109) rfl (XS.iloadN X25.here hx rfl (hb hby at_111) rfl (XS.iloadN X25.here hx rfl (hb hby at_112) rfl (XS.iloadN X25.here hx rfl (hb hby at_113) rfl (XS.iloadN X25.here hx rfl (hb hby at_114) rfl zk)))))) ?_
        show own_Go p e below s _ _ _ (T25.setTop (mkF m 115 #[iv p1, iv p2, iv p3, iv p4, iv p5, iv p6, rv b1, iv (0 : Int32), iv (1 : Int32), rv b23, rv r25, iv (1 : Int32)] [(.int p4), (.int p3), (.int p2), (.int p1), (.int (0 : Int32)), (.int (p1.toInt8.toInt32))]))
        obtain ⟨_, _, ⟨T29, L29, k29, n29⟩, -, X29, ⟨Lc29, hQ29, l29, y29, z29⟩, st29⟩ := Jvm.LawKit.callS X25 hx (y := (⟨"com/example/tranche/tranche/model/SpanBytesInPinLaw", "at", "(IIIII)B"⟩ : MethodName)) hown (mvT hZ (hw _ (List.mem_of_getElem? (i := 43) rfl))) (mvT hZ (hw _ (List.mem_of_getElem? (i := 44) rfl))) (mvT hZ (hw _ (List.mem_of_getElem? (i := 45) rfl))) (mvT hZ (hw _ (List.mem_of_getElem? (i := 46) rfl))) (by decide) (backOf (W := 1) (own_rat0 l Z a0 hw [] p1 p2 p3 p4  T25.heap n0 (Nat.le_trans Z0 Kp.1) ) hZ (hw _ (List.mem_of_getElem? (i := 46) rfl)) (hw _ (List.mem_of_getElem? (i := 45) rfl)) (by decide) (by decide)) (g := (mkF m 115 #[iv p1, iv p2, iv p3, iv p4, iv p5, iv p6, rv b1, iv (0 : Int32), iv (1 : Int32), rv b23, rv r25, iv (1 : Int32)] [(.int p4), (.int p3), (.int p2), (.int p1), (.int (0 : Int32)), (.int (p1.toInt8.toInt32))])) rfl (by rw [hml]; rfl) (argsL := [(.int (0 : Int32)), (.int p1), (.int p2), (.int p3), (.int p4)]) (rest := [(.int (p1.toInt8.toInt32))]) (lenOf own_pd__IIIII_B rfl) rfl (by show 2 * 0 + _ ≤ _; exact Nat.le_of_eq rfl) (hb hby at_115) (fun _ _ => ⟨rfl, rfl, (by decide : 3 + 0 ≤ _), (by decide : 7 + 0 ≤ _)⟩)
        dsimp only [Pt.U, Pt.locs, Pt.cells, Pt.slots] at X29 l29 y29 z29 st29 hQ29
        subst l29 y29 z29
        obtain ⟨rfl, Nq29, e29⟩ := hQ29
        have N29 := Fr.app N25 Nq29
        refine own_go st29 ?_
        show own_Go p e below s _ _ _ (T29.setTop (mkF m 118 #[iv p1, iv p2, iv p3, iv p4, iv p5, iv p6, rv b1, iv (0 : Int32), iv (1 : Int32), rv b23, rv r25, iv (1 : Int32)] [(.int (p1.toInt8.toInt32)), (.int (p1.toInt8.toInt32))]))
        refine own_go (fun zt zk => (XS.icmpNo X29.here hx rfl (hb hby at_118) rfl (teq (rfl : (p1.toInt8.toInt32) = (p1.toInt8.toInt32))).2 (XS.iconst X29.here hx rfl (hb hby at_121) (XS.goto X29.here hx rfl (pc0 := 122) (pc' := 126) rfl (hb hby at_122) (by decide) (by decide) (XS.istore X29.here hx rfl (hb hby at_126) rfl (l' := #[iv p1, iv p2, iv p3, iv p4, iv p5, iv p6, rv b1, iv (0 : Int32), iv (1 : Int32), rv b23, rv r25, iv (1 : Int32)]) rfl (XS.aload X29.here hx rfl (hb hby at_128) rfl rfl zk)))))) ?_
        show own_Go p e below s _ _ _ (T29.setTop (mkF m 130 #[iv p1, iv p2, iv p3, iv p4, iv p5, iv p6, rv b1, iv (0 : Int32), iv (1 : Int32), rv b23, rv r25, iv (1 : Int32)] [(.ref r25)]))
        obtain ⟨cl30, Ar30, -, Sz30, Nz30, -, -⟩ := id V_r25
        refine own_go (X29.arraylength hx (by rw [e29]; exact Ar30.1) (State.isArrayOf_alike hZ.alike Ar30.2.1) (g := (mkF m 130 #[iv p1, iv p2, iv p3, iv p4, iv p5, iv p6, rv b1, iv (0 : Int32), iv (1 : Int32), rv b23, rv r25, iv (1 : Int32)] [(.ref r25)])) rfl rfl (hb hby at_130)) ?_
        rw [len_of Sz30 Nz30]
        show own_Go p e below s _ _ _ (T29.setTop (mkF m 131 #[iv p1, iv p2, iv p3, iv p4, iv p5, iv p6, rv b1, iv (0 : Int32), iv (1 : Int32), rv b23, rv r25, iv (1 : Int32)] [(.int (1 : Int32))]))
        refine own_go (fun zt zk => (XS.iconst X29.here hx rfl (hb hby at_131) (XS.icmpYes X29.here hx rfl (pc0 := 132) (pc' := 165) rfl (hb hby at_132) rfl (flt ((own_irr _) : ¬ ((1 : Int32) < (1 : Int32)))).2.2.2 (by decide) (by decide) (XS.aload X29.here hx rfl (hb hby at_165) rfl rfl zk)))) ?_
        show own_Go p e below s _ _ _ (T29.setTop (mkF m 167 #[iv p1, iv p2, iv p3, iv p4, iv p5, iv p6, rv b1, iv (0 : Int32), iv (1 : Int32), rv b23, rv r25, iv (1 : Int32)] [(.ref r25)]))
        obtain ⟨cl31, Ar31, -, Sz31, Nz31, -, -⟩ := id V_r25
        refine own_go (X29.arraylength hx (by rw [e29]; exact Ar31.1) (State.isArrayOf_alike hZ.alike Ar31.2.1) (g := (mkF m 167 #[iv p1, iv p2, iv p3, iv p4, iv p5, iv p6, rv b1, iv (0 : Int32), iv (1 : Int32), rv b23, rv r25, iv (1 : Int32)] [(.ref r25)])) rfl rfl (hb hby at_167)) ?_
        rw [len_of Sz31 Nz31]
        show own_Go p e below s _ _ _ (T29.setTop (mkF m 168 #[iv p1, iv p2, iv p3, iv p4, iv p5, iv p6, rv b1, iv (0 : Int32), iv (1 : Int32), rv b23, rv r25, iv (1 : Int32)] [(.int (1 : Int32))]))
        refine own_go (fun zt zk => (XS.iconst X29.here hx rfl (hb hby at_168) (XS.icmpYes X29.here hx rfl (pc0 := 169) (pc' := 202) rfl (hb hby at_169) rfl (flt ((by decide) : ¬ ((2 : Int32) < (1 : Int32)))).2.2.2 (by decide) (by decide) (XS.aload X29.here hx rfl (hb hby at_202) rfl rfl zk)))) ?_
        show own_Go p e below s _ _ _ (T29.setTop (mkF m 204 #[iv p1, iv p2, iv p3, iv p4, iv p5, iv p6, rv b1, iv (0 : Int32), iv (1 : Int32), rv b23, rv r25, iv (1 : Int32)] [(.ref r25)]))
        obtain ⟨cl32, Ar32, -, Sz32, Nz32, -, -⟩ := id V_r25
        refine own_go (X29.arraylength hx (by rw [e29]; exact Ar32.1) (State.isArrayOf_alike hZ.alike Ar32.2.1) (g := (mkF m 204 #[iv p1, iv p2, iv p3, iv p4, iv p5, iv p6, rv b1, iv (0 : Int32), iv (1 : Int32), rv b23, rv r25, iv (1 : Int32)] [(.ref r25)])) rfl rfl (hb hby at_204)) ?_
        rw [len_of Sz32 Nz32]
        show own_Go p e below s _ _ _ (T29.setTop (mkF m 205 #[iv p1, iv p2, iv p3, iv p4, iv p5, iv p6, rv b1, iv (0 : Int32), iv (1 : Int32), rv b23, rv r25, iv (1 : Int32)] [(.int (1 : Int32))]))
        refine own_go (fun zt zk => (XS.iconst X29.here hx rfl (hb hby at_205) (XS.icmpYes X29.here hx rfl (pc0 := 206) (pc' := 239) rfl (hb hby at_206) rfl (flt ((by decide) : ¬ ((3 : Int32) < (1 : Int32)))).2.2.2 (by decide) (by decide) (XS.iload X29.here hx rfl (hb hby at_239) rfl (XS.ifNo X29.here hx rfl (hb hby at_241) rfl ((if0 _ _).trans (feq ((by decide) : ¬ ((1 : Int32) = (0 : Int32)))).1) (XS.aload X29.here hx rfl (hb hby at_244) rfl rfl (XS.iconst X29.here hx rfl (hb hby at_246) zk))))))) ?_
        show own_Go p e below s _ _ _ (T29.setTop (mkF m 247 #[iv p1, iv p2, iv p3, iv p4, iv p5, iv p6, rv b1, iv (0 : Int32), iv (1 : Int32), rv b23, rv r25, iv (1 : Int32)] [(.int (0 : Int32)), (.ref b1)]))
        obtain ⟨cl33, Ar33, q33, Sz33, Nz33, Ha33, Ga33⟩ := id V_b1
        have hin33 : ¬ ((0 : Int32) < 0 ∨ cl33.slots.size ≤ ((0 : Int32)).toNatClampNeg) := inb_of Sz33 ⟨by decide, by decide⟩
        have hat33 : cl33.slots[((0 : Int32)).toNatClampNeg]? = some (.int (p1.toInt8.toInt32)) := Has.at Ha33 hin33 rfl
        refine own_go (X29.baloadBytes hx (j := (0 : Int32)) (v := (.int (p1.toInt8.toInt32))) (by rw [e29]; exact Ar33.1) (State.isArrayOf_alike hZ.alike Ar33.2.1) Ar33.2.2 hin33 hat33 (g := (mkF m 247 #[iv p1, iv p2, iv p3, iv p4, iv p5, iv p6, rv b1, iv (0 : Int32), iv (1 : Int32), rv b23, rv r25, iv (1 : Int32)] [(.int (0 : Int32)), (.ref b1)])) rfl rfl (hb hby at_247)) ?_
        show own_Go p e below s _ _ _ (T29.setTop (mkF m 248 #[iv p1, iv p2, iv p3, iv p4, iv p5, iv p6, rv b1, iv (0 : Int32), iv (1 : Int32), rv b23, rv r25, iv (1 : Int32)] [(.int (p1.toInt8.toInt32))]))
        refine own_go (fun zt zk => (XS.iloadN X29.here hx rfl (hb hby at_248) rfl (XS.i2b X29.here hx rfl (hb hby at_249) rfl (XS.icmpNo X29.here hx rfl (hb hby at_250) rfl (teq (rfl : (p1.toInt8.toInt32) = (p1.toInt8.toInt32))).2 (XS.aload X29.here hx rfl (hb hby at_253) rfl rfl (XS.iconst X29.here hx rfl (hb hby at_255) zk)))))) ?_
        show own_Go p e below s _ _ _ (T29.setTop (mkF m 256 #[iv p1, iv p2, iv p3, iv p4, iv p5, iv p6, rv b1, iv (0 : Int32), iv (1 : Int32), rv b23, rv r25, iv (1 : Int32)] [(.int (1 : Int32)), (.ref b1)]))
        obtain ⟨cl34, Ar34, q34, Sz34, Nz34, Ha34, Ga34⟩ := id V_b1
        have hin34 : ¬ ((1 : Int32) < 0 ∨ cl34.slots.size ≤ ((1 : Int32)).toNatClampNeg) := inb_of Sz34 ⟨by decide, by decide⟩
        have hat34 : cl34.slots[((1 : Int32)).toNatClampNeg]? = some (.int (p2.toInt8.toInt32)) := Has.at Ha34 hin34 rfl
        refine own_go (X29.baloadBytes hx (j := (1 : Int32)) (v := (.int (p2.toInt8.toInt32))) (by rw [e29]; exact Ar34.1) (State.isArrayOf_alike hZ.alike Ar34.2.1) Ar34.2.2 hin34 hat34 (g := (mkF m 256 #[iv p1, iv p2, iv p3, iv p4, iv p5, iv p6, rv b1, iv (0 : Int32), iv (1 : Int32), rv b23, rv r25, iv (1 : Int32)] [(.int (1 : Int32)), (.ref b1)])) rfl rfl (hb hby at_256)) ?_
        show own_Go p e below s _ _ _ (T29.setTop (mkF m 257 #[iv p1, iv p2, iv p3, iv p4, iv p5, iv p6, rv b1, iv (0 : Int32), iv (1 : Int32), rv b23, rv r25, iv (1 : Int32)] [(.int (p2.toInt8.toInt32))]))
        refine own_go (fun zt zk => (XS.iloadN X29.here hx rfl (hb hby at_257) rfl (XS.i2b X29.here hx rfl (hb hby at_258) rfl (XS.icmpNo X29.here hx rfl (hb hby at_259) rfl (teq (rfl : (p2.toInt8.toInt32) = (p2.toInt8.toInt32))).2 (XS.aload X29.here hx rfl (hb hby at_262) rfl rfl (XS.iconst X29.here hx rfl (hb hby at_264) zk)))))) ?_
        show own_Go p e below s _ _ _ (T29.setTop (mkF m 265 #[iv p1, iv p2, iv p3, iv p4, iv p5, iv p6, rv b1, iv (0 : Int32), iv (1 : Int32), rv b23, rv r25, iv (1 : Int32)] [(.int (2 : Int32)), (.ref b1)]))
        obtain ⟨cl35, Ar35, q35, Sz35, Nz35, Ha35, Ga35⟩ := id V_b1
        have hin35 : ¬ ((2 : Int32) < 0 ∨ cl35.slots.size ≤ ((2 : Int32)).toNatClampNeg) := inb_of Sz35 ⟨by decide, by decide⟩
        have hat35 : cl35.slots[((2 : Int32)).toNatClampNeg]? = some (.int (p3.toInt8.toInt32)) := Has.at Ha35 hin35 rfl
        refine own_go (X29.baloadBytes hx (j := (2 : Int32)) (v := (.int (p3.toInt8.toInt32))) (by rw [e29]; exact Ar35.1) (State.isArrayOf_alike hZ.alike Ar35.2.1) Ar35.2.2 hin35 hat35 (g := (mkF m 265 #[iv p1, iv p2, iv p3, iv p4, iv p5, iv p6, rv b1, iv (0 : Int32), iv (1 : Int32), rv b23, rv r25, iv (1 : Int32)] [(.int (2 : Int32)), (.ref b1)])) rfl rfl (hb hby at_265)) ?_
        show own_Go p e below s _ _ _ (T29.setTop (mkF m 266 #[iv p1, iv p2, iv p3, iv p4, iv p5, iv p6, rv b1, iv (0 : Int32), iv (1 : Int32), rv b23, rv r25, iv (1 : Int32)] [(.int (p3.toInt8.toInt32))]))
        refine own_go (fun zt zk => (XS.iloadN X29.here hx rfl (hb hby at_266) rfl (XS.i2b X29.here hx rfl (hb hby at_267) rfl (XS.icmpNo X29.here hx rfl (hb hby at_268) rfl (teq (rfl : (p3.toInt8.toInt32) = (p3.toInt8.toInt32))).2 (XS.aload X29.here hx rfl (hb hby at_271) rfl rfl (XS.iconst X29.here hx rfl (hb hby at_273) zk)))))) ?_
        show own_Go p e below s _ _ _ (T29.setTop (mkF m 274 #[iv p1, iv p2, iv p3, iv p4, iv p5, iv p6, rv b1, iv (0 : Int32), iv (1 : Int32), rv b23, rv r25, iv (1 : Int32)] [(.int (3 : Int32)), (.ref b1)]))
        obtain ⟨cl36, Ar36, q36, Sz36, Nz36, Ha36, Ga36⟩ := id V_b1
        have hin36 : ¬ ((3 : Int32) < 0 ∨ cl36.slots.size ≤ ((3 : Int32)).toNatClampNeg) := inb_of Sz36 ⟨by decide, by decide⟩
        have hat36 : cl36.slots[((3 : Int32)).toNatClampNeg]? = some (.int (p4.toInt8.toInt32)) := Has.at Ha36 hin36 rfl
        refine own_go (X29.baloadBytes hx (j := (3 : Int32)) (v := (.int (p4.toInt8.toInt32))) (by rw [e29]; exact Ar36.1) (State.isArrayOf_alike hZ.alike Ar36.2.1) Ar36.2.2 hin36 hat36 (g := (mkF m 274 #[iv p1, iv p2, iv p3, iv p4, iv p5, iv p6, rv b1, iv (0 : Int32), iv (1 : Int32), rv b23, rv r25, iv (1 : Int32)] [(.int (3 : Int32)), (.ref b1)])) rfl rfl (hb hby at_274)) ?_
        show own_Go p e below s _ _ _ (T29.setTop (mkF m 275 #[iv p1, iv p2, iv p3, iv p4, iv p5, iv p6, rv b1, iv (0 : Int32), iv (1 : Int32), rv b23, rv r25, iv (1 : Int32)] [(.int (p4.toInt8.toInt32))]))
        refine own_go (fun zt zk => (XS.iloadN X29.here hx rfl (hb hby at_275) rfl (XS.i2b X29.here hx rfl (hb hby at_276) rfl (XS.icmpNo X29.here hx rfl (hb hby at_277) rfl (teq (rfl : (p4.toInt8.toInt32) = (p4.toInt8.toInt32))).2 (XS.iconst X29.here hx rfl (hb hby at_280) (XS.goto X29.here hx rfl (pc0 := 281) (pc' := 285) rfl (hb hby at_281) (by decide) (by decide) (XS.istore X29.here hx rfl (hb hby at_285) rfl (l' := #[iv p1, iv p2, iv p3, iv p4, iv p5, iv p6, rv b1, iv (0 : Int32), iv (1 : Int32), rv b23, rv r25, iv (1 : Int32)]) rfl (XS.aload X29.here hx rfl (hb hby at_287) rfl rfl zk)))))))) ?_
        show own_Go p e below s _ _ _ (T29.setTop (mkF m 289 #[iv p1, iv p2, iv p3, iv p4, iv p5, iv p6, rv b1, iv (0 : Int32), iv (1 : Int32), rv b23, rv r25, iv (1 : Int32)] [(.ref r25)]))
        obtain ⟨cl37, Ar37, -, Sz37, Nz37, -, -⟩ := id V_r25
        refine own_go (X29.arraylength hx (by rw [e29]; exact Ar37.1) (State.isArrayOf_alike hZ.alike Ar37.2.1) (g := (mkF m 289 #[iv p1, iv p2, iv p3, iv p4, iv p5, iv p6, rv b1, iv (0 : Int32), iv (1 : Int32), rv b23, rv r25, iv (1 : Int32)] [(.ref r25)])) rfl rfl (hb hby at_289)) ?_
        rw [len_of Sz37 Nz37]
        show own_Go p e below s _ _ _ (T29.setTop (mkF m 290 #[iv p1, iv p2, iv p3, iv p4, iv p5, iv p6, rv b1, iv (0 : Int32), iv (1 : Int32), rv b23, rv r25, iv (1 : Int32)] [(.int (1 : Int32))]))
        refine own_go (fun zt zk => (XS.ifNo X29.here hx rfl (hb hby at_290) rfl ((if0 _ _).trans (tlt ((by decide) : (0 : Int32) < (1 : Int32))).2.2.2) (XS.aload X29.here hx rfl (hb hby at_293) rfl rfl (XS.iconst X29.here hx rfl (hb hby at_295) (XS.aload X29.here hx rfl (hb hby at_296) rfl rfl (XS.iconst X29.here hx rfl (hb hby at_298) zk)))))) ?_
        show own_Go p e below s _ _ _ (T29.setTop (mkF m 299 #[iv p1, iv p2, iv p3, iv p4, iv p5, iv p6, rv b1, iv (0 : Int32), iv (1 : Int32), rv b23, rv r25, iv (1 : Int32)] [(.int (0 : Int32)), (.ref r25), (.int (0 : Int32)), (.ref r25)]))
        obtain ⟨cl38, Ar38, q38, Sz38, Nz38, Ha38, Ga38⟩ := id V_r25
        have hin38 : ¬ ((0 : Int32) < 0 ∨ cl38.slots.size ≤ ((0 : Int32)).toNatClampNeg) := inb_of Sz38 ⟨by decide, by decide⟩
        have hat38 : cl38.slots[((0 : Int32)).toNatClampNeg]? = some (.int (p1.toInt8.toInt32)) := Has.at Ha38 hin38 rfl
        refine own_go (X29.baloadBytes hx (j := (0 : Int32)) (v := (.int (p1.toInt8.toInt32))) (by rw [e29]; exact Ar38.1) (State.isArrayOf_alike hZ.alike Ar38.2.1) Ar38.2.2 hin38 hat38 (g := (mkF m 299 #[iv p1, iv p2, iv p3, iv p4, iv p5, iv p6, rv b1, iv (0 : Int32), iv (1 : Int32), rv b23, rv r25, iv (1 : Int32)] [(.int (0 : Int32)), (.ref r25), (.int (0 : Int32)), (.ref r25)])) rfl rfl (hb hby at_299)) ?_
        show own_Go p e below s _ _ _ (T29.setTop (mkF m 300 #[iv p1, iv p2, iv p3, iv p4, iv p5, iv p6, rv b1, iv (0 : Int32), iv (1 : Int32), rv b23, rv r25, iv (1 : Int32)] [(.int (p1.toInt8.toInt32)), (.int (0 : Int32)), (.ref r25)]))
        refine own_go (fun zt zk => (XS.iconst X29.here hx rfl (hb hby at_300) (XS.ixor X29.here hx rfl (hb hby at_301) rfl (XS.i2b X29.here hx rfl (hb hby at_302) rfl zk)))) ?_
        show own_Go p e below s _ _ _ (T29.setTop (mkF m 303 #[iv p1, iv p2, iv p3, iv p4, iv p5, iv p6, rv b1, iv (0 : Int32), iv (1 : Int32), rv b23, rv r25, iv (1 : Int32)] [(.int (((p1.toInt8.toInt32) ^^^ (1 : Int32)).toInt8.toInt32)), (.int (0 : Int32)), (.ref r25)]))
        obtain ⟨cl39, Ar39, q39, Sz39, Nz39, Ha39, Ga39⟩ := id V_r25
        have hin39 : ¬ ((0 : Int32) < 0 ∨ cl39.slots.size ≤ ((0 : Int32)).toNatClampNeg) := inb_of Sz39 ⟨by decide, by decide⟩
        obtain ⟨T40, h40, X40, e40, W40, st40⟩ := stB X29 hx hZ e29 Ar39 (j := (0 : Int32)) hin39 (g := (mkF m 303 #[iv p1, iv p2, iv p3, iv p4, iv p5, iv p6, rv b1, iv (0 : Int32), iv (1 : Int32), rv b23, rv r25, iv (1 : Int32)] [(.int (((p1.toInt8.toInt32) ^^^ (1 : Int32)).toInt8.toInt32)), (.int (0 : Int32)), (.ref r25)])) rfl rfl (hb hby at_303)
        refine own_go st40 ?_
        rw [show nar .byte (((p1.toInt8.toInt32) ^^^ (1 : Int32)).toInt8.toInt32) = (((p1.toInt8.toInt32) ^^^ (1 : Int32)).toInt8.toInt32) from own_b8 _] at W40
        have V40 := Arv.set Ar39 q39 Sz39 Nz39 Ha39 Ga39 (fits_nar_byte _) W40 0 rfl (Nat.le_of_ble_eq_true rfl)
        have N40 := Fr.snoc X40 N29 g_r25
        replace Kp := Kp.wr W40 (Or.inr sz_r25)
        replace V_b1 := V_b1.other W40 ne_b1_r25
        replace Ea_b1 := Ea_b1.wr W40
        replace Ex_b23 := Ex_b23.wr W40
        replace F_start_b23 := F_start_b23.other W40 (Or.inl ne_b23_r25)
        replace F_end_b23 := F_end_b23.other W40 (Or.inl ne_b23_r25)
        replace Ea_r25 := Ea_r25.wr W40
        replace V_r25 : Arv Z h40 r25 kr25 .byte (1 : Int32) [(.int (((p1.toInt8.toInt32) ^^^ (1 : Int32)).toInt8.toInt32))] (.int (0 : Int32)) := V40
        show own_Go p e below s _ _ _ (T40.setTop (mkF m 304 #[iv p1, iv p2, iv p3, iv p4, iv p5, iv p6, rv b1, iv (0 : Int32), iv (1 : Int32), rv b23, rv r25, iv (1 : Int32)] []))
        refine own_go (fun zt zk => (XS.iload X40.here hx rfl (hb hby at_304) rfl (XS.ifNo X40.here hx rfl (hb hby at_306) rfl ((if0 _ _).trans (feq ((by decide) : ¬ ((1 : Int32) = (0 : Int32)))).1) (XS.aload X40.here hx rfl (hb hby at_309) rfl rfl (XS.iload X40.here hx rfl (hb hby at_311) rfl zk))))) ?_
        show own_Go p e below s _ _ _ (T40.setTop (mkF m 313 #[iv p1, iv p2, iv p3, iv p4, iv p5, iv p6, rv b1, iv (0 : Int32), iv (1 : Int32), rv b23, rv r25, iv (1 : Int32)] [(.int (0 : Int32)), (.ref b1)]))
        obtain ⟨cl41, Ar41, q41, Sz41, Nz41, Ha41, Ga41⟩ := id V_b1
        have hin41 : ¬ ((0 : Int32) < 0 ∨ cl41.slots.size ≤ ((0 : Int32)).toNatClampNeg) := inb_of Sz41 ⟨by decide, by decide⟩
        have hat41 : cl41.slots[((0 : Int32)).toNatClampNeg]? = some (.int (p1.toInt8.toInt32)) := Has.at Ha41 hin41 rfl
        refine own_go (X40.baloadBytes hx (j := (0 : Int32)) (v := (.int (p1.toInt8.toInt32))) (by rw [e40]; exact Ar41.1) (State.isArrayOf_alike hZ.alike Ar41.2.1) Ar41.2.2 hin41 hat41 (g := (mkF m 313 #[iv p1, iv p2, iv p3, iv p4, iv p5, iv p6, rv b1, iv (0 : Int32), iv (1 : Int32), rv b23, rv r25, iv (1 : Int32)] [(.int (0 : Int32)), (.ref b1)])) rfl rfl (hb hby at_313)) ?_
        show own_Go p e below s _ _ _ (T40.setTop (mkF m 314 #[iv p1, iv p2, iv p3, iv p4, iv p5, iv p6, rv b1, iv (0 : Int32), iv (1 : Int32), rv b23, rv r25, iv (1 : Int32)] [(.int (p1.toInt8.toInt32))]))
        refine own_go (fun zt zk => (XS.iload X40.here hx rfl (hb hby at_314) rfl (XS.iloadN X40.here hx rfl (hb hby at_316) rfl (XS.iloadN X40.here hx rfl (hb hby at_317) rfl (XS.iloadN X40.here hx rfl (hb hby at_318) rfl (XS.iloadN X40.here hx rfl (hb hby at_319) rfl zk)))))) ?_
        show own_Go p e below s _ _ _ (T40.setTop (mkF m 320 #[iv p1, iv p2, iv p3, iv p4, iv p5, iv p6, rv b1, iv (0 : Int32), iv (1 : Int32), rv b23, rv r25, iv (1 : Int32)] [(.int p4), (.int p3), (.int p2), (.int p1), (.int (0 : Int32)), (.int (p1.toInt8.toInt32))]))
        obtain ⟨_, _, ⟨T42, L42, k42, n42⟩, -, X42, ⟨Lc42, hQ42, l42, y42, z42⟩, st42⟩ := Jvm.LawKit.callS X40 hx (y := (⟨"com/example/tranche/tranche/model/SpanBytesInPinLaw", "at", "(IIIII)B"⟩ : MethodName)) hown (mvT hZ (hw _ (List.mem_of_getElem? (i := 43) rfl))) (mvT hZ (hw _ (List.mem_of_getElem? (i := 44) rfl))) (mvT hZ (hw _ (List.mem_of_getElem? (i := 45) rfl))) (mvT hZ (hw _ (List.mem_of_getElem? (i := 46) rfl))) (by decide) (backOf (W := 1) (own_rat0 l Z a0 hw [] p1 p2 p3 p4  h40 n0 (Nat.le_trans Z0 Kp.1) ) hZ (hw _ (List.mem_of_getElem? (i := 46) rfl)) (hw _ (List.mem_of_getElem? (i := 45) rfl)) (by decide) (by decide)) (g := (mkF m 320 #[iv p1, iv p2, iv p3, iv p4, iv p5, iv p6, rv b1, iv (0 : Int32), iv (1 : Int32), rv b23, rv r25, iv (1 : Int32)] [(.int p4), (.int p3), (.int p2), (.int p1), (.int (0 : Int32)), (.int (p1.toInt8.toInt32))])) rfl (by rw [hml]; rfl) (argsL := [(.int (0 : Int32)), (.int p1), (.int p2), (.int p3), (.int p4)]) (rest := [(.int (p1.toInt8.toInt32))]) (lenOf own_pd__IIIII_B rfl) rfl (by show 2 * 0 + _ ≤ _; exact Nat.le_of_eq rfl) (hb hby at_320) (fun _ _ => ⟨rfl, e40, (by decide : 3 + 0 ≤ _), (by decide : 7 + 0 ≤ _)⟩)
        dsimp only [Pt.U, Pt.locs, Pt.cells, Pt.slots] at X42 l42 y42 z42 st42 hQ42
        subst l42 y42 z42
        obtain ⟨rfl, Nq42, e42⟩ := hQ42
        have N42 := Fr.app N40 Nq42
        refine own_go st42 ?_
        show own_Go p e below s _ _ _ (T42.setTop (mkF m 323 #[iv p1, iv p2, iv p3, iv p4, iv p5, iv p6, rv b1, iv (0 : Int32), iv (1 : Int32), rv b23, rv r25, iv (1 : Int32)] [(.int (p1.toInt8.toInt32)), (.int (p1.toInt8.toInt32))]))
        refine own_go (fun zt zk => (XS.icmpNo X42.here hx rfl (hb hby at_323) rfl (teq (rfl : (p1.toInt8.toInt32) = (p1.toInt8.toInt32))).2 (XS.iconst X42.here hx rfl (hb hby at_326) (XS.goto X42.here hx rfl (pc0 := 327) (pc' := 331) rfl (hb hby at_327) (by decide) (by decide) (XS.istore X42.here hx rfl (hb hby at_331) rfl (l' := #[iv p1, iv p2, iv p3, iv p4, iv p5, iv p6, rv b1, iv (0 : Int32), iv (1 : Int32), rv b23, rv r25, iv (1 : Int32)]) rfl (XS.iload X42.here hx rfl (hb hby at_333) rfl zk)))))) ?_
        show own_Go p e below s _ _ _ (T42.setTop (mkF m 335 #[iv p1, iv p2, iv p3, iv p4, iv p5, iv p6, rv b1, iv (0 : Int32), iv (1 : Int32), rv b23, rv r25, iv (1 : Int32)] [(.int (1 : Int32))]))
        exact own_fin X42 Bd.notSynchronized (fun h => by rw [Bd.returns] at h; cases h) (fun fs hr => retN X42 hx (t := .boolean) Bd.returns (by simp) (hb hby at_335) hr) (by rw [e42]; exact ⟨rfl, N42⟩) (by decide) (by decide)
      · by_cases hk2_en : en = (2 : Int32)
        · subst hk2_en
          show own_Go p e below s _ _ _ (T9.setTop (mkF m 46 #[iv p1, iv p2, iv p3, iv p4, iv p5, iv p6, rv b1, iv (0 : Int32), .unset, .unset, .unset, .unset] [(.int (2 : Int32)), (.int (0 : Int32))]))
          refine own_go (fun zt zk => (XS.iadd X9.here hx rfl (hb hby at_46) rfl (XS.istore X9.here hx rfl (hb hby at_47) rfl (l' := #[iv p1, iv p2, iv p3, iv p4, iv p5, iv p6, rv b1, iv (0 : Int32), iv (2 : Int32), .unset, .unset, .unset]) rfl zk))) ?_
          show own_Go p e below s _ _ _ (T9.setTop (mkF m 49 #[iv p1, iv p2, iv p3, iv p4, iv p5, iv p6, rv b1, iv (0 : Int32), iv (2 : Int32), .unset, .unset, .unset] []))
          obtain ⟨T43, h43, X43, e43, E43, A43, D43, -, st43⟩ := newO X9 hx hZ hown (hw _ (List.mem_of_getElem? (i := 2) rfl)) (hw _ (List.mem_of_getElem? (i := 3) rfl)) (hw _ (List.mem_of_getElem? (i := 4) rfl)) e9 (g := (mkF m 49 #[iv p1, iv p2, iv p3, iv p4, iv p5, iv p6, rv b1, iv (0 : Int32), iv (2 : Int32), .unset, .unset, .unset] [])) rfl (hb hby at_49) (by decide) (by decide)
          obtain ⟨b43, g43⟩ : ∃ z, z = h9.size := ⟨_, rfl⟩
          rw [← g43] at A43 D43 st43
          refine own_go st43 ?_
          have ne_b1_b43 : b1 ≠ b43 := Nat.ne_of_lt (Nat.lt_of_lt_of_le V_b1.lt (Nat.le_of_eq g43.symm))
          have sz_b43 : h0.size ≤ b43 := Nat.le_trans Kp.1 (Nat.le_of_eq g43.symm)
          have g_b43 : n0 ≤ b43 := Nat.le_trans Z0 sz_b43
          replace Kp := Kp.ext E43
          replace V_b1 := V_b1.ext E43
          replace Ea_b1 := Ea_b1.ext E43
          have Ex_b43 := A43
          have F_start_b43 : Fld Z h43 b43 "com/example/tranche/tranche/model/Span" "start" "I" (.int (0 : Int32)) := D43 (Or.inr (hw _ (List.mem_of_getElem? (i := 17) rfl))) (ty := .int) (by decide)
          have F_end_b43 : Fld Z h43 b43 "com/example/tranche/tranche/model/Span" "end" "I" (.int (0 : Int32)) := D43 (Or.inr (hw _ (List.mem_of_getElem? (i := 19) rfl))) (ty := .int) (by decide)
          show own_Go p e below s _ _ _ (T43.setTop (mkF m 52 #[iv p1, iv p2, iv p3, iv p4, iv p5, iv p6, rv b1, iv (0 : Int32), iv (2 : Int32), .unset, .unset, .unset] [(.ref b43)]))
          refine own_go (fun zt zk => (XS.dup X43.here hx rfl (hb hby at_52) rfl rfl (XS.iload X43.here hx rfl (hb hby at_53) rfl (XS.iload X43.here hx rfl (hb hby at_55) rfl zk)))) ?_
          show own_Go p e below s _ _ _ (T43.setTop (mkF m 57 #[iv p1, iv p2, iv p3, iv p4, iv p5, iv p6, rv b1, iv (0 : Int32), iv (2 : Int32), .unset, .unset, .unset] [(.int (2 : Int32)), (.int (0 : Int32)), (.ref b43), (.ref b43)]))
          obtain ⟨_, _, ⟨T44, L44, k44, n44⟩, -, X44, ⟨Lc44, hQ44, l44, y44, z44⟩, st44⟩ := X43.specialBack hx (y := (⟨"com/example/tranche/tranche/model/Span", "<init>", "(II)V"⟩ : MethodName)) rfl hown (mvT hZ (hw _ (List.mem_of_getElem? (i := 5) rfl))) (mvT hZ (hw _ (List.mem_of_getElem? (i := 6) rfl))) (mvT hZ (hw _ (List.mem_of_getElem? (i := 7) rfl))) (by decide) (backOf (W := 1) (own_rspan l Z a0 hw [] b43 (0 : Int32) (2 : Int32)  h43 n0 (Nat.le_trans Z0 Kp.1) Ex_b43 F_start_b43 F_end_b43 g_b43 (by decide) (by decide)) hZ (hw _ (List.mem_of_getElem? (i := 7) rfl)) (hw _ (List.mem_of_getElem? (i := 4) rfl)) (by decide) (by decide)) (g := (mkF m 57 #[iv p1, iv p2, iv p3, iv p4, iv p5, iv p6, rv b1, iv (0 : Int32), iv (2 : Int32), .unset, .unset, .unset] [(.int (2 : Int32)), (.int (0 : Int32)), (.ref b43), (.ref b43)])) rfl (by rw [hml]; rfl) (Steps.refl _) (a := b43) (argsL := [(.int (0 : Int32)), (.int (2 : Int32))]) (rest := [(.ref b43)]) (lenOf own_pd__II_V rfl) rfl (by show 2 * 0 + _ ≤ _; exact Nat.le_of_eq rfl) (hb hby at_57) (fun _ _ => ⟨rfl, e43, (by decide : 2 + 0 ≤ _), (by decide : 6 + 0 ≤ _)⟩)
          dsimp only [Pt.U, Pt.locs, Pt.cells, Pt.slots] at X44 l44 y44 z44 st44 hQ44
          subst l44 y44 z44
          obtain ⟨rfl, Nq44, K44, -, F_start_b43, F_end_b43⟩ := hQ44
          have N44 := Fr.app N9 Nq44
          refine own_go (fun zt zk => st44.trans zk) ?_
          replace Kp := Kp.trans K44 (allS (Or.inr sz_b43) all0)
          replace V_b1 := V_b1.keep K44 (ninS ne_b1_b43 nin0)
          replace Ea_b1 := Ea_b1.keep K44
          replace Ex_b43 := Ex_b43.keep K44
          show own_Go p e below s _ _ _ (T44.setTop (mkF m 60 #[iv p1, iv p2, iv p3, iv p4, iv p5, iv p6, rv b1, iv (0 : Int32), iv (2 : Int32), .unset, .unset, .unset] [(.ref b43)]))
          refine own_go (fun zt zk => (XS.astore X44.here hx rfl (hb hby at_60) rfl rfl (l' := #[iv p1, iv p2, iv p3, iv p4, iv p5, iv p6, rv b1, iv (0 : Int32), iv (2 : Int32), rv b43, .unset, .unset]) rfl (XS.aload X44.here hx rfl (hb hby at_62) rfl rfl (XS.aload X44.here hx rfl (hb hby at_64) rfl rfl zk)))) ?_
          show own_Go p e below s _ _ _ (T44.setTop (mkF m 66 #[iv p1, iv p2, iv p3, iv p4, iv p5, iv p6, rv b1, iv (0 : Int32), iv (2 : Int32), rv b43, .unset, .unset] [(.ref b1), (.ref b43)]))
          obtain ⟨cq45, kq45, qa45, qb45, qc45⟩ := isOf hZ rfl Ex_b43
          obtain ⟨_, _, ⟨T45, L45, k45, n45⟩, -, X45, ⟨Lc45, hQ45, l45, y45, z45⟩, st45⟩ := X44.virtualBack hx (y := (⟨"com/example/tranche/tranche/model/Span", "bytesIn", "([B)[B"⟩ : MethodName)) (z := (⟨"com/example/tranche/tranche/model/Span", "bytesIn", "([B)[B"⟩ : MethodName)) hown (mvT hZ (hw _ (List.mem_of_getElem? (i := 20) rfl))) (mvT hZ (hw _ (List.mem_of_getElem? (i := 21) rfl))) (notFace_of_selects (args := #[]) (mvT hZ (hw _ (List.mem_of_getElem? (i := 23) rfl)))) (mvT hZ (hw _ (List.mem_of_getElem? (i := 23) rfl))) (mvT hZ (hw _ (List.mem_of_getElem? (i := 22) rfl))) (by decide) (backOf (W := 0) (own_rbi02 l Z a0 hw [] b43 b1 k1 (.int (p1.toInt8.toInt32)) (.int (p2.toInt8.toInt32)) (.int (p3.toInt8.toInt32)) (.int (p4.toInt8.toInt32)) T44.heap n0 (Nat.le_trans Z0 Kp.1) V_b1 Ea_b1 F_start_b43 F_end_b43) hZ (hw _ (List.mem_of_getElem? (i := 24) rfl)) (hw _ (List.mem_of_getElem? (i := 4) rfl)) (by decide) (by decide)) qa45 qc45 (g := (mkF m 66 #[iv p1, iv p2, iv p3, iv p4, iv p5, iv p6, rv b1, iv (0 : Int32), iv (2 : Int32), rv b43, .unset, .unset] [(.ref b1), (.ref b43)])) rfl (by rw [hml]; rfl) (Steps.refl _) (argsL := [(.ref b1)]) (rest := []) (lenOf own_pd___B__B rfl) rfl (by show 2 * 0 + _ ≤ _; exact Nat.le_of_eq rfl) (hb hby at_66) (fun _ _ => ⟨rfl, rfl, (by decide : 2 + 1 ≤ _), (by decide : 6 + 2 ≤ _)⟩)
          dsimp only [Pt.U, Pt.locs, Pt.cells, Pt.slots] at X45 l45 y45 z45 st45 hQ45
          subst l45 y45 z45
          obtain ⟨r45, kr45, rfl, Nq45, K45, sr45, Ea_r45, V_r45⟩ := hQ45
          have sz_r45 := Nat.le_trans Kp.1 sr45
          have g_r45 := Nat.le_trans Z0 sz_r45
          have ne_b1_r45 : b1 ≠ r45 := Nat.ne_of_lt (Nat.lt_of_lt_of_le V_b1.lt sr45)
          have ne_b43_r45 : b43 ≠ r45 := Nat.ne_of_lt (Nat.lt_of_lt_of_le Ex_b43.lt sr45)
          have N45 := Fr.app N44 Nq45
          refine own_go (fun zt zk => st45.trans zk) ?_
          replace Kp := Kp.trans K45 all0
          replace V_b1 := V_b1.keep K45 nin0
          replace Ea_b1 := Ea_b1.keep K45
          replace Ex_b43 := Ex_b43.keep K45
          replace F_start_b43 := F_start_b43.keep K45 nin0
          replace F_end_b43 := F_end_b43.keep K45 nin0
          show own_Go p e below s _ _ _ (T45.setTop (mkF m 69 #[iv p1, iv p2, iv p3, iv p4, iv p5, iv p6, rv b1, iv (0 : Int32), iv (2 : Int32), rv b43, .unset, .unset] [(.ref r45)]))
          refine own_go (fun zt zk => (XS.astore X45.here hx rfl (hb hby at_69) rfl rfl (l' := #[iv p1, iv p2, iv p3, iv p4, iv p5, iv p6, rv b1, iv (0 : Int32), iv (2 : Int32), rv b43, rv r45, .unset]) rfl (XS.aload X45.here hx rfl (hb hby at_71) rfl rfl (XS.ifnonnullYes X45.here hx rfl (pc0 := 73) (pc' := 78) rfl (hb hby at_73) rfl (by decide) (by decide) (XS.aload X45.here hx rfl (hb hby at_78) rfl rfl zk))))) ?_
          show own_Go p e below s _ _ _ (T45.setTop (mkF m 80 #[iv p1, iv p2, iv p3, iv p4, iv p5, iv p6, rv b1, iv (0 : Int32), iv (2 : Int32), rv b43, rv r45, .unset] [(.ref r45)]))
          obtain ⟨cl46, Ar46, -, Sz46, Nz46, -, -⟩ := id V_r45
          refine own_go (X45.arraylength hx (by exact Ar46.1) (State.isArrayOf_alike hZ.alike Ar46.2.1) (g := (mkF m 80 #[iv p1, iv p2, iv p3, iv p4, iv p5, iv p6, rv b1, iv (0 : Int32), iv (2 : Int32), rv b43, rv r45, .unset] [(.ref r45)])) rfl rfl (hb hby at_80)) ?_
          rw [len_of Sz46 Nz46]
          show own_Go p e below s _ _ _ (T45.setTop (mkF m 81 #[iv p1, iv p2, iv p3, iv p4, iv p5, iv p6, rv b1, iv (0 : Int32), iv (2 : Int32), rv b43, rv r45, .unset] [(.int (2 : Int32))]))
          refine own_go (fun zt zk => (XS.iload X45.here hx rfl (hb hby at_81) rfl (XS.iload X45.here hx rfl (hb hby at_83) rfl (XS.isub X45.here hx rfl (hb hby at_85) rfl (XS.icmpYes X45.here hx rfl (pc0 := 86) (pc' := 91) rfl (hb hby at_86) rfl (teq (rfl : (2 : Int32) = (2 : Int32))).1 (by decide) (by decide) (XS.iconst X45.here hx rfl (hb hby at_91) (XS.istore X45.here hx rfl (hb hby at_92) rfl (l' := #[iv p1, iv p2, iv p3, iv p4, iv p5, iv p6, rv b1, iv (0 : Int32), iv (2 : Int32), rv b43, rv r45, iv (1 : Int32)]) rfl (XS.aload X45.here hx rfl (hb hby at_94) rfl rfl zk)))))))) ?_
          show own_Go p e below s _ _ _ (T45.setTop (mkF m 96 #[iv p1, iv p2, iv p3, iv p4, iv p5, iv p6, rv b1, iv (0 : Int32), iv (2 : Int32), rv b43, rv r45, iv (1 : Int32)] [(.ref r45)]))
          obtain ⟨cl47, Ar47, -, Sz47, Nz47, -, -⟩ := id V_r45
          refine own_go (X45.arraylength hx (by exact Ar47.1) (State.isArrayOf_alike hZ.alike Ar47.2.1) (g := (mkF m 96 #[iv p1, iv p2, iv p3, iv p4, iv p5, iv p6, rv b1, iv (0 : Int32), iv (2 : Int32), rv b43, rv r45, iv (1 : Int32)] [(.ref r45)])) rfl rfl (hb hby at_96)) ?_
          rw [len_of Sz47 Nz47]
          show own_Go p e below s _ _ _ (T45.setTop (mkF m 97 #[iv p1, iv p2, iv p3, iv p4, iv p5, iv p6, rv b1, iv (0 : Int32), iv (2 : Int32), rv b43, rv r45, iv (1 : Int32)] [(.int (2 : Int32))]))
          refine own_go (fun zt zk => (XS.ifNo X45.here hx rfl (hb hby at_97) rfl ((if0 _ _).trans (tlt ((by decide) : (0 : Int32) < (2 : Int32))).2.2.2) (XS.iload X45.here hx rfl (hb hby at_100) rfl (XS.ifNo X45.here hx rfl (hb hby at_102) rfl ((if0 _ _).trans (feq ((by decide) : ¬ ((1 : Int32) = (0 : Int32)))).1) (XS.aload X45.here hx rfl (hb hby at_105) rfl rfl (XS.iconst X45.here hx rfl (hb hby at_107) zk)))))) ?_
          show own_Go p e below s _ _ _ (T45.setTop (mkF m 108 #[iv p1, iv p2, iv p3, iv p4, iv p5, iv p6, rv b1, iv (0 : Int32), iv (2 : Int32), rv b43, rv r45, iv (1 : Int32)] [(.int (0 : Int32)), (.ref r45)]))
          obtain ⟨cl48, Ar48, q48, Sz48, Nz48, Ha48, Ga48⟩ := id V_r45
          have hin48 : ¬ ((0 : Int32) < 0 ∨ cl48.slots.size ≤ ((0 : Int32)).toNatClampNeg) := inb_of Sz48 ⟨by decide, by decide⟩
          have hat48 : cl48.slots[((0 : Int32)).toNatClampNeg]? = some (.int (p1.toInt8.toInt32)) := Has.at Ha48 hin48 rfl
          refine own_go (X45.baloadBytes hx (j := (0 : Int32)) (v := (.int (p1.toInt8.toInt32))) (by exact Ar48.1) (State.isArrayOf_alike hZ.alike Ar48.2.1) Ar48.2.2 hin48 hat48 (g := (mkF m 108 #[iv p1, iv p2, iv p3, iv p4, iv p5, iv p6, rv b1, iv (0 : Int32), iv (2 : Int32), rv b43, rv r45, iv (1 : Int32)] [(.int (0 : Int32)), (.ref r45)])) rfl rfl (hb hby at_108)) ?_
          show own_Go p e below s _ _ _ (T45.setTop (mkF m 109 #[iv p1, iv p2, iv p3, iv p4, iv p5, iv p6, rv b1, iv (0 : Int32), iv (2 : Int32), rv b43, rv r45, iv (1 : Int32)] [(.int (p1.toInt8.toInt32))]))
          refine own_go (fun zt zk => (XS.iload X45.here hx rfl (hb hby at_109) rfl (XS.iloadN X45.here hx rfl (hb hby at_111) rfl (XS.iloadN X45.here hx rfl (hb hby at_112) rfl (XS.iloadN X45.here hx rfl (hb hby at_113) rfl (XS.iloadN X45.here hx rfl (hb hby at_114) rfl zk)))))) ?_
          show own_Go p e below s _ _ _ (T45.setTop (mkF m 115 #[iv p1, iv p2, iv p3, iv p4, iv p5, iv p6, rv b1, iv (0 : Int32), iv (2 : Int32), rv b43, rv r45, iv (1 : Int32)] [(.int p4), (.int p3), (.int p2), (.int p1), (.int (0 : Int32)), (.int (p1.toInt8.toInt32))]))
          obtain ⟨_, _, ⟨T49, L49, k49, n49⟩, -, X49, ⟨Lc49, hQ49, l49, y49, z49⟩, st49⟩ := Jvm.LawKit.callS X45 hx (y := (⟨"com/example/tranche/tranche/model/SpanBytesInPinLaw", "at", "(IIIII)B"⟩ : MethodName)) hown (mvT hZ (hw _ (List.mem_of_getElem? (i := 43) rfl))) (mvT hZ (hw _ (List.mem_of_getElem? (i := 44) rfl))) (mvT hZ (hw _ (List.mem_of_getElem? (i := 45) rfl))) (mvT hZ (hw _ (List.mem_of_getElem? (i := 46) rfl))) (by decide) (backOf (W := 1) (own_rat0 l Z a0 hw [] p1 p2 p3 p4  T45.heap n0 (Nat.le_trans Z0 Kp.1) ) hZ (hw _ (List.mem_of_getElem? (i := 46) rfl)) (hw _ (List.mem_of_getElem? (i := 45) rfl)) (by decide) (by decide)) (g := (mkF m 115 #[iv p1, iv p2, iv p3, iv p4, iv p5, iv p6, rv b1, iv (0 : Int32), iv (2 : Int32), rv b43, rv r45, iv (1 : Int32)] [(.int p4), (.int p3), (.int p2), (.int p1), (.int (0 : Int32)), (.int (p1.toInt8.toInt32))])) rfl (by rw [hml]; rfl) (argsL := [(.int (0 : Int32)), (.int p1), (.int p2), (.int p3), (.int p4)]) (rest := [(.int (p1.toInt8.toInt32))]) (lenOf own_pd__IIIII_B rfl) rfl (by show 2 * 0 + _ ≤ _; exact Nat.le_of_eq rfl) (hb hby at_115) (fun _ _ => ⟨rfl, rfl, (by decide : 3 + 0 ≤ _), (by decide : 8 + 0 ≤ _)⟩)
          dsimp only [Pt.U, Pt.locs, Pt.cells, Pt.slots] at X49 l49 y49 z49 st49 hQ49
          subst l49 y49 z49
          obtain ⟨rfl, Nq49, e49⟩ := hQ49
          have N49 := Fr.app N45 Nq49
          refine own_go st49 ?_
          show own_Go p e below s _ _ _ (T49.setTop (mkF m 118 #[iv p1, iv p2, iv p3, iv p4, iv p5, iv p6, rv b1, iv (0 : Int32), iv (2 : Int32), rv b43, rv r45, iv (1 : Int32)] [(.int (p1.toInt8.toInt32)), (.int (p1.toInt8.toInt32))]))
          refine own_go (fun zt zk => (XS.icmpNo X49.here hx rfl (hb hby at_118) rfl (teq (rfl : (p1.toInt8.toInt32) = (p1.toInt8.toInt32))).2 (XS.iconst X49.here hx rfl (hb hby at_121) (XS.goto X49.here hx rfl (pc0 := 122) (pc' := 126) rfl (hb hby at_122) (by decide) (by decide) (XS.istore X49.here hx rfl (hb hby at_126) rfl (l' := #[iv p1, iv p2, iv p3, iv p4, iv p5, iv p6, rv b1, iv (0 : Int32), iv (2 : Int32), rv b43, rv r45, iv (1 : Int32)]) rfl (XS.aload X49.here hx rfl (hb hby at_128) rfl rfl zk)))))) ?_
          show own_Go p e below s _ _ _ (T49.setTop (mkF m 130 #[iv p1, iv p2, iv p3, iv p4, iv p5, iv p6, rv b1, iv (0 : Int32), iv (2 : Int32), rv b43, rv r45, iv (1 : Int32)] [(.ref r45)]))
          obtain ⟨cl50, Ar50, -, Sz50, Nz50, -, -⟩ := id V_r45
          refine own_go (X49.arraylength hx (by rw [e49]; exact Ar50.1) (State.isArrayOf_alike hZ.alike Ar50.2.1) (g := (mkF m 130 #[iv p1, iv p2, iv p3, iv p4, iv p5, iv p6, rv b1, iv (0 : Int32), iv (2 : Int32), rv b43, rv r45, iv (1 : Int32)] [(.ref r45)])) rfl rfl (hb hby at_130)) ?_
          rw [len_of Sz50 Nz50]
          show own_Go p e below s _ _ _ (T49.setTop (mkF m 131 #[iv p1, iv p2, iv p3, iv p4, iv p5, iv p6, rv b1, iv (0 : Int32), iv (2 : Int32), rv b43, rv r45, iv (1 : Int32)] [(.int (2 : Int32))]))
          refine own_go (fun zt zk => (XS.iconst X49.here hx rfl (hb hby at_131) (XS.icmpNo X49.here hx rfl (hb hby at_132) rfl (tlt ((by decide) : (1 : Int32) < (2 : Int32))).2.2.2 (XS.iload X49.here hx rfl (hb hby at_135) rfl (XS.ifNo X49.here hx rfl (hb hby at_137) rfl ((if0 _ _).trans (feq ((by decide) : ¬ ((1 : Int32) = (0 : Int32)))).1) (XS.aload X49.here hx rfl (hb hby at_140) rfl rfl (XS.iconst X49.here hx rfl (hb hby at_142) zk))))))) ?_
          show own_Go p e below s _ _ _ (T49.setTop (mkF m 143 #[iv p1, iv p2, iv p3, iv p4, iv p5, iv p6, rv b1, iv (0 : Int32), iv (2 : Int32), rv b43, rv r45, iv (1 : Int32)] [(.int (1 : Int32)), (.ref r45)]))
          obtain ⟨cl51, Ar51, q51, Sz51, Nz51, Ha51, Ga51⟩ := id V_r45
          have hin51 : ¬ ((1 : Int32) < 0 ∨ cl51.slots.size ≤ ((1 : Int32)).toNatClampNeg) := inb_of Sz51 ⟨by decide, by decide⟩
          have hat51 : cl51.slots[((1 : Int32)).toNatClampNeg]? = some (.int (p2.toInt8.toInt32)) := Has.at Ha51 hin51 rfl
          refine own_go (X49.baloadBytes hx (j := (1 : Int32)) (v := (.int (p2.toInt8.toInt32))) (by rw [e49]; exact Ar51.1) (State.isArrayOf_alike hZ.alike Ar51.2.1) Ar51.2.2 hin51 hat51 (g := (mkF m 143 #[iv p1, iv p2, iv p3, iv p4, iv p5, iv p6, rv b1, iv (0 : Int32), iv (2 : Int32), rv b43, rv r45, iv (1 : Int32)] [(.int (1 : Int32)), (.ref r45)])) rfl rfl (hb hby at_143)) ?_
          show own_Go p e below s _ _ _ (T49.setTop (mkF m 144 #[iv p1, iv p2, iv p3, iv p4, iv p5, iv p6, rv b1, iv (0 : Int32), iv (2 : Int32), rv b43, rv r45, iv (1 : Int32)] [(.int (p2.toInt8.toInt32))]))
          refine own_go (fun zt zk => (XS.iload X49.here hx rfl (hb hby at_144) rfl (XS.iconst X49.here hx rfl (hb hby at_146) (XS.iadd X49.here hx rfl (hb hby at_147) rfl (XS.iloadN X49.here hx rfl (hb hby at_148) rfl (XS.iloadN X49.here hx rfl (hb hby at_149) rfl (XS.iloadN X49.here hx rfl (hb hby at_150) rfl (XS.iloadN X49.here hx rfl (hb hby at_151) rfl zk)))))))) ?_
          show own_Go p e below s _ _ _ (T49.setTop (mkF m 152 #[iv p1, iv p2, iv p3, iv p4, iv p5, iv p6, rv b1, iv (0 : Int32), iv (2 : Int32), rv b43, rv r45, iv (1 : Int32)] [(.int p4), (.int p3), (.int p2), (.int p1), (.int (1 : Int32)), (.int (p2.toInt8.toInt32))]))
          obtain ⟨_, _, ⟨T52, L52, k52, n52⟩, -, X52, ⟨Lc52, hQ52, l52, y52, z52⟩, st52⟩ := Jvm.LawKit.callS X49 hx (y := (⟨"com/example/tranche/tranche/model/SpanBytesInPinLaw", "at", "(IIIII)B"⟩ : MethodName)) hown (mvT hZ (hw _ (List.mem_of_getElem? (i := 43) rfl))) (mvT hZ (hw _ (List.mem_of_getElem? (i := 44) rfl))) (mvT hZ (hw _ (List.mem_of_getElem? (i := 45) rfl))) (mvT hZ (hw _ (List.mem_of_getElem? (i := 46) rfl))) (by decide) (backOf (W := 1) (own_rat1 l Z a0 hw [] p1 p2 p3 p4  T45.heap n0 (Nat.le_trans Z0 Kp.1) ) hZ (hw _ (List.mem_of_getElem? (i := 46) rfl)) (hw _ (List.mem_of_getElem? (i := 45) rfl)) (by decide) (by decide)) (g := (mkF m 152 #[iv p1, iv p2, iv p3, iv p4, iv p5, iv p6, rv b1, iv (0 : Int32), iv (2 : Int32), rv b43, rv r45, iv (1 : Int32)] [(.int p4), (.int p3), (.int p2), (.int p1), (.int (1 : Int32)), (.int (p2.toInt8.toInt32))])) rfl (by rw [hml]; rfl) (argsL := [(.int (1 : Int32)), (.int p1), (.int p2), (.int p3), (.int p4)]) (rest := [(.int (p2.toInt8.toInt32))]) (lenOf own_pd__IIIII_B rfl) rfl (by show 2 * 0 + _ ≤ _; exact Nat.le_of_eq rfl) (hb hby at_152) (fun _ _ => ⟨rfl, e49, (by decide : 3 + 0 ≤ _), (by decide : 8 + 0 ≤ _)⟩)
          dsimp only [Pt.U, Pt.locs, Pt.cells, Pt.slots] at X52 l52 y52 z52 st52 hQ52
          subst l52 y52 z52
          obtain ⟨rfl, Nq52, e52⟩ := hQ52
          have N52 := Fr.app N49 Nq52
          refine own_go st52 ?_
          show own_Go p e below s _ _ _ (T52.setTop (mkF m 155 #[iv p1, iv p2, iv p3, iv p4, iv p5, iv p6, rv b1, iv (0 : Int32), iv (2 : Int32), rv b43, rv r45, iv (1 : Int32)] [(.int (p2.toInt8.toInt32)), (.int (p2.toInt8.toInt32))]))
          refine own_go (fun zt zk => (XS.icmpNo X52.here hx rfl (hb hby at_155) rfl (teq (rfl : (p2.toInt8.toInt32) = (p2.toInt8.toInt32))).2 (XS.iconst X52.here hx rfl (hb hby at_158) (XS.goto X52.here hx rfl (pc0 := 159) (pc' := 163) rfl (hb hby at_159) (by decide) (by decide) (XS.istore X52.here hx rfl (hb hby at_163) rfl (l' := #[iv p1, iv p2, iv p3, iv p4, iv p5, iv p6, rv b1, iv (0 : Int32), iv (2 : Int32), rv b43, rv r45, iv (1 : Int32)]) rfl (XS.aload X52.here hx rfl (hb hby at_165) rfl rfl zk)))))) ?_
          show own_Go p e below s _ _ _ (T52.setTop (mkF m 167 #[iv p1, iv p2, iv p3, iv p4, iv p5, iv p6, rv b1, iv (0 : Int32), iv (2 : Int32), rv b43, rv r45, iv (1 : Int32)] [(.ref r45)]))
          obtain ⟨cl53, Ar53, -, Sz53, Nz53, -, -⟩ := id V_r45
          refine own_go (X52.arraylength hx (by rw [e52]; exact Ar53.1) (State.isArrayOf_alike hZ.alike Ar53.2.1) (g := (mkF m 167 #[iv p1, iv p2, iv p3, iv p4, iv p5, iv p6, rv b1, iv (0 : Int32), iv (2 : Int32), rv b43, rv r45, iv (1 : Int32)] [(.ref r45)])) rfl rfl (hb hby at_167)) ?_
          rw [len_of Sz53 Nz53]
          show own_Go p e below s _ _ _ (T52.setTop (mkF m 168 #[iv p1, iv p2, iv p3, iv p4, iv p5, iv p6, rv b1, iv (0 : Int32), iv (2 : Int32), rv b43, rv r45, iv (1 : Int32)] [(.int (2 : Int32))]))
          refine own_go (fun zt zk => (XS.iconst X52.here hx rfl (hb hby at_168) (XS.icmpYes X52.here hx rfl (pc0 := 169) (pc' := 202) rfl (hb hby at_169) rfl (flt ((own_irr _) : ¬ ((2 : Int32) < (2 : Int32)))).2.2.2 (by decide) (by decide) (XS.aload X52.here hx rfl (hb hby at_202) rfl rfl zk)))) ?_
          show own_Go p e below s _ _ _ (T52.setTop (mkF m 204 #[iv p1, iv p2, iv p3, iv p4, iv p5, iv p6, rv b1, iv (0 : Int32), iv (2 : Int32), rv b43, rv r45, iv (1 : Int32)] [(.ref r45)]))
          obtain ⟨cl54, Ar54, -, Sz54, Nz54, -, -⟩ := id V_r45
          refine own_go (X52.arraylength hx (by rw [e52]; exact Ar54.1) (State.isArrayOf_alike hZ.alike Ar54.2.1) (g := (mkF m 204 #[iv p1, iv p2, iv p3, iv p4, iv p5, iv p6, rv b1, iv (0 : Int32), iv (2 : Int32), rv b43, rv r45, iv (1 : Int32)] [(.ref r45)])) rfl rfl (hb hby at_204)) ?_
          rw [len_of Sz54 Nz54]
          show own_Go p e below s _ _ _ (T52.setTop (mkF m 205 #[iv p1, iv p2, iv p3, iv p4, iv p5, iv p6, rv b1, iv (0 : Int32), iv (2 : Int32), rv b43, rv r45, iv (1 : Int32)] [(.int (2 : Int32))]))
          refine own_go (fun zt zk => (XS.iconst X52.here hx rfl (hb hby at_205) (XS.icmpYes X52.here hx rfl (pc0 := 206) (pc' := 239) rfl (hb hby at_206) rfl (flt ((by decide) : ¬ ((3 : Int32) < (2 : Int32)))).2.2.2 (by decide) (by decide) (XS.iload X52.here hx rfl (hb hby at_239) rfl (XS.ifNo X52.here hx rfl (hb hby at_241) rfl ((if0 _ _).trans (feq ((by decide) : ¬ ((1 : Int32) = (0 : Int32)))).1) (XS.aload X52.here hx rfl (hb hby at_244) rfl rfl (XS.iconst X52.here hx rfl (hb hby at_246) zk))))))) ?_
          show own_Go p e below s _ _ _ (T52.setTop (mkF m 247 #[iv p1, iv p2, iv p3, iv p4, iv p5, iv p6, rv b1, iv (0 : Int32), iv (2 : Int32), rv b43, rv r45, iv (1 : Int32)] [(.int (0 : Int32)), (.ref b1)]))
          obtain ⟨cl55, Ar55, q55, Sz55, Nz55, Ha55, Ga55⟩ := id V_b1
          have hin55 : ¬ ((0 : Int32) < 0 ∨ cl55.slots.size ≤ ((0 : Int32)).toNatClampNeg) := inb_of Sz55 ⟨by decide, by decide⟩
          have hat55 : cl55.slots[((0 : Int32)).toNatClampNeg]? = some (.int (p1.toInt8.toInt32)) := Has.at Ha55 hin55 rfl
          refine own_go (X52.baloadBytes hx (j := (0 : Int32)) (v := (.int (p1.toInt8.toInt32))) (by rw [e52]; exact Ar55.1) (State.isArrayOf_alike hZ.alike Ar55.2.1) Ar55.2.2 hin55 hat55 (g := (mkF m 247 #[iv p1, iv p2, iv p3, iv p4, iv p5, iv p6, rv b1, iv (0 : Int32), iv (2 : Int32), rv b43, rv r45, iv (1 : Int32)] [(.int (0 : Int32)), (.ref b1)])) rfl rfl (hb hby at_247)) ?_
          show own_Go p e below s _ _ _ (T52.setTop (mkF m 248 #[iv p1, iv p2, iv p3, iv p4, iv p5, iv p6, rv b1, iv (0 : Int32), iv (2 : Int32), rv b43, rv r45, iv (1 : Int32)] [(.int (p1.toInt8.toInt32))]))
          refine own_go (fun zt zk => (XS.iloadN X52.here hx rfl (hb hby at_248) rfl (XS.i2b X52.here hx rfl (hb hby at_249) rfl (XS.icmpNo X52.here hx rfl (hb hby at_250) rfl (teq (rfl : (p1.toInt8.toInt32) = (p1.toInt8.toInt32))).2 (XS.aload X52.here hx rfl (hb hby at_253) rfl rfl (XS.iconst X52.here hx rfl (hb hby at_255) zk)))))) ?_
          show own_Go p e below s _ _ _ (T52.setTop (mkF m 256 #[iv p1, iv p2, iv p3, iv p4, iv p5, iv p6, rv b1, iv (0 : Int32), iv (2 : Int32), rv b43, rv r45, iv (1 : Int32)] [(.int (1 : Int32)), (.ref b1)]))
          obtain ⟨cl56, Ar56, q56, Sz56, Nz56, Ha56, Ga56⟩ := id V_b1
          have hin56 : ¬ ((1 : Int32) < 0 ∨ cl56.slots.size ≤ ((1 : Int32)).toNatClampNeg) := inb_of Sz56 ⟨by decide, by decide⟩
          have hat56 : cl56.slots[((1 : Int32)).toNatClampNeg]? = some (.int (p2.toInt8.toInt32)) := Has.at Ha56 hin56 rfl
          refine own_go (X52.baloadBytes hx (j := (1 : Int32)) (v := (.int (p2.toInt8.toInt32))) (by rw [e52]; exact Ar56.1) (State.isArrayOf_alike hZ.alike Ar56.2.1) Ar56.2.2 hin56 hat56 (g := (mkF m 256 #[iv p1, iv p2, iv p3, iv p4, iv p5, iv p6, rv b1, iv (0 : Int32), iv (2 : Int32), rv b43, rv r45, iv (1 : Int32)] [(.int (1 : Int32)), (.ref b1)])) rfl rfl (hb hby at_256)) ?_
          show own_Go p e below s _ _ _ (T52.setTop (mkF m 257 #[iv p1, iv p2, iv p3, iv p4, iv p5, iv p6, rv b1, iv (0 : Int32), iv (2 : Int32), rv b43, rv r45, iv (1 : Int32)] [(.int (p2.toInt8.toInt32))]))
          refine own_go (fun zt zk => (XS.iloadN X52.here hx rfl (hb hby at_257) rfl (XS.i2b X52.here hx rfl (hb hby at_258) rfl (XS.icmpNo X52.here hx rfl (hb hby at_259) rfl (teq (rfl : (p2.toInt8.toInt32) = (p2.toInt8.toInt32))).2 (XS.aload X52.here hx rfl (hb hby at_262) rfl rfl (XS.iconst X52.here hx rfl (hb hby at_264) zk)))))) ?_
          show own_Go p e below s _ _ _ (T52.setTop (mkF m 265 #[iv p1, iv p2, iv p3, iv p4, iv p5, iv p6, rv b1, iv (0 : Int32), iv (2 : Int32), rv b43, rv r45, iv (1 : Int32)] [(.int (2 : Int32)), (.ref b1)]))
          obtain ⟨cl57, Ar57, q57, Sz57, Nz57, Ha57, Ga57⟩ := id V_b1
          have hin57 : ¬ ((2 : Int32) < 0 ∨ cl57.slots.size ≤ ((2 : Int32)).toNatClampNeg) := inb_of Sz57 ⟨by decide, by decide⟩
          have hat57 : cl57.slots[((2 : Int32)).toNatClampNeg]? = some (.int (p3.toInt8.toInt32)) := Has.at Ha57 hin57 rfl
          refine own_go (X52.baloadBytes hx (j := (2 : Int32)) (v := (.int (p3.toInt8.toInt32))) (by rw [e52]; exact Ar57.1) (State.isArrayOf_alike hZ.alike Ar57.2.1) Ar57.2.2 hin57 hat57 (g := (mkF m 265 #[iv p1, iv p2, iv p3, iv p4, iv p5, iv p6, rv b1, iv (0 : Int32), iv (2 : Int32), rv b43, rv r45, iv (1 : Int32)] [(.int (2 : Int32)), (.ref b1)])) rfl rfl (hb hby at_265)) ?_
          show own_Go p e below s _ _ _ (T52.setTop (mkF m 266 #[iv p1, iv p2, iv p3, iv p4, iv p5, iv p6, rv b1, iv (0 : Int32), iv (2 : Int32), rv b43, rv r45, iv (1 : Int32)] [(.int (p3.toInt8.toInt32))]))
          refine own_go (fun zt zk => (XS.iloadN X52.here hx rfl (hb hby at_266) rfl (XS.i2b X52.here hx rfl (hb hby at_267) rfl (XS.icmpNo X52.here hx rfl (hb hby at_268) rfl (teq (rfl : (p3.toInt8.toInt32) = (p3.toInt8.toInt32))).2 (XS.aload X52.here hx rfl (hb hby at_271) rfl rfl (XS.iconst X52.here hx rfl (hb hby at_273) zk)))))) ?_
          show own_Go p e below s _ _ _ (T52.setTop (mkF m 274 #[iv p1, iv p2, iv p3, iv p4, iv p5, iv p6, rv b1, iv (0 : Int32), iv (2 : Int32), rv b43, rv r45, iv (1 : Int32)] [(.int (3 : Int32)), (.ref b1)]))
          obtain ⟨cl58, Ar58, q58, Sz58, Nz58, Ha58, Ga58⟩ := id V_b1
          have hin58 : ¬ ((3 : Int32) < 0 ∨ cl58.slots.size ≤ ((3 : Int32)).toNatClampNeg) := inb_of Sz58 ⟨by decide, by decide⟩
          have hat58 : cl58.slots[((3 : Int32)).toNatClampNeg]? = some (.int (p4.toInt8.toInt32)) := Has.at Ha58 hin58 rfl
          refine own_go (X52.baloadBytes hx (j := (3 : Int32)) (v := (.int (p4.toInt8.toInt32))) (by rw [e52]; exact Ar58.1) (State.isArrayOf_alike hZ.alike Ar58.2.1) Ar58.2.2 hin58 hat58 (g := (mkF m 274 #[iv p1, iv p2, iv p3, iv p4, iv p5, iv p6, rv b1, iv (0 : Int32), iv (2 : Int32), rv b43, rv r45, iv (1 : Int32)] [(.int (3 : Int32)), (.ref b1)])) rfl rfl (hb hby at_274)) ?_
          show own_Go p e below s _ _ _ (T52.setTop (mkF m 275 #[iv p1, iv p2, iv p3, iv p4, iv p5, iv p6, rv b1, iv (0 : Int32), iv (2 : Int32), rv b43, rv r45, iv (1 : Int32)] [(.int (p4.toInt8.toInt32))]))
          refine own_go (fun zt zk => (XS.iloadN X52.here hx rfl (hb hby at_275) rfl (XS.i2b X52.here hx rfl (hb hby at_276) rfl (XS.icmpNo X52.here hx rfl (hb hby at_277) rfl (teq (rfl : (p4.toInt8.toInt32) = (p4.toInt8.toInt32))).2 (XS.iconst X52.here hx rfl (hb hby at_280) (XS.goto X52.here hx rfl (pc0 := 281) (pc' := 285) rfl (hb hby at_281) (by decide) (by decide) (XS.istore X52.here hx rfl (hb hby at_285) rfl (l' := #[iv p1, iv p2, iv p3, iv p4, iv p5, iv p6, rv b1, iv (0 : Int32), iv (2 : Int32), rv b43, rv r45, iv (1 : Int32)]) rfl (XS.aload X52.here hx rfl (hb hby at_287) rfl rfl zk)))))))) ?_
          show own_Go p e below s _ _ _ (T52.setTop (mkF m 289 #[iv p1, iv p2, iv p3, iv p4, iv p5, iv p6, rv b1, iv (0 : Int32), iv (2 : Int32), rv b43, rv r45, iv (1 : Int32)] [(.ref r45)]))
          obtain ⟨cl59, Ar59, -, Sz59, Nz59, -, -⟩ := id V_r45
          refine own_go (X52.arraylength hx (by rw [e52]; exact Ar59.1) (State.isArrayOf_alike hZ.alike Ar59.2.1) (g := (mkF m 289 #[iv p1, iv p2, iv p3, iv p4, iv p5, iv p6, rv b1, iv (0 : Int32), iv (2 : Int32), rv b43, rv r45, iv (1 : Int32)] [(.ref r45)])) rfl rfl (hb hby at_289)) ?_
          rw [len_of Sz59 Nz59]
          show own_Go p e below s _ _ _ (T52.setTop (mkF m 290 #[iv p1, iv p2, iv p3, iv p4, iv p5, iv p6, rv b1, iv (0 : Int32), iv (2 : Int32), rv b43, rv r45, iv (1 : Int32)] [(.int (2 : Int32))]))
          refine own_go (fun zt zk => (XS.ifNo X52.here hx rfl (hb hby at_290) rfl ((if0 _ _).trans (tlt ((by decide) : (0 : Int32) < (2 : Int32))).2.2.2) (XS.aload X52.here hx rfl (hb hby at_293) rfl rfl (XS.iconst X52.here hx rfl (hb hby at_295) (XS.aload X52.here hx rfl (hb hby at_296) rfl rfl (XS.iconst X52.here hx rfl (hb hby at_298) zk)))))) ?_
          show own_Go p e below s _ _ _ (T52.setTop (mkF m 299 #[iv p1, iv p2, iv p3, iv p4, iv p5, iv p6, rv b1, iv (0 : Int32), iv (2 : Int32), rv b43, rv r45, iv (1 : Int32)] [(.int (0 : Int32)), (.ref r45), (.int (0 : Int32)), (.ref r45)]))
          obtain ⟨cl60, Ar60, q60, Sz60, Nz60, Ha60, Ga60⟩ := id V_r45
          have hin60 : ¬ ((0 : Int32) < 0 ∨ cl60.slots.size ≤ ((0 : Int32)).toNatClampNeg) := inb_of Sz60 ⟨by decide, by decide⟩
          have hat60 : cl60.slots[((0 : Int32)).toNatClampNeg]? = some (.int (p1.toInt8.toInt32)) := Has.at Ha60 hin60 rfl
          refine own_go (X52.baloadBytes hx (j := (0 : Int32)) (v := (.int (p1.toInt8.toInt32))) (by rw [e52]; exact Ar60.1) (State.isArrayOf_alike hZ.alike Ar60.2.1) Ar60.2.2 hin60 hat60 (g := (mkF m 299 #[iv p1, iv p2, iv p3, iv p4, iv p5, iv p6, rv b1, iv (0 : Int32), iv (2 : Int32), rv b43, rv r45, iv (1 : Int32)] [(.int (0 : Int32)), (.ref r45), (.int (0 : Int32)), (.ref r45)])) rfl rfl (hb hby at_299)) ?_
          show own_Go p e below s _ _ _ (T52.setTop (mkF m 300 #[iv p1, iv p2, iv p3, iv p4, iv p5, iv p6, rv b1, iv (0 : Int32), iv (2 : Int32), rv b43, rv r45, iv (1 : Int32)] [(.int (p1.toInt8.toInt32)), (.int (0 : Int32)), (.ref r45)]))
          refine own_go (fun zt zk => (XS.iconst X52.here hx rfl (hb hby at_300) (XS.ixor X52.here hx rfl (hb hby at_301) rfl (XS.i2b X52.here hx rfl (hb hby at_302) rfl zk)))) ?_
          show own_Go p e below s _ _ _ (T52.setTop (mkF m 303 #[iv p1, iv p2, iv p3, iv p4, iv p5, iv p6, rv b1, iv (0 : Int32), iv (2 : Int32), rv b43, rv r45, iv (1 : Int32)] [(.int (((p1.toInt8.toInt32) ^^^ (1 : Int32)).toInt8.toInt32)), (.int (0 : Int32)), (.ref r45)]))
          obtain ⟨cl61, Ar61, q61, Sz61, Nz61, Ha61, Ga61⟩ := id V_r45
          have hin61 : ¬ ((0 : Int32) < 0 ∨ cl61.slots.size ≤ ((0 : Int32)).toNatClampNeg) := inb_of Sz61 ⟨by decide, by decide⟩
          obtain ⟨T62, h62, X62, e62, W62, st62⟩ := stB X52 hx hZ e52 Ar61 (j := (0 : Int32)) hin61 (g := (mkF m 303 #[iv p1, iv p2, iv p3, iv p4, iv p5, iv p6, rv b1, iv (0 : Int32), iv (2 : Int32), rv b43, rv r45, iv (1 : Int32)] [(.int (((p1.toInt8.toInt32) ^^^ (1 : Int32)).toInt8.toInt32)), (.int (0 : Int32)), (.ref r45)])) rfl rfl (hb hby at_303)
          refine own_go st62 ?_
          rw [show nar .byte (((p1.toInt8.toInt32) ^^^ (1 : Int32)).toInt8.toInt32) = (((p1.toInt8.toInt32) ^^^ (1 : Int32)).toInt8.toInt32) from own_b8 _] at W62
          have V62 := Arv.set Ar61 q61 Sz61 Nz61 Ha61 Ga61 (fits_nar_byte _) W62 0 rfl (Nat.le_of_ble_eq_true rfl)
          have N62 := Fr.snoc X62 N52 g_r45
          replace Kp := Kp.wr W62 (Or.inr sz_r45)
          replace V_b1 := V_b1.other W62 ne_b1_r45
          replace Ea_b1 := Ea_b1.wr W62
          replace Ex_b43 := Ex_b43.wr W62
          replace F_start_b43 := F_start_b43.other W62 (Or.inl ne_b43_r45)
          replace F_end_b43 := F_end_b43.other W62 (Or.inl ne_b43_r45)
          replace Ea_r45 := Ea_r45.wr W62
          replace V_r45 : Arv Z h62 r45 kr45 .byte (2 : Int32) [(.int (((p1.toInt8.toInt32) ^^^ (1 : Int32)).toInt8.toInt32)), (.int (p2.toInt8.toInt32))] (.int (0 : Int32)) := V62
          show own_Go p e below s _ _ _ (T62.setTop (mkF m 304 #[iv p1, iv p2, iv p3, iv p4, iv p5, iv p6, rv b1, iv (0 : Int32), iv (2 : Int32), rv b43, rv r45, iv (1 : Int32)] []))
          refine own_go (fun zt zk => (XS.iload X62.here hx rfl (hb hby at_304) rfl (XS.ifNo X62.here hx rfl (hb hby at_306) rfl ((if0 _ _).trans (feq ((by decide) : ¬ ((1 : Int32) = (0 : Int32)))).1) (XS.aload X62.here hx rfl (hb hby at_309) rfl rfl (XS.iload X62.here hx rfl (hb hby at_311) rfl zk))))) ?_
          show own_Go p e below s _ _ _ (T62.setTop (mkF m 313 #[iv p1, iv p2, iv p3, iv p4, iv p5, iv p6, rv b1, iv (0 : Int32), iv (2 : Int32), rv b43, rv r45, iv (1 : Int32)] [(.int (0 : Int32)), (.ref b1)]))
          obtain ⟨cl63, Ar63, q63, Sz63, Nz63, Ha63, Ga63⟩ := id V_b1
          have hin63 : ¬ ((0 : Int32) < 0 ∨ cl63.slots.size ≤ ((0 : Int32)).toNatClampNeg) := inb_of Sz63 ⟨by decide, by decide⟩
          have hat63 : cl63.slots[((0 : Int32)).toNatClampNeg]? = some (.int (p1.toInt8.toInt32)) := Has.at Ha63 hin63 rfl
          refine own_go (X62.baloadBytes hx (j := (0 : Int32)) (v := (.int (p1.toInt8.toInt32))) (by rw [e62]; exact Ar63.1) (State.isArrayOf_alike hZ.alike Ar63.2.1) Ar63.2.2 hin63 hat63 (g := (mkF m 313 #[iv p1, iv p2, iv p3, iv p4, iv p5, iv p6, rv b1, iv (0 : Int32), iv (2 : Int32), rv b43, rv r45, iv (1 : Int32)] [(.int (0 : Int32)), (.ref b1)])) rfl rfl (hb hby at_313)) ?_
          show own_Go p e below s _ _ _ (T62.setTop (mkF m 314 #[iv p1, iv p2, iv p3, iv p4, iv p5, iv p6, rv b1, iv (0 : Int32), iv (2 : Int32), rv b43, rv r45, iv (1 : Int32)] [(.int (p1.toInt8.toInt32))]))
          refine own_go (fun zt zk => (XS.iload X62.here hx rfl (hb hby at_314) rfl (XS.iloadN X62.here hx rfl (hb hby at_316) rfl (XS.iloadN X62.here hx rfl (hb hby at_317) rfl (XS.iloadN X62.here hx rfl (hb hby at_318) rfl (XS.iloadN X62.here hx rfl (hb hby at_319) rfl zk)))))) ?_
          show own_Go p e below s _ _ _ (T62.setTop (mkF m 320 #[iv p1, iv p2, iv p3, iv p4, iv p5, iv p6, rv b1, iv (0 : Int32), iv (2 : Int32), rv b43, rv r45, iv (1 : Int32)] [(.int p4), (.int p3), (.int p2), (.int p1), (.int (0 : Int32)), (.int (p1.toInt8.toInt32))]))
          obtain ⟨_, _, ⟨T64, L64, k64, n64⟩, -, X64, ⟨Lc64, hQ64, l64, y64, z64⟩, st64⟩ := Jvm.LawKit.callS X62 hx (y := (⟨"com/example/tranche/tranche/model/SpanBytesInPinLaw", "at", "(IIIII)B"⟩ : MethodName)) hown (mvT hZ (hw _ (List.mem_of_getElem? (i := 43) rfl))) (mvT hZ (hw _ (List.mem_of_getElem? (i := 44) rfl))) (mvT hZ (hw _ (List.mem_of_getElem? (i := 45) rfl))) (mvT hZ (hw _ (List.mem_of_getElem? (i := 46) rfl))) (by decide) (backOf (W := 1) (own_rat0 l Z a0 hw [] p1 p2 p3 p4  h62 n0 (Nat.le_trans Z0 Kp.1) ) hZ (hw _ (List.mem_of_getElem? (i := 46) rfl)) (hw _ (List.mem_of_getElem? (i := 45) rfl)) (by decide) (by decide)) (g := (mkF m 320 #[iv p1, iv p2, iv p3, iv p4, iv p5, iv p6, rv b1, iv (0 : Int32), iv (2 : Int32), rv b43, rv r45, iv (1 : Int32)] [(.int p4), (.int p3), (.int p2), (.int p1), (.int (0 : Int32)), (.int (p1.toInt8.toInt32))])) rfl (by rw [hml]; rfl) (argsL := [(.int (0 : Int32)), (.int p1), (.int p2), (.int p3), (.int p4)]) (rest := [(.int (p1.toInt8.toInt32))]) (lenOf own_pd__IIIII_B rfl) rfl (by show 2 * 0 + _ ≤ _; exact Nat.le_of_eq rfl) (hb hby at_320) (fun _ _ => ⟨rfl, e62, (by decide : 3 + 0 ≤ _), (by decide : 8 + 0 ≤ _)⟩)
          dsimp only [Pt.U, Pt.locs, Pt.cells, Pt.slots] at X64 l64 y64 z64 st64 hQ64
          subst l64 y64 z64
          obtain ⟨rfl, Nq64, e64⟩ := hQ64
          have N64 := Fr.app N62 Nq64
          refine own_go st64 ?_
          show own_Go p e below s _ _ _ (T64.setTop (mkF m 323 #[iv p1, iv p2, iv p3, iv p4, iv p5, iv p6, rv b1, iv (0 : Int32), iv (2 : Int32), rv b43, rv r45, iv (1 : Int32)] [(.int (p1.toInt8.toInt32)), (.int (p1.toInt8.toInt32))]))
          refine own_go (fun zt zk => (XS.icmpNo X64.here hx rfl (hb hby at_323) rfl (teq (rfl : (p1.toInt8.toInt32) = (p1.toInt8.toInt32))).2 (XS.iconst X64.here hx rfl (hb hby at_326) (XS.goto X64.here hx rfl (pc0 := 327) (pc' := 331) rfl (hb hby at_327) (by decide) (by decide) (XS.istore X64.here hx rfl (hb hby at_331) rfl (l' := #[iv p1, iv p2, iv p3, iv p4, iv p5, iv p6, rv b1, iv (0 : Int32), iv (2 : Int32), rv b43, rv r45, iv (1 : Int32)]) rfl (XS.iload X64.here hx rfl (hb hby at_333) rfl zk)))))) ?_
          show own_Go p e below s _ _ _ (T64.setTop (mkF m 335 #[iv p1, iv p2, iv p3, iv p4, iv p5, iv p6, rv b1, iv (0 : Int32), iv (2 : Int32), rv b43, rv r45, iv (1 : Int32)] [(.int (1 : Int32))]))
          exact own_fin X64 Bd.notSynchronized (fun h => by rw [Bd.returns] at h; cases h) (fun fs hr => retN X64 hx (t := .boolean) Bd.returns (by simp) (hb hby at_335) hr) (by rw [e64]; exact ⟨rfl, N64⟩) (by decide) (by decide)
        · by_cases hk3_en : en = (3 : Int32)
          · subst hk3_en
            show own_Go p e below s _ _ _ (T9.setTop (mkF m 46 #[iv p1, iv p2, iv p3, iv p4, iv p5, iv p6, rv b1, iv (0 : Int32), .unset, .unset, .unset, .unset] [(.int (3 : Int32)), (.int (0 : Int32))]))
            refine own_go (fun zt zk => (XS.iadd X9.here hx rfl (hb hby at_46) rfl (XS.istore X9.here hx rfl (hb hby at_47) rfl (l' := #[iv p1, iv p2, iv p3, iv p4, iv p5, iv p6, rv b1, iv (0 : Int32), iv (3 : Int32), .unset, .unset, .unset]) rfl zk))) ?_
            show own_Go p e below s _ _ _ (T9.setTop (mkF m 49 #[iv p1, iv p2, iv p3, iv p4, iv p5, iv p6, rv b1, iv (0 : Int32), iv (3 : Int32), .unset, .unset, .unset] []))
            obtain ⟨T65, h65, X65, e65, E65, A65, D65, -, st65⟩ := newO X9 hx hZ hown (hw _ (List.mem_of_getElem? (i := 2) rfl)) (hw _ (List.mem_of_getElem? (i := 3) rfl)) (hw _ (List.mem_of_getElem? (i := 4) rfl)) e9 (g := (mkF m 49 #[iv p1, iv p2, iv p3, iv p4, iv p5, iv p6, rv b1, iv (0 : Int32), iv (3 : Int32), .unset, .unset, .unset] [])) rfl (hb hby at_49) (by decide) (by decide)
            obtain ⟨b65, g65⟩ : ∃ z, z = h9.size := ⟨_, rfl⟩
            rw [← g65] at A65 D65 st65
            refine own_go st65 ?_
            have ne_b1_b65 : b1 ≠ b65 := Nat.ne_of_lt (Nat.lt_of_lt_of_le V_b1.lt (Nat.le_of_eq g65.symm))
            have sz_b65 : h0.size ≤ b65 := Nat.le_trans Kp.1 (Nat.le_of_eq g65.symm)
            have g_b65 : n0 ≤ b65 := Nat.le_trans Z0 sz_b65
            replace Kp := Kp.ext E65
            replace V_b1 := V_b1.ext E65
            replace Ea_b1 := Ea_b1.ext E65
            have Ex_b65 := A65
            have F_start_b65 : Fld Z h65 b65 "com/example/tranche/tranche/model/Span" "start" "I" (.int (0 : Int32)) := D65 (Or.inr (hw _ (List.mem_of_getElem? (i := 17) rfl))) (ty := .int) (by decide)
            have F_end_b65 : Fld Z h65 b65 "com/example/tranche/tranche/model/Span" "end" "I" (.int (0 : Int32)) := D65 (Or.inr (hw _ (List.mem_of_getElem? (i := 19) rfl))) (ty := .int) (by decide)
            show own_Go p e below s _ _ _ (T65.setTop (mkF m 52 #[iv p1, iv p2, iv p3, iv p4, iv p5, iv p6, rv b1, iv (0 : Int32), iv (3 : Int32), .unset, .unset, .unset] [(.ref b65)]))
            refine own_go (fun zt zk => (XS.dup X65.here hx rfl (hb hby at_52) rfl rfl (XS.iload X65.here hx rfl (hb hby at_53) rfl (XS.iload X65.here hx rfl (hb hby at_55) rfl zk)))) ?_
            show own_Go p e below s _ _ _ (T65.setTop (mkF m 57 #[iv p1, iv p2, iv p3, iv p4, iv p5, iv p6, rv b1, iv (0 : Int32), iv (3 : Int32), .unset, .unset, .unset] [(.int (3 : Int32)), (.int (0 : Int32)), (.ref b65), (.ref b65)]))
            obtain ⟨_, _, ⟨T66, L66, k66, n66⟩, -, X66, ⟨Lc66, hQ66, l66, y66, z66⟩, st66⟩ := X65.specialBack hx (y := (⟨"com/example/tranche/tranche/model/Span", "<init>", "(II)V"⟩ : MethodName)) rfl hown (mvT hZ (hw _ (List.mem_of_getElem? (i := 5) rfl))) (mvT hZ (hw _ (List.mem_of_getElem? (i := 6) rfl))) (mvT hZ (hw _ (List.mem_of_getElem? (i := 7) rfl))) (by decide) (backOf (W := 1) (own_rspan l Z a0 hw [] b65 (0 : Int32) (3 : Int32)  h65 n0 (Nat.le_trans Z0 Kp.1) Ex_b65 F_start_b65 F_end_b65 g_b65 (by decide) (by decide)) hZ (hw _ (List.mem_of_getElem? (i := 7) rfl)) (hw _ (List.mem_of_getElem? (i := 4) rfl)) (by decide) (by decide)) (g := (mkF m 57 #[iv p1, iv p2, iv p3, iv p4, iv p5, iv p6, rv b1, iv (0 : Int32), iv (3 : Int32), .unset, .unset, .unset] [(.int (3 : Int32)), (.int (0 : Int32)), (.ref b65), (.ref b65)])) rfl (by rw [hml]; rfl) (Steps.refl _) (a := b65) (argsL := [(.int (0 : Int32)), (.int (3 : Int32))]) (rest := [(.ref b65)]) (lenOf own_pd__II_V rfl) rfl (by show 2 * 0 + _ ≤ _; exact Nat.le_of_eq rfl) (hb hby at_57) (fun _ _ => ⟨rfl, e65, (by decide : 2 + 0 ≤ _), (by decide : 6 + 0 ≤ _)⟩)
            dsimp only [Pt.U, Pt.locs, Pt.cells, Pt.slots] at X66 l66 y66 z66 st66 hQ66
            subst l66 y66 z66
            obtain ⟨rfl, Nq66, K66, -, F_start_b65, F_end_b65⟩ := hQ66
            have N66 := Fr.app N9 Nq66
            refine own_go (fun zt zk => st66.trans zk) ?_
            replace Kp := Kp.trans K66 (allS (Or.inr sz_b65) all0)
            replace V_b1 := V_b1.keep K66 (ninS ne_b1_b65 nin0)
            replace Ea_b1 := Ea_b1.keep K66
            replace Ex_b65 := Ex_b65.keep K66
            show own_Go p e below s _ _ _ (T66.setTop (mkF m 60 #[iv p1, iv p2, iv p3, iv p4, iv p5, iv p6, rv b1, iv (0 : Int32), iv (3 : Int32), .unset, .unset, .unset] [(.ref b65)]))
            refine own_go (fun zt zk => (XS.astore X66.here hx rfl (hb hby at_60) rfl rfl (l' := #[iv p1, iv p2, iv p3, iv p4, iv p5, iv p6, rv b1, iv (0 : Int32), iv (3 : Int32), rv b65, .unset, .unset]) rfl (XS.aload X66.here hx rfl (hb hby at_62) rfl rfl (XS.aload X66.here hx rfl (hb hby at_64) rfl rfl zk)))) ?_
            show own_Go p e below s _ _ _ (T66.setTop (mkF m 66 #[iv p1, iv p2, iv p3, iv p4, iv p5, iv p6, rv b1, iv (0 : Int32), iv (3 : Int32), rv b65, .unset, .unset] [(.ref b1), (.ref b65)]))
            obtain ⟨cq67, kq67, qa67, qb67, qc67⟩ := isOf hZ rfl Ex_b65
            obtain ⟨_, _, ⟨T67, L67, k67, n67⟩, -, X67, ⟨Lc67, hQ67, l67, y67, z67⟩, st67⟩ := X66.virtualBack hx (y := (⟨"com/example/tranche/tranche/model/Span", "bytesIn", "([B)[B"⟩ : MethodName)) (z := (⟨"com/example/tranche/tranche/model/Span", "bytesIn", "([B)[B"⟩ : MethodName)) hown (mvT hZ (hw _ (List.mem_of_getElem? (i := 20) rfl))) (mvT hZ (hw _ (List.mem_of_getElem? (i := 21) rfl))) (notFace_of_selects (args := #[]) (mvT hZ (hw _ (List.mem_of_getElem? (i := 23) rfl)))) (mvT hZ (hw _ (List.mem_of_getElem? (i := 23) rfl))) (mvT hZ (hw _ (List.mem_of_getElem? (i := 22) rfl))) (by decide) (backOf (W := 0) (own_rbi03 l Z a0 hw [] b65 b1 k1 (.int (p1.toInt8.toInt32)) (.int (p2.toInt8.toInt32)) (.int (p3.toInt8.toInt32)) (.int (p4.toInt8.toInt32)) T66.heap n0 (Nat.le_trans Z0 Kp.1) V_b1 Ea_b1 F_start_b65 F_end_b65) hZ (hw _ (List.mem_of_getElem? (i := 24) rfl)) (hw _ (List.mem_of_getElem? (i := 4) rfl)) (by decide) (by decide)) qa67 qc67 (g := (mkF m 66 #[iv p1, iv p2, iv p3, iv p4, iv p5, iv p6, rv b1, iv (0 : Int32), iv (3 : Int32), rv b65, .unset, .unset] [(.ref b1), (.ref b65)])) rfl (by rw [hml]; rfl) (Steps.refl _) (argsL := [(.ref b1)]) (rest := []) (lenOf own_pd___B__B rfl) rfl (by show 2 * 0 + _ ≤ _; exact Nat.le_of_eq rfl) (hb hby at_66) (fun _ _ => ⟨rfl, rfl, (by decide : 2 + 1 ≤ _), (by decide : 6 + 3 ≤ _)⟩)
            dsimp only [Pt.U, Pt.locs, Pt.cells, Pt.slots] at X67 l67 y67 z67 st67 hQ67
            subst l67 y67 z67
            obtain ⟨r67, kr67, rfl, Nq67, K67, sr67, Ea_r67, V_r67⟩ := hQ67
            have sz_r67 := Nat.le_trans Kp.1 sr67
            have g_r67 := Nat.le_trans Z0 sz_r67
            have ne_b1_r67 : b1 ≠ r67 := Nat.ne_of_lt (Nat.lt_of_lt_of_le V_b1.lt sr67)
            have ne_b65_r67 : b65 ≠ r67 := Nat.ne_of_lt (Nat.lt_of_lt_of_le Ex_b65.lt sr67)
            have N67 := Fr.app N66 Nq67
            refine own_go (fun zt zk => st67.trans zk) ?_
            replace Kp := Kp.trans K67 all0
            replace V_b1 := V_b1.keep K67 nin0
            replace Ea_b1 := Ea_b1.keep K67
            replace Ex_b65 := Ex_b65.keep K67
            replace F_start_b65 := F_start_b65.keep K67 nin0
            replace F_end_b65 := F_end_b65.keep K67 nin0
            show own_Go p e below s _ _ _ (T67.setTop (mkF m 69 #[iv p1, iv p2, iv p3, iv p4, iv p5, iv p6, rv b1, iv (0 : Int32), iv (3 : Int32), rv b65, .unset, .unset] [(.ref r67)]))
            refine own_go (fun zt zk => (XS.astore X67.here hx rfl (hb hby at_69) rfl rfl (l' := #[iv p1, iv p2, iv p3, iv p4, iv p5, iv p6, rv b1, iv (0 : Int32), iv (3 : Int32), rv b65, rv r67, .unset]) rfl (XS.aload X67.here hx rfl (hb hby at_71) rfl rfl (XS.ifnonnullYes X67.here hx rfl (pc0 := 73) (pc' := 78) rfl (hb hby at_73) rfl (by decide) (by decide) (XS.aload X67.here hx rfl (hb hby at_78) rfl rfl zk))))) ?_
            show own_Go p e below s _ _ _ (T67.setTop (mkF m 80 #[iv p1, iv p2, iv p3, iv p4, iv p5, iv p6, rv b1, iv (0 : Int32), iv (3 : Int32), rv b65, rv r67, .unset] [(.ref r67)]))
            obtain ⟨cl68, Ar68, -, Sz68, Nz68, -, -⟩ := id V_r67
            refine own_go (X67.arraylength hx (by exact Ar68.1) (State.isArrayOf_alike hZ.alike Ar68.2.1) (g := (mkF m 80 #[iv p1, iv p2, iv p3, iv p4, iv p5, iv p6, rv b1, iv (0 : Int32), iv (3 : Int32), rv b65, rv r67, .unset] [(.ref r67)])) rfl rfl (hb hby at_80)) ?_
            rw [len_of Sz68 Nz68]
            show own_Go p e below s _ _ _ (T67.setTop (mkF m 81 #[iv p1, iv p2, iv p3, iv p4, iv p5, iv p6, rv b1, iv (0 : Int32), iv (3 : Int32), rv b65, rv r67, .unset] [(.int (3 : Int32))]))
            refine own_go (fun zt zk => (XS.iload X67.here hx rfl (hb hby at_81) rfl (XS.iload X67.here hx rfl (hb hby at_83) rfl (XS.isub X67.here hx rfl (hb hby at_85) rfl (XS.icmpYes X67.here hx rfl (pc0 := 86) (pc' := 91) rfl (hb hby at_86) rfl (teq (rfl : (3 : Int32) = (3 : Int32))).1 (by decide) (by decide) (XS.iconst X67.here hx rfl (hb hby at_91) (XS.istore X67.here hx rfl (hb hby at_92) rfl (l' := #[iv p1, iv p2, iv p3, iv p4, iv p5, iv p6, rv b1, iv (0 : Int32), iv (3 : Int32), rv b65, rv r67, iv (1 : Int32)]) rfl (XS.aload X67.here hx rfl (hb hby at_94) rfl rfl zk)))))))) ?_
            show own_Go p e below s _ _ _ (T67.setTop (mkF m 96 #[iv p1, iv p2, iv p3, iv p4, iv p5, iv p6, rv b1, iv (0 : Int32), iv (3 : Int32), rv b65, rv r67, iv (1 : Int32)] [(.ref r67)]))
            obtain ⟨cl69, Ar69, -, Sz69, Nz69, -, -⟩ := id V_r67
            refine own_go (X67.arraylength hx (by exact Ar69.1) (State.isArrayOf_alike hZ.alike Ar69.2.1) (g := (mkF m 96 #[iv p1, iv p2, iv p3, iv p4, iv p5, iv p6, rv b1, iv (0 : Int32), iv (3 : Int32), rv b65, rv r67, iv (1 : Int32)] [(.ref r67)])) rfl rfl (hb hby at_96)) ?_
            rw [len_of Sz69 Nz69]
            show own_Go p e below s _ _ _ (T67.setTop (mkF m 97 #[iv p1, iv p2, iv p3, iv p4, iv p5, iv p6, rv b1, iv (0 : Int32), iv (3 : Int32), rv b65, rv r67, iv (1 : Int32)] [(.int (3 : Int32))]))
            refine own_go (fun zt zk => (XS.ifNo X67.here hx rfl (hb hby at_97) rfl ((if0 _ _).trans (tlt ((by decide) : (0 : Int32) < (3 : Int32))).2.2.2) (XS.iload X67.here hx rfl (hb hby at_100) rfl (XS.ifNo X67.here hx rfl (hb hby at_102) rfl ((if0 _ _).trans (feq ((by decide) : ¬ ((1 : Int32) = (0 : Int32)))).1) (XS.aload X67.here hx rfl (hb hby at_105) rfl rfl (XS.iconst X67.here hx rfl (hb hby at_107) zk)))))) ?_
            show own_Go p e below s _ _ _ (T67.setTop (mkF m 108 #[iv p1, iv p2, iv p3, iv p4, iv p5, iv p6, rv b1, iv (0 : Int32), iv (3 : Int32), rv b65, rv r67, iv (1 : Int32)] [(.int (0 : Int32)), (.ref r67)]))
            obtain ⟨cl70, Ar70, q70, Sz70, Nz70, Ha70, Ga70⟩ := id V_r67
            have hin70 : ¬ ((0 : Int32) < 0 ∨ cl70.slots.size ≤ ((0 : Int32)).toNatClampNeg) := inb_of Sz70 ⟨by decide, by decide⟩
            have hat70 : cl70.slots[((0 : Int32)).toNatClampNeg]? = some (.int (p1.toInt8.toInt32)) := Has.at Ha70 hin70 rfl
            refine own_go (X67.baloadBytes hx (j := (0 : Int32)) (v := (.int (p1.toInt8.toInt32))) (by exact Ar70.1) (State.isArrayOf_alike hZ.alike Ar70.2.1) Ar70.2.2 hin70 hat70 (g := (mkF m 108 #[iv p1, iv p2, iv p3, iv p4, iv p5, iv p6, rv b1, iv (0 : Int32), iv (3 : Int32), rv b65, rv r67, iv (1 : Int32)] [(.int (0 : Int32)), (.ref r67)])) rfl rfl (hb hby at_108)) ?_
            show own_Go p e below s _ _ _ (T67.setTop (mkF m 109 #[iv p1, iv p2, iv p3, iv p4, iv p5, iv p6, rv b1, iv (0 : Int32), iv (3 : Int32), rv b65, rv r67, iv (1 : Int32)] [(.int (p1.toInt8.toInt32))]))
            refine own_go (fun zt zk => (XS.iload X67.here hx rfl (hb hby at_109) rfl (XS.iloadN X67.here hx rfl (hb hby at_111) rfl (XS.iloadN X67.here hx rfl (hb hby at_112) rfl (XS.iloadN X67.here hx rfl (hb hby at_113) rfl (XS.iloadN X67.here hx rfl (hb hby at_114) rfl zk)))))) ?_
            show own_Go p e below s _ _ _ (T67.setTop (mkF m 115 #[iv p1, iv p2, iv p3, iv p4, iv p5, iv p6, rv b1, iv (0 : Int32), iv (3 : Int32), rv b65, rv r67, iv (1 : Int32)] [(.int p4), (.int p3), (.int p2), (.int p1), (.int (0 : Int32)), (.int (p1.toInt8.toInt32))]))
            obtain ⟨_, _, ⟨T71, L71, k71, n71⟩, -, X71, ⟨Lc71, hQ71, l71, y71, z71⟩, st71⟩ := Jvm.LawKit.callS X67 hx (y := (⟨"com/example/tranche/tranche/model/SpanBytesInPinLaw", "at", "(IIIII)B"⟩ : MethodName)) hown (mvT hZ (hw _ (List.mem_of_getElem? (i := 43) rfl))) (mvT hZ (hw _ (List.mem_of_getElem? (i := 44) rfl))) (mvT hZ (hw _ (List.mem_of_getElem? (i := 45) rfl))) (mvT hZ (hw _ (List.mem_of_getElem? (i := 46) rfl))) (by decide) (backOf (W := 1) (own_rat0 l Z a0 hw [] p1 p2 p3 p4  T67.heap n0 (Nat.le_trans Z0 Kp.1) ) hZ (hw _ (List.mem_of_getElem? (i := 46) rfl)) (hw _ (List.mem_of_getElem? (i := 45) rfl)) (by decide) (by decide)) (g := (mkF m 115 #[iv p1, iv p2, iv p3, iv p4, iv p5, iv p6, rv b1, iv (0 : Int32), iv (3 : Int32), rv b65, rv r67, iv (1 : Int32)] [(.int p4), (.int p3), (.int p2), (.int p1), (.int (0 : Int32)), (.int (p1.toInt8.toInt32))])) rfl (by rw [hml]; rfl) (argsL := [(.int (0 : Int32)), (.int p1), (.int p2), (.int p3), (.int p4)]) (rest := [(.int (p1.toInt8.toInt32))]) (lenOf own_pd__IIIII_B rfl) rfl (by show 2 * 0 + _ ≤ _; exact Nat.le_of_eq rfl) (hb hby at_115) (fun _ _ => ⟨rfl, rfl, (by decide : 3 + 0 ≤ _), (by decide : 9 + 0 ≤ _)⟩)
            dsimp only [Pt.U, Pt.locs, Pt.cells, Pt.slots] at X71 l71 y71 z71 st71 hQ71
            subst l71 y71 z71
            obtain ⟨rfl, Nq71, e71⟩ := hQ71
            have N71 := Fr.app N67 Nq71
            refine own_go st71 ?_
            show own_Go p e below s _ _ _ (T71.setTop (mkF m 118 #[iv p1, iv p2, iv p3, iv p4, iv p5, iv p6, rv b1, iv (0 : Int32), iv (3 : Int32), rv b65, rv r67, iv (1 : Int32)] [(.int (p1.toInt8.toInt32)), (.int (p1.toInt8.toInt32))]))
            refine own_go (fun zt zk => (XS.icmpNo X71.here hx rfl (hb hby at_118) rfl (teq (rfl : (p1.toInt8.toInt32) = (p1.toInt8.toInt32))).2 (XS.iconst X71.here hx rfl (hb hby at_121) (XS.goto X71.here hx rfl (pc0 := 122) (pc' := 126) rfl (hb hby at_122) (by decide) (by decide) (XS.istore X71.here hx rfl (hb hby at_126) rfl (l' := #[iv p1, iv p2, iv p3, iv p4, iv p5, iv p6, rv b1, iv (0 : Int32), iv (3 : Int32), rv b65, rv r67, iv (1 : Int32)]) rfl (XS.aload X71.here hx rfl (hb hby at_128) rfl rfl zk)))))) ?_
            show own_Go p e below s _ _ _ (T71.setTop (mkF m 130 #[iv p1, iv p2, iv p3, iv p4, iv p5, iv p6, rv b1, iv (0 : Int32), iv (3 : Int32), rv b65, rv r67, iv (1 : Int32)] [(.ref r67)]))
            obtain ⟨cl72, Ar72, -, Sz72, Nz72, -, -⟩ := id V_r67
            refine own_go (X71.arraylength hx (by rw [e71]; exact Ar72.1) (State.isArrayOf_alike hZ.alike Ar72.2.1) (g := (mkF m 130 #[iv p1, iv p2, iv p3, iv p4, iv p5, iv p6, rv b1, iv (0 : Int32), iv (3 : Int32), rv b65, rv r67, iv (1 : Int32)] [(.ref r67)])) rfl rfl (hb hby at_130)) ?_
            rw [len_of Sz72 Nz72]
            show own_Go p e below s _ _ _ (T71.setTop (mkF m 131 #[iv p1, iv p2, iv p3, iv p4, iv p5, iv p6, rv b1, iv (0 : Int32), iv (3 : Int32), rv b65, rv r67, iv (1 : Int32)] [(.int (3 : Int32))]))
            refine own_go (fun zt zk => (XS.iconst X71.here hx rfl (hb hby at_131) (XS.icmpNo X71.here hx rfl (hb hby at_132) rfl (tlt ((by decide) : (1 : Int32) < (3 : Int32))).2.2.2 (XS.iload X71.here hx rfl (hb hby at_135) rfl (XS.ifNo X71.here hx rfl (hb hby at_137) rfl ((if0 _ _).trans (feq ((by decide) : ¬ ((1 : Int32) = (0 : Int32)))).1) (XS.aload X71.here hx rfl (hb hby at_140) rfl rfl (XS.iconst X71.here hx rfl (hb hby at_142) zk))))))) ?_
            show own_Go p e below s _ _ _ (T71.setTop (mkF m 143 #[iv p1, iv p2, iv p3, iv p4, iv p5, iv p6, rv b1, iv (0 : Int32), iv (3 : Int32), rv b65, rv r67, iv (1 : Int32)] [(.int (1 : Int32)), (.ref r67)]))
            obtain ⟨cl73, Ar73, q73, Sz73, Nz73, Ha73, Ga73⟩ := id V_r67
            have hin73 : ¬ ((1 : Int32) < 0 ∨ cl73.slots.size ≤ ((1 : Int32)).toNatClampNeg) := inb_of Sz73 ⟨by decide, by decide⟩
            have hat73 : cl73.slots[((1 : Int32)).toNatClampNeg]? = some (.int (p2.toInt8.toInt32)) := Has.at Ha73 hin73 rfl
            refine own_go (X71.baloadBytes hx (j := (1 : Int32)) (v := (.int (p2.toInt8.toInt32))) (by rw [e71]; exact Ar73.1) (State.isArrayOf_alike hZ.alike Ar73.2.1) Ar73.2.2 hin73 hat73 (g := (mkF m 143 #[iv p1, iv p2, iv p3, iv p4, iv p5, iv p6, rv b1, iv (0 : Int32), iv (3 : Int32), rv b65, rv r67, iv (1 : Int32)] [(.int (1 : Int32)), (.ref r67)])) rfl rfl (hb hby at_143)) ?_
            show own_Go p e below s _ _ _ (T71.setTop (mkF m 144 #[iv p1, iv p2, iv p3, iv p4, iv p5, iv p6, rv b1, iv (0 : Int32), iv (3 : Int32), rv b65, rv r67, iv (1 : Int32)] [(.int (p2.toInt8.toInt32))]))
            refine own_go (fun zt zk => (XS.iload X71.here hx rfl (hb hby at_144) rfl (XS.iconst X71.here hx rfl (hb hby at_146) (XS.iadd X71.here hx rfl (hb hby at_147) rfl (XS.iloadN X71.here hx rfl (hb hby at_148) rfl (XS.iloadN X71.here hx rfl (hb hby at_149) rfl (XS.iloadN X71.here hx rfl (hb hby at_150) rfl (XS.iloadN X71.here hx rfl (hb hby at_151) rfl zk)))))))) ?_
            show own_Go p e below s _ _ _ (T71.setTop (mkF m 152 #[iv p1, iv p2, iv p3, iv p4, iv p5, iv p6, rv b1, iv (0 : Int32), iv (3 : Int32), rv b65, rv r67, iv (1 : Int32)] [(.int p4), (.int p3), (.int p2), (.int p1), (.int (1 : Int32)), (.int (p2.toInt8.toInt32))]))
            obtain ⟨_, _, ⟨T74, L74, k74, n74⟩, -, X74, ⟨Lc74, hQ74, l74, y74, z74⟩, st74⟩ := Jvm.LawKit.callS X71 hx (y := (⟨"com/example/tranche/tranche/model/SpanBytesInPinLaw", "at", "(IIIII)B"⟩ : MethodName)) hown (mvT hZ (hw _ (List.mem_of_getElem? (i := 43) rfl))) (mvT hZ (hw _ (List.mem_of_getElem? (i := 44) rfl))) (mvT hZ (hw _ (List.mem_of_getElem? (i := 45) rfl))) (mvT hZ (hw _ (List.mem_of_getElem? (i := 46) rfl))) (by decide) (backOf (W := 1) (own_rat1 l Z a0 hw [] p1 p2 p3 p4  T67.heap n0 (Nat.le_trans Z0 Kp.1) ) hZ (hw _ (List.mem_of_getElem? (i := 46) rfl)) (hw _ (List.mem_of_getElem? (i := 45) rfl)) (by decide) (by decide)) (g := (mkF m 152 #[iv p1, iv p2, iv p3, iv p4, iv p5, iv p6, rv b1, iv (0 : Int32), iv (3 : Int32), rv b65, rv r67, iv (1 : Int32)] [(.int p4), (.int p3), (.int p2), (.int p1), (.int (1 : Int32)), (.int (p2.toInt8.toInt32))])) rfl (by rw [hml]; rfl) (argsL := [(.int (1 : Int32)), (.int p1), (.int p2), (.int p3), (.int p4)]) (rest := [(.int (p2.toInt8.toInt32))]) (lenOf own_pd__IIIII_B rfl) rfl (by show 2 * 0 + _ ≤ _; exact Nat.le_of_eq rfl) (hb hby at_152) (fun _ _ => ⟨rfl, e71, (by decide : 3 + 0 ≤ _), (by decide : 9 + 0 ≤ _)⟩)
            dsimp only [Pt.U, Pt.locs, Pt.cells, Pt.slots] at X74 l74 y74 z74 st74 hQ74
            subst l74 y74 z74
            obtain ⟨rfl, Nq74, e74⟩ := hQ74
            have N74 := Fr.app N71 Nq74
            refine own_go st74 ?_
            show own_Go p e below s _ _ _ (T74.setTop (mkF m 155 #[iv p1, iv p2, iv p3, iv p4, iv p5, iv p6, rv b1, iv (0 : Int32), iv (3 : Int32), rv b65, rv r67, iv (1 : Int32)] [(.int (p2.toInt8.toInt32)), (.int (p2.toInt8.toInt32))]))
            refine own_go (fun zt zk => (XS.icmpNo X74.here hx rfl (hb hby at_155) rfl (teq (rfl : (p2.toInt8.toInt32) = (p2.toInt8.toInt32))).2 (XS.iconst X74.here hx rfl (hb hby at_158) (XS.goto X74.here hx rfl (pc0 := 159) (pc' := 163) rfl (hb hby at_159) (by decide) (by decide) (XS.istore X74.here hx rfl (hb hby at_163) rfl (l' := #[iv p1, iv p2, iv p3, iv p4, iv p5, iv p6, rv b1, iv (0 : Int32), iv (3 : Int32), rv b65, rv r67, iv (1 : Int32)]) rfl (XS.aload X74.here hx rfl (hb hby at_165) rfl rfl zk)))))) ?_
            show own_Go p e below s _ _ _ (T74.setTop (mkF m 167 #[iv p1, iv p2, iv p3, iv p4, iv p5, iv p6, rv b1, iv (0 : Int32), iv (3 : Int32), rv b65, rv r67, iv (1 : Int32)] [(.ref r67)]))
            obtain ⟨cl75, Ar75, -, Sz75, Nz75, -, -⟩ := id V_r67
            refine own_go (X74.arraylength hx (by rw [e74]; exact Ar75.1) (State.isArrayOf_alike hZ.alike Ar75.2.1) (g := (mkF m 167 #[iv p1, iv p2, iv p3, iv p4, iv p5, iv p6, rv b1, iv (0 : Int32), iv (3 : Int32), rv b65, rv r67, iv (1 : Int32)] [(.ref r67)])) rfl rfl (hb hby at_167)) ?_
            rw [len_of Sz75 Nz75]
            show own_Go p e below s _ _ _ (T74.setTop (mkF m 168 #[iv p1, iv p2, iv p3, iv p4, iv p5, iv p6, rv b1, iv (0 : Int32), iv (3 : Int32), rv b65, rv r67, iv (1 : Int32)] [(.int (3 : Int32))]))
            refine own_go (fun zt zk => (XS.iconst X74.here hx rfl (hb hby at_168) (XS.icmpNo X74.here hx rfl (hb hby at_169) rfl (tlt ((by decide) : (2 : Int32) < (3 : Int32))).2.2.2 (XS.iload X74.here hx rfl (hb hby at_172) rfl (XS.ifNo X74.here hx rfl (hb hby at_174) rfl ((if0 _ _).trans (feq ((by decide) : ¬ ((1 : Int32) = (0 : Int32)))).1) (XS.aload X74.here hx rfl (hb hby at_177) rfl rfl (XS.iconst X74.here hx rfl (hb hby at_179) zk))))))) ?_
            show own_Go p e below s _ _ _ (T74.setTop (mkF m 180 #[iv p1, iv p2, iv p3, iv p4, iv p5, iv p6, rv b1, iv (0 : Int32), iv (3 : Int32), rv b65, rv r67, iv (1 : Int32)] [(.int (2 : Int32)), (.ref r67)]))
            obtain ⟨cl76, Ar76, q76, Sz76, Nz76, Ha76, Ga76⟩ := id V_r67
            have hin76 : ¬ ((2 : Int32) < 0 ∨ cl76.slots.size ≤ ((2 : Int32)).toNatClampNeg) := inb_of Sz76 ⟨by decide, by decide⟩
            have hat76 : cl76.slots[((2 : Int32)).toNatClampNeg]? = some (.int (p3.toInt8.toInt32)) := Has.at Ha76 hin76 rfl
            refine own_go (X74.baloadBytes hx (j := (2 : Int32)) (v := (.int (p3.toInt8.toInt32))) (by rw [e74]; exact Ar76.1) (State.isArrayOf_alike hZ.alike Ar76.2.1) Ar76.2.2 hin76 hat76 (g := (mkF m 180 #[iv p1, iv p2, iv p3, iv p4, iv p5, iv p6, rv b1, iv (0 : Int32), iv (3 : Int32), rv b65, rv r67, iv (1 : Int32)] [(.int (2 : Int32)), (.ref r67)])) rfl rfl (hb hby at_180)) ?_
            show own_Go p e below s _ _ _ (T74.setTop (mkF m 181 #[iv p1, iv p2, iv p3, iv p4, iv p5, iv p6, rv b1, iv (0 : Int32), iv (3 : Int32), rv b65, rv r67, iv (1 : Int32)] [(.int (p3.toInt8.toInt32))]))
            refine own_go (fun zt zk => (XS.iload X74.here hx rfl (hb hby at_181) rfl (XS.iconst X74.here hx rfl (hb hby at_183) (XS.iadd X74.here hx rfl (hb hby at_184) rfl (XS.iloadN X74.here hx rfl (hb hby at_185) rfl (XS.iloadN X74.here hx rfl (hb hby at_186) rfl (XS.iloadN X74.here hx rfl (hb hby at_187) rfl (XS.iloadN X74.here hx rfl (hb hby at_188) rfl zk)))))))) ?_
            show own_Go p e below s _ _ _ (T74.setTop (mkF m 189 #[iv p1, iv p2, iv p3, iv p4, iv p5, iv p6, rv b1, iv (0 : Int32), iv (3 : Int32), rv b65, rv r67, iv (1 : Int32)] [(.int p4), (.int p3), (.int p2), (.int p1), (.int (2 : Int32)), (.int (p3.toInt8.toInt32))]))
            obtain ⟨_, _, ⟨T77, L77, k77, n77⟩, -, X77, ⟨Lc77, hQ77, l77, y77, z77⟩, st77⟩ := Jvm.LawKit.callS X74 hx (y := (⟨"com/example/tranche/tranche/model/SpanBytesInPinLaw", "at", "(IIIII)B"⟩ : MethodName)) hown (mvT hZ (hw _ (List.mem_of_getElem? (i := 43) rfl))) (mvT hZ (hw _ (List.mem_of_getElem? (i := 44) rfl))) (mvT hZ (hw _ (List.mem_of_getElem? (i := 45) rfl))) (mvT hZ (hw _ (List.mem_of_getElem? (i := 46) rfl))) (by decide) (backOf (W := 1) (own_rat2 l Z a0 hw [] p1 p2 p3 p4  T67.heap n0 (Nat.le_trans Z0 Kp.1) ) hZ (hw _ (List.mem_of_getElem? (i := 46) rfl)) (hw _ (List.mem_of_getElem? (i := 45) rfl)) (by decide) (by decide)) (g := (mkF m 189 #[iv p1, iv p2, iv p3, iv p4, iv p5, iv p6, rv b1, iv (0 : Int32), iv (3 : Int32), rv b65, rv r67, iv (1 : Int32)] [(.int p4), (.int p3), (.int p2), (.int p1), (.int (2 : Int32)), (.int (p3.toInt8.toInt32))])) rfl (by rw [hml]; rfl) (argsL := [(.int (2 : Int32)), (.int p1), (.int p2), (.int p3), (.int p4)]) (rest := [(.int (p3.toInt8.toInt32))]) (lenOf own_pd__IIIII_B rfl) rfl (by show 2 * 0 + _ ≤ _; exact Nat.le_of_eq rfl) (hb hby at_189) (fun _ _ => ⟨rfl, e74, (by decide : 3 + 0 ≤ _), (by decide : 9 + 0 ≤ _)⟩)
            dsimp only [Pt.U, Pt.locs, Pt.cells, Pt.slots] at X77 l77 y77 z77 st77 hQ77
            subst l77 y77 z77
            obtain ⟨rfl, Nq77, e77⟩ := hQ77
            have N77 := Fr.app N74 Nq77
            refine own_go st77 ?_
            show own_Go p e below s _ _ _ (T77.setTop (mkF m 192 #[iv p1, iv p2, iv p3, iv p4, iv p5, iv p6, rv b1, iv (0 : Int32), iv (3 : Int32), rv b65, rv r67, iv (1 : Int32)] [(.int (p3.toInt8.toInt32)), (.int (p3.toInt8.toInt32))]))
            refine own_go (fun zt zk => (XS.icmpNo X77.here hx rfl (hb hby at_192) rfl (teq (rfl : (p3.toInt8.toInt32) = (p3.toInt8.toInt32))).2 (XS.iconst X77.here hx rfl (hb hby at_195) (XS.goto X77.here hx rfl (pc0 := 196) (pc' := 200) rfl (hb hby at_196) (by decide) (by decide) (XS.istore X77.here hx rfl (hb hby at_200) rfl (l' := #[iv p1, iv p2, iv p3, iv p4, iv p5, iv p6, rv b1, iv (0 : Int32), iv (3 : Int32), rv b65, rv r67, iv (1 : Int32)]) rfl (XS.aload X77.here hx rfl (hb hby at_202) rfl rfl zk)))))) ?_
            show own_Go p e below s _ _ _ (T77.setTop (mkF m 204 #[iv p1, iv p2, iv p3, iv p4, iv p5, iv p6, rv b1, iv (0 : Int32), iv (3 : Int32), rv b65, rv r67, iv (1 : Int32)] [(.ref r67)]))
            obtain ⟨cl78, Ar78, -, Sz78, Nz78, -, -⟩ := id V_r67
            refine own_go (X77.arraylength hx (by rw [e77]; exact Ar78.1) (State.isArrayOf_alike hZ.alike Ar78.2.1) (g := (mkF m 204 #[iv p1, iv p2, iv p3, iv p4, iv p5, iv p6, rv b1, iv (0 : Int32), iv (3 : Int32), rv b65, rv r67, iv (1 : Int32)] [(.ref r67)])) rfl rfl (hb hby at_204)) ?_
            rw [len_of Sz78 Nz78]
            show own_Go p e below s _ _ _ (T77.setTop (mkF m 205 #[iv p1, iv p2, iv p3, iv p4, iv p5, iv p6, rv b1, iv (0 : Int32), iv (3 : Int32), rv b65, rv r67, iv (1 : Int32)] [(.int (3 : Int32))]))
            refine own_go (fun zt zk => (XS.iconst X77.here hx rfl (hb hby at_205) (XS.icmpYes X77.here hx rfl (pc0 := 206) (pc' := 239) rfl (hb hby at_206) rfl (flt ((own_irr _) : ¬ ((3 : Int32) < (3 : Int32)))).2.2.2 (by decide) (by decide) (XS.iload X77.here hx rfl (hb hby at_239) rfl (XS.ifNo X77.here hx rfl (hb hby at_241) rfl ((if0 _ _).trans (feq ((by decide) : ¬ ((1 : Int32) = (0 : Int32)))).1) (XS.aload X77.here hx rfl (hb hby at_244) rfl rfl (XS.iconst X77.here hx rfl (hb hby at_246) zk))))))) ?_
            show own_Go p e below s _ _ _ (T77.setTop (mkF m 247 #[iv p1, iv p2, iv p3, iv p4, iv p5, iv p6, rv b1, iv (0 : Int32), iv (3 : Int32), rv b65, rv r67, iv (1 : Int32)] [(.int (0 : Int32)), (.ref b1)]))
            obtain ⟨cl79, Ar79, q79, Sz79, Nz79, Ha79, Ga79⟩ := id V_b1
            have hin79 : ¬ ((0 : Int32) < 0 ∨ cl79.slots.size ≤ ((0 : Int32)).toNatClampNeg) := inb_of Sz79 ⟨by decide, by decide⟩
            have hat79 : cl79.slots[((0 : Int32)).toNatClampNeg]? = some (.int (p1.toInt8.toInt32)) := Has.at Ha79 hin79 rfl
            refine own_go (X77.baloadBytes hx (j := (0 : Int32)) (v := (.int (p1.toInt8.toInt32))) (by rw [e77]; exact Ar79.1) (State.isArrayOf_alike hZ.alike Ar79.2.1) Ar79.2.2 hin79 hat79 (g := (mkF m 247 #[iv p1, iv p2, iv p3, iv p4, iv p5, iv p6, rv b1, iv (0 : Int32), iv (3 : Int32), rv b65, rv r67, iv (1 : Int32)] [(.int (0 : Int32)), (.ref b1)])) rfl rfl (hb hby at_247)) ?_
            show own_Go p e below s _ _ _ (T77.setTop (mkF m 248 #[iv p1, iv p2, iv p3, iv p4, iv p5, iv p6, rv b1, iv (0 : Int32), iv (3 : Int32), rv b65, rv r67, iv (1 : Int32)] [(.int (p1.toInt8.toInt32))]))
            refine own_go (fun zt zk => (XS.iloadN X77.here hx rfl (hb hby at_248) rfl (XS.i2b X77.here hx rfl (hb hby at_249) rfl (XS.icmpNo X77.here hx rfl (hb hby at_250) rfl (teq (rfl : (p1.toInt8.toInt32) = (p1.toInt8.toInt32))).2 (XS.aload X77.here hx rfl (hb hby at_253) rfl rfl (XS.iconst X77.here hx rfl (hb hby at_255) zk)))))) ?_
            show own_Go p e below s _ _ _ (T77.setTop (mkF m 256 #[iv p1, iv p2, iv p3, iv p4, iv p5, iv p6, rv b1, iv (0 : Int32), iv (3 : Int32), rv b65, rv r67, iv (1 : Int32)] [(.int (1 : Int32)), (.ref b1)]))
            obtain ⟨cl80, Ar80, q80, Sz80, Nz80, Ha80, Ga80⟩ := id V_b1
            have hin80 : ¬ ((1 : Int32) < 0 ∨ cl80.slots.size ≤ ((1 : Int32)).toNatClampNeg) := inb_of Sz80 ⟨by decide, by decide⟩
            have hat80 : cl80.slots[((1 : Int32)).toNatClampNeg]? = some (.int (p2.toInt8.toInt32)) := Has.at Ha80 hin80 rfl
            refine own_go (X77.baloadBytes hx (j := (1 : Int32)) (v := (.int (p2.toInt8.toInt32))) (by rw [e77]; exact Ar80.1) (State.isArrayOf_alike hZ.alike Ar80.2.1) Ar80.2.2 hin80 hat80 (g := (mkF m 256 #[iv p1, iv p2, iv p3, iv p4, iv p5, iv p6, rv b1, iv (0 : Int32), iv (3 : Int32), rv b65, rv r67, iv (1 : Int32)] [(.int (1 : Int32)), (.ref b1)])) rfl rfl (hb hby at_256)) ?_
            show own_Go p e below s _ _ _ (T77.setTop (mkF m 257 #[iv p1, iv p2, iv p3, iv p4, iv p5, iv p6, rv b1, iv (0 : Int32), iv (3 : Int32), rv b65, rv r67, iv (1 : Int32)] [(.int (p2.toInt8.toInt32))]))
            refine own_go (fun zt zk => (XS.iloadN X77.here hx rfl (hb hby at_257) rfl (XS.i2b X77.here hx rfl (hb hby at_258) rfl (XS.icmpNo X77.here hx rfl (hb hby at_259) rfl (teq (rfl : (p2.toInt8.toInt32) = (p2.toInt8.toInt32))).2 (XS.aload X77.here hx rfl (hb hby at_262) rfl rfl (XS.iconst X77.here hx rfl (hb hby at_264) zk)))))) ?_
            show own_Go p e below s _ _ _ (T77.setTop (mkF m 265 #[iv p1, iv p2, iv p3, iv p4, iv p5, iv p6, rv b1, iv (0 : Int32), iv (3 : Int32), rv b65, rv r67, iv (1 : Int32)] [(.int (2 : Int32)), (.ref b1)]))
            obtain ⟨cl81, Ar81, q81, Sz81, Nz81, Ha81, Ga81⟩ := id V_b1
            have hin81 : ¬ ((2 : Int32) < 0 ∨ cl81.slots.size ≤ ((2 : Int32)).toNatClampNeg) := inb_of Sz81 ⟨by decide, by decide⟩
            have hat81 : cl81.slots[((2 : Int32)).toNatClampNeg]? = some (.int (p3.toInt8.toInt32)) := Has.at Ha81 hin81 rfl
            refine own_go (X77.baloadBytes hx (j := (2 : Int32)) (v := (.int (p3.toInt8.toInt32))) (by rw [e77]; exact Ar81.1) (State.isArrayOf_alike hZ.alike Ar81.2.1) Ar81.2.2 hin81 hat81 (g := (mkF m 265 #[iv p1, iv p2, iv p3, iv p4, iv p5, iv p6, rv b1, iv (0 : Int32), iv (3 : Int32), rv b65, rv r67, iv (1 : Int32)] [(.int (2 : Int32)), (.ref b1)])) rfl rfl (hb hby at_265)) ?_
            show own_Go p e below s _ _ _ (T77.setTop (mkF m 266 #[iv p1, iv p2, iv p3, iv p4, iv p5, iv p6, rv b1, iv (0 : Int32), iv (3 : Int32), rv b65, rv r67, iv (1 : Int32)] [(.int (p3.toInt8.toInt32))]))
            refine own_go (fun zt zk => (XS.iloadN X77.here hx rfl (hb hby at_266) rfl (XS.i2b X77.here hx rfl (hb hby at_267) rfl (XS.icmpNo X77.here hx rfl (hb hby at_268) rfl (teq (rfl : (p3.toInt8.toInt32) = (p3.toInt8.toInt32))).2 (XS.aload X77.here hx rfl (hb hby at_271) rfl rfl (XS.iconst X77.here hx rfl (hb hby at_273) zk)))))) ?_
            show own_Go p e below s _ _ _ (T77.setTop (mkF m 274 #[iv p1, iv p2, iv p3, iv p4, iv p5, iv p6, rv b1, iv (0 : Int32), iv (3 : Int32), rv b65, rv r67, iv (1 : Int32)] [(.int (3 : Int32)), (.ref b1)]))
            obtain ⟨cl82, Ar82, q82, Sz82, Nz82, Ha82, Ga82⟩ := id V_b1
            have hin82 : ¬ ((3 : Int32) < 0 ∨ cl82.slots.size ≤ ((3 : Int32)).toNatClampNeg) := inb_of Sz82 ⟨by decide, by decide⟩
            have hat82 : cl82.slots[((3 : Int32)).toNatClampNeg]? = some (.int (p4.toInt8.toInt32)) := Has.at Ha82 hin82 rfl
            refine own_go (X77.baloadBytes hx (j := (3 : Int32)) (v := (.int (p4.toInt8.toInt32))) (by rw [e77]; exact Ar82.1) (State.isArrayOf_alike hZ.alike Ar82.2.1) Ar82.2.2 hin82 hat82 (g := (mkF m 274 #[iv p1, iv p2, iv p3, iv p4, iv p5, iv p6, rv b1, iv (0 : Int32), iv (3 : Int32), rv b65, rv r67, iv (1 : Int32)] [(.int (3 : Int32)), (.ref b1)])) rfl rfl (hb hby at_274)) ?_
            show own_Go p e below s _ _ _ (T77.setTop (mkF m 275 #[iv p1, iv p2, iv p3, iv p4, iv p5, iv p6, rv b1, iv (0 : Int32), iv (3 : Int32), rv b65, rv r67, iv (1 : Int32)] [(.int (p4.toInt8.toInt32))]))
            refine own_go (fun zt zk => (XS.iloadN X77.here hx rfl (hb hby at_275) rfl (XS.i2b X77.here hx rfl (hb hby at_276) rfl (XS.icmpNo X77.here hx rfl (hb hby at_277) rfl (teq (rfl : (p4.toInt8.toInt32) = (p4.toInt8.toInt32))).2 (XS.iconst X77.here hx rfl (hb hby at_280) (XS.goto X77.here hx rfl (pc0 := 281) (pc' := 285) rfl (hb hby at_281) (by decide) (by decide) (XS.istore X77.here hx rfl (hb hby at_285) rfl (l' := #[iv p1, iv p2, iv p3, iv p4, iv p5, iv p6, rv b1, iv (0 : Int32), iv (3 : Int32), rv b65, rv r67, iv (1 : Int32)]) rfl (XS.aload X77.here hx rfl (hb hby at_287) rfl rfl zk)))))))) ?_
            show own_Go p e below s _ _ _ (T77.setTop (mkF m 289 #[iv p1, iv p2, iv p3, iv p4, iv p5, iv p6, rv b1, iv (0 : Int32), iv (3 : Int32), rv b65, rv r67, iv (1 : Int32)] [(.ref r67)]))
            obtain ⟨cl83, Ar83, -, Sz83, Nz83, -, -⟩ := id V_r67
            refine own_go (X77.arraylength hx (by rw [e77]; exact Ar83.1) (State.isArrayOf_alike hZ.alike Ar83.2.1) (g := (mkF m 289 #[iv p1, iv p2, iv p3, iv p4, iv p5, iv p6, rv b1, iv (0 : Int32), iv (3 : Int32), rv b65, rv r67, iv (1 : Int32)] [(.ref r67)])) rfl rfl (hb hby at_289)) ?_
            rw [len_of Sz83 Nz83]
            show own_Go p e below s _ _ _ (T77.setTop (mkF m 290 #[iv p1, iv p2, iv p3, iv p4, iv p5, iv p6, rv b1, iv (0 : Int32), iv (3 : Int32), rv b65, rv r67, iv (1 : Int32)] [(.int (3 : Int32))]))
            refine own_go (fun zt zk => (XS.ifNo X77.here hx rfl (hb hby at_290) rfl ((if0 _ _).trans (tlt ((by decide) : (0 : Int32) < (3 : Int32))).2.2.2) (XS.aload X77.here hx rfl (hb hby at_293) rfl rfl (XS.iconst X77.here hx rfl (hb hby at_295) (XS.aload X77.here hx rfl (hb hby at_296) rfl rfl (XS.iconst X77.here hx rfl (hb hby at_298) zk)))))) ?_
            show own_Go p e below s _ _ _ (T77.setTop (mkF m 299 #[iv p1, iv p2, iv p3, iv p4, iv p5, iv p6, rv b1, iv (0 : Int32), iv (3 : Int32), rv b65, rv r67, iv (1 : Int32)] [(.int (0 : Int32)), (.ref r67), (.int (0 : Int32)), (.ref r67)]))
            obtain ⟨cl84, Ar84, q84, Sz84, Nz84, Ha84, Ga84⟩ := id V_r67
            have hin84 : ¬ ((0 : Int32) < 0 ∨ cl84.slots.size ≤ ((0 : Int32)).toNatClampNeg) := inb_of Sz84 ⟨by decide, by decide⟩
            have hat84 : cl84.slots[((0 : Int32)).toNatClampNeg]? = some (.int (p1.toInt8.toInt32)) := Has.at Ha84 hin84 rfl
            refine own_go (X77.baloadBytes hx (j := (0 : Int32)) (v := (.int (p1.toInt8.toInt32))) (by rw [e77]; exact Ar84.1) (State.isArrayOf_alike hZ.alike Ar84.2.1) Ar84.2.2 hin84 hat84 (g := (mkF m 299 #[iv p1, iv p2, iv p3, iv p4, iv p5, iv p6, rv b1, iv (0 : Int32), iv (3 : Int32), rv b65, rv r67, iv (1 : Int32)] [(.int (0 : Int32)), (.ref r67), (.int (0 : Int32)), (.ref r67)])) rfl rfl (hb hby at_299)) ?_
            show own_Go p e below s _ _ _ (T77.setTop (mkF m 300 #[iv p1, iv p2, iv p3, iv p4, iv p5, iv p6, rv b1, iv (0 : Int32), iv (3 : Int32), rv b65, rv r67, iv (1 : Int32)] [(.int (p1.toInt8.toInt32)), (.int (0 : Int32)), (.ref r67)]))
            refine own_go (fun zt zk => (XS.iconst X77.here hx rfl (hb hby at_300) (XS.ixor X77.here hx rfl (hb hby at_301) rfl (XS.i2b X77.here hx rfl (hb hby at_302) rfl zk)))) ?_
            show own_Go p e below s _ _ _ (T77.setTop (mkF m 303 #[iv p1, iv p2, iv p3, iv p4, iv p5, iv p6, rv b1, iv (0 : Int32), iv (3 : Int32), rv b65, rv r67, iv (1 : Int32)] [(.int (((p1.toInt8.toInt32) ^^^ (1 : Int32)).toInt8.toInt32)), (.int (0 : Int32)), (.ref r67)]))
            obtain ⟨cl85, Ar85, q85, Sz85, Nz85, Ha85, Ga85⟩ := id V_r67
            have hin85 : ¬ ((0 : Int32) < 0 ∨ cl85.slots.size ≤ ((0 : Int32)).toNatClampNeg) := inb_of Sz85 ⟨by decide, by decide⟩
            obtain ⟨T86, h86, X86, e86, W86, st86⟩ := stB X77 hx hZ e77 Ar85 (j := (0 : Int32)) hin85 (g := (mkF m 303 #[iv p1, iv p2, iv p3, iv p4, iv p5, iv p6, rv b1, iv (0 : Int32), iv (3 : Int32), rv b65, rv r67, iv (1 : Int32)] [(.int (((p1.toInt8.toInt32) ^^^ (1 : Int32)).toInt8.toInt32)), (.int (0 : Int32)), (.ref r67)])) rfl rfl (hb hby at_303)
            refine own_go st86 ?_
            rw [show nar .byte (((p1.toInt8.toInt32) ^^^ (1 : Int32)).toInt8.toInt32) = (((p1.toInt8.toInt32) ^^^ (1 : Int32)).toInt8.toInt32) from own_b8 _] at W86
            have V86 := Arv.set Ar85 q85 Sz85 Nz85 Ha85 Ga85 (fits_nar_byte _) W86 0 rfl (Nat.le_of_ble_eq_true rfl)
            have N86 := Fr.snoc X86 N77 g_r67
            replace Kp := Kp.wr W86 (Or.inr sz_r67)
            replace V_b1 := V_b1.other W86 ne_b1_r67
            replace Ea_b1 := Ea_b1.wr W86
            replace Ex_b65 := Ex_b65.wr W86
            replace F_start_b65 := F_start_b65.other W86 (Or.inl ne_b65_r67)
            replace F_end_b65 := F_end_b65.other W86 (Or.inl ne_b65_r67)
            replace Ea_r67 := Ea_r67.wr W86
            replace V_r67 : Arv Z h86 r67 kr67 .byte (3 : Int32) [(.int (((p1.toInt8.toInt32) ^^^ (1 : Int32)).toInt8.toInt32)), (.int (p2.toInt8.toInt32)), (.int (p3.toInt8.toInt32))] (.int (0 : Int32)) := V86
            show own_Go p e below s _ _ _ (T86.setTop (mkF m 304 #[iv p1, iv p2, iv p3, iv p4, iv p5, iv p6, rv b1, iv (0 : Int32), iv (3 : Int32), rv b65, rv r67, iv (1 : Int32)] []))
            refine own_go (fun zt zk => (XS.iload X86.here hx rfl (hb hby at_304) rfl (XS.ifNo X86.here hx rfl (hb hby at_306) rfl ((if0 _ _).trans (feq ((by decide) : ¬ ((1 : Int32) = (0 : Int32)))).1) (XS.aload X86.here hx rfl (hb hby at_309) rfl rfl (XS.iload X86.here hx rfl (hb hby at_311) rfl zk))))) ?_
            show own_Go p e below s _ _ _ (T86.setTop (mkF m 313 #[iv p1, iv p2, iv p3, iv p4, iv p5, iv p6, rv b1, iv (0 : Int32), iv (3 : Int32), rv b65, rv r67, iv (1 : Int32)] [(.int (0 : Int32)), (.ref b1)]))
            obtain ⟨cl87, Ar87, q87, Sz87, Nz87, Ha87, Ga87⟩ := id V_b1
            have hin87 : ¬ ((0 : Int32) < 0 ∨ cl87.slots.size ≤ ((0 : Int32)).toNatClampNeg) := inb_of Sz87 ⟨by decide, by decide⟩
            have hat87 : cl87.slots[((0 : Int32)).toNatClampNeg]? = some (.int (p1.toInt8.toInt32)) := Has.at Ha87 hin87 rfl
            refine own_go (X86.baloadBytes hx (j := (0 : Int32)) (v := (.int (p1.toInt8.toInt32))) (by rw [e86]; exact Ar87.1) (State.isArrayOf_alike hZ.alike Ar87.2.1) Ar87.2.2 hin87 hat87 (g := (mkF m 313 #[iv p1, iv p2, iv p3, iv p4, iv p5, iv p6, rv b1, iv (0 : Int32), iv (3 : Int32), rv b65, rv r67, iv (1 : Int32)] [(.int (0 : Int32)), (.ref b1)])) rfl rfl (hb hby at_313)) ?_
            show own_Go p e below s _ _ _ (T86.setTop (mkF m 314 #[iv p1, iv p2, iv p3, iv p4, iv p5, iv p6, rv b1, iv (0 : Int32), iv (3 : Int32), rv b65, rv r67, iv (1 : Int32)] [(.int (p1.toInt8.toInt32))]))
            refine own_go (fun zt zk => (XS.iload X86.here hx rfl (hb hby at_314) rfl (XS.iloadN X86.here hx rfl (hb hby at_316) rfl (XS.iloadN X86.here hx rfl (hb hby at_317) rfl (XS.iloadN X86.here hx rfl (hb hby at_318) rfl (XS.iloadN X86.here hx rfl (hb hby at_319) rfl zk)))))) ?_
            show own_Go p e below s _ _ _ (T86.setTop (mkF m 320 #[iv p1, iv p2, iv p3, iv p4, iv p5, iv p6, rv b1, iv (0 : Int32), iv (3 : Int32), rv b65, rv r67, iv (1 : Int32)] [(.int p4), (.int p3), (.int p2), (.int p1), (.int (0 : Int32)), (.int (p1.toInt8.toInt32))]))
            obtain ⟨_, _, ⟨T88, L88, k88, n88⟩, -, X88, ⟨Lc88, hQ88, l88, y88, z88⟩, st88⟩ := Jvm.LawKit.callS X86 hx (y := (⟨"com/example/tranche/tranche/model/SpanBytesInPinLaw", "at", "(IIIII)B"⟩ : MethodName)) hown (mvT hZ (hw _ (List.mem_of_getElem? (i := 43) rfl))) (mvT hZ (hw _ (List.mem_of_getElem? (i := 44) rfl))) (mvT hZ (hw _ (List.mem_of_getElem? (i := 45) rfl))) (mvT hZ (hw _ (List.mem_of_getElem? (i := 46) rfl))) (by decide) (backOf (W := 1) (own_rat0 l Z a0 hw [] p1 p2 p3 p4  h86 n0 (Nat.le_trans Z0 Kp.1) ) hZ (hw _ (List.mem_of_getElem? (i := 46) rfl)) (hw _ (List.mem_of_getElem? (i := 45) rfl)) (by decide) (by decide)) (g := (mkF m 320 #[iv p1, iv p2, iv p3, iv p4, iv p5, iv p6, rv b1, iv (0 : Int32), iv (3 : Int32), rv b65, rv r67, iv (1 : Int32)] [(.int p4), (.int p3), (.int p2), (.int p1), (.int (0 : Int32)), (.int (p1.toInt8.toInt32))])) rfl (by rw [hml]; rfl) (argsL := [(.int (0 : Int32)), (.int p1), (.int p2), (.int p3), (.int p4)]) (rest := [(.int (p1.toInt8.toInt32))]) (lenOf own_pd__IIIII_B rfl) rfl (by show 2 * 0 + _ ≤ _; exact Nat.le_of_eq rfl) (hb hby at_320) (fun _ _ => ⟨rfl, e86, (by decide : 3 + 0 ≤ _), (by decide : 9 + 0 ≤ _)⟩)
            dsimp only [Pt.U, Pt.locs, Pt.cells, Pt.slots] at X88 l88 y88 z88 st88 hQ88
            subst l88 y88 z88
            obtain ⟨rfl, Nq88, e88⟩ := hQ88
            have N88 := Fr.app N86 Nq88
            refine own_go st88 ?_
            show own_Go p e below s _ _ _ (T88.setTop (mkF m 323 #[iv p1, iv p2, iv p3, iv p4, iv p5, iv p6, rv b1, iv (0 : Int32), iv (3 : Int32), rv b65, rv r67, iv (1 : Int32)] [(.int (p1.toInt8.toInt32)), (.int (p1.toInt8.toInt32))]))
            refine own_go (fun zt zk => (XS.icmpNo X88.here hx rfl (hb hby at_323) rfl (teq (rfl : (p1.toInt8.toInt32) = (p1.toInt8.toInt32))).2 (XS.iconst X88.here hx rfl (hb hby at_326) (XS.goto X88.here hx rfl (pc0 := 327) (pc' := 331) rfl (hb hby at_327) (by decide) (by decide) (XS.istore X88.here hx rfl (hb hby at_331) rfl (l' := #[iv p1, iv p2, iv p3, iv p4, iv p5, iv p6, rv b1, iv (0 : Int32), iv (3 : Int32), rv b65, rv r67, iv (1 : Int32)]) rfl (XS.iload X88.here hx rfl (hb hby at_333) rfl zk)))))) ?_
            show own_Go p e below s _ _ _ (T88.setTop (mkF m 335 #[iv p1, iv p2, iv p3, iv p4, iv p5, iv p6, rv b1, iv (0 : Int32), iv (3 : Int32), rv b65, rv r67, iv (1 : Int32)] [(.int (1 : Int32))]))
            exact own_fin X88 Bd.notSynchronized (fun h => by rw [Bd.returns] at h; cases h) (fun fs hr => retN X88 hx (t := .boolean) Bd.returns (by simp) (hb hby at_335) hr) (by rw [e88]; exact ⟨rfl, N88⟩) (by decide) (by decide)
          · have hk4_en : en = (4 : Int32) := Int32.toInt_inj.mp (by have a := own_mod (D := 5) rfl (by decide) hv_en; have b0 := own_ne 0 rfl hk0_en; have b1 := own_ne 1 rfl hk1_en; have b2 := own_ne 2 rfl hk2_en; have b3 := own_ne 3 rfl hk3_en; show en.toInt = 4; omega)
            subst hk4_en
            show own_Go p e below s _ _ _ (T9.setTop (mkF m 46 #[iv p1, iv p2, iv p3, iv p4, iv p5, iv p6, rv b1, iv (0 : Int32), .unset, .unset, .unset, .unset] [(.int (4 : Int32)), (.int (0 : Int32))]))
            refine own_go (fun zt zk => (XS.iadd X9.here hx rfl (hb hby at_46) rfl (XS.istore X9.here hx rfl (hb hby at_47) rfl (l' := #[iv p1, iv p2, iv p3, iv p4, iv p5, iv p6, rv b1, iv (0 : Int32), iv (4 : Int32), .unset, .unset, .unset]) rfl zk))) ?_
            show own_Go p e below s _ _ _ (T9.setTop (mkF m 49 #[iv p1, iv p2, iv p3, iv p4, iv p5, iv p6, rv b1, iv (0 : Int32), iv (4 : Int32), .unset, .unset, .unset] []))
            obtain ⟨T89, h89, X89, e89, E89, A89, D89, -, st89⟩ := newO X9 hx hZ hown (hw _ (List.mem_of_getElem? (i := 2) rfl)) (hw _ (List.mem_of_getElem? (i := 3) rfl)) (hw _ (List.mem_of_getElem? (i := 4) rfl)) e9 (g := (mkF m 49 #[iv p1, iv p2, iv p3, iv p4, iv p5, iv p6, rv b1, iv (0 : Int32), iv (4 : Int32), .unset, .unset, .unset] [])) rfl (hb hby at_49) (by decide) (by decide)
            obtain ⟨b89, g89⟩ : ∃ z, z = h9.size := ⟨_, rfl⟩
            rw [← g89] at A89 D89 st89
            refine own_go st89 ?_
            have ne_b1_b89 : b1 ≠ b89 := Nat.ne_of_lt (Nat.lt_of_lt_of_le V_b1.lt (Nat.le_of_eq g89.symm))
            have sz_b89 : h0.size ≤ b89 := Nat.le_trans Kp.1 (Nat.le_of_eq g89.symm)
            have g_b89 : n0 ≤ b89 := Nat.le_trans Z0 sz_b89
            replace Kp := Kp.ext E89
            replace V_b1 := V_b1.ext E89
            replace Ea_b1 := Ea_b1.ext E89
            have Ex_b89 := A89
            have F_start_b89 : Fld Z h89 b89 "com/example/tranche/tranche/model/Span" "start" "I" (.int (0 : Int32)) := D89 (Or.inr (hw _ (List.mem_of_getElem? (i := 17) rfl))) (ty := .int) (by decide)
            have F_end_b89 : Fld Z h89 b89 "com/example/tranche/tranche/model/Span" "end" "I" (.int (0 : Int32)) := D89 (Or.inr (hw _ (List.mem_of_getElem? (i := 19) rfl))) (ty := .int) (by decide)
            show own_Go p e below s _ _ _ (T89.setTop (mkF m 52 #[iv p1, iv p2, iv p3, iv p4, iv p5, iv p6, rv b1, iv (0 : Int32), iv (4 : Int32), .unset, .unset, .unset] [(.ref b89)]))
            refine own_go (fun zt zk => (XS.dup X89.here hx rfl (hb hby at_52) rfl rfl (XS.iload X89.here hx rfl (hb hby at_53) rfl (XS.iload X89.here hx rfl (hb hby at_55) rfl zk)))) ?_
            show own_Go p e below s _ _ _ (T89.setTop (mkF m 57 #[iv p1, iv p2, iv p3, iv p4, iv p5, iv p6, rv b1, iv (0 : Int32), iv (4 : Int32), .unset, .unset, .unset] [(.int (4 : Int32)), (.int (0 : Int32)), (.ref b89), (.ref b89)]))
            obtain ⟨_, _, ⟨T90, L90, k90, n90⟩, -, X90, ⟨Lc90, hQ90, l90, y90, z90⟩, st90⟩ := X89.specialBack hx (y := (⟨"com/example/tranche/tranche/model/Span", "<init>", "(II)V"⟩ : MethodName)) rfl hown (mvT hZ (hw _ (List.mem_of_getElem? (i := 5) rfl))) (mvT hZ (hw _ (List.mem_of_getElem? (i := 6) rfl))) (mvT hZ (hw _ (List.mem_of_getElem? (i := 7) rfl))) (by decide) (backOf (W := 1) (own_rspan l Z a0 hw [] b89 (0 : Int32) (4 : Int32)  h89 n0 (Nat.le_trans Z0 Kp.1) Ex_b89 F_start_b89 F_end_b89 g_b89 (by decide) (by decide)) hZ (hw _ (List.mem_of_getElem? (i := 7) rfl)) (hw _ (List.mem_of_getElem? (i := 4) rfl)) (by decide) (by decide)) (g := (mkF m 57 #[iv p1, iv p2, iv p3, iv p4, iv p5, iv p6, rv b1, iv (0 : Int32), iv (4 : Int32), .unset, .unset, .unset] [(.int (4 : Int32)), (.int (0 : Int32)), (.ref b89), (.ref b89)])) rfl (by rw [hml]; rfl) (Steps.refl _) (a := b89) (argsL := [(.int (0 : Int32)), (.int (4 : Int32))]) (rest := [(.ref b89)]) (lenOf own_pd__II_V rfl) rfl (by show 2 * 0 + _ ≤ _; exact Nat.le_of_eq rfl) (hb hby at_57) (fun _ _ => ⟨rfl, e89, (by decide : 2 + 0 ≤ _), (by decide : 6 + 0 ≤ _)⟩)
            dsimp only [Pt.U, Pt.locs, Pt.cells, Pt.slots] at X90 l90 y90 z90 st90 hQ90
            subst l90 y90 z90
            obtain ⟨rfl, Nq90, K90, -, F_start_b89, F_end_b89⟩ := hQ90
            have N90 := Fr.app N9 Nq90
            refine own_go (fun zt zk => st90.trans zk) ?_
            replace Kp := Kp.trans K90 (allS (Or.inr sz_b89) all0)
            replace V_b1 := V_b1.keep K90 (ninS ne_b1_b89 nin0)
            replace Ea_b1 := Ea_b1.keep K90
            replace Ex_b89 := Ex_b89.keep K90
            show own_Go p e below s _ _ _ (T90.setTop (mkF m 60 #[iv p1, iv p2, iv p3, iv p4, iv p5, iv p6, rv b1, iv (0 : Int32), iv (4 : Int32), .unset, .unset, .unset] [(.ref b89)]))
            refine own_go (fun zt zk => (XS.astore X90.here hx rfl (hb hby at_60) rfl rfl (l' := #[iv p1, iv p2, iv p3, iv p4, iv p5, iv p6, rv b1, iv (0 : Int32), iv (4 : Int32), rv b89, .unset, .unset]) rfl (XS.aload X90.here hx rfl (hb hby at_62) rfl rfl (XS.aload X90.here hx rfl (hb hby at_64) rfl rfl zk)))) ?_
            show own_Go p e below s _ _ _ (T90.setTop (mkF m 66 #[iv p1, iv p2, iv p3, iv p4, iv p5, iv p6, rv b1, iv (0 : Int32), iv (4 : Int32), rv b89, .unset, .unset] [(.ref b1), (.ref b89)]))
            obtain ⟨cq91, kq91, qa91, qb91, qc91⟩ := isOf hZ rfl Ex_b89
            obtain ⟨_, _, ⟨T91, L91, k91, n91⟩, -, X91, ⟨Lc91, hQ91, l91, y91, z91⟩, st91⟩ := X90.virtualBack hx (y := (⟨"com/example/tranche/tranche/model/Span", "bytesIn", "([B)[B"⟩ : MethodName)) (z := (⟨"com/example/tranche/tranche/model/Span", "bytesIn", "([B)[B"⟩ : MethodName)) hown (mvT hZ (hw _ (List.mem_of_getElem? (i := 20) rfl))) (mvT hZ (hw _ (List.mem_of_getElem? (i := 21) rfl))) (notFace_of_selects (args := #[]) (mvT hZ (hw _ (List.mem_of_getElem? (i := 23) rfl)))) (mvT hZ (hw _ (List.mem_of_getElem? (i := 23) rfl))) (mvT hZ (hw _ (List.mem_of_getElem? (i := 22) rfl))) (by decide) (backOf (W := 0) (own_rbi04 l Z a0 hw [] b89 b1 k1 (.int (p1.toInt8.toInt32)) (.int (p2.toInt8.toInt32)) (.int (p3.toInt8.toInt32)) (.int (p4.toInt8.toInt32)) T90.heap n0 (Nat.le_trans Z0 Kp.1) V_b1 Ea_b1 F_start_b89 F_end_b89) hZ (hw _ (List.mem_of_getElem? (i := 24) rfl)) (hw _ (List.mem_of_getElem? (i := 4) rfl)) (by decide) (by decide)) qa91 qc91 (g := (mkF m 66 #[iv p1, iv p2, iv p3, iv p4, iv p5, iv p6, rv b1, iv (0 : Int32), iv (4 : Int32), rv b89, .unset, .unset] [(.ref b1), (.ref b89)])) rfl (by rw [hml]; rfl) (Steps.refl _) (argsL := [(.ref b1)]) (rest := []) (lenOf own_pd___B__B rfl) rfl (by show 2 * 0 + _ ≤ _; exact Nat.le_of_eq rfl) (hb hby at_66) (fun _ _ => ⟨rfl, rfl, (by decide : 2 + 1 ≤ _), (by decide : 6 + 4 ≤ _)⟩)
            dsimp only [Pt.U, Pt.locs, Pt.cells, Pt.slots] at X91 l91 y91 z91 st91 hQ91
            subst l91 y91 z91
            obtain ⟨r91, kr91, rfl, Nq91, K91, sr91, Ea_r91, V_r91⟩ := hQ91
            have sz_r91 := Nat.le_trans Kp.1 sr91
            have g_r91 := Nat.le_trans Z0 sz_r91
            have ne_b1_r91 : b1 ≠ r91 := Nat.ne_of_lt (Nat.lt_of_lt_of_le V_b1.lt sr91)
            have ne_b89_r91 : b89 ≠ r91 := Nat.ne_of_lt (Nat.lt_of_lt_of_le Ex_b89.lt sr91)
            have N91 := Fr.app N90 Nq91
            refine own_go (fun zt zk => st91.trans zk) ?_
            replace Kp := Kp.trans K91 all0
            replace V_b1 := V_b1.keep K91 nin0
            replace Ea_b1 := Ea_b1.keep K91
            replace Ex_b89 := Ex_b89.keep K91
            replace F_start_b89 := F_start_b89.keep K91 nin0
            replace F_end_b89 := F_end_b89.keep K91 nin0
            show own_Go p e below s _ _ _ (T91.setTop (mkF m 69 #[iv p1, iv p2, iv p3, iv p4, iv p5, iv p6, rv b1, iv (0 : Int32), iv (4 : Int32), rv b89, .unset, .unset] [(.ref r91)]))
            refine own_go (fun zt zk => (XS.astore X91.here hx rfl (hb hby at_69) rfl rfl (l' := #[iv p1, iv p2, iv p3, iv p4, iv p5, iv p6, rv b1, iv (0 : Int32), iv (4 : Int32), rv b89, rv r91, .unset]) rfl (XS.aload X91.here hx rfl (hb hby at_71) rfl rfl (XS.ifnonnullYes X91.here hx rfl (pc0 := 73) (pc' := 78) rfl (hb hby at_73) rfl (by decide) (by decide) (XS.aload X91.here hx rfl (hb hby at_78) rfl rfl zk))))) ?_
            show own_Go p e below s _ _ _ (T91.setTop (mkF m 80 #[iv p1, iv p2, iv p3, iv p4, iv p5, iv p6, rv b1, iv (0 : Int32), iv (4 : Int32), rv b89, rv r91, .unset] [(.ref r91)]))
            obtain ⟨cl92, Ar92, -, Sz92, Nz92, -, -⟩ := id V_r91
            refine own_go (X91.arraylength hx (by exact Ar92.1) (State.isArrayOf_alike hZ.alike Ar92.2.1) (g := (mkF m 80 #[iv p1, iv p2, iv p3, iv p4, iv p5, iv p6, rv b1, iv (0 : Int32), iv (4 : Int32), rv b89, rv r91, .unset] [(.ref r91)])) rfl rfl (hb hby at_80)) ?_
            rw [len_of Sz92 Nz92]
            show own_Go p e below s _ _ _ (T91.setTop (mkF m 81 #[iv p1, iv p2, iv p3, iv p4, iv p5, iv p6, rv b1, iv (0 : Int32), iv (4 : Int32), rv b89, rv r91, .unset] [(.int (4 : Int32))]))
            refine own_go (fun zt zk => (XS.iload X91.here hx rfl (hb hby at_81) rfl (XS.iload X91.here hx rfl (hb hby at_83) rfl (XS.isub X91.here hx rfl (hb hby at_85) rfl (XS.icmpYes X91.here hx rfl (pc0 := 86) (pc' := 91) rfl (hb hby at_86) rfl (teq (rfl : (4 : Int32) = (4 : Int32))).1 (by decide) (by decide) (XS.iconst X91.here hx rfl (hb hby at_91) (XS.istore X91.here hx rfl (hb hby at_92) rfl (l' := #[iv p1, iv p2, iv p3, iv p4, iv p5, iv p6, rv b1, iv (0 : Int32), iv (4 : Int32), rv b89, rv r91, iv (1 : Int32)]) rfl (XS.aload X91.here hx rfl (hb hby at_94) rfl rfl zk)))))))) ?_
            show own_Go p e below s _ _ _ (T91.setTop (mkF m 96 #[iv p1, iv p2, iv p3, iv p4, iv p5, iv p6, rv b1, iv (0 : Int32), iv (4 : Int32), rv b89, rv r91, iv (1 : Int32)] [(.ref r91)]))
            obtain ⟨cl93, Ar93, -, Sz93, Nz93, -, -⟩ := id V_r91
            refine own_go (X91.arraylength hx (by exact Ar93.1) (State.isArrayOf_alike hZ.alike Ar93.2.1) (g := (mkF m 96 #[iv p1, iv p2, iv p3, iv p4, iv p5, iv p6, rv b1, iv (0 : Int32), iv (4 : Int32), rv b89, rv r91, iv (1 : Int32)] [(.ref r91)])) rfl rfl (hb hby at_96)) ?_
            rw [len_of Sz93 Nz93]
            show own_Go p e below s _ _ _ (T91.setTop (mkF m 97 #[iv p1, iv p2, iv p3, iv p4, iv p5, iv p6, rv b1, iv (0 : Int32), iv (4 : Int32), rv b89, rv r91, iv (1 : Int32)] [(.int (4 : Int32))]))
            refine own_go (fun zt zk => (XS.ifNo X91.here hx rfl (hb hby at_97) rfl ((if0 _ _).trans (tlt ((by decide) : (0 : Int32) < (4 : Int32))).2.2.2) (XS.iload X91.here hx rfl (hb hby at_100) rfl (XS.ifNo X91.here hx rfl (hb hby at_102) rfl ((if0 _ _).trans (feq ((by decide) : ¬ ((1 : Int32) = (0 : Int32)))).1) (XS.aload X91.here hx rfl (hb hby at_105) rfl rfl (XS.iconst X91.here hx rfl (hb hby at_107) zk)))))) ?_
            show own_Go p e below s _ _ _ (T91.setTop (mkF m 108 #[iv p1, iv p2, iv p3, iv p4, iv p5, iv p6, rv b1, iv (0 : Int32), iv (4 : Int32), rv b89, rv r91, iv (1 : Int32)] [(.int (0 : Int32)), (.ref r91)]))
            obtain ⟨cl94, Ar94, q94, Sz94, Nz94, Ha94, Ga94⟩ := id V_r91
            have hin94 : ¬ ((0 : Int32) < 0 ∨ cl94.slots.size ≤ ((0 : Int32)).toNatClampNeg) := inb_of Sz94 ⟨by decide, by decide⟩
            have hat94 : cl94.slots[((0 : Int32)).toNatClampNeg]? = some (.int (p1.toInt8.toInt32)) := Has.at Ha94 hin94 rfl
            refine own_go (X91.baloadBytes hx (j := (0 : Int32)) (v := (.int (p1.toInt8.toInt32))) (by exact Ar94.1) (State.isArrayOf_alike hZ.alike Ar94.2.1) Ar94.2.2 hin94 hat94 (g := (mkF m 108 #[iv p1, iv p2, iv p3, iv p4, iv p5, iv p6, rv b1, iv (0 : Int32), iv (4 : Int32), rv b89, rv r91, iv (1 : Int32)] [(.int (0 : Int32)), (.ref r91)])) rfl rfl (hb hby at_108)) ?_
            show own_Go p e below s _ _ _ (T91.setTop (mkF m 109 #[iv p1, iv p2, iv p3, iv p4, iv p5, iv p6, rv b1, iv (0 : Int32), iv (4 : Int32), rv b89, rv r91, iv (1 : Int32)] [(.int (p1.toInt8.toInt32))]))
            refine own_go (fun zt zk => (XS.iload X91.here hx rfl (hb hby at_109) rfl (XS.iloadN X91.here hx rfl (hb hby at_111) rfl (XS.iloadN X91.here hx rfl (hb hby at_112) rfl (XS.iloadN X91.here hx rfl (hb hby at_113) rfl (XS.iloadN X91.here hx rfl (hb hby at_114) rfl zk)))))) ?_
            show own_Go p e below s _ _ _ (T91.setTop (mkF m 115 #[iv p1, iv p2, iv p3, iv p4, iv p5, iv p6, rv b1, iv (0 : Int32), iv (4 : Int32), rv b89, rv r91, iv (1 : Int32)] [(.int p4), (.int p3), (.int p2), (.int p1), (.int (0 : Int32)), (.int (p1.toInt8.toInt32))]))
            obtain ⟨_, _, ⟨T95, L95, k95, n95⟩, -, X95, ⟨Lc95, hQ95, l95, y95, z95⟩, st95⟩ := Jvm.LawKit.callS X91 hx (y := (⟨"com/example/tranche/tranche/model/SpanBytesInPinLaw", "at", "(IIIII)B"⟩ : MethodName)) hown (mvT hZ (hw _ (List.mem_of_getElem? (i := 43) rfl))) (mvT hZ (hw _ (List.mem_of_getElem? (i := 44) rfl))) (mvT hZ (hw _ (List.mem_of_getElem? (i := 45) rfl))) (mvT hZ (hw _ (List.mem_of_getElem? (i := 46) rfl))) (by decide) (backOf (W := 1) (own_rat0 l Z a0 hw [] p1 p2 p3 p4  T91.heap n0 (Nat.le_trans Z0 Kp.1) ) hZ (hw _ (List.mem_of_getElem? (i := 46) rfl)) (hw _ (List.mem_of_getElem? (i := 45) rfl)) (by decide) (by decide)) (g := (mkF m 115 #[iv p1, iv p2, iv p3, iv p4, iv p5, iv p6, rv b1, iv (0 : Int32), iv (4 : Int32), rv b89, rv r91, iv (1 : Int32)] [(.int p4), (.int p3), (.int p2), (.int p1), (.int (0 : Int32)), (.int (p1.toInt8.toInt32))])) rfl (by rw [hml]; rfl) (argsL := [(.int (0 : Int32)), (.int p1), (.int p2), (.int p3), (.int p4)]) (rest := [(.int (p1.toInt8.toInt32))]) (lenOf own_pd__IIIII_B rfl) rfl (by show 2 * 0 + _ ≤ _; exact Nat.le_of_eq rfl) (hb hby at_115) (fun _ _ => ⟨rfl, rfl, (by decide : 3 + 0 ≤ _), (by decide : 10 + 0 ≤ _)⟩)
            dsimp only [Pt.U, Pt.locs, Pt.cells, Pt.slots] at X95 l95 y95 z95 st95 hQ95
            subst l95 y95 z95
            obtain ⟨rfl, Nq95, e95⟩ := hQ95
            have N95 := Fr.app N91 Nq95
            refine own_go st95 ?_
            show own_Go p e below s _ _ _ (T95.setTop (mkF m 118 #[iv p1, iv p2, iv p3, iv p4, iv p5, iv p6, rv b1, iv (0 : Int32), iv (4 : Int32), rv b89, rv r91, iv (1 : Int32)] [(.int (p1.toInt8.toInt32)), (.int (p1.toInt8.toInt32))]))
            refine own_go (fun zt zk => (XS.icmpNo X95.here hx rfl (hb hby at_118) rfl (teq (rfl : (p1.toInt8.toInt32) = (p1.toInt8.toInt32))).2 (XS.iconst X95.here hx rfl (hb hby at_121) (XS.goto X95.here hx rfl (pc0 := 122) (pc' := 126) rfl (hb hby at_122) (by decide) (by decide) (XS.istore X95.here hx rfl (hb hby at_126) rfl (l' := #[iv p1, iv p2, iv p3, iv p4, iv p5, iv p6, rv b1, iv (0 : Int32), iv (4 : Int32), rv b89, rv r91, iv (1 : Int32)]) rfl (XS.aload X95.here hx rfl (hb hby at_128) rfl rfl zk)))))) ?_
            show own_Go p e below s _ _ _ (T95.setTop (mkF m 130 #[iv p1, iv p2, iv p3, iv p4, iv p5, iv p6, rv b1, iv (0 : Int32), iv (4 : Int32), rv b89, rv r91, iv (1 : Int32)] [(.ref r91)]))
            obtain ⟨cl96, Ar96, -, Sz96, Nz96, -, -⟩ := id V_r91
            refine own_go (X95.arraylength hx (by rw [e95]; exact Ar96.1) (State.isArrayOf_alike hZ.alike Ar96.2.1) (g := (mkF m 130 #[iv p1, iv p2, iv p3, iv p4, iv p5, iv p6, rv b1, iv (0 : Int32), iv (4 : Int32), rv b89, rv r91, iv (1 : Int32)] [(.ref r91)])) rfl rfl (hb hby at_130)) ?_
            rw [len_of Sz96 Nz96]
            show own_Go p e below s _ _ _ (T95.setTop (mkF m 131 #[iv p1, iv p2, iv p3, iv p4, iv p5, iv p6, rv b1, iv (0 : Int32), iv (4 : Int32), rv b89, rv r91, iv (1 : Int32)] [(.int (4 : Int32))]))
            refine own_go (fun zt zk => (XS.iconst X95.here hx rfl (hb hby at_131) (XS.icmpNo X95.here hx rfl (hb hby at_132) rfl (tlt ((by decide) : (1 : Int32) < (4 : Int32))).2.2.2 (XS.iload X95.here hx rfl (hb hby at_135) rfl (XS.ifNo X95.here hx rfl (hb hby at_137) rfl ((if0 _ _).trans (feq ((by decide) : ¬ ((1 : Int32) = (0 : Int32)))).1) (XS.aload X95.here hx rfl (hb hby at_140) rfl rfl (XS.iconst X95.here hx rfl (hb hby at_142) zk))))))) ?_
            show own_Go p e below s _ _ _ (T95.setTop (mkF m 143 #[iv p1, iv p2, iv p3, iv p4, iv p5, iv p6, rv b1, iv (0 : Int32), iv (4 : Int32), rv b89, rv r91, iv (1 : Int32)] [(.int (1 : Int32)), (.ref r91)]))
            obtain ⟨cl97, Ar97, q97, Sz97, Nz97, Ha97, Ga97⟩ := id V_r91
            have hin97 : ¬ ((1 : Int32) < 0 ∨ cl97.slots.size ≤ ((1 : Int32)).toNatClampNeg) := inb_of Sz97 ⟨by decide, by decide⟩
            have hat97 : cl97.slots[((1 : Int32)).toNatClampNeg]? = some (.int (p2.toInt8.toInt32)) := Has.at Ha97 hin97 rfl
            refine own_go (X95.baloadBytes hx (j := (1 : Int32)) (v := (.int (p2.toInt8.toInt32))) (by rw [e95]; exact Ar97.1) (State.isArrayOf_alike hZ.alike Ar97.2.1) Ar97.2.2 hin97 hat97 (g := (mkF m 143 #[iv p1, iv p2, iv p3, iv p4, iv p5, iv p6, rv b1, iv (0 : Int32), iv (4 : Int32), rv b89, rv r91, iv (1 : Int32)] [(.int (1 : Int32)), (.ref r91)])) rfl rfl (hb hby at_143)) ?_
            show own_Go p e below s _ _ _ (T95.setTop (mkF m 144 #[iv p1, iv p2, iv p3, iv p4, iv p5, iv p6, rv b1, iv (0 : Int32), iv (4 : Int32), rv b89, rv r91, iv (1 : Int32)] [(.int (p2.toInt8.toInt32))]))
            refine own_go (fun zt zk => (XS.iload X95.here hx rfl (hb hby at_144) rfl (XS.iconst X95.here hx rfl (hb hby at_146) (XS.iadd X95.here hx rfl (hb hby at_147) rfl (XS.iloadN X95.here hx rfl (hb hby at_148) rfl (XS.iloadN X95.here hx rfl (hb hby at_149) rfl (XS.iloadN X95.here hx rfl (hb hby at_150) rfl (XS.iloadN X95.here hx rfl (hb hby at_151) rfl zk)))))))) ?_
            show own_Go p e below s _ _ _ (T95.setTop (mkF m 152 #[iv p1, iv p2, iv p3, iv p4, iv p5, iv p6, rv b1, iv (0 : Int32), iv (4 : Int32), rv b89, rv r91, iv (1 : Int32)] [(.int p4), (.int p3), (.int p2), (.int p1), (.int (1 : Int32)), (.int (p2.toInt8.toInt32))]))
            obtain ⟨_, _, ⟨T98, L98, k98, n98⟩, -, X98, ⟨Lc98, hQ98, l98, y98, z98⟩, st98⟩ := Jvm.LawKit.callS X95 hx (y := (⟨"com/example/tranche/tranche/model/SpanBytesInPinLaw", "at", "(IIIII)B"⟩ : MethodName)) hown (mvT hZ (hw _ (List.mem_of_getElem? (i := 43) rfl))) (mvT hZ (hw _ (List.mem_of_getElem? (i := 44) rfl))) (mvT hZ (hw _ (List.mem_of_getElem? (i := 45) rfl))) (mvT hZ (hw _ (List.mem_of_getElem? (i := 46) rfl))) (by decide) (backOf (W := 1) (own_rat1 l Z a0 hw [] p1 p2 p3 p4  T91.heap n0 (Nat.le_trans Z0 Kp.1) ) hZ (hw _ (List.mem_of_getElem? (i := 46) rfl)) (hw _ (List.mem_of_getElem? (i := 45) rfl)) (by decide) (by decide)) (g := (mkF m 152 #[iv p1, iv p2, iv p3, iv p4, iv p5, iv p6, rv b1, iv (0 : Int32), iv (4 : Int32), rv b89, rv r91, iv (1 : Int32)] [(.int p4), (.int p3), (.int p2), (.int p1), (.int (1 : Int32)), (.int (p2.toInt8.toInt32))])) rfl (by rw [hml]; rfl) (argsL := [(.int (1 : Int32)), (.int p1), (.int p2), (.int p3), (.int p4)]) (rest := [(.int (p2.toInt8.toInt32))]) (lenOf own_pd__IIIII_B rfl) rfl (by show 2 * 0 + _ ≤ _; exact Nat.le_of_eq rfl) (hb hby at_152) (fun _ _ => ⟨rfl, e95, (by decide : 3 + 0 ≤ _), (by decide : 10 + 0 ≤ _)⟩)
            dsimp only [Pt.U, Pt.locs, Pt.cells, Pt.slots] at X98 l98 y98 z98 st98 hQ98
            subst l98 y98 z98
            obtain ⟨rfl, Nq98, e98⟩ := hQ98
            have N98 := Fr.app N95 Nq98
            refine own_go st98 ?_
            show own_Go p e below s _ _ _ (T98.setTop (mkF m 155 #[iv p1, iv p2, iv p3, iv p4, iv p5, iv p6, rv b1, iv (0 : Int32), iv (4 : Int32), rv b89, rv r91, iv (1 : Int32)] [(.int (p2.toInt8.toInt32)), (.int (p2.toInt8.toInt32))]))
            refine own_go (fun zt zk => (XS.icmpNo X98.here hx rfl (hb hby at_155) rfl (teq (rfl : (p2.toInt8.toInt32) = (p2.toInt8.toInt32))).2 (XS.iconst X98.here hx rfl (hb hby at_158) (XS.goto X98.here hx rfl (pc0 := 159) (pc' := 163) rfl (hb hby at_159) (by decide) (by decide) (XS.istore X98.here hx rfl (hb hby at_163) rfl (l' := #[iv p1, iv p2, iv p3, iv p4, iv p5, iv p6, rv b1, iv (0 : Int32), iv (4 : Int32), rv b89, rv r91, iv (1 : Int32)]) rfl (XS.aload X98.here hx rfl (hb hby at_165) rfl rfl zk)))))) ?_
            show own_Go p e below s _ _ _ (T98.setTop (mkF m 167 #[iv p1, iv p2, iv p3, iv p4, iv p5, iv p6, rv b1, iv (0 : Int32), iv (4 : Int32), rv b89, rv r91, iv (1 : Int32)] [(.ref r91)]))
            obtain ⟨cl99, Ar99, -, Sz99, Nz99, -, -⟩ := id V_r91
            refine own_go (X98.arraylength hx (by rw [e98]; exact Ar99.1) (State.isArrayOf_alike hZ.alike Ar99.2.1) (g := (mkF m 167 #[iv p1, iv p2, iv p3, iv p4, iv p5, iv p6, rv b1, iv (0 : Int32), iv (4 : Int32), rv b89, rv r91, iv (1 : Int32)] [(.ref r91)])) rfl rfl (hb hby at_167)) ?_
            rw [len_of Sz99 Nz99]
            show own_Go p e below s _ _ _ (T98.setTop (mkF m 168 #[iv p1, iv p2, iv p3, iv p4, iv p5, iv p6, rv b1, iv (0 : Int32), iv (4 : Int32), rv b89, rv r91, iv (1 : Int32)] [(.int (4 : Int32))]))
            refine own_go (fun zt zk => (XS.iconst X98.here hx rfl (hb hby at_168) (XS.icmpNo X98.here hx rfl (hb hby at_169) rfl (tlt ((by decide) : (2 : Int32) < (4 : Int32))).2.2.2 (XS.iload X98.here hx rfl (hb hby at_172) rfl (XS.ifNo X98.here hx rfl (hb hby at_174) rfl ((if0 _ _).trans (feq ((by decide) : ¬ ((1 : Int32) = (0 : Int32)))).1) (XS.aload X98.here hx rfl (hb hby at_177) rfl rfl (XS.iconst X98.here hx rfl (hb hby at_179) zk))))))) ?_
            show own_Go p e below s _ _ _ (T98.setTop (mkF m 180 #[iv p1, iv p2, iv p3, iv p4, iv p5, iv p6, rv b1, iv (0 : Int32), iv (4 : Int32), rv b89, rv r91, iv (1 : Int32)] [(.int (2 : Int32)), (.ref r91)]))
            obtain ⟨cl100, Ar100, q100, Sz100, Nz100, Ha100, Ga100⟩ := id V_r91
            have hin100 : ¬ ((2 : Int32) < 0 ∨ cl100.slots.size ≤ ((2 : Int32)).toNatClampNeg) := inb_of Sz100 ⟨by decide, by decide⟩
            have hat100 : cl100.slots[((2 : Int32)).toNatClampNeg]? = some (.int (p3.toInt8.toInt32)) := Has.at Ha100 hin100 rfl
            refine own_go (X98.baloadBytes hx (j := (2 : Int32)) (v := (.int (p3.toInt8.toInt32))) (by rw [e98]; exact Ar100.1) (State.isArrayOf_alike hZ.alike Ar100.2.1) Ar100.2.2 hin100 hat100 (g := (mkF m 180 #[iv p1, iv p2, iv p3, iv p4, iv p5, iv p6, rv b1, iv (0 : Int32), iv (4 : Int32), rv b89, rv r91, iv (1 : Int32)] [(.int (2 : Int32)), (.ref r91)])) rfl rfl (hb hby at_180)) ?_
            show own_Go p e below s _ _ _ (T98.setTop (mkF m 181 #[iv p1, iv p2, iv p3, iv p4, iv p5, iv p6, rv b1, iv (0 : Int32), iv (4 : Int32), rv b89, rv r91, iv (1 : Int32)] [(.int (p3.toInt8.toInt32))]))
            refine own_go (fun zt zk => (XS.iload X98.here hx rfl (hb hby at_181) rfl (XS.iconst X98.here hx rfl (hb hby at_183) (XS.iadd X98.here hx rfl (hb hby at_184) rfl (XS.iloadN X98.here hx rfl (hb hby at_185) rfl (XS.iloadN X98.here hx rfl (hb hby at_186) rfl (XS.iloadN X98.here hx rfl (hb hby at_187) rfl (XS.iloadN X98.here hx rfl (hb hby at_188) rfl zk)))))))) ?_
            show own_Go p e below s _ _ _ (T98.setTop (mkF m 189 #[iv p1, iv p2, iv p3, iv p4, iv p5, iv p6, rv b1, iv (0 : Int32), iv (4 : Int32), rv b89, rv r91, iv (1 : Int32)] [(.int p4), (.int p3), (.int p2), (.int p1), (.int (2 : Int32)), (.int (p3.toInt8.toInt32))]))
            obtain ⟨_, _, ⟨T101, L101, k101, n101⟩, -, X101, ⟨Lc101, hQ101, l101, y101, z101⟩, st101⟩ := Jvm.LawKit.callS X98 hx (y := (⟨"com/example/tranche/tranche/model/SpanBytesInPinLaw", "at", "(IIIII)B"⟩ : MethodName)) hown (mvT hZ (hw _ (List.mem_of_getElem? (i := 43) rfl))) (mvT hZ (hw _ (List.mem_of_getElem? (i := 44) rfl))) (mvT hZ (hw _ (List.mem_of_getElem? (i := 45) rfl))) (mvT hZ (hw _ (List.mem_of_getElem? (i := 46) rfl))) (by decide) (backOf (W := 1) (own_rat2 l Z a0 hw [] p1 p2 p3 p4  T91.heap n0 (Nat.le_trans Z0 Kp.1) ) hZ (hw _ (List.mem_of_getElem? (i := 46) rfl)) (hw _ (List.mem_of_getElem? (i := 45) rfl)) (by decide) (by decide)) (g := (mkF m 189 #[iv p1, iv p2, iv p3, iv p4, iv p5, iv p6, rv b1, iv (0 : Int32), iv (4 : Int32), rv b89, rv r91, iv (1 : Int32)] [(.int p4), (.int p3), (.int p2), (.int p1), (.int (2 : Int32)), (.int (p3.toInt8.toInt32))])) rfl (by rw [hml]; rfl) (argsL := [(.int (2 : Int32)), (.int p1), (.int p2), (.int p3), (.int p4)]) (rest := [(.int (p3.toInt8.toInt32))]) (lenOf own_pd__IIIII_B rfl) rfl (by show 2 * 0 + _ ≤ _; exact Nat.le_of_eq rfl) (hb hby at_189) (fun _ _ => ⟨rfl, e98, (by decide : 3 + 0 ≤ _), (by decide : 10 + 0 ≤ _)⟩)
            dsimp only [Pt.U, Pt.locs, Pt.cells, Pt.slots] at X101 l101 y101 z101 st101 hQ101
            subst l101 y101 z101
            obtain ⟨rfl, Nq101, e101⟩ := hQ101
            have N101 := Fr.app N98 Nq101
            refine own_go st101 ?_
            show own_Go p e below s _ _ _ (T101.setTop (mkF m 192 #[iv p1, iv p2, iv p3, iv p4, iv p5, iv p6, rv b1, iv (0 : Int32), iv (4 : Int32), rv b89, rv r91, iv (1 : Int32)] [(.int (p3.toInt8.toInt32)), (.int (p3.toInt8.toInt32))]))
            refine own_go (fun zt zk => (XS.icmpNo X101.here hx rfl (hb hby at_192) rfl (teq (rfl : (p3.toInt8.toInt32) = (p3.toInt8.toInt32))).2 (XS.iconst X101.here hx rfl (hb hby at_195) (XS.goto X101.here hx rfl (pc0 := 196) (pc' := 200) rfl (hb hby at_196) (by decide) (by decide) (XS.istore X101.here hx rfl (hb hby at_200) rfl (l' := #[iv p1, iv p2, iv p3, iv p4, iv p5, iv p6, rv b1, iv (0 : Int32), iv (4 : Int32), rv b89, rv r91, iv (1 : Int32)]) rfl (XS.aload X101.here hx rfl (hb hby at_202) rfl rfl zk)))))) ?_
            show own_Go p e below s _ _ _ (T101.setTop (mkF m 204 #[iv p1, iv p2, iv p3, iv p4, iv p5, iv p6, rv b1, iv (0 : Int32), iv (4 : Int32), rv b89, rv r91, iv (1 : Int32)] [(.ref r91)]))
            obtain ⟨cl102, Ar102, -, Sz102, Nz102, -, -⟩ := id V_r91
            refine own_go (X101.arraylength hx (by rw [e101]; exact Ar102.1) (State.isArrayOf_alike hZ.alike Ar102.2.1) (g := (mkF m 204 #[iv p1, iv p2, iv p3, iv p4, iv p5, iv p6, rv b1, iv (0 : Int32), iv (4 : Int32), rv b89, rv r91, iv (1 : Int32)] [(.ref r91)])) rfl rfl (hb hby at_204)) ?_
            rw [len_of Sz102 Nz102]
            show own_Go p e below s _ _ _ (T101.setTop (mkF m 205 #[iv p1, iv p2, iv p3, iv p4, iv p5, iv p6, rv b1, iv (0 : Int32), iv (4 : Int32), rv b89, rv r91, iv (1 : Int32)] [(.int (4 : Int32))]))
            refine own_go (fun zt zk => (XS.iconst X101.here hx rfl (hb hby at_205) (XS.icmpNo X101.here hx rfl (hb hby at_206) rfl (tlt ((by decide) : (3 : Int32) < (4 : Int32))).2.2.2 (XS.iload X101.here hx rfl (hb hby at_209) rfl (XS.ifNo X101.here hx rfl (hb hby at_211) rfl ((if0 _ _).trans (feq ((by decide) : ¬ ((1 : Int32) = (0 : Int32)))).1) (XS.aload X101.here hx rfl (hb hby at_214) rfl rfl (XS.iconst X101.here hx rfl (hb hby at_216) zk))))))) ?_
            show own_Go p e below s _ _ _ (T101.setTop (mkF m 217 #[iv p1, iv p2, iv p3, iv p4, iv p5, iv p6, rv b1, iv (0 : Int32), iv (4 : Int32), rv b89, rv r91, iv (1 : Int32)] [(.int (3 : Int32)), (.ref r91)]))
            obtain ⟨cl103, Ar103, q103, Sz103, Nz103, Ha103, Ga103⟩ := id V_r91
            have hin103 : ¬ ((3 : Int32) < 0 ∨ cl103.slots.size ≤ ((3 : Int32)).toNatClampNeg) := inb_of Sz103 ⟨by decide, by decide⟩
            have hat103 : cl103.slots[((3 : Int32)).toNatClampNeg]? = some (.int (p4.toInt8.toInt32)) := Has.at Ha103 hin103 rfl
            refine own_go (X101.baloadBytes hx (j := (3 : Int32)) (v := (.int (p4.toInt8.toInt32))) (by rw [e101]; exact Ar103.1) (State.isArrayOf_alike hZ.alike Ar103.2.1) Ar103.2.2 hin103 hat103 (g := (mkF m 217 #[iv p1, iv p2, iv p3, iv p4, iv p5, iv p6, rv b1, iv (0 : Int32), iv (4 : Int32), rv b89, rv r91, iv (1 : Int32)] [(.int (3 : Int32)), (.ref r91)])) rfl rfl (hb hby at_217)) ?_
            show own_Go p e below s _ _ _ (T101.setTop (mkF m 218 #[iv p1, iv p2, iv p3, iv p4, iv p5, iv p6, rv b1, iv (0 : Int32), iv (4 : Int32), rv b89, rv r91, iv (1 : Int32)] [(.int (p4.toInt8.toInt32))]))
            refine own_go (fun zt zk => (XS.iload X101.here hx rfl (hb hby at_218) rfl (XS.iconst X101.here hx rfl (hb hby at_220) (XS.iadd X101.here hx rfl (hb hby at_221) rfl (XS.iloadN X101.here hx rfl (hb hby at_222) rfl (XS.iloadN X101.here hx rfl (hb hby at_223) rfl (XS.iloadN X101.here hx rfl (hb hby at_224) rfl (XS.iloadN X101.here hx rfl (hb hby at_225) rfl zk)))))))) ?_
            show own_Go p e below s _ _ _ (T101.setTop (mkF m 226 #[iv p1, iv p2, iv p3, iv p4, iv p5, iv p6, rv b1, iv (0 : Int32), iv (4 : Int32), rv b89, rv r91, iv (1 : Int32)] [(.int p4), (.int p3), (.int p2), (.int p1), (.int (3 : Int32)), (.int (p4.toInt8.toInt32))]))
            obtain ⟨_, _, ⟨T104, L104, k104, n104⟩, -, X104, ⟨Lc104, hQ104, l104, y104, z104⟩, st104⟩ := Jvm.LawKit.callS X101 hx (y := (⟨"com/example/tranche/tranche/model/SpanBytesInPinLaw", "at", "(IIIII)B"⟩ : MethodName)) hown (mvT hZ (hw _ (List.mem_of_getElem? (i := 43) rfl))) (mvT hZ (hw _ (List.mem_of_getElem? (i := 44) rfl))) (mvT hZ (hw _ (List.mem_of_getElem? (i := 45) rfl))) (mvT hZ (hw _ (List.mem_of_getElem? (i := 46) rfl))) (by decide) (backOf (W := 1) (own_rat3 l Z a0 hw [] p1 p2 p3 p4  T91.heap n0 (Nat.le_trans Z0 Kp.1) ) hZ (hw _ (List.mem_of_getElem? (i := 46) rfl)) (hw _ (List.mem_of_getElem? (i := 45) rfl)) (by decide) (by decide)) (g := (mkF m 226 #[iv p1, iv p2, iv p3, iv p4, iv p5, iv p6, rv b1, iv (0 : Int32), iv (4 : Int32), rv b89, rv r91, iv (1 : Int32)] [(.int p4), (.int p3), (.int p2), (.int p1), (.int (3 : Int32)), (.int (p4.toInt8.toInt32))])) rfl (by rw [hml]; rfl) (argsL := [(.int (3 : Int32)), (.int p1), (.int p2), (.int p3), (.int p4)]) (rest := [(.int (p4.toInt8.toInt32))]) (lenOf own_pd__IIIII_B rfl) rfl (by show 2 * 0 + _ ≤ _; exact Nat.le_of_eq rfl) (hb hby at_226) (fun _ _ => ⟨rfl, e101, (by decide : 3 + 0 ≤ _), (by decide : 10 + 0 ≤ _)⟩)
            dsimp only [Pt.U, Pt.locs, Pt.cells, Pt.slots] at X104 l104 y104 z104 st104 hQ104
            subst l104 y104 z104
            obtain ⟨rfl, Nq104, e104⟩ := hQ104
            have N104 := Fr.app N101 Nq104
            refine own_go st104 ?_
            show own_Go p e below s _ _ _ (T104.setTop (mkF m 229 #[iv p1, iv p2, iv p3, iv p4, iv p5, iv p6, rv b1, iv (0 : Int32), iv (4 : Int32), rv b89, rv r91, iv (1 : Int32)] [(.int (p4.toInt8.toInt32)), (.int (p4.toInt8.toInt32))]))
            refine own_go (fun zt zk => (XS.icmpNo X104.here hx rfl (hb hby at_229) rfl (teq (rfl : (p4.toInt8.toInt32) = (p4.toInt8.toInt32))).2 (XS.iconst X104.here hx rfl (hb hby at_232) (XS.goto X104.here hx rfl (pc0 := 233) (pc' := 237) rfl (hb hby at_233) (by decide) (by decide) (XS.istore X104.here hx rfl (hb hby at_237) rfl (l' := #[iv p1, iv p2, iv p3, iv p4, iv p5, iv p6, rv b1, iv (0 : Int32), iv (4 : Int32), rv b89, rv r91, iv (1 : Int32)]) rfl (XS.iload X104.here hx rfl (hb hby at_239) rfl (XS.ifNo X104.here hx rfl (hb hby at_241) rfl ((if0 _ _).trans (feq ((by decide) : ¬ ((1 : Int32) = (0 : Int32)))).1) (XS.aload X104.here hx rfl (hb hby at_244) rfl rfl (XS.iconst X104.here hx rfl (hb hby at_246) zk))))))))) ?_
            show own_Go p e below s _ _ _ (T104.setTop (mkF m 247 #[iv p1, iv p2, iv p3, iv p4, iv p5, iv p6, rv b1, iv (0 : Int32), iv (4 : Int32), rv b89, rv r91, iv (1 : Int32)] [(.int (0 : Int32)), (.ref b1)]))
            obtain ⟨cl105, Ar105, q105, Sz105, Nz105, Ha105, Ga105⟩ := id V_b1
            have hin105 : ¬ ((0 : Int32) < 0 ∨ cl105.slots.size ≤ ((0 : Int32)).toNatClampNeg) := inb_of Sz105 ⟨by decide, by decide⟩
            have hat105 : cl105.slots[((0 : Int32)).toNatClampNeg]? = some (.int (p1.toInt8.toInt32)) := Has.at Ha105 hin105 rfl
            refine own_go (X104.baloadBytes hx (j := (0 : Int32)) (v := (.int (p1.toInt8.toInt32))) (by rw [e104]; exact Ar105.1) (State.isArrayOf_alike hZ.alike Ar105.2.1) Ar105.2.2 hin105 hat105 (g := (mkF m 247 #[iv p1, iv p2, iv p3, iv p4, iv p5, iv p6, rv b1, iv (0 : Int32), iv (4 : Int32), rv b89, rv r91, iv (1 : Int32)] [(.int (0 : Int32)), (.ref b1)])) rfl rfl (hb hby at_247)) ?_
            show own_Go p e below s _ _ _ (T104.setTop (mkF m 248 #[iv p1, iv p2, iv p3, iv p4, iv p5, iv p6, rv b1, iv (0 : Int32), iv (4 : Int32), rv b89, rv r91, iv (1 : Int32)] [(.int (p1.toInt8.toInt32))]))
            refine own_go (fun zt zk => (XS.iloadN X104.here hx rfl (hb hby at_248) rfl (XS.i2b X104.here hx rfl (hb hby at_249) rfl (XS.icmpNo X104.here hx rfl (hb hby at_250) rfl (teq (rfl : (p1.toInt8.toInt32) = (p1.toInt8.toInt32))).2 (XS.aload X104.here hx rfl (hb hby at_253) rfl rfl (XS.iconst X104.here hx rfl (hb hby at_255) zk)))))) ?_
            show own_Go p e below s _ _ _ (T104.setTop (mkF m 256 #[iv p1, iv p2, iv p3, iv p4, iv p5, iv p6, rv b1, iv (0 : Int32), iv (4 : Int32), rv b89, rv r91, iv (1 : Int32)] [(.int (1 : Int32)), (.ref b1)]))
            obtain ⟨cl106, Ar106, q106, Sz106, Nz106, Ha106, Ga106⟩ := id V_b1
            have hin106 : ¬ ((1 : Int32) < 0 ∨ cl106.slots.size ≤ ((1 : Int32)).toNatClampNeg) := inb_of Sz106 ⟨by decide, by decide⟩
            have hat106 : cl106.slots[((1 : Int32)).toNatClampNeg]? = some (.int (p2.toInt8.toInt32)) := Has.at Ha106 hin106 rfl
            refine own_go (X104.baloadBytes hx (j := (1 : Int32)) (v := (.int (p2.toInt8.toInt32))) (by rw [e104]; exact Ar106.1) (State.isArrayOf_alike hZ.alike Ar106.2.1) Ar106.2.2 hin106 hat106 (g := (mkF m 256 #[iv p1, iv p2, iv p3, iv p4, iv p5, iv p6, rv b1, iv (0 : Int32), iv (4 : Int32), rv b89, rv r91, iv (1 : Int32)] [(.int (1 : Int32)), (.ref b1)])) rfl rfl (hb hby at_256)) ?_
            show own_Go p e below s _ _ _ (T104.setTop (mkF m 257 #[iv p1, iv p2, iv p3, iv p4, iv p5, iv p6, rv b1, iv (0 : Int32), iv (4 : Int32), rv b89, rv r91, iv (1 : Int32)] [(.int (p2.toInt8.toInt32))]))
            refine own_go (fun zt zk => (XS.iloadN X104.here hx rfl (hb hby at_257) rfl (XS.i2b X104.here hx rfl (hb hby at_258) rfl (XS.icmpNo X104.here hx rfl (hb hby at_259) rfl (teq (rfl : (p2.toInt8.toInt32) = (p2.toInt8.toInt32))).2 (XS.aload X104.here hx rfl (hb hby at_262) rfl rfl (XS.iconst X104.here hx rfl (hb hby at_264) zk)))))) ?_
            show own_Go p e below s _ _ _ (T104.setTop (mkF m 265 #[iv p1, iv p2, iv p3, iv p4, iv p5, iv p6, rv b1, iv (0 : Int32), iv (4 : Int32), rv b89, rv r91, iv (1 : Int32)] [(.int (2 : Int32)), (.ref b1)]))
            obtain ⟨cl107, Ar107, q107, Sz107, Nz107, Ha107, Ga107⟩ := id V_b1
            have hin107 : ¬ ((2 : Int32) < 0 ∨ cl107.slots.size ≤ ((2 : Int32)).toNatClampNeg) := inb_of Sz107 ⟨by decide, by decide⟩
            have hat107 : cl107.slots[((2 : Int32)).toNatClampNeg]? = some (.int (p3.toInt8.toInt32)) := Has.at Ha107 hin107 rfl
            refine own_go (X104.baloadBytes hx (j := (2 : Int32)) (v := (.int (p3.toInt8.toInt32))) (by rw [e104]; exact Ar107.1) (State.isArrayOf_alike hZ.alike Ar107.2.1) Ar107.2.2 hin107 hat107 (g := (mkF m 265 #[iv p1, iv p2, iv p3, iv p4, iv p5, iv p6, rv b1, iv (0 : Int32), iv (4 : Int32), rv b89, rv r91, iv (1 : Int32)] [(.int (2 : Int32)), (.ref b1)])) rfl rfl (hb hby at_265)) ?_
            show own_Go p e below s _ _ _ (T104.setTop (mkF m 266 #[iv p1, iv p2, iv p3, iv p4, iv p5, iv p6, rv b1, iv (0 : Int32), iv (4 : Int32), rv b89, rv r91, iv (1 : Int32)] [(.int (p3.toInt8.toInt32))]))
            refine own_go (fun zt zk => (XS.iloadN X104.here hx rfl (hb hby at_266) rfl (XS.i2b X104.here hx rfl (hb hby at_267) rfl (XS.icmpNo X104.here hx rfl (hb hby at_268) rfl (teq (rfl : (p3.toInt8.toInt32) = (p3.toInt8.toInt32))).2 (XS.aload X104.here hx rfl (hb hby at_271) rfl rfl (XS.iconst X104.here hx rfl (hb hby at_273) zk)))))) ?_
            show own_Go p e below s _ _ _ (T104.setTop (mkF m 274 #[iv p1, iv p2, iv p3, iv p4, iv p5, iv p6, rv b1, iv (0 : Int32), iv (4 : Int32), rv b89, rv r91, iv (1 : Int32)] [(.int (3 : Int32)), (.ref b1)]))
            obtain ⟨cl108, Ar108, q108, Sz108, Nz108, Ha108, Ga108⟩ := id V_b1
            have hin108 : ¬ ((3 : Int32) < 0 ∨ cl108.slots.size ≤ ((3 : Int32)).toNatClampNeg) := inb_of Sz108 ⟨by decide, by decide⟩
            have hat108 : cl108.slots[((3 : Int32)).toNatClampNeg]? = some (.int (p4.toInt8.toInt32)) := Has.at Ha108 hin108 rfl
            refine own_go (X104.baloadBytes hx (j := (3 : Int32)) (v := (.int (p4.toInt8.toInt32))) (by rw [e104]; exact Ar108.1) (State.isArrayOf_alike hZ.alike Ar108.2.1) Ar108.2.2 hin108 hat108 (g := (mkF m 274 #[iv p1, iv p2, iv p3, iv p4, iv p5, iv p6, rv b1, iv (0 : Int32), iv (4 : Int32), rv b89, rv r91, iv (1 : Int32)] [(.int (3 : Int32)), (.ref b1)])) rfl rfl (hb hby at_274)) ?_
            show own_Go p e below s _ _ _ (T104.setTop (mkF m 275 #[iv p1, iv p2, iv p3, iv p4, iv p5, iv p6, rv b1, iv (0 : Int32), iv (4 : Int32), rv b89, rv r91, iv (1 : Int32)] [(.int (p4.toInt8.toInt32))]))
            refine own_go (fun zt zk => (XS.iloadN X104.here hx rfl (hb hby at_275) rfl (XS.i2b X104.here hx rfl (hb hby at_276) rfl (XS.icmpNo X104.here hx rfl (hb hby at_277) rfl (teq (rfl : (p4.toInt8.toInt32) = (p4.toInt8.toInt32))).2 (XS.iconst X104.here hx rfl (hb hby at_280) (XS.goto X104.here hx rfl (pc0 := 281) (pc' := 285) rfl (hb hby at_281) (by decide) (by decide) (XS.istore X104.here hx rfl (hb hby at_285) rfl (l' := #[iv p1, iv p2, iv p3, iv p4, iv p5, iv p6, rv b1, iv (0 : Int32), iv (4 : Int32), rv b89, rv r91, iv (1 : Int32)]) rfl (XS.aload X104.here hx rfl (hb hby at_287) rfl rfl zk)))))))) ?_
            show own_Go p e below s _ _ _ (T104.setTop (mkF m 289 #[iv p1, iv p2, iv p3, iv p4, iv p5, iv p6, rv b1, iv (0 : Int32), iv (4 : Int32), rv b89, rv r91, iv (1 : Int32)] [(.ref r91)]))
            obtain ⟨cl109, Ar109, -, Sz109, Nz109, -, -⟩ := id V_r91
            refine own_go (X104.arraylength hx (by rw [e104]; exact Ar109.1) (State.isArrayOf_alike hZ.alike Ar109.2.1) (g := (mkF m 289 #[iv p1, iv p2, iv p3, iv p4, iv p5, iv p6, rv b1, iv (0 : Int32), iv (4 : Int32), rv b89, rv r91, iv (1 : Int32)] [(.ref r91)])) rfl rfl (hb hby at_289)) ?_
            rw [len_of Sz109 Nz109]
            show own_Go p e below s _ _ _ (T104.setTop (mkF m 290 #[iv p1, iv p2, iv p3, iv p4, iv p5, iv p6, rv b1, iv (0 : Int32), iv (4 : Int32), rv b89, rv r91, iv (1 : Int32)] [(.int (4 : Int32))]))
            refine own_go (fun zt zk => (XS.ifNo X104.here hx rfl (hb hby at_290) rfl ((if0 _ _).trans (tlt ((by decide) : (0 : Int32) < (4 : Int32))).2.2.2) (XS.aload X104.here hx rfl (hb hby at_293) rfl rfl (XS.iconst X104.here hx rfl (hb hby at_295) (XS.aload X104.here hx rfl (hb hby at_296) rfl rfl (XS.iconst X104.here hx rfl (hb hby at_298) zk)))))) ?_
            show own_Go p e below s _ _ _ (T104.setTop (mkF m 299 #[iv p1, iv p2, iv p3, iv p4, iv p5, iv p6, rv b1, iv (0 : Int32), iv (4 : Int32), rv b89, rv r91, iv (1 : Int32)] [(.int (0 : Int32)), (.ref r91), (.int (0 : Int32)), (.ref r91)]))
            obtain ⟨cl110, Ar110, q110, Sz110, Nz110, Ha110, Ga110⟩ := id V_r91
            have hin110 : ¬ ((0 : Int32) < 0 ∨ cl110.slots.size ≤ ((0 : Int32)).toNatClampNeg) := inb_of Sz110 ⟨by decide, by decide⟩
            have hat110 : cl110.slots[((0 : Int32)).toNatClampNeg]? = some (.int (p1.toInt8.toInt32)) := Has.at Ha110 hin110 rfl
            refine own_go (X104.baloadBytes hx (j := (0 : Int32)) (v := (.int (p1.toInt8.toInt32))) (by rw [e104]; exact Ar110.1) (State.isArrayOf_alike hZ.alike Ar110.2.1) Ar110.2.2 hin110 hat110 (g := (mkF m 299 #[iv p1, iv p2, iv p3, iv p4, iv p5, iv p6, rv b1, iv (0 : Int32), iv (4 : Int32), rv b89, rv r91, iv (1 : Int32)] [(.int (0 : Int32)), (.ref r91), (.int (0 : Int32)), (.ref r91)])) rfl rfl (hb hby at_299)) ?_
            show own_Go p e below s _ _ _ (T104.setTop (mkF m 300 #[iv p1, iv p2, iv p3, iv p4, iv p5, iv p6, rv b1, iv (0 : Int32), iv (4 : Int32), rv b89, rv r91, iv (1 : Int32)] [(.int (p1.toInt8.toInt32)), (.int (0 : Int32)), (.ref r91)]))
            refine own_go (fun zt zk => (XS.iconst X104.here hx rfl (hb hby at_300) (XS.ixor X104.here hx rfl (hb hby at_301) rfl (XS.i2b X104.here hx rfl (hb hby at_302) rfl zk)))) ?_
            show own_Go p e below s _ _ _ (T104.setTop (mkF m 303 #[iv p1, iv p2, iv p3, iv p4, iv p5, iv p6, rv b1, iv (0 : Int32), iv (4 : Int32), rv b89, rv r91, iv (1 : Int32)] [(.int (((p1.toInt8.toInt32) ^^^ (1 : Int32)).toInt8.toInt32)), (.int (0 : Int32)), (.ref r91)]))
            obtain ⟨cl111, Ar111, q111, Sz111, Nz111, Ha111, Ga111⟩ := id V_r91
            have hin111 : ¬ ((0 : Int32) < 0 ∨ cl111.slots.size ≤ ((0 : Int32)).toNatClampNeg) := inb_of Sz111 ⟨by decide, by decide⟩
            obtain ⟨T112, h112, X112, e112, W112, st112⟩ := stB X104 hx hZ e104 Ar111 (j := (0 : Int32)) hin111 (g := (mkF m 303 #[iv p1, iv p2, iv p3, iv p4, iv p5, iv p6, rv b1, iv (0 : Int32), iv (4 : Int32), rv b89, rv r91, iv (1 : Int32)] [(.int (((p1.toInt8.toInt32) ^^^ (1 : Int32)).toInt8.toInt32)), (.int (0 : Int32)), (.ref r91)])) rfl rfl (hb hby at_303)
            refine own_go st112 ?_
            rw [show nar .byte (((p1.toInt8.toInt32) ^^^ (1 : Int32)).toInt8.toInt32) = (((p1.toInt8.toInt32) ^^^ (1 : Int32)).toInt8.toInt32) from own_b8 _] at W112
            have V112 := Arv.set Ar111 q111 Sz111 Nz111 Ha111 Ga111 (fits_nar_byte _) W112 0 rfl (Nat.le_of_ble_eq_true rfl)
            have N112 := Fr.snoc X112 N104 g_r91
            replace Kp := Kp.wr W112 (Or.inr sz_r91)
            replace V_b1 := V_b1.other W112 ne_b1_r91
            replace Ea_b1 := Ea_b1.wr W112
            replace Ex_b89 := Ex_b89.wr W112
            replace F_start_b89 := F_start_b89.other W112 (Or.inl ne_b89_r91)
            replace F_end_b89 := F_end_b89.other W112 (Or.inl ne_b89_r91)
            replace Ea_r91 := Ea_r91.wr W112
            replace V_r91 : Arv Z h112 r91 kr91 .byte (4 : Int32) [(.int (((p1.toInt8.toInt32) ^^^ (1 : Int32)).toInt8.toInt32)), (.int (p2.toInt8.toInt32)), (.int (p3.toInt8.toInt32)), (.int (p4.toInt8.toInt32))] (.int (0 : Int32)) := V112
            show own_Go p e below s _ _ _ (T112.setTop (mkF m 304 #[iv p1, iv p2, iv p3, iv p4, iv p5, iv p6, rv b1, iv (0 : Int32), iv (4 : Int32), rv b89, rv r91, iv (1 : Int32)] []))
            refine own_go (fun zt zk => (XS.iload X112.here hx rfl (hb hby at_304) rfl (XS.ifNo X112.here hx rfl (hb hby at_306) rfl ((if0 _ _).trans (feq ((by decide) : ¬ ((1 : Int32) = (0 : Int32)))).1) (XS.aload X112.here hx rfl (hb hby at_309) rfl rfl (XS.iload X112.here hx rfl (hb hby at_311) rfl zk))))) ?_
            show own_Go p e below s _ _ _ (T112.setTop (mkF m 313 #[iv p1, iv p2, iv p3, iv p4, iv p5, iv p6, rv b1, iv (0 : Int32), iv (4 : Int32), rv b89, rv r91, iv (1 : Int32)] [(.int (0 : Int32)), (.ref b1)]))
            obtain ⟨cl113, Ar113, q113, Sz113, Nz113, Ha113, Ga113⟩ := id V_b1
            have hin113 : ¬ ((0 : Int32) < 0 ∨ cl113.slots.size ≤ ((0 : Int32)).toNatClampNeg) := inb_of Sz113 ⟨by decide, by decide⟩
            have hat113 : cl113.slots[((0 : Int32)).toNatClampNeg]? = some (.int (p1.toInt8.toInt32)) := Has.at Ha113 hin113 rfl
            refine own_go (X112.baloadBytes hx (j := (0 : Int32)) (v := (.int (p1.toInt8.toInt32))) (by rw [e112]; exact Ar113.1) (State.isArrayOf_alike hZ.alike Ar113.2.1) Ar113.2.2 hin113 hat113 (g := (mkF m 313 #[iv p1, iv p2, iv p3, iv p4, iv p5, iv p6, rv b1, iv (0 : Int32), iv (4 : Int32), rv b89, rv r91, iv (1 : Int32)] [(.int (0 : Int32)), (.ref b1)])) rfl rfl (hb hby at_313)) ?_
            show own_Go p e below s _ _ _ (T112.setTop (mkF m 314 #[iv p1, iv p2, iv p3, iv p4, iv p5, iv p6, rv b1, iv (0 : Int32), iv (4 : Int32), rv b89, rv r91, iv (1 : Int32)] [(.int (p1.toInt8.toInt32))]))
            refine own_go (fun zt zk => (XS.iload X112.here hx rfl (hb hby at_314) rfl (XS.iloadN X112.here hx rfl (hb hby at_316) rfl (XS.iloadN X112.here hx rfl (hb hby at_317) rfl (XS.iloadN X112.here hx rfl (hb hby at_318) rfl (XS.iloadN X112.here hx rfl (hb hby at_319) rfl zk)))))) ?_
            show own_Go p e below s _ _ _ (T112.setTop (mkF m 320 #[iv p1, iv p2, iv p3, iv p4, iv p5, iv p6, rv b1, iv (0 : Int32), iv (4 : Int32), rv b89, rv r91, iv (1 : Int32)] [(.int p4), (.int p3), (.int p2), (.int p1), (.int (0 : Int32)), (.int (p1.toInt8.toInt32))]))
            obtain ⟨_, _, ⟨T114, L114, k114, n114⟩, -, X114, ⟨Lc114, hQ114, l114, y114, z114⟩, st114⟩ := Jvm.LawKit.callS X112 hx (y := (⟨"com/example/tranche/tranche/model/SpanBytesInPinLaw", "at", "(IIIII)B"⟩ : MethodName)) hown (mvT hZ (hw _ (List.mem_of_getElem? (i := 43) rfl))) (mvT hZ (hw _ (List.mem_of_getElem? (i := 44) rfl))) (mvT hZ (hw _ (List.mem_of_getElem? (i := 45) rfl))) (mvT hZ (hw _ (List.mem_of_getElem? (i := 46) rfl))) (by decide) (backOf (W := 1) (own_rat0 l Z a0 hw [] p1 p2 p3 p4  h112 n0 (Nat.le_trans Z0 Kp.1) ) hZ (hw _ (List.mem_of_getElem? (i := 46) rfl)) (hw _ (List.mem_of_getElem? (i := 45) rfl)) (by decide) (by decide)) (g := (mkF m 320 #[iv p1, iv p2, iv p3, iv p4, iv p5, iv p6, rv b1, iv (0 : Int32), iv (4 : Int32), rv b89, rv r91, iv (1 : Int32)] [(.int p4), (.int p3), (.int p2), (.int p1), (.int (0 : Int32)), (.int (p1.toInt8.toInt32))])) rfl (by rw [hml]; rfl) (argsL := [(.int (0 : Int32)), (.int p1), (.int p2), (.int p3), (.int p4)]) (rest := [(.int (p1.toInt8.toInt32))]) (lenOf own_pd__IIIII_B rfl) rfl (by show 2 * 0 + _ ≤ _; exact Nat.le_of_eq rfl) (hb hby at_320) (fun _ _ => ⟨rfl, e112, (by decide : 3 + 0 ≤ _), (by decide : 10 + 0 ≤ _)⟩)
            dsimp only [Pt.U, Pt.locs, Pt.cells, Pt.slots] at X114 l114 y114 z114 st114 hQ114
            subst l114 y114 z114
            obtain ⟨rfl, Nq114, e114⟩ := hQ114
            have N114 := Fr.app N112 Nq114
            refine own_go st114 ?_
            show own_Go p e below s _ _ _ (T114.setTop (mkF m 323 #[iv p1, iv p2, iv p3, iv p4, iv p5, iv p6, rv b1, iv (0 : Int32), iv (4 : Int32), rv b89, rv r91, iv (1 : Int32)] [(.int (p1.toInt8.toInt32)), (.int (p1.toInt8.toInt32))]))
            refine own_go (fun zt zk => (XS.icmpNo X114.here hx rfl (hb hby at_323) rfl (teq (rfl : (p1.toInt8.toInt32) = (p1.toInt8.toInt32))).2 (XS.iconst X114.here hx rfl (hb hby at_326) (XS.goto X114.here hx rfl (pc0 := 327) (pc' := 331) rfl (hb hby at_327) (by decide) (by decide) (XS.istore X114.here hx rfl (hb hby at_331) rfl (l' := #[iv p1, iv p2, iv p3, iv p4, iv p5, iv p6, rv b1, iv (0 : Int32), iv (4 : Int32), rv b89, rv r91, iv (1 : Int32)]) rfl (XS.iload X114.here hx rfl (hb hby at_333) rfl zk)))))) ?_
            show own_Go p e below s _ _ _ (T114.setTop (mkF m 335 #[iv p1, iv p2, iv p3, iv p4, iv p5, iv p6, rv b1, iv (0 : Int32), iv (4 : Int32), rv b89, rv r91, iv (1 : Int32)] [(.int (1 : Int32))]))
            exact own_fin X114 Bd.notSynchronized (fun h => by rw [Bd.returns] at h; cases h) (fun fs hr => retN X114 hx (t := .boolean) Bd.returns (by simp) (hb hby at_335) hr) (by rw [e114]; exact ⟨rfl, N114⟩) (by decide) (by decide)
  · by_cases hk1_st : st = (1 : Int32)
    · subst hk1_st
      show own_Go p e below s _ _ _ (T9.setTop (mkF m 34 #[iv p1, iv p2, iv p3, iv p4, iv p5, iv p6, rv b1, iv (1 : Int32), .unset, .unset, .unset, .unset] []))
      refine own_go (fun zt zk => (XS.iload X9.here hx rfl (hb hby at_34) rfl (XS.iload X9.here hx rfl (hb hby at_36) rfl (X9.ldcI hx hown (mvT hZ (hw _ (List.mem_of_getElem? (i := 1) rfl))) (g := (mkF m 38 #[iv p1, iv p2, iv p3, iv p4, iv p5, iv p6, rv b1, iv (1 : Int32), .unset, .unset, .unset, .unset] [(.int p6), (.int (1 : Int32))])) rfl (hb hby at_38) (XS.iand X9.here hx rfl (hb hby at_40) rfl (XS.iconst X9.here hx rfl (hb hby at_41) (XS.iload X9.here hx rfl (hb hby at_42) rfl (XS.isub X9.here hx rfl (hb hby at_44) rfl (iremM X9 hx rfl (hb hby at_45) rfl (by decide) zk))))))))) ?_
      show own_Go p e below s _ _ _ (T9.setTop (mkF m 46 #[iv p1, iv p2, iv p3, iv p4, iv p5, iv p6, rv b1, iv (1 : Int32), .unset, .unset, .unset, .unset] [(.int ((p6 &&& (2147483647 : Int32)) % (4 : Int32))), (.int (1 : Int32))]))
      generalize hv_en : ((p6 &&& (2147483647 : Int32)) % (4 : Int32)) = en
      show own_Go p e below s _ _ _ (T9.setTop (mkF m 46 #[iv p1, iv p2, iv p3, iv p4, iv p5, iv p6, rv b1, iv (1 : Int32), .unset, .unset, .unset, .unset] [(.int en), (.int (1 : Int32))]))
      by_cases hk0_en : en = (0 : Int32)
      · subst hk0_en
        show own_Go p e below s _ _ _ (T9.setTop (mkF m 46 #[iv p1, iv p2, iv p3, iv p4, iv p5, iv p6, rv b1, iv (1 : Int32), .unset, .unset, .unset, .unset] [(.int (0 : Int32)), (.int (1 : Int32))]))
        refine own_go (fun zt zk => (XS.iadd X9.here hx rfl (hb hby at_46) rfl (XS.istore X9.here hx rfl (hb hby at_47) rfl (l' := #[iv p1, iv p2, iv p3, iv p4, iv p5, iv p6, rv b1, iv (1 : Int32), iv (1 : Int32), .unset, .unset, .unset]) rfl zk))) ?_
        show own_Go p e below s _ _ _ (T9.setTop (mkF m 49 #[iv p1, iv p2, iv p3, iv p4, iv p5, iv p6, rv b1, iv (1 : Int32), iv (1 : Int32), .unset, .unset, .unset] []))
        obtain ⟨T115, h115, X115, e115, E115, A115, D115, -, st115⟩ := newO X9 hx hZ hown (hw _ (List.mem_of_getElem? (i := 2) rfl)) (hw _ (List.mem_of_getElem? (i := 3) rfl)) (hw _ (List.mem_of_getElem? (i := 4) rfl)) e9 (g := (mkF m 49 #[iv p1, iv p2, iv p3, iv p4, iv p5, iv p6, rv b1, iv (1 : Int32), iv (1 : Int32), .unset, .unset, .unset] [])) rfl (hb hby at_49) (by decide) (by decide)
        obtain ⟨b115, g115⟩ : ∃ z, z = h9.size := ⟨_, rfl⟩
        rw [← g115] at A115 D115 st115
        refine own_go st115 ?_
        have ne_b1_b115 : b1 ≠ b115 := Nat.ne_of_lt (Nat.lt_of_lt_of_le V_b1.lt (Nat.le_of_eq g115.symm))
        have sz_b115 : h0.size ≤ b115 := Nat.le_trans Kp.1 (Nat.le_of_eq g115.symm)
        have g_b115 : n0 ≤ b115 := Nat.le_trans Z0 sz_b115
        replace Kp := Kp.ext E115
        replace V_b1 := V_b1.ext E115
        replace Ea_b1 := Ea_b1.ext E115
        have Ex_b115 := A115
        have F_start_b115 : Fld Z h115 b115 "com/example/tranche/tranche/model/Span" "start" "I" (.int (0 : Int32)) := D115 (Or.inr (hw _ (List.mem_of_getElem? (i := 17) rfl))) (ty := .int) (by decide)
        have F_end_b115 : Fld Z h115 b115 "com/example/tranche/tranche/model/Span" "end" "I" (.int (0 : Int32)) := D115 (Or.inr (hw _ (List.mem_of_getElem? (i := 19) rfl))) (ty := .int) (by decide)
        show own_Go p e below s _ _ _ (T115.setTop (mkF m 52 #[iv p1, iv p2, iv p3, iv p4, iv p5, iv p6, rv b1, iv (1 : Int32), iv (1 : Int32), .unset, .unset, .unset] [(.ref b115)]))
        refine own_go (fun zt zk => (XS.dup X115.here hx rfl (hb hby at_52) rfl rfl (XS.iload X115.here hx rfl (hb hby at_53) rfl (XS.iload X115.here hx rfl (hb hby at_55) rfl zk)))) ?_
        show own_Go p e below s _ _ _ (T115.setTop (mkF m 57 #[iv p1, iv p2, iv p3, iv p4, iv p5, iv p6, rv b1, iv (1 : Int32), iv (1 : Int32), .unset, .unset, .unset] [(.int (1 : Int32)), (.int (1 : Int32)), (.ref b115), (.ref b115)]))
        obtain ⟨_, _, ⟨T116, L116, k116, n116⟩, -, X116, ⟨Lc116, hQ116, l116, y116, z116⟩, st116⟩ := X115.specialBack hx (y := (⟨"com/example/tranche/tranche/model/Span", "<init>", "(II)V"⟩ : MethodName)) rfl hown (mvT hZ (hw _ (List.mem_of_getElem? (i := 5) rfl))) (mvT hZ (hw _ (List.mem_of_getElem? (i := 6) rfl))) (mvT hZ (hw _ (List.mem_of_getElem? (i := 7) rfl))) (by decide) (backOf (W := 1) (own_rspan l Z a0 hw [] b115 (1 : Int32) (1 : Int32)  h115 n0 (Nat.le_trans Z0 Kp.1) Ex_b115 F_start_b115 F_end_b115 g_b115 (by decide) (by decide)) hZ (hw _ (List.mem_of_getElem? (i := 7) rfl)) (hw _ (List.mem_of_getElem? (i := 4) rfl)) (by decide) (by decide)) (g := (mkF m 57 #[iv p1, iv p2, iv p3, iv p4, iv p5, iv p6, rv b1, iv (1 : Int32), iv (1 : Int32), .unset, .unset, .unset] [(.int (1 : Int32)), (.int (1 : Int32)), (.ref b115), (.ref b115)])) rfl (by rw [hml]; rfl) (Steps.refl _) (a := b115) (argsL := [(.int (1 : Int32)), (.int (1 : Int32))]) (rest := [(.ref b115)]) (lenOf own_pd__II_V rfl) rfl (by show 2 * 0 + _ ≤ _; exact Nat.le_of_eq rfl) (hb hby at_57) (fun _ _ => ⟨rfl, e115, (by decide : 2 + 0 ≤ _), (by decide : 6 + 0 ≤ _)⟩)
        dsimp only [Pt.U, Pt.locs, Pt.cells, Pt.slots] at X116 l116 y116 z116 st116 hQ116
        subst l116 y116 z116
        obtain ⟨rfl, Nq116, K116, -, F_start_b115, F_end_b115⟩ := hQ116
        have N116 := Fr.app N9 Nq116
        refine own_go (fun zt zk => st116.trans zk) ?_
        replace Kp := Kp.trans K116 (allS (Or.inr sz_b115) all0)
        replace V_b1 := V_b1.keep K116 (ninS ne_b1_b115 nin0)
        replace Ea_b1 := Ea_b1.keep K116
        replace Ex_b115 := Ex_b115.keep K116
        show own_Go p e below s _ _ _ (T116.setTop (mkF m 60 #[iv p1, iv p2, iv p3, iv p4, iv p5, iv p6, rv b1, iv (1 : Int32), iv (1 : Int32), .unset, .unset, .unset] [(.ref b115)]))
        refine own_go (fun zt zk => (XS.astore X116.here hx rfl (hb hby at_60) rfl rfl (l' := #[iv p1, iv p2, iv p3, iv p4, iv p5, iv p6, rv b1, iv (1 : Int32), iv (1 : Int32), rv b115, .unset, .unset]) rfl (XS.aload X116.here hx rfl (hb hby at_62) rfl rfl (XS.aload X116.here hx rfl (hb hby at_64) rfl rfl zk)))) ?_
        show own_Go p e below s _ _ _ (T116.setTop (mkF m 66 #[iv p1, iv p2, iv p3, iv p4, iv p5, iv p6, rv b1, iv (1 : Int32), iv (1 : Int32), rv b115, .unset, .unset] [(.ref b1), (.ref b115)]))
        obtain ⟨cq117, kq117, qa117, qb117, qc117⟩ := isOf hZ rfl Ex_b115
        obtain ⟨_, _, ⟨T117, L117, k117, n117⟩, -, X117, ⟨Lc117, hQ117, l117, y117, z117⟩, st117⟩ := X116.virtualBack hx (y := (⟨"com/example/tranche/tranche/model/Span", "bytesIn", "([B)[B"⟩ : MethodName)) (z := (⟨"com/example/tranche/tranche/model/Span", "bytesIn", "([B)[B"⟩ : MethodName)) hown (mvT hZ (hw _ (List.mem_of_getElem? (i := 20) rfl))) (mvT hZ (hw _ (List.mem_of_getElem? (i := 21) rfl))) (notFace_of_selects (args := #[]) (mvT hZ (hw _ (List.mem_of_getElem? (i := 23) rfl)))) (mvT hZ (hw _ (List.mem_of_getElem? (i := 23) rfl))) (mvT hZ (hw _ (List.mem_of_getElem? (i := 22) rfl))) (by decide) (backOf (W := 0) (own_rbi11 l Z a0 hw [] b115 b1 k1 (.int (p1.toInt8.toInt32)) (.int (p2.toInt8.toInt32)) (.int (p3.toInt8.toInt32)) (.int (p4.toInt8.toInt32)) T116.heap n0 (Nat.le_trans Z0 Kp.1) V_b1 Ea_b1 F_start_b115 F_end_b115) hZ (hw _ (List.mem_of_getElem? (i := 24) rfl)) (hw _ (List.mem_of_getElem? (i := 4) rfl)) (by decide) (by decide)) qa117 qc117 (g := (mkF m 66 #[iv p1, iv p2, iv p3, iv p4, iv p5, iv p6, rv b1, iv (1 : Int32), iv (1 : Int32), rv b115, .unset, .unset] [(.ref b1), (.ref b115)])) rfl (by rw [hml]; rfl) (Steps.refl _) (argsL := [(.ref b1)]) (rest := []) (lenOf own_pd___B__B rfl) rfl (by show 2 * 0 + _ ≤ _; exact Nat.le_of_eq rfl) (hb hby at_66) (fun _ _ => ⟨rfl, rfl, (by decide : 2 + 1 ≤ _), (by decide : 6 + 0 ≤ _)⟩)
        dsimp only [Pt.U, Pt.locs, Pt.cells, Pt.slots] at X117 l117 y117 z117 st117 hQ117
        subst l117 y117 z117
        obtain ⟨r117, kr117, rfl, Nq117, K117, sr117, Ea_r117, V_r117⟩ := hQ117
        have sz_r117 := Nat.le_trans Kp.1 sr117
        have g_r117 := Nat.le_trans Z0 sz_r117
        have ne_b1_r117 : b1 ≠ r117 := Nat.ne_of_lt (Nat.lt_of_lt_of_le V_b1.lt sr117)
        have ne_b115_r117 : b115 ≠ r117 := Nat.ne_of_lt (Nat.lt_of_lt_of_le Ex_b115.lt sr117)
        have N117 := Fr.app N116 Nq117
        refine own_go (fun zt zk => st117.trans zk) ?_
        replace Kp := Kp.trans K117 all0
        replace V_b1 := V_b1.keep K117 nin0
        replace Ea_b1 := Ea_b1.keep K117
        replace Ex_b115 := Ex_b115.keep K117
        replace F_start_b115 := F_start_b115.keep K117 nin0
        replace F_end_b115 := F_end_b115.keep K117 nin0
        show own_Go p e below s _ _ _ (T117.setTop (mkF m 69 #[iv p1, iv p2, iv p3, iv p4, iv p5, iv p6, rv b1, iv (1 : Int32), iv (1 : Int32), rv b115, .unset, .unset] [(.ref r117)]))
        refine own_go (fun zt zk => (XS.astore X117.here hx rfl (hb hby at_69) rfl rfl (l' := #[iv p1, iv p2, iv p3, iv p4, iv p5, iv p6, rv b1, iv (1 : Int32), iv (1 : Int32), rv b115, rv r117, .unset]) rfl (XS.aload X117.here hx rfl (hb hby at_71) rfl rfl (XS.ifnonnullYes X117.here hx rfl (pc0 := 73) (pc' := 78) rfl (hb hby at_73) rfl (by decide) (by decide) (XS.aload X117.here hx rfl (hb hby at_78) rfl rfl zk))))) ?_
        show own_Go p e below s _ _ _ (T117.setTop (mkF m 80 #[iv p1, iv p2, iv p3, iv p4, iv p5, iv p6, rv b1, iv (1 : Int32), iv (1 : Int32), rv b115, rv r117, .unset] [(.ref r117)]))
        obtain ⟨cl118, Ar118, -, Sz118, Nz118, -, -⟩ := id V_r117
        refine own_go (X117.arraylength hx (by exact Ar118.1) (State.isArrayOf_alike hZ.alike Ar118.2.1) (g := (mkF m 80 #[iv p1, iv p2, iv p3, iv p4, iv p5, iv p6, rv b1, iv (1 : Int32), iv (1 : Int32), rv b115, rv r117, .unset] [(.ref r117)])) rfl rfl (hb hby at_80)) ?_
        rw [len_of Sz118 Nz118]
        show own_Go p e below s _ _ _ (T117.setTop (mkF m 81 #[iv p1, iv p2, iv p3, iv p4, iv p5, iv p6, rv b1, iv (1 : Int32), iv (1 : Int32), rv b115, rv r117, .unset] [(.int (0 : Int32))]))
        refine own_go (fun zt zk => (XS.iload X117.here hx rfl (hb hby at_81) rfl (XS.iload X117.here hx rfl (hb hby at_83) rfl (XS.isub X117.here hx rfl (hb hby at_85) rfl (XS.icmpYes X117.here hx rfl (pc0 := 86) (pc' := 91) rfl (hb hby at_86) rfl (teq (rfl : (0 : Int32) = (0 : Int32))).1 (by decide) (by decide) (XS.iconst X117.here hx rfl (hb hby at_91) (XS.istore X117.here hx rfl (hb hby at_92) rfl (l' := #[iv p1, iv p2, iv p3, iv p4, iv p5, iv p6, rv b1, iv (1 : Int32), iv (1 : Int32), rv b115, rv r117, iv (1 : Int32)]) rfl (XS.aload X117.here hx rfl (hb hby at_94) rfl rfl zk)))))))) ?_
        show own_Go p e below s _ _ _ (T117.setTop (mkF m 96 #[iv p1, iv p2, iv p3, iv p4, iv p5, iv p6, rv b1, iv (1 : Int32), iv (1 : Int32), rv b115, rv r117, iv (1 : Int32)] [(.ref r117)]))
        obtain ⟨cl119, Ar119, -, Sz119, Nz119, -, -⟩ := id V_r117
        refine own_go (X117.arraylength hx (by exact Ar119.1) (State.isArrayOf_alike hZ.alike Ar119.2.1) (g := (mkF m 96 #[iv p1, iv p2, iv p3, iv p4, iv p5, iv p6, rv b1, iv (1 : Int32), iv (1 : Int32), rv b115, rv r117, iv (1 : Int32)] [(.ref r117)])) rfl rfl (hb hby at_96)) ?_
        rw [len_of Sz119 Nz119]
        show own_Go p e below s _ _ _ (T117.setTop (mkF m 97 #[iv p1, iv p2, iv p3, iv p4, iv p5, iv p6, rv b1, iv (1 : Int32), iv (1 : Int32), rv b115, rv r117, iv (1 : Int32)] [(.int (0 : Int32))]))
        refine own_go (fun zt zk => (XS.ifYes X117.here hx rfl (pc0 := 97) (pc' := 128) rfl (hb hby at_97) rfl ((if0 _ _).trans (flt ((own_irr _) : ¬ ((0 : Int32) < (0 : Int32)))).2.2.2) (by decide) (by decide) (XS.aload X117.here hx rfl (hb hby at_128) rfl rfl zk))) ?_
        show own_Go p e below s _ _ _ (T117.setTop (mkF m 130 #[iv p1, iv p2, iv p3, iv p4, iv p5, iv p6, rv b1, iv (1 : Int32), iv (1 : Int32), rv b115, rv r117, iv (1 : Int32)] [(.ref r117)]))
        obtain ⟨cl120, Ar120, -, Sz120, Nz120, -, -⟩ := id V_r117
        refine own_go (X117.arraylength hx (by exact Ar120.1) (State.isArrayOf_alike hZ.alike Ar120.2.1) (g := (mkF m 130 #[iv p1, iv p2, iv p3, iv p4, iv p5, iv p6, rv b1, iv (1 : Int32), iv (1 : Int32), rv b115, rv r117, iv (1 : Int32)] [(.ref r117)])) rfl rfl (hb hby at_130)) ?_
        rw [len_of Sz120 Nz120]
        show own_Go p e below s _ _ _ (T117.setTop (mkF m 131 #[iv p1, iv p2, iv p3, iv p4, iv p5, iv p6, rv b1, iv (1 : Int32), iv (1 : Int32), rv b115, rv r117, iv (1 : Int32)] [(.int (0 : Int32))]))
        refine own_go (fun zt zk => (XS.iconst X117.here hx rfl (hb hby at_131) (XS.icmpYes X117.here hx rfl (pc0 := 132) (pc' := 165) rfl (hb hby at_132) rfl (flt ((by decide) : ¬ ((1 : Int32) < (0 : Int32)))).2.2.2 (by decide) (by decide) (XS.aload X117.here hx rfl (hb hby at_165) rfl rfl zk)))) ?_
        show own_Go p e below s _ _ _ (T117.setTop (mkF m 167 #[iv p1, iv p2, iv p3, iv p4, iv p5, iv p6, rv b1, iv (1 : Int32), iv (1 : Int32), rv b115, rv r117, iv (1 : Int32)] [(.ref r117)]))
        obtain ⟨cl121, Ar121, -, Sz121, Nz121, -, -⟩ := id V_r117
        refine own_go (X117.arraylength hx (by exact Ar121.1) (State.isArrayOf_alike hZ.alike Ar121.2.1) (g := (mkF m 167 #[iv p1, iv p2, iv p3, iv p4, iv p5, iv p6, rv b1, iv (1 : Int32), iv (1 : Int32), rv b115, rv r117, iv (1 : Int32)] [(.ref r117)])) rfl rfl (hb hby at_167)) ?_
        rw [len_of Sz121 Nz121]
        show own_Go p e below s _ _ _ (T117.setTop (mkF m 168 #[iv p1, iv p2, iv p3, iv p4, iv p5, iv p6, rv b1, iv (1 : Int32), iv (1 : Int32), rv b115, rv r117, iv (1 : Int32)] [(.int (0 : Int32))]))
        refine own_go (fun zt zk => (XS.iconst X117.here hx rfl (hb hby at_168) (XS.icmpYes X117.here hx rfl (pc0 := 169) (pc' := 202) rfl (hb hby at_169) rfl (flt ((by decide) : ¬ ((2 : Int32) < (0 : Int32)))).2.2.2 (by decide) (by decide) (XS.aload X117.here hx rfl (hb hby at_202) rfl rfl zk)))) ?_
        show own_Go p e below s _ _ _ (T117.setTop (mkF m 204 #[iv p1, iv p2, iv p3, iv p4, iv p5, iv p6, rv b1, iv (1 : Int32), iv (1 : Int32), rv b115, rv r117, iv (1 : Int32)] [(.ref r117)]))
        obtain ⟨cl122, Ar122, -, Sz122, Nz122, -, -⟩ := id V_r117
        refine own_go (X117.arraylength hx (by exact Ar122.1) (State.isArrayOf_alike hZ.alike Ar122.2.1) (g := (mkF m 204 #[iv p1, iv p2, iv p3, iv p4, iv p5, iv p6, rv b1, iv (1 : Int32), iv (1 : Int32), rv b115, rv r117, iv (1 : Int32)] [(.ref r117)])) rfl rfl (hb hby at_204)) ?_
        rw [len_of Sz122 Nz122]
        show own_Go p e below s _ _ _ (T117.setTop (mkF m 205 #[iv p1, iv p2, iv p3, iv p4, iv p5, iv p6, rv b1, iv (1 : Int32), iv (1 : Int32), rv b115, rv r117, iv (1 : Int32)] [(.int (0 : Int32))]))
        refine own_go (fun zt zk => (XS.iconst X117.here hx rfl (hb hby at_205) (XS.icmpYes X117.here hx rfl (pc0 := 206) (pc' := 239) rfl (hb hby at_206) rfl (flt ((by decide) : ¬ ((3 : Int32) < (0 : Int32)))).2.2.2 (by decide) (by decide) (XS.iload X117.here hx rfl (hb hby at_239) rfl (XS.ifNo X117.here hx rfl (hb hby at_241) rfl ((if0 _ _).trans (feq ((by decide) : ¬ ((1 : Int32) = (0 : Int32)))).1) (XS.aload X117.here hx rfl (hb hby at_244) rfl rfl (XS.iconst X117.here hx rfl (hb hby at_246) zk))))))) ?_
        show own_Go p e below s _ _ _ (T117.setTop (mkF m 247 #[iv p1, iv p2, iv p3, iv p4, iv p5, iv p6, rv b1, iv (1 : Int32), iv (1 : Int32), rv b115, rv r117, iv (1 : Int32)] [(.int (0 : Int32)), (.ref b1)]))
        obtain ⟨cl123, Ar123, q123, Sz123, Nz123, Ha123, Ga123⟩ := id V_b1
        have hin123 : ¬ ((0 : Int32) < 0 ∨ cl123.slots.size ≤ ((0 : Int32)).toNatClampNeg) := inb_of Sz123 ⟨by decide, by decide⟩
        have hat123 : cl123.slots[((0 : Int32)).toNatClampNeg]? = some (.int (p1.toInt8.toInt32)) := Has.at Ha123 hin123 rfl
        refine own_go (X117.baloadBytes hx (j := (0 : Int32)) (v := (.int (p1.toInt8.toInt32))) (by exact Ar123.1) (State.isArrayOf_alike hZ.alike Ar123.2.1) Ar123.2.2 hin123 hat123 (g := (mkF m 247 #[iv p1, iv p2, iv p3, iv p4, iv p5, iv p6, rv b1, iv (1 : Int32), iv (1 : Int32), rv b115, rv r117, iv (1 : Int32)] [(.int (0 : Int32)), (.ref b1)])) rfl rfl (hb hby at_247)) ?_
        show own_Go p e below s _ _ _ (T117.setTop (mkF m 248 #[iv p1, iv p2, iv p3, iv p4, iv p5, iv p6, rv b1, iv (1 : Int32), iv (1 : Int32), rv b115, rv r117, iv (1 : Int32)] [(.int (p1.toInt8.toInt32))]))
        refine own_go (fun zt zk => (XS.iloadN X117.here hx rfl (hb hby at_248) rfl (XS.i2b X117.here hx rfl (hb hby at_249) rfl (XS.icmpNo X117.here hx rfl (hb hby at_250) rfl (teq (rfl : (p1.toInt8.toInt32) = (p1.toInt8.toInt32))).2 (XS.aload X117.here hx rfl (hb hby at_253) rfl rfl (XS.iconst X117.here hx rfl (hb hby at_255) zk)))))) ?_
        show own_Go p e below s _ _ _ (T117.setTop (mkF m 256 #[iv p1, iv p2, iv p3, iv p4, iv p5, iv p6, rv b1, iv (1 : Int32), iv (1 : Int32), rv b115, rv r117, iv (1 : Int32)] [(.int (1 : Int32)), (.ref b1)]))
        obtain ⟨cl124, Ar124, q124, Sz124, Nz124, Ha124, Ga124⟩ := id V_b1
        have hin124 : ¬ ((1 : Int32) < 0 ∨ cl124.slots.size ≤ ((1 : Int32)).toNatClampNeg) := inb_of Sz124 ⟨by decide, by decide⟩
        have hat124 : cl124.slots[((1 : Int32)).toNatClampNeg]? = some (.int (p2.toInt8.toInt32)) := Has.at Ha124 hin124 rfl
        refine own_go (X117.baloadBytes hx (j := (1 : Int32)) (v := (.int (p2.toInt8.toInt32))) (by exact Ar124.1) (State.isArrayOf_alike hZ.alike Ar124.2.1) Ar124.2.2 hin124 hat124 (g := (mkF m 256 #[iv p1, iv p2, iv p3, iv p4, iv p5, iv p6, rv b1, iv (1 : Int32), iv (1 : Int32), rv b115, rv r117, iv (1 : Int32)] [(.int (1 : Int32)), (.ref b1)])) rfl rfl (hb hby at_256)) ?_
        show own_Go p e below s _ _ _ (T117.setTop (mkF m 257 #[iv p1, iv p2, iv p3, iv p4, iv p5, iv p6, rv b1, iv (1 : Int32), iv (1 : Int32), rv b115, rv r117, iv (1 : Int32)] [(.int (p2.toInt8.toInt32))]))
        refine own_go (fun zt zk => (XS.iloadN X117.here hx rfl (hb hby at_257) rfl (XS.i2b X117.here hx rfl (hb hby at_258) rfl (XS.icmpNo X117.here hx rfl (hb hby at_259) rfl (teq (rfl : (p2.toInt8.toInt32) = (p2.toInt8.toInt32))).2 (XS.aload X117.here hx rfl (hb hby at_262) rfl rfl (XS.iconst X117.here hx rfl (hb hby at_264) zk)))))) ?_
        show own_Go p e below s _ _ _ (T117.setTop (mkF m 265 #[iv p1, iv p2, iv p3, iv p4, iv p5, iv p6, rv b1, iv (1 : Int32), iv (1 : Int32), rv b115, rv r117, iv (1 : Int32)] [(.int (2 : Int32)), (.ref b1)]))
        obtain ⟨cl125, Ar125, q125, Sz125, Nz125, Ha125, Ga125⟩ := id V_b1
        have hin125 : ¬ ((2 : Int32) < 0 ∨ cl125.slots.size ≤ ((2 : Int32)).toNatClampNeg) := inb_of Sz125 ⟨by decide, by decide⟩
        have hat125 : cl125.slots[((2 : Int32)).toNatClampNeg]? = some (.int (p3.toInt8.toInt32)) := Has.at Ha125 hin125 rfl
        refine own_go (X117.baloadBytes hx (j := (2 : Int32)) (v := (.int (p3.toInt8.toInt32))) (by exact Ar125.1) (State.isArrayOf_alike hZ.alike Ar125.2.1) Ar125.2.2 hin125 hat125 (g := (mkF m 265 #[iv p1, iv p2, iv p3, iv p4, iv p5, iv p6, rv b1, iv (1 : Int32), iv (1 : Int32), rv b115, rv r117, iv (1 : Int32)] [(.int (2 : Int32)), (.ref b1)])) rfl rfl (hb hby at_265)) ?_
        show own_Go p e below s _ _ _ (T117.setTop (mkF m 266 #[iv p1, iv p2, iv p3, iv p4, iv p5, iv p6, rv b1, iv (1 : Int32), iv (1 : Int32), rv b115, rv r117, iv (1 : Int32)] [(.int (p3.toInt8.toInt32))]))
        refine own_go (fun zt zk => (XS.iloadN X117.here hx rfl (hb hby at_266) rfl (XS.i2b X117.here hx rfl (hb hby at_267) rfl (XS.icmpNo X117.here hx rfl (hb hby at_268) rfl (teq (rfl : (p3.toInt8.toInt32) = (p3.toInt8.toInt32))).2 (XS.aload X117.here hx rfl (hb hby at_271) rfl rfl (XS.iconst X117.here hx rfl (hb hby at_273) zk)))))) ?_
        show own_Go p e below s _ _ _ (T117.setTop (mkF m 274 #[iv p1, iv p2, iv p3, iv p4, iv p5, iv p6, rv b1, iv (1 : Int32), iv (1 : Int32), rv b115, rv r117, iv (1 : Int32)] [(.int (3 : Int32)), (.ref b1)]))
        obtain ⟨cl126, Ar126, q126, Sz126, Nz126, Ha126, Ga126⟩ := id V_b1
        have hin126 : ¬ ((3 : Int32) < 0 ∨ cl126.slots.size ≤ ((3 : Int32)).toNatClampNeg) := inb_of Sz126 ⟨by decide, by decide⟩
        have hat126 : cl126.slots[((3 : Int32)).toNatClampNeg]? = some (.int (p4.toInt8.toInt32)) := Has.at Ha126 hin126 rfl
        refine own_go (X117.baloadBytes hx (j := (3 : Int32)) (v := (.int (p4.toInt8.toInt32))) (by exact Ar126.1) (State.isArrayOf_alike hZ.alike Ar126.2.1) Ar126.2.2 hin126 hat126 (g := (mkF m 274 #[iv p1, iv p2, iv p3, iv p4, iv p5, iv p6, rv b1, iv (1 : Int32), iv (1 : Int32), rv b115, rv r117, iv (1 : Int32)] [(.int (3 : Int32)), (.ref b1)])) rfl rfl (hb hby at_274)) ?_
        show own_Go p e below s _ _ _ (T117.setTop (mkF m 275 #[iv p1, iv p2, iv p3, iv p4, iv p5, iv p6, rv b1, iv (1 : Int32), iv (1 : Int32), rv b115, rv r117, iv (1 : Int32)] [(.int (p4.toInt8.toInt32))]))
        refine own_go (fun zt zk => (XS.iloadN X117.here hx rfl (hb hby at_275) rfl (XS.i2b X117.here hx rfl (hb hby at_276) rfl (XS.icmpNo X117.here hx rfl (hb hby at_277) rfl (teq (rfl : (p4.toInt8.toInt32) = (p4.toInt8.toInt32))).2 (XS.iconst X117.here hx rfl (hb hby at_280) (XS.goto X117.here hx rfl (pc0 := 281) (pc' := 285) rfl (hb hby at_281) (by decide) (by decide) (XS.istore X117.here hx rfl (hb hby at_285) rfl (l' := #[iv p1, iv p2, iv p3, iv p4, iv p5, iv p6, rv b1, iv (1 : Int32), iv (1 : Int32), rv b115, rv r117, iv (1 : Int32)]) rfl (XS.aload X117.here hx rfl (hb hby at_287) rfl rfl zk)))))))) ?_
        show own_Go p e below s _ _ _ (T117.setTop (mkF m 289 #[iv p1, iv p2, iv p3, iv p4, iv p5, iv p6, rv b1, iv (1 : Int32), iv (1 : Int32), rv b115, rv r117, iv (1 : Int32)] [(.ref r117)]))
        obtain ⟨cl127, Ar127, -, Sz127, Nz127, -, -⟩ := id V_r117
        refine own_go (X117.arraylength hx (by exact Ar127.1) (State.isArrayOf_alike hZ.alike Ar127.2.1) (g := (mkF m 289 #[iv p1, iv p2, iv p3, iv p4, iv p5, iv p6, rv b1, iv (1 : Int32), iv (1 : Int32), rv b115, rv r117, iv (1 : Int32)] [(.ref r117)])) rfl rfl (hb hby at_289)) ?_
        rw [len_of Sz127 Nz127]
        show own_Go p e below s _ _ _ (T117.setTop (mkF m 290 #[iv p1, iv p2, iv p3, iv p4, iv p5, iv p6, rv b1, iv (1 : Int32), iv (1 : Int32), rv b115, rv r117, iv (1 : Int32)] [(.int (0 : Int32))]))
        refine own_go (fun zt zk => (XS.ifYes X117.here hx rfl (pc0 := 290) (pc' := 333) rfl (hb hby at_290) rfl ((if0 _ _).trans (flt ((own_irr _) : ¬ ((0 : Int32) < (0 : Int32)))).2.2.2) (by decide) (by decide) (XS.iload X117.here hx rfl (hb hby at_333) rfl zk))) ?_
        show own_Go p e below s _ _ _ (T117.setTop (mkF m 335 #[iv p1, iv p2, iv p3, iv p4, iv p5, iv p6, rv b1, iv (1 : Int32), iv (1 : Int32), rv b115, rv r117, iv (1 : Int32)] [(.int (1 : Int32))]))
        exact own_fin X117 Bd.notSynchronized (fun h => by rw [Bd.returns] at h; cases h) (fun fs hr => retN X117 hx (t := .boolean) Bd.returns (by simp) (hb hby at_335) hr) ⟨rfl, N117⟩ (by decide) (by decide)
      · by_cases hk1_en : en = (1 : Int32)
        · subst hk1_en
          show own_Go p e below s _ _ _ (T9.setTop (mkF m 46 #[iv p1, iv p2, iv p3, iv p4, iv p5, iv p6, rv b1, iv (1 : Int32), .unset, .unset, .unset, .unset] [(.int (1 : Int32)), (.int (1 : Int32))]))
          refine own_go (fun zt zk => (XS.iadd X9.here hx rfl (hb hby at_46) rfl (XS.istore X9.here hx rfl (hb hby at_47) rfl (l' := #[iv p1, iv p2, iv p3, iv p4, iv p5, iv p6, rv b1, iv (1 : Int32), iv (2 : Int32), .unset, .unset, .unset]) rfl zk))) ?_
          show own_Go p e below s _ _ _ (T9.setTop (mkF m 49 #[iv p1, iv p2, iv p3, iv p4, iv p5, iv p6, rv b1, iv (1 : Int32), iv (2 : Int32), .unset, .unset, .unset] []))
          obtain ⟨T128, h128, X128, e128, E128, A128, D128, -, st128⟩ := newO X9 hx hZ hown (hw _ (List.mem_of_getElem? (i := 2) rfl)) (hw _ (List.mem_of_getElem? (i := 3) rfl)) (hw _ (List.mem_of_getElem? (i := 4) rfl)) e9 (g := (mkF m 49 #[iv p1, iv p2, iv p3, iv p4, iv p5, iv p6, rv b1, iv (1 : Int32), iv (2 : Int32), .unset, .unset, .unset] [])) rfl (hb hby at_49) (by decide) (by decide)
          obtain ⟨b128, g128⟩ : ∃ z, z = h9.size := ⟨_, rfl⟩
          rw [← g128] at A128 D128 st128
          refine own_go st128 ?_
          have ne_b1_b128 : b1 ≠ b128 := Nat.ne_of_lt (Nat.lt_of_lt_of_le V_b1.lt (Nat.le_of_eq g128.symm))
          have sz_b128 : h0.size ≤ b128 := Nat.le_trans Kp.1 (Nat.le_of_eq g128.symm)
          have g_b128 : n0 ≤ b128 := Nat.le_trans Z0 sz_b128
          replace Kp := Kp.ext E128
          replace V_b1 := V_b1.ext E128
          replace Ea_b1 := Ea_b1.ext E128
          have Ex_b128 := A128
          have F_start_b128 : Fld Z h128 b128 "com/example/tranche/tranche/model/Span" "start" "I" (.int (0 : Int32)) := D128 (Or.inr (hw _ (List.mem_of_getElem? (i := 17) rfl))) (ty := .int) (by decide)
          have F_end_b128 : Fld Z h128 b128 "com/example/tranche/tranche/model/Span" "end" "I" (.int (0 : Int32)) := D128 (Or.inr (hw _ (List.mem_of_getElem? (i := 19) rfl))) (ty := .int) (by decide)
          show own_Go p e below s _ _ _ (T128.setTop (mkF m 52 #[iv p1, iv p2, iv p3, iv p4, iv p5, iv p6, rv b1, iv (1 : Int32), iv (2 : Int32), .unset, .unset, .unset] [(.ref b128)]))
          refine own_go (fun zt zk => (XS.dup X128.here hx rfl (hb hby at_52) rfl rfl (XS.iload X128.here hx rfl (hb hby at_53) rfl (XS.iload X128.here hx rfl (hb hby at_55) rfl zk)))) ?_
          show own_Go p e below s _ _ _ (T128.setTop (mkF m 57 #[iv p1, iv p2, iv p3, iv p4, iv p5, iv p6, rv b1, iv (1 : Int32), iv (2 : Int32), .unset, .unset, .unset] [(.int (2 : Int32)), (.int (1 : Int32)), (.ref b128), (.ref b128)]))
          obtain ⟨_, _, ⟨T129, L129, k129, n129⟩, -, X129, ⟨Lc129, hQ129, l129, y129, z129⟩, st129⟩ := X128.specialBack hx (y := (⟨"com/example/tranche/tranche/model/Span", "<init>", "(II)V"⟩ : MethodName)) rfl hown (mvT hZ (hw _ (List.mem_of_getElem? (i := 5) rfl))) (mvT hZ (hw _ (List.mem_of_getElem? (i := 6) rfl))) (mvT hZ (hw _ (List.mem_of_getElem? (i := 7) rfl))) (by decide) (backOf (W := 1) (own_rspan l Z a0 hw [] b128 (1 : Int32) (2 : Int32)  h128 n0 (Nat.le_trans Z0 Kp.1) Ex_b128 F_start_b128 F_end_b128 g_b128 (by decide) (by decide)) hZ (hw _ (List.mem_of_getElem? (i := 7) rfl)) (hw _ (List.mem_of_getElem? (i := 4) rfl)) (by decide) (by decide)) (g := (mkF m 57 #[iv p1, iv p2, iv p3, iv p4, iv p5, iv p6, rv b1, iv (1 : Int32), iv (2 : Int32), .unset, .unset, .unset] [(.int (2 : Int32)), (.int (1 : Int32)), (.ref b128), (.ref b128)])) rfl (by rw [hml]; rfl) (Steps.refl _) (a := b128) (argsL := [(.int (1 : Int32)), (.int (2 : Int32))]) (rest := [(.ref b128)]) (lenOf own_pd__II_V rfl) rfl (by show 2 * 0 + _ ≤ _; exact Nat.le_of_eq rfl) (hb hby at_57) (fun _ _ => ⟨rfl, e128, (by decide : 2 + 0 ≤ _), (by decide : 6 + 0 ≤ _)⟩)
          dsimp only [Pt.U, Pt.locs, Pt.cells, Pt.slots] at X129 l129 y129 z129 st129 hQ129
          subst l129 y129 z129
          obtain ⟨rfl, Nq129, K129, -, F_start_b128, F_end_b128⟩ := hQ129
          have N129 := Fr.app N9 Nq129
          refine own_go (fun zt zk => st129.trans zk) ?_
          replace Kp := Kp.trans K129 (allS (Or.inr sz_b128) all0)
          replace V_b1 := V_b1.keep K129 (ninS ne_b1_b128 nin0)
          replace Ea_b1 := Ea_b1.keep K129
          replace Ex_b128 := Ex_b128.keep K129
          show own_Go p e below s _ _ _ (T129.setTop (mkF m 60 #[iv p1, iv p2, iv p3, iv p4, iv p5, iv p6, rv b1, iv (1 : Int32), iv (2 : Int32), .unset, .unset, .unset] [(.ref b128)]))
          refine own_go (fun zt zk => (XS.astore X129.here hx rfl (hb hby at_60) rfl rfl (l' := #[iv p1, iv p2, iv p3, iv p4, iv p5, iv p6, rv b1, iv (1 : Int32), iv (2 : Int32), rv b128, .unset, .unset]) rfl (XS.aload X129.here hx rfl (hb hby at_62) rfl rfl (XS.aload X129.here hx rfl (hb hby at_64) rfl rfl zk)))) ?_
          show own_Go p e below s _ _ _ (T129.setTop (mkF m 66 #[iv p1, iv p2, iv p3, iv p4, iv p5, iv p6, rv b1, iv (1 : Int32), iv (2 : Int32), rv b128, .unset, .unset] [(.ref b1), (.ref b128)]))
          obtain ⟨cq130, kq130, qa130, qb130, qc130⟩ := isOf hZ rfl Ex_b128
          obtain ⟨_, _, ⟨T130, L130, k130, n130⟩, -, X130, ⟨Lc130, hQ130, l130, y130, z130⟩, st130⟩ := X129.virtualBack hx (y := (⟨"com/example/tranche/tranche/model/Span", "bytesIn", "([B)[B"⟩ : MethodName)) (z := (⟨"com/example/tranche/tranche/model/Span", "bytesIn", "([B)[B"⟩ : MethodName)) hown (mvT hZ (hw _ (List.mem_of_getElem? (i := 20) rfl))) (mvT hZ (hw _ (List.mem_of_getElem? (i := 21) rfl))) (notFace_of_selects (args := #[]) (mvT hZ (hw _ (List.mem_of_getElem? (i := 23) rfl)))) (mvT hZ (hw _ (List.mem_of_getElem? (i := 23) rfl))) (mvT hZ (hw _ (List.mem_of_getElem? (i := 22) rfl))) (by decide) (backOf (W := 0) (own_rbi12 l Z a0 hw [] b128 b1 k1 (.int (p1.toInt8.toInt32)) (.int (p2.toInt8.toInt32)) (.int (p3.toInt8.toInt32)) (.int (p4.toInt8.toInt32)) T129.heap n0 (Nat.le_trans Z0 Kp.1) V_b1 Ea_b1 F_start_b128 F_end_b128) hZ (hw _ (List.mem_of_getElem? (i := 24) rfl)) (hw _ (List.mem_of_getElem? (i := 4) rfl)) (by decide) (by decide)) qa130 qc130 (g := (mkF m 66 #[iv p1, iv p2, iv p3, iv p4, iv p5, iv p6, rv b1, iv (1 : Int32), iv (2 : Int32), rv b128, .unset, .unset] [(.ref b1), (.ref b128)])) rfl (by rw [hml]; rfl) (Steps.refl _) (argsL := [(.ref b1)]) (rest := []) (lenOf own_pd___B__B rfl) rfl (by show 2 * 0 + _ ≤ _; exact Nat.le_of_eq rfl) (hb hby at_66) (fun _ _ => ⟨rfl, rfl, (by decide : 2 + 1 ≤ _), (by decide : 6 + 1 ≤ _)⟩)
          dsimp only [Pt.U, Pt.locs, Pt.cells, Pt.slots] at X130 l130 y130 z130 st130 hQ130
          subst l130 y130 z130
          obtain ⟨r130, kr130, rfl, Nq130, K130, sr130, Ea_r130, V_r130⟩ := hQ130
          have sz_r130 := Nat.le_trans Kp.1 sr130
          have g_r130 := Nat.le_trans Z0 sz_r130
          have ne_b1_r130 : b1 ≠ r130 := Nat.ne_of_lt (Nat.lt_of_lt_of_le V_b1.lt sr130)
          have ne_b128_r130 : b128 ≠ r130 := Nat.ne_of_lt (Nat.lt_of_lt_of_le Ex_b128.lt sr130)
          have N130 := Fr.app N129 Nq130
          refine own_go (fun zt zk => st130.trans zk) ?_
          replace Kp := Kp.trans K130 all0
          replace V_b1 := V_b1.keep K130 nin0
          replace Ea_b1 := Ea_b1.keep K130
          replace Ex_b128 := Ex_b128.keep K130
          replace F_start_b128 := F_start_b128.keep K130 nin0
          replace F_end_b128 := F_end_b128.keep K130 nin0
          show own_Go p e below s _ _ _ (T130.setTop (mkF m 69 #[iv p1, iv p2, iv p3, iv p4, iv p5, iv p6, rv b1, iv (1 : Int32), iv (2 : Int32), rv b128, .unset, .unset] [(.ref r130)]))
          refine own_go (fun zt zk => (XS.astore X130.here hx rfl (hb hby at_69) rfl rfl (l' := #[iv p1, iv p2, iv p3, iv p4, iv p5, iv p6, rv b1, iv (1 : Int32), iv (2 : Int32), rv b128, rv r130, .unset]) rfl (XS.aload X130.here hx rfl (hb hby at_71) rfl rfl (XS.ifnonnullYes X130.here hx rfl (pc0 := 73) (pc' := 78) rfl (hb hby at_73) rfl (by decide) (by decide) (XS.aload X130.here hx rfl (hb hby at_78) rfl rfl zk))))) ?_
          show own_Go p e below s _ _ _ (T130.setTop (mkF m 80 #[iv p1, iv p2, iv p3, iv p4, iv p5, iv p6, rv b1, iv (1 : Int32), iv (2 : Int32), rv b128, rv r130, .unset] [(.ref r130)]))
          obtain ⟨cl131, Ar131, -, Sz131, Nz131, -, -⟩ := id V_r130
          refine own_go (X130.arraylength hx (by exact Ar131.1) (State.isArrayOf_alike hZ.alike Ar131.2.1) (g := (mkF m 80 #[iv p1, iv p2, iv p3, iv p4, iv p5, iv p6, rv b1, iv (1 : Int32), iv (2 : Int32), rv b128, rv r130, .unset] [(.ref r130)])) rfl rfl (hb hby at_80)) ?_
          rw [len_of Sz131 Nz131]
          show own_Go p e below s _ _ _ (T130.setTop (mkF m 81 #[iv p1, iv p2, iv p3, iv p4, iv p5, iv p6, rv b1, iv (1 : Int32), iv (2 : Int32), rv b128, rv r130, .unset] [(.int (1 : Int32))]))
          refine own_go (fun zt zk => (XS.iload X130.here hx rfl (hb hby at_81) rfl (XS.iload X130.here hx rfl (hb hby at_83) rfl (XS.isub X130.here hx rfl (hb hby at_85) rfl (XS.icmpYes X130.here hx rfl (pc0 := 86) (pc' := 91) rfl (hb hby at_86) rfl (teq (rfl : (1 : Int32) = (1 : Int32))).1 (by decide) (by decide) (XS.iconst X130.here hx rfl (hb hby at_91) (XS.istore X130.here hx rfl (hb hby at_92) rfl (l' := #[iv p1, iv p2, iv p3, iv p4, iv p5, iv p6, rv b1, iv (1 : Int32), iv (2 : Int32), rv b128, rv r130, iv (1 : Int32)]) rfl (XS.aload X130.here hx rfl (hb hby at_94) rfl rfl zk)))))))) ?_
          show own_Go p e below s _ _ _ (T130.setTop (mkF m 96 #[iv p1, iv p2, iv p3, iv p4, iv p5, iv p6, rv b1, iv (1 : Int32), iv (2 : Int32), rv b128, rv r130, iv (1 : Int32)] [(.ref r130)]))
          obtain ⟨cl132, Ar132, -, Sz132, Nz132, -, -⟩ := id V_r130
          refine own_go (X130.arraylength hx (by exact Ar132.1) (State.isArrayOf_alike hZ.alike Ar132.2.1) (g := (mkF m 96 #[iv p1, iv p2, iv p3, iv p4, iv p5, iv p6, rv b1, iv (1 : Int32), iv (2 : Int32), rv b128, rv r130, iv (1 : Int32)] [(.ref r130)])) rfl rfl (hb hby at_96)) ?_
          rw [len_of Sz132 Nz132]
          show own_Go p e below s _ _ _ (T130.setTop (mkF m 97 #[iv p1, iv p2, iv p3, iv p4, iv p5, iv p6, rv b1, iv (1 : Int32), iv (2 : Int32), rv b128, rv r130, iv (1 : Int32)] [(.int (1 : Int32))]))
          refine own_go (fun zt zk => (XS.ifNo X130.here hx rfl (hb hby at_97) rfl ((if0 _ _).trans (tlt ((by decide) : (0 : Int32) < (1 : Int32))).2.2.2) (XS.iload X130.here hx rfl (hb hby at_100) rfl (XS.ifNo X130.here hx rfl (hb hby at_102) rfl ((if0 _ _).trans (feq ((by decide) : ¬ ((1 : Int32) = (0 : Int32)))).1) (XS.aload X130.here hx rfl (hb hby at_105) rfl rfl (XS.iconst X130.here hx rfl (hb hby at_107) zk)))))) ?_
          show own_Go p e below s _ _ _ (T130.setTop (mkF m 108 #[iv p1, iv p2, iv p3, iv p4, iv p5, iv p6, rv b1, iv (1 : Int32), iv (2 : Int32), rv b128, rv r130, iv (1 : Int32)] [(.int (0 : Int32)), (.ref r130)]))
          obtain ⟨cl133, Ar133, q133, Sz133, Nz133, Ha133, Ga133⟩ := id V_r130
          have hin133 : ¬ ((0 : Int32) < 0 ∨ cl133.slots.size ≤ ((0 : Int32)).toNatClampNeg) := inb_of Sz133 ⟨by decide, by decide⟩
          have hat133 : cl133.slots[((0 : Int32)).toNatClampNeg]? = some (.int (p2.toInt8.toInt32)) := Has.at Ha133 hin133 rfl
          refine own_go (X130.baloadBytes hx (j := (0 : Int32)) (v := (.int (p2.toInt8.toInt32))) (by exact Ar133.1) (State.isArrayOf_alike hZ.alike Ar133.2.1) Ar133.2.2 hin133 hat133 (g := (mkF m 108 #[iv p1, iv p2, iv p3, iv p4, iv p5, iv p6, rv b1, iv (1 : Int32), iv (2 : Int32), rv b128, rv r130, iv (1 : Int32)] [(.int (0 : Int32)), (.ref r130)])) rfl rfl (hb hby at_108)) ?_
          show own_Go p e below s _ _ _ (T130.setTop (mkF m 109 #[iv p1, iv p2, iv p3, iv p4, iv p5, iv p6, rv b1, iv (1 : Int32), iv (2 : Int32), rv b128, rv r130, iv (1 : Int32)] [(.int (p2.toInt8.toInt32))]))
          refine own_go (fun zt zk => (XS.iload X130.here hx rfl (hb hby at_109) rfl (XS.iloadN X130.here hx rfl (hb hby at_111) rfl (XS.iloadN X130.here hx rfl (hb hby at_112) rfl (XS.iloadN X130.here hx rfl (hb hby at_113) rfl (XS.iloadN X130.here hx rfl (hb hby at_114) rfl zk)))))) ?_
          show own_Go p e below s _ _ _ (T130.setTop (mkF m 115 #[iv p1, iv p2, iv p3, iv p4, iv p5, iv p6, rv b1, iv (1 : Int32), iv (2 : Int32), rv b128, rv r130, iv (1 : Int32)] [(.int p4), (.int p3), (.int p2), (.int p1), (.int (1 : Int32)), (.int (p2.toInt8.toInt32))]))
          obtain ⟨_, _, ⟨T134, L134, k134, n134⟩, -, X134, ⟨Lc134, hQ134, l134, y134, z134⟩, st134⟩ := Jvm.LawKit.callS X130 hx (y := (⟨"com/example/tranche/tranche/model/SpanBytesInPinLaw", "at", "(IIIII)B"⟩ : MethodName)) hown (mvT hZ (hw _ (List.mem_of_getElem? (i := 43) rfl))) (mvT hZ (hw _ (List.mem_of_getElem? (i := 44) rfl))) (mvT hZ (hw _ (List.mem_of_getElem? (i := 45) rfl))) (mvT hZ (hw _ (List.mem_of_getElem? (i := 46) rfl))) (by decide) (backOf (W := 1) (own_rat1 l Z a0 hw [] p1 p2 p3 p4  T130.heap n0 (Nat.le_trans Z0 Kp.1) ) hZ (hw _ (List.mem_of_getElem? (i := 46) rfl)) (hw _ (List.mem_of_getElem? (i := 45) rfl)) (by decide) (by decide)) (g := (mkF m 115 #[iv p1, iv p2, iv p3, iv p4, iv p5, iv p6, rv b1, iv (1 : Int32), iv (2 : Int32), rv b128, rv r130, iv (1 : Int32)] [(.int p4), (.int p3), (.int p2), (.int p1), (.int (1 : Int32)), (.int (p2.toInt8.toInt32))])) rfl (by rw [hml]; rfl) (argsL := [(.int (1 : Int32)), (.int p1), (.int p2), (.int p3), (.int p4)]) (rest := [(.int (p2.toInt8.toInt32))]) (lenOf own_pd__IIIII_B rfl) rfl (by show 2 * 0 + _ ≤ _; exact Nat.le_of_eq rfl) (hb hby at_115) (fun _ _ => ⟨rfl, rfl, (by decide : 3 + 0 ≤ _), (by decide : 7 + 0 ≤ _)⟩)
          dsimp only [Pt.U, Pt.locs, Pt.cells, Pt.slots] at X134 l134 y134 z134 st134 hQ134
          subst l134 y134 z134
          obtain ⟨rfl, Nq134, e134⟩ := hQ134
          have N134 := Fr.app N130 Nq134
          refine own_go st134 ?_
          show own_Go p e below s _ _ _ (T134.setTop (mkF m 118 #[iv p1, iv p2, iv p3, iv p4, iv p5, iv p6, rv b1, iv (1 : Int32), iv (2 : Int32), rv b128, rv r130, iv (1 : Int32)] [(.int (p2.toInt8.toInt32)), (.int (p2.toInt8.toInt32))]))
          refine own_go (fun zt zk => (XS.icmpNo X134.here hx rfl (hb hby at_118) rfl (teq (rfl : (p2.toInt8.toInt32) = (p2.toInt8.toInt32))).2 (XS.iconst X134.here hx rfl (hb hby at_121) (XS.goto X134.here hx rfl (pc0 := 122) (pc' := 126) rfl (hb hby at_122) (by decide) (by decide) (XS.istore X134.here hx rfl (hb hby at_126) rfl (l' := #[iv p1, iv p2, iv p3, iv p4, iv p5, iv p6, rv b1, iv (1 : Int32), iv (2 : Int32), rv b128, rv r130, iv (1 : Int32)]) rfl (XS.aload X134.here hx rfl (hb hby at_128) rfl rfl zk)))))) ?_
          show own_Go p e below s _ _ _ (T134.setTop (mkF m 130 #[iv p1, iv p2, iv p3, iv p4, iv p5, iv p6, rv b1, iv (1 : Int32), iv (2 : Int32), rv b128, rv r130, iv (1 : Int32)] [(.ref r130)]))
          obtain ⟨cl135, Ar135, -, Sz135, Nz135, -, -⟩ := id V_r130
          refine own_go (X134.arraylength hx (by rw [e134]; exact Ar135.1) (State.isArrayOf_alike hZ.alike Ar135.2.1) (g := (mkF m 130 #[iv p1, iv p2, iv p3, iv p4, iv p5, iv p6, rv b1, iv (1 : Int32), iv (2 : Int32), rv b128, rv r130, iv (1 : Int32)] [(.ref r130)])) rfl rfl (hb hby at_130)) ?_
          rw [len_of Sz135 Nz135]
          show own_Go p e below s _ _ _ (T134.setTop (mkF m 131 #[iv p1, iv p2, iv p3, iv p4, iv p5, iv p6, rv b1, iv (1 : Int32), iv (2 : Int32), rv b128, rv r130, iv (1 : Int32)] [(.int (1 : Int32))]))
          refine own_go (fun zt zk => (XS.iconst X134.here hx rfl (hb hby at_131) (XS.icmpYes X134.here hx rfl (pc0 := 132) (pc' := 165) rfl (hb hby at_132) rfl (flt ((own_irr _) : ¬ ((1 : Int32) < (1 : Int32)))).2.2.2 (by decide) (by decide) (XS.aload X134.here hx rfl (hb hby at_165) rfl rfl zk)))) ?_
          show own_Go p e below s _ _ _ (T134.setTop (mkF m 167 #[iv p1, iv p2, iv p3, iv p4, iv p5, iv p6, rv b1, iv (1 : Int32), iv (2 : Int32), rv b128, rv r130, iv (1 : Int32)] [(.ref r130)]))
          obtain ⟨cl136, Ar136, -, Sz136, Nz136, -, -⟩ := id V_r130
          refine own_go (X134.arraylength hx (by rw [e134]; exact Ar136.1) (State.isArrayOf_alike hZ.alike Ar136.2.1) (g := (mkF m 167 #[iv p1, iv p2, iv p3, iv p4, iv p5, iv p6, rv b1, iv (1 : Int32), iv (2 : Int32), rv b128, rv r130, iv (1 : Int32)] [(.ref r130)])) rfl rfl (hb hby at_167)) ?_
          rw [len_of Sz136 Nz136]
          show own_Go p e below s _ _ _ (T134.setTop (mkF m 168 #[iv p1, iv p2, iv p3, iv p4, iv p5, iv p6, rv b1, iv (1 : Int32), iv (2 : Int32), rv b128, rv r130, iv (1 : Int32)] [(.int (1 : Int32))]))
          refine own_go (fun zt zk => (XS.iconst X134.here hx rfl (hb hby at_168) (XS.icmpYes X134.here hx rfl (pc0 := 169) (pc' := 202) rfl (hb hby at_169) rfl (flt ((by decide) : ¬ ((2 : Int32) < (1 : Int32)))).2.2.2 (by decide) (by decide) (XS.aload X134.here hx rfl (hb hby at_202) rfl rfl zk)))) ?_
          show own_Go p e below s _ _ _ (T134.setTop (mkF m 204 #[iv p1, iv p2, iv p3, iv p4, iv p5, iv p6, rv b1, iv (1 : Int32), iv (2 : Int32), rv b128, rv r130, iv (1 : Int32)] [(.ref r130)]))
          obtain ⟨cl137, Ar137, -, Sz137, Nz137, -, -⟩ := id V_r130
          refine own_go (X134.arraylength hx (by rw [e134]; exact Ar137.1) (State.isArrayOf_alike hZ.alike Ar137.2.1) (g := (mkF m 204 #[iv p1, iv p2, iv p3, iv p4, iv p5, iv p6, rv b1, iv (1 : Int32), iv (2 : Int32), rv b128, rv r130, iv (1 : Int32)] [(.ref r130)])) rfl rfl (hb hby at_204)) ?_
          rw [len_of Sz137 Nz137]
          show own_Go p e below s _ _ _ (T134.setTop (mkF m 205 #[iv p1, iv p2, iv p3, iv p4, iv p5, iv p6, rv b1, iv (1 : Int32), iv (2 : Int32), rv b128, rv r130, iv (1 : Int32)] [(.int (1 : Int32))]))
          refine own_go (fun zt zk => (XS.iconst X134.here hx rfl (hb hby at_205) (XS.icmpYes X134.here hx rfl (pc0 := 206) (pc' := 239) rfl (hb hby at_206) rfl (flt ((by decide) : ¬ ((3 : Int32) < (1 : Int32)))).2.2.2 (by decide) (by decide) (XS.iload X134.here hx rfl (hb hby at_239) rfl (XS.ifNo X134.here hx rfl (hb hby at_241) rfl ((if0 _ _).trans (feq ((by decide) : ¬ ((1 : Int32) = (0 : Int32)))).1) (XS.aload X134.here hx rfl (hb hby at_244) rfl rfl (XS.iconst X134.here hx rfl (hb hby at_246) zk))))))) ?_
          show own_Go p e below s _ _ _ (T134.setTop (mkF m 247 #[iv p1, iv p2, iv p3, iv p4, iv p5, iv p6, rv b1, iv (1 : Int32), iv (2 : Int32), rv b128, rv r130, iv (1 : Int32)] [(.int (0 : Int32)), (.ref b1)]))
          obtain ⟨cl138, Ar138, q138, Sz138, Nz138, Ha138, Ga138⟩ := id V_b1
          have hin138 : ¬ ((0 : Int32) < 0 ∨ cl138.slots.size ≤ ((0 : Int32)).toNatClampNeg) := inb_of Sz138 ⟨by decide, by decide⟩
          have hat138 : cl138.slots[((0 : Int32)).toNatClampNeg]? = some (.int (p1.toInt8.toInt32)) := Has.at Ha138 hin138 rfl
          refine own_go (X134.baloadBytes hx (j := (0 : Int32)) (v := (.int (p1.toInt8.toInt32))) (by rw [e134]; exact Ar138.1) (State.isArrayOf_alike hZ.alike Ar138.2.1) Ar138.2.2 hin138 hat138 (g := (mkF m 247 #[iv p1, iv p2, iv p3, iv p4, iv p5, iv p6, rv b1, iv (1 : Int32), iv (2 : Int32), rv b128, rv r130, iv (1 : Int32)] [(.int (0 : Int32)), (.ref b1)])) rfl rfl (hb hby at_247)) ?_
          show own_Go p e below s _ _ _ (T134.setTop (mkF m 248 #[iv p1, iv p2, iv p3, iv p4, iv p5, iv p6, rv b1, iv (1 : Int32), iv (2 : Int32), rv b128, rv r130, iv (1 : Int32)] [(.int (p1.toInt8.toInt32))]))
          refine own_go (fun zt zk => (XS.iloadN X134.here hx rfl (hb hby at_248) rfl (XS.i2b X134.here hx rfl (hb hby at_249) rfl (XS.icmpNo X134.here hx rfl (hb hby at_250) rfl (teq (rfl : (p1.toInt8.toInt32) = (p1.toInt8.toInt32))).2 (XS.aload X134.here hx rfl (hb hby at_253) rfl rfl (XS.iconst X134.here hx rfl (hb hby at_255) zk)))))) ?_
          show own_Go p e below s _ _ _ (T134.setTop (mkF m 256 #[iv p1, iv p2, iv p3, iv p4, iv p5, iv p6, rv b1, iv (1 : Int32), iv (2 : Int32), rv b128, rv r130, iv (1 : Int32)] [(.int (1 : Int32)), (.ref b1)]))
          obtain ⟨cl139, Ar139, q139, Sz139, Nz139, Ha139, Ga139⟩ := id V_b1
          have hin139 : ¬ ((1 : Int32) < 0 ∨ cl139.slots.size ≤ ((1 : Int32)).toNatClampNeg) := inb_of Sz139 ⟨by decide, by decide⟩
          have hat139 : cl139.slots[((1 : Int32)).toNatClampNeg]? = some (.int (p2.toInt8.toInt32)) := Has.at Ha139 hin139 rfl
          refine own_go (X134.baloadBytes hx (j := (1 : Int32)) (v := (.int (p2.toInt8.toInt32))) (by rw [e134]; exact Ar139.1) (State.isArrayOf_alike hZ.alike Ar139.2.1) Ar139.2.2 hin139 hat139 (g := (mkF m 256 #[iv p1, iv p2, iv p3, iv p4, iv p5, iv p6, rv b1, iv (1 : Int32), iv (2 : Int32), rv b128, rv r130, iv (1 : Int32)] [(.int (1 : Int32)), (.ref b1)])) rfl rfl (hb hby at_256)) ?_
          show own_Go p e below s _ _ _ (T134.setTop (mkF m 257 #[iv p1, iv p2, iv p3, iv p4, iv p5, iv p6, rv b1, iv (1 : Int32), iv (2 : Int32), rv b128, rv r130, iv (1 : Int32)] [(.int (p2.toInt8.toInt32))]))
          refine own_go (fun zt zk => (XS.iloadN X134.here hx rfl (hb hby at_257) rfl (XS.i2b X134.here hx rfl (hb hby at_258) rfl (XS.icmpNo X134.here hx rfl (hb hby at_259) rfl (teq (rfl : (p2.toInt8.toInt32) = (p2.toInt8.toInt32))).2 (XS.aload X134.here hx rfl (hb hby at_262) rfl rfl (XS.iconst X134.here hx rfl (hb hby at_264) zk)))))) ?_
          show own_Go p e below s _ _ _ (T134.setTop (mkF m 265 #[iv p1, iv p2, iv p3, iv p4, iv p5, iv p6, rv b1, iv (1 : Int32), iv (2 : Int32), rv b128, rv r130, iv (1 : Int32)] [(.int (2 : Int32)), (.ref b1)]))
          obtain ⟨cl140, Ar140, q140, Sz140, Nz140, Ha140, Ga140⟩ := id V_b1
          have hin140 : ¬ ((2 : Int32) < 0 ∨ cl140.slots.size ≤ ((2 : Int32)).toNatClampNeg) := inb_of Sz140 ⟨by decide, by decide⟩
          have hat140 : cl140.slots[((2 : Int32)).toNatClampNeg]? = some (.int (p3.toInt8.toInt32)) := Has.at Ha140 hin140 rfl
          refine own_go (X134.baloadBytes hx (j := (2 : Int32)) (v := (.int (p3.toInt8.toInt32))) (by rw [e134]; exact Ar140.1) (State.isArrayOf_alike hZ.alike Ar140.2.1) Ar140.2.2 hin140 hat140 (g := (mkF m 265 #[iv p1, iv p2, iv p3, iv p4, iv p5, iv p6, rv b1, iv (1 : Int32), iv (2 : Int32), rv b128, rv r130, iv (1 : Int32)] [(.int (2 : Int32)), (.ref b1)])) rfl rfl (hb hby at_265)) ?_
          show own_Go p e below s _ _ _ (T134.setTop (mkF m 266 #[iv p1, iv p2, iv p3, iv p4, iv p5, iv p6, rv b1, iv (1 : Int32), iv (2 : Int32), rv b128, rv r130, iv (1 : Int32)] [(.int (p3.toInt8.toInt32))]))
          refine own_go (fun zt zk => (XS.iloadN X134.here hx rfl (hb hby at_266) rfl (XS.i2b X134.here hx rfl (hb hby at_267) rfl (XS.icmpNo X134.here hx rfl (hb hby at_268) rfl (teq (rfl : (p3.toInt8.toInt32) = (p3.toInt8.toInt32))).2 (XS.aload X134.here hx rfl (hb hby at_271) rfl rfl (XS.iconst X134.here hx rfl (hb hby at_273) zk)))))) ?_
          show own_Go p e below s _ _ _ (T134.setTop (mkF m 274 #[iv p1, iv p2, iv p3, iv p4, iv p5, iv p6, rv b1, iv (1 : Int32), iv (2 : Int32), rv b128, rv r130, iv (1 : Int32)] [(.int (3 : Int32)), (.ref b1)]))
          obtain ⟨cl141, Ar141, q141, Sz141, Nz141, Ha141, Ga141⟩ := id V_b1
          have hin141 : ¬ ((3 : Int32) < 0 ∨ cl141.slots.size ≤ ((3 : Int32)).toNatClampNeg) := inb_of Sz141 ⟨by decide, by decide⟩
          have hat141 : cl141.slots[((3 : Int32)).toNatClampNeg]? = some (.int (p4.toInt8.toInt32)) := Has.at Ha141 hin141 rfl
          refine own_go (X134.baloadBytes hx (j := (3 : Int32)) (v := (.int (p4.toInt8.toInt32))) (by rw [e134]; exact Ar141.1) (State.isArrayOf_alike hZ.alike Ar141.2.1) Ar141.2.2 hin141 hat141 (g := (mkF m 274 #[iv p1, iv p2, iv p3, iv p4, iv p5, iv p6, rv b1, iv (1 : Int32), iv (2 : Int32), rv b128, rv r130, iv (1 : Int32)] [(.int (3 : Int32)), (.ref b1)])) rfl rfl (hb hby at_274)) ?_
          show own_Go p e below s _ _ _ (T134.setTop (mkF m 275 #[iv p1, iv p2, iv p3, iv p4, iv p5, iv p6, rv b1, iv (1 : Int32), iv (2 : Int32), rv b128, rv r130, iv (1 : Int32)] [(.int (p4.toInt8.toInt32))]))
          refine own_go (fun zt zk => (XS.iloadN X134.here hx rfl (hb hby at_275) rfl (XS.i2b X134.here hx rfl (hb hby at_276) rfl (XS.icmpNo X134.here hx rfl (hb hby at_277) rfl (teq (rfl : (p4.toInt8.toInt32) = (p4.toInt8.toInt32))).2 (XS.iconst X134.here hx rfl (hb hby at_280) (XS.goto X134.here hx rfl (pc0 := 281) (pc' := 285) rfl (hb hby at_281) (by decide) (by decide) (XS.istore X134.here hx rfl (hb hby at_285) rfl (l' := #[iv p1, iv p2, iv p3, iv p4, iv p5, iv p6, rv b1, iv (1 : Int32), iv (2 : Int32), rv b128, rv r130, iv (1 : Int32)]) rfl (XS.aload X134.here hx rfl (hb hby at_287) rfl rfl zk)))))))) ?_
          show own_Go p e below s _ _ _ (T134.setTop (mkF m 289 #[iv p1, iv p2, iv p3, iv p4, iv p5, iv p6, rv b1, iv (1 : Int32), iv (2 : Int32), rv b128, rv r130, iv (1 : Int32)] [(.ref r130)]))
          obtain ⟨cl142, Ar142, -, Sz142, Nz142, -, -⟩ := id V_r130
          refine own_go (X134.arraylength hx (by rw [e134]; exact Ar142.1) (State.isArrayOf_alike hZ.alike Ar142.2.1) (g := (mkF m 289 #[iv p1, iv p2, iv p3, iv p4, iv p5, iv p6, rv b1, iv (1 : Int32), iv (2 : Int32), rv b128, rv r130, iv (1 : Int32)] [(.ref r130)])) rfl rfl (hb hby at_289)) ?_
          rw [len_of Sz142 Nz142]
          show own_Go p e below s _ _ _ (T134.setTop (mkF m 290 #[iv p1, iv p2, iv p3, iv p4, iv p5, iv p6, rv b1, iv (1 : Int32), iv (2 : Int32), rv b128, rv r130, iv (1 : Int32)] [(.int (1 : Int32))]))
          refine own_go (fun zt zk => (XS.ifNo X134.here hx rfl (hb hby at_290) rfl ((if0 _ _).trans (tlt ((by decide) : (0 : Int32) < (1 : Int32))).2.2.2) (XS.aload X134.here hx rfl (hb hby at_293) rfl rfl (XS.iconst X134.here hx rfl (hb hby at_295) (XS.aload X134.here hx rfl (hb hby at_296) rfl rfl (XS.iconst X134.here hx rfl (hb hby at_298) zk)))))) ?_
          show own_Go p e below s _ _ _ (T134.setTop (mkF m 299 #[iv p1, iv p2, iv p3, iv p4, iv p5, iv p6, rv b1, iv (1 : Int32), iv (2 : Int32), rv b128, rv r130, iv (1 : Int32)] [(.int (0 : Int32)), (.ref r130), (.int (0 : Int32)), (.ref r130)]))
          obtain ⟨cl143, Ar143, q143, Sz143, Nz143, Ha143, Ga143⟩ := id V_r130
          have hin143 : ¬ ((0 : Int32) < 0 ∨ cl143.slots.size ≤ ((0 : Int32)).toNatClampNeg) := inb_of Sz143 ⟨by decide, by decide⟩
          have hat143 : cl143.slots[((0 : Int32)).toNatClampNeg]? = some (.int (p2.toInt8.toInt32)) := Has.at Ha143 hin143 rfl
          refine own_go (X134.baloadBytes hx (j := (0 : Int32)) (v := (.int (p2.toInt8.toInt32))) (by rw [e134]; exact Ar143.1) (State.isArrayOf_alike hZ.alike Ar143.2.1) Ar143.2.2 hin143 hat143 (g := (mkF m 299 #[iv p1, iv p2, iv p3, iv p4, iv p5, iv p6, rv b1, iv (1 : Int32), iv (2 : Int32), rv b128, rv r130, iv (1 : Int32)] [(.int (0 : Int32)), (.ref r130), (.int (0 : Int32)), (.ref r130)])) rfl rfl (hb hby at_299)) ?_
          show own_Go p e below s _ _ _ (T134.setTop (mkF m 300 #[iv p1, iv p2, iv p3, iv p4, iv p5, iv p6, rv b1, iv (1 : Int32), iv (2 : Int32), rv b128, rv r130, iv (1 : Int32)] [(.int (p2.toInt8.toInt32)), (.int (0 : Int32)), (.ref r130)]))
          refine own_go (fun zt zk => (XS.iconst X134.here hx rfl (hb hby at_300) (XS.ixor X134.here hx rfl (hb hby at_301) rfl (XS.i2b X134.here hx rfl (hb hby at_302) rfl zk)))) ?_
          show own_Go p e below s _ _ _ (T134.setTop (mkF m 303 #[iv p1, iv p2, iv p3, iv p4, iv p5, iv p6, rv b1, iv (1 : Int32), iv (2 : Int32), rv b128, rv r130, iv (1 : Int32)] [(.int (((p2.toInt8.toInt32) ^^^ (1 : Int32)).toInt8.toInt32)), (.int (0 : Int32)), (.ref r130)]))
          obtain ⟨cl144, Ar144, q144, Sz144, Nz144, Ha144, Ga144⟩ := id V_r130
          have hin144 : ¬ ((0 : Int32) < 0 ∨ cl144.slots.size ≤ ((0 : Int32)).toNatClampNeg) := inb_of Sz144 ⟨by decide, by decide⟩
          obtain ⟨T145, h145, X145, e145, W145, st145⟩ := stB X134 hx hZ e134 Ar144 (j := (0 : Int32)) hin144 (g := (mkF m 303 #[iv p1, iv p2, iv p3, iv p4, iv p5, iv p6, rv b1, iv (1 : Int32), iv (2 : Int32), rv b128, rv r130, iv (1 : Int32)] [(.int (((p2.toInt8.toInt32) ^^^ (1 : Int32)).toInt8.toInt32)), (.int (0 : Int32)), (.ref r130)])) rfl rfl (hb hby at_303)
          refine own_go st145 ?_
          rw [show nar .byte (((p2.toInt8.toInt32) ^^^ (1 : Int32)).toInt8.toInt32) = (((p2.toInt8.toInt32) ^^^ (1 : Int32)).toInt8.toInt32) from own_b8 _] at W145
          have V145 := Arv.set Ar144 q144 Sz144 Nz144 Ha144 Ga144 (fits_nar_byte _) W145 0 rfl (Nat.le_of_ble_eq_true rfl)
          have N145 := Fr.snoc X145 N134 g_r130
          replace Kp := Kp.wr W145 (Or.inr sz_r130)
          replace V_b1 := V_b1.other W145 ne_b1_r130
          replace Ea_b1 := Ea_b1.wr W145
          replace Ex_b128 := Ex_b128.wr W145
          replace F_start_b128 := F_start_b128.other W145 (Or.inl ne_b128_r130)
          replace F_end_b128 := F_end_b128.other W145 (Or.inl ne_b128_r130)
          replace Ea_r130 := Ea_r130.wr W145
          replace V_r130 : Arv Z h145 r130 kr130 .byte (1 : Int32) [(.int (((p2.toInt8.toInt32) ^^^ (1 : Int32)).toInt8.toInt32))] (.int (0 : Int32)) := V145
          show own_Go p e below s _ _ _ (T145.setTop (mkF m 304 #[iv p1, iv p2, iv p3, iv p4, iv p5, iv p6, rv b1, iv (1 : Int32), iv (2 : Int32), rv b128, rv r130, iv (1 : Int32)] []))
          refine own_go (fun zt zk => (XS.iload X145.here hx rfl (hb hby at_304) rfl (XS.ifNo X145.here hx rfl (hb hby at_306) rfl ((if0 _ _).trans (feq ((by decide) : ¬ ((1 : Int32) = (0 : Int32)))).1) (XS.aload X145.here hx rfl (hb hby at_309) rfl rfl (XS.iload X145.here hx rfl (hb hby at_311) rfl zk))))) ?_
          show own_Go p e below s _ _ _ (T145.setTop (mkF m 313 #[iv p1, iv p2, iv p3, iv p4, iv p5, iv p6, rv b1, iv (1 : Int32), iv (2 : Int32), rv b128, rv r130, iv (1 : Int32)] [(.int (1 : Int32)), (.ref b1)]))
          obtain ⟨cl146, Ar146, q146, Sz146, Nz146, Ha146, Ga146⟩ := id V_b1
          have hin146 : ¬ ((1 : Int32) < 0 ∨ cl146.slots.size ≤ ((1 : Int32)).toNatClampNeg) := inb_of Sz146 ⟨by decide, by decide⟩
          have hat146 : cl146.slots[((1 : Int32)).toNatClampNeg]? = some (.int (p2.toInt8.toInt32)) := Has.at Ha146 hin146 rfl
          refine own_go (X145.baloadBytes hx (j := (1 : Int32)) (v := (.int (p2.toInt8.toInt32))) (by rw [e145]; exact Ar146.1) (State.isArrayOf_alike hZ.alike Ar146.2.1) Ar146.2.2 hin146 hat146 (g := (mkF m 313 #[iv p1, iv p2, iv p3, iv p4, iv p5, iv p6, rv b1, iv (1 : Int32), iv (2 : Int32), rv b128, rv r130, iv (1 : Int32)] [(.int (1 : Int32)), (.ref b1)])) rfl rfl (hb hby at_313)) ?_
          show own_Go p e below s _ _ _ (T145.setTop (mkF m 314 #[iv p1, iv p2, iv p3, iv p4, iv p5, iv p6, rv b1, iv (1 : Int32), iv (2 : Int32), rv b128, rv r130, iv (1 : Int32)] [(.int (p2.toInt8.toInt32))]))
          refine own_go (fun zt zk => (XS.iload X145.here hx rfl (hb hby at_314) rfl (XS.iloadN X145.here hx rfl (hb hby at_316) rfl (XS.iloadN X145.here hx rfl (hb hby at_317) rfl (XS.iloadN X145.here hx rfl (hb hby at_318) rfl (XS.iloadN X145.here hx rfl (hb hby at_319) rfl zk)))))) ?_
          show own_Go p e below s _ _ _ (T145.setTop (mkF m 320 #[iv p1, iv p2, iv p3, iv p4, iv p5, iv p6, rv b1, iv (1 : Int32), iv (2 : Int32), rv b128, rv r130, iv (1 : Int32)] [(.int p4), (.int p3), (.int p2), (.int p1), (.int (1 : Int32)), (.int (p2.toInt8.toInt32))]))
          obtain ⟨_, _, ⟨T147, L147, k147, n147⟩, -, X147, ⟨Lc147, hQ147, l147, y147, z147⟩, st147⟩ := Jvm.LawKit.callS X145 hx (y := (⟨"com/example/tranche/tranche/model/SpanBytesInPinLaw", "at", "(IIIII)B"⟩ : MethodName)) hown (mvT hZ (hw _ (List.mem_of_getElem? (i := 43) rfl))) (mvT hZ (hw _ (List.mem_of_getElem? (i := 44) rfl))) (mvT hZ (hw _ (List.mem_of_getElem? (i := 45) rfl))) (mvT hZ (hw _ (List.mem_of_getElem? (i := 46) rfl))) (by decide) (backOf (W := 1) (own_rat1 l Z a0 hw [] p1 p2 p3 p4  h145 n0 (Nat.le_trans Z0 Kp.1) ) hZ (hw _ (List.mem_of_getElem? (i := 46) rfl)) (hw _ (List.mem_of_getElem? (i := 45) rfl)) (by decide) (by decide)) (g := (mkF m 320 #[iv p1, iv p2, iv p3, iv p4, iv p5, iv p6, rv b1, iv (1 : Int32), iv (2 : Int32), rv b128, rv r130, iv (1 : Int32)] [(.int p4), (.int p3), (.int p2), (.int p1), (.int (1 : Int32)), (.int (p2.toInt8.toInt32))])) rfl (by rw [hml]; rfl) (argsL := [(.int (1 : Int32)), (.int p1), (.int p2), (.int p3), (.int p4)]) (rest := [(.int (p2.toInt8.toInt32))]) (lenOf own_pd__IIIII_B rfl) rfl (by show 2 * 0 + _ ≤ _; exact Nat.le_of_eq rfl) (hb hby at_320) (fun _ _ => ⟨rfl, e145, (by decide : 3 + 0 ≤ _), (by decide : 7 + 0 ≤ _)⟩)
          dsimp only [Pt.U, Pt.locs, Pt.cells, Pt.slots] at X147 l147 y147 z147 st147 hQ147
          subst l147 y147 z147
          obtain ⟨rfl, Nq147, e147⟩ := hQ147
          have N147 := Fr.app N145 Nq147
          refine own_go st147 ?_
          show own_Go p e below s _ _ _ (T147.setTop (mkF m 323 #[iv p1, iv p2, iv p3, iv p4, iv p5, iv p6, rv b1, iv (1 : Int32), iv (2 : Int32), rv b128, rv r130, iv (1 : Int32)] [(.int (p2.toInt8.toInt32)), (.int (p2.toInt8.toInt32))]))
          refine own_go (fun zt zk => (XS.icmpNo X147.here hx rfl (hb hby at_323) rfl (teq (rfl : (p2.toInt8.toInt32) = (p2.toInt8.toInt32))).2 (XS.iconst X147.here hx rfl (hb hby at_326) (XS.goto X147.here hx rfl (pc0 := 327) (pc' := 331) rfl (hb hby at_327) (by decide) (by decide) (XS.istore X147.here hx rfl (hb hby at_331) rfl (l' := #[iv p1, iv p2, iv p3, iv p4, iv p5, iv p6, rv b1, iv (1 : Int32), iv (2 : Int32), rv b128, rv r130, iv (1 : Int32)]) rfl (XS.iload X147.here hx rfl (hb hby at_333) rfl zk)))))) ?_
          show own_Go p e below s _ _ _ (T147.setTop (mkF m 335 #[iv p1, iv p2, iv p3, iv p4, iv p5, iv p6, rv b1, iv (1 : Int32), iv (2 : Int32), rv b128, rv r130, iv (1 : Int32)] [(.int (1 : Int32))]))
          exact own_fin X147 Bd.notSynchronized (fun h => by rw [Bd.returns] at h; cases h) (fun fs hr => retN X147 hx (t := .boolean) Bd.returns (by simp) (hb hby at_335) hr) (by rw [e147]; exact ⟨rfl, N147⟩) (by decide) (by decide)
        · by_cases hk2_en : en = (2 : Int32)
          · subst hk2_en
            show own_Go p e below s _ _ _ (T9.setTop (mkF m 46 #[iv p1, iv p2, iv p3, iv p4, iv p5, iv p6, rv b1, iv (1 : Int32), .unset, .unset, .unset, .unset] [(.int (2 : Int32)), (.int (1 : Int32))]))
            refine own_go (fun zt zk => (XS.iadd X9.here hx rfl (hb hby at_46) rfl (XS.istore X9.here hx rfl (hb hby at_47) rfl (l' := #[iv p1, iv p2, iv p3, iv p4, iv p5, iv p6, rv b1, iv (1 : Int32), iv (3 : Int32), .unset, .unset, .unset]) rfl zk))) ?_
            show own_Go p e below s _ _ _ (T9.setTop (mkF m 49 #[iv p1, iv p2, iv p3, iv p4, iv p5, iv p6, rv b1, iv (1 : Int32), iv (3 : Int32), .unset, .unset, .unset] []))
            obtain ⟨T148, h148, X148, e148, E148, A148, D148, -, st148⟩ := newO X9 hx hZ hown (hw _ (List.mem_of_getElem? (i := 2) rfl)) (hw _ (List.mem_of_getElem? (i := 3) rfl)) (hw _ (List.mem_of_getElem? (i := 4) rfl)) e9 (g := (mkF m 49 #[iv p1, iv p2, iv p3, iv p4, iv p5, iv p6, rv b1, iv (1 : Int32), iv (3 : Int32), .unset, .unset, .unset] [])) rfl (hb hby at_49) (by decide) (by decide)
            obtain ⟨b148, g148⟩ : ∃ z, z = h9.size := ⟨_, rfl⟩
            rw [← g148] at A148 D148 st148
            refine own_go st148 ?_
            have ne_b1_b148 : b1 ≠ b148 := Nat.ne_of_lt (Nat.lt_of_lt_of_le V_b1.lt (Nat.le_of_eq g148.symm))
            have sz_b148 : h0.size ≤ b148 := Nat.le_trans Kp.1 (Nat.le_of_eq g148.symm)
            have g_b148 : n0 ≤ b148 := Nat.le_trans Z0 sz_b148
            replace Kp := Kp.ext E148
            replace V_b1 := V_b1.ext E148
            replace Ea_b1 := Ea_b1.ext E148
            have Ex_b148 := A148
            have F_start_b148 : Fld Z h148 b148 "com/example/tranche/tranche/model/Span" "start" "I" (.int (0 : Int32)) := D148 (Or.inr (hw _ (List.mem_of_getElem? (i := 17) rfl))) (ty := .int) (by decide)
            have F_end_b148 : Fld Z h148 b148 "com/example/tranche/tranche/model/Span" "end" "I" (.int (0 : Int32)) := D148 (Or.inr (hw _ (List.mem_of_getElem? (i := 19) rfl))) (ty := .int) (by decide)
            show own_Go p e below s _ _ _ (T148.setTop (mkF m 52 #[iv p1, iv p2, iv p3, iv p4, iv p5, iv p6, rv b1, iv (1 : Int32), iv (3 : Int32), .unset, .unset, .unset] [(.ref b148)]))
            refine own_go (fun zt zk => (XS.dup X148.here hx rfl (hb hby at_52) rfl rfl (XS.iload X148.here hx rfl (hb hby at_53) rfl (XS.iload X148.here hx rfl (hb hby at_55) rfl zk)))) ?_
            show own_Go p e below s _ _ _ (T148.setTop (mkF m 57 #[iv p1, iv p2, iv p3, iv p4, iv p5, iv p6, rv b1, iv (1 : Int32), iv (3 : Int32), .unset, .unset, .unset] [(.int (3 : Int32)), (.int (1 : Int32)), (.ref b148), (.ref b148)]))
            obtain ⟨_, _, ⟨T149, L149, k149, n149⟩, -, X149, ⟨Lc149, hQ149, l149, y149, z149⟩, st149⟩ := X148.specialBack hx (y := (⟨"com/example/tranche/tranche/model/Span", "<init>", "(II)V"⟩ : MethodName)) rfl hown (mvT hZ (hw _ (List.mem_of_getElem? (i := 5) rfl))) (mvT hZ (hw _ (List.mem_of_getElem? (i := 6) rfl))) (mvT hZ (hw _ (List.mem_of_getElem? (i := 7) rfl))) (by decide) (backOf (W := 1) (own_rspan l Z a0 hw [] b148 (1 : Int32) (3 : Int32)  h148 n0 (Nat.le_trans Z0 Kp.1) Ex_b148 F_start_b148 F_end_b148 g_b148 (by decide) (by decide)) hZ (hw _ (List.mem_of_getElem? (i := 7) rfl)) (hw _ (List.mem_of_getElem? (i := 4) rfl)) (by decide) (by decide)) (g := (mkF m 57 #[iv p1, iv p2, iv p3, iv p4, iv p5, iv p6, rv b1, iv (1 : Int32), iv (3 : Int32), .unset, .unset, .unset] [(.int (3 : Int32)), (.int (1 : Int32)), (.ref b148), (.ref b148)])) rfl (by rw [hml]; rfl) (Steps.refl _) (a := b148) (argsL := [(.int (1 : Int32)), (.int (3 : Int32))]) (rest := [(.ref b148)]) (lenOf own_pd__II_V rfl) rfl (by show 2 * 0 + _ ≤ _; exact Nat.le_of_eq rfl) (hb hby at_57) (fun _ _ => ⟨rfl, e148, (by decide : 2 + 0 ≤ _), (by decide : 6 + 0 ≤ _)⟩)
            dsimp only [Pt.U, Pt.locs, Pt.cells, Pt.slots] at X149 l149 y149 z149 st149 hQ149
            subst l149 y149 z149
            obtain ⟨rfl, Nq149, K149, -, F_start_b148, F_end_b148⟩ := hQ149
            have N149 := Fr.app N9 Nq149
            refine own_go (fun zt zk => st149.trans zk) ?_
            replace Kp := Kp.trans K149 (allS (Or.inr sz_b148) all0)
            replace V_b1 := V_b1.keep K149 (ninS ne_b1_b148 nin0)
            replace Ea_b1 := Ea_b1.keep K149
            replace Ex_b148 := Ex_b148.keep K149
            show own_Go p e below s _ _ _ (T149.setTop (mkF m 60 #[iv p1, iv p2, iv p3, iv p4, iv p5, iv p6, rv b1, iv (1 : Int32), iv (3 : Int32), .unset, .unset, .unset] [(.ref b148)]))
            refine own_go (fun zt zk => (XS.astore X149.here hx rfl (hb hby at_60) rfl rfl (l' := #[iv p1, iv p2, iv p3, iv p4, iv p5, iv p6, rv b1, iv (1 : Int32), iv (3 : Int32), rv b148, .unset, .unset]) rfl (XS.aload X149.here hx rfl (hb hby at_62) rfl rfl (XS.aload X149.here hx rfl (hb hby at_64) rfl rfl zk)))) ?_
            show own_Go p e below s _ _ _ (T149.setTop (mkF m 66 #[iv p1, iv p2, iv p3, iv p4, iv p5, iv p6, rv b1, iv (1 : Int32), iv (3 : Int32), rv b148, .unset, .unset] [(.ref b1), (.ref b148)]))
            obtain ⟨cq150, kq150, qa150, qb150, qc150⟩ := isOf hZ rfl Ex_b148
            obtain ⟨_, _, ⟨T150, L150, k150, n150⟩, -, X150, ⟨Lc150, hQ150, l150, y150, z150⟩, st150⟩ := X149.virtualBack hx (y := (⟨"com/example/tranche/tranche/model/Span", "bytesIn", "([B)[B"⟩ : MethodName)) (z := (⟨"com/example/tranche/tranche/model/Span", "bytesIn", "([B)[B"⟩ : MethodName)) hown (mvT hZ (hw _ (List.mem_of_getElem? (i := 20) rfl))) (mvT hZ (hw _ (List.mem_of_getElem? (i := 21) rfl))) (notFace_of_selects (args := #[]) (mvT hZ (hw _ (List.mem_of_getElem? (i := 23) rfl)))) (mvT hZ (hw _ (List.mem_of_getElem? (i := 23) rfl))) (mvT hZ (hw _ (List.mem_of_getElem? (i := 22) rfl))) (by decide) (backOf (W := 0) (own_rbi13 l Z a0 hw [] b148 b1 k1 (.int (p1.toInt8.toInt32)) (.int (p2.toInt8.toInt32)) (.int (p3.toInt8.toInt32)) (.int (p4.toInt8.toInt32)) T149.heap n0 (Nat.le_trans Z0 Kp.1) V_b1 Ea_b1 F_start_b148 F_end_b148) hZ (hw _ (List.mem_of_getElem? (i := 24) rfl)) (hw _ (List.mem_of_getElem? (i := 4) rfl)) (by decide) (by decide)) qa150 qc150 (g := (mkF m 66 #[iv p1, iv p2, iv p3, iv p4, iv p5, iv p6, rv b1, iv (1 : Int32), iv (3 : Int32), rv b148, .unset, .unset] [(.ref b1), (.ref b148)])) rfl (by rw [hml]; rfl) (Steps.refl _) (argsL := [(.ref b1)]) (rest := []) (lenOf own_pd___B__B rfl) rfl (by show 2 * 0 + _ ≤ _; exact Nat.le_of_eq rfl) (hb hby at_66) (fun _ _ => ⟨rfl, rfl, (by decide : 2 + 1 ≤ _), (by decide : 6 + 2 ≤ _)⟩)
            dsimp only [Pt.U, Pt.locs, Pt.cells, Pt.slots] at X150 l150 y150 z150 st150 hQ150
            subst l150 y150 z150
            obtain ⟨r150, kr150, rfl, Nq150, K150, sr150, Ea_r150, V_r150⟩ := hQ150
            have sz_r150 := Nat.le_trans Kp.1 sr150
            have g_r150 := Nat.le_trans Z0 sz_r150
            have ne_b1_r150 : b1 ≠ r150 := Nat.ne_of_lt (Nat.lt_of_lt_of_le V_b1.lt sr150)
            have ne_b148_r150 : b148 ≠ r150 := Nat.ne_of_lt (Nat.lt_of_lt_of_le Ex_b148.lt sr150)
            have N150 := Fr.app N149 Nq150
            refine own_go (fun zt zk => st150.trans zk) ?_
            replace Kp := Kp.trans K150 all0
            replace V_b1 := V_b1.keep K150 nin0
            replace Ea_b1 := Ea_b1.keep K150
            replace Ex_b148 := Ex_b148.keep K150
            replace F_start_b148 := F_start_b148.keep K150 nin0
            replace F_end_b148 := F_end_b148.keep K150 nin0
            show own_Go p e below s _ _ _ (T150.setTop (mkF m 69 #[iv p1, iv p2, iv p3, iv p4, iv p5, iv p6, rv b1, iv (1 : Int32), iv (3 : Int32), rv b148, .unset, .unset] [(.ref r150)]))
            refine own_go (fun zt zk => (XS.astore X150.here hx rfl (hb hby at_69) rfl rfl (l' := #[iv p1, iv p2, iv p3, iv p4, iv p5, iv p6, rv b1, iv (1 : Int32), iv (3 : Int32), rv b148, rv r150, .unset]) rfl (XS.aload X150.here hx rfl (hb hby at_71) rfl rfl (XS.ifnonnullYes X150.here hx rfl (pc0 := 73) (pc' := 78) rfl (hb hby at_73) rfl (by decide) (by decide) (XS.aload X150.here hx rfl (hb hby at_78) rfl rfl zk))))) ?_
            show own_Go p e below s _ _ _ (T150.setTop (mkF m 80 #[iv p1, iv p2, iv p3, iv p4, iv p5, iv p6, rv b1, iv (1 : Int32), iv (3 : Int32), rv b148, rv r150, .unset] [(.ref r150)]))
            obtain ⟨cl151, Ar151, -, Sz151, Nz151, -, -⟩ := id V_r150
            refine own_go (X150.arraylength hx (by exact Ar151.1) (State.isArrayOf_alike hZ.alike Ar151.2.1) (g := (mkF m 80 #[iv p1, iv p2, iv p3, iv p4, iv p5, iv p6, rv b1, iv (1 : Int32), iv (3 : Int32), rv b148, rv r150, .unset] [(.ref r150)])) rfl rfl (hb hby at_80)) ?_
            rw [len_of Sz151 Nz151]
            show own_Go p e below s _ _ _ (T150.setTop (mkF m 81 #[iv p1, iv p2, iv p3, iv p4, iv p5, iv p6, rv b1, iv (1 : Int32), iv (3 : Int32), rv b148, rv r150, .unset] [(.int (2 : Int32))]))
            refine own_go (fun zt zk => (XS.iload X150.here hx rfl (hb hby at_81) rfl (XS.iload X150.here hx rfl (hb hby at_83) rfl (XS.isub X150.here hx rfl (hb hby at_85) rfl (XS.icmpYes X150.here hx rfl (pc0 := 86) (pc' := 91) rfl (hb hby at_86) rfl (teq (rfl : (2 : Int32) = (2 : Int32))).1 (by decide) (by decide) (XS.iconst X150.here hx rfl (hb hby at_91) (XS.istore X150.here hx rfl (hb hby at_92) rfl (l' := #[iv p1, iv p2, iv p3, iv p4, iv p5, iv p6, rv b1, iv (1 : Int32), iv (3 : Int32), rv b148, rv r150, iv (1 : Int32)]) rfl (XS.aload X150.here hx rfl (hb hby at_94) rfl rfl zk)))))))) ?_
            show own_Go p e below s _ _ _ (T150.setTop (mkF m 96 #[iv p1, iv p2, iv p3, iv p4, iv p5, iv p6, rv b1, iv (1 : Int32), iv (3 : Int32), rv b148, rv r150, iv (1 : Int32)] [(.ref r150)]))
            obtain ⟨cl152, Ar152, -, Sz152, Nz152, -, -⟩ := id V_r150
            refine own_go (X150.arraylength hx (by exact Ar152.1) (State.isArrayOf_alike hZ.alike Ar152.2.1) (g := (mkF m 96 #[iv p1, iv p2, iv p3, iv p4, iv p5, iv p6, rv b1, iv (1 : Int32), iv (3 : Int32), rv b148, rv r150, iv (1 : Int32)] [(.ref r150)])) rfl rfl (hb hby at_96)) ?_
            rw [len_of Sz152 Nz152]
            show own_Go p e below s _ _ _ (T150.setTop (mkF m 97 #[iv p1, iv p2, iv p3, iv p4, iv p5, iv p6, rv b1, iv (1 : Int32), iv (3 : Int32), rv b148, rv r150, iv (1 : Int32)] [(.int (2 : Int32))]))
            refine own_go (fun zt zk => (XS.ifNo X150.here hx rfl (hb hby at_97) rfl ((if0 _ _).trans (tlt ((by decide) : (0 : Int32) < (2 : Int32))).2.2.2) (XS.iload X150.here hx rfl (hb hby at_100) rfl (XS.ifNo X150.here hx rfl (hb hby at_102) rfl ((if0 _ _).trans (feq ((by decide) : ¬ ((1 : Int32) = (0 : Int32)))).1) (XS.aload X150.here hx rfl (hb hby at_105) rfl rfl (XS.iconst X150.here hx rfl (hb hby at_107) zk)))))) ?_
            show own_Go p e below s _ _ _ (T150.setTop (mkF m 108 #[iv p1, iv p2, iv p3, iv p4, iv p5, iv p6, rv b1, iv (1 : Int32), iv (3 : Int32), rv b148, rv r150, iv (1 : Int32)] [(.int (0 : Int32)), (.ref r150)]))
            obtain ⟨cl153, Ar153, q153, Sz153, Nz153, Ha153, Ga153⟩ := id V_r150
            have hin153 : ¬ ((0 : Int32) < 0 ∨ cl153.slots.size ≤ ((0 : Int32)).toNatClampNeg) := inb_of Sz153 ⟨by decide, by decide⟩
            have hat153 : cl153.slots[((0 : Int32)).toNatClampNeg]? = some (.int (p2.toInt8.toInt32)) := Has.at Ha153 hin153 rfl
            refine own_go (X150.baloadBytes hx (j := (0 : Int32)) (v := (.int (p2.toInt8.toInt32))) (by exact Ar153.1) (State.isArrayOf_alike hZ.alike Ar153.2.1) Ar153.2.2 hin153 hat153 (g := (mkF m 108 #[iv p1, iv p2, iv p3, iv p4, iv p5, iv p6, rv b1, iv (1 : Int32), iv (3 : Int32), rv b148, rv r150, iv (1 : Int32)] [(.int (0 : Int32)), (.ref r150)])) rfl rfl (hb hby at_108)) ?_
            show own_Go p e below s _ _ _ (T150.setTop (mkF m 109 #[iv p1, iv p2, iv p3, iv p4, iv p5, iv p6, rv b1, iv (1 : Int32), iv (3 : Int32), rv b148, rv r150, iv (1 : Int32)] [(.int (p2.toInt8.toInt32))]))
            refine own_go (fun zt zk => (XS.iload X150.here hx rfl (hb hby at_109) rfl (XS.iloadN X150.here hx rfl (hb hby at_111) rfl (XS.iloadN X150.here hx rfl (hb hby at_112) rfl (XS.iloadN X150.here hx rfl (hb hby at_113) rfl (XS.iloadN X150.here hx rfl (hb hby at_114) rfl zk)))))) ?_
            show own_Go p e below s _ _ _ (T150.setTop (mkF m 115 #[iv p1, iv p2, iv p3, iv p4, iv p5, iv p6, rv b1, iv (1 : Int32), iv (3 : Int32), rv b148, rv r150, iv (1 : Int32)] [(.int p4), (.int p3), (.int p2), (.int p1), (.int (1 : Int32)), (.int (p2.toInt8.toInt32))]))
            obtain ⟨_, _, ⟨T154, L154, k154, n154⟩, -, X154, ⟨Lc154, hQ154, l154, y154, z154⟩, st154⟩ := Jvm.LawKit.callS X150 hx (y := (⟨"com/example/tranche/tranche/model/SpanBytesInPinLaw", "at", "(IIIII)B"⟩ : MethodName)) hown (mvT hZ (hw _ (List.mem_of_getElem? (i := 43) rfl))) (mvT hZ (hw _ (List.mem_of_getElem? (i := 44) rfl))) (mvT hZ (hw _ (List.mem_of_getElem? (i := 45) rfl))) (mvT hZ (hw _ (List.mem_of_getElem? (i := 46) rfl))) (by decide) (backOf (W := 1) (own_rat1 l Z a0 hw [] p1 p2 p3 p4  T150.heap n0 (Nat.le_trans Z0 Kp.1) ) hZ (hw _ (List.mem_of_getElem? (i := 46) rfl)) (hw _ (List.mem_of_getElem? (i := 45) rfl)) (by decide) (by decide)) (g := (mkF m 115 #[iv p1, iv p2, iv p3, iv p4, iv p5, iv p6, rv b1, iv (1 : Int32), iv (3 : Int32), rv b148, rv r150, iv (1 : Int32)] [(.int p4), (.int p3), (.int p2), (.int p1), (.int (1 : Int32)), (.int (p2.toInt8.toInt32))])) rfl (by rw [hml]; rfl) (argsL := [(.int (1 : Int32)), (.int p1), (.int p2), (.int p3), (.int p4)]) (rest := [(.int (p2.toInt8.toInt32))]) (lenOf own_pd__IIIII_B rfl) rfl (by show 2 * 0 + _ ≤ _; exact Nat.le_of_eq rfl) (hb hby at_115) (fun _ _ => ⟨rfl, rfl, (by decide : 3 + 0 ≤ _), (by decide : 8 + 0 ≤ _)⟩)
            dsimp only [Pt.U, Pt.locs, Pt.cells, Pt.slots] at X154 l154 y154 z154 st154 hQ154
            subst l154 y154 z154
            obtain ⟨rfl, Nq154, e154⟩ := hQ154
            have N154 := Fr.app N150 Nq154
            refine own_go st154 ?_
            show own_Go p e below s _ _ _ (T154.setTop (mkF m 118 #[iv p1, iv p2, iv p3, iv p4, iv p5, iv p6, rv b1, iv (1 : Int32), iv (3 : Int32), rv b148, rv r150, iv (1 : Int32)] [(.int (p2.toInt8.toInt32)), (.int (p2.toInt8.toInt32))]))
            refine own_go (fun zt zk => (XS.icmpNo X154.here hx rfl (hb hby at_118) rfl (teq (rfl : (p2.toInt8.toInt32) = (p2.toInt8.toInt32))).2 (XS.iconst X154.here hx rfl (hb hby at_121) (XS.goto X154.here hx rfl (pc0 := 122) (pc' := 126) rfl (hb hby at_122) (by decide) (by decide) (XS.istore X154.here hx rfl (hb hby at_126) rfl (l' := #[iv p1, iv p2, iv p3, iv p4, iv p5, iv p6, rv b1, iv (1 : Int32), iv (3 : Int32), rv b148, rv r150, iv (1 : Int32)]) rfl (XS.aload X154.here hx rfl (hb hby at_128) rfl rfl zk)))))) ?_
            show own_Go p e below s _ _ _ (T154.setTop (mkF m 130 #[iv p1, iv p2, iv p3, iv p4, iv p5, iv p6, rv b1, iv (1 : Int32), iv (3 : Int32), rv b148, rv r150, iv (1 : Int32)] [(.ref r150)]))
            obtain ⟨cl155, Ar155, -, Sz155, Nz155, -, -⟩ := id V_r150
            refine own_go (X154.arraylength hx (by rw [e154]; exact Ar155.1) (State.isArrayOf_alike hZ.alike Ar155.2.1) (g := (mkF m 130 #[iv p1, iv p2, iv p3, iv p4, iv p5, iv p6, rv b1, iv (1 : Int32), iv (3 : Int32), rv b148, rv r150, iv (1 : Int32)] [(.ref r150)])) rfl rfl (hb hby at_130)) ?_
            rw [len_of Sz155 Nz155]
            show own_Go p e below s _ _ _ (T154.setTop (mkF m 131 #[iv p1, iv p2, iv p3, iv p4, iv p5, iv p6, rv b1, iv (1 : Int32), iv (3 : Int32), rv b148, rv r150, iv (1 : Int32)] [(.int (2 : Int32))]))
            refine own_go (fun zt zk => (XS.iconst X154.here hx rfl (hb hby at_131) (XS.icmpNo X154.here hx rfl (hb hby at_132) rfl (tlt ((by decide) : (1 : Int32) < (2 : Int32))).2.2.2 (XS.iload X154.here hx rfl (hb hby at_135) rfl (XS.ifNo X154.here hx rfl (hb hby at_137) rfl ((if0 _ _).trans (feq ((by decide) : ¬ ((1 : Int32) = (0 : Int32)))).1) (XS.aload X154.here hx rfl (hb hby at_140) rfl rfl (XS.iconst X154.here hx rfl (hb hby at_142) zk))))))) ?_
            show own_Go p e below s _ _ _ (T154.setTop (mkF m 143 #[iv p1, iv p2, iv p3, iv p4, iv p5, iv p6, rv b1, iv (1 : Int32), iv (3 : Int32), rv b148, rv r150, iv (1 : Int32)] [(.int (1 : Int32)), (.ref r150)]))
            obtain ⟨cl156, Ar156, q156, Sz156, Nz156, Ha156, Ga156⟩ := id V_r150
            have hin156 : ¬ ((1 : Int32) < 0 ∨ cl156.slots.size ≤ ((1 : Int32)).toNatClampNeg) := inb_of Sz156 ⟨by decide, by decide⟩
            have hat156 : cl156.slots[((1 : Int32)).toNatClampNeg]? = some (.int (p3.toInt8.toInt32)) := Has.at Ha156 hin156 rfl
            refine own_go (X154.baloadBytes hx (j := (1 : Int32)) (v := (.int (p3.toInt8.toInt32))) (by rw [e154]; exact Ar156.1) (State.isArrayOf_alike hZ.alike Ar156.2.1) Ar156.2.2 hin156 hat156 (g := (mkF m 143 #[iv p1, iv p2, iv p3, iv p4, iv p5, iv p6, rv b1, iv (1 : Int32), iv (3 : Int32), rv b148, rv r150, iv (1 : Int32)] [(.int (1 : Int32)), (.ref r150)])) rfl rfl (hb hby at_143)) ?_
            show own_Go p e below s _ _ _ (T154.setTop (mkF m 144 #[iv p1, iv p2, iv p3, iv p4, iv p5, iv p6, rv b1, iv (1 : Int32), iv (3 : Int32), rv b148, rv r150, iv (1 : Int32)] [(.int (p3.toInt8.toInt32))]))
            refine own_go (fun zt zk => (XS.iload X154.here hx rfl (hb hby at_144) rfl (XS.iconst X154.here hx rfl (hb hby at_146) (XS.iadd X154.here hx rfl (hb hby at_147) rfl (XS.iloadN X154.here hx rfl (hb hby at_148) rfl (XS.iloadN X154.here hx rfl (hb hby at_149) rfl (XS.iloadN X154.here hx rfl (hb hby at_150) rfl (XS.iloadN X154.here hx rfl (hb hby at_151) rfl zk)))))))) ?_
            show own_Go p e below s _ _ _ (T154.setTop (mkF m 152 #[iv p1, iv p2, iv p3, iv p4, iv p5, iv p6, rv b1, iv (1 : Int32), iv (3 : Int32), rv b148, rv r150, iv (1 : Int32)] [(.int p4), (.int p3), (.int p2), (.int p1), (.int (2 : Int32)), (.int (p3.toInt8.toInt32))]))
            obtain ⟨_, _, ⟨T157, L157, k157, n157⟩, -, X157, ⟨Lc157, hQ157, l157, y157, z157⟩, st157⟩ := Jvm.LawKit.callS X154 hx (y := (⟨"com/example/tranche/tranche/model/SpanBytesInPinLaw", "at", "(IIIII)B"⟩ : MethodName)) hown (mvT hZ (hw _ (List.mem_of_getElem? (i := 43) rfl))) (mvT hZ (hw _ (List.mem_of_getElem? (i := 44) rfl))) (mvT hZ (hw _ (List.mem_of_getElem? (i := 45) rfl))) (mvT hZ (hw _ (List.mem_of_getElem? (i := 46) rfl))) (by decide) (backOf (W := 1) (own_rat2 l Z a0 hw [] p1 p2 p3 p4  T150.heap n0 (Nat.le_trans Z0 Kp.1) ) hZ (hw _ (List.mem_of_getElem? (i := 46) rfl)) (hw _ (List.mem_of_getElem? (i := 45) rfl)) (by decide) (by decide)) (g := (mkF m 152 #[iv p1, iv p2, iv p3, iv p4, iv p5, iv p6, rv b1, iv (1 : Int32), iv (3 : Int32), rv b148, rv r150, iv (1 : Int32)] [(.int p4), (.int p3), (.int p2), (.int p1), (.int (2 : Int32)), (.int (p3.toInt8.toInt32))])) rfl (by rw [hml]; rfl) (argsL := [(.int (2 : Int32)), (.int p1), (.int p2), (.int p3), (.int p4)]) (rest := [(.int (p3.toInt8.toInt32))]) (lenOf own_pd__IIIII_B rfl) rfl (by show 2 * 0 + _ ≤ _; exact Nat.le_of_eq rfl) (hb hby at_152) (fun _ _ => ⟨rfl, e154, (by decide : 3 + 0 ≤ _), (by decide : 8 + 0 ≤ _)⟩)
            dsimp only [Pt.U, Pt.locs, Pt.cells, Pt.slots] at X157 l157 y157 z157 st157 hQ157
            subst l157 y157 z157
            obtain ⟨rfl, Nq157, e157⟩ := hQ157
            have N157 := Fr.app N154 Nq157
            refine own_go st157 ?_
            show own_Go p e below s _ _ _ (T157.setTop (mkF m 155 #[iv p1, iv p2, iv p3, iv p4, iv p5, iv p6, rv b1, iv (1 : Int32), iv (3 : Int32), rv b148, rv r150, iv (1 : Int32)] [(.int (p3.toInt8.toInt32)), (.int (p3.toInt8.toInt32))]))
            refine own_go (fun zt zk => (XS.icmpNo X157.here hx rfl (hb hby at_155) rfl (teq (rfl : (p3.toInt8.toInt32) = (p3.toInt8.toInt32))).2 (XS.iconst X157.here hx rfl (hb hby at_158) (XS.goto X157.here hx rfl (pc0 := 159) (pc' := 163) rfl (hb hby at_159) (by decide) (by decide) (XS.istore X157.here hx rfl (hb hby at_163) rfl (l' := #[iv p1, iv p2, iv p3, iv p4, iv p5, iv p6, rv b1, iv (1 : Int32), iv (3 : Int32), rv b148, rv r150, iv (1 : Int32)]) rfl (XS.aload X157.here hx rfl (hb hby at_165) rfl rfl zk)))))) ?_
            show own_Go p e below s _ _ _ (T157.setTop (mkF m 167 #[iv p1, iv p2, iv p3, iv p4, iv p5, iv p6, rv b1, iv (1 : Int32), iv (3 : Int32), rv b148, rv r150, iv (1 : Int32)] [(.ref r150)]))
            obtain ⟨cl158, Ar158, -, Sz158, Nz158, -, -⟩ := id V_r150
            refine own_go (X157.arraylength hx (by rw [e157]; exact Ar158.1) (State.isArrayOf_alike hZ.alike Ar158.2.1) (g := (mkF m 167 #[iv p1, iv p2, iv p3, iv p4, iv p5, iv p6, rv b1, iv (1 : Int32), iv (3 : Int32), rv b148, rv r150, iv (1 : Int32)] [(.ref r150)])) rfl rfl (hb hby at_167)) ?_
            rw [len_of Sz158 Nz158]
            show own_Go p e below s _ _ _ (T157.setTop (mkF m 168 #[iv p1, iv p2, iv p3, iv p4, iv p5, iv p6, rv b1, iv (1 : Int32), iv (3 : Int32), rv b148, rv r150, iv (1 : Int32)] [(.int (2 : Int32))]))
            refine own_go (fun zt zk => (XS.iconst X157.here hx rfl (hb hby at_168) (XS.icmpYes X157.here hx rfl (pc0 := 169) (pc' := 202) rfl (hb hby at_169) rfl (flt ((own_irr _) : ¬ ((2 : Int32) < (2 : Int32)))).2.2.2 (by decide) (by decide) (XS.aload X157.here hx rfl (hb hby at_202) rfl rfl zk)))) ?_
            show own_Go p e below s _ _ _ (T157.setTop (mkF m 204 #[iv p1, iv p2, iv p3, iv p4, iv p5, iv p6, rv b1, iv (1 : Int32), iv (3 : Int32), rv b148, rv r150, iv (1 : Int32)] [(.ref r150)]))
            obtain ⟨cl159, Ar159, -, Sz159, Nz159, -, -⟩ := id V_r150
            refine own_go (X157.arraylength hx (by rw [e157]; exact Ar159.1) (State.isArrayOf_alike hZ.alike Ar159.2.1) (g := (mkF m 204 #[iv p1, iv p2, iv p3, iv p4, iv p5, iv p6, rv b1, iv (1 : Int32), iv (3 : Int32), rv b148, rv r150, iv (1 : Int32)] [(.ref r150)])) rfl rfl (hb hby at_204)) ?_
            rw [len_of Sz159 Nz159]
            show own_Go p e below s _ _ _ (T157.setTop (mkF m 205 #[iv p1, iv p2, iv p3, iv p4, iv p5, iv p6, rv b1, iv (1 : Int32), iv (3 : Int32), rv b148, rv r150, iv (1 : Int32)] [(.int (2 : Int32))]))
            refine own_go (fun zt zk => (XS.iconst X157.here hx rfl (hb hby at_205) (XS.icmpYes X157.here hx rfl (pc0 := 206) (pc' := 239) rfl (hb hby at_206) rfl (flt ((by decide) : ¬ ((3 : Int32) < (2 : Int32)))).2.2.2 (by decide) (by decide) (XS.iload X157.here hx rfl (hb hby at_239) rfl (XS.ifNo X157.here hx rfl (hb hby at_241) rfl ((if0 _ _).trans (feq ((by decide) : ¬ ((1 : Int32) = (0 : Int32)))).1) (XS.aload X157.here hx rfl (hb hby at_244) rfl rfl (XS.iconst X157.here hx rfl (hb hby at_246) zk))))))) ?_
            show own_Go p e below s _ _ _ (T157.setTop (mkF m 247 #[iv p1, iv p2, iv p3, iv p4, iv p5, iv p6, rv b1, iv (1 : Int32), iv (3 : Int32), rv b148, rv r150, iv (1 : Int32)] [(.int (0 : Int32)), (.ref b1)]))
            obtain ⟨cl160, Ar160, q160, Sz160, Nz160, Ha160, Ga160⟩ := id V_b1
            have hin160 : ¬ ((0 : Int32) < 0 ∨ cl160.slots.size ≤ ((0 : Int32)).toNatClampNeg) := inb_of Sz160 ⟨by decide, by decide⟩
            have hat160 : cl160.slots[((0 : Int32)).toNatClampNeg]? = some (.int (p1.toInt8.toInt32)) := Has.at Ha160 hin160 rfl
            refine own_go (X157.baloadBytes hx (j := (0 : Int32)) (v := (.int (p1.toInt8.toInt32))) (by rw [e157]; exact Ar160.1) (State.isArrayOf_alike hZ.alike Ar160.2.1) Ar160.2.2 hin160 hat160 (g := (mkF m 247 #[iv p1, iv p2, iv p3, iv p4, iv p5, iv p6, rv b1, iv (1 : Int32), iv (3 : Int32), rv b148, rv r150, iv (1 : Int32)] [(.int (0 : Int32)), (.ref b1)])) rfl rfl (hb hby at_247)) ?_
            show own_Go p e below s _ _ _ (T157.setTop (mkF m 248 #[iv p1, iv p2, iv p3, iv p4, iv p5, iv p6, rv b1, iv (1 : Int32), iv (3 : Int32), rv b148, rv r150, iv (1 : Int32)] [(.int (p1.toInt8.toInt32))]))
            refine own_go (fun zt zk => (XS.iloadN X157.here hx rfl (hb hby at_248) rfl (XS.i2b X157.here hx rfl (hb hby at_249) rfl (XS.icmpNo X157.here hx rfl (hb hby at_250) rfl (teq (rfl : (p1.toInt8.toInt32) = (p1.toInt8.toInt32))).2 (XS.aload X157.here hx rfl (hb hby at_253) rfl rfl (XS.iconst X157.here hx rfl (hb hby at_255) zk)))))) ?_
            show own_Go p e below s _ _ _ (T157.setTop (mkF m 256 #[iv p1, iv p2, iv p3, iv p4, iv p5, iv p6, rv b1, iv (1 : Int32), iv (3 : Int32), rv b148, rv r150, iv (1 : Int32)] [(.int (1 : Int32)), (.ref b1)]))
            obtain ⟨cl161, Ar161, q161, Sz161, Nz161, Ha161, Ga161⟩ := id V_b1
            have hin161 : ¬ ((1 : Int32) < 0 ∨ cl161.slots.size ≤ ((1 : Int32)).toNatClampNeg) := inb_of Sz161 ⟨by decide, by decide⟩
            have hat161 : cl161.slots[((1 : Int32)).toNatClampNeg]? = some (.int (p2.toInt8.toInt32)) := Has.at Ha161 hin161 rfl
            refine own_go (X157.baloadBytes hx (j := (1 : Int32)) (v := (.int (p2.toInt8.toInt32))) (by rw [e157]; exact Ar161.1) (State.isArrayOf_alike hZ.alike Ar161.2.1) Ar161.2.2 hin161 hat161 (g := (mkF m 256 #[iv p1, iv p2, iv p3, iv p4, iv p5, iv p6, rv b1, iv (1 : Int32), iv (3 : Int32), rv b148, rv r150, iv (1 : Int32)] [(.int (1 : Int32)), (.ref b1)])) rfl rfl (hb hby at_256)) ?_
            show own_Go p e below s _ _ _ (T157.setTop (mkF m 257 #[iv p1, iv p2, iv p3, iv p4, iv p5, iv p6, rv b1, iv (1 : Int32), iv (3 : Int32), rv b148, rv r150, iv (1 : Int32)] [(.int (p2.toInt8.toInt32))]))
            refine own_go (fun zt zk => (XS.iloadN X157.here hx rfl (hb hby at_257) rfl (XS.i2b X157.here hx rfl (hb hby at_258) rfl (XS.icmpNo X157.here hx rfl (hb hby at_259) rfl (teq (rfl : (p2.toInt8.toInt32) = (p2.toInt8.toInt32))).2 (XS.aload X157.here hx rfl (hb hby at_262) rfl rfl (XS.iconst X157.here hx rfl (hb hby at_264) zk)))))) ?_
            show own_Go p e below s _ _ _ (T157.setTop (mkF m 265 #[iv p1, iv p2, iv p3, iv p4, iv p5, iv p6, rv b1, iv (1 : Int32), iv (3 : Int32), rv b148, rv r150, iv (1 : Int32)] [(.int (2 : Int32)), (.ref b1)]))
            obtain ⟨cl162, Ar162, q162, Sz162, Nz162, Ha162, Ga162⟩ := id V_b1
            have hin162 : ¬ ((2 : Int32) < 0 ∨ cl162.slots.size ≤ ((2 : Int32)).toNatClampNeg) := inb_of Sz162 ⟨by decide, by decide⟩
            have hat162 : cl162.slots[((2 : Int32)).toNatClampNeg]? = some (.int (p3.toInt8.toInt32)) := Has.at Ha162 hin162 rfl
            refine own_go (X157.baloadBytes hx (j := (2 : Int32)) (v := (.int (p3.toInt8.toInt32))) (by rw [e157]; exact Ar162.1) (State.isArrayOf_alike hZ.alike Ar162.2.1) Ar162.2.2 hin162 hat162 (g := (mkF m 265 #[iv p1, iv p2, iv p3, iv p4, iv p5, iv p6, rv b1, iv (1 : Int32), iv (3 : Int32), rv b148, rv r150, iv (1 : Int32)] [(.int (2 : Int32)), (.ref b1)])) rfl rfl (hb hby at_265)) ?_
            show own_Go p e below s _ _ _ (T157.setTop (mkF m 266 #[iv p1, iv p2, iv p3, iv p4, iv p5, iv p6, rv b1, iv (1 : Int32), iv (3 : Int32), rv b148, rv r150, iv (1 : Int32)] [(.int (p3.toInt8.toInt32))]))
            refine own_go (fun zt zk => (XS.iloadN X157.here hx rfl (hb hby at_266) rfl (XS.i2b X157.here hx rfl (hb hby at_267) rfl (XS.icmpNo X157.here hx rfl (hb hby at_268) rfl (teq (rfl : (p3.toInt8.toInt32) = (p3.toInt8.toInt32))).2 (XS.aload X157.here hx rfl (hb hby at_271) rfl rfl (XS.iconst X157.here hx rfl (hb hby at_273) zk)))))) ?_
            show own_Go p e below s _ _ _ (T157.setTop (mkF m 274 #[iv p1, iv p2, iv p3, iv p4, iv p5, iv p6, rv b1, iv (1 : Int32), iv (3 : Int32), rv b148, rv r150, iv (1 : Int32)] [(.int (3 : Int32)), (.ref b1)]))
            obtain ⟨cl163, Ar163, q163, Sz163, Nz163, Ha163, Ga163⟩ := id V_b1
            have hin163 : ¬ ((3 : Int32) < 0 ∨ cl163.slots.size ≤ ((3 : Int32)).toNatClampNeg) := inb_of Sz163 ⟨by decide, by decide⟩
            have hat163 : cl163.slots[((3 : Int32)).toNatClampNeg]? = some (.int (p4.toInt8.toInt32)) := Has.at Ha163 hin163 rfl
            refine own_go (X157.baloadBytes hx (j := (3 : Int32)) (v := (.int (p4.toInt8.toInt32))) (by rw [e157]; exact Ar163.1) (State.isArrayOf_alike hZ.alike Ar163.2.1) Ar163.2.2 hin163 hat163 (g := (mkF m 274 #[iv p1, iv p2, iv p3, iv p4, iv p5, iv p6, rv b1, iv (1 : Int32), iv (3 : Int32), rv b148, rv r150, iv (1 : Int32)] [(.int (3 : Int32)), (.ref b1)])) rfl rfl (hb hby at_274)) ?_
            show own_Go p e below s _ _ _ (T157.setTop (mkF m 275 #[iv p1, iv p2, iv p3, iv p4, iv p5, iv p6, rv b1, iv (1 : Int32), iv (3 : Int32), rv b148, rv r150, iv (1 : Int32)] [(.int (p4.toInt8.toInt32))]))
            refine own_go (fun zt zk => (XS.iloadN X157.here hx rfl (hb hby at_275) rfl (XS.i2b X157.here hx rfl (hb hby at_276) rfl (XS.icmpNo X157.here hx rfl (hb hby at_277) rfl (teq (rfl : (p4.toInt8.toInt32) = (p4.toInt8.toInt32))).2 (XS.iconst X157.here hx rfl (hb hby at_280) (XS.goto X157.here hx rfl (pc0 := 281) (pc' := 285) rfl (hb hby at_281) (by decide) (by decide) (XS.istore X157.here hx rfl (hb hby at_285) rfl (l' := #[iv p1, iv p2, iv p3, iv p4, iv p5, iv p6, rv b1, iv (1 : Int32), iv (3 : Int32), rv b148, rv r150, iv (1 : Int32)]) rfl (XS.aload X157.here hx rfl (hb hby at_287) rfl rfl zk)))))))) ?_
            show own_Go p e below s _ _ _ (T157.setTop (mkF m 289 #[iv p1, iv p2, iv p3, iv p4, iv p5, iv p6, rv b1, iv (1 : Int32), iv (3 : Int32), rv b148, rv r150, iv (1 : Int32)] [(.ref r150)]))
            obtain ⟨cl164, Ar164, -, Sz164, Nz164, -, -⟩ := id V_r150
            refine own_go (X157.arraylength hx (by rw [e157]; exact Ar164.1) (State.isArrayOf_alike hZ.alike Ar164.2.1) (g := (mkF m 289 #[iv p1, iv p2, iv p3, iv p4, iv p5, iv p6, rv b1, iv (1 : Int32), iv (3 : Int32), rv b148, rv r150, iv (1 : Int32)] [(.ref r150)])) rfl rfl (hb hby at_289)) ?_
            rw [len_of Sz164 Nz164]
            show own_Go p e below s _ _ _ (T157.setTop (mkF m 290 #[iv p1, iv p2, iv p3, iv p4, iv p5, iv p6, rv b1, iv (1 : Int32), iv (3 : Int32), rv b148, rv r150, iv (1 : Int32)] [(.int (2 : Int32))]))
            refine own_go (fun zt zk => (XS.ifNo X157.here hx rfl (hb hby at_290) rfl ((if0 _ _).trans (tlt ((by decide) : (0 : Int32) < (2 : Int32))).2.2.2) (XS.aload X157.here hx rfl (hb hby at_293) rfl rfl (XS.iconst X157.here hx rfl (hb hby at_295) (XS.aload X157.here hx rfl (hb hby at_296) rfl rfl (XS.iconst X157.here hx rfl (hb hby at_298) zk)))))) ?_
            show own_Go p e below s _ _ _ (T157.setTop (mkF m 299 #[iv p1, iv p2, iv p3, iv p4, iv p5, iv p6, rv b1, iv (1 : Int32), iv (3 : Int32), rv b148, rv r150, iv (1 : Int32)] [(.int (0 : Int32)), (.ref r150), (.int (0 : Int32)), (.ref r150)]))
            obtain ⟨cl165, Ar165, q165, Sz165, Nz165, Ha165, Ga165⟩ := id V_r150
            have hin165 : ¬ ((0 : Int32) < 0 ∨ cl165.slots.size ≤ ((0 : Int32)).toNatClampNeg) := inb_of Sz165 ⟨by decide, by decide⟩
            have hat165 : cl165.slots[((0 : Int32)).toNatClampNeg]? = some (.int (p2.toInt8.toInt32)) := Has.at Ha165 hin165 rfl
            refine own_go (X157.baloadBytes hx (j := (0 : Int32)) (v := (.int (p2.toInt8.toInt32))) (by rw [e157]; exact Ar165.1) (State.isArrayOf_alike hZ.alike Ar165.2.1) Ar165.2.2 hin165 hat165 (g := (mkF m 299 #[iv p1, iv p2, iv p3, iv p4, iv p5, iv p6, rv b1, iv (1 : Int32), iv (3 : Int32), rv b148, rv r150, iv (1 : Int32)] [(.int (0 : Int32)), (.ref r150), (.int (0 : Int32)), (.ref r150)])) rfl rfl (hb hby at_299)) ?_
            show own_Go p e below s _ _ _ (T157.setTop (mkF m 300 #[iv p1, iv p2, iv p3, iv p4, iv p5, iv p6, rv b1, iv (1 : Int32), iv (3 : Int32), rv b148, rv r150, iv (1 : Int32)] [(.int (p2.toInt8.toInt32)), (.int (0 : Int32)), (.ref r150)]))
            refine own_go (fun zt zk => (XS.iconst X157.here hx rfl (hb hby at_300) (XS.ixor X157.here hx rfl (hb hby at_301) rfl (XS.i2b X157.here hx rfl (hb hby at_302) rfl zk)))) ?_
            show own_Go p e below s _ _ _ (T157.setTop (mkF m 303 #[iv p1, iv p2, iv p3, iv p4, iv p5, iv p6, rv b1, iv (1 : Int32), iv (3 : Int32), rv b148, rv r150, iv (1 : Int32)] [(.int (((p2.toInt8.toInt32) ^^^ (1 : Int32)).toInt8.toInt32)), (.int (0 : Int32)), (.ref r150)]))
            obtain ⟨cl166, Ar166, q166, Sz166, Nz166, Ha166, Ga166⟩ := id V_r150
            have hin166 : ¬ ((0 : Int32) < 0 ∨ cl166.slots.size ≤ ((0 : Int32)).toNatClampNeg) := inb_of Sz166 ⟨by decide, by decide⟩
            obtain ⟨T167, h167, X167, e167, W167, st167⟩ := stB X157 hx hZ e157 Ar166 (j := (0 : Int32)) hin166 (g := (mkF m 303 #[iv p1, iv p2, iv p3, iv p4, iv p5, iv p6, rv b1, iv (1 : Int32), iv (3 : Int32), rv b148, rv r150, iv (1 : Int32)] [(.int (((p2.toInt8.toInt32) ^^^ (1 : Int32)).toInt8.toInt32)), (.int (0 : Int32)), (.ref r150)])) rfl rfl (hb hby at_303)
            refine own_go st167 ?_
            rw [show nar .byte (((p2.toInt8.toInt32) ^^^ (1 : Int32)).toInt8.toInt32) = (((p2.toInt8.toInt32) ^^^ (1 : Int32)).toInt8.toInt32) from own_b8 _] at W167
            have V167 := Arv.set Ar166 q166 Sz166 Nz166 Ha166 Ga166 (fits_nar_byte _) W167 0 rfl (Nat.le_of_ble_eq_true rfl)
            have N167 := Fr.snoc X167 N157 g_r150
            replace Kp := Kp.wr W167 (Or.inr sz_r150)
            replace V_b1 := V_b1.other W167 ne_b1_r150
            replace Ea_b1 := Ea_b1.wr W167
            replace Ex_b148 := Ex_b148.wr W167
            replace F_start_b148 := F_start_b148.other W167 (Or.inl ne_b148_r150)
            replace F_end_b148 := F_end_b148.other W167 (Or.inl ne_b148_r150)
            replace Ea_r150 := Ea_r150.wr W167
            replace V_r150 : Arv Z h167 r150 kr150 .byte (2 : Int32) [(.int (((p2.toInt8.toInt32) ^^^ (1 : Int32)).toInt8.toInt32)), (.int (p3.toInt8.toInt32))] (.int (0 : Int32)) := V167
            show own_Go p e below s _ _ _ (T167.setTop (mkF m 304 #[iv p1, iv p2, iv p3, iv p4, iv p5, iv p6, rv b1, iv (1 : Int32), iv (3 : Int32), rv b148, rv r150, iv (1 : Int32)] []))
            refine own_go (fun zt zk => (XS.iload X167.here hx rfl (hb hby at_304) rfl (XS.ifNo X167.here hx rfl (hb hby at_306) rfl ((if0 _ _).trans (feq ((by decide) : ¬ ((1 : Int32) = (0 : Int32)))).1) (XS.aload X167.here hx rfl (hb hby at_309) rfl rfl (XS.iload X167.here hx rfl (hb hby at_311) rfl zk))))) ?_
            show own_Go p e below s _ _ _ (T167.setTop (mkF m 313 #[iv p1, iv p2, iv p3, iv p4, iv p5, iv p6, rv b1, iv (1 : Int32), iv (3 : Int32), rv b148, rv r150, iv (1 : Int32)] [(.int (1 : Int32)), (.ref b1)]))
            obtain ⟨cl168, Ar168, q168, Sz168, Nz168, Ha168, Ga168⟩ := id V_b1
            have hin168 : ¬ ((1 : Int32) < 0 ∨ cl168.slots.size ≤ ((1 : Int32)).toNatClampNeg) := inb_of Sz168 ⟨by decide, by decide⟩
            have hat168 : cl168.slots[((1 : Int32)).toNatClampNeg]? = some (.int (p2.toInt8.toInt32)) := Has.at Ha168 hin168 rfl
            refine own_go (X167.baloadBytes hx (j := (1 : Int32)) (v := (.int (p2.toInt8.toInt32))) (by rw [e167]; exact Ar168.1) (State.isArrayOf_alike hZ.alike Ar168.2.1) Ar168.2.2 hin168 hat168 (g := (mkF m 313 #[iv p1, iv p2, iv p3, iv p4, iv p5, iv p6, rv b1, iv (1 : Int32), iv (3 : Int32), rv b148, rv r150, iv (1 : Int32)] [(.int (1 : Int32)), (.ref b1)])) rfl rfl (hb hby at_313)) ?_
            show own_Go p e below s _ _ _ (T167.setTop (mkF m 314 #[iv p1, iv p2, iv p3, iv p4, iv p5, iv p6, rv b1, iv (1 : Int32), iv (3 : Int32), rv b148, rv r150, iv (1 : Int32)] [(.int (p2.toInt8.toInt32))]))
            refine own_go (fun zt zk => (XS.iload X167.here hx rfl (hb hby at_314) rfl (XS.iloadN X167.here hx rfl (hb hby at_316) rfl (XS.iloadN X167.here hx rfl (hb hby at_317) rfl (XS.iloadN X167.here hx rfl (hb hby at_318) rfl (XS.iloadN X167.here hx rfl (hb hby at_319) rfl zk)))))) ?_
            show own_Go p e below s _ _ _ (T167.setTop (mkF m 320 #[iv p1, iv p2, iv p3, iv p4, iv p5, iv p6, rv b1, iv (1 : Int32), iv (3 : Int32), rv b148, rv r150, iv (1 : Int32)] [(.int p4), (.int p3), (.int p2), (.int p1), (.int (1 : Int32)), (.int (p2.toInt8.toInt32))]))
            obtain ⟨_, _, ⟨T169, L169, k169, n169⟩, -, X169, ⟨Lc169, hQ169, l169, y169, z169⟩, st169⟩ := Jvm.LawKit.callS X167 hx (y := (⟨"com/example/tranche/tranche/model/SpanBytesInPinLaw", "at", "(IIIII)B"⟩ : MethodName)) hown (mvT hZ (hw _ (List.mem_of_getElem? (i := 43) rfl))) (mvT hZ (hw _ (List.mem_of_getElem? (i := 44) rfl))) (mvT hZ (hw _ (List.mem_of_getElem? (i := 45) rfl))) (mvT hZ (hw _ (List.mem_of_getElem? (i := 46) rfl))) (by decide) (backOf (W := 1) (own_rat1 l Z a0 hw [] p1 p2 p3 p4  h167 n0 (Nat.le_trans Z0 Kp.1) ) hZ (hw _ (List.mem_of_getElem? (i := 46) rfl)) (hw _ (List.mem_of_getElem? (i := 45) rfl)) (by decide) (by decide)) (g := (mkF m 320 #[iv p1, iv p2, iv p3, iv p4, iv p5, iv p6, rv b1, iv (1 : Int32), iv (3 : Int32), rv b148, rv r150, iv (1 : Int32)] [(.int p4), (.int p3), (.int p2), (.int p1), (.int (1 : Int32)), (.int (p2.toInt8.toInt32))])) rfl (by rw [hml]; rfl) (argsL := [(.int (1 : Int32)), (.int p1), (.int p2), (.int p3), (.int p4)]) (rest := [(.int (p2.toInt8.toInt32))]) (lenOf own_pd__IIIII_B rfl) rfl (by show 2 * 0 + _ ≤ _; exact Nat.le_of_eq rfl) (hb hby at_320) (fun _ _ => ⟨rfl, e167, (by decide : 3 + 0 ≤ _), (by decide : 8 + 0 ≤ _)⟩)
            dsimp only [Pt.U, Pt.locs, Pt.cells, Pt.slots] at X169 l169 y169 z169 st169 hQ169
            subst l169 y169 z169
            obtain ⟨rfl, Nq169, e169⟩ := hQ169
            have N169 := Fr.app N167 Nq169
            refine own_go st169 ?_
            show own_Go p e below s _ _ _ (T169.setTop (mkF m 323 #[iv p1, iv p2, iv p3, iv p4, iv p5, iv p6, rv b1, iv (1 : Int32), iv (3 : Int32), rv b148, rv r150, iv (1 : Int32)] [(.int (p2.toInt8.toInt32)), (.int (p2.toInt8.toInt32))]))
            refine own_go (fun zt zk => (XS.icmpNo X169.here hx rfl (hb hby at_323) rfl (teq (rfl : (p2.toInt8.toInt32) = (p2.toInt8.toInt32))).2 (XS.iconst X169.here hx rfl (hb hby at_326) (XS.goto X169.here hx rfl (pc0 := 327) (pc' := 331) rfl (hb hby at_327) (by decide) (by decide) (XS.istore X169.here hx rfl (hb hby at_331) rfl (l' := #[iv p1, iv p2, iv p3, iv p4, iv p5, iv p6, rv b1, iv (1 : Int32), iv (3 : Int32), rv b148, rv r150, iv (1 : Int32)]) rfl (XS.iload X169.here hx rfl (hb hby at_333) rfl zk)))))) ?_
            show own_Go p e below s _ _ _ (T169.setTop (mkF m 335 #[iv p1, iv p2, iv p3, iv p4, iv p5, iv p6, rv b1, iv (1 : Int32), iv (3 : Int32), rv b148, rv r150, iv (1 : Int32)] [(.int (1 : Int32))]))
            exact own_fin X169 Bd.notSynchronized (fun h => by rw [Bd.returns] at h; cases h) (fun fs hr => retN X169 hx (t := .boolean) Bd.returns (by simp) (hb hby at_335) hr) (by rw [e169]; exact ⟨rfl, N169⟩) (by decide) (by decide)
          · have hk3_en : en = (3 : Int32) := Int32.toInt_inj.mp (by have a := own_mod (D := 4) rfl (by decide) hv_en; have b0 := own_ne 0 rfl hk0_en; have b1 := own_ne 1 rfl hk1_en; have b2 := own_ne 2 rfl hk2_en; show en.toInt = 3; omega)
            subst hk3_en
            show own_Go p e below s _ _ _ (T9.setTop (mkF m 46 #[iv p1, iv p2, iv p3, iv p4, iv p5, iv p6, rv b1, iv (1 : Int32), .unset, .unset, .unset, .unset] [(.int (3 : Int32)), (.int (1 : Int32))]))
            refine own_go (fun zt zk => (XS.iadd X9.here hx rfl (hb hby at_46) rfl (XS.istore X9.here hx rfl (hb hby at_47) rfl (l' := #[iv p1, iv p2, iv p3, iv p4, iv p5, iv p6, rv b1, iv (1 : Int32), iv (4 : Int32), .unset, .unset, .unset]) rfl zk))) ?_
            show own_Go p e below s _ _ _ (T9.setTop (mkF m 49 #[iv p1, iv p2, iv p3, iv p4, iv p5, iv p6, rv b1, iv (1 : Int32), iv (4 : Int32), .unset, .unset, .unset] []))
            obtain ⟨T170, h170, X170, e170, E170, A170, D170, -, st170⟩ := newO X9 hx hZ hown (hw _ (List.mem_of_getElem? (i := 2) rfl)) (hw _ (List.mem_of_getElem? (i := 3) rfl)) (hw _ (List.mem_of_getElem? (i := 4) rfl)) e9 (g := (mkF m 49 #[iv p1, iv p2, iv p3, iv p4, iv p5, iv p6, rv b1, iv (1 : Int32), iv (4 : Int32), .unset, .unset, .unset] [])) rfl (hb hby at_49) (by decide) (by decide)
            obtain ⟨b170, g170⟩ : ∃ z, z = h9.size := ⟨_, rfl⟩
            rw [← g170] at A170 D170 st170
            refine own_go st170 ?_
            have ne_b1_b170 : b1 ≠ b170 := Nat.ne_of_lt (Nat.lt_of_lt_of_le V_b1.lt (Nat.le_of_eq g170.symm))
            have sz_b170 : h0.size ≤ b170 := Nat.le_trans Kp.1 (Nat.le_of_eq g170.symm)
            have g_b170 : n0 ≤ b170 := Nat.le_trans Z0 sz_b170
            replace Kp := Kp.ext E170
            replace V_b1 := V_b1.ext E170
            replace Ea_b1 := Ea_b1.ext E170
            have Ex_b170 := A170
            have F_start_b170 : Fld Z h170 b170 "com/example/tranche/tranche/model/Span" "start" "I" (.int (0 : Int32)) := D170 (Or.inr (hw _ (List.mem_of_getElem? (i := 17) rfl))) (ty := .int) (by decide)
            have F_end_b170 : Fld Z h170 b170 "com/example/tranche/tranche/model/Span" "end" "I" (.int (0 : Int32)) := D170 (Or.inr (hw _ (List.mem_of_getElem? (i := 19) rfl))) (ty := .int) (by decide)
            show own_Go p e below s _ _ _ (T170.setTop (mkF m 52 #[iv p1, iv p2, iv p3, iv p4, iv p5, iv p6, rv b1, iv (1 : Int32), iv (4 : Int32), .unset, .unset, .unset] [(.ref b170)]))
            refine own_go (fun zt zk => (XS.dup X170.here hx rfl (hb hby at_52) rfl rfl (XS.iload X170.here hx rfl (hb hby at_53) rfl (XS.iload X170.here hx rfl (hb hby at_55) rfl zk)))) ?_
            show own_Go p e below s _ _ _ (T170.setTop (mkF m 57 #[iv p1, iv p2, iv p3, iv p4, iv p5, iv p6, rv b1, iv (1 : Int32), iv (4 : Int32), .unset, .unset, .unset] [(.int (4 : Int32)), (.int (1 : Int32)), (.ref b170), (.ref b170)]))
            obtain ⟨_, _, ⟨T171, L171, k171, n171⟩, -, X171, ⟨Lc171, hQ171, l171, y171, z171⟩, st171⟩ := X170.specialBack hx (y := (⟨"com/example/tranche/tranche/model/Span", "<init>", "(II)V"⟩ : MethodName)) rfl hown (mvT hZ (hw _ (List.mem_of_getElem? (i := 5) rfl))) (mvT hZ (hw _ (List.mem_of_getElem? (i := 6) rfl))) (mvT hZ (hw _ (List.mem_of_getElem? (i := 7) rfl))) (by decide) (backOf (W := 1) (own_rspan l Z a0 hw [] b170 (1 : Int32) (4 : Int32)  h170 n0 (Nat.le_trans Z0 Kp.1) Ex_b170 F_start_b170 F_end_b170 g_b170 (by decide) (by decide)) hZ (hw _ (List.mem_of_getElem? (i := 7) rfl)) (hw _ (List.mem_of_getElem? (i := 4) rfl)) (by decide) (by decide)) (g := (mkF m 57 #[iv p1, iv p2, iv p3, iv p4, iv p5, iv p6, rv b1, iv (1 : Int32), iv (4 : Int32), .unset, .unset, .unset] [(.int (4 : Int32)), (.int (1 : Int32)), (.ref b170), (.ref b170)])) rfl (by rw [hml]; rfl) (Steps.refl _) (a := b170) (argsL := [(.int (1 : Int32)), (.int (4 : Int32))]) (rest := [(.ref b170)]) (lenOf own_pd__II_V rfl) rfl (by show 2 * 0 + _ ≤ _; exact Nat.le_of_eq rfl) (hb hby at_57) (fun _ _ => ⟨rfl, e170, (by decide : 2 + 0 ≤ _), (by decide : 6 + 0 ≤ _)⟩)
            dsimp only [Pt.U, Pt.locs, Pt.cells, Pt.slots] at X171 l171 y171 z171 st171 hQ171
            subst l171 y171 z171
            obtain ⟨rfl, Nq171, K171, -, F_start_b170, F_end_b170⟩ := hQ171
            have N171 := Fr.app N9 Nq171
            refine own_go (fun zt zk => st171.trans zk) ?_
            replace Kp := Kp.trans K171 (allS (Or.inr sz_b170) all0)
            replace V_b1 := V_b1.keep K171 (ninS ne_b1_b170 nin0)
            replace Ea_b1 := Ea_b1.keep K171
            replace Ex_b170 := Ex_b170.keep K171
            show own_Go p e below s _ _ _ (T171.setTop (mkF m 60 #[iv p1, iv p2, iv p3, iv p4, iv p5, iv p6, rv b1, iv (1 : Int32), iv (4 : Int32), .unset, .unset, .unset] [(.ref b170)]))
            refine own_go (fun zt zk => (XS.astore X171.here hx rfl (hb hby at_60) rfl rfl (l' := #[iv p1, iv p2, iv p3, iv p4, iv p5, iv p6, rv b1, iv (1 : Int32), iv (4 : Int32), rv b170, .unset, .unset]) rfl (XS.aload X171.here hx rfl (hb hby at_62) rfl rfl (XS.aload X171.here hx rfl (hb hby at_64) rfl rfl zk)))) ?_
            show own_Go p e below s _ _ _ (T171.setTop (mkF m 66 #[iv p1, iv p2, iv p3, iv p4, iv p5, iv p6, rv b1, iv (1 : Int32), iv (4 : Int32), rv b170, .unset, .unset] [(.ref b1), (.ref b170)]))
            obtain ⟨cq172, kq172, qa172, qb172, qc172⟩ := isOf hZ rfl Ex_b170
            obtain ⟨_, _, ⟨T172, L172, k172, n172⟩, -, X172, ⟨Lc172, hQ172, l172, y172, z172⟩, st172⟩ := X171.virtualBack hx (y := (⟨"com/example/tranche/tranche/model/Span", "bytesIn", "([B)[B"⟩ : MethodName)) (z := (⟨"com/example/tranche/tranche/model/Span", "bytesIn", "([B)[B"⟩ : MethodName)) hown (mvT hZ (hw _ (List.mem_of_getElem? (i := 20) rfl))) (mvT hZ (hw _ (List.mem_of_getElem? (i := 21) rfl))) (notFace_of_selects (args := #[]) (mvT hZ (hw _ (List.mem_of_getElem? (i := 23) rfl)))) (mvT hZ (hw _ (List.mem_of_getElem? (i := 23) rfl))) (mvT hZ (hw _ (List.mem_of_getElem? (i := 22) rfl))) (by decide) (backOf (W := 0) (own_rbi14 l Z a0 hw [] b170 b1 k1 (.int (p1.toInt8.toInt32)) (.int (p2.toInt8.toInt32)) (.int (p3.toInt8.toInt32)) (.int (p4.toInt8.toInt32)) T171.heap n0 (Nat.le_trans Z0 Kp.1) V_b1 Ea_b1 F_start_b170 F_end_b170) hZ (hw _ (List.mem_of_getElem? (i := 24) rfl)) (hw _ (List.mem_of_getElem? (i := 4) rfl)) (by decide) (by decide)) qa172 qc172 (g := (mkF m 66 #[iv p1, iv p2, iv p3, iv p4, iv p5, iv p6, rv b1, iv (1 : Int32), iv (4 : Int32), rv b170, .unset, .unset] [(.ref b1), (.ref b170)])) rfl (by rw [hml]; rfl) (Steps.refl _) (argsL := [(.ref b1)]) (rest := []) (lenOf own_pd___B__B rfl) rfl (by show 2 * 0 + _ ≤ _; exact Nat.le_of_eq rfl) (hb hby at_66) (fun _ _ => ⟨rfl, rfl, (by decide : 2 + 1 ≤ _), (by decide : 6 + 3 ≤ _)⟩)
            dsimp only [Pt.U, Pt.locs, Pt.cells, Pt.slots] at X172 l172 y172 z172 st172 hQ172
            subst l172 y172 z172
            obtain ⟨r172, kr172, rfl, Nq172, K172, sr172, Ea_r172, V_r172⟩ := hQ172
            have sz_r172 := Nat.le_trans Kp.1 sr172
            have g_r172 := Nat.le_trans Z0 sz_r172
            have ne_b1_r172 : b1 ≠ r172 := Nat.ne_of_lt (Nat.lt_of_lt_of_le V_b1.lt sr172)
            have ne_b170_r172 : b170 ≠ r172 := Nat.ne_of_lt (Nat.lt_of_lt_of_le Ex_b170.lt sr172)
            have N172 := Fr.app N171 Nq172
            refine own_go (fun zt zk => st172.trans zk) ?_
            replace Kp := Kp.trans K172 all0
            replace V_b1 := V_b1.keep K172 nin0
            replace Ea_b1 := Ea_b1.keep K172
            replace Ex_b170 := Ex_b170.keep K172
            replace F_start_b170 := F_start_b170.keep K172 nin0
            replace F_end_b170 := F_end_b170.keep K172 nin0
            show own_Go p e below s _ _ _ (T172.setTop (mkF m 69 #[iv p1, iv p2, iv p3, iv p4, iv p5, iv p6, rv b1, iv (1 : Int32), iv (4 : Int32), rv b170, .unset, .unset] [(.ref r172)]))
            refine own_go (fun zt zk => (XS.astore X172.here hx rfl (hb hby at_69) rfl rfl (l' := #[iv p1, iv p2, iv p3, iv p4, iv p5, iv p6, rv b1, iv (1 : Int32), iv (4 : Int32), rv b170, rv r172, .unset]) rfl (XS.aload X172.here hx rfl (hb hby at_71) rfl rfl (XS.ifnonnullYes X172.here hx rfl (pc0 := 73) (pc' := 78) rfl (hb hby at_73) rfl (by decide) (by decide) (XS.aload X172.here hx rfl (hb hby at_78) rfl rfl zk))))) ?_
            show own_Go p e below s _ _ _ (T172.setTop (mkF m 80 #[iv p1, iv p2, iv p3, iv p4, iv p5, iv p6, rv b1, iv (1 : Int32), iv (4 : Int32), rv b170, rv r172, .unset] [(.ref r172)]))
            obtain ⟨cl173, Ar173, -, Sz173, Nz173, -, -⟩ := id V_r172
            refine own_go (X172.arraylength hx (by exact Ar173.1) (State.isArrayOf_alike hZ.alike Ar173.2.1) (g := (mkF m 80 #[iv p1, iv p2, iv p3, iv p4, iv p5, iv p6, rv b1, iv (1 : Int32), iv (4 : Int32), rv b170, rv r172, .unset] [(.ref r172)])) rfl rfl (hb hby at_80)) ?_
            rw [len_of Sz173 Nz173]
            show own_Go p e below s _ _ _ (T172.setTop (mkF m 81 #[iv p1, iv p2, iv p3, iv p4, iv p5, iv p6, rv b1, iv (1 : Int32), iv (4 : Int32), rv b170, rv r172, .unset] [(.int (3 : Int32))]))
            refine own_go (fun zt zk => (XS.iload X172.here hx rfl (hb hby at_81) rfl (XS.iload X172.here hx rfl (hb hby at_83) rfl (XS.isub X172.here hx rfl (hb hby at_85) rfl (XS.icmpYes X172.here hx rfl (pc0 := 86) (pc' := 91) rfl (hb hby at_86) rfl (teq (rfl : (3 : Int32) = (3 : Int32))).1 (by decide) (by decide) (XS.iconst X172.here hx rfl (hb hby at_91) (XS.istore X172.here hx rfl (hb hby at_92) rfl (l' := #[iv p1, iv p2, iv p3, iv p4, iv p5, iv p6, rv b1, iv (1 : Int32), iv (4 : Int32), rv b170, rv r172, iv (1 : Int32)]) rfl (XS.aload X172.here hx rfl (hb hby at_94) rfl rfl zk)))))))) ?_
            show own_Go p e below s _ _ _ (T172.setTop (mkF m 96 #[iv p1, iv p2, iv p3, iv p4, iv p5, iv p6, rv b1, iv (1 : Int32), iv (4 : Int32), rv b170, rv r172, iv (1 : Int32)] [(.ref r172)]))
            obtain ⟨cl174, Ar174, -, Sz174, Nz174, -, -⟩ := id V_r172
            refine own_go (X172.arraylength hx (by exact Ar174.1) (State.isArrayOf_alike hZ.alike Ar174.2.1) (g := (mkF m 96 #[iv p1, iv p2, iv p3, iv p4, iv p5, iv p6, rv b1, iv (1 : Int32), iv (4 : Int32), rv b170, rv r172, iv (1 : Int32)] [(.ref r172)])) rfl rfl (hb hby at_96)) ?_
            rw [len_of Sz174 Nz174]
            show own_Go p e below s _ _ _ (T172.setTop (mkF m 97 #[iv p1, iv p2, iv p3, iv p4, iv p5, iv p6, rv b1, iv (1 : Int32), iv (4 : Int32), rv b170, rv r172, iv (1 : Int32)] [(.int (3 : Int32))]))
            refine own_go (fun zt zk => (XS.ifNo X172.here hx rfl (hb hby at_97) rfl ((if0 _ _).trans (tlt ((by decide) : (0 : Int32) < (3 : Int32))).2.2.2) (XS.iload X172.here hx rfl (hb hby at_100) rfl (XS.ifNo X172.here hx rfl (hb hby at_102) rfl ((if0 _ _).trans (feq ((by decide) : ¬ ((1 : Int32) = (0 : Int32)))).1) (XS.aload X172.here hx rfl (hb hby at_105) rfl rfl (XS.iconst X172.here hx rfl (hb hby at_107) zk)))))) ?_
            show own_Go p e below s _ _ _ (T172.setTop (mkF m 108 #[iv p1, iv p2, iv p3, iv p4, iv p5, iv p6, rv b1, iv (1 : Int32), iv (4 : Int32), rv b170, rv r172, iv (1 : Int32)] [(.int (0 : Int32)), (.ref r172)]))
            obtain ⟨cl175, Ar175, q175, Sz175, Nz175, Ha175, Ga175⟩ := id V_r172
            have hin175 : ¬ ((0 : Int32) < 0 ∨ cl175.slots.size ≤ ((0 : Int32)).toNatClampNeg) := inb_of Sz175 ⟨by decide, by decide⟩
            have hat175 : cl175.slots[((0 : Int32)).toNatClampNeg]? = some (.int (p2.toInt8.toInt32)) := Has.at Ha175 hin175 rfl
            refine own_go (X172.baloadBytes hx (j := (0 : Int32)) (v := (.int (p2.toInt8.toInt32))) (by exact Ar175.1) (State.isArrayOf_alike hZ.alike Ar175.2.1) Ar175.2.2 hin175 hat175 (g := (mkF m 108 #[iv p1, iv p2, iv p3, iv p4, iv p5, iv p6, rv b1, iv (1 : Int32), iv (4 : Int32), rv b170, rv r172, iv (1 : Int32)] [(.int (0 : Int32)), (.ref r172)])) rfl rfl (hb hby at_108)) ?_
            show own_Go p e below s _ _ _ (T172.setTop (mkF m 109 #[iv p1, iv p2, iv p3, iv p4, iv p5, iv p6, rv b1, iv (1 : Int32), iv (4 : Int32), rv b170, rv r172, iv (1 : Int32)] [(.int (p2.toInt8.toInt32))]))
            refine own_go (fun zt zk => (XS.iload X172.here hx rfl (hb hby at_109) rfl (XS.iloadN X172.here hx rfl (hb hby at_111) rfl (XS.iloadN X172.here hx rfl (hb hby at_112) rfl (XS.iloadN X172.here hx rfl (hb hby at_113) rfl (XS.iloadN X172.here hx rfl (hb hby at_114) rfl zk)))))) ?_
            show own_Go p e below s _ _ _ (T172.setTop (mkF m 115 #[iv p1, iv p2, iv p3, iv p4, iv p5, iv p6, rv b1, iv (1 : Int32), iv (4 : Int32), rv b170, rv r172, iv (1 : Int32)] [(.int p4), (.int p3), (.int p2), (.int p1), (.int (1 : Int32)), (.int (p2.toInt8.toInt32))]))
            obtain ⟨_, _, ⟨T176, L176, k176, n176⟩, -, X176, ⟨Lc176, hQ176, l176, y176, z176⟩, st176⟩ := Jvm.LawKit.callS X172 hx (y := (⟨"com/example/tranche/tranche/model/SpanBytesInPinLaw", "at", "(IIIII)B"⟩ : MethodName)) hown (mvT hZ (hw _ (List.mem_of_getElem? (i := 43) rfl))) (mvT hZ (hw _ (List.mem_of_getElem? (i := 44) rfl))) (mvT hZ (hw _ (List.mem_of_getElem? (i := 45) rfl))) (mvT hZ (hw _ (List.mem_of_getElem? (i := 46) rfl))) (by decide) (backOf (W := 1) (own_rat1 l Z a0 hw [] p1 p2 p3 p4  T172.heap n0 (Nat.le_trans Z0 Kp.1) ) hZ (hw _ (List.mem_of_getElem? (i := 46) rfl)) (hw _ (List.mem_of_getElem? (i := 45) rfl)) (by decide) (by decide)) (g := (mkF m 115 #[iv p1, iv p2, iv p3, iv p4, iv p5, iv p6, rv b1, iv (1 : Int32), iv (4 : Int32), rv b170, rv r172, iv (1 : Int32)] [(.int p4), (.int p3), (.int p2), (.int p1), (.int (1 : Int32)), (.int (p2.toInt8.toInt32))])) rfl (by rw [hml]; rfl) (argsL := [(.int (1 : Int32)), (.int p1), (.int p2), (.int p3), (.int p4)]) (rest := [(.int (p2.toInt8.toInt32))]) (lenOf own_pd__IIIII_B rfl) rfl (by show 2 * 0 + _ ≤ _; exact Nat.le_of_eq rfl) (hb hby at_115) (fun _ _ => ⟨rfl, rfl, (by decide : 3 + 0 ≤ _), (by decide : 9 + 0 ≤ _)⟩)
            dsimp only [Pt.U, Pt.locs, Pt.cells, Pt.slots] at X176 l176 y176 z176 st176 hQ176
            subst l176 y176 z176
            obtain ⟨rfl, Nq176, e176⟩ := hQ176
            have N176 := Fr.app N172 Nq176
            refine own_go st176 ?_
            show own_Go p e below s _ _ _ (T176.setTop (mkF m 118 #[iv p1, iv p2, iv p3, iv p4, iv p5, iv p6, rv b1, iv (1 : Int32), iv (4 : Int32), rv b170, rv r172, iv (1 : Int32)] [(.int (p2.toInt8.toInt32)), (.int (p2.toInt8.toInt32))]))
            refine own_go (fun zt zk => (XS.icmpNo X176.here hx rfl (hb hby at_118) rfl (teq (rfl : (p2.toInt8.toInt32) = (p2.toInt8.toInt32))).2 (XS.iconst X176.here hx rfl (hb hby at_121) (XS.goto X176.here hx rfl (pc0 := 122) (pc' := 126) rfl (hb hby at_122) (by decide) (by decide) (XS.istore X176.here hx rfl (hb hby at_126) rfl (l' := #[iv p1, iv p2, iv p3, iv p4, iv p5, iv p6, rv b1, iv (1 : Int32), iv (4 : Int32), rv b170, rv r172, iv (1 : Int32)]) rfl (XS.aload X176.here hx rfl (hb hby at_128) rfl rfl zk)))))) ?_
            show own_Go p e below s _ _ _ (T176.setTop (mkF m 130 #[iv p1, iv p2, iv p3, iv p4, iv p5, iv p6, rv b1, iv (1 : Int32), iv (4 : Int32), rv b170, rv r172, iv (1 : Int32)] [(.ref r172)]))
            obtain ⟨cl177, Ar177, -, Sz177, Nz177, -, -⟩ := id V_r172
            refine own_go (X176.arraylength hx (by rw [e176]; exact Ar177.1) (State.isArrayOf_alike hZ.alike Ar177.2.1) (g := (mkF m 130 #[iv p1, iv p2, iv p3, iv p4, iv p5, iv p6, rv b1, iv (1 : Int32), iv (4 : Int32), rv b170, rv r172, iv (1 : Int32)] [(.ref r172)])) rfl rfl (hb hby at_130)) ?_
            rw [len_of Sz177 Nz177]
            show own_Go p e below s _ _ _ (T176.setTop (mkF m 131 #[iv p1, iv p2, iv p3, iv p4, iv p5, iv p6, rv b1, iv (1 : Int32), iv (4 : Int32), rv b170, rv r172, iv (1 : Int32)] [(.int (3 : Int32))]))
            refine own_go (fun zt zk => (XS.iconst X176.here hx rfl (hb hby at_131) (XS.icmpNo X176.here hx rfl (hb hby at_132) rfl (tlt ((by decide) : (1 : Int32) < (3 : Int32))).2.2.2 (XS.iload X176.here hx rfl (hb hby at_135) rfl (XS.ifNo X176.here hx rfl (hb hby at_137) rfl ((if0 _ _).trans (feq ((by decide) : ¬ ((1 : Int32) = (0 : Int32)))).1) (XS.aload X176.here hx rfl (hb hby at_140) rfl rfl (XS.iconst X176.here hx rfl (hb hby at_142) zk))))))) ?_
            show own_Go p e below s _ _ _ (T176.setTop (mkF m 143 #[iv p1, iv p2, iv p3, iv p4, iv p5, iv p6, rv b1, iv (1 : Int32), iv (4 : Int32), rv b170, rv r172, iv (1 : Int32)] [(.int (1 : Int32)), (.ref r172)]))
            obtain ⟨cl178, Ar178, q178, Sz178, Nz178, Ha178, Ga178⟩ := id V_r172
            have hin178 : ¬ ((1 : Int32) < 0 ∨ cl178.slots.size ≤ ((1 : Int32)).toNatClampNeg) := inb_of Sz178 ⟨by decide, by decide⟩
            have hat178 : cl178.slots[((1 : Int32)).toNatClampNeg]? = some (.int (p3.toInt8.toInt32)) := Has.at Ha178 hin178 rfl
            refine own_go (X176.baloadBytes hx (j := (1 : Int32)) (v := (.int (p3.toInt8.toInt32))) (by rw [e176]; exact Ar178.1) (State.isArrayOf_alike hZ.alike Ar178.2.1) Ar178.2.2 hin178 hat178 (g := (mkF m 143 #[iv p1, iv p2, iv p3, iv p4, iv p5, iv p6, rv b1, iv (1 : Int32), iv (4 : Int32), rv b170, rv r172, iv (1 : Int32)] [(.int (1 : Int32)), (.ref r172)])) rfl rfl (hb hby at_143)) ?_
            show own_Go p e below s _ _ _ (T176.setTop (mkF m 144 #[iv p1, iv p2, iv p3, iv p4, iv p5, iv p6, rv b1, iv (1 : Int32), iv (4 : Int32), rv b170, rv r172, iv (1 : Int32)] [(.int (p3.toInt8.toInt32))]))
            refine own_go (fun zt zk => (XS.iload X176.here hx rfl (hb hby at_144) rfl (XS.iconst X176.here hx rfl (hb hby at_146) (XS.iadd X176.here hx rfl (hb hby at_147) rfl (XS.iloadN X176.here hx rfl (hb hby at_148) rfl (XS.iloadN X176.here hx rfl (hb hby at_149) rfl (XS.iloadN X176.here hx rfl (hb hby at_150) rfl (XS.iloadN X176.here hx rfl (hb hby at_151) rfl zk)))))))) ?_
            show own_Go p e below s _ _ _ (T176.setTop (mkF m 152 #[iv p1, iv p2, iv p3, iv p4, iv p5, iv p6, rv b1, iv (1 : Int32), iv (4 : Int32), rv b170, rv r172, iv (1 : Int32)] [(.int p4), (.int p3), (.int p2), (.int p1), (.int (2 : Int32)), (.int (p3.toInt8.toInt32))]))
            obtain ⟨_, _, ⟨T179, L179, k179, n179⟩, -, X179, ⟨Lc179, hQ179, l179, y179, z179⟩, st179⟩ := Jvm.LawKit.callS X176 hx (y := (⟨"com/example/tranche/tranche/model/SpanBytesInPinLaw", "at", "(IIIII)B"⟩ : MethodName)) hown (mvT hZ (hw _ (List.mem_of_getElem? (i := 43) rfl))) (mvT hZ (hw _ (List.mem_of_getElem? (i := 44) rfl))) (mvT hZ (hw _ (List.mem_of_getElem? (i := 45) rfl))) (mvT hZ (hw _ (List.mem_of_getElem? (i := 46) rfl))) (by decide) (backOf (W := 1) (own_rat2 l Z a0 hw [] p1 p2 p3 p4  T172.heap n0 (Nat.le_trans Z0 Kp.1) ) hZ (hw _ (List.mem_of_getElem? (i := 46) rfl)) (hw _ (List.mem_of_getElem? (i := 45) rfl)) (by decide) (by decide)) (g := (mkF m 152 #[iv p1, iv p2, iv p3, iv p4, iv p5, iv p6, rv b1, iv (1 : Int32), iv (4 : Int32), rv b170, rv r172, iv (1 : Int32)] [(.int p4), (.int p3), (.int p2), (.int p1), (.int (2 : Int32)), (.int (p3.toInt8.toInt32))])) rfl (by rw [hml]; rfl) (argsL := [(.int (2 : Int32)), (.int p1), (.int p2), (.int p3), (.int p4)]) (rest := [(.int (p3.toInt8.toInt32))]) (lenOf own_pd__IIIII_B rfl) rfl (by show 2 * 0 + _ ≤ _; exact Nat.le_of_eq rfl) (hb hby at_152) (fun _ _ => ⟨rfl, e176, (by decide : 3 + 0 ≤ _), (by decide : 9 + 0 ≤ _)⟩)
            dsimp only [Pt.U, Pt.locs, Pt.cells, Pt.slots] at X179 l179 y179 z179 st179 hQ179
            subst l179 y179 z179
            obtain ⟨rfl, Nq179, e179⟩ := hQ179
            have N179 := Fr.app N176 Nq179
            refine own_go st179 ?_
            show own_Go p e below s _ _ _ (T179.setTop (mkF m 155 #[iv p1, iv p2, iv p3, iv p4, iv p5, iv p6, rv b1, iv (1 : Int32), iv (4 : Int32), rv b170, rv r172, iv (1 : Int32)] [(.int (p3.toInt8.toInt32)), (.int (p3.toInt8.toInt32))]))
            refine own_go (fun zt zk => (XS.icmpNo X179.here hx rfl (hb hby at_155) rfl (teq (rfl : (p3.toInt8.toInt32) = (p3.toInt8.toInt32))).2 (XS.iconst X179.here hx rfl (hb hby at_158) (XS.goto X179.here hx rfl (pc0 := 159) (pc' := 163) rfl (hb hby at_159) (by decide) (by decide) (XS.istore X179.here hx rfl (hb hby at_163) rfl (l' := #[iv p1, iv p2, iv p3, iv p4, iv p5, iv p6, rv b1, iv (1 : Int32), iv (4 : Int32), rv b170, rv r172, iv (1 : Int32)]) rfl (XS.aload X179.here hx rfl (hb hby at_165) rfl rfl zk)))))) ?_
            show own_Go p e below s _ _ _ (T179.setTop (mkF m 167 #[iv p1, iv p2, iv p3, iv p4, iv p5, iv p6, rv b1, iv (1 : Int32), iv (4 : Int32), rv b170, rv r172, iv (1 : Int32)] [(.ref r172)]))
            obtain ⟨cl180, Ar180, -, Sz180, Nz180, -, -⟩ := id V_r172
            refine own_go (X179.arraylength hx (by rw [e179]; exact Ar180.1) (State.isArrayOf_alike hZ.alike Ar180.2.1) (g := (mkF m 167 #[iv p1, iv p2, iv p3, iv p4, iv p5, iv p6, rv b1, iv (1 : Int32), iv (4 : Int32), rv b170, rv r172, iv (1 : Int32)] [(.ref r172)])) rfl rfl (hb hby at_167)) ?_
            rw [len_of Sz180 Nz180]
            show own_Go p e below s _ _ _ (T179.setTop (mkF m 168 #[iv p1, iv p2, iv p3, iv p4, iv p5, iv p6, rv b1, iv (1 : Int32), iv (4 : Int32), rv b170, rv r172, iv (1 : Int32)] [(.int (3 : Int32))]))
            refine own_go (fun zt zk => (XS.iconst X179.here hx rfl (hb hby at_168) (XS.icmpNo X179.here hx rfl (hb hby at_169) rfl (tlt ((by decide) : (2 : Int32) < (3 : Int32))).2.2.2 (XS.iload X179.here hx rfl (hb hby at_172) rfl (XS.ifNo X179.here hx rfl (hb hby at_174) rfl ((if0 _ _).trans (feq ((by decide) : ¬ ((1 : Int32) = (0 : Int32)))).1) (XS.aload X179.here hx rfl (hb hby at_177) rfl rfl (XS.iconst X179.here hx rfl (hb hby at_179) zk))))))) ?_
            show own_Go p e below s _ _ _ (T179.setTop (mkF m 180 #[iv p1, iv p2, iv p3, iv p4, iv p5, iv p6, rv b1, iv (1 : Int32), iv (4 : Int32), rv b170, rv r172, iv (1 : Int32)] [(.int (2 : Int32)), (.ref r172)]))
            obtain ⟨cl181, Ar181, q181, Sz181, Nz181, Ha181, Ga181⟩ := id V_r172
            have hin181 : ¬ ((2 : Int32) < 0 ∨ cl181.slots.size ≤ ((2 : Int32)).toNatClampNeg) := inb_of Sz181 ⟨by decide, by decide⟩
            have hat181 : cl181.slots[((2 : Int32)).toNatClampNeg]? = some (.int (p4.toInt8.toInt32)) := Has.at Ha181 hin181 rfl
            refine own_go (X179.baloadBytes hx (j := (2 : Int32)) (v := (.int (p4.toInt8.toInt32))) (by rw [e179]; exact Ar181.1) (State.isArrayOf_alike hZ.alike Ar181.2.1) Ar181.2.2 hin181 hat181 (g := (mkF m 180 #[iv p1, iv p2, iv p3, iv p4, iv p5, iv p6, rv b1, iv (1 : Int32), iv (4 : Int32), rv b170, rv r172, iv (1 : Int32)] [(.int (2 : Int32)), (.ref r172)])) rfl rfl (hb hby at_180)) ?_
            show own_Go p e below s _ _ _ (T179.setTop (mkF m 181 #[iv p1, iv p2, iv p3, iv p4, iv p5, iv p6, rv b1, iv (1 : Int32), iv (4 : Int32), rv b170, rv r172, iv (1 : Int32)] [(.int (p4.toInt8.toInt32))]))
            refine own_go (fun zt zk => (XS.iload X179.here hx rfl (hb hby at_181) rfl (XS.iconst X179.here hx rfl (hb hby at_183) (XS.iadd X179.here hx rfl (hb hby at_184) rfl (XS.iloadN X179.here hx rfl (hb hby at_185) rfl (XS.iloadN X179.here hx rfl (hb hby at_186) rfl (XS.iloadN X179.here hx rfl (hb hby at_187) rfl (XS.iloadN X179.here hx rfl (hb hby at_188) rfl zk)))))))) ?_
            show own_Go p e below s _ _ _ (T179.setTop (mkF m 189 #[iv p1, iv p2, iv p3, iv p4, iv p5, iv p6, rv b1, iv (1 : Int32), iv (4 : Int32), rv b170, rv r172, iv (1 : Int32)] [(.int p4), (.int p3), (.int p2), (.int p1), (.int (3 : Int32)), (.int (p4.toInt8.toInt32))]))
            obtain ⟨_, _, ⟨T182, L182, k182, n182⟩, -, X182, ⟨Lc182, hQ182, l182, y182, z182⟩, st182⟩ := Jvm.LawKit.callS X179 hx (y := (⟨"com/example/tranche/tranche/model/SpanBytesInPinLaw", "at", "(IIIII)B"⟩ : MethodName)) hown (mvT hZ (hw _ (List.mem_of_getElem? (i := 43) rfl))) (mvT hZ (hw _ (List.mem_of_getElem? (i := 44) rfl))) (mvT hZ (hw _ (List.mem_of_getElem? (i := 45) rfl))) (mvT hZ (hw _ (List.mem_of_getElem? (i := 46) rfl))) (by decide) (backOf (W := 1) (own_rat3 l Z a0 hw [] p1 p2 p3 p4  T172.heap n0 (Nat.le_trans Z0 Kp.1) ) hZ (hw _ (List.mem_of_getElem? (i := 46) rfl)) (hw _ (List.mem_of_getElem? (i := 45) rfl)) (by decide) (by decide)) (g := (mkF m 189 #[iv p1, iv p2, iv p3, iv p4, iv p5, iv p6, rv b1, iv (1 : Int32), iv (4 : Int32), rv b170, rv r172, iv (1 : Int32)] [(.int p4), (.int p3), (.int p2), (.int p1), (.int (3 : Int32)), (.int (p4.toInt8.toInt32))])) rfl (by rw [hml]; rfl) (argsL := [(.int (3 : Int32)), (.int p1), (.int p2), (.int p3), (.int p4)]) (rest := [(.int (p4.toInt8.toInt32))]) (lenOf own_pd__IIIII_B rfl) rfl (by show 2 * 0 + _ ≤ _; exact Nat.le_of_eq rfl) (hb hby at_189) (fun _ _ => ⟨rfl, e179, (by decide : 3 + 0 ≤ _), (by decide : 9 + 0 ≤ _)⟩)
            dsimp only [Pt.U, Pt.locs, Pt.cells, Pt.slots] at X182 l182 y182 z182 st182 hQ182
            subst l182 y182 z182
            obtain ⟨rfl, Nq182, e182⟩ := hQ182
            have N182 := Fr.app N179 Nq182
            refine own_go st182 ?_
            show own_Go p e below s _ _ _ (T182.setTop (mkF m 192 #[iv p1, iv p2, iv p3, iv p4, iv p5, iv p6, rv b1, iv (1 : Int32), iv (4 : Int32), rv b170, rv r172, iv (1 : Int32)] [(.int (p4.toInt8.toInt32)), (.int (p4.toInt8.toInt32))]))
            refine own_go (fun zt zk => (XS.icmpNo X182.here hx rfl (hb hby at_192) rfl (teq (rfl : (p4.toInt8.toInt32) = (p4.toInt8.toInt32))).2 (XS.iconst X182.here hx rfl (hb hby at_195) (XS.goto X182.here hx rfl (pc0 := 196) (pc' := 200) rfl (hb hby at_196) (by decide) (by decide) (XS.istore X182.here hx rfl (hb hby at_200) rfl (l' := #[iv p1, iv p2, iv p3, iv p4, iv p5, iv p6, rv b1, iv (1 : Int32), iv (4 : Int32), rv b170, rv r172, iv (1 : Int32)]) rfl (XS.aload X182.here hx rfl (hb hby at_202) rfl rfl zk)))))) ?_
            show own_Go p e below s _ _ _ (T182.setTop (mkF m 204 #[iv p1, iv p2, iv p3, iv p4, iv p5, iv p6, rv b1, iv (1 : Int32), iv (4 : Int32), rv b170, rv r172, iv (1 : Int32)] [(.ref r172)]))
            obtain ⟨cl183, Ar183, -, Sz183, Nz183, -, -⟩ := id V_r172
            refine own_go (X182.arraylength hx (by rw [e182]; exact Ar183.1) (State.isArrayOf_alike hZ.alike Ar183.2.1) (g := (mkF m 204 #[iv p1, iv p2, iv p3, iv p4, iv p5, iv p6, rv b1, iv (1 : Int32), iv (4 : Int32), rv b170, rv r172, iv (1 : Int32)] [(.ref r172)])) rfl rfl (hb hby at_204)) ?_
            rw [len_of Sz183 Nz183]
            show own_Go p e below s _ _ _ (T182.setTop (mkF m 205 #[iv p1, iv p2, iv p3, iv p4, iv p5, iv p6, rv b1, iv (1 : Int32), iv (4 : Int32), rv b170, rv r172, iv (1 : Int32)] [(.int (3 : Int32))]))
            refine own_go (fun zt zk => (XS.iconst X182.here hx rfl (hb hby at_205) (XS.icmpYes X182.here hx rfl (pc0 := 206) (pc' := 239) rfl (hb hby at_206) rfl (flt ((own_irr _) : ¬ ((3 : Int32) < (3 : Int32)))).2.2.2 (by decide) (by decide) (XS.iload X182.here hx rfl (hb hby at_239) rfl (XS.ifNo X182.here hx rfl (hb hby at_241) rfl ((if0 _ _).trans (feq ((by decide) : ¬ ((1 : Int32) = (0 : Int32)))).1) (XS.aload X182.here hx rfl (hb hby at_244) rfl rfl (XS.iconst X182.here hx rfl (hb hby at_246) zk))))))) ?_
            show own_Go p e below s _ _ _ (T182.setTop (mkF m 247 #[iv p1, iv p2, iv p3, iv p4, iv p5, iv p6, rv b1, iv (1 : Int32), iv (4 : Int32), rv b170, rv r172, iv (1 : Int32)] [(.int (0 : Int32)), (.ref b1)]))
            obtain ⟨cl184, Ar184, q184, Sz184, Nz184, Ha184, Ga184⟩ := id V_b1
            have hin184 : ¬ ((0 : Int32) < 0 ∨ cl184.slots.size ≤ ((0 : Int32)).toNatClampNeg) := inb_of Sz184 ⟨by decide, by decide⟩
            have hat184 : cl184.slots[((0 : Int32)).toNatClampNeg]? = some (.int (p1.toInt8.toInt32)) := Has.at Ha184 hin184 rfl
            refine own_go (X182.baloadBytes hx (j := (0 : Int32)) (v := (.int (p1.toInt8.toInt32))) (by rw [e182]; exact Ar184.1) (State.isArrayOf_alike hZ.alike Ar184.2.1) Ar184.2.2 hin184 hat184 (g := (mkF m 247 #[iv p1, iv p2, iv p3, iv p4, iv p5, iv p6, rv b1, iv (1 : Int32), iv (4 : Int32), rv b170, rv r172, iv (1 : Int32)] [(.int (0 : Int32)), (.ref b1)])) rfl rfl (hb hby at_247)) ?_
            show own_Go p e below s _ _ _ (T182.setTop (mkF m 248 #[iv p1, iv p2, iv p3, iv p4, iv p5, iv p6, rv b1, iv (1 : Int32), iv (4 : Int32), rv b170, rv r172, iv (1 : Int32)] [(.int (p1.toInt8.toInt32))]))
            refine own_go (fun zt zk => (XS.iloadN X182.here hx rfl (hb hby at_248) rfl (XS.i2b X182.here hx rfl (hb hby at_249) rfl (XS.icmpNo X182.here hx rfl (hb hby at_250) rfl (teq (rfl : (p1.toInt8.toInt32) = (p1.toInt8.toInt32))).2 (XS.aload X182.here hx rfl (hb hby at_253) rfl rfl (XS.iconst X182.here hx rfl (hb hby at_255) zk)))))) ?_
            show own_Go p e below s _ _ _ (T182.setTop (mkF m 256 #[iv p1, iv p2, iv p3, iv p4, iv p5, iv p6, rv b1, iv (1 : Int32), iv (4 : Int32), rv b170, rv r172, iv (1 : Int32)] [(.int (1 : Int32)), (.ref b1)]))
            obtain ⟨cl185, Ar185, q185, Sz185, Nz185, Ha185, Ga185⟩ := id V_b1
            have hin185 : ¬ ((1 : Int32) < 0 ∨ cl185.slots.size ≤ ((1 : Int32)).toNatClampNeg) := inb_of Sz185 ⟨by decide, by decide⟩
            have hat185 : cl185.slots[((1 : Int32)).toNatClampNeg]? = some (.int (p2.toInt8.toInt32)) := Has.at Ha185 hin185 rfl
            refine own_go (X182.baloadBytes hx (j := (1 : Int32)) (v := (.int (p2.toInt8.toInt32))) (by rw [e182]; exact Ar185.1) (State.isArrayOf_alike hZ.alike Ar185.2.1) Ar185.2.2 hin185 hat185 (g := (mkF m 256 #[iv p1, iv p2, iv p3, iv p4, iv p5, iv p6, rv b1, iv (1 : Int32), iv (4 : Int32), rv b170, rv r172, iv (1 : Int32)] [(.int (1 : Int32)), (.ref b1)])) rfl rfl (hb hby at_256)) ?_
            show own_Go p e below s _ _ _ (T182.setTop (mkF m 257 #[iv p1, iv p2, iv p3, iv p4, iv p5, iv p6, rv b1, iv (1 : Int32), iv (4 : Int32), rv b170, rv r172, iv (1 : Int32)] [(.int (p2.toInt8.toInt32))]))
            refine own_go (fun zt zk => (XS.iloadN X182.here hx rfl (hb hby at_257) rfl (XS.i2b X182.here hx rfl (hb hby at_258) rfl (XS.icmpNo X182.here hx rfl (hb hby at_259) rfl (teq (rfl : (p2.toInt8.toInt32) = (p2.toInt8.toInt32))).2 (XS.aload X182.here hx rfl (hb hby at_262) rfl rfl (XS.iconst X182.here hx rfl (hb hby at_264) zk)))))) ?_
            show own_Go p e below s _ _ _ (T182.setTop (mkF m 265 #[iv p1, iv p2, iv p3, iv p4, iv p5, iv p6, rv b1, iv (1 : Int32), iv (4 : Int32), rv b170, rv r172, iv (1 : Int32)] [(.int (2 : Int32)), (.ref b1)]))
            obtain ⟨cl186, Ar186, q186, Sz186, Nz186, Ha186, Ga186⟩ := id V_b1
            have hin186 : ¬ ((2 : Int32) < 0 ∨ cl186.slots.size ≤ ((2 : Int32)).toNatClampNeg) := inb_of Sz186 ⟨by decide, by decide⟩
            have hat186 : cl186.slots[((2 : Int32)).toNatClampNeg]? = some (.int (p3.toInt8.toInt32)) := Has.at Ha186 hin186 rfl
            refine own_go (X182.baloadBytes hx (j := (2 : Int32)) (v := (.int (p3.toInt8.toInt32))) (by rw [e182]; exact Ar186.1) (State.isArrayOf_alike hZ.alike Ar186.2.1) Ar186.2.2 hin186 hat186 (g := (mkF m 265 #[iv p1, iv p2, iv p3, iv p4, iv p5, iv p6, rv b1, iv (1 : Int32), iv (4 : Int32), rv b170, rv r172, iv (1 : Int32)] [(.int (2 : Int32)), (.ref b1)])) rfl rfl (hb hby at_265)) ?_
            show own_Go p e below s _ _ _ (T182.setTop (mkF m 266 #[iv p1, iv p2, iv p3, iv p4, iv p5, iv p6, rv b1, iv (1 : Int32), iv (4 : Int32), rv b170, rv r172, iv (1 : Int32)] [(.int (p3.toInt8.toInt32))]))
            refine own_go (fun zt zk => (XS.iloadN X182.here hx rfl (hb hby at_266) rfl (XS.i2b X182.here hx rfl (hb hby at_267) rfl (XS.icmpNo X182.here hx rfl (hb hby at_268) rfl (teq (rfl : (p3.toInt8.toInt32) = (p3.toInt8.toInt32))).2 (XS.aload X182.here hx rfl (hb hby at_271) rfl rfl (XS.iconst X182.here hx rfl (hb hby at_273) zk)))))) ?_
            show own_Go p e below s _ _ _ (T182.setTop (mkF m 274 #[iv p1, iv p2, iv p3, iv p4, iv p5, iv p6, rv b1, iv (1 : Int32), iv (4 : Int32), rv b170, rv r172, iv (1 : Int32)] [(.int (3 : Int32)), (.ref b1)]))
            obtain ⟨cl187, Ar187, q187, Sz187, Nz187, Ha187, Ga187⟩ := id V_b1
            have hin187 : ¬ ((3 : Int32) < 0 ∨ cl187.slots.size ≤ ((3 : Int32)).toNatClampNeg) := inb_of Sz187 ⟨by decide, by decide⟩
            have hat187 : cl187.slots[((3 : Int32)).toNatClampNeg]? = some (.int (p4.toInt8.toInt32)) := Has.at Ha187 hin187 rfl
            refine own_go (X182.baloadBytes hx (j := (3 : Int32)) (v := (.int (p4.toInt8.toInt32))) (by rw [e182]; exact Ar187.1) (State.isArrayOf_alike hZ.alike Ar187.2.1) Ar187.2.2 hin187 hat187 (g := (mkF m 274 #[iv p1, iv p2, iv p3, iv p4, iv p5, iv p6, rv b1, iv (1 : Int32), iv (4 : Int32), rv b170, rv r172, iv (1 : Int32)] [(.int (3 : Int32)), (.ref b1)])) rfl rfl (hb hby at_274)) ?_
            show own_Go p e below s _ _ _ (T182.setTop (mkF m 275 #[iv p1, iv p2, iv p3, iv p4, iv p5, iv p6, rv b1, iv (1 : Int32), iv (4 : Int32), rv b170, rv r172, iv (1 : Int32)] [(.int (p4.toInt8.toInt32))]))
            refine own_go (fun zt zk => (XS.iloadN X182.here hx rfl (hb hby at_275) rfl (XS.i2b X182.here hx rfl (hb hby at_276) rfl (XS.icmpNo X182.here hx rfl (hb hby at_277) rfl (teq (rfl : (p4.toInt8.toInt32) = (p4.toInt8.toInt32))).2 (XS.iconst X182.here hx rfl (hb hby at_280) (XS.goto X182.here hx rfl (pc0 := 281) (pc' := 285) rfl (hb hby at_281) (by decide) (by decide) (XS.istore X182.here hx rfl (hb hby at_285) rfl (l' := #[iv p1, iv p2, iv p3, iv p4, iv p5, iv p6, rv b1, iv (1 : Int32), iv (4 : Int32), rv b170, rv r172, iv (1 : Int32)]) rfl (XS.aload X182.here hx rfl (hb hby at_287) rfl rfl zk)))))))) ?_
            show own_Go p e below s _ _ _ (T182.setTop (mkF m 289 #[iv p1, iv p2, iv p3, iv p4, iv p5, iv p6, rv b1, iv (1 : Int32), iv (4 : Int32), rv b170, rv r172, iv (1 : Int32)] [(.ref r172)]))
            obtain ⟨cl188, Ar188, -, Sz188, Nz188, -, -⟩ := id V_r172
            refine own_go (X182.arraylength hx (by rw [e182]; exact Ar188.1) (State.isArrayOf_alike hZ.alike Ar188.2.1) (g := (mkF m 289 #[iv p1, iv p2, iv p3, iv p4, iv p5, iv p6, rv b1, iv (1 : Int32), iv (4 : Int32), rv b170, rv r172, iv (1 : Int32)] [(.ref r172)])) rfl rfl (hb hby at_289)) ?_
            rw [len_of Sz188 Nz188]
            show own_Go p e below s _ _ _ (T182.setTop (mkF m 290 #[iv p1, iv p2, iv p3, iv p4, iv p5, iv p6, rv b1, iv (1 : Int32), iv (4 : Int32), rv b170, rv r172, iv (1 : Int32)] [(.int (3 : Int32))]))
            refine own_go (fun zt zk => (XS.ifNo X182.here hx rfl (hb hby at_290) rfl ((if0 _ _).trans (tlt ((by decide) : (0 : Int32) < (3 : Int32))).2.2.2) (XS.aload X182.here hx rfl (hb hby at_293) rfl rfl (XS.iconst X182.here hx rfl (hb hby at_295) (XS.aload X182.here hx rfl (hb hby at_296) rfl rfl (XS.iconst X182.here hx rfl (hb hby at_298) zk)))))) ?_
            show own_Go p e below s _ _ _ (T182.setTop (mkF m 299 #[iv p1, iv p2, iv p3, iv p4, iv p5, iv p6, rv b1, iv (1 : Int32), iv (4 : Int32), rv b170, rv r172, iv (1 : Int32)] [(.int (0 : Int32)), (.ref r172), (.int (0 : Int32)), (.ref r172)]))
            obtain ⟨cl189, Ar189, q189, Sz189, Nz189, Ha189, Ga189⟩ := id V_r172
            have hin189 : ¬ ((0 : Int32) < 0 ∨ cl189.slots.size ≤ ((0 : Int32)).toNatClampNeg) := inb_of Sz189 ⟨by decide, by decide⟩
            have hat189 : cl189.slots[((0 : Int32)).toNatClampNeg]? = some (.int (p2.toInt8.toInt32)) := Has.at Ha189 hin189 rfl
            refine own_go (X182.baloadBytes hx (j := (0 : Int32)) (v := (.int (p2.toInt8.toInt32))) (by rw [e182]; exact Ar189.1) (State.isArrayOf_alike hZ.alike Ar189.2.1) Ar189.2.2 hin189 hat189 (g := (mkF m 299 #[iv p1, iv p2, iv p3, iv p4, iv p5, iv p6, rv b1, iv (1 : Int32), iv (4 : Int32), rv b170, rv r172, iv (1 : Int32)] [(.int (0 : Int32)), (.ref r172), (.int (0 : Int32)), (.ref r172)])) rfl rfl (hb hby at_299)) ?_
            show own_Go p e below s _ _ _ (T182.setTop (mkF m 300 #[iv p1, iv p2, iv p3, iv p4, iv p5, iv p6, rv b1, iv (1 : Int32), iv (4 : Int32), rv b170, rv r172, iv (1 : Int32)] [(.int (p2.toInt8.toInt32)), (.int (0 : Int32)), (.ref r172)]))
            refine own_go (fun zt zk => (XS.iconst X182.here hx rfl (hb hby at_300) (XS.ixor X182.here hx rfl (hb hby at_301) rfl (XS.i2b X182.here hx rfl (hb hby at_302) rfl zk)))) ?_
            show own_Go p e below s _ _ _ (T182.setTop (mkF m 303 #[iv p1, iv p2, iv p3, iv p4, iv p5, iv p6, rv b1, iv (1 : Int32), iv (4 : Int32), rv b170, rv r172, iv (1 : Int32)] [(.int (((p2.toInt8.toInt32) ^^^ (1 : Int32)).toInt8.toInt32)), (.int (0 : Int32)), (.ref r172)]))
            obtain ⟨cl190, Ar190, q190, Sz190, Nz190, Ha190, Ga190⟩ := id V_r172
            have hin190 : ¬ ((0 : Int32) < 0 ∨ cl190.slots.size ≤ ((0 : Int32)).toNatClampNeg) := inb_of Sz190 ⟨by decide, by decide⟩
            obtain ⟨T191, h191, X191, e191, W191, st191⟩ := stB X182 hx hZ e182 Ar190 (j := (0 : Int32)) hin190 (g := (mkF m 303 #[iv p1, iv p2, iv p3, iv p4, iv p5, iv p6, rv b1, iv (1 : Int32), iv (4 : Int32), rv b170, rv r172, iv (1 : Int32)] [(.int (((p2.toInt8.toInt32) ^^^ (1 : Int32)).toInt8.toInt32)), (.int (0 : Int32)), (.ref r172)])) rfl rfl (hb hby at_303)
            refine own_go st191 ?_
            rw [show nar .byte (((p2.toInt8.toInt32) ^^^ (1 : Int32)).toInt8.toInt32) = (((p2.toInt8.toInt32) ^^^ (1 : Int32)).toInt8.toInt32) from own_b8 _] at W191
            have V191 := Arv.set Ar190 q190 Sz190 Nz190 Ha190 Ga190 (fits_nar_byte _) W191 0 rfl (Nat.le_of_ble_eq_true rfl)
            have N191 := Fr.snoc X191 N182 g_r172
            replace Kp := Kp.wr W191 (Or.inr sz_r172)
            replace V_b1 := V_b1.other W191 ne_b1_r172
            replace Ea_b1 := Ea_b1.wr W191
            replace Ex_b170 := Ex_b170.wr W191
            replace F_start_b170 := F_start_b170.other W191 (Or.inl ne_b170_r172)
            replace F_end_b170 := F_end_b170.other W191 (Or.inl ne_b170_r172)
            replace Ea_r172 := Ea_r172.wr W191
            replace V_r172 : Arv Z h191 r172 kr172 .byte (3 : Int32) [(.int (((p2.toInt8.toInt32) ^^^ (1 : Int32)).toInt8.toInt32)), (.int (p3.toInt8.toInt32)), (.int (p4.toInt8.toInt32))] (.int (0 : Int32)) := V191
            show own_Go p e below s _ _ _ (T191.setTop (mkF m 304 #[iv p1, iv p2, iv p3, iv p4, iv p5, iv p6, rv b1, iv (1 : Int32), iv (4 : Int32), rv b170, rv r172, iv (1 : Int32)] []))
            refine own_go (fun zt zk => (XS.iload X191.here hx rfl (hb hby at_304) rfl (XS.ifNo X191.here hx rfl (hb hby at_306) rfl ((if0 _ _).trans (feq ((by decide) : ¬ ((1 : Int32) = (0 : Int32)))).1) (XS.aload X191.here hx rfl (hb hby at_309) rfl rfl (XS.iload X191.here hx rfl (hb hby at_311) rfl zk))))) ?_
            show own_Go p e below s _ _ _ (T191.setTop (mkF m 313 #[iv p1, iv p2, iv p3, iv p4, iv p5, iv p6, rv b1, iv (1 : Int32), iv (4 : Int32), rv b170, rv r172, iv (1 : Int32)] [(.int (1 : Int32)), (.ref b1)]))
            obtain ⟨cl192, Ar192, q192, Sz192, Nz192, Ha192, Ga192⟩ := id V_b1
            have hin192 : ¬ ((1 : Int32) < 0 ∨ cl192.slots.size ≤ ((1 : Int32)).toNatClampNeg) := inb_of Sz192 ⟨by decide, by decide⟩
            have hat192 : cl192.slots[((1 : Int32)).toNatClampNeg]? = some (.int (p2.toInt8.toInt32)) := Has.at Ha192 hin192 rfl
            refine own_go (X191.baloadBytes hx (j := (1 : Int32)) (v := (.int (p2.toInt8.toInt32))) (by rw [e191]; exact Ar192.1) (State.isArrayOf_alike hZ.alike Ar192.2.1) Ar192.2.2 hin192 hat192 (g := (mkF m 313 #[iv p1, iv p2, iv p3, iv p4, iv p5, iv p6, rv b1, iv (1 : Int32), iv (4 : Int32), rv b170, rv r172, iv (1 : Int32)] [(.int (1 : Int32)), (.ref b1)])) rfl rfl (hb hby at_313)) ?_
            show own_Go p e below s _ _ _ (T191.setTop (mkF m 314 #[iv p1, iv p2, iv p3, iv p4, iv p5, iv p6, rv b1, iv (1 : Int32), iv (4 : Int32), rv b170, rv r172, iv (1 : Int32)] [(.int (p2.toInt8.toInt32))]))
            refine own_go (fun zt zk => (XS.iload X191.here hx rfl (hb hby at_314) rfl (XS.iloadN X191.here hx rfl (hb hby at_316) rfl (XS.iloadN X191.here hx rfl (hb hby at_317) rfl (XS.iloadN X191.here hx rfl (hb hby at_318) rfl (XS.iloadN X191.here hx rfl (hb hby at_319) rfl zk)))))) ?_
            show own_Go p e below s _ _ _ (T191.setTop (mkF m 320 #[iv p1, iv p2, iv p3, iv p4, iv p5, iv p6, rv b1, iv (1 : Int32), iv (4 : Int32), rv b170, rv r172, iv (1 : Int32)] [(.int p4), (.int p3), (.int p2), (.int p1), (.int (1 : Int32)), (.int (p2.toInt8.toInt32))]))
            obtain ⟨_, _, ⟨T193, L193, k193, n193⟩, -, X193, ⟨Lc193, hQ193, l193, y193, z193⟩, st193⟩ := Jvm.LawKit.callS X191 hx (y := (⟨"com/example/tranche/tranche/model/SpanBytesInPinLaw", "at", "(IIIII)B"⟩ : MethodName)) hown (mvT hZ (hw _ (List.mem_of_getElem? (i := 43) rfl))) (mvT hZ (hw _ (List.mem_of_getElem? (i := 44) rfl))) (mvT hZ (hw _ (List.mem_of_getElem? (i := 45) rfl))) (mvT hZ (hw _ (List.mem_of_getElem? (i := 46) rfl))) (by decide) (backOf (W := 1) (own_rat1 l Z a0 hw [] p1 p2 p3 p4  h191 n0 (Nat.le_trans Z0 Kp.1) ) hZ (hw _ (List.mem_of_getElem? (i := 46) rfl)) (hw _ (List.mem_of_getElem? (i := 45) rfl)) (by decide) (by decide)) (g := (mkF m 320 #[iv p1, iv p2, iv p3, iv p4, iv p5, iv p6, rv b1, iv (1 : Int32), iv (4 : Int32), rv b170, rv r172, iv (1 : Int32)] [(.int p4), (.int p3), (.int p2), (.int p1), (.int (1 : Int32)), (.int (p2.toInt8.toInt32))])) rfl (by rw [hml]; rfl) (argsL := [(.int (1 : Int32)), (.int p1), (.int p2), (.int p3), (.int p4)]) (rest := [(.int (p2.toInt8.toInt32))]) (lenOf own_pd__IIIII_B rfl) rfl (by show 2 * 0 + _ ≤ _; exact Nat.le_of_eq rfl) (hb hby at_320) (fun _ _ => ⟨rfl, e191, (by decide : 3 + 0 ≤ _), (by decide : 9 + 0 ≤ _)⟩)
            dsimp only [Pt.U, Pt.locs, Pt.cells, Pt.slots] at X193 l193 y193 z193 st193 hQ193
            subst l193 y193 z193
            obtain ⟨rfl, Nq193, e193⟩ := hQ193
            have N193 := Fr.app N191 Nq193
            refine own_go st193 ?_
            show own_Go p e below s _ _ _ (T193.setTop (mkF m 323 #[iv p1, iv p2, iv p3, iv p4, iv p5, iv p6, rv b1, iv (1 : Int32), iv (4 : Int32), rv b170, rv r172, iv (1 : Int32)] [(.int (p2.toInt8.toInt32)), (.int (p2.toInt8.toInt32))]))
            refine own_go (fun zt zk => (XS.icmpNo X193.here hx rfl (hb hby at_323) rfl (teq (rfl : (p2.toInt8.toInt32) = (p2.toInt8.toInt32))).2 (XS.iconst X193.here hx rfl (hb hby at_326) (XS.goto X193.here hx rfl (pc0 := 327) (pc' := 331) rfl (hb hby at_327) (by decide) (by decide) (XS.istore X193.here hx rfl (hb hby at_331) rfl (l' := #[iv p1, iv p2, iv p3, iv p4, iv p5, iv p6, rv b1, iv (1 : Int32), iv (4 : Int32), rv b170, rv r172, iv (1 : Int32)]) rfl (XS.iload X193.here hx rfl (hb hby at_333) rfl zk)))))) ?_
            show own_Go p e below s _ _ _ (T193.setTop (mkF m 335 #[iv p1, iv p2, iv p3, iv p4, iv p5, iv p6, rv b1, iv (1 : Int32), iv (4 : Int32), rv b170, rv r172, iv (1 : Int32)] [(.int (1 : Int32))]))
            exact own_fin X193 Bd.notSynchronized (fun h => by rw [Bd.returns] at h; cases h) (fun fs hr => retN X193 hx (t := .boolean) Bd.returns (by simp) (hb hby at_335) hr) (by rw [e193]; exact ⟨rfl, N193⟩) (by decide) (by decide)
    · by_cases hk2_st : st = (2 : Int32)
      · subst hk2_st
        show own_Go p e below s _ _ _ (T9.setTop (mkF m 34 #[iv p1, iv p2, iv p3, iv p4, iv p5, iv p6, rv b1, iv (2 : Int32), .unset, .unset, .unset, .unset] []))
        refine own_go (fun zt zk => (XS.iload X9.here hx rfl (hb hby at_34) rfl (XS.iload X9.here hx rfl (hb hby at_36) rfl (X9.ldcI hx hown (mvT hZ (hw _ (List.mem_of_getElem? (i := 1) rfl))) (g := (mkF m 38 #[iv p1, iv p2, iv p3, iv p4, iv p5, iv p6, rv b1, iv (2 : Int32), .unset, .unset, .unset, .unset] [(.int p6), (.int (2 : Int32))])) rfl (hb hby at_38) (XS.iand X9.here hx rfl (hb hby at_40) rfl (XS.iconst X9.here hx rfl (hb hby at_41) (XS.iload X9.here hx rfl (hb hby at_42) rfl (XS.isub X9.here hx rfl (hb hby at_44) rfl (iremM X9 hx rfl (hb hby at_45) rfl (by decide) zk))))))))) ?_
        show own_Go p e below s _ _ _ (T9.setTop (mkF m 46 #[iv p1, iv p2, iv p3, iv p4, iv p5, iv p6, rv b1, iv (2 : Int32), .unset, .unset, .unset, .unset] [(.int ((p6 &&& (2147483647 : Int32)) % (3 : Int32))), (.int (2 : Int32))]))
        generalize hv_en : ((p6 &&& (2147483647 : Int32)) % (3 : Int32)) = en
        show own_Go p e below s _ _ _ (T9.setTop (mkF m 46 #[iv p1, iv p2, iv p3, iv p4, iv p5, iv p6, rv b1, iv (2 : Int32), .unset, .unset, .unset, .unset] [(.int en), (.int (2 : Int32))]))
        by_cases hk0_en : en = (0 : Int32)
        · subst hk0_en
          show own_Go p e below s _ _ _ (T9.setTop (mkF m 46 #[iv p1, iv p2, iv p3, iv p4, iv p5, iv p6, rv b1, iv (2 : Int32), .unset, .unset, .unset, .unset] [(.int (0 : Int32)), (.int (2 : Int32))]))
          refine own_go (fun zt zk => (XS.iadd X9.here hx rfl (hb hby at_46) rfl (XS.istore X9.here hx rfl (hb hby at_47) rfl (l' := #[iv p1, iv p2, iv p3, iv p4, iv p5, iv p6, rv b1, iv (2 : Int32), iv (2 : Int32), .unset, .unset, .unset]) rfl zk))) ?_
          show own_Go p e below s _ _ _ (T9.setTop (mkF m 49 #[iv p1, iv p2, iv p3, iv p4, iv p5, iv p6, rv b1, iv (2 : Int32), iv (2 : Int32), .unset, .unset, .unset] []))
          obtain ⟨T194, h194, X194, e194, E194, A194, D194, -, st194⟩ := newO X9 hx hZ hown (hw _ (List.mem_of_getElem? (i := 2) rfl)) (hw _ (List.mem_of_getElem? (i := 3) rfl)) (hw _ (List.mem_of_getElem? (i := 4) rfl)) e9 (g := (mkF m 49 #[iv p1, iv p2, iv p3, iv p4, iv p5, iv p6, rv b1, iv (2 : Int32), iv (2 : Int32), .unset, .unset, .unset] [])) rfl (hb hby at_49) (by decide) (by decide)
          obtain ⟨b194, g194⟩ : ∃ z, z = h9.size := ⟨_, rfl⟩
          rw [← g194] at A194 D194 st194
          refine own_go st194 ?_
          have ne_b1_b194 : b1 ≠ b194 := Nat.ne_of_lt (Nat.lt_of_lt_of_le V_b1.lt (Nat.le_of_eq g194.symm))
          have sz_b194 : h0.size ≤ b194 := Nat.le_trans Kp.1 (Nat.le_of_eq g194.symm)
          have g_b194 : n0 ≤ b194 := Nat.le_trans Z0 sz_b194
          replace Kp := Kp.ext E194
          replace V_b1 := V_b1.ext E194
          replace Ea_b1 := Ea_b1.ext E194
          have Ex_b194 := A194
          have F_start_b194 : Fld Z h194 b194 "com/example/tranche/tranche/model/Span" "start" "I" (.int (0 : Int32)) := D194 (Or.inr (hw _ (List.mem_of_getElem? (i := 17) rfl))) (ty := .int) (by decide)
          have F_end_b194 : Fld Z h194 b194 "com/example/tranche/tranche/model/Span" "end" "I" (.int (0 : Int32)) := D194 (Or.inr (hw _ (List.mem_of_getElem? (i := 19) rfl))) (ty := .int) (by decide)
          show own_Go p e below s _ _ _ (T194.setTop (mkF m 52 #[iv p1, iv p2, iv p3, iv p4, iv p5, iv p6, rv b1, iv (2 : Int32), iv (2 : Int32), .unset, .unset, .unset] [(.ref b194)]))
          refine own_go (fun zt zk => (XS.dup X194.here hx rfl (hb hby at_52) rfl rfl (XS.iload X194.here hx rfl (hb hby at_53) rfl (XS.iload X194.here hx rfl (hb hby at_55) rfl zk)))) ?_
          show own_Go p e below s _ _ _ (T194.setTop (mkF m 57 #[iv p1, iv p2, iv p3, iv p4, iv p5, iv p6, rv b1, iv (2 : Int32), iv (2 : Int32), .unset, .unset, .unset] [(.int (2 : Int32)), (.int (2 : Int32)), (.ref b194), (.ref b194)]))
          obtain ⟨_, _, ⟨T195, L195, k195, n195⟩, -, X195, ⟨Lc195, hQ195, l195, y195, z195⟩, st195⟩ := X194.specialBack hx (y := (⟨"com/example/tranche/tranche/model/Span", "<init>", "(II)V"⟩ : MethodName)) rfl hown (mvT hZ (hw _ (List.mem_of_getElem? (i := 5) rfl))) (mvT hZ (hw _ (List.mem_of_getElem? (i := 6) rfl))) (mvT hZ (hw _ (List.mem_of_getElem? (i := 7) rfl))) (by decide) (backOf (W := 1) (own_rspan l Z a0 hw [] b194 (2 : Int32) (2 : Int32)  h194 n0 (Nat.le_trans Z0 Kp.1) Ex_b194 F_start_b194 F_end_b194 g_b194 (by decide) (by decide)) hZ (hw _ (List.mem_of_getElem? (i := 7) rfl)) (hw _ (List.mem_of_getElem? (i := 4) rfl)) (by decide) (by decide)) (g := (mkF m 57 #[iv p1, iv p2, iv p3, iv p4, iv p5, iv p6, rv b1, iv (2 : Int32), iv (2 : Int32), .unset, .unset, .unset] [(.int (2 : Int32)), (.int (2 : Int32)), (.ref b194), (.ref b194)])) rfl (by rw [hml]; rfl) (Steps.refl _) (a := b194) (argsL := [(.int (2 : Int32)), (.int (2 : Int32))]) (rest := [(.ref b194)]) (lenOf own_pd__II_V rfl) rfl (by show 2 * 0 + _ ≤ _; exact Nat.le_of_eq rfl) (hb hby at_57) (fun _ _ => ⟨rfl, e194, (by decide : 2 + 0 ≤ _), (by decide : 6 + 0 ≤ _)⟩)
          dsimp only [Pt.U, Pt.locs, Pt.cells, Pt.slots] at X195 l195 y195 z195 st195 hQ195
          subst l195 y195 z195
          obtain ⟨rfl, Nq195, K195, -, F_start_b194, F_end_b194⟩ := hQ195
          have N195 := Fr.app N9 Nq195
          refine own_go (fun zt zk => st195.trans zk) ?_
          replace Kp := Kp.trans K195 (allS (Or.inr sz_b194) all0)
          replace V_b1 := V_b1.keep K195 (ninS ne_b1_b194 nin0)
          replace Ea_b1 := Ea_b1.keep K195
          replace Ex_b194 := Ex_b194.keep K195
          show own_Go p e below s _ _ _ (T195.setTop (mkF m 60 #[iv p1, iv p2, iv p3, iv p4, iv p5, iv p6, rv b1, iv (2 : Int32), iv (2 : Int32), .unset, .unset, .unset] [(.ref b194)]))
          refine own_go (fun zt zk => (XS.astore X195.here hx rfl (hb hby at_60) rfl rfl (l' := #[iv p1, iv p2, iv p3, iv p4, iv p5, iv p6, rv b1, iv (2 : Int32), iv (2 : Int32), rv b194, .unset, .unset]) rfl (XS.aload X195.here hx rfl (hb hby at_62) rfl rfl (XS.aload X195.here hx rfl (hb hby at_64) rfl rfl zk)))) ?_
          show own_Go p e below s _ _ _ (T195.setTop (mkF m 66 #[iv p1, iv p2, iv p3, iv p4, iv p5, iv p6, rv b1, iv (2 : Int32), iv (2 : Int32), rv b194, .unset, .unset] [(.ref b1), (.ref b194)]))
          obtain ⟨cq196, kq196, qa196, qb196, qc196⟩ := isOf hZ rfl Ex_b194
          obtain ⟨_, _, ⟨T196, L196, k196, n196⟩, -, X196, ⟨Lc196, hQ196, l196, y196, z196⟩, st196⟩ := X195.virtualBack hx (y := (⟨"com/example/tranche/tranche/model/Span", "bytesIn", "([B)[B"⟩ : MethodName)) (z := (⟨"com/example/tranche/tranche/model/Span", "bytesIn", "([B)[B"⟩ : MethodName)) hown (mvT hZ (hw _ (List.mem_of_getElem? (i := 20) rfl))) (mvT hZ (hw _ (List.mem_of_getElem? (i := 21) rfl))) (notFace_of_selects (args := #[]) (mvT hZ (hw _ (List.mem_of_getElem? (i := 23) rfl)))) (mvT hZ (hw _ (List.mem_of_getElem? (i := 23) rfl))) (mvT hZ (hw _ (List.mem_of_getElem? (i := 22) rfl))) (by decide) (backOf (W := 0) (own_rbi22 l Z a0 hw [] b194 b1 k1 (.int (p1.toInt8.toInt32)) (.int (p2.toInt8.toInt32)) (.int (p3.toInt8.toInt32)) (.int (p4.toInt8.toInt32)) T195.heap n0 (Nat.le_trans Z0 Kp.1) V_b1 Ea_b1 F_start_b194 F_end_b194) hZ (hw _ (List.mem_of_getElem? (i := 24) rfl)) (hw _ (List.mem_of_getElem? (i := 4) rfl)) (by decide) (by decide)) qa196 qc196 (g := (mkF m 66 #[iv p1, iv p2, iv p3, iv p4, iv p5, iv p6, rv b1, iv (2 : Int32), iv (2 : Int32), rv b194, .unset, .unset] [(.ref b1), (.ref b194)])) rfl (by rw [hml]; rfl) (Steps.refl _) (argsL := [(.ref b1)]) (rest := []) (lenOf own_pd___B__B rfl) rfl (by show 2 * 0 + _ ≤ _; exact Nat.le_of_eq rfl) (hb hby at_66) (fun _ _ => ⟨rfl, rfl, (by decide : 2 + 1 ≤ _), (by decide : 6 + 0 ≤ _)⟩)
          dsimp only [Pt.U, Pt.locs, Pt.cells, Pt.slots] at X196 l196 y196 z196 st196 hQ196
          subst l196 y196 z196
          obtain ⟨r196, kr196, rfl, Nq196, K196, sr196, Ea_r196, V_r196⟩ := hQ196
          have sz_r196 := Nat.le_trans Kp.1 sr196
          have g_r196 := Nat.le_trans Z0 sz_r196
          have ne_b1_r196 : b1 ≠ r196 := Nat.ne_of_lt (Nat.lt_of_lt_of_le V_b1.lt sr196)
          have ne_b194_r196 : b194 ≠ r196 := Nat.ne_of_lt (Nat.lt_of_lt_of_le Ex_b194.lt sr196)
          have N196 := Fr.app N195 Nq196
          refine own_go (fun zt zk => st196.trans zk) ?_
          replace Kp := Kp.trans K196 all0
          replace V_b1 := V_b1.keep K196 nin0
          replace Ea_b1 := Ea_b1.keep K196
          replace Ex_b194 := Ex_b194.keep K196
          replace F_start_b194 := F_start_b194.keep K196 nin0
          replace F_end_b194 := F_end_b194.keep K196 nin0
          show own_Go p e below s _ _ _ (T196.setTop (mkF m 69 #[iv p1, iv p2, iv p3, iv p4, iv p5, iv p6, rv b1, iv (2 : Int32), iv (2 : Int32), rv b194, .unset, .unset] [(.ref r196)]))
          refine own_go (fun zt zk => (XS.astore X196.here hx rfl (hb hby at_69) rfl rfl (l' := #[iv p1, iv p2, iv p3, iv p4, iv p5, iv p6, rv b1, iv (2 : Int32), iv (2 : Int32), rv b194, rv r196, .unset]) rfl (XS.aload X196.here hx rfl (hb hby at_71) rfl rfl (XS.ifnonnullYes X196.here hx rfl (pc0 := 73) (pc' := 78) rfl (hb hby at_73) rfl (by decide) (by decide) (XS.aload X196.here hx rfl (hb hby at_78) rfl rfl zk))))) ?_
          show own_Go p e below s _ _ _ (T196.setTop (mkF m 80 #[iv p1, iv p2, iv p3, iv p4, iv p5, iv p6, rv b1, iv (2 : Int32), iv (2 : Int32), rv b194, rv r196, .unset] [(.ref r196)]))
          obtain ⟨cl197, Ar197, -, Sz197, Nz197, -, -⟩ := id V_r196
          refine own_go (X196.arraylength hx (by exact Ar197.1) (State.isArrayOf_alike hZ.alike Ar197.2.1) (g := (mkF m 80 #[iv p1, iv p2, iv p3, iv p4, iv p5, iv p6, rv b1, iv (2 : Int32), iv (2 : Int32), rv b194, rv r196, .unset] [(.ref r196)])) rfl rfl (hb hby at_80)) ?_
          rw [len_of Sz197 Nz197]
          show own_Go p e below s _ _ _ (T196.setTop (mkF m 81 #[iv p1, iv p2, iv p3, iv p4, iv p5, iv p6, rv b1, iv (2 : Int32), iv (2 : Int32), rv b194, rv r196, .unset] [(.int (0 : Int32))]))
          refine own_go (fun zt zk => (XS.iload X196.here hx rfl (hb hby at_81) rfl (XS.iload X196.here hx rfl (hb hby at_83) rfl (XS.isub X196.here hx rfl (hb hby at_85) rfl (XS.icmpYes X196.here hx rfl (pc0 := 86) (pc' := 91) rfl (hb hby at_86) rfl (teq (rfl : (0 : Int32) = (0 : Int32))).1 (by decide) (by decide) (XS.iconst X196.here hx rfl (hb hby at_91) (XS.istore X196.here hx rfl (hb hby at_92) rfl (l' := #[iv p1, iv p2, iv p3, iv p4, iv p5, iv p6, rv b1, iv (2 : Int32), iv (2 : Int32), rv b194, rv r196, iv (1 : Int32)]) rfl (XS.aload X196.here hx rfl (hb hby at_94) rfl rfl zk)))))))) ?_
          show own_Go p e below s _ _ _ (T196.setTop (mkF m 96 #[iv p1, iv p2, iv p3, iv p4, iv p5, iv p6, rv b1, iv (2 : Int32), iv (2 : Int32), rv b194, rv r196, iv (1 : Int32)] [(.ref r196)]))
          obtain ⟨cl198, Ar198, -, Sz198, Nz198, -, -⟩ := id V_r196
          refine own_go (X196.arraylength hx (by exact Ar198.1) (State.isArrayOf_alike hZ.alike Ar198.2.1) (g := (mkF m 96 #[iv p1, iv p2, iv p3, iv p4, iv p5, iv p6, rv b1, iv (2 : Int32), iv (2 : Int32), rv b194, rv r196, iv (1 : Int32)] [(.ref r196)])) rfl rfl (hb hby at_96)) ?_
          rw [len_of Sz198 Nz198]
          show own_Go p e below s _ _ _ (T196.setTop (mkF m 97 #[iv p1, iv p2, iv p3, iv p4, iv p5, iv p6, rv b1, iv (2 : Int32), iv (2 : Int32), rv b194, rv r196, iv (1 : Int32)] [(.int (0 : Int32))]))
          refine own_go (fun zt zk => (XS.ifYes X196.here hx rfl (pc0 := 97) (pc' := 128) rfl (hb hby at_97) rfl ((if0 _ _).trans (flt ((own_irr _) : ¬ ((0 : Int32) < (0 : Int32)))).2.2.2) (by decide) (by decide) (XS.aload X196.here hx rfl (hb hby at_128) rfl rfl zk))) ?_
          show own_Go p e below s _ _ _ (T196.setTop (mkF m 130 #[iv p1, iv p2, iv p3, iv p4, iv p5, iv p6, rv b1, iv (2 : Int32), iv (2 : Int32), rv b194, rv r196, iv (1 : Int32)] [(.ref r196)]))
          obtain ⟨cl199, Ar199, -, Sz199, Nz199, -, -⟩ := id V_r196
          refine own_go (X196.arraylength hx (by exact Ar199.1) (State.isArrayOf_alike hZ.alike Ar199.2.1) (g := (mkF m 130 #[iv p1, iv p2, iv p3, iv p4, iv p5, iv p6, rv b1, iv (2 : Int32), iv (2 : Int32), rv b194, rv r196, iv (1 : Int32)] [(.ref r196)])) rfl rfl (hb hby at_130)) ?_
          rw [len_of Sz199 Nz199]
          show own_Go p e below s _ _ _ (T196.setTop (mkF m 131 #[iv p1, iv p2, iv p3, iv p4, iv p5, iv p6, rv b1, iv (2 : Int32), iv (2 : Int32), rv b194, rv r196, iv (1 : Int32)] [(.int (0 : Int32))]))
          refine own_go (fun zt zk => (XS.iconst X196.here hx rfl (hb hby at_131) (XS.icmpYes X196.here hx rfl (pc0 := 132) (pc' := 165) rfl (hb hby at_132) rfl (flt ((by decide) : ¬ ((1 : Int32) < (0 : Int32)))).2.2.2 (by decide) (by decide) (XS.aload X196.here hx rfl (hb hby at_165) rfl rfl zk)))) ?_
          show own_Go p e below s _ _ _ (T196.setTop (mkF m 167 #[iv p1, iv p2, iv p3, iv p4, iv p5, iv p6, rv b1, iv (2 : Int32), iv (2 : Int32), rv b194, rv r196, iv (1 : Int32)] [(.ref r196)]))
          obtain ⟨cl200, Ar200, -, Sz200, Nz200, -, -⟩ := id V_r196
          refine own_go (X196.arraylength hx (by exact Ar200.1) (State.isArrayOf_alike hZ.alike Ar200.2.1) (g := (mkF m 167 #[iv p1, iv p2, iv p3, iv p4, iv p5, iv p6, rv b1, iv (2 : Int32), iv (2 : Int32), rv b194, rv r196, iv (1 : Int32)] [(.ref r196)])) rfl rfl (hb hby at_167)) ?_
          rw [len_of Sz200 Nz200]
          show own_Go p e below s _ _ _ (T196.setTop (mkF m 168 #[iv p1, iv p2, iv p3, iv p4, iv p5, iv p6, rv b1, iv (2 : Int32), iv (2 : Int32), rv b194, rv r196, iv (1 : Int32)] [(.int (0 : Int32))]))
          refine own_go (fun zt zk => (XS.iconst X196.here hx rfl (hb hby at_168) (XS.icmpYes X196.here hx rfl (pc0 := 169) (pc' := 202) rfl (hb hby at_169) rfl (flt ((by decide) : ¬ ((2 : Int32) < (0 : Int32)))).2.2.2 (by decide) (by decide) (XS.aload X196.here hx rfl (hb hby at_202) rfl rfl zk)))) ?_
          show own_Go p e below s _ _ _ (T196.setTop (mkF m 204 #[iv p1, iv p2, iv p3, iv p4, iv p5, iv p6, rv b1, iv (2 : Int32), iv (2 : Int32), rv b194, rv r196, iv (1 : Int32)] [(.ref r196)]))
          obtain ⟨cl201, Ar201, -, Sz201, Nz201, -, -⟩ := id V_r196
          refine own_go (X196.arraylength hx (by exact Ar201.1) (State.isArrayOf_alike hZ.alike Ar201.2.1) (g := (mkF m 204 #[iv p1, iv p2, iv p3, iv p4, iv p5, iv p6, rv b1, iv (2 : Int32), iv (2 : Int32), rv b194, rv r196, iv (1 : Int32)] [(.ref r196)])) rfl rfl (hb hby at_204)) ?_
          rw [len_of Sz201 Nz201]
          show own_Go p e below s _ _ _ (T196.setTop (mkF m 205 #[iv p1, iv p2, iv p3, iv p4, iv p5, iv p6, rv b1, iv (2 : Int32), iv (2 : Int32), rv b194, rv r196, iv (1 : Int32)] [(.int (0 : Int32))]))
          refine own_go (fun zt zk => (XS.iconst X196.here hx rfl (hb hby at_205) (XS.icmpYes X196.here hx rfl (pc0 := 206) (pc' := 239) rfl (hb hby at_206) rfl (flt ((by decide) : ¬ ((3 : Int32) < (0 : Int32)))).2.2.2 (by decide) (by decide) (XS.iload X196.here hx rfl (hb hby at_239) rfl (XS.ifNo X196.here hx rfl (hb hby at_241) rfl ((if0 _ _).trans (feq ((by decide) : ¬ ((1 : Int32) = (0 : Int32)))).1) (XS.aload X196.here hx rfl (hb hby at_244) rfl rfl (XS.iconst X196.here hx rfl (hb hby at_246) zk))))))) ?_
          show own_Go p e below s _ _ _ (T196.setTop (mkF m 247 #[iv p1, iv p2, iv p3, iv p4, iv p5, iv p6, rv b1, iv (2 : Int32), iv (2 : Int32), rv b194, rv r196, iv (1 : Int32)] [(.int (0 : Int32)), (.ref b1)]))
          obtain ⟨cl202, Ar202, q202, Sz202, Nz202, Ha202, Ga202⟩ := id V_b1
          have hin202 : ¬ ((0 : Int32) < 0 ∨ cl202.slots.size ≤ ((0 : Int32)).toNatClampNeg) := inb_of Sz202 ⟨by decide, by decide⟩
          have hat202 : cl202.slots[((0 : Int32)).toNatClampNeg]? = some (.int (p1.toInt8.toInt32)) := Has.at Ha202 hin202 rfl
          refine own_go (X196.baloadBytes hx (j := (0 : Int32)) (v := (.int (p1.toInt8.toInt32))) (by exact Ar202.1) (State.isArrayOf_alike hZ.alike Ar202.2.1) Ar202.2.2 hin202 hat202 (g := (mkF m 247 #[iv p1, iv p2, iv p3, iv p4, iv p5, iv p6, rv b1, iv (2 : Int32), iv (2 : Int32), rv b194, rv r196, iv (1 : Int32)] [(.int (0 : Int32)), (.ref b1)])) rfl rfl (hb hby at_247)) ?_
          show own_Go p e below s _ _ _ (T196.setTop (mkF m 248 #[iv p1, iv p2, iv p3, iv p4, iv p5, iv p6, rv b1, iv (2 : Int32), iv (2 : Int32), rv b194, rv r196, iv (1 : Int32)] [(.int (p1.toInt8.toInt32))]))
          refine own_go (fun zt zk => (XS.iloadN X196.here hx rfl (hb hby at_248) rfl (XS.i2b X196.here hx rfl (hb hby at_249) rfl (XS.icmpNo X196.here hx rfl (hb hby at_250) rfl (teq (rfl : (p1.toInt8.toInt32) = (p1.toInt8.toInt32))).2 (XS.aload X196.here hx rfl (hb hby at_253) rfl rfl (XS.iconst X196.here hx rfl (hb hby at_255) zk)))))) ?_
          show own_Go p e below s _ _ _ (T196.setTop (mkF m 256 #[iv p1, iv p2, iv p3, iv p4, iv p5, iv p6, rv b1, iv (2 : Int32), iv (2 : Int32), rv b194, rv r196, iv (1 : Int32)] [(.int (1 : Int32)), (.ref b1)]))
          obtain ⟨cl203, Ar203, q203, Sz203, Nz203, Ha203, Ga203⟩ := id V_b1
          have hin203 : ¬ ((1 : Int32) < 0 ∨ cl203.slots.size ≤ ((1 : Int32)).toNatClampNeg) := inb_of Sz203 ⟨by decide, by decide⟩
          have hat203 : cl203.slots[((1 : Int32)).toNatClampNeg]? = some (.int (p2.toInt8.toInt32)) := Has.at Ha203 hin203 rfl
          refine own_go (X196.baloadBytes hx (j := (1 : Int32)) (v := (.int (p2.toInt8.toInt32))) (by exact Ar203.1) (State.isArrayOf_alike hZ.alike Ar203.2.1) Ar203.2.2 hin203 hat203 (g := (mkF m 256 #[iv p1, iv p2, iv p3, iv p4, iv p5, iv p6, rv b1, iv (2 : Int32), iv (2 : Int32), rv b194, rv r196, iv (1 : Int32)] [(.int (1 : Int32)), (.ref b1)])) rfl rfl (hb hby at_256)) ?_
          show own_Go p e below s _ _ _ (T196.setTop (mkF m 257 #[iv p1, iv p2, iv p3, iv p4, iv p5, iv p6, rv b1, iv (2 : Int32), iv (2 : Int32), rv b194, rv r196, iv (1 : Int32)] [(.int (p2.toInt8.toInt32))]))
          refine own_go (fun zt zk => (XS.iloadN X196.here hx rfl (hb hby at_257) rfl (XS.i2b X196.here hx rfl (hb hby at_258) rfl (XS.icmpNo X196.here hx rfl (hb hby at_259) rfl (teq (rfl : (p2.toInt8.toInt32) = (p2.toInt8.toInt32))).2 (XS.aload X196.here hx rfl (hb hby at_262) rfl rfl (XS.iconst X196.here hx rfl (hb hby at_264) zk)))))) ?_
          show own_Go p e below s _ _ _ (T196.setTop (mkF m 265 #[iv p1, iv p2, iv p3, iv p4, iv p5, iv p6, rv b1, iv (2 : Int32), iv (2 : Int32), rv b194, rv r196, iv (1 : Int32)] [(.int (2 : Int32)), (.ref b1)]))
          obtain ⟨cl204, Ar204, q204, Sz204, Nz204, Ha204, Ga204⟩ := id V_b1
          have hin204 : ¬ ((2 : Int32) < 0 ∨ cl204.slots.size ≤ ((2 : Int32)).toNatClampNeg) := inb_of Sz204 ⟨by decide, by decide⟩
          have hat204 : cl204.slots[((2 : Int32)).toNatClampNeg]? = some (.int (p3.toInt8.toInt32)) := Has.at Ha204 hin204 rfl
          refine own_go (X196.baloadBytes hx (j := (2 : Int32)) (v := (.int (p3.toInt8.toInt32))) (by exact Ar204.1) (State.isArrayOf_alike hZ.alike Ar204.2.1) Ar204.2.2 hin204 hat204 (g := (mkF m 265 #[iv p1, iv p2, iv p3, iv p4, iv p5, iv p6, rv b1, iv (2 : Int32), iv (2 : Int32), rv b194, rv r196, iv (1 : Int32)] [(.int (2 : Int32)), (.ref b1)])) rfl rfl (hb hby at_265)) ?_
          show own_Go p e below s _ _ _ (T196.setTop (mkF m 266 #[iv p1, iv p2, iv p3, iv p4, iv p5, iv p6, rv b1, iv (2 : Int32), iv (2 : Int32), rv b194, rv r196, iv (1 : Int32)] [(.int (p3.toInt8.toInt32))]))
          refine own_go (fun zt zk => (XS.iloadN X196.here hx rfl (hb hby at_266) rfl (XS.i2b X196.here hx rfl (hb hby at_267) rfl (XS.icmpNo X196.here hx rfl (hb hby at_268) rfl (teq (rfl : (p3.toInt8.toInt32) = (p3.toInt8.toInt32))).2 (XS.aload X196.here hx rfl (hb hby at_271) rfl rfl (XS.iconst X196.here hx rfl (hb hby at_273) zk)))))) ?_
          show own_Go p e below s _ _ _ (T196.setTop (mkF m 274 #[iv p1, iv p2, iv p3, iv p4, iv p5, iv p6, rv b1, iv (2 : Int32), iv (2 : Int32), rv b194, rv r196, iv (1 : Int32)] [(.int (3 : Int32)), (.ref b1)]))
          obtain ⟨cl205, Ar205, q205, Sz205, Nz205, Ha205, Ga205⟩ := id V_b1
          have hin205 : ¬ ((3 : Int32) < 0 ∨ cl205.slots.size ≤ ((3 : Int32)).toNatClampNeg) := inb_of Sz205 ⟨by decide, by decide⟩
          have hat205 : cl205.slots[((3 : Int32)).toNatClampNeg]? = some (.int (p4.toInt8.toInt32)) := Has.at Ha205 hin205 rfl
          refine own_go (X196.baloadBytes hx (j := (3 : Int32)) (v := (.int (p4.toInt8.toInt32))) (by exact Ar205.1) (State.isArrayOf_alike hZ.alike Ar205.2.1) Ar205.2.2 hin205 hat205 (g := (mkF m 274 #[iv p1, iv p2, iv p3, iv p4, iv p5, iv p6, rv b1, iv (2 : Int32), iv (2 : Int32), rv b194, rv r196, iv (1 : Int32)] [(.int (3 : Int32)), (.ref b1)])) rfl rfl (hb hby at_274)) ?_
          show own_Go p e below s _ _ _ (T196.setTop (mkF m 275 #[iv p1, iv p2, iv p3, iv p4, iv p5, iv p6, rv b1, iv (2 : Int32), iv (2 : Int32), rv b194, rv r196, iv (1 : Int32)] [(.int (p4.toInt8.toInt32))]))
          refine own_go (fun zt zk => (XS.iloadN X196.here hx rfl (hb hby at_275) rfl (XS.i2b X196.here hx rfl (hb hby at_276) rfl (XS.icmpNo X196.here hx rfl (hb hby at_277) rfl (teq (rfl : (p4.toInt8.toInt32) = (p4.toInt8.toInt32))).2 (XS.iconst X196.here hx rfl (hb hby at_280) (XS.goto X196.here hx rfl (pc0 := 281) (pc' := 285) rfl (hb hby at_281) (by decide) (by decide) (XS.istore X196.here hx rfl (hb hby at_285) rfl (l' := #[iv p1, iv p2, iv p3, iv p4, iv p5, iv p6, rv b1, iv (2 : Int32), iv (2 : Int32), rv b194, rv r196, iv (1 : Int32)]) rfl (XS.aload X196.here hx rfl (hb hby at_287) rfl rfl zk)))))))) ?_
          show own_Go p e below s _ _ _ (T196.setTop (mkF m 289 #[iv p1, iv p2, iv p3, iv p4, iv p5, iv p6, rv b1, iv (2 : Int32), iv (2 : Int32), rv b194, rv r196, iv (1 : Int32)] [(.ref r196)]))
          obtain ⟨cl206, Ar206, -, Sz206, Nz206, -, -⟩ := id V_r196
          refine own_go (X196.arraylength hx (by exact Ar206.1) (State.isArrayOf_alike hZ.alike Ar206.2.1) (g := (mkF m 289 #[iv p1, iv p2, iv p3, iv p4, iv p5, iv p6, rv b1, iv (2 : Int32), iv (2 : Int32), rv b194, rv r196, iv (1 : Int32)] [(.ref r196)])) rfl rfl (hb hby at_289)) ?_
          rw [len_of Sz206 Nz206]
          show own_Go p e below s _ _ _ (T196.setTop (mkF m 290 #[iv p1, iv p2, iv p3, iv p4, iv p5, iv p6, rv b1, iv (2 : Int32), iv (2 : Int32), rv b194, rv r196, iv (1 : Int32)] [(.int (0 : Int32))]))
          refine own_go (fun zt zk => (XS.ifYes X196.here hx rfl (pc0 := 290) (pc' := 333) rfl (hb hby at_290) rfl ((if0 _ _).trans (flt ((own_irr _) : ¬ ((0 : Int32) < (0 : Int32)))).2.2.2) (by decide) (by decide) (XS.iload X196.here hx rfl (hb hby at_333) rfl zk))) ?_
          show own_Go p e below s _ _ _ (T196.setTop (mkF m 335 #[iv p1, iv p2, iv p3, iv p4, iv p5, iv p6, rv b1, iv (2 : Int32), iv (2 : Int32), rv b194, rv r196, iv (1 : Int32)] [(.int (1 : Int32))]))
          exact own_fin X196 Bd.notSynchronized (fun h => by rw [Bd.returns] at h; cases h) (fun fs hr => retN X196 hx (t := .boolean) Bd.returns (by simp) (hb hby at_335) hr) ⟨rfl, N196⟩ (by decide) (by decide)
        · by_cases hk1_en : en = (1 : Int32)
          · subst hk1_en
            show own_Go p e below s _ _ _ (T9.setTop (mkF m 46 #[iv p1, iv p2, iv p3, iv p4, iv p5, iv p6, rv b1, iv (2 : Int32), .unset, .unset, .unset, .unset] [(.int (1 : Int32)), (.int (2 : Int32))]))
            refine own_go (fun zt zk => (XS.iadd X9.here hx rfl (hb hby at_46) rfl (XS.istore X9.here hx rfl (hb hby at_47) rfl (l' := #[iv p1, iv p2, iv p3, iv p4, iv p5, iv p6, rv b1, iv (2 : Int32), iv (3 : Int32), .unset, .unset, .unset]) rfl zk))) ?_
            show own_Go p e below s _ _ _ (T9.setTop (mkF m 49 #[iv p1, iv p2, iv p3, iv p4, iv p5, iv p6, rv b1, iv (2 : Int32), iv (3 : Int32), .unset, .unset, .unset] []))
            obtain ⟨T207, h207, X207, e207, E207, A207, D207, -, st207⟩ := newO X9 hx hZ hown (hw _ (List.mem_of_getElem? (i := 2) rfl)) (hw _ (List.mem_of_getElem? (i := 3) rfl)) (hw _ (List.mem_of_getElem? (i := 4) rfl)) e9 (g := (mkF m 49 #[iv p1, iv p2, iv p3, iv p4, iv p5, iv p6, rv b1, iv (2 : Int32), iv (3 : Int32), .unset, .unset, .unset] [])) rfl (hb hby at_49) (by decide) (by decide)
            obtain ⟨b207, g207⟩ : ∃ z, z = h9.size := ⟨_, rfl⟩
            rw [← g207] at A207 D207 st207
            refine own_go st207 ?_
            have ne_b1_b207 : b1 ≠ b207 := Nat.ne_of_lt (Nat.lt_of_lt_of_le V_b1.lt (Nat.le_of_eq g207.symm))
            have sz_b207 : h0.size ≤ b207 := Nat.le_trans Kp.1 (Nat.le_of_eq g207.symm)
            have g_b207 : n0 ≤ b207 := Nat.le_trans Z0 sz_b207
            replace Kp := Kp.ext E207
            replace V_b1 := V_b1.ext E207
            replace Ea_b1 := Ea_b1.ext E207
            have Ex_b207 := A207
            have F_start_b207 : Fld Z h207 b207 "com/example/tranche/tranche/model/Span" "start" "I" (.int (0 : Int32)) := D207 (Or.inr (hw _ (List.mem_of_getElem? (i := 17) rfl))) (ty := .int) (by decide)
            have F_end_b207 : Fld Z h207 b207 "com/example/tranche/tranche/model/Span" "end" "I" (.int (0 : Int32)) := D207 (Or.inr (hw _ (List.mem_of_getElem? (i := 19) rfl))) (ty := .int) (by decide)
            show own_Go p e below s _ _ _ (T207.setTop (mkF m 52 #[iv p1, iv p2, iv p3, iv p4, iv p5, iv p6, rv b1, iv (2 : Int32), iv (3 : Int32), .unset, .unset, .unset] [(.ref b207)]))
            refine own_go (fun zt zk => (XS.dup X207.here hx rfl (hb hby at_52) rfl rfl (XS.iload X207.here hx rfl (hb hby at_53) rfl (XS.iload X207.here hx rfl (hb hby at_55) rfl zk)))) ?_
            show own_Go p e below s _ _ _ (T207.setTop (mkF m 57 #[iv p1, iv p2, iv p3, iv p4, iv p5, iv p6, rv b1, iv (2 : Int32), iv (3 : Int32), .unset, .unset, .unset] [(.int (3 : Int32)), (.int (2 : Int32)), (.ref b207), (.ref b207)]))
            obtain ⟨_, _, ⟨T208, L208, k208, n208⟩, -, X208, ⟨Lc208, hQ208, l208, y208, z208⟩, st208⟩ := X207.specialBack hx (y := (⟨"com/example/tranche/tranche/model/Span", "<init>", "(II)V"⟩ : MethodName)) rfl hown (mvT hZ (hw _ (List.mem_of_getElem? (i := 5) rfl))) (mvT hZ (hw _ (List.mem_of_getElem? (i := 6) rfl))) (mvT hZ (hw _ (List.mem_of_getElem? (i := 7) rfl))) (by decide) (backOf (W := 1) (own_rspan l Z a0 hw [] b207 (2 : Int32) (3 : Int32)  h207 n0 (Nat.le_trans Z0 Kp.1) Ex_b207 F_start_b207 F_end_b207 g_b207 (by decide) (by decide)) hZ (hw _ (List.mem_of_getElem? (i := 7) rfl)) (hw _ (List.mem_of_getElem? (i := 4) rfl)) (by decide) (by decide)) (g := (mkF m 57 #[iv p1, iv p2, iv p3, iv p4, iv p5, iv p6, rv b1, iv (2 : Int32), iv (3 : Int32), .unset, .unset, .unset] [(.int (3 : Int32)), (.int (2 : Int32)), (.ref b207), (.ref b207)])) rfl (by rw [hml]; rfl) (Steps.refl _) (a := b207) (argsL := [(.int (2 : Int32)), (.int (3 : Int32))]) (rest := [(.ref b207)]) (lenOf own_pd__II_V rfl) rfl (by show 2 * 0 + _ ≤ _; exact Nat.le_of_eq rfl) (hb hby at_57) (fun _ _ => ⟨rfl, e207, (by decide : 2 + 0 ≤ _), (by decide : 6 + 0 ≤ _)⟩)
            dsimp only [Pt.U, Pt.locs, Pt.cells, Pt.slots] at X208 l208 y208 z208 st208 hQ208
            subst l208 y208 z208
            obtain ⟨rfl, Nq208, K208, -, F_start_b207, F_end_b207⟩ := hQ208
            have N208 := Fr.app N9 Nq208
            refine own_go (fun zt zk => st208.trans zk) ?_
            replace Kp := Kp.trans K208 (allS (Or.inr sz_b207) all0)
            replace V_b1 := V_b1.keep K208 (ninS ne_b1_b207 nin0)
            replace Ea_b1 := Ea_b1.keep K208
            replace Ex_b207 := Ex_b207.keep K208
            show own_Go p e below s _ _ _ (T208.setTop (mkF m 60 #[iv p1, iv p2, iv p3, iv p4, iv p5, iv p6, rv b1, iv (2 : Int32), iv (3 : Int32), .unset, .unset, .unset] [(.ref b207)]))
            refine own_go (fun zt zk => (XS.astore X208.here hx rfl (hb hby at_60) rfl rfl (l' := #[iv p1, iv p2, iv p3, iv p4, iv p5, iv p6, rv b1, iv (2 : Int32), iv (3 : Int32), rv b207, .unset, .unset]) rfl (XS.aload X208.here hx rfl (hb hby at_62) rfl rfl (XS.aload X208.here hx rfl (hb hby at_64) rfl rfl zk)))) ?_
            show own_Go p e below s _ _ _ (T208.setTop (mkF m 66 #[iv p1, iv p2, iv p3, iv p4, iv p5, iv p6, rv b1, iv (2 : Int32), iv (3 : Int32), rv b207, .unset, .unset] [(.ref b1), (.ref b207)]))
            obtain ⟨cq209, kq209, qa209, qb209, qc209⟩ := isOf hZ rfl Ex_b207
            obtain ⟨_, _, ⟨T209, L209, k209, n209⟩, -, X209, ⟨Lc209, hQ209, l209, y209, z209⟩, st209⟩ := X208.virtualBack hx (y := (⟨"com/example/tranche/tranche/model/Span", "bytesIn", "([B)[B"⟩ : MethodName)) (z := (⟨"com/example/tranche/tranche/model/Span", "bytesIn", "([B)[B"⟩ : MethodName)) hown (mvT hZ (hw _ (List.mem_of_getElem? (i := 20) rfl))) (mvT hZ (hw _ (List.mem_of_getElem? (i := 21) rfl))) (notFace_of_selects (args := #[]) (mvT hZ (hw _ (List.mem_of_getElem? (i := 23) rfl)))) (mvT hZ (hw _ (List.mem_of_getElem? (i := 23) rfl))) (mvT hZ (hw _ (List.mem_of_getElem? (i := 22) rfl))) (by decide) (backOf (W := 0) (own_rbi23 l Z a0 hw [] b207 b1 k1 (.int (p1.toInt8.toInt32)) (.int (p2.toInt8.toInt32)) (.int (p3.toInt8.toInt32)) (.int (p4.toInt8.toInt32)) T208.heap n0 (Nat.le_trans Z0 Kp.1) V_b1 Ea_b1 F_start_b207 F_end_b207) hZ (hw _ (List.mem_of_getElem? (i := 24) rfl)) (hw _ (List.mem_of_getElem? (i := 4) rfl)) (by decide) (by decide)) qa209 qc209 (g := (mkF m 66 #[iv p1, iv p2, iv p3, iv p4, iv p5, iv p6, rv b1, iv (2 : Int32), iv (3 : Int32), rv b207, .unset, .unset] [(.ref b1), (.ref b207)])) rfl (by rw [hml]; rfl) (Steps.refl _) (argsL := [(.ref b1)]) (rest := []) (lenOf own_pd___B__B rfl) rfl (by show 2 * 0 + _ ≤ _; exact Nat.le_of_eq rfl) (hb hby at_66) (fun _ _ => ⟨rfl, rfl, (by decide : 2 + 1 ≤ _), (by decide : 6 + 1 ≤ _)⟩)
            dsimp only [Pt.U, Pt.locs, Pt.cells, Pt.slots] at X209 l209 y209 z209 st209 hQ209
            subst l209 y209 z209
            obtain ⟨r209, kr209, rfl, Nq209, K209, sr209, Ea_r209, V_r209⟩ := hQ209
            have sz_r209 := Nat.le_trans Kp.1 sr209
            have g_r209 := Nat.le_trans Z0 sz_r209
            have ne_b1_r209 : b1 ≠ r209 := Nat.ne_of_lt (Nat.lt_of_lt_of_le V_b1.lt sr209)
            have ne_b207_r209 : b207 ≠ r209 := Nat.ne_of_lt (Nat.lt_of_lt_of_le Ex_b207.lt sr209)
            have N209 := Fr.app N208 Nq209
            refine own_go (fun zt zk => st209.trans zk) ?_
            replace Kp := Kp.trans K209 all0
            replace V_b1 := V_b1.keep K209 nin0
            replace Ea_b1 := Ea_b1.keep K209
            replace Ex_b207 := Ex_b207.keep K209
            replace F_start_b207 := F_start_b207.keep K209 nin0
            replace F_end_b207 := F_end_b207.keep K209 nin0
            show own_Go p e below s _ _ _ (T209.setTop (mkF m 69 #[iv p1, iv p2, iv p3, iv p4, iv p5, iv p6, rv b1, iv (2 : Int32), iv (3 : Int32), rv b207, .unset, .unset] [(.ref r209)]))
            refine own_go (fun zt zk => (XS.astore X209.here hx rfl (hb hby at_69) rfl rfl (l' := #[iv p1, iv p2, iv p3, iv p4, iv p5, iv p6, rv b1, iv (2 : Int32), iv (3 : Int32), rv b207, rv r209, .unset]) rfl (XS.aload X209.here hx rfl (hb hby at_71) rfl rfl (XS.ifnonnullYes X209.here hx rfl (pc0 := 73) (pc' := 78) rfl (hb hby at_73) rfl (by decide) (by decide) (XS.aload X209.here hx rfl (hb hby at_78) rfl rfl zk))))) ?_
            show own_Go p e below s _ _ _ (T209.setTop (mkF m 80 #[iv p1, iv p2, iv p3, iv p4, iv p5, iv p6, rv b1, iv (2 : Int32), iv (3 : Int32), rv b207, rv r209, .unset] [(.ref r209)]))
            obtain ⟨cl210, Ar210, -, Sz210, Nz210, -, -⟩ := id V_r209
            refine own_go (X209.arraylength hx (by exact Ar210.1) (State.isArrayOf_alike hZ.alike Ar210.2.1) (g := (mkF m 80 #[iv p1, iv p2, iv p3, iv p4, iv p5, iv p6, rv b1, iv (2 : Int32), iv (3 : Int32), rv b207, rv r209, .unset] [(.ref r209)])) rfl rfl (hb hby at_80)) ?_
            rw [len_of Sz210 Nz210]
            show own_Go p e below s _ _ _ (T209.setTop (mkF m 81 #[iv p1, iv p2, iv p3, iv p4, iv p5, iv p6, rv b1, iv (2 : Int32), iv (3 : Int32), rv b207, rv r209, .unset] [(.int (1 : Int32))]))
            refine own_go (fun zt zk => (XS.iload X209.here hx rfl (hb hby at_81) rfl (XS.iload X209.here hx rfl (hb hby at_83) rfl (XS.isub X209.here hx rfl (hb hby at_85) rfl (XS.icmpYes X209.here hx rfl (pc0 := 86) (pc' := 91) rfl (hb hby at_86) rfl (teq (rfl : (1 : Int32) = (1 : Int32))).1 (by decide) (by decide) (XS.iconst X209.here hx rfl (hb hby at_91) (XS.istore X209.here hx rfl (hb hby at_92) rfl (l' := #[iv p1, iv p2, iv p3, iv p4, iv p5, iv p6, rv b1, iv (2 : Int32), iv (3 : Int32), rv b207, rv r209, iv (1 : Int32)]) rfl (XS.aload X209.here hx rfl (hb hby at_94) rfl rfl zk)))))))) ?_
            show own_Go p e below s _ _ _ (T209.setTop (mkF m 96 #[iv p1, iv p2, iv p3, iv p4, iv p5, iv p6, rv b1, iv (2 : Int32), iv (3 : Int32), rv b207, rv r209, iv (1 : Int32)] [(.ref r209)]))
            obtain ⟨cl211, Ar211, -, Sz211, Nz211, -, -⟩ := id V_r209
            refine own_go (X209.arraylength hx (by exact Ar211.1) (State.isArrayOf_alike hZ.alike Ar211.2.1) (g := (mkF m 96 #[iv p1, iv p2, iv p3, iv p4, iv p5, iv p6, rv b1, iv (2 : Int32), iv (3 : Int32), rv b207, rv r209, iv (1 : Int32)] [(.ref r209)])) rfl rfl (hb hby at_96)) ?_
            rw [len_of Sz211 Nz211]
            show own_Go p e below s _ _ _ (T209.setTop (mkF m 97 #[iv p1, iv p2, iv p3, iv p4, iv p5, iv p6, rv b1, iv (2 : Int32), iv (3 : Int32), rv b207, rv r209, iv (1 : Int32)] [(.int (1 : Int32))]))
            refine own_go (fun zt zk => (XS.ifNo X209.here hx rfl (hb hby at_97) rfl ((if0 _ _).trans (tlt ((by decide) : (0 : Int32) < (1 : Int32))).2.2.2) (XS.iload X209.here hx rfl (hb hby at_100) rfl (XS.ifNo X209.here hx rfl (hb hby at_102) rfl ((if0 _ _).trans (feq ((by decide) : ¬ ((1 : Int32) = (0 : Int32)))).1) (XS.aload X209.here hx rfl (hb hby at_105) rfl rfl (XS.iconst X209.here hx rfl (hb hby at_107) zk)))))) ?_
            show own_Go p e below s _ _ _ (T209.setTop (mkF m 108 #[iv p1, iv p2, iv p3, iv p4, iv p5, iv p6, rv b1, iv (2 : Int32), iv (3 : Int32), rv b207, rv r209, iv (1 : Int32)] [(.int (0 : Int32)), (.ref r209)]))
            obtain ⟨cl212, Ar212, q212, Sz212, Nz212, Ha212, Ga212⟩ := id V_r209
            have hin212 : ¬ ((0 : Int32) < 0 ∨ cl212.slots.size ≤ ((0 : Int32)).toNatClampNeg) := inb_of Sz212 ⟨by decide, by decide⟩
            have hat212 : cl212.slots[((0 : Int32)).toNatClampNeg]? = some (.int (p3.toInt8.toInt32)) := Has.at Ha212 hin212 rfl
            refine own_go (X209.baloadBytes hx (j := (0 : Int32)) (v := (.int (p3.toInt8.toInt32))) (by exact Ar212.1) (State.isArrayOf_alike hZ.alike Ar212.2.1) Ar212.2.2 hin212 hat212 (g := (mkF m 108 #[iv p1, iv p2, iv p3, iv p4, iv p5, iv p6, rv b1, iv (2 : Int32), iv (3 : Int32), rv b207, rv r209, iv (1 : Int32)] [(.int (0 : Int32)), (.ref r209)])) rfl rfl (hb hby at_108)) ?_
            show own_Go p e below s _ _ _ (T209.setTop (mkF m 109 #[iv p1, iv p2, iv p3, iv p4, iv p5, iv p6, rv b1, iv (2 : Int32), iv (3 : Int32), rv b207, rv r209, iv (1 : Int32)] [(.int (p3.toInt8.toInt32))]))
            refine own_go (fun zt zk => (XS.iload X209.here hx rfl (hb hby at_109) rfl (XS.iloadN X209.here hx rfl (hb hby at_111) rfl (XS.iloadN X209.here hx rfl (hb hby at_112) rfl (XS.iloadN X209.here hx rfl (hb hby at_113) rfl (XS.iloadN X209.here hx rfl (hb hby at_114) rfl zk)))))) ?_
            show own_Go p e below s _ _ _ (T209.setTop (mkF m 115 #[iv p1, iv p2, iv p3, iv p4, iv p5, iv p6, rv b1, iv (2 : Int32), iv (3 : Int32), rv b207, rv r209, iv (1 : Int32)] [(.int p4), (.int p3), (.int p2), (.int p1), (.int (2 : Int32)), (.int (p3.toInt8.toInt32))]))
            obtain ⟨_, _, ⟨T213, L213, k213, n213⟩, -, X213, ⟨Lc213, hQ213, l213, y213, z213⟩, st213⟩ := Jvm.LawKit.callS X209 hx (y := (⟨"com/example/tranche/tranche/model/SpanBytesInPinLaw", "at", "(IIIII)B"⟩ : MethodName)) hown (mvT hZ (hw _ (List.mem_of_getElem? (i := 43) rfl))) (mvT hZ (hw _ (List.mem_of_getElem? (i := 44) rfl))) (mvT hZ (hw _ (List.mem_of_getElem? (i := 45) rfl))) (mvT hZ (hw _ (List.mem_of_getElem? (i := 46) rfl))) (by decide) (backOf (W := 1) (own_rat2 l Z a0 hw [] p1 p2 p3 p4  T209.heap n0 (Nat.le_trans Z0 Kp.1) ) hZ (hw _ (List.mem_of_getElem? (i := 46) rfl)) (hw _ (List.mem_of_getElem? (i := 45) rfl)) (by decide) (by decide)) (g := (mkF m 115 #[iv p1, iv p2, iv p3, iv p4, iv p5, iv p6, rv b1, iv (2 : Int32), iv (3 : Int32), rv b207, rv r209, iv (1 : Int32)] [(.int p4), (.int p3), (.int p2), (.int p1), (.int (2 : Int32)), (.int (p3.toInt8.toInt32))])) rfl (by rw [hml]; rfl) (argsL := [(.int (2 : Int32)), (.int p1), (.int p2), (.int p3), (.int p4)]) (rest := [(.int (p3.toInt8.toInt32))]) (lenOf own_pd__IIIII_B rfl) rfl (by show 2 * 0 + _ ≤ _; exact Nat.le_of_eq rfl) (hb hby at_115) (fun _ _ => ⟨rfl, rfl, (by decide : 3 + 0 ≤ _), (by decide : 7 + 0 ≤ _)⟩)
            dsimp only [Pt.U, Pt.locs, Pt.cells, Pt.slots] at X213 l213 y213 z213 st213 hQ213
            subst l213 y213 z213
            obtain ⟨rfl, Nq213, e213⟩ := hQ213
            have N213 := Fr.app N209 Nq213
            refine own_go st213 ?_
            show own_Go p e below s _ _ _ (T213.setTop (mkF m 118 #[iv p1, iv p2, iv p3, iv p4, iv p5, iv p6, rv b1, iv (2 : Int32), iv (3 : Int32), rv b207, rv r209, iv (1 : Int32)] [(.int (p3.toInt8.toInt32)), (.int (p3.toInt8.toInt32))]))
            refine own_go (fun zt zk => (XS.icmpNo X213.here hx rfl (hb hby at_118) rfl (teq (rfl : (p3.toInt8.toInt32) = (p3.toInt8.toInt32))).2 (XS.iconst X213.here hx rfl (hb hby at_121) (XS.goto X213.here hx rfl (pc0 := 122) (pc' := 126) rfl (hb hby at_122) (by decide) (by decide) (XS.istore X213.here hx rfl (hb hby at_126) rfl (l' := #[iv p1, iv p2, iv p3, iv p4, iv p5, iv p6, rv b1, iv (2 : Int32), iv (3 : Int32), rv b207, rv r209, iv (1 : Int32)]) rfl (XS.aload X213.here hx rfl (hb hby at_128) rfl rfl zk)))))) ?_
            show own_Go p e below s _ _ _ (T213.setTop (mkF m 130 #[iv p1, iv p2, iv p3, iv p4, iv p5, iv p6, rv b1, iv (2 : Int32), iv (3 : Int32), rv b207, rv r209, iv (1 : Int32)] [(.ref r209)]))
            obtain ⟨cl214, Ar214, -, Sz214, Nz214, -, -⟩ := id V_r209
            refine own_go (X213.arraylength hx (by rw [e213]; exact Ar214.1) (State.isArrayOf_alike hZ.alike Ar214.2.1) (g := (mkF m 130 #[iv p1, iv p2, iv p3, iv p4, iv p5, iv p6, rv b1, iv (2 : Int32), iv (3 : Int32), rv b207, rv r209, iv (1 : Int32)] [(.ref r209)])) rfl rfl (hb hby at_130)) ?_
            rw [len_of Sz214 Nz214]
            show own_Go p e below s _ _ _ (T213.setTop (mkF m 131 #[iv p1, iv p2, iv p3, iv p4, iv p5, iv p6, rv b1, iv (2 : Int32), iv (3 : Int32), rv b207, rv r209, iv (1 : Int32)] [(.int (1 : Int32))]))
            refine own_go (fun zt zk => (XS.iconst X213.here hx rfl (hb hby at_131) (XS.icmpYes X213.here hx rfl (pc0 := 132) (pc' := 165) rfl (hb hby at_132) rfl (flt ((own_irr _) : ¬ ((1 : Int32) < (1 : Int32)))).2.2.2 (by decide) (by decide) (XS.aload X213.here hx rfl (hb hby at_165) rfl rfl zk)))) ?_
            show own_Go p e below s _ _ _ (T213.setTop (mkF m 167 #[iv p1, iv p2, iv p3, iv p4, iv p5, iv p6, rv b1, iv (2 : Int32), iv (3 : Int32), rv b207, rv r209, iv (1 : Int32)] [(.ref r209)]))
            obtain ⟨cl215, Ar215, -, Sz215, Nz215, -, -⟩ := id V_r209
            refine own_go (X213.arraylength hx (by rw [e213]; exact Ar215.1) (State.isArrayOf_alike hZ.alike Ar215.2.1) (g := (mkF m 167 #[iv p1, iv p2, iv p3, iv p4, iv p5, iv p6, rv b1, iv (2 : Int32), iv (3 : Int32), rv b207, rv r209, iv (1 : Int32)] [(.ref r209)])) rfl rfl (hb hby at_167)) ?_
            rw [len_of Sz215 Nz215]
            show own_Go p e below s _ _ _ (T213.setTop (mkF m 168 #[iv p1, iv p2, iv p3, iv p4, iv p5, iv p6, rv b1, iv (2 : Int32), iv (3 : Int32), rv b207, rv r209, iv (1 : Int32)] [(.int (1 : Int32))]))
            refine own_go (fun zt zk => (XS.iconst X213.here hx rfl (hb hby at_168) (XS.icmpYes X213.here hx rfl (pc0 := 169) (pc' := 202) rfl (hb hby at_169) rfl (flt ((by decide) : ¬ ((2 : Int32) < (1 : Int32)))).2.2.2 (by decide) (by decide) (XS.aload X213.here hx rfl (hb hby at_202) rfl rfl zk)))) ?_
            show own_Go p e below s _ _ _ (T213.setTop (mkF m 204 #[iv p1, iv p2, iv p3, iv p4, iv p5, iv p6, rv b1, iv (2 : Int32), iv (3 : Int32), rv b207, rv r209, iv (1 : Int32)] [(.ref r209)]))
            obtain ⟨cl216, Ar216, -, Sz216, Nz216, -, -⟩ := id V_r209
            refine own_go (X213.arraylength hx (by rw [e213]; exact Ar216.1) (State.isArrayOf_alike hZ.alike Ar216.2.1) (g := (mkF m 204 #[iv p1, iv p2, iv p3, iv p4, iv p5, iv p6, rv b1, iv (2 : Int32), iv (3 : Int32), rv b207, rv r209, iv (1 : Int32)] [(.ref r209)])) rfl rfl (hb hby at_204)) ?_
            rw [len_of Sz216 Nz216]
            show own_Go p e below s _ _ _ (T213.setTop (mkF m 205 #[iv p1, iv p2, iv p3, iv p4, iv p5, iv p6, rv b1, iv (2 : Int32), iv (3 : Int32), rv b207, rv r209, iv (1 : Int32)] [(.int (1 : Int32))]))
            refine own_go (fun zt zk => (XS.iconst X213.here hx rfl (hb hby at_205) (XS.icmpYes X213.here hx rfl (pc0 := 206) (pc' := 239) rfl (hb hby at_206) rfl (flt ((by decide) : ¬ ((3 : Int32) < (1 : Int32)))).2.2.2 (by decide) (by decide) (XS.iload X213.here hx rfl (hb hby at_239) rfl (XS.ifNo X213.here hx rfl (hb hby at_241) rfl ((if0 _ _).trans (feq ((by decide) : ¬ ((1 : Int32) = (0 : Int32)))).1) (XS.aload X213.here hx rfl (hb hby at_244) rfl rfl (XS.iconst X213.here hx rfl (hb hby at_246) zk))))))) ?_
            show own_Go p e below s _ _ _ (T213.setTop (mkF m 247 #[iv p1, iv p2, iv p3, iv p4, iv p5, iv p6, rv b1, iv (2 : Int32), iv (3 : Int32), rv b207, rv r209, iv (1 : Int32)] [(.int (0 : Int32)), (.ref b1)]))
            obtain ⟨cl217, Ar217, q217, Sz217, Nz217, Ha217, Ga217⟩ := id V_b1
            have hin217 : ¬ ((0 : Int32) < 0 ∨ cl217.slots.size ≤ ((0 : Int32)).toNatClampNeg) := inb_of Sz217 ⟨by decide, by decide⟩
            have hat217 : cl217.slots[((0 : Int32)).toNatClampNeg]? = some (.int (p1.toInt8.toInt32)) := Has.at Ha217 hin217 rfl
            refine own_go (X213.baloadBytes hx (j := (0 : Int32)) (v := (.int (p1.toInt8.toInt32))) (by rw [e213]; exact Ar217.1) (State.isArrayOf_alike hZ.alike Ar217.2.1) Ar217.2.2 hin217 hat217 (g := (mkF m 247 #[iv p1, iv p2, iv p3, iv p4, iv p5, iv p6, rv b1, iv (2 : Int32), iv (3 : Int32), rv b207, rv r209, iv (1 : Int32)] [(.int (0 : Int32)), (.ref b1)])) rfl rfl (hb hby at_247)) ?_
            show own_Go p e below s _ _ _ (T213.setTop (mkF m 248 #[iv p1, iv p2, iv p3, iv p4, iv p5, iv p6, rv b1, iv (2 : Int32), iv (3 : Int32), rv b207, rv r209, iv (1 : Int32)] [(.int (p1.toInt8.toInt32))]))
            refine own_go (fun zt zk => (XS.iloadN X213.here hx rfl (hb hby at_248) rfl (XS.i2b X213.here hx rfl (hb hby at_249) rfl (XS.icmpNo X213.here hx rfl (hb hby at_250) rfl (teq (rfl : (p1.toInt8.toInt32) = (p1.toInt8.toInt32))).2 (XS.aload X213.here hx rfl (hb hby at_253) rfl rfl (XS.iconst X213.here hx rfl (hb hby at_255) zk)))))) ?_
            show own_Go p e below s _ _ _ (T213.setTop (mkF m 256 #[iv p1, iv p2, iv p3, iv p4, iv p5, iv p6, rv b1, iv (2 : Int32), iv (3 : Int32), rv b207, rv r209, iv (1 : Int32)] [(.int (1 : Int32)), (.ref b1)]))
            obtain ⟨cl218, Ar218, q218, Sz218, Nz218, Ha218, Ga218⟩ := id V_b1
            have hin218 : ¬ ((1 : Int32) < 0 ∨ cl218.slots.size ≤ ((1 : Int32)).toNatClampNeg) := inb_of Sz218 ⟨by decide, by decide⟩
            have hat218 : cl218.slots[((1 : Int32)).toNatClampNeg]? = some (.int (p2.toInt8.toInt32)) := Has.at Ha218 hin218 rfl
            refine own_go (X213.baloadBytes hx (j := (1 : Int32)) (v := (.int (p2.toInt8.toInt32))) (by rw [e213]; exact Ar218.1) (State.isArrayOf_alike hZ.alike Ar218.2.1) Ar218.2.2 hin218 hat218 (g := (mkF m 256 #[iv p1, iv p2, iv p3, iv p4, iv p5, iv p6, rv b1, iv (2 : Int32), iv (3 : Int32), rv b207, rv r209, iv (1 : Int32)] [(.int (1 : Int32)), (.ref b1)])) rfl rfl (hb hby at_256)) ?_
            show own_Go p e below s _ _ _ (T213.setTop (mkF m 257 #[iv p1, iv p2, iv p3, iv p4, iv p5, iv p6, rv b1, iv (2 : Int32), iv (3 : Int32), rv b207, rv r209, iv (1 : Int32)] [(.int (p2.toInt8.toInt32))]))
            refine own_go (fun zt zk => (XS.iloadN X213.here hx rfl (hb hby at_257) rfl (XS.i2b X213.here hx rfl (hb hby at_258) rfl (XS.icmpNo X213.here hx rfl (hb hby at_259) rfl (teq (rfl : (p2.toInt8.toInt32) = (p2.toInt8.toInt32))).2 (XS.aload X213.here hx rfl (hb hby at_262) rfl rfl (XS.iconst X213.here hx rfl (hb hby at_264) zk)))))) ?_
            show own_Go p e below s _ _ _ (T213.setTop (mkF m 265 #[iv p1, iv p2, iv p3, iv p4, iv p5, iv p6, rv b1, iv (2 : Int32), iv (3 : Int32), rv b207, rv r209, iv (1 : Int32)] [(.int (2 : Int32)), (.ref b1)]))
            obtain ⟨cl219, Ar219, q219, Sz219, Nz219, Ha219, Ga219⟩ := id V_b1
            have hin219 : ¬ ((2 : Int32) < 0 ∨ cl219.slots.size ≤ ((2 : Int32)).toNatClampNeg) := inb_of Sz219 ⟨by decide, by decide⟩
            have hat219 : cl219.slots[((2 : Int32)).toNatClampNeg]? = some (.int (p3.toInt8.toInt32)) := Has.at Ha219 hin219 rfl
            refine own_go (X213.baloadBytes hx (j := (2 : Int32)) (v := (.int (p3.toInt8.toInt32))) (by rw [e213]; exact Ar219.1) (State.isArrayOf_alike hZ.alike Ar219.2.1) Ar219.2.2 hin219 hat219 (g := (mkF m 265 #[iv p1, iv p2, iv p3, iv p4, iv p5, iv p6, rv b1, iv (2 : Int32), iv (3 : Int32), rv b207, rv r209, iv (1 : Int32)] [(.int (2 : Int32)), (.ref b1)])) rfl rfl (hb hby at_265)) ?_
            show own_Go p e below s _ _ _ (T213.setTop (mkF m 266 #[iv p1, iv p2, iv p3, iv p4, iv p5, iv p6, rv b1, iv (2 : Int32), iv (3 : Int32), rv b207, rv r209, iv (1 : Int32)] [(.int (p3.toInt8.toInt32))]))
            refine own_go (fun zt zk => (XS.iloadN X213.here hx rfl (hb hby at_266) rfl (XS.i2b X213.here hx rfl (hb hby at_267) rfl (XS.icmpNo X213.here hx rfl (hb hby at_268) rfl (teq (rfl : (p3.toInt8.toInt32) = (p3.toInt8.toInt32))).2 (XS.aload X213.here hx rfl (hb hby at_271) rfl rfl (XS.iconst X213.here hx rfl (hb hby at_273) zk)))))) ?_
            show own_Go p e below s _ _ _ (T213.setTop (mkF m 274 #[iv p1, iv p2, iv p3, iv p4, iv p5, iv p6, rv b1, iv (2 : Int32), iv (3 : Int32), rv b207, rv r209, iv (1 : Int32)] [(.int (3 : Int32)), (.ref b1)]))
            obtain ⟨cl220, Ar220, q220, Sz220, Nz220, Ha220, Ga220⟩ := id V_b1
            have hin220 : ¬ ((3 : Int32) < 0 ∨ cl220.slots.size ≤ ((3 : Int32)).toNatClampNeg) := inb_of Sz220 ⟨by decide, by decide⟩
            have hat220 : cl220.slots[((3 : Int32)).toNatClampNeg]? = some (.int (p4.toInt8.toInt32)) := Has.at Ha220 hin220 rfl
            refine own_go (X213.baloadBytes hx (j := (3 : Int32)) (v := (.int (p4.toInt8.toInt32))) (by rw [e213]; exact Ar220.1) (State.isArrayOf_alike hZ.alike Ar220.2.1) Ar220.2.2 hin220 hat220 (g := (mkF m 274 #[iv p1, iv p2, iv p3, iv p4, iv p5, iv p6, rv b1, iv (2 : Int32), iv (3 : Int32), rv b207, rv r209, iv (1 : Int32)] [(.int (3 : Int32)), (.ref b1)])) rfl rfl (hb hby at_274)) ?_
            show own_Go p e below s _ _ _ (T213.setTop (mkF m 275 #[iv p1, iv p2, iv p3, iv p4, iv p5, iv p6, rv b1, iv (2 : Int32), iv (3 : Int32), rv b207, rv r209, iv (1 : Int32)] [(.int (p4.toInt8.toInt32))]))
            refine own_go (fun zt zk => (XS.iloadN X213.here hx rfl (hb hby at_275) rfl (XS.i2b X213.here hx rfl (hb hby at_276) rfl (XS.icmpNo X213.here hx rfl (hb hby at_277) rfl (teq (rfl : (p4.toInt8.toInt32) = (p4.toInt8.toInt32))).2 (XS.iconst X213.here hx rfl (hb hby at_280) (XS.goto X213.here hx rfl (pc0 := 281) (pc' := 285) rfl (hb hby at_281) (by decide) (by decide) (XS.istore X213.here hx rfl (hb hby at_285) rfl (l' := #[iv p1, iv p2, iv p3, iv p4, iv p5, iv p6, rv b1, iv (2 : Int32), iv (3 : Int32), rv b207, rv r209, iv (1 : Int32)]) rfl (XS.aload X213.here hx rfl (hb hby at_287) rfl rfl zk)))))))) ?_
            show own_Go p e below s _ _ _ (T213.setTop (mkF m 289 #[iv p1, iv p2, iv p3, iv p4, iv p5, iv p6, rv b1, iv (2 : Int32), iv (3 : Int32), rv b207, rv r209, iv (1 : Int32)] [(.ref r209)]))
            obtain ⟨cl221, Ar221, -, Sz221, Nz221, -, -⟩ := id V_r209
            refine own_go (X213.arraylength hx (by rw [e213]; exact Ar221.1) (State.isArrayOf_alike hZ.alike Ar221.2.1) (g := (mkF m 289 #[iv p1, iv p2, iv p3, iv p4, iv p5, iv p6, rv b1, iv (2 : Int32), iv (3 : Int32), rv b207, rv r209, iv (1 : Int32)] [(.ref r209)])) rfl rfl (hb hby at_289)) ?_
            rw [len_of Sz221 Nz221]
            show own_Go p e below s _ _ _ (T213.setTop (mkF m 290 #[iv p1, iv p2, iv p3, iv p4, iv p5, iv p6, rv b1, iv (2 : Int32), iv (3 : Int32), rv b207, rv r209, iv (1 : Int32)] [(.int (1 : Int32))]))
            refine own_go (fun zt zk => (XS.ifNo X213.here hx rfl (hb hby at_290) rfl ((if0 _ _).trans (tlt ((by decide) : (0 : Int32) < (1 : Int32))).2.2.2) (XS.aload X213.here hx rfl (hb hby at_293) rfl rfl (XS.iconst X213.here hx rfl (hb hby at_295) (XS.aload X213.here hx rfl (hb hby at_296) rfl rfl (XS.iconst X213.here hx rfl (hb hby at_298) zk)))))) ?_
            show own_Go p e below s _ _ _ (T213.setTop (mkF m 299 #[iv p1, iv p2, iv p3, iv p4, iv p5, iv p6, rv b1, iv (2 : Int32), iv (3 : Int32), rv b207, rv r209, iv (1 : Int32)] [(.int (0 : Int32)), (.ref r209), (.int (0 : Int32)), (.ref r209)]))
            obtain ⟨cl222, Ar222, q222, Sz222, Nz222, Ha222, Ga222⟩ := id V_r209
            have hin222 : ¬ ((0 : Int32) < 0 ∨ cl222.slots.size ≤ ((0 : Int32)).toNatClampNeg) := inb_of Sz222 ⟨by decide, by decide⟩
            have hat222 : cl222.slots[((0 : Int32)).toNatClampNeg]? = some (.int (p3.toInt8.toInt32)) := Has.at Ha222 hin222 rfl
            refine own_go (X213.baloadBytes hx (j := (0 : Int32)) (v := (.int (p3.toInt8.toInt32))) (by rw [e213]; exact Ar222.1) (State.isArrayOf_alike hZ.alike Ar222.2.1) Ar222.2.2 hin222 hat222 (g := (mkF m 299 #[iv p1, iv p2, iv p3, iv p4, iv p5, iv p6, rv b1, iv (2 : Int32), iv (3 : Int32), rv b207, rv r209, iv (1 : Int32)] [(.int (0 : Int32)), (.ref r209), (.int (0 : Int32)), (.ref r209)])) rfl rfl (hb hby at_299)) ?_
            show own_Go p e below s _ _ _ (T213.setTop (mkF m 300 #[iv p1, iv p2, iv p3, iv p4, iv p5, iv p6, rv b1, iv (2 : Int32), iv (3 : Int32), rv b207, rv r209, iv (1 : Int32)] [(.int (p3.toInt8.toInt32)), (.int (0 : Int32)), (.ref r209)]))
            refine own_go (fun zt zk => (XS.iconst X213.here hx rfl (hb hby at_300) (XS.ixor X213.here hx rfl (hb hby at_301) rfl (XS.i2b X213.here hx rfl (hb hby at_302) rfl zk)))) ?_
            show own_Go p e below s _ _ _ (T213.setTop (mkF m 303 #[iv p1, iv p2, iv p3, iv p4, iv p5, iv p6, rv b1, iv (2 : Int32), iv (3 : Int32), rv b207, rv r209, iv (1 : Int32)] [(.int (((p3.toInt8.toInt32) ^^^ (1 : Int32)).toInt8.toInt32)), (.int (0 : Int32)), (.ref r209)]))
            obtain ⟨cl223, Ar223, q223, Sz223, Nz223, Ha223, Ga223⟩ := id V_r209
            have hin223 : ¬ ((0 : Int32) < 0 ∨ cl223.slots.size ≤ ((0 : Int32)).toNatClampNeg) := inb_of Sz223 ⟨by decide, by decide⟩
            obtain ⟨T224, h224, X224, e224, W224, st224⟩ := stB X213 hx hZ e213 Ar223 (j := (0 : Int32)) hin223 (g := (mkF m 303 #[iv p1, iv p2, iv p3, iv p4, iv p5, iv p6, rv b1, iv (2 : Int32), iv (3 : Int32), rv b207, rv r209, iv (1 : Int32)] [(.int (((p3.toInt8.toInt32) ^^^ (1 : Int32)).toInt8.toInt32)), (.int (0 : Int32)), (.ref r209)])) rfl rfl (hb hby at_303)
            refine own_go st224 ?_
            rw [show nar .byte (((p3.toInt8.toInt32) ^^^ (1 : Int32)).toInt8.toInt32) = (((p3.toInt8.toInt32) ^^^ (1 : Int32)).toInt8.toInt32) from own_b8 _] at W224
            have V224 := Arv.set Ar223 q223 Sz223 Nz223 Ha223 Ga223 (fits_nar_byte _) W224 0 rfl (Nat.le_of_ble_eq_true rfl)
            have N224 := Fr.snoc X224 N213 g_r209
            replace Kp := Kp.wr W224 (Or.inr sz_r209)
            replace V_b1 := V_b1.other W224 ne_b1_r209
            replace Ea_b1 := Ea_b1.wr W224
            replace Ex_b207 := Ex_b207.wr W224
            replace F_start_b207 := F_start_b207.other W224 (Or.inl ne_b207_r209)
            replace F_end_b207 := F_end_b207.other W224 (Or.inl ne_b207_r209)
            replace Ea_r209 := Ea_r209.wr W224
            replace V_r209 : Arv Z h224 r209 kr209 .byte (1 : Int32) [(.int (((p3.toInt8.toInt32) ^^^ (1 : Int32)).toInt8.toInt32))] (.int (0 : Int32)) := V224
            show own_Go p e below s _ _ _ (T224.setTop (mkF m 304 #[iv p1, iv p2, iv p3, iv p4, iv p5, iv p6, rv b1, iv (2 : Int32), iv (3 : Int32), rv b207, rv r209, iv (1 : Int32)] []))
            refine own_go (fun zt zk => (XS.iload X224.here hx rfl (hb hby at_304) rfl (XS.ifNo X224.here hx rfl (hb hby at_306) rfl ((if0 _ _).trans (feq ((by decide) : ¬ ((1 : Int32) = (0 : Int32)))).1) (XS.aload X224.here hx rfl (hb hby at_309) rfl rfl (XS.iload X224.here hx rfl (hb hby at_311) rfl zk))))) ?_
            show own_Go p e below s _ _ _ (T224.setTop (mkF m 313 #[iv p1, iv p2, iv p3, iv p4, iv p5, iv p6, rv b1, iv (2 : Int32), iv (3 : Int32), rv b207, rv r209, iv (1 : Int32)] [(.int (2 : Int32)), (.ref b1)]))
            obtain ⟨cl225, Ar225, q225, Sz225, Nz225, Ha225, Ga225⟩ := id V_b1
            have hin225 : ¬ ((2 : Int32) < 0 ∨ cl225.slots.size ≤ ((2 : Int32)).toNatClampNeg) := inb_of Sz225 ⟨by decide, by decide⟩
            have hat225 : cl225.slots[((2 : Int32)).toNatClampNeg]? = some (.int (p3.toInt8.toInt32)) := Has.at Ha225 hin225 rfl
            refine own_go (X224.baloadBytes hx (j := (2 : Int32)) (v := (.int (p3.toInt8.toInt32))) (by rw [e224]; exact Ar225.1) (State.isArrayOf_alike hZ.alike Ar225.2.1) Ar225.2.2 hin225 hat225 (g := (mkF m 313 #[iv p1, iv p2, iv p3, iv p4, iv p5, iv p6, rv b1, iv (2 : Int32), iv (3 : Int32), rv b207, rv r209, iv (1 : Int32)] [(.int (2 : Int32)), (.ref b1)])) rfl rfl (hb hby at_313)) ?_
            show own_Go p e below s _ _ _ (T224.setTop (mkF m 314 #[iv p1, iv p2, iv p3, iv p4, iv p5, iv p6, rv b1, iv (2 : Int32), iv (3 : Int32), rv b207, rv r209, iv (1 : Int32)] [(.int (p3.toInt8.toInt32))]))
            refine own_go (fun zt zk => (XS.iload X224.here hx rfl (hb hby at_314) rfl (XS.iloadN X224.here hx rfl (hb hby at_316) rfl (XS.iloadN X224.here hx rfl (hb hby at_317) rfl (XS.iloadN X224.here hx rfl (hb hby at_318) rfl (XS.iloadN X224.here hx rfl (hb hby at_319) rfl zk)))))) ?_
            show own_Go p e below s _ _ _ (T224.setTop (mkF m 320 #[iv p1, iv p2, iv p3, iv p4, iv p5, iv p6, rv b1, iv (2 : Int32), iv (3 : Int32), rv b207, rv r209, iv (1 : Int32)] [(.int p4), (.int p3), (.int p2), (.int p1), (.int (2 : Int32)), (.int (p3.toInt8.toInt32))]))
            obtain ⟨_, _, ⟨T226, L226, k226, n226⟩, -, X226, ⟨Lc226, hQ226, l226, y226, z226⟩, st226⟩ := Jvm.LawKit.callS X224 hx (y := (⟨"com/example/tranche/tranche/model/SpanBytesInPinLaw", "at", "(IIIII)B"⟩ : MethodName)) hown (mvT hZ (hw _ (List.mem_of_getElem? (i := 43) rfl))) (mvT hZ (hw _ (List.mem_of_getElem? (i := 44) rfl))) (mvT hZ (hw _ (List.mem_of_getElem? (i := 45) rfl))) (mvT hZ (hw _ (List.mem_of_getElem? (i := 46) rfl))) (by decide) (backOf (W := 1) (own_rat2 l Z a0 hw [] p1 p2 p3 p4  h224 n0 (Nat.le_trans Z0 Kp.1) ) hZ (hw _ (List.mem_of_getElem? (i := 46) rfl)) (hw _ (List.mem_of_getElem? (i := 45) rfl)) (by decide) (by decide)) (g := (mkF m 320 #[iv p1, iv p2, iv p3, iv p4, iv p5, iv p6, rv b1, iv (2 : Int32), iv (3 : Int32), rv b207, rv r209, iv (1 : Int32)] [(.int p4), (.int p3), (.int p2), (.int p1), (.int (2 : Int32)), (.int (p3.toInt8.toInt32))])) rfl (by rw [hml]; rfl) (argsL := [(.int (2 : Int32)), (.int p1), (.int p2), (.int p3), (.int p4)]) (rest := [(.int (p3.toInt8.toInt32))]) (lenOf own_pd__IIIII_B rfl) rfl (by show 2 * 0 + _ ≤ _; exact Nat.le_of_eq rfl) (hb hby at_320) (fun _ _ => ⟨rfl, e224, (by decide : 3 + 0 ≤ _), (by decide : 7 + 0 ≤ _)⟩)
            dsimp only [Pt.U, Pt.locs, Pt.cells, Pt.slots] at X226 l226 y226 z226 st226 hQ226
            subst l226 y226 z226
            obtain ⟨rfl, Nq226, e226⟩ := hQ226
            have N226 := Fr.app N224 Nq226
            refine own_go st226 ?_
            show own_Go p e below s _ _ _ (T226.setTop (mkF m 323 #[iv p1, iv p2, iv p3, iv p4, iv p5, iv p6, rv b1, iv (2 : Int32), iv (3 : Int32), rv b207, rv r209, iv (1 : Int32)] [(.int (p3.toInt8.toInt32)), (.int (p3.toInt8.toInt32))]))
            refine own_go (fun zt zk => (XS.icmpNo X226.here hx rfl (hb hby at_323) rfl (teq (rfl : (p3.toInt8.toInt32) = (p3.toInt8.toInt32))).2 (XS.iconst X226.here hx rfl (hb hby at_326) (XS.goto X226.here hx rfl (pc0 := 327) (pc' := 331) rfl (hb hby at_327) (by decide) (by decide) (XS.istore X226.here hx rfl (hb hby at_331) rfl (l' := #[iv p1, iv p2, iv p3, iv p4, iv p5, iv p6, rv b1, iv (2 : Int32), iv (3 : Int32), rv b207, rv r209, iv (1 : Int32)]) rfl (XS.iload X226.here hx rfl (hb hby at_333) rfl zk)))))) ?_
            show own_Go p e below s _ _ _ (T226.setTop (mkF m 335 #[iv p1, iv p2, iv p3, iv p4, iv p5, iv p6, rv b1, iv (2 : Int32), iv (3 : Int32), rv b207, rv r209, iv (1 : Int32)] [(.int (1 : Int32))]))
            exact own_fin X226 Bd.notSynchronized (fun h => by rw [Bd.returns] at h; cases h) (fun fs hr => retN X226 hx (t := .boolean) Bd.returns (by simp) (hb hby at_335) hr) (by rw [e226]; exact ⟨rfl, N226⟩) (by decide) (by decide)
          · have hk2_en : en = (2 : Int32) := Int32.toInt_inj.mp (by have a := own_mod (D := 3) rfl (by decide) hv_en; have b0 := own_ne 0 rfl hk0_en; have b1 := own_ne 1 rfl hk1_en; show en.toInt = 2; omega)
            subst hk2_en
            show own_Go p e below s _ _ _ (T9.setTop (mkF m 46 #[iv p1, iv p2, iv p3, iv p4, iv p5, iv p6, rv b1, iv (2 : Int32), .unset, .unset, .unset, .unset] [(.int (2 : Int32)), (.int (2 : Int32))]))
            refine own_go (fun zt zk => (XS.iadd X9.here hx rfl (hb hby at_46) rfl (XS.istore X9.here hx rfl (hb hby at_47) rfl (l' := #[iv p1, iv p2, iv p3, iv p4, iv p5, iv p6, rv b1, iv (2 : Int32), iv (4 : Int32), .unset, .unset, .unset]) rfl zk))) ?_
            show own_Go p e below s _ _ _ (T9.setTop (mkF m 49 #[iv p1, iv p2, iv p3, iv p4, iv p5, iv p6, rv b1, iv (2 : Int32), iv (4 : Int32), .unset, .unset, .unset] []))
            obtain ⟨T227, h227, X227, e227, E227, A227, D227, -, st227⟩ := newO X9 hx hZ hown (hw _ (List.mem_of_getElem? (i := 2) rfl)) (hw _ (List.mem_of_getElem? (i := 3) rfl)) (hw _ (List.mem_of_getElem? (i := 4) rfl)) e9 (g := (mkF m 49 #[iv p1, iv p2, iv p3, iv p4, iv p5, iv p6, rv b1, iv (2 : Int32), iv (4 : Int32), .unset, .unset, .unset] [])) rfl (hb hby at_49) (by decide) (by decide)
            obtain ⟨b227, g227⟩ : ∃ z, z = h9.size := ⟨_, rfl⟩
            rw [← g227] at A227 D227 st227
            refine own_go st227 ?_
            have ne_b1_b227 : b1 ≠ b227 := Nat.ne_of_lt (Nat.lt_of_lt_of_le V_b1.lt (Nat.le_of_eq g227.symm))
            have sz_b227 : h0.size ≤ b227 := Nat.le_trans Kp.1 (Nat.le_of_eq g227.symm)
            have g_b227 : n0 ≤ b227 := Nat.le_trans Z0 sz_b227
            replace Kp := Kp.ext E227
            replace V_b1 := V_b1.ext E227
            replace Ea_b1 := Ea_b1.ext E227
            have Ex_b227 := A227
            have F_start_b227 : Fld Z h227 b227 "com/example/tranche/tranche/model/Span" "start" "I" (.int (0 : Int32)) := D227 (Or.inr (hw _ (List.mem_of_getElem? (i := 17) rfl))) (ty := .int) (by decide)
            have F_end_b227 : Fld Z h227 b227 "com/example/tranche/tranche/model/Span" "end" "I" (.int (0 : Int32)) := D227 (Or.inr (hw _ (List.mem_of_getElem? (i := 19) rfl))) (ty := .int) (by decide)
            show own_Go p e below s _ _ _ (T227.setTop (mkF m 52 #[iv p1, iv p2, iv p3, iv p4, iv p5, iv p6, rv b1, iv (2 : Int32), iv (4 : Int32), .unset, .unset, .unset] [(.ref b227)]))
            refine own_go (fun zt zk => (XS.dup X227.here hx rfl (hb hby at_52) rfl rfl (XS.iload X227.here hx rfl (hb hby at_53) rfl (XS.iload X227.here hx rfl (hb hby at_55) rfl zk)))) ?_
            show own_Go p e below s _ _ _ (T227.setTop (mkF m 57 #[iv p1, iv p2, iv p3, iv p4, iv p5, iv p6, rv b1, iv (2 : Int32), iv (4 : Int32), .unset, .unset, .unset] [(.int (4 : Int32)), (.int (2 : Int32)), (.ref b227), (.ref b227)]))
            obtain ⟨_, _, ⟨T228, L228, k228, n228⟩, -, X228, ⟨Lc228, hQ228, l228, y228, z228⟩, st228⟩ := X227.specialBack hx (y := (⟨"com/example/tranche/tranche/model/Span", "<init>", "(II)V"⟩ : MethodName)) rfl hown (mvT hZ (hw _ (List.mem_of_getElem? (i := 5) rfl))) (mvT hZ (hw _ (List.mem_of_getElem? (i := 6) rfl))) (mvT hZ (hw _ (List.mem_of_getElem? (i := 7) rfl))) (by decide) (backOf (W := 1) (own_rspan l Z a0 hw [] b227 (2 : Int32) (4 : Int32)  h227 n0 (Nat.le_trans Z0 Kp.1) Ex_b227 F_start_b227 F_end_b227 g_b227 (by decide) (by decide)) hZ (hw _ (List.mem_of_getElem? (i := 7) rfl)) (hw _ (List.mem_of_getElem? (i := 4) rfl)) (by decide) (by decide)) (g := (mkF m 57 #[iv p1, iv p2, iv p3, iv p4, iv p5, iv p6, rv b1, iv (2 : Int32), iv (4 : Int32), .unset, .unset, .unset] [(.int (4 : Int32)), (.int (2 : Int32)), (.ref b227), (.ref b227)])) rfl (by rw [hml]; rfl) (Steps.refl _) (a := b227) (argsL := [(.int (2 : Int32)), (.int (4 : Int32))]) (rest := [(.ref b227)]) (lenOf own_pd__II_V rfl) rfl (by show 2 * 0 + _ ≤ _; exact Nat.le_of_eq rfl) (hb hby at_57) (fun _ _ => ⟨rfl, e227, (by decide : 2 + 0 ≤ _), (by decide : 6 + 0 ≤ _)⟩)
            dsimp only [Pt.U, Pt.locs, Pt.cells, Pt.slots] at X228 l228 y228 z228 st228 hQ228
            subst l228 y228 z228
            obtain ⟨rfl, Nq228, K228, -, F_start_b227, F_end_b227⟩ := hQ228
            have N228 := Fr.app N9 Nq228
            refine own_go (fun zt zk => st228.trans zk) ?_
            replace Kp := Kp.trans K228 (allS (Or.inr sz_b227) all0)
            replace V_b1 := V_b1.keep K228 (ninS ne_b1_b227 nin0)
            replace Ea_b1 := Ea_b1.keep K228
            replace Ex_b227 := Ex_b227.keep K228
            show own_Go p e below s _ _ _ (T228.setTop (mkF m 60 #[iv p1, iv p2, iv p3, iv p4, iv p5, iv p6, rv b1, iv (2 : Int32), iv (4 : Int32), .unset, .unset, .unset] [(.ref b227)]))
            refine own_go (fun zt zk => (XS.astore X228.here hx rfl (hb hby at_60) rfl rfl (l' := #[iv p1, iv p2, iv p3, iv p4, iv p5, iv p6, rv b1, iv (2 : Int32), iv (4 : Int32), rv b227, .unset, .unset]) rfl (XS.aload X228.here hx rfl (hb hby at_62) rfl rfl (XS.aload X228.here hx rfl (hb hby at_64) rfl rfl zk)))) ?_
            show own_Go p e below s _ _ _ (T228.setTop (mkF m 66 #[iv p1, iv p2, iv p3, iv p4, iv p5, iv p6, rv b1, iv (2 : Int32), iv (4 : Int32), rv b227, .unset, .unset] [(.ref b1), (.ref b227)]))
            obtain ⟨cq229, kq229, qa229, qb229, qc229⟩ := isOf hZ rfl Ex_b227
            obtain ⟨_, _, ⟨T229, L229, k229, n229⟩, -, X229, ⟨Lc229, hQ229, l229, y229, z229⟩, st229⟩ := X228.virtualBack hx (y := (⟨"com/example/tranche/tranche/model/Span", "bytesIn", "([B)[B"⟩ : MethodName)) (z := (⟨"com/example/tranche/tranche/model/Span", "bytesIn", "([B)[B"⟩ : MethodName)) hown (mvT hZ (hw _ (List.mem_of_getElem? (i := 20) rfl))) (mvT hZ (hw _ (List.mem_of_getElem? (i := 21) rfl))) (notFace_of_selects (args := #[]) (mvT hZ (hw _ (List.mem_of_getElem? (i := 23) rfl)))) (mvT hZ (hw _ (List.mem_of_getElem? (i := 23) rfl))) (mvT hZ (hw _ (List.mem_of_getElem? (i := 22) rfl))) (by decide) (backOf (W := 0) (own_rbi24 l Z a0 hw [] b227 b1 k1 (.int (p1.toInt8.toInt32)) (.int (p2.toInt8.toInt32)) (.int (p3.toInt8.toInt32)) (.int (p4.toInt8.toInt32)) T228.heap n0 (Nat.le_trans Z0 Kp.1) V_b1 Ea_b1 F_start_b227 F_end_b227) hZ (hw _ (List.mem_of_getElem? (i := 24) rfl)) (hw _ (List.mem_of_getElem? (i := 4) rfl)) (by decide) (by decide)) qa229 qc229 (g := (mkF m 66 #[iv p1, iv p2, iv p3, iv p4, iv p5, iv p6, rv b1, iv (2 : Int32), iv (4 : Int32), rv b227, .unset, .unset] [(.ref b1), (.ref b227)])) rfl (by rw [hml]; rfl) (Steps.refl _) (argsL := [(.ref b1)]) (rest := []) (lenOf own_pd___B__B rfl) rfl (by show 2 * 0 + _ ≤ _; exact Nat.le_of_eq rfl) (hb hby at_66) (fun _ _ => ⟨rfl, rfl, (by decide : 2 + 1 ≤ _), (by decide : 6 + 2 ≤ _)⟩)
            dsimp only [Pt.U, Pt.locs, Pt.cells, Pt.slots] at X229 l229 y229 z229 st229 hQ229
            subst l229 y229 z229
            obtain ⟨r229, kr229, rfl, Nq229, K229, sr229, Ea_r229, V_r229⟩ := hQ229
            have sz_r229 := Nat.le_trans Kp.1 sr229
            have g_r229 := Nat.le_trans Z0 sz_r229
            have ne_b1_r229 : b1 ≠ r229 := Nat.ne_of_lt (Nat.lt_of_lt_of_le V_b1.lt sr229)
            have ne_b227_r229 : b227 ≠ r229 := Nat.ne_of_lt (Nat.lt_of_lt_of_le Ex_b227.lt sr229)
            have N229 := Fr.app N228 Nq229
            refine own_go (fun zt zk => st229.trans zk) ?_
            replace Kp := Kp.trans K229 all0
            replace V_b1 := V_b1.keep K229 nin0
            replace Ea_b1 := Ea_b1.keep K229
            replace Ex_b227 := Ex_b227.keep K229
            replace F_start_b227 := F_start_b227.keep K229 nin0
            replace F_end_b227 := F_end_b227.keep K229 nin0
            show own_Go p e below s _ _ _ (T229.setTop (mkF m 69 #[iv p1, iv p2, iv p3, iv p4, iv p5, iv p6, rv b1, iv (2 : Int32), iv (4 : Int32), rv b227, .unset, .unset] [(.ref r229)]))
            refine own_go (fun zt zk => (XS.astore X229.here hx rfl (hb hby at_69) rfl rfl (l' := #[iv p1, iv p2, iv p3, iv p4, iv p5, iv p6, rv b1, iv (2 : Int32), iv (4 : Int32), rv b227, rv r229, .unset]) rfl (XS.aload X229.here hx rfl (hb hby at_71) rfl rfl (XS.ifnonnullYes X229.here hx rfl (pc0 := 73) (pc' := 78) rfl (hb hby at_73) rfl (by decide) (by decide) (XS.aload X229.here hx rfl (hb hby at_78) rfl rfl zk))))) ?_
            show own_Go p e below s _ _ _ (T229.setTop (mkF m 80 #[iv p1, iv p2, iv p3, iv p4, iv p5, iv p6, rv b1, iv (2 : Int32), iv (4 : Int32), rv b227, rv r229, .unset] [(.ref r229)]))
            obtain ⟨cl230, Ar230, -, Sz230, Nz230, -, -⟩ := id V_r229
            refine own_go (X229.arraylength hx (by exact Ar230.1) (State.isArrayOf_alike hZ.alike Ar230.2.1) (g := (mkF m 80 #[iv p1, iv p2, iv p3, iv p4, iv p5, iv p6, rv b1, iv (2 : Int32), iv (4 : Int32), rv b227, rv r229, .unset] [(.ref r229)])) rfl rfl (hb hby at_80)) ?_
            rw [len_of Sz230 Nz230]
            show own_Go p e below s _ _ _ (T229.setTop (mkF m 81 #[iv p1, iv p2, iv p3, iv p4, iv p5, iv p6, rv b1, iv (2 : Int32), iv (4 : Int32), rv b227, rv r229, .unset] [(.int (2 : Int32))]))
            refine own_go (fun zt zk => (XS.iload X229.here hx rfl (hb hby at_81) rfl (XS.iload X229.here hx rfl (hb hby at_83) rfl (XS.isub X229.here hx rfl (hb hby at_85) rfl (XS.icmpYes X229.here hx rfl (pc0 := 86) (pc' := 91) rfl (hb hby at_86) rfl (teq (rfl : (2 : Int32) = (2 : Int32))).1 (by decide) (by decide) (XS.iconst X229.here hx rfl (hb hby at_91) (XS.istore X229.here hx rfl (hb hby at_92) rfl (l' := #[iv p1, iv p2, iv p3, iv p4, iv p5, iv p6, rv b1, iv (2 : Int32), iv (4 : Int32), rv b227, rv r229, iv (1 : Int32)]) rfl (XS.aload X229.here hx rfl (hb hby at_94) rfl rfl zk)))))))) ?_
            show own_Go p e below s _ _ _ (T229.setTop (mkF m 96 #[iv p1, iv p2, iv p3, iv p4, iv p5, iv p6, rv b1, iv (2 : Int32), iv (4 : Int32), rv b227, rv r229, iv (1 : Int32)] [(.ref r229)]))
            obtain ⟨cl231, Ar231, -, Sz231, Nz231, -, -⟩ := id V_r229
            refine own_go (X229.arraylength hx (by exact Ar231.1) (State.isArrayOf_alike hZ.alike Ar231.2.1) (g := (mkF m 96 #[iv p1, iv p2, iv p3, iv p4, iv p5, iv p6, rv b1, iv (2 : Int32), iv (4 : Int32), rv b227, rv r229, iv (1 : Int32)] [(.ref r229)])) rfl rfl (hb hby at_96)) ?_
            rw [len_of Sz231 Nz231]
            show own_Go p e below s _ _ _ (T229.setTop (mkF m 97 #[iv p1, iv p2, iv p3, iv p4, iv p5, iv p6, rv b1, iv (2 : Int32), iv (4 : Int32), rv b227, rv r229, iv (1 : Int32)] [(.int (2 : Int32))]))
            refine own_go (fun zt zk => (XS.ifNo X229.here hx rfl (hb hby at_97) rfl ((if0 _ _).trans (tlt ((by decide) : (0 : Int32) < (2 : Int32))).2.2.2) (XS.iload X229.here hx rfl (hb hby at_100) rfl (XS.ifNo X229.here hx rfl (hb hby at_102) rfl ((if0 _ _).trans (feq ((by decide) : ¬ ((1 : Int32) = (0 : Int32)))).1) (XS.aload X229.here hx rfl (hb hby at_105) rfl rfl (XS.iconst X229.here hx rfl (hb hby at_107) zk)))))) ?_
            show own_Go p e below s _ _ _ (T229.setTop (mkF m 108 #[iv p1, iv p2, iv p3, iv p4, iv p5, iv p6, rv b1, iv (2 : Int32), iv (4 : Int32), rv b227, rv r229, iv (1 : Int32)] [(.int (0 : Int32)), (.ref r229)]))
            obtain ⟨cl232, Ar232, q232, Sz232, Nz232, Ha232, Ga232⟩ := id V_r229
            have hin232 : ¬ ((0 : Int32) < 0 ∨ cl232.slots.size ≤ ((0 : Int32)).toNatClampNeg) := inb_of Sz232 ⟨by decide, by decide⟩
            have hat232 : cl232.slots[((0 : Int32)).toNatClampNeg]? = some (.int (p3.toInt8.toInt32)) := Has.at Ha232 hin232 rfl
            refine own_go (X229.baloadBytes hx (j := (0 : Int32)) (v := (.int (p3.toInt8.toInt32))) (by exact Ar232.1) (State.isArrayOf_alike hZ.alike Ar232.2.1) Ar232.2.2 hin232 hat232 (g := (mkF m 108 #[iv p1, iv p2, iv p3, iv p4, iv p5, iv p6, rv b1, iv (2 : Int32), iv (4 : Int32), rv b227, rv r229, iv (1 : Int32)] [(.int (0 : Int32)), (.ref r229)])) rfl rfl (hb hby at_108)) ?_
            show own_Go p e below s _ _ _ (T229.setTop (mkF m 109 #[iv p1, iv p2, iv p3, iv p4, iv p5, iv p6, rv b1, iv (2 : Int32), iv (4 : Int32), rv b227, rv r229, iv (1 : Int32)] [(.int (p3.toInt8.toInt32))]))
            refine own_go (fun zt zk => (XS.iload X229.here hx rfl (hb hby at_109) rfl (XS.iloadN X229.here hx rfl (hb hby at_111) rfl (XS.iloadN X229.here hx rfl (hb hby at_112) rfl (XS.iloadN X229.here hx rfl (hb hby at_113) rfl (XS.iloadN X229.here hx rfl (hb hby at_114) rfl zk)))))) ?_
            show own_Go p e below s _ _ _ (T229.setTop (mkF m 115 #[iv p1, iv p2, iv p3, iv p4, iv p5, iv p6, rv b1, iv (2 : Int32), iv (4 : Int32), rv b227, rv r229, iv (1 : Int32)] [(.int p4), (.int p3), (.int p2), (.int p1), (.int (2 : Int32)), (.int (p3.toInt8.toInt32))]))
            obtain ⟨_, _, ⟨T233, L233, k233, n233⟩, -, X233, ⟨Lc233, hQ233, l233, y233, z233⟩, st233⟩ := Jvm.LawKit.callS X229 hx (y := (⟨"com/example/tranche/tranche/model/SpanBytesInPinLaw", "at", "(IIIII)B"⟩ : MethodName)) hown (mvT hZ (hw _ (List.mem_of_getElem? (i := 43) rfl))) (mvT hZ (hw _ (List.mem_of_getElem? (i := 44) rfl))) (mvT hZ (hw _ (List.mem_of_getElem? (i := 45) rfl))) (mvT hZ (hw _ (List.mem_of_getElem? (i := 46) rfl))) (by decide) (backOf (W := 1) (own_rat2 l Z a0 hw [] p1 p2 p3 p4  T229.heap n0 (Nat.le_trans Z0 Kp.1) ) hZ (hw _ (List.mem_of_getElem? (i := 46) rfl)) (hw _ (List.mem_of_getElem? (i := 45) rfl)) (by decide) (by decide)) (g := (mkF m 115 #[iv p1, iv p2, iv p3, iv p4, iv p5, iv p6, rv b1, iv (2 : Int32), iv (4 : Int32), rv b227, rv r229, iv (1 : Int32)] [(.int p4), (.int p3), (.int p2), (.int p1), (.int (2 : Int32)), (.int (p3.toInt8.toInt32))])) rfl (by rw [hml]; rfl) (argsL := [(.int (2 : Int32)), (.int p1), (.int p2), (.int p3), (.int p4)]) (rest := [(.int (p3.toInt8.toInt32))]) (lenOf own_pd__IIIII_B rfl) rfl (by show 2 * 0 + _ ≤ _; exact Nat.le_of_eq rfl) (hb hby at_115) (fun _ _ => ⟨rfl, rfl, (by decide : 3 + 0 ≤ _), (by decide : 8 + 0 ≤ _)⟩)
            dsimp only [Pt.U, Pt.locs, Pt.cells, Pt.slots] at X233 l233 y233 z233 st233 hQ233
            subst l233 y233 z233
            obtain ⟨rfl, Nq233, e233⟩ := hQ233
            have N233 := Fr.app N229 Nq233
            refine own_go st233 ?_
            show own_Go p e below s _ _ _ (T233.setTop (mkF m 118 #[iv p1, iv p2, iv p3, iv p4, iv p5, iv p6, rv b1, iv (2 : Int32), iv (4 : Int32), rv b227, rv r229, iv (1 : Int32)] [(.int (p3.toInt8.toInt32)), (.int (p3.toInt8.toInt32))]))
            refine own_go (fun zt zk => (XS.icmpNo X233.here hx rfl (hb hby at_118) rfl (teq (rfl : (p3.toInt8.toInt32) = (p3.toInt8.toInt32))).2 (XS.iconst X233.here hx rfl (hb hby at_121) (XS.goto X233.here hx rfl (pc0 := 122) (pc' := 126) rfl (hb hby at_122) (by decide) (by decide) (XS.istore X233.here hx rfl (hb hby at_126) rfl (l' := #[iv p1, iv p2, iv p3, iv p4, iv p5, iv p6, rv b1, iv (2 : Int32), iv (4 : Int32), rv b227, rv r229, iv (1 : Int32)]) rfl (XS.aload X233.here hx rfl (hb hby at_128) rfl rfl zk)))))) ?_
            show own_Go p e below s _ _ _ (T233.setTop (mkF m 130 #[iv p1, iv p2, iv p3, iv p4, iv p5, iv p6, rv b1, iv (2 : Int32), iv (4 : Int32), rv b227, rv r229, iv (1 : Int32)] [(.ref r229)]))
            obtain ⟨cl234, Ar234, -, Sz234, Nz234, -, -⟩ := id V_r229
            refine own_go (X233.arraylength hx (by rw [e233]; exact Ar234.1) (State.isArrayOf_alike hZ.alike Ar234.2.1) (g := (mkF m 130 #[iv p1, iv p2, iv p3, iv p4, iv p5, iv p6, rv b1, iv (2 : Int32), iv (4 : Int32), rv b227, rv r229, iv (1 : Int32)] [(.ref r229)])) rfl rfl (hb hby at_130)) ?_
            rw [len_of Sz234 Nz234]
            show own_Go p e below s _ _ _ (T233.setTop (mkF m 131 #[iv p1, iv p2, iv p3, iv p4, iv p5, iv p6, rv b1, iv (2 : Int32), iv (4 : Int32), rv b227, rv r229, iv (1 : Int32)] [(.int (2 : Int32))]))
            refine own_go (fun zt zk => (XS.iconst X233.here hx rfl (hb hby at_131) (XS.icmpNo X233.here hx rfl (hb hby at_132) rfl (tlt ((by decide) : (1 : Int32) < (2 : Int32))).2.2.2 (XS.iload X233.here hx rfl (hb hby at_135) rfl (XS.ifNo X233.here hx rfl (hb hby at_137) rfl ((if0 _ _).trans (feq ((by decide) : ¬ ((1 : Int32) = (0 : Int32)))).1) (XS.aload X233.here hx rfl (hb hby at_140) rfl rfl (XS.iconst X233.here hx rfl (hb hby at_142) zk))))))) ?_
            show own_Go p e below s _ _ _ (T233.setTop (mkF m 143 #[iv p1, iv p2, iv p3, iv p4, iv p5, iv p6, rv b1, iv (2 : Int32), iv (4 : Int32), rv b227, rv r229, iv (1 : Int32)] [(.int (1 : Int32)), (.ref r229)]))
            obtain ⟨cl235, Ar235, q235, Sz235, Nz235, Ha235, Ga235⟩ := id V_r229
            have hin235 : ¬ ((1 : Int32) < 0 ∨ cl235.slots.size ≤ ((1 : Int32)).toNatClampNeg) := inb_of Sz235 ⟨by decide, by decide⟩
            have hat235 : cl235.slots[((1 : Int32)).toNatClampNeg]? = some (.int (p4.toInt8.toInt32)) := Has.at Ha235 hin235 rfl
            refine own_go (X233.baloadBytes hx (j := (1 : Int32)) (v := (.int (p4.toInt8.toInt32))) (by rw [e233]; exact Ar235.1) (State.isArrayOf_alike hZ.alike Ar235.2.1) Ar235.2.2 hin235 hat235 (g := (mkF m 143 #[iv p1, iv p2, iv p3, iv p4, iv p5, iv p6, rv b1, iv (2 : Int32), iv (4 : Int32), rv b227, rv r229, iv (1 : Int32)] [(.int (1 : Int32)), (.ref r229)])) rfl rfl (hb hby at_143)) ?_
            show own_Go p e below s _ _ _ (T233.setTop (mkF m 144 #[iv p1, iv p2, iv p3, iv p4, iv p5, iv p6, rv b1, iv (2 : Int32), iv (4 : Int32), rv b227, rv r229, iv (1 : Int32)] [(.int (p4.toInt8.toInt32))]))
            refine own_go (fun zt zk => (XS.iload X233.here hx rfl (hb hby at_144) rfl (XS.iconst X233.here hx rfl (hb hby at_146) (XS.iadd X233.here hx rfl (hb hby at_147) rfl (XS.iloadN X233.here hx rfl (hb hby at_148) rfl (XS.iloadN X233.here hx rfl (hb hby at_149) rfl (XS.iloadN X233.here hx rfl (hb hby at_150) rfl (XS.iloadN X233.here hx rfl (hb hby at_151) rfl zk)))))))) ?_
            show own_Go p e below s _ _ _ (T233.setTop (mkF m 152 #[iv p1, iv p2, iv p3, iv p4, iv p5, iv p6, rv b1, iv (2 : Int32), iv (4 : Int32), rv b227, rv r229, iv (1 : Int32)] [(.int p4), (.int p3), (.int p2), (.int p1), (.int (3 : Int32)), (.int (p4.toInt8.toInt32))]))
            obtain ⟨_, _, ⟨T236, L236, k236, n236⟩, -, X236, ⟨Lc236, hQ236, l236, y236, z236⟩, st236⟩ := Jvm.LawKit.callS X233 hx (y := (⟨"com/example/tranche/tranche/model/SpanBytesInPinLaw", "at", "(IIIII)B"⟩ : MethodName)) hown (mvT hZ (hw _ (List.mem_of_getElem? (i := 43) rfl))) (mvT hZ (hw _ (List.mem_of_getElem? (i := 44) rfl))) (mvT hZ (hw _ (List.mem_of_getElem? (i := 45) rfl))) (mvT hZ (hw _ (List.mem_of_getElem? (i := 46) rfl))) (by decide) (backOf (W := 1) (own_rat3 l Z a0 hw [] p1 p2 p3 p4  T229.heap n0 (Nat.le_trans Z0 Kp.1) ) hZ (hw _ (List.mem_of_getElem? (i := 46) rfl)) (hw _ (List.mem_of_getElem? (i := 45) rfl)) (by decide) (by decide)) (g := (mkF m 152 #[iv p1, iv p2, iv p3, iv p4, iv p5, iv p6, rv b1, iv (2 : Int32), iv (4 : Int32), rv b227, rv r229, iv (1 : Int32)] [(.int p4), (.int p3), (.int p2), (.int p1), (.int (3 : Int32)), (.int (p4.toInt8.toInt32))])) rfl (by rw [hml]; rfl) (argsL := [(.int (3 : Int32)), (.int p1), (.int p2), (.int p3), (.int p4)]) (rest := [(.int (p4.toInt8.toInt32))]) (lenOf own_pd__IIIII_B rfl) rfl (by show 2 * 0 + _ ≤ _; exact Nat.le_of_eq rfl) (hb hby at_152) (fun _ _ => ⟨rfl, e233, (by decide : 3 + 0 ≤ _), (by decide : 8 + 0 ≤ _)⟩)
            dsimp only [Pt.U, Pt.locs, Pt.cells, Pt.slots] at X236 l236 y236 z236 st236 hQ236
            subst l236 y236 z236
            obtain ⟨rfl, Nq236, e236⟩ := hQ236
            have N236 := Fr.app N233 Nq236
            refine own_go st236 ?_
            show own_Go p e below s _ _ _ (T236.setTop (mkF m 155 #[iv p1, iv p2, iv p3, iv p4, iv p5, iv p6, rv b1, iv (2 : Int32), iv (4 : Int32), rv b227, rv r229, iv (1 : Int32)] [(.int (p4.toInt8.toInt32)), (.int (p4.toInt8.toInt32))]))
            refine own_go (fun zt zk => (XS.icmpNo X236.here hx rfl (hb hby at_155) rfl (teq (rfl : (p4.toInt8.toInt32) = (p4.toInt8.toInt32))).2 (XS.iconst X236.here hx rfl (hb hby at_158) (XS.goto X236.here hx rfl (pc0 := 159) (pc' := 163) rfl (hb hby at_159) (by decide) (by decide) (XS.istore X236.here hx rfl (hb hby at_163) rfl (l' := #[iv p1, iv p2, iv p3, iv p4, iv p5, iv p6, rv b1, iv (2 : Int32), iv (4 : Int32), rv b227, rv r229, iv (1 : Int32)]) rfl (XS.aload X236.here hx rfl (hb hby at_165) rfl rfl zk)))))) ?_
            show own_Go p e below s _ _ _ (T236.setTop (mkF m 167 #[iv p1, iv p2, iv p3, iv p4, iv p5, iv p6, rv b1, iv (2 : Int32), iv (4 : Int32), rv b227, rv r229, iv (1 : Int32)] [(.ref r229)]))
            obtain ⟨cl237, Ar237, -, Sz237, Nz237, -, -⟩ := id V_r229
            refine own_go (X236.arraylength hx (by rw [e236]; exact Ar237.1) (State.isArrayOf_alike hZ.alike Ar237.2.1) (g := (mkF m 167 #[iv p1, iv p2, iv p3, iv p4, iv p5, iv p6, rv b1, iv (2 : Int32), iv (4 : Int32), rv b227, rv r229, iv (1 : Int32)] [(.ref r229)])) rfl rfl (hb hby at_167)) ?_
            rw [len_of Sz237 Nz237]
            show own_Go p e below s _ _ _ (T236.setTop (mkF m 168 #[iv p1, iv p2, iv p3, iv p4, iv p5, iv p6, rv b1, iv (2 : Int32), iv (4 : Int32), rv b227, rv r229, iv (1 : Int32)] [(.int (2 : Int32))]))
            refine own_go (fun zt zk => (XS.iconst X236.here hx rfl (hb hby at_168) (XS.icmpYes X236.here hx rfl (pc0 := 169) (pc' := 202) rfl (hb hby at_169) rfl (flt ((own_irr _) : ¬ ((2 : Int32) < (2 : Int32)))).2.2.2 (by decide) (by decide) (XS.aload X236.here hx rfl (hb hby at_202) rfl rfl zk)))) ?_
            show own_Go p e below s _ _ _ (T236.setTop (mkF m 204 #[iv p1, iv p2, iv p3, iv p4, iv p5, iv p6, rv b1, iv (2 : Int32), iv (4 : Int32), rv b227, rv r229, iv (1 : Int32)] [(.ref r229)]))
            obtain ⟨cl238, Ar238, -, Sz238, Nz238, -, -⟩ := id V_r229
            refine own_go (X236.arraylength hx (by rw [e236]; exact Ar238.1) (State.isArrayOf_alike hZ.alike Ar238.2.1) (g := (mkF m 204 #[iv p1, iv p2, iv p3, iv p4, iv p5, iv p6, rv b1, iv (2 : Int32), iv (4 : Int32), rv b227, rv r229, iv (1 : Int32)] [(.ref r229)])) rfl rfl (hb hby at_204)) ?_
            rw [len_of Sz238 Nz238]
            show own_Go p e below s _ _ _ (T236.setTop (mkF m 205 #[iv p1, iv p2, iv p3, iv p4, iv p5, iv p6, rv b1, iv (2 : Int32), iv (4 : Int32), rv b227, rv r229, iv (1 : Int32)] [(.int (2 : Int32))]))
            refine own_go (fun zt zk => (XS.iconst X236.here hx rfl (hb hby at_205) (XS.icmpYes X236.here hx rfl (pc0 := 206) (pc' := 239) rfl (hb hby at_206) rfl (flt ((by decide) : ¬ ((3 : Int32) < (2 : Int32)))).2.2.2 (by decide) (by decide) (XS.iload X236.here hx rfl (hb hby at_239) rfl (XS.ifNo X236.here hx rfl (hb hby at_241) rfl ((if0 _ _).trans (feq ((by decide) : ¬ ((1 : Int32) = (0 : Int32)))).1) (XS.aload X236.here hx rfl (hb hby at_244) rfl rfl (XS.iconst X236.here hx rfl (hb hby at_246) zk))))))) ?_
            show own_Go p e below s _ _ _ (T236.setTop (mkF m 247 #[iv p1, iv p2, iv p3, iv p4, iv p5, iv p6, rv b1, iv (2 : Int32), iv (4 : Int32), rv b227, rv r229, iv (1 : Int32)] [(.int (0 : Int32)), (.ref b1)]))
            obtain ⟨cl239, Ar239, q239, Sz239, Nz239, Ha239, Ga239⟩ := id V_b1
            have hin239 : ¬ ((0 : Int32) < 0 ∨ cl239.slots.size ≤ ((0 : Int32)).toNatClampNeg) := inb_of Sz239 ⟨by decide, by decide⟩
            have hat239 : cl239.slots[((0 : Int32)).toNatClampNeg]? = some (.int (p1.toInt8.toInt32)) := Has.at Ha239 hin239 rfl
            refine own_go (X236.baloadBytes hx (j := (0 : Int32)) (v := (.int (p1.toInt8.toInt32))) (by rw [e236]; exact Ar239.1) (State.isArrayOf_alike hZ.alike Ar239.2.1) Ar239.2.2 hin239 hat239 (g := (mkF m 247 #[iv p1, iv p2, iv p3, iv p4, iv p5, iv p6, rv b1, iv (2 : Int32), iv (4 : Int32), rv b227, rv r229, iv (1 : Int32)] [(.int (0 : Int32)), (.ref b1)])) rfl rfl (hb hby at_247)) ?_
            show own_Go p e below s _ _ _ (T236.setTop (mkF m 248 #[iv p1, iv p2, iv p3, iv p4, iv p5, iv p6, rv b1, iv (2 : Int32), iv (4 : Int32), rv b227, rv r229, iv (1 : Int32)] [(.int (p1.toInt8.toInt32))]))
            refine own_go (fun zt zk => (XS.iloadN X236.here hx rfl (hb hby at_248) rfl (XS.i2b X236.here hx rfl (hb hby at_249) rfl (XS.icmpNo X236.here hx rfl (hb hby at_250) rfl (teq (rfl : (p1.toInt8.toInt32) = (p1.toInt8.toInt32))).2 (XS.aload X236.here hx rfl (hb hby at_253) rfl rfl (XS.iconst X236.here hx rfl (hb hby at_255) zk)))))) ?_
            show own_Go p e below s _ _ _ (T236.setTop (mkF m 256 #[iv p1, iv p2, iv p3, iv p4, iv p5, iv p6, rv b1, iv (2 : Int32), iv (4 : Int32), rv b227, rv r229, iv (1 : Int32)] [(.int (1 : Int32)), (.ref b1)]))
            obtain ⟨cl240, Ar240, q240, Sz240, Nz240, Ha240, Ga240⟩ := id V_b1
            have hin240 : ¬ ((1 : Int32) < 0 ∨ cl240.slots.size ≤ ((1 : Int32)).toNatClampNeg) := inb_of Sz240 ⟨by decide, by decide⟩
            have hat240 : cl240.slots[((1 : Int32)).toNatClampNeg]? = some (.int (p2.toInt8.toInt32)) := Has.at Ha240 hin240 rfl
            refine own_go (X236.baloadBytes hx (j := (1 : Int32)) (v := (.int (p2.toInt8.toInt32))) (by rw [e236]; exact Ar240.1) (State.isArrayOf_alike hZ.alike Ar240.2.1) Ar240.2.2 hin240 hat240 (g := (mkF m 256 #[iv p1, iv p2, iv p3, iv p4, iv p5, iv p6, rv b1, iv (2 : Int32), iv (4 : Int32), rv b227, rv r229, iv (1 : Int32)] [(.int (1 : Int32)), (.ref b1)])) rfl rfl (hb hby at_256)) ?_
            show own_Go p e below s _ _ _ (T236.setTop (mkF m 257 #[iv p1, iv p2, iv p3, iv p4, iv p5, iv p6, rv b1, iv (2 : Int32), iv (4 : Int32), rv b227, rv r229, iv (1 : Int32)] [(.int (p2.toInt8.toInt32))]))
            refine own_go (fun zt zk => (XS.iloadN X236.here hx rfl (hb hby at_257) rfl (XS.i2b X236.here hx rfl (hb hby at_258) rfl (XS.icmpNo X236.here hx rfl (hb hby at_259) rfl (teq (rfl : (p2.toInt8.toInt32) = (p2.toInt8.toInt32))).2 (XS.aload X236.here hx rfl (hb hby at_262) rfl rfl (XS.iconst X236.here hx rfl (hb hby at_264) zk)))))) ?_
            show own_Go p e below s _ _ _ (T236.setTop (mkF m 265 #[iv p1, iv p2, iv p3, iv p4, iv p5, iv p6, rv b1, iv (2 : Int32), iv (4 : Int32), rv b227, rv r229, iv (1 : Int32)] [(.int (2 : Int32)), (.ref b1)]))
            obtain ⟨cl241, Ar241, q241, Sz241, Nz241, Ha241, Ga241⟩ := id V_b1
            have hin241 : ¬ ((2 : Int32) < 0 ∨ cl241.slots.size ≤ ((2 : Int32)).toNatClampNeg) := inb_of Sz241 ⟨by decide, by decide⟩
            have hat241 : cl241.slots[((2 : Int32)).toNatClampNeg]? = some (.int (p3.toInt8.toInt32)) := Has.at Ha241 hin241 rfl
            refine own_go (X236.baloadBytes hx (j := (2 : Int32)) (v := (.int (p3.toInt8.toInt32))) (by rw [e236]; exact Ar241.1) (State.isArrayOf_alike hZ.alike Ar241.2.1) Ar241.2.2 hin241 hat241 (g := (mkF m 265 #[iv p1, iv p2, iv p3, iv p4, iv p5, iv p6, rv b1, iv (2 : Int32), iv (4 : Int32), rv b227, rv r229, iv (1 : Int32)] [(.int (2 : Int32)), (.ref b1)])) rfl rfl (hb hby at_265)) ?_
            show own_Go p e below s _ _ _ (T236.setTop (mkF m 266 #[iv p1, iv p2, iv p3, iv p4, iv p5, iv p6, rv b1, iv (2 : Int32), iv (4 : Int32), rv b227, rv r229, iv (1 : Int32)] [(.int (p3.toInt8.toInt32))]))
            refine own_go (fun zt zk => (XS.iloadN X236.here hx rfl (hb hby at_266) rfl (XS.i2b X236.here hx rfl (hb hby at_267) rfl (XS.icmpNo X236.here hx rfl (hb hby at_268) rfl (teq (rfl : (p3.toInt8.toInt32) = (p3.toInt8.toInt32))).2 (XS.aload X236.here hx rfl (hb hby at_271) rfl rfl (XS.iconst X236.here hx rfl (hb hby at_273) zk)))))) ?_
            show own_Go p e below s _ _ _ (T236.setTop (mkF m 274 #[iv p1, iv p2, iv p3, iv p4, iv p5, iv p6, rv b1, iv (2 : Int32), iv (4 : Int32), rv b227, rv r229, iv (1 : Int32)] [(.int (3 : Int32)), (.ref b1)]))
            obtain ⟨cl242, Ar242, q242, Sz242, Nz242, Ha242, Ga242⟩ := id V_b1
            have hin242 : ¬ ((3 : Int32) < 0 ∨ cl242.slots.size ≤ ((3 : Int32)).toNatClampNeg) := inb_of Sz242 ⟨by decide, by decide⟩
            have hat242 : cl242.slots[((3 : Int32)).toNatClampNeg]? = some (.int (p4.toInt8.toInt32)) := Has.at Ha242 hin242 rfl
            refine own_go (X236.baloadBytes hx (j := (3 : Int32)) (v := (.int (p4.toInt8.toInt32))) (by rw [e236]; exact Ar242.1) (State.isArrayOf_alike hZ.alike Ar242.2.1) Ar242.2.2 hin242 hat242 (g := (mkF m 274 #[iv p1, iv p2, iv p3, iv p4, iv p5, iv p6, rv b1, iv (2 : Int32), iv (4 : Int32), rv b227, rv r229, iv (1 : Int32)] [(.int (3 : Int32)), (.ref b1)])) rfl rfl (hb hby at_274)) ?_
            show own_Go p e below s _ _ _ (T236.setTop (mkF m 275 #[iv p1, iv p2, iv p3, iv p4, iv p5, iv p6, rv b1, iv (2 : Int32), iv (4 : Int32), rv b227, rv r229, iv (1 : Int32)] [(.int (p4.toInt8.toInt32))]))
            refine own_go (fun zt zk => (XS.iloadN X236.here hx rfl (hb hby at_275) rfl (XS.i2b X236.here hx rfl (hb hby at_276) rfl (XS.icmpNo X236.here hx rfl (hb hby at_277) rfl (teq (rfl : (p4.toInt8.toInt32) = (p4.toInt8.toInt32))).2 (XS.iconst X236.here hx rfl (hb hby at_280) (XS.goto X236.here hx rfl (pc0 := 281) (pc' := 285) rfl (hb hby at_281) (by decide) (by decide) (XS.istore X236.here hx rfl (hb hby at_285) rfl (l' := #[iv p1, iv p2, iv p3, iv p4, iv p5, iv p6, rv b1, iv (2 : Int32), iv (4 : Int32), rv b227, rv r229, iv (1 : Int32)]) rfl (XS.aload X236.here hx rfl (hb hby at_287) rfl rfl zk)))))))) ?_
            show own_Go p e below s _ _ _ (T236.setTop (mkF m 289 #[iv p1, iv p2, iv p3, iv p4, iv p5, iv p6, rv b1, iv (2 : Int32), iv (4 : Int32), rv b227, rv r229, iv (1 : Int32)] [(.ref r229)]))
            obtain ⟨cl243, Ar243, -, Sz243, Nz243, -, -⟩ := id V_r229
            refine own_go (X236.arraylength hx (by rw [e236]; exact Ar243.1) (State.isArrayOf_alike hZ.alike Ar243.2.1) (g := (mkF m 289 #[iv p1, iv p2, iv p3, iv p4, iv p5, iv p6, rv b1, iv (2 : Int32), iv (4 : Int32), rv b227, rv r229, iv (1 : Int32)] [(.ref r229)])) rfl rfl (hb hby at_289)) ?_
            rw [len_of Sz243 Nz243]
            show own_Go p e below s _ _ _ (T236.setTop (mkF m 290 #[iv p1, iv p2, iv p3, iv p4, iv p5, iv p6, rv b1, iv (2 : Int32), iv (4 : Int32), rv b227, rv r229, iv (1 : Int32)] [(.int (2 : Int32))]))
            refine own_go (fun zt zk => (XS.ifNo X236.here hx rfl (hb hby at_290) rfl ((if0 _ _).trans (tlt ((by decide) : (0 : Int32) < (2 : Int32))).2.2.2) (XS.aload X236.here hx rfl (hb hby at_293) rfl rfl (XS.iconst X236.here hx rfl (hb hby at_295) (XS.aload X236.here hx rfl (hb hby at_296) rfl rfl (XS.iconst X236.here hx rfl (hb hby at_298) zk)))))) ?_
            show own_Go p e below s _ _ _ (T236.setTop (mkF m 299 #[iv p1, iv p2, iv p3, iv p4, iv p5, iv p6, rv b1, iv (2 : Int32), iv (4 : Int32), rv b227, rv r229, iv (1 : Int32)] [(.int (0 : Int32)), (.ref r229), (.int (0 : Int32)), (.ref r229)]))
            obtain ⟨cl244, Ar244, q244, Sz244, Nz244, Ha244, Ga244⟩ := id V_r229
            have hin244 : ¬ ((0 : Int32) < 0 ∨ cl244.slots.size ≤ ((0 : Int32)).toNatClampNeg) := inb_of Sz244 ⟨by decide, by decide⟩
            have hat244 : cl244.slots[((0 : Int32)).toNatClampNeg]? = some (.int (p3.toInt8.toInt32)) := Has.at Ha244 hin244 rfl
            refine own_go (X236.baloadBytes hx (j := (0 : Int32)) (v := (.int (p3.toInt8.toInt32))) (by rw [e236]; exact Ar244.1) (State.isArrayOf_alike hZ.alike Ar244.2.1) Ar244.2.2 hin244 hat244 (g := (mkF m 299 #[iv p1, iv p2, iv p3, iv p4, iv p5, iv p6, rv b1, iv (2 : Int32), iv (4 : Int32), rv b227, rv r229, iv (1 : Int32)] [(.int (0 : Int32)), (.ref r229), (.int (0 : Int32)), (.ref r229)])) rfl rfl (hb hby at_299)) ?_
            show own_Go p e below s _ _ _ (T236.setTop (mkF m 300 #[iv p1, iv p2, iv p3, iv p4, iv p5, iv p6, rv b1, iv (2 : Int32), iv (4 : Int32), rv b227, rv r229, iv (1 : Int32)] [(.int (p3.toInt8.toInt32)), (.int (0 : Int32)), (.ref r229)]))
            refine own_go (fun zt zk => (XS.iconst X236.here hx rfl (hb hby at_300) (XS.ixor X236.here hx rfl (hb hby at_301) rfl (XS.i2b X236.here hx rfl (hb hby at_302) rfl zk)))) ?_
            show own_Go p e below s _ _ _ (T236.setTop (mkF m 303 #[iv p1, iv p2, iv p3, iv p4, iv p5, iv p6, rv b1, iv (2 : Int32), iv (4 : Int32), rv b227, rv r229, iv (1 : Int32)] [(.int (((p3.toInt8.toInt32) ^^^ (1 : Int32)).toInt8.toInt32)), (.int (0 : Int32)), (.ref r229)]))
            obtain ⟨cl245, Ar245, q245, Sz245, Nz245, Ha245, Ga245⟩ := id V_r229
            have hin245 : ¬ ((0 : Int32) < 0 ∨ cl245.slots.size ≤ ((0 : Int32)).toNatClampNeg) := inb_of Sz245 ⟨by decide, by decide⟩
            obtain ⟨T246, h246, X246, e246, W246, st246⟩ := stB X236 hx hZ e236 Ar245 (j := (0 : Int32)) hin245 (g := (mkF m 303 #[iv p1, iv p2, iv p3, iv p4, iv p5, iv p6, rv b1, iv (2 : Int32), iv (4 : Int32), rv b227, rv r229, iv (1 : Int32)] [(.int (((p3.toInt8.toInt32) ^^^ (1 : Int32)).toInt8.toInt32)), (.int (0 : Int32)), (.ref r229)])) rfl rfl (hb hby at_303)
            refine own_go st246 ?_
            rw [show nar .byte (((p3.toInt8.toInt32) ^^^ (1 : Int32)).toInt8.toInt32) = (((p3.toInt8.toInt32) ^^^ (1 : Int32)).toInt8.toInt32) from own_b8 _] at W246
            have V246 := Arv.set Ar245 q245 Sz245 Nz245 Ha245 Ga245 (fits_nar_byte _) W246 0 rfl (Nat.le_of_ble_eq_true rfl)
            have N246 := Fr.snoc X246 N236 g_r229
            replace Kp := Kp.wr W246 (Or.inr sz_r229)
            replace V_b1 := V_b1.other W246 ne_b1_r229
            replace Ea_b1 := Ea_b1.wr W246
            replace Ex_b227 := Ex_b227.wr W246
            replace F_start_b227 := F_start_b227.other W246 (Or.inl ne_b227_r229)
            replace F_end_b227 := F_end_b227.other W246 (Or.inl ne_b227_r229)
            replace Ea_r229 := Ea_r229.wr W246
            replace V_r229 : Arv Z h246 r229 kr229 .byte (2 : Int32) [(.int (((p3.toInt8.toInt32) ^^^ (1 : Int32)).toInt8.toInt32)), (.int (p4.toInt8.toInt32))] (.int (0 : Int32)) := V246
            show own_Go p e below s _ _ _ (T246.setTop (mkF m 304 #[iv p1, iv p2, iv p3, iv p4, iv p5, iv p6, rv b1, iv (2 : Int32), iv (4 : Int32), rv b227, rv r229, iv (1 : Int32)] []))
            refine own_go (fun zt zk => (XS.iload X246.here hx rfl (hb hby at_304) rfl (XS.ifNo X246.here hx rfl (hb hby at_306) rfl ((if0 _ _).trans (feq ((by decide) : ¬ ((1 : Int32) = (0 : Int32)))).1) (XS.aload X246.here hx rfl (hb hby at_309) rfl rfl (XS.iload X246.here hx rfl (hb hby at_311) rfl zk))))) ?_
            show own_Go p e below s _ _ _ (T246.setTop (mkF m 313 #[iv p1, iv p2, iv p3, iv p4, iv p5, iv p6, rv b1, iv (2 : Int32), iv (4 : Int32), rv b227, rv r229, iv (1 : Int32)] [(.int (2 : Int32)), (.ref b1)]))
            obtain ⟨cl247, Ar247, q247, Sz247, Nz247, Ha247, Ga247⟩ := id V_b1
            have hin247 : ¬ ((2 : Int32) < 0 ∨ cl247.slots.size ≤ ((2 : Int32)).toNatClampNeg) := inb_of Sz247 ⟨by decide, by decide⟩
            have hat247 : cl247.slots[((2 : Int32)).toNatClampNeg]? = some (.int (p3.toInt8.toInt32)) := Has.at Ha247 hin247 rfl
            refine own_go (X246.baloadBytes hx (j := (2 : Int32)) (v := (.int (p3.toInt8.toInt32))) (by rw [e246]; exact Ar247.1) (State.isArrayOf_alike hZ.alike Ar247.2.1) Ar247.2.2 hin247 hat247 (g := (mkF m 313 #[iv p1, iv p2, iv p3, iv p4, iv p5, iv p6, rv b1, iv (2 : Int32), iv (4 : Int32), rv b227, rv r229, iv (1 : Int32)] [(.int (2 : Int32)), (.ref b1)])) rfl rfl (hb hby at_313)) ?_
            show own_Go p e below s _ _ _ (T246.setTop (mkF m 314 #[iv p1, iv p2, iv p3, iv p4, iv p5, iv p6, rv b1, iv (2 : Int32), iv (4 : Int32), rv b227, rv r229, iv (1 : Int32)] [(.int (p3.toInt8.toInt32))]))
            refine own_go (fun zt zk => (XS.iload X246.here hx rfl (hb hby at_314) rfl (XS.iloadN X246.here hx rfl (hb hby at_316) rfl (XS.iloadN X246.here hx rfl (hb hby at_317) rfl (XS.iloadN X246.here hx rfl (hb hby at_318) rfl (XS.iloadN X246.here hx rfl (hb hby at_319) rfl zk)))))) ?_
            show own_Go p e below s _ _ _ (T246.setTop (mkF m 320 #[iv p1, iv p2, iv p3, iv p4, iv p5, iv p6, rv b1, iv (2 : Int32), iv (4 : Int32), rv b227, rv r229, iv (1 : Int32)] [(.int p4), (.int p3), (.int p2), (.int p1), (.int (2 : Int32)), (.int (p3.toInt8.toInt32))]))
            obtain ⟨_, _, ⟨T248, L248, k248, n248⟩, -, X248, ⟨Lc248, hQ248, l248, y248, z248⟩, st248⟩ := Jvm.LawKit.callS X246 hx (y := (⟨"com/example/tranche/tranche/model/SpanBytesInPinLaw", "at", "(IIIII)B"⟩ : MethodName)) hown (mvT hZ (hw _ (List.mem_of_getElem? (i := 43) rfl))) (mvT hZ (hw _ (List.mem_of_getElem? (i := 44) rfl))) (mvT hZ (hw _ (List.mem_of_getElem? (i := 45) rfl))) (mvT hZ (hw _ (List.mem_of_getElem? (i := 46) rfl))) (by decide) (backOf (W := 1) (own_rat2 l Z a0 hw [] p1 p2 p3 p4  h246 n0 (Nat.le_trans Z0 Kp.1) ) hZ (hw _ (List.mem_of_getElem? (i := 46) rfl)) (hw _ (List.mem_of_getElem? (i := 45) rfl)) (by decide) (by decide)) (g := (mkF m 320 #[iv p1, iv p2, iv p3, iv p4, iv p5, iv p6, rv b1, iv (2 : Int32), iv (4 : Int32), rv b227, rv r229, iv (1 : Int32)] [(.int p4), (.int p3), (.int p2), (.int p1), (.int (2 : Int32)), (.int (p3.toInt8.toInt32))])) rfl (by rw [hml]; rfl) (argsL := [(.int (2 : Int32)), (.int p1), (.int p2), (.int p3), (.int p4)]) (rest := [(.int (p3.toInt8.toInt32))]) (lenOf own_pd__IIIII_B rfl) rfl (by show 2 * 0 + _ ≤ _; exact Nat.le_of_eq rfl) (hb hby at_320) (fun _ _ => ⟨rfl, e246, (by decide : 3 + 0 ≤ _), (by decide : 8 + 0 ≤ _)⟩)
            dsimp only [Pt.U, Pt.locs, Pt.cells, Pt.slots] at X248 l248 y248 z248 st248 hQ248
            subst l248 y248 z248
            obtain ⟨rfl, Nq248, e248⟩ := hQ248
            have N248 := Fr.app N246 Nq248
            refine own_go st248 ?_
            show own_Go p e below s _ _ _ (T248.setTop (mkF m 323 #[iv p1, iv p2, iv p3, iv p4, iv p5, iv p6, rv b1, iv (2 : Int32), iv (4 : Int32), rv b227, rv r229, iv (1 : Int32)] [(.int (p3.toInt8.toInt32)), (.int (p3.toInt8.toInt32))]))
            refine own_go (fun zt zk => (XS.icmpNo X248.here hx rfl (hb hby at_323) rfl (teq (rfl : (p3.toInt8.toInt32) = (p3.toInt8.toInt32))).2 (XS.iconst X248.here hx rfl (hb hby at_326) (XS.goto X248.here hx rfl (pc0 := 327) (pc' := 331) rfl (hb hby at_327) (by decide) (by decide) (XS.istore X248.here hx rfl (hb hby at_331) rfl (l' := #[iv p1, iv p2, iv p3, iv p4, iv p5, iv p6, rv b1, iv (2 : Int32), iv (4 : Int32), rv b227, rv r229, iv (1 : Int32)]) rfl (XS.iload X248.here hx rfl (hb hby at_333) rfl zk)))))) ?_
            show own_Go p e below s _ _ _ (T248.setTop (mkF m 335 #[iv p1, iv p2, iv p3, iv p4, iv p5, iv p6, rv b1, iv (2 : Int32), iv (4 : Int32), rv b227, rv r229, iv (1 : Int32)] [(.int (1 : Int32))]))
            exact own_fin X248 Bd.notSynchronized (fun h => by rw [Bd.returns] at h; cases h) (fun fs hr => retN X248 hx (t := .boolean) Bd.returns (by simp) (hb hby at_335) hr) (by rw [e248]; exact ⟨rfl, N248⟩) (by decide) (by decide)
      · by_cases hk3_st : st = (3 : Int32)
        · subst hk3_st
          show own_Go p e below s _ _ _ (T9.setTop (mkF m 34 #[iv p1, iv p2, iv p3, iv p4, iv p5, iv p6, rv b1, iv (3 : Int32), .unset, .unset, .unset, .unset] []))
          refine own_go (fun zt zk => (XS.iload X9.here hx rfl (hb hby at_34) rfl (XS.iload X9.here hx rfl (hb hby at_36) rfl (X9.ldcI hx hown (mvT hZ (hw _ (List.mem_of_getElem? (i := 1) rfl))) (g := (mkF m 38 #[iv p1, iv p2, iv p3, iv p4, iv p5, iv p6, rv b1, iv (3 : Int32), .unset, .unset, .unset, .unset] [(.int p6), (.int (3 : Int32))])) rfl (hb hby at_38) (XS.iand X9.here hx rfl (hb hby at_40) rfl (XS.iconst X9.here hx rfl (hb hby at_41) (XS.iload X9.here hx rfl (hb hby at_42) rfl (XS.isub X9.here hx rfl (hb hby at_44) rfl (iremM X9 hx rfl (hb hby at_45) rfl (by decide) zk))))))))) ?_
          show own_Go p e below s _ _ _ (T9.setTop (mkF m 46 #[iv p1, iv p2, iv p3, iv p4, iv p5, iv p6, rv b1, iv (3 : Int32), .unset, .unset, .unset, .unset] [(.int ((p6 &&& (2147483647 : Int32)) % (2 : Int32))), (.int (3 : Int32))]))
          generalize hv_en : ((p6 &&& (2147483647 : Int32)) % (2 : Int32)) = en
          show own_Go p e below s _ _ _ (T9.setTop (mkF m 46 #[iv p1, iv p2, iv p3, iv p4, iv p5, iv p6, rv b1, iv (3 : Int32), .unset, .unset, .unset, .unset] [(.int en), (.int (3 : Int32))]))
          by_cases hk0_en : en = (0 : Int32)
          · subst hk0_en
            show own_Go p e below s _ _ _ (T9.setTop (mkF m 46 #[iv p1, iv p2, iv p3, iv p4, iv p5, iv p6, rv b1, iv (3 : Int32), .unset, .unset, .unset, .unset] [(.int (0 : Int32)), (.int (3 : Int32))]))
            refine own_go (fun zt zk => (XS.iadd X9.here hx rfl (hb hby at_46) rfl (XS.istore X9.here hx rfl (hb hby at_47) rfl (l' := #[iv p1, iv p2, iv p3, iv p4, iv p5, iv p6, rv b1, iv (3 : Int32), iv (3 : Int32), .unset, .unset, .unset]) rfl zk))) ?_
            show own_Go p e below s _ _ _ (T9.setTop (mkF m 49 #[iv p1, iv p2, iv p3, iv p4, iv p5, iv p6, rv b1, iv (3 : Int32), iv (3 : Int32), .unset, .unset, .unset] []))
            obtain ⟨T249, h249, X249, e249, E249, A249, D249, -, st249⟩ := newO X9 hx hZ hown (hw _ (List.mem_of_getElem? (i := 2) rfl)) (hw _ (List.mem_of_getElem? (i := 3) rfl)) (hw _ (List.mem_of_getElem? (i := 4) rfl)) e9 (g := (mkF m 49 #[iv p1, iv p2, iv p3, iv p4, iv p5, iv p6, rv b1, iv (3 : Int32), iv (3 : Int32), .unset, .unset, .unset] [])) rfl (hb hby at_49) (by decide) (by decide)
            obtain ⟨b249, g249⟩ : ∃ z, z = h9.size := ⟨_, rfl⟩
            rw [← g249] at A249 D249 st249
            refine own_go st249 ?_
            have ne_b1_b249 : b1 ≠ b249 := Nat.ne_of_lt (Nat.lt_of_lt_of_le V_b1.lt (Nat.le_of_eq g249.symm))
            have sz_b249 : h0.size ≤ b249 := Nat.le_trans Kp.1 (Nat.le_of_eq g249.symm)
            have g_b249 : n0 ≤ b249 := Nat.le_trans Z0 sz_b249
            replace Kp := Kp.ext E249
            replace V_b1 := V_b1.ext E249
            replace Ea_b1 := Ea_b1.ext E249
            have Ex_b249 := A249
            have F_start_b249 : Fld Z h249 b249 "com/example/tranche/tranche/model/Span" "start" "I" (.int (0 : Int32)) := D249 (Or.inr (hw _ (List.mem_of_getElem? (i := 17) rfl))) (ty := .int) (by decide)
            have F_end_b249 : Fld Z h249 b249 "com/example/tranche/tranche/model/Span" "end" "I" (.int (0 : Int32)) := D249 (Or.inr (hw _ (List.mem_of_getElem? (i := 19) rfl))) (ty := .int) (by decide)
            show own_Go p e below s _ _ _ (T249.setTop (mkF m 52 #[iv p1, iv p2, iv p3, iv p4, iv p5, iv p6, rv b1, iv (3 : Int32), iv (3 : Int32), .unset, .unset, .unset] [(.ref b249)]))
            refine own_go (fun zt zk => (XS.dup X249.here hx rfl (hb hby at_52) rfl rfl (XS.iload X249.here hx rfl (hb hby at_53) rfl (XS.iload X249.here hx rfl (hb hby at_55) rfl zk)))) ?_
            show own_Go p e below s _ _ _ (T249.setTop (mkF m 57 #[iv p1, iv p2, iv p3, iv p4, iv p5, iv p6, rv b1, iv (3 : Int32), iv (3 : Int32), .unset, .unset, .unset] [(.int (3 : Int32)), (.int (3 : Int32)), (.ref b249), (.ref b249)]))
            obtain ⟨_, _, ⟨T250, L250, k250, n250⟩, -, X250, ⟨Lc250, hQ250, l250, y250, z250⟩, st250⟩ := X249.specialBack hx (y := (⟨"com/example/tranche/tranche/model/Span", "<init>", "(II)V"⟩ : MethodName)) rfl hown (mvT hZ (hw _ (List.mem_of_getElem? (i := 5) rfl))) (mvT hZ (hw _ (List.mem_of_getElem? (i := 6) rfl))) (mvT hZ (hw _ (List.mem_of_getElem? (i := 7) rfl))) (by decide) (backOf (W := 1) (own_rspan l Z a0 hw [] b249 (3 : Int32) (3 : Int32)  h249 n0 (Nat.le_trans Z0 Kp.1) Ex_b249 F_start_b249 F_end_b249 g_b249 (by decide) (by decide)) hZ (hw _ (List.mem_of_getElem? (i := 7) rfl)) (hw _ (List.mem_of_getElem? (i := 4) rfl)) (by decide) (by decide)) (g := (mkF m 57 #[iv p1, iv p2, iv p3, iv p4, iv p5, iv p6, rv b1, iv (3 : Int32), iv (3 : Int32), .unset, .unset, .unset] [(.int (3 : Int32)), (.int (3 : Int32)), (.ref b249), (.ref b249)])) rfl (by rw [hml]; rfl) (Steps.refl _) (a := b249) (argsL := [(.int (3 : Int32)), (.int (3 : Int32))]) (rest := [(.ref b249)]) (lenOf own_pd__II_V rfl) rfl (by show 2 * 0 + _ ≤ _; exact Nat.le_of_eq rfl) (hb hby at_57) (fun _ _ => ⟨rfl, e249, (by decide : 2 + 0 ≤ _), (by decide : 6 + 0 ≤ _)⟩)
            dsimp only [Pt.U, Pt.locs, Pt.cells, Pt.slots] at X250 l250 y250 z250 st250 hQ250
            subst l250 y250 z250
            obtain ⟨rfl, Nq250, K250, -, F_start_b249, F_end_b249⟩ := hQ250
            have N250 := Fr.app N9 Nq250
            refine own_go (fun zt zk => st250.trans zk) ?_
            replace Kp := Kp.trans K250 (allS (Or.inr sz_b249) all0)
            replace V_b1 := V_b1.keep K250 (ninS ne_b1_b249 nin0)
            replace Ea_b1 := Ea_b1.keep K250
            replace Ex_b249 := Ex_b249.keep K250
            show own_Go p e below s _ _ _ (T250.setTop (mkF m 60 #[iv p1, iv p2, iv p3, iv p4, iv p5, iv p6, rv b1, iv (3 : Int32), iv (3 : Int32), .unset, .unset, .unset] [(.ref b249)]))
            refine own_go (fun zt zk => (XS.astore X250.here hx rfl (hb hby at_60) rfl rfl (l' := #[iv p1, iv p2, iv p3, iv p4, iv p5, iv p6, rv b1, iv (3 : Int32), iv (3 : Int32), rv b249, .unset, .unset]) rfl (XS.aload X250.here hx rfl (hb hby at_62) rfl rfl (XS.aload X250.here hx rfl (hb hby at_64) rfl rfl zk)))) ?_
            show own_Go p e below s _ _ _ (T250.setTop (mkF m 66 #[iv p1, iv p2, iv p3, iv p4, iv p5, iv p6, rv b1, iv (3 : Int32), iv (3 : Int32), rv b249, .unset, .unset] [(.ref b1), (.ref b249)]))
            obtain ⟨cq251, kq251, qa251, qb251, qc251⟩ := isOf hZ rfl Ex_b249
            obtain ⟨_, _, ⟨T251, L251, k251, n251⟩, -, X251, ⟨Lc251, hQ251, l251, y251, z251⟩, st251⟩ := X250.virtualBack hx (y := (⟨"com/example/tranche/tranche/model/Span", "bytesIn", "([B)[B"⟩ : MethodName)) (z := (⟨"com/example/tranche/tranche/model/Span", "bytesIn", "([B)[B"⟩ : MethodName)) hown (mvT hZ (hw _ (List.mem_of_getElem? (i := 20) rfl))) (mvT hZ (hw _ (List.mem_of_getElem? (i := 21) rfl))) (notFace_of_selects (args := #[]) (mvT hZ (hw _ (List.mem_of_getElem? (i := 23) rfl)))) (mvT hZ (hw _ (List.mem_of_getElem? (i := 23) rfl))) (mvT hZ (hw _ (List.mem_of_getElem? (i := 22) rfl))) (by decide) (backOf (W := 0) (own_rbi33 l Z a0 hw [] b249 b1 k1 (.int (p1.toInt8.toInt32)) (.int (p2.toInt8.toInt32)) (.int (p3.toInt8.toInt32)) (.int (p4.toInt8.toInt32)) T250.heap n0 (Nat.le_trans Z0 Kp.1) V_b1 Ea_b1 F_start_b249 F_end_b249) hZ (hw _ (List.mem_of_getElem? (i := 24) rfl)) (hw _ (List.mem_of_getElem? (i := 4) rfl)) (by decide) (by decide)) qa251 qc251 (g := (mkF m 66 #[iv p1, iv p2, iv p3, iv p4, iv p5, iv p6, rv b1, iv (3 : Int32), iv (3 : Int32), rv b249, .unset, .unset] [(.ref b1), (.ref b249)])) rfl (by rw [hml]; rfl) (Steps.refl _) (argsL := [(.ref b1)]) (rest := []) (lenOf own_pd___B__B rfl) rfl (by show 2 * 0 + _ ≤ _; exact Nat.le_of_eq rfl) (hb hby at_66) (fun _ _ => ⟨rfl, rfl, (by decide : 2 + 1 ≤ _), (by decide : 6 + 0 ≤ _)⟩)
            dsimp only [Pt.U, Pt.locs, Pt.cells, Pt.slots] at X251 l251 y251 z251 st251 hQ251
            subst l251 y251 z251
            obtain ⟨r251, kr251, rfl, Nq251, K251, sr251, Ea_r251, V_r251⟩ := hQ251
            have sz_r251 := Nat.le_trans Kp.1 sr251
            have g_r251 := Nat.le_trans Z0 sz_r251
            have ne_b1_r251 : b1 ≠ r251 := Nat.ne_of_lt (Nat.lt_of_lt_of_le V_b1.lt sr251)
            have ne_b249_r251 : b249 ≠ r251 := Nat.ne_of_lt (Nat.lt_of_lt_of_le Ex_b249.lt sr251)
            have N251 := Fr.app N250 Nq251
            refine own_go (fun zt zk => st251.trans zk) ?_
            replace Kp := Kp.trans K251 all0
            replace V_b1 := V_b1.keep K251 nin0
            replace Ea_b1 := Ea_b1.keep K251
            replace Ex_b249 := Ex_b249.keep K251
            replace F_start_b249 := F_start_b249.keep K251 nin0
            replace F_end_b249 := F_end_b249.keep K251 nin0
            show own_Go p e below s _ _ _ (T251.setTop (mkF m 69 #[iv p1, iv p2, iv p3, iv p4, iv p5, iv p6, rv b1, iv (3 : Int32), iv (3 : Int32), rv b249, .unset, .unset] [(.ref r251)]))
            refine own_go (fun zt zk => (XS.astore X251.here hx rfl (hb hby at_69) rfl rfl (l' := #[iv p1, iv p2, iv p3, iv p4, iv p5, iv p6, rv b1, iv (3 : Int32), iv (3 : Int32), rv b249, rv r251, .unset]) rfl (XS.aload X251.here hx rfl (hb hby at_71) rfl rfl (XS.ifnonnullYes X251.here hx rfl (pc0 := 73) (pc' := 78) rfl (hb hby at_73) rfl (by decide) (by decide) (XS.aload X251.here hx rfl (hb hby at_78) rfl rfl zk))))) ?_
            show own_Go p e below s _ _ _ (T251.setTop (mkF m 80 #[iv p1, iv p2, iv p3, iv p4, iv p5, iv p6, rv b1, iv (3 : Int32), iv (3 : Int32), rv b249, rv r251, .unset] [(.ref r251)]))
            obtain ⟨cl252, Ar252, -, Sz252, Nz252, -, -⟩ := id V_r251
            refine own_go (X251.arraylength hx (by exact Ar252.1) (State.isArrayOf_alike hZ.alike Ar252.2.1) (g := (mkF m 80 #[iv p1, iv p2, iv p3, iv p4, iv p5, iv p6, rv b1, iv (3 : Int32), iv (3 : Int32), rv b249, rv r251, .unset] [(.ref r251)])) rfl rfl (hb hby at_80)) ?_
            rw [len_of Sz252 Nz252]
            show own_Go p e below s _ _ _ (T251.setTop (mkF m 81 #[iv p1, iv p2, iv p3, iv p4, iv p5, iv p6, rv b1, iv (3 : Int32), iv (3 : Int32), rv b249, rv r251, .unset] [(.int (0 : Int32))]))
            refine own_go (fun zt zk => (XS.iload X251.here hx rfl (hb hby at_81) rfl (XS.iload X251.here hx rfl (hb hby at_83) rfl (XS.isub X251.here hx rfl (hb hby at_85) rfl (XS.icmpYes X251.here hx rfl (pc0 := 86) (pc' := 91) rfl (hb hby at_86) rfl (teq (rfl : (0 : Int32) = (0 : Int32))).1 (by decide) (by decide) (XS.iconst X251.here hx rfl (hb hby at_91) (XS.istore X251.here hx rfl (hb hby at_92) rfl (l' := #[iv p1, iv p2, iv p3, iv p4, iv p5, iv p6, rv b1, iv (3 : Int32), iv (3 : Int32), rv b249, rv r251, iv (1 : Int32)]) rfl (XS.aload X251.here hx rfl (hb hby at_94) rfl rfl zk)))))))) ?_
            show own_Go p e below s _ _ _ (T251.setTop (mkF m 96 #[iv p1, iv p2, iv p3, iv p4, iv p5, iv p6, rv b1, iv (3 : Int32), iv (3 : Int32), rv b249, rv r251, iv (1 : Int32)] [(.ref r251)]))
            obtain ⟨cl253, Ar253, -, Sz253, Nz253, -, -⟩ := id V_r251
            refine own_go (X251.arraylength hx (by exact Ar253.1) (State.isArrayOf_alike hZ.alike Ar253.2.1) (g := (mkF m 96 #[iv p1, iv p2, iv p3, iv p4, iv p5, iv p6, rv b1, iv (3 : Int32), iv (3 : Int32), rv b249, rv r251, iv (1 : Int32)] [(.ref r251)])) rfl rfl (hb hby at_96)) ?_
            rw [len_of Sz253 Nz253]
            show own_Go p e below s _ _ _ (T251.setTop (mkF m 97 #[iv p1, iv p2, iv p3, iv p4, iv p5, iv p6, rv b1, iv (3 : Int32), iv (3 : Int32), rv b249, rv r251, iv (1 : Int32)] [(.int (0 : Int32))]))
            refine own_go (fun zt zk => (XS.ifYes X251.here hx rfl (pc0 := 97) (pc' := 128) rfl (hb hby at_97) rfl ((if0 _ _).trans (flt ((own_irr _) : ¬ ((0 : Int32) < (0 : Int32)))).2.2.2) (by decide) (by decide) (XS.aload X251.here hx rfl (hb hby at_128) rfl rfl zk))) ?_
            show own_Go p e below s _ _ _ (T251.setTop (mkF m 130 #[iv p1, iv p2, iv p3, iv p4, iv p5, iv p6, rv b1, iv (3 : Int32), iv (3 : Int32), rv b249, rv r251, iv (1 : Int32)] [(.ref r251)]))
            obtain ⟨cl254, Ar254, -, Sz254, Nz254, -, -⟩ := id V_r251
            refine own_go (X251.arraylength hx (by exact Ar254.1) (State.isArrayOf_alike hZ.alike Ar254.2.1) (g := (mkF m 130 #[iv p1, iv p2, iv p3, iv p4, iv p5, iv p6, rv b1, iv (3 : Int32), iv (3 : Int32), rv b249, rv r251, iv (1 : Int32)] [(.ref r251)])) rfl rfl (hb hby at_130)) ?_
            rw [len_of Sz254 Nz254]
            show own_Go p e below s _ _ _ (T251.setTop (mkF m 131 #[iv p1, iv p2, iv p3, iv p4, iv p5, iv p6, rv b1, iv (3 : Int32), iv (3 : Int32), rv b249, rv r251, iv (1 : Int32)] [(.int (0 : Int32))]))
            refine own_go (fun zt zk => (XS.iconst X251.here hx rfl (hb hby at_131) (XS.icmpYes X251.here hx rfl (pc0 := 132) (pc' := 165) rfl (hb hby at_132) rfl (flt ((by decide) : ¬ ((1 : Int32) < (0 : Int32)))).2.2.2 (by decide) (by decide) (XS.aload X251.here hx rfl (hb hby at_165) rfl rfl zk)))) ?_
            show own_Go p e below s _ _ _ (T251.setTop (mkF m 167 #[iv p1, iv p2, iv p3, iv p4, iv p5, iv p6, rv b1, iv (3 : Int32), iv (3 : Int32), rv b249, rv r251, iv (1 : Int32)] [(.ref r251)]))
            obtain ⟨cl255, Ar255, -, Sz255, Nz255, -, -⟩ := id V_r251
            refine own_go (X251.arraylength hx (by exact Ar255.1) (State.isArrayOf_alike hZ.alike Ar255.2.1) (g := (mkF m 167 #[iv p1, iv p2, iv p3, iv p4, iv p5, iv p6, rv b1, iv (3 : Int32), iv (3 : Int32), rv b249, rv r251, iv (1 : Int32)] [(.ref r251)])) rfl rfl (hb hby at_167)) ?_
            rw [len_of Sz255 Nz255]
            show own_Go p e below s _ _ _ (T251.setTop (mkF m 168 #[iv p1, iv p2, iv p3, iv p4, iv p5, iv p6, rv b1, iv (3 : Int32), iv (3 : Int32), rv b249, rv r251, iv (1 : Int32)] [(.int (0 : Int32))]))
            refine own_go (fun zt zk => (XS.iconst X251.here hx rfl (hb hby at_168) (XS.icmpYes X251.here hx rfl (pc0 := 169) (pc' := 202) rfl (hb hby at_169) rfl (flt ((by decide) : ¬ ((2 : Int32) < (0 : Int32)))).2.2.2 (by decide) (by decide) (XS.aload X251.here hx rfl (hb hby at_202) rfl rfl zk)))) ?_
            show own_Go p e below s _ _ _ (T251.setTop (mkF m 204 #[iv p1, iv p2, iv p3, iv p4, iv p5, iv p6, rv b1, iv (3 : Int32), iv (3 : Int32), rv b249, rv r251, iv (1 : Int32)] [(.ref r251)]))
            obtain ⟨cl256, Ar256, -, Sz256, Nz256, -, -⟩ := id V_r251
            refine own_go (X251.arraylength hx (by exact Ar256.1) (State.isArrayOf_alike hZ.alike Ar256.2.1) (g := (mkF m 204 #[iv p1, iv p2, iv p3, iv p4, iv p5, iv p6, rv b1, iv (3 : Int32), iv (3 : Int32), rv b249, rv r251, iv (1 : Int32)] [(.ref r251)])) rfl rfl (hb hby at_204)) ?_
            rw [len_of Sz256 Nz256]
            show own_Go p e below s _ _ _ (T251.setTop (mkF m 205 #[iv p1, iv p2, iv p3, iv p4, iv p5, iv p6, rv b1, iv (3 : Int32), iv (3 : Int32), rv b249, rv r251, iv (1 : Int32)] [(.int (0 : Int32))]))
            refine own_go (fun zt zk => (XS.iconst X251.here hx rfl (hb hby at_205) (XS.icmpYes X251.here hx rfl (pc0 := 206) (pc' := 239) rfl (hb hby at_206) rfl (flt ((by decide) : ¬ ((3 : Int32) < (0 : Int32)))).2.2.2 (by decide) (by decide) (XS.iload X251.here hx rfl (hb hby at_239) rfl (XS.ifNo X251.here hx rfl (hb hby at_241) rfl ((if0 _ _).trans (feq ((by decide) : ¬ ((1 : Int32) = (0 : Int32)))).1) (XS.aload X251.here hx rfl (hb hby at_244) rfl rfl (XS.iconst X251.here hx rfl (hb hby at_246) zk))))))) ?_
            show own_Go p e below s _ _ _ (T251.setTop (mkF m 247 #[iv p1, iv p2, iv p3, iv p4, iv p5, iv p6, rv b1, iv (3 : Int32), iv (3 : Int32), rv b249, rv r251, iv (1 : Int32)] [(.int (0 : Int32)), (.ref b1)]))
            obtain ⟨cl257, Ar257, q257, Sz257, Nz257, Ha257, Ga257⟩ := id V_b1
            have hin257 : ¬ ((0 : Int32) < 0 ∨ cl257.slots.size ≤ ((0 : Int32)).toNatClampNeg) := inb_of Sz257 ⟨by decide, by decide⟩
            have hat257 : cl257.slots[((0 : Int32)).toNatClampNeg]? = some (.int (p1.toInt8.toInt32)) := Has.at Ha257 hin257 rfl
            refine own_go (X251.baloadBytes hx (j := (0 : Int32)) (v := (.int (p1.toInt8.toInt32))) (by exact Ar257.1) (State.isArrayOf_alike hZ.alike Ar257.2.1) Ar257.2.2 hin257 hat257 (g := (mkF m 247 #[iv p1, iv p2, iv p3, iv p4, iv p5, iv p6, rv b1, iv (3 : Int32), iv (3 : Int32), rv b249, rv r251, iv (1 : Int32)] [(.int (0 : Int32)), (.ref b1)])) rfl rfl (hb hby at_247)) ?_
            show own_Go p e below s _ _ _ (T251.setTop (mkF m 248 #[iv p1, iv p2, iv p3, iv p4, iv p5, iv p6, rv b1, iv (3 : Int32), iv (3 : Int32), rv b249, rv r251, iv (1 : Int32)] [(.int (p1.toInt8.toInt32))]))
            refine own_go (fun zt zk => (XS.iloadN X251.here hx rfl (hb hby at_248) rfl (XS.i2b X251.here hx rfl (hb hby at_249) rfl (XS.icmpNo X251.here hx rfl (hb hby at_250) rfl (teq (rfl : (p1.toInt8.toInt32) = (p1.toInt8.toInt32))).2 (XS.aload X251.here hx rfl (hb hby at_253) rfl rfl (XS.iconst X251.here hx rfl (hb hby at_255) zk)))))) ?_
            show own_Go p e below s _ _ _ (T251.setTop (mkF m 256 #[iv p1, iv p2, iv p3, iv p4, iv p5, iv p6, rv b1, iv (3 : Int32), iv (3 : Int32), rv b249, rv r251, iv (1 : Int32)] [(.int (1 : Int32)), (.ref b1)]))
            obtain ⟨cl258, Ar258, q258, Sz258, Nz258, Ha258, Ga258⟩ := id V_b1
            have hin258 : ¬ ((1 : Int32) < 0 ∨ cl258.slots.size ≤ ((1 : Int32)).toNatClampNeg) := inb_of Sz258 ⟨by decide, by decide⟩
            have hat258 : cl258.slots[((1 : Int32)).toNatClampNeg]? = some (.int (p2.toInt8.toInt32)) := Has.at Ha258 hin258 rfl
            refine own_go (X251.baloadBytes hx (j := (1 : Int32)) (v := (.int (p2.toInt8.toInt32))) (by exact Ar258.1) (State.isArrayOf_alike hZ.alike Ar258.2.1) Ar258.2.2 hin258 hat258 (g := (mkF m 256 #[iv p1, iv p2, iv p3, iv p4, iv p5, iv p6, rv b1, iv (3 : Int32), iv (3 : Int32), rv b249, rv r251, iv (1 : Int32)] [(.int (1 : Int32)), (.ref b1)])) rfl rfl (hb hby at_256)) ?_
            show own_Go p e below s _ _ _ (T251.setTop (mkF m 257 #[iv p1, iv p2, iv p3, iv p4, iv p5, iv p6, rv b1, iv (3 : Int32), iv (3 : Int32), rv b249, rv r251, iv (1 : Int32)] [(.int (p2.toInt8.toInt32))]))
            refine own_go (fun zt zk => (XS.iloadN X251.here hx rfl (hb hby at_257) rfl (XS.i2b X251.here hx rfl (hb hby at_258) rfl (XS.icmpNo X251.here hx rfl (hb hby at_259) rfl (teq (rfl : (p2.toInt8.toInt32) = (p2.toInt8.toInt32))).2 (XS.aload X251.here hx rfl (hb hby at_262) rfl rfl (XS.iconst X251.here hx rfl (hb hby at_264) zk)))))) ?_
            show own_Go p e below s _ _ _ (T251.setTop (mkF m 265 #[iv p1, iv p2, iv p3, iv p4, iv p5, iv p6, rv b1, iv (3 : Int32), iv (3 : Int32), rv b249, rv r251, iv (1 : Int32)] [(.int (2 : Int32)), (.ref b1)]))
            obtain ⟨cl259, Ar259, q259, Sz259, Nz259, Ha259, Ga259⟩ := id V_b1
            have hin259 : ¬ ((2 : Int32) < 0 ∨ cl259.slots.size ≤ ((2 : Int32)).toNatClampNeg) := inb_of Sz259 ⟨by decide, by decide⟩
            have hat259 : cl259.slots[((2 : Int32)).toNatClampNeg]? = some (.int (p3.toInt8.toInt32)) := Has.at Ha259 hin259 rfl
            refine own_go (X251.baloadBytes hx (j := (2 : Int32)) (v := (.int (p3.toInt8.toInt32))) (by exact Ar259.1) (State.isArrayOf_alike hZ.alike Ar259.2.1) Ar259.2.2 hin259 hat259 (g := (mkF m 265 #[iv p1, iv p2, iv p3, iv p4, iv p5, iv p6, rv b1, iv (3 : Int32), iv (3 : Int32), rv b249, rv r251, iv (1 : Int32)] [(.int (2 : Int32)), (.ref b1)])) rfl rfl (hb hby at_265)) ?_
            show own_Go p e below s _ _ _ (T251.setTop (mkF m 266 #[iv p1, iv p2, iv p3, iv p4, iv p5, iv p6, rv b1, iv (3 : Int32), iv (3 : Int32), rv b249, rv r251, iv (1 : Int32)] [(.int (p3.toInt8.toInt32))]))
            refine own_go (fun zt zk => (XS.iloadN X251.here hx rfl (hb hby at_266) rfl (XS.i2b X251.here hx rfl (hb hby at_267) rfl (XS.icmpNo X251.here hx rfl (hb hby at_268) rfl (teq (rfl : (p3.toInt8.toInt32) = (p3.toInt8.toInt32))).2 (XS.aload X251.here hx rfl (hb hby at_271) rfl rfl (XS.iconst X251.here hx rfl (hb hby at_273) zk)))))) ?_
            show own_Go p e below s _ _ _ (T251.setTop (mkF m 274 #[iv p1, iv p2, iv p3, iv p4, iv p5, iv p6, rv b1, iv (3 : Int32), iv (3 : Int32), rv b249, rv r251, iv (1 : Int32)] [(.int (3 : Int32)), (.ref b1)]))
            obtain ⟨cl260, Ar260, q260, Sz260, Nz260, Ha260, Ga260⟩ := id V_b1
            have hin260 : ¬ ((3 : Int32) < 0 ∨ cl260.slots.size ≤ ((3 : Int32)).toNatClampNeg) := inb_of Sz260 ⟨by decide, by decide⟩
            have hat260 : cl260.slots[((3 : Int32)).toNatClampNeg]? = some (.int (p4.toInt8.toInt32)) := Has.at Ha260 hin260 rfl
            refine own_go (X251.baloadBytes hx (j := (3 : Int32)) (v := (.int (p4.toInt8.toInt32))) (by exact Ar260.1) (State.isArrayOf_alike hZ.alike Ar260.2.1) Ar260.2.2 hin260 hat260 (g := (mkF m 274 #[iv p1, iv p2, iv p3, iv p4, iv p5, iv p6, rv b1, iv (3 : Int32), iv (3 : Int32), rv b249, rv r251, iv (1 : Int32)] [(.int (3 : Int32)), (.ref b1)])) rfl rfl (hb hby at_274)) ?_
            show own_Go p e below s _ _ _ (T251.setTop (mkF m 275 #[iv p1, iv p2, iv p3, iv p4, iv p5, iv p6, rv b1, iv (3 : Int32), iv (3 : Int32), rv b249, rv r251, iv (1 : Int32)] [(.int (p4.toInt8.toInt32))]))
            refine own_go (fun zt zk => (XS.iloadN X251.here hx rfl (hb hby at_275) rfl (XS.i2b X251.here hx rfl (hb hby at_276) rfl (XS.icmpNo X251.here hx rfl (hb hby at_277) rfl (teq (rfl : (p4.toInt8.toInt32) = (p4.toInt8.toInt32))).2 (XS.iconst X251.here hx rfl (hb hby at_280) (XS.goto X251.here hx rfl (pc0 := 281) (pc' := 285) rfl (hb hby at_281) (by decide) (by decide) (XS.istore X251.here hx rfl (hb hby at_285) rfl (l' := #[iv p1, iv p2, iv p3, iv p4, iv p5, iv p6, rv b1, iv (3 : Int32), iv (3 : Int32), rv b249, rv r251, iv (1 : Int32)]) rfl (XS.aload X251.here hx rfl (hb hby at_287) rfl rfl zk)))))))) ?_
            show own_Go p e below s _ _ _ (T251.setTop (mkF m 289 #[iv p1, iv p2, iv p3, iv p4, iv p5, iv p6, rv b1, iv (3 : Int32), iv (3 : Int32), rv b249, rv r251, iv (1 : Int32)] [(.ref r251)]))
            obtain ⟨cl261, Ar261, -, Sz261, Nz261, -, -⟩ := id V_r251
            refine own_go (X251.arraylength hx (by exact Ar261.1) (State.isArrayOf_alike hZ.alike Ar261.2.1) (g := (mkF m 289 #[iv p1, iv p2, iv p3, iv p4, iv p5, iv p6, rv b1, iv (3 : Int32), iv (3 : Int32), rv b249, rv r251, iv (1 : Int32)] [(.ref r251)])) rfl rfl (hb hby at_289)) ?_
            rw [len_of Sz261 Nz261]
            show own_Go p e below s _ _ _ (T251.setTop (mkF m 290 #[iv p1, iv p2, iv p3, iv p4, iv p5, iv p6, rv b1, iv (3 : Int32), iv (3 : Int32), rv b249, rv r251, iv (1 : Int32)] [(.int (0 : Int32))]))
            refine own_go (fun zt zk => (XS.ifYes X251.here hx rfl (pc0 := 290) (pc' := 333) rfl (hb hby at_290) rfl ((if0 _ _).trans (flt ((own_irr _) : ¬ ((0 : Int32) < (0 : Int32)))).2.2.2) (by decide) (by decide) (XS.iload X251.here hx rfl (hb hby at_333) rfl zk))) ?_
            show own_Go p e below s _ _ _ (T251.setTop (mkF m 335 #[iv p1, iv p2, iv p3, iv p4, iv p5, iv p6, rv b1, iv (3 : Int32), iv (3 : Int32), rv b249, rv r251, iv (1 : Int32)] [(.int (1 : Int32))]))
            exact own_fin X251 Bd.notSynchronized (fun h => by rw [Bd.returns] at h; cases h) (fun fs hr => retN X251 hx (t := .boolean) Bd.returns (by simp) (hb hby at_335) hr) ⟨rfl, N251⟩ (by decide) (by decide)
          · have hk1_en : en = (1 : Int32) := Int32.toInt_inj.mp (by have a := own_mod (D := 2) rfl (by decide) hv_en; have b0 := own_ne 0 rfl hk0_en; show en.toInt = 1; omega)
            subst hk1_en
            show own_Go p e below s _ _ _ (T9.setTop (mkF m 46 #[iv p1, iv p2, iv p3, iv p4, iv p5, iv p6, rv b1, iv (3 : Int32), .unset, .unset, .unset, .unset] [(.int (1 : Int32)), (.int (3 : Int32))]))
            refine own_go (fun zt zk => (XS.iadd X9.here hx rfl (hb hby at_46) rfl (XS.istore X9.here hx rfl (hb hby at_47) rfl (l' := #[iv p1, iv p2, iv p3, iv p4, iv p5, iv p6, rv b1, iv (3 : Int32), iv (4 : Int32), .unset, .unset, .unset]) rfl zk))) ?_
            show own_Go p e below s _ _ _ (T9.setTop (mkF m 49 #[iv p1, iv p2, iv p3, iv p4, iv p5, iv p6, rv b1, iv (3 : Int32), iv (4 : Int32), .unset, .unset, .unset] []))
            obtain ⟨T262, h262, X262, e262, E262, A262, D262, -, st262⟩ := newO X9 hx hZ hown (hw _ (List.mem_of_getElem? (i := 2) rfl)) (hw _ (List.mem_of_getElem? (i := 3) rfl)) (hw _ (List.mem_of_getElem? (i := 4) rfl)) e9 (g := (mkF m 49 #[iv p1, iv p2, iv p3, iv p4, iv p5, iv p6, rv b1, iv (3 : Int32), iv (4 : Int32), .unset, .unset, .unset] [])) rfl (hb hby at_49) (by decide) (by decide)
            obtain ⟨b262, g262⟩ : ∃ z, z = h9.size := ⟨_, rfl⟩
            rw [← g262] at A262 D262 st262
            refine own_go st262 ?_
            have ne_b1_b262 : b1 ≠ b262 := Nat.ne_of_lt (Nat.lt_of_lt_of_le V_b1.lt (Nat.le_of_eq g262.symm))
            have sz_b262 : h0.size ≤ b262 := Nat.le_trans Kp.1 (Nat.le_of_eq g262.symm)
            have g_b262 : n0 ≤ b262 := Nat.le_trans Z0 sz_b262
            replace Kp := Kp.ext E262
            replace V_b1 := V_b1.ext E262
            replace Ea_b1 := Ea_b1.ext E262
            have Ex_b262 := A262
            have F_start_b262 : Fld Z h262 b262 "com/example/tranche/tranche/model/Span" "start" "I" (.int (0 : Int32)) := D262 (Or.inr (hw _ (List.mem_of_getElem? (i := 17) rfl))) (ty := .int) (by decide)
            have F_end_b262 : Fld Z h262 b262 "com/example/tranche/tranche/model/Span" "end" "I" (.int (0 : Int32)) := D262 (Or.inr (hw _ (List.mem_of_getElem? (i := 19) rfl))) (ty := .int) (by decide)
            show own_Go p e below s _ _ _ (T262.setTop (mkF m 52 #[iv p1, iv p2, iv p3, iv p4, iv p5, iv p6, rv b1, iv (3 : Int32), iv (4 : Int32), .unset, .unset, .unset] [(.ref b262)]))
            refine own_go (fun zt zk => (XS.dup X262.here hx rfl (hb hby at_52) rfl rfl (XS.iload X262.here hx rfl (hb hby at_53) rfl (XS.iload X262.here hx rfl (hb hby at_55) rfl zk)))) ?_
            show own_Go p e below s _ _ _ (T262.setTop (mkF m 57 #[iv p1, iv p2, iv p3, iv p4, iv p5, iv p6, rv b1, iv (3 : Int32), iv (4 : Int32), .unset, .unset, .unset] [(.int (4 : Int32)), (.int (3 : Int32)), (.ref b262), (.ref b262)]))
            obtain ⟨_, _, ⟨T263, L263, k263, n263⟩, -, X263, ⟨Lc263, hQ263, l263, y263, z263⟩, st263⟩ := X262.specialBack hx (y := (⟨"com/example/tranche/tranche/model/Span", "<init>", "(II)V"⟩ : MethodName)) rfl hown (mvT hZ (hw _ (List.mem_of_getElem? (i := 5) rfl))) (mvT hZ (hw _ (List.mem_of_getElem? (i := 6) rfl))) (mvT hZ (hw _ (List.mem_of_getElem? (i := 7) rfl))) (by decide) (backOf (W := 1) (own_rspan l Z a0 hw [] b262 (3 : Int32) (4 : Int32)  h262 n0 (Nat.le_trans Z0 Kp.1) Ex_b262 F_start_b262 F_end_b262 g_b262 (by decide) (by decide)) hZ (hw _ (List.mem_of_getElem? (i := 7) rfl)) (hw _ (List.mem_of_getElem? (i := 4) rfl)) (by decide) (by decide)) (g := (mkF m 57 #[iv p1, iv p2, iv p3, iv p4, iv p5, iv p6, rv b1, iv (3 : Int32), iv (4 : Int32), .unset, .unset, .unset] [(.int (4 : Int32)), (.int (3 : Int32)), (.ref b262), (.ref b262)])) rfl (by rw [hml]; rfl) (Steps.refl _) (a := b262) (argsL := [(.int (3 : Int32)), (.int (4 : Int32))]) (rest := [(.ref b262)]) (lenOf own_pd__II_V rfl) rfl (by show 2 * 0 + _ ≤ _; exact Nat.le_of_eq rfl) (hb hby at_57) (fun _ _ => ⟨rfl, e262, (by decide : 2 + 0 ≤ _), (by decide : 6 + 0 ≤ _)⟩)
            dsimp only [Pt.U, Pt.locs, Pt.cells, Pt.slots] at X263 l263 y263 z263 st263 hQ263
            subst l263 y263 z263
            obtain ⟨rfl, Nq263, K263, -, F_start_b262, F_end_b262⟩ := hQ263
            have N263 := Fr.app N9 Nq263
            refine own_go (fun zt zk => st263.trans zk) ?_
            replace Kp := Kp.trans K263 (allS (Or.inr sz_b262) all0)
            replace V_b1 := V_b1.keep K263 (ninS ne_b1_b262 nin0)
            replace Ea_b1 := Ea_b1.keep K263
            replace Ex_b262 := Ex_b262.keep K263
            show own_Go p e below s _ _ _ (T263.setTop (mkF m 60 #[iv p1, iv p2, iv p3, iv p4, iv p5, iv p6, rv b1, iv (3 : Int32), iv (4 : Int32), .unset, .unset, .unset] [(.ref b262)]))
            refine own_go (fun zt zk => (XS.astore X263.here hx rfl (hb hby at_60) rfl rfl (l' := #[iv p1, iv p2, iv p3, iv p4, iv p5, iv p6, rv b1, iv (3 : Int32), iv (4 : Int32), rv b262, .unset, .unset]) rfl (XS.aload X263.here hx rfl (hb hby at_62) rfl rfl (XS.aload X263.here hx rfl (hb hby at_64) rfl rfl zk)))) ?_
            show own_Go p e below s _ _ _ (T263.setTop (mkF m 66 #[iv p1, iv p2, iv p3, iv p4, iv p5, iv p6, rv b1, iv (3 : Int32), iv (4 : Int32), rv b262, .unset, .unset] [(.ref b1), (.ref b262)]))
            obtain ⟨cq264, kq264, qa264, qb264, qc264⟩ := isOf hZ rfl Ex_b262
            obtain ⟨_, _, ⟨T264, L264, k264, n264⟩, -, X264, ⟨Lc264, hQ264, l264, y264, z264⟩, st264⟩ := X263.virtualBack hx (y := (⟨"com/example/tranche/tranche/model/Span", "bytesIn", "([B)[B"⟩ : MethodName)) (z := (⟨"com/example/tranche/tranche/model/Span", "bytesIn", "([B)[B"⟩ : MethodName)) hown (mvT hZ (hw _ (List.mem_of_getElem? (i := 20) rfl))) (mvT hZ (hw _ (List.mem_of_getElem? (i := 21) rfl))) (notFace_of_selects (args := #[]) (mvT hZ (hw _ (List.mem_of_getElem? (i := 23) rfl)))) (mvT hZ (hw _ (List.mem_of_getElem? (i := 23) rfl))) (mvT hZ (hw _ (List.mem_of_getElem? (i := 22) rfl))) (by decide) (backOf (W := 0) (own_rbi34 l Z a0 hw [] b262 b1 k1 (.int (p1.toInt8.toInt32)) (.int (p2.toInt8.toInt32)) (.int (p3.toInt8.toInt32)) (.int (p4.toInt8.toInt32)) T263.heap n0 (Nat.le_trans Z0 Kp.1) V_b1 Ea_b1 F_start_b262 F_end_b262) hZ (hw _ (List.mem_of_getElem? (i := 24) rfl)) (hw _ (List.mem_of_getElem? (i := 4) rfl)) (by decide) (by decide)) qa264 qc264 (g := (mkF m 66 #[iv p1, iv p2, iv p3, iv p4, iv p5, iv p6, rv b1, iv (3 : Int32), iv (4 : Int32), rv b262, .unset, .unset] [(.ref b1), (.ref b262)])) rfl (by rw [hml]; rfl) (Steps.refl _) (argsL := [(.ref b1)]) (rest := []) (lenOf own_pd___B__B rfl) rfl (by show 2 * 0 + _ ≤ _; exact Nat.le_of_eq rfl) (hb hby at_66) (fun _ _ => ⟨rfl, rfl, (by decide : 2 + 1 ≤ _), (by decide : 6 + 1 ≤ _)⟩)
            dsimp only [Pt.U, Pt.locs, Pt.cells, Pt.slots] at X264 l264 y264 z264 st264 hQ264
            subst l264 y264 z264
            obtain ⟨r264, kr264, rfl, Nq264, K264, sr264, Ea_r264, V_r264⟩ := hQ264
            have sz_r264 := Nat.le_trans Kp.1 sr264
            have g_r264 := Nat.le_trans Z0 sz_r264
            have ne_b1_r264 : b1 ≠ r264 := Nat.ne_of_lt (Nat.lt_of_lt_of_le V_b1.lt sr264)
            have ne_b262_r264 : b262 ≠ r264 := Nat.ne_of_lt (Nat.lt_of_lt_of_le Ex_b262.lt sr264)
            have N264 := Fr.app N263 Nq264
            refine own_go (fun zt zk => st264.trans zk) ?_
            replace Kp := Kp.trans K264 all0
            replace V_b1 := V_b1.keep K264 nin0
            replace Ea_b1 := Ea_b1.keep K264
            replace Ex_b262 := Ex_b262.keep K264
            replace F_start_b262 := F_start_b262.keep K264 nin0
            replace F_end_b262 := F_end_b262.keep K264 nin0
            show own_Go p e below s _ _ _ (T264.setTop (mkF m 69 #[iv p1, iv p2, iv p3, iv p4, iv p5, iv p6, rv b1, iv (3 : Int32), iv (4 : Int32), rv b262, .unset, .unset] [(.ref r264)]))
            refine own_go (fun zt zk => (XS.astore X264.here hx rfl (hb hby at_69) rfl rfl (l' := #[iv p1, iv p2, iv p3, iv p4, iv p5, iv p6, rv b1, iv (3 : Int32), iv (4 : Int32), rv b262, rv r264, .unset]) rfl (XS.aload X264.here hx rfl (hb hby at_71) rfl rfl (XS.ifnonnullYes X264.here hx rfl (pc0 := 73) (pc' := 78) rfl (hb hby at_73) rfl (by decide) (by decide) (XS.aload X264.here hx rfl (hb hby at_78) rfl rfl zk))))) ?_
            show own_Go p e below s _ _ _ (T264.setTop (mkF m 80 #[iv p1, iv p2, iv p3, iv p4, iv p5, iv p6, rv b1, iv (3 : Int32), iv (4 : Int32), rv b262, rv r264, .unset] [(.ref r264)]))
            obtain ⟨cl265, Ar265, -, Sz265, Nz265, -, -⟩ := id V_r264
            refine own_go (X264.arraylength hx (by exact Ar265.1) (State.isArrayOf_alike hZ.alike Ar265.2.1) (g := (mkF m 80 #[iv p1, iv p2, iv p3, iv p4, iv p5, iv p6, rv b1, iv (3 : Int32), iv (4 : Int32), rv b262, rv r264, .unset] [(.ref r264)])) rfl rfl (hb hby at_80)) ?_
            rw [len_of Sz265 Nz265]
            show own_Go p e below s _ _ _ (T264.setTop (mkF m 81 #[iv p1, iv p2, iv p3, iv p4, iv p5, iv p6, rv b1, iv (3 : Int32), iv (4 : Int32), rv b262, rv r264, .unset] [(.int (1 : Int32))]))
            refine own_go (fun zt zk => (XS.iload X264.here hx rfl (hb hby at_81) rfl (XS.iload X264.here hx rfl (hb hby at_83) rfl (XS.isub X264.here hx rfl (hb hby at_85) rfl (XS.icmpYes X264.here hx rfl (pc0 := 86) (pc' := 91) rfl (hb hby at_86) rfl (teq (rfl : (1 : Int32) = (1 : Int32))).1 (by decide) (by decide) (XS.iconst X264.here hx rfl (hb hby at_91) (XS.istore X264.here hx rfl (hb hby at_92) rfl (l' := #[iv p1, iv p2, iv p3, iv p4, iv p5, iv p6, rv b1, iv (3 : Int32), iv (4 : Int32), rv b262, rv r264, iv (1 : Int32)]) rfl (XS.aload X264.here hx rfl (hb hby at_94) rfl rfl zk)))))))) ?_
            show own_Go p e below s _ _ _ (T264.setTop (mkF m 96 #[iv p1, iv p2, iv p3, iv p4, iv p5, iv p6, rv b1, iv (3 : Int32), iv (4 : Int32), rv b262, rv r264, iv (1 : Int32)] [(.ref r264)]))
            obtain ⟨cl266, Ar266, -, Sz266, Nz266, -, -⟩ := id V_r264
            refine own_go (X264.arraylength hx (by exact Ar266.1) (State.isArrayOf_alike hZ.alike Ar266.2.1) (g := (mkF m 96 #[iv p1, iv p2, iv p3, iv p4, iv p5, iv p6, rv b1, iv (3 : Int32), iv (4 : Int32), rv b262, rv r264, iv (1 : Int32)] [(.ref r264)])) rfl rfl (hb hby at_96)) ?_
            rw [len_of Sz266 Nz266]
            show own_Go p e below s _ _ _ (T264.setTop (mkF m 97 #[iv p1, iv p2, iv p3, iv p4, iv p5, iv p6, rv b1, iv (3 : Int32), iv (4 : Int32), rv b262, rv r264, iv (1 : Int32)] [(.int (1 : Int32))]))
            refine own_go (fun zt zk => (XS.ifNo X264.here hx rfl (hb hby at_97) rfl ((if0 _ _).trans (tlt ((by decide) : (0 : Int32) < (1 : Int32))).2.2.2) (XS.iload X264.here hx rfl (hb hby at_100) rfl (XS.ifNo X264.here hx rfl (hb hby at_102) rfl ((if0 _ _).trans (feq ((by decide) : ¬ ((1 : Int32) = (0 : Int32)))).1) (XS.aload X264.here hx rfl (hb hby at_105) rfl rfl (XS.iconst X264.here hx rfl (hb hby at_107) zk)))))) ?_
            show own_Go p e below s _ _ _ (T264.setTop (mkF m 108 #[iv p1, iv p2, iv p3, iv p4, iv p5, iv p6, rv b1, iv (3 : Int32), iv (4 : Int32), rv b262, rv r264, iv (1 : Int32)] [(.int (0 : Int32)), (.ref r264)]))
            obtain ⟨cl267, Ar267, q267, Sz267, Nz267, Ha267, Ga267⟩ := id V_r264
            have hin267 : ¬ ((0 : Int32) < 0 ∨ cl267.slots.size ≤ ((0 : Int32)).toNatClampNeg) := inb_of Sz267 ⟨by decide, by decide⟩
            have hat267 : cl267.slots[((0 : Int32)).toNatClampNeg]? = some (.int (p4.toInt8.toInt32)) := Has.at Ha267 hin267 rfl
            refine own_go (X264.baloadBytes hx (j := (0 : Int32)) (v := (.int (p4.toInt8.toInt32))) (by exact Ar267.1) (State.isArrayOf_alike hZ.alike Ar267.2.1) Ar267.2.2 hin267 hat267 (g := (mkF m 108 #[iv p1, iv p2, iv p3, iv p4, iv p5, iv p6, rv b1, iv (3 : Int32), iv (4 : Int32), rv b262, rv r264, iv (1 : Int32)] [(.int (0 : Int32)), (.ref r264)])) rfl rfl (hb hby at_108)) ?_
            show own_Go p e below s _ _ _ (T264.setTop (mkF m 109 #[iv p1, iv p2, iv p3, iv p4, iv p5, iv p6, rv b1, iv (3 : Int32), iv (4 : Int32), rv b262, rv r264, iv (1 : Int32)] [(.int (p4.toInt8.toInt32))]))
            refine own_go (fun zt zk => (XS.iload X264.here hx rfl (hb hby at_109) rfl (XS.iloadN X264.here hx rfl (hb hby at_111) rfl (XS.iloadN X264.here hx rfl (hb hby at_112) rfl (XS.iloadN X264.here hx rfl (hb hby at_113) rfl (XS.iloadN X264.here hx rfl (hb hby at_114) rfl zk)))))) ?_
            show own_Go p e below s _ _ _ (T264.setTop (mkF m 115 #[iv p1, iv p2, iv p3, iv p4, iv p5, iv p6, rv b1, iv (3 : Int32), iv (4 : Int32), rv b262, rv r264, iv (1 : Int32)] [(.int p4), (.int p3), (.int p2), (.int p1), (.int (3 : Int32)), (.int (p4.toInt8.toInt32))]))
            obtain ⟨_, _, ⟨T268, L268, k268, n268⟩, -, X268, ⟨Lc268, hQ268, l268, y268, z268⟩, st268⟩ := Jvm.LawKit.callS X264 hx (y := (⟨"com/example/tranche/tranche/model/SpanBytesInPinLaw", "at", "(IIIII)B"⟩ : MethodName)) hown (mvT hZ (hw _ (List.mem_of_getElem? (i := 43) rfl))) (mvT hZ (hw _ (List.mem_of_getElem? (i := 44) rfl))) (mvT hZ (hw _ (List.mem_of_getElem? (i := 45) rfl))) (mvT hZ (hw _ (List.mem_of_getElem? (i := 46) rfl))) (by decide) (backOf (W := 1) (own_rat3 l Z a0 hw [] p1 p2 p3 p4  T264.heap n0 (Nat.le_trans Z0 Kp.1) ) hZ (hw _ (List.mem_of_getElem? (i := 46) rfl)) (hw _ (List.mem_of_getElem? (i := 45) rfl)) (by decide) (by decide)) (g := (mkF m 115 #[iv p1, iv p2, iv p3, iv p4, iv p5, iv p6, rv b1, iv (3 : Int32), iv (4 : Int32), rv b262, rv r264, iv (1 : Int32)] [(.int p4), (.int p3), (.int p2), (.int p1), (.int (3 : Int32)), (.int (p4.toInt8.toInt32))])) rfl (by rw [hml]; rfl) (argsL := [(.int (3 : Int32)), (.int p1), (.int p2), (.int p3), (.int p4)]) (rest := [(.int (p4.toInt8.toInt32))]) (lenOf own_pd__IIIII_B rfl) rfl (by show 2 * 0 + _ ≤ _; exact Nat.le_of_eq rfl) (hb hby at_115) (fun _ _ => ⟨rfl, rfl, (by decide : 3 + 0 ≤ _), (by decide : 7 + 0 ≤ _)⟩)
            dsimp only [Pt.U, Pt.locs, Pt.cells, Pt.slots] at X268 l268 y268 z268 st268 hQ268
            subst l268 y268 z268
            obtain ⟨rfl, Nq268, e268⟩ := hQ268
            have N268 := Fr.app N264 Nq268
            refine own_go st268 ?_
            show own_Go p e below s _ _ _ (T268.setTop (mkF m 118 #[iv p1, iv p2, iv p3, iv p4, iv p5, iv p6, rv b1, iv (3 : Int32), iv (4 : Int32), rv b262, rv r264, iv (1 : Int32)] [(.int (p4.toInt8.toInt32)), (.int (p4.toInt8.toInt32))]))
            refine own_go (fun zt zk => (XS.icmpNo X268.here hx rfl (hb hby at_118) rfl (teq (rfl : (p4.toInt8.toInt32) = (p4.toInt8.toInt32))).2 (XS.iconst X268.here hx rfl (hb hby at_121) (XS.goto X268.here hx rfl (pc0 := 122) (pc' := 126) rfl (hb hby at_122) (by decide) (by decide) (XS.istore X268.here hx rfl (hb hby at_126) rfl (l' := #[iv p1, iv p2, iv p3, iv p4, iv p5, iv p6, rv b1, iv (3 : Int32), iv (4 : Int32), rv b262, rv r264, iv (1 : Int32)]) rfl (XS.aload X268.here hx rfl (hb hby at_128) rfl rfl zk)))))) ?_
            show own_Go p e below s _ _ _ (T268.setTop (mkF m 130 #[iv p1, iv p2, iv p3, iv p4, iv p5, iv p6, rv b1, iv (3 : Int32), iv (4 : Int32), rv b262, rv r264, iv (1 : Int32)] [(.ref r264)]))
            obtain ⟨cl269, Ar269, -, Sz269, Nz269, -, -⟩ := id V_r264
            refine own_go (X268.arraylength hx (by rw [e268]; exact Ar269.1) (State.isArrayOf_alike hZ.alike Ar269.2.1) (g := (mkF m 130 #[iv p1, iv p2, iv p3, iv p4, iv p5, iv p6, rv b1, iv (3 : Int32), iv (4 : Int32), rv b262, rv r264, iv (1 : Int32)] [(.ref r264)])) rfl rfl (hb hby at_130)) ?_
            rw [len_of Sz269 Nz269]
            show own_Go p e below s _ _ _ (T268.setTop (mkF m 131 #[iv p1, iv p2, iv p3, iv p4, iv p5, iv p6, rv b1, iv (3 : Int32), iv (4 : Int32), rv b262, rv r264, iv (1 : Int32)] [(.int (1 : Int32))]))
            refine own_go (fun zt zk => (XS.iconst X268.here hx rfl (hb hby at_131) (XS.icmpYes X268.here hx rfl (pc0 := 132) (pc' := 165) rfl (hb hby at_132) rfl (flt ((own_irr _) : ¬ ((1 : Int32) < (1 : Int32)))).2.2.2 (by decide) (by decide) (XS.aload X268.here hx rfl (hb hby at_165) rfl rfl zk)))) ?_
            show own_Go p e below s _ _ _ (T268.setTop (mkF m 167 #[iv p1, iv p2, iv p3, iv p4, iv p5, iv p6, rv b1, iv (3 : Int32), iv (4 : Int32), rv b262, rv r264, iv (1 : Int32)] [(.ref r264)]))
            obtain ⟨cl270, Ar270, -, Sz270, Nz270, -, -⟩ := id V_r264
            refine own_go (X268.arraylength hx (by rw [e268]; exact Ar270.1) (State.isArrayOf_alike hZ.alike Ar270.2.1) (g := (mkF m 167 #[iv p1, iv p2, iv p3, iv p4, iv p5, iv p6, rv b1, iv (3 : Int32), iv (4 : Int32), rv b262, rv r264, iv (1 : Int32)] [(.ref r264)])) rfl rfl (hb hby at_167)) ?_
            rw [len_of Sz270 Nz270]
            show own_Go p e below s _ _ _ (T268.setTop (mkF m 168 #[iv p1, iv p2, iv p3, iv p4, iv p5, iv p6, rv b1, iv (3 : Int32), iv (4 : Int32), rv b262, rv r264, iv (1 : Int32)] [(.int (1 : Int32))]))
            refine own_go (fun zt zk => (XS.iconst X268.here hx rfl (hb hby at_168) (XS.icmpYes X268.here hx rfl (pc0 := 169) (pc' := 202) rfl (hb hby at_169) rfl (flt ((by decide) : ¬ ((2 : Int32) < (1 : Int32)))).2.2.2 (by decide) (by decide) (XS.aload X268.here hx rfl (hb hby at_202) rfl rfl zk)))) ?_
            show own_Go p e below s _ _ _ (T268.setTop (mkF m 204 #[iv p1, iv p2, iv p3, iv p4, iv p5, iv p6, rv b1, iv (3 : Int32), iv (4 : Int32), rv b262, rv r264, iv (1 : Int32)] [(.ref r264)]))
            obtain ⟨cl271, Ar271, -, Sz271, Nz271, -, -⟩ := id V_r264
            refine own_go (X268.arraylength hx (by rw [e268]; exact Ar271.1) (State.isArrayOf_alike hZ.alike Ar271.2.1) (g := (mkF m 204 #[iv p1, iv p2, iv p3, iv p4, iv p5, iv p6, rv b1, iv (3 : Int32), iv (4 : Int32), rv b262, rv r264, iv (1 : Int32)] [(.ref r264)])) rfl rfl (hb hby at_204)) ?_
            rw [len_of Sz271 Nz271]
            show own_Go p e below s _ _ _ (T268.setTop (mkF m 205 #[iv p1, iv p2, iv p3, iv p4, iv p5, iv p6, rv b1, iv (3 : Int32), iv (4 : Int32), rv b262, rv r264, iv (1 : Int32)] [(.int (1 : Int32))]))
            refine own_go (fun zt zk => (XS.iconst X268.here hx rfl (hb hby at_205) (XS.icmpYes X268.here hx rfl (pc0 := 206) (pc' := 239) rfl (hb hby at_206) rfl (flt ((by decide) : ¬ ((3 : Int32) < (1 : Int32)))).2.2.2 (by decide) (by decide) (XS.iload X268.here hx rfl (hb hby at_239) rfl (XS.ifNo X268.here hx rfl (hb hby at_241) rfl ((if0 _ _).trans (feq ((by decide) : ¬ ((1 : Int32) = (0 : Int32)))).1) (XS.aload X268.here hx rfl (hb hby at_244) rfl rfl (XS.iconst X268.here hx rfl (hb hby at_246) zk))))))) ?_
            show own_Go p e below s _ _ _ (T268.setTop (mkF m 247 #[iv p1, iv p2, iv p3, iv p4, iv p5, iv p6, rv b1, iv (3 : Int32), iv (4 : Int32), rv b262, rv r264, iv (1 : Int32)] [(.int (0 : Int32)), (.ref b1)]))
            obtain ⟨cl272, Ar272, q272, Sz272, Nz272, Ha272, Ga272⟩ := id V_b1
            have hin272 : ¬ ((0 : Int32) < 0 ∨ cl272.slots.size ≤ ((0 : Int32)).toNatClampNeg) := inb_of Sz272 ⟨by decide, by decide⟩
            have hat272 : cl272.slots[((0 : Int32)).toNatClampNeg]? = some (.int (p1.toInt8.toInt32)) := Has.at Ha272 hin272 rfl
            refine own_go (X268.baloadBytes hx (j := (0 : Int32)) (v := (.int (p1.toInt8.toInt32))) (by rw [e268]; exact Ar272.1) (State.isArrayOf_alike hZ.alike Ar272.2.1) Ar272.2.2 hin272 hat272 (g := (mkF m 247 #[iv p1, iv p2, iv p3, iv p4, iv p5, iv p6, rv b1, iv (3 : Int32), iv (4 : Int32), rv b262, rv r264, iv (1 : Int32)] [(.int (0 : Int32)), (.ref b1)])) rfl rfl (hb hby at_247)) ?_
            show own_Go p e below s _ _ _ (T268.setTop (mkF m 248 #[iv p1, iv p2, iv p3, iv p4, iv p5, iv p6, rv b1, iv (3 : Int32), iv (4 : Int32), rv b262, rv r264, iv (1 : Int32)] [(.int (p1.toInt8.toInt32))]))
            refine own_go (fun zt zk => (XS.iloadN X268.here hx rfl (hb hby at_248) rfl (XS.i2b X268.here hx rfl (hb hby at_249) rfl (XS.icmpNo X268.here hx rfl (hb hby at_250) rfl (teq (rfl : (p1.toInt8.toInt32) = (p1.toInt8.toInt32))).2 (XS.aload X268.here hx rfl (hb hby at_253) rfl rfl (XS.iconst X268.here hx rfl (hb hby at_255) zk)))))) ?_
            show own_Go p e below s _ _ _ (T268.setTop (mkF m 256 #[iv p1, iv p2, iv p3, iv p4, iv p5, iv p6, rv b1, iv (3 : Int32), iv (4 : Int32), rv b262, rv r264, iv (1 : Int32)] [(.int (1 : Int32)), (.ref b1)]))
            obtain ⟨cl273, Ar273, q273, Sz273, Nz273, Ha273, Ga273⟩ := id V_b1
            have hin273 : ¬ ((1 : Int32) < 0 ∨ cl273.slots.size ≤ ((1 : Int32)).toNatClampNeg) := inb_of Sz273 ⟨by decide, by decide⟩
            have hat273 : cl273.slots[((1 : Int32)).toNatClampNeg]? = some (.int (p2.toInt8.toInt32)) := Has.at Ha273 hin273 rfl
            refine own_go (X268.baloadBytes hx (j := (1 : Int32)) (v := (.int (p2.toInt8.toInt32))) (by rw [e268]; exact Ar273.1) (State.isArrayOf_alike hZ.alike Ar273.2.1) Ar273.2.2 hin273 hat273 (g := (mkF m 256 #[iv p1, iv p2, iv p3, iv p4, iv p5, iv p6, rv b1, iv (3 : Int32), iv (4 : Int32), rv b262, rv r264, iv (1 : Int32)] [(.int (1 : Int32)), (.ref b1)])) rfl rfl (hb hby at_256)) ?_
            show own_Go p e below s _ _ _ (T268.setTop (mkF m 257 #[iv p1, iv p2, iv p3, iv p4, iv p5, iv p6, rv b1, iv (3 : Int32), iv (4 : Int32), rv b262, rv r264, iv (1 : Int32)] [(.int (p2.toInt8.toInt32))]))
            refine own_go (fun zt zk => (XS.iloadN X268.here hx rfl (hb hby at_257) rfl (XS.i2b X268.here hx rfl (hb hby at_258) rfl (XS.icmpNo X268.here hx rfl (hb hby at_259) rfl (teq (rfl : (p2.toInt8.toInt32) = (p2.toInt8.toInt32))).2 (XS.aload X268.here hx rfl (hb hby at_262) rfl rfl (XS.iconst X268.here hx rfl (hb hby at_264) zk)))))) ?_
            show own_Go p e below s _ _ _ (T268.setTop (mkF m 265 #[iv p1, iv p2, iv p3, iv p4, iv p5, iv p6, rv b1, iv (3 : Int32), iv (4 : Int32), rv b262, rv r264, iv (1 : Int32)] [(.int (2 : Int32)), (.ref b1)]))
            obtain ⟨cl274, Ar274, q274, Sz274, Nz274, Ha274, Ga274⟩ := id V_b1
            have hin274 : ¬ ((2 : Int32) < 0 ∨ cl274.slots.size ≤ ((2 : Int32)).toNatClampNeg) := inb_of Sz274 ⟨by decide, by decide⟩
            have hat274 : cl274.slots[((2 : Int32)).toNatClampNeg]? = some (.int (p3.toInt8.toInt32)) := Has.at Ha274 hin274 rfl
            refine own_go (X268.baloadBytes hx (j := (2 : Int32)) (v := (.int (p3.toInt8.toInt32))) (by rw [e268]; exact Ar274.1) (State.isArrayOf_alike hZ.alike Ar274.2.1) Ar274.2.2 hin274 hat274 (g := (mkF m 265 #[iv p1, iv p2, iv p3, iv p4, iv p5, iv p6, rv b1, iv (3 : Int32), iv (4 : Int32), rv b262, rv r264, iv (1 : Int32)] [(.int (2 : Int32)), (.ref b1)])) rfl rfl (hb hby at_265)) ?_
            show own_Go p e below s _ _ _ (T268.setTop (mkF m 266 #[iv p1, iv p2, iv p3, iv p4, iv p5, iv p6, rv b1, iv (3 : Int32), iv (4 : Int32), rv b262, rv r264, iv (1 : Int32)] [(.int (p3.toInt8.toInt32))]))
            refine own_go (fun zt zk => (XS.iloadN X268.here hx rfl (hb hby at_266) rfl (XS.i2b X268.here hx rfl (hb hby at_267) rfl (XS.icmpNo X268.here hx rfl (hb hby at_268) rfl (teq (rfl : (p3.toInt8.toInt32) = (p3.toInt8.toInt32))).2 (XS.aload X268.here hx rfl (hb hby at_271) rfl rfl (XS.iconst X268.here hx rfl (hb hby at_273) zk)))))) ?_
            show own_Go p e below s _ _ _ (T268.setTop (mkF m 274 #[iv p1, iv p2, iv p3, iv p4, iv p5, iv p6, rv b1, iv (3 : Int32), iv (4 : Int32), rv b262, rv r264, iv (1 : Int32)] [(.int (3 : Int32)), (.ref b1)]))
            obtain ⟨cl275, Ar275, q275, Sz275, Nz275, Ha275, Ga275⟩ := id V_b1
            have hin275 : ¬ ((3 : Int32) < 0 ∨ cl275.slots.size ≤ ((3 : Int32)).toNatClampNeg) := inb_of Sz275 ⟨by decide, by decide⟩
            have hat275 : cl275.slots[((3 : Int32)).toNatClampNeg]? = some (.int (p4.toInt8.toInt32)) := Has.at Ha275 hin275 rfl
            refine own_go (X268.baloadBytes hx (j := (3 : Int32)) (v := (.int (p4.toInt8.toInt32))) (by rw [e268]; exact Ar275.1) (State.isArrayOf_alike hZ.alike Ar275.2.1) Ar275.2.2 hin275 hat275 (g := (mkF m 274 #[iv p1, iv p2, iv p3, iv p4, iv p5, iv p6, rv b1, iv (3 : Int32), iv (4 : Int32), rv b262, rv r264, iv (1 : Int32)] [(.int (3 : Int32)), (.ref b1)])) rfl rfl (hb hby at_274)) ?_
            show own_Go p e below s _ _ _ (T268.setTop (mkF m 275 #[iv p1, iv p2, iv p3, iv p4, iv p5, iv p6, rv b1, iv (3 : Int32), iv (4 : Int32), rv b262, rv r264, iv (1 : Int32)] [(.int (p4.toInt8.toInt32))]))
            refine own_go (fun zt zk => (XS.iloadN X268.here hx rfl (hb hby at_275) rfl (XS.i2b X268.here hx rfl (hb hby at_276) rfl (XS.icmpNo X268.here hx rfl (hb hby at_277) rfl (teq (rfl : (p4.toInt8.toInt32) = (p4.toInt8.toInt32))).2 (XS.iconst X268.here hx rfl (hb hby at_280) (XS.goto X268.here hx rfl (pc0 := 281) (pc' := 285) rfl (hb hby at_281) (by decide) (by decide) (XS.istore X268.here hx rfl (hb hby at_285) rfl (l' := #[iv p1, iv p2, iv p3, iv p4, iv p5, iv p6, rv b1, iv (3 : Int32), iv (4 : Int32), rv b262, rv r264, iv (1 : Int32)]) rfl (XS.aload X268.here hx rfl (hb hby at_287) rfl rfl zk)))))))) ?_
            show own_Go p e below s _ _ _ (T268.setTop (mkF m 289 #[iv p1, iv p2, iv p3, iv p4, iv p5, iv p6, rv b1, iv (3 : Int32), iv (4 : Int32), rv b262, rv r264, iv (1 : Int32)] [(.ref r264)]))
            obtain ⟨cl276, Ar276, -, Sz276, Nz276, -, -⟩ := id V_r264
            refine own_go (X268.arraylength hx (by rw [e268]; exact Ar276.1) (State.isArrayOf_alike hZ.alike Ar276.2.1) (g := (mkF m 289 #[iv p1, iv p2, iv p3, iv p4, iv p5, iv p6, rv b1, iv (3 : Int32), iv (4 : Int32), rv b262, rv r264, iv (1 : Int32)] [(.ref r264)])) rfl rfl (hb hby at_289)) ?_
            rw [len_of Sz276 Nz276]
            show own_Go p e below s _ _ _ (T268.setTop (mkF m 290 #[iv p1, iv p2, iv p3, iv p4, iv p5, iv p6, rv b1, iv (3 : Int32), iv (4 : Int32), rv b262, rv r264, iv (1 : Int32)] [(.int (1 : Int32))]))
            refine own_go (fun zt zk => (XS.ifNo X268.here hx rfl (hb hby at_290) rfl ((if0 _ _).trans (tlt ((by decide) : (0 : Int32) < (1 : Int32))).2.2.2) (XS.aload X268.here hx rfl (hb hby at_293) rfl rfl (XS.iconst X268.here hx rfl (hb hby at_295) (XS.aload X268.here hx rfl (hb hby at_296) rfl rfl (XS.iconst X268.here hx rfl (hb hby at_298) zk)))))) ?_
            show own_Go p e below s _ _ _ (T268.setTop (mkF m 299 #[iv p1, iv p2, iv p3, iv p4, iv p5, iv p6, rv b1, iv (3 : Int32), iv (4 : Int32), rv b262, rv r264, iv (1 : Int32)] [(.int (0 : Int32)), (.ref r264), (.int (0 : Int32)), (.ref r264)]))
            obtain ⟨cl277, Ar277, q277, Sz277, Nz277, Ha277, Ga277⟩ := id V_r264
            have hin277 : ¬ ((0 : Int32) < 0 ∨ cl277.slots.size ≤ ((0 : Int32)).toNatClampNeg) := inb_of Sz277 ⟨by decide, by decide⟩
            have hat277 : cl277.slots[((0 : Int32)).toNatClampNeg]? = some (.int (p4.toInt8.toInt32)) := Has.at Ha277 hin277 rfl
            refine own_go (X268.baloadBytes hx (j := (0 : Int32)) (v := (.int (p4.toInt8.toInt32))) (by rw [e268]; exact Ar277.1) (State.isArrayOf_alike hZ.alike Ar277.2.1) Ar277.2.2 hin277 hat277 (g := (mkF m 299 #[iv p1, iv p2, iv p3, iv p4, iv p5, iv p6, rv b1, iv (3 : Int32), iv (4 : Int32), rv b262, rv r264, iv (1 : Int32)] [(.int (0 : Int32)), (.ref r264), (.int (0 : Int32)), (.ref r264)])) rfl rfl (hb hby at_299)) ?_
            show own_Go p e below s _ _ _ (T268.setTop (mkF m 300 #[iv p1, iv p2, iv p3, iv p4, iv p5, iv p6, rv b1, iv (3 : Int32), iv (4 : Int32), rv b262, rv r264, iv (1 : Int32)] [(.int (p4.toInt8.toInt32)), (.int (0 : Int32)), (.ref r264)]))
            refine own_go (fun zt zk => (XS.iconst X268.here hx rfl (hb hby at_300) (XS.ixor X268.here hx rfl (hb hby at_301) rfl (XS.i2b X268.here hx rfl (hb hby at_302) rfl zk)))) ?_
            show own_Go p e below s _ _ _ (T268.setTop (mkF m 303 #[iv p1, iv p2, iv p3, iv p4, iv p5, iv p6, rv b1, iv (3 : Int32), iv (4 : Int32), rv b262, rv r264, iv (1 : Int32)] [(.int (((p4.toInt8.toInt32) ^^^ (1 : Int32)).toInt8.toInt32)), (.int (0 : Int32)), (.ref r264)]))
            obtain ⟨cl278, Ar278, q278, Sz278, Nz278, Ha278, Ga278⟩ := id V_r264
            have hin278 : ¬ ((0 : Int32) < 0 ∨ cl278.slots.size ≤ ((0 : Int32)).toNatClampNeg) := inb_of Sz278 ⟨by decide, by decide⟩
            obtain ⟨T279, h279, X279, e279, W279, st279⟩ := stB X268 hx hZ e268 Ar278 (j := (0 : Int32)) hin278 (g := (mkF m 303 #[iv p1, iv p2, iv p3, iv p4, iv p5, iv p6, rv b1, iv (3 : Int32), iv (4 : Int32), rv b262, rv r264, iv (1 : Int32)] [(.int (((p4.toInt8.toInt32) ^^^ (1 : Int32)).toInt8.toInt32)), (.int (0 : Int32)), (.ref r264)])) rfl rfl (hb hby at_303)
            refine own_go st279 ?_
            rw [show nar .byte (((p4.toInt8.toInt32) ^^^ (1 : Int32)).toInt8.toInt32) = (((p4.toInt8.toInt32) ^^^ (1 : Int32)).toInt8.toInt32) from own_b8 _] at W279
            have V279 := Arv.set Ar278 q278 Sz278 Nz278 Ha278 Ga278 (fits_nar_byte _) W279 0 rfl (Nat.le_of_ble_eq_true rfl)
            have N279 := Fr.snoc X279 N268 g_r264
            replace Kp := Kp.wr W279 (Or.inr sz_r264)
            replace V_b1 := V_b1.other W279 ne_b1_r264
            replace Ea_b1 := Ea_b1.wr W279
            replace Ex_b262 := Ex_b262.wr W279
            replace F_start_b262 := F_start_b262.other W279 (Or.inl ne_b262_r264)
            replace F_end_b262 := F_end_b262.other W279 (Or.inl ne_b262_r264)
            replace Ea_r264 := Ea_r264.wr W279
            replace V_r264 : Arv Z h279 r264 kr264 .byte (1 : Int32) [(.int (((p4.toInt8.toInt32) ^^^ (1 : Int32)).toInt8.toInt32))] (.int (0 : Int32)) := V279
            show own_Go p e below s _ _ _ (T279.setTop (mkF m 304 #[iv p1, iv p2, iv p3, iv p4, iv p5, iv p6, rv b1, iv (3 : Int32), iv (4 : Int32), rv b262, rv r264, iv (1 : Int32)] []))
            refine own_go (fun zt zk => (XS.iload X279.here hx rfl (hb hby at_304) rfl (XS.ifNo X279.here hx rfl (hb hby at_306) rfl ((if0 _ _).trans (feq ((by decide) : ¬ ((1 : Int32) = (0 : Int32)))).1) (XS.aload X279.here hx rfl (hb hby at_309) rfl rfl (XS.iload X279.here hx rfl (hb hby at_311) rfl zk))))) ?_
            show own_Go p e below s _ _ _ (T279.setTop (mkF m 313 #[iv p1, iv p2, iv p3, iv p4, iv p5, iv p6, rv b1, iv (3 : Int32), iv (4 : Int32), rv b262, rv r264, iv (1 : Int32)] [(.int (3 : Int32)), (.ref b1)]))
            obtain ⟨cl280, Ar280, q280, Sz280, Nz280, Ha280, Ga280⟩ := id V_b1
            have hin280 : ¬ ((3 : Int32) < 0 ∨ cl280.slots.size ≤ ((3 : Int32)).toNatClampNeg) := inb_of Sz280 ⟨by decide, by decide⟩
            have hat280 : cl280.slots[((3 : Int32)).toNatClampNeg]? = some (.int (p4.toInt8.toInt32)) := Has.at Ha280 hin280 rfl
            refine own_go (X279.baloadBytes hx (j := (3 : Int32)) (v := (.int (p4.toInt8.toInt32))) (by rw [e279]; exact Ar280.1) (State.isArrayOf_alike hZ.alike Ar280.2.1) Ar280.2.2 hin280 hat280 (g := (mkF m 313 #[iv p1, iv p2, iv p3, iv p4, iv p5, iv p6, rv b1, iv (3 : Int32), iv (4 : Int32), rv b262, rv r264, iv (1 : Int32)] [(.int (3 : Int32)), (.ref b1)])) rfl rfl (hb hby at_313)) ?_
            show own_Go p e below s _ _ _ (T279.setTop (mkF m 314 #[iv p1, iv p2, iv p3, iv p4, iv p5, iv p6, rv b1, iv (3 : Int32), iv (4 : Int32), rv b262, rv r264, iv (1 : Int32)] [(.int (p4.toInt8.toInt32))]))
            refine own_go (fun zt zk => (XS.iload X279.here hx rfl (hb hby at_314) rfl (XS.iloadN X279.here hx rfl (hb hby at_316) rfl (XS.iloadN X279.here hx rfl (hb hby at_317) rfl (XS.iloadN X279.here hx rfl (hb hby at_318) rfl (XS.iloadN X279.here hx rfl (hb hby at_319) rfl zk)))))) ?_
            show own_Go p e below s _ _ _ (T279.setTop (mkF m 320 #[iv p1, iv p2, iv p3, iv p4, iv p5, iv p6, rv b1, iv (3 : Int32), iv (4 : Int32), rv b262, rv r264, iv (1 : Int32)] [(.int p4), (.int p3), (.int p2), (.int p1), (.int (3 : Int32)), (.int (p4.toInt8.toInt32))]))
            obtain ⟨_, _, ⟨T281, L281, k281, n281⟩, -, X281, ⟨Lc281, hQ281, l281, y281, z281⟩, st281⟩ := Jvm.LawKit.callS X279 hx (y := (⟨"com/example/tranche/tranche/model/SpanBytesInPinLaw", "at", "(IIIII)B"⟩ : MethodName)) hown (mvT hZ (hw _ (List.mem_of_getElem? (i := 43) rfl))) (mvT hZ (hw _ (List.mem_of_getElem? (i := 44) rfl))) (mvT hZ (hw _ (List.mem_of_getElem? (i := 45) rfl))) (mvT hZ (hw _ (List.mem_of_getElem? (i := 46) rfl))) (by decide) (backOf (W := 1) (own_rat3 l Z a0 hw [] p1 p2 p3 p4  h279 n0 (Nat.le_trans Z0 Kp.1) ) hZ (hw _ (List.mem_of_getElem? (i := 46) rfl)) (hw _ (List.mem_of_getElem? (i := 45) rfl)) (by decide) (by decide)) (g := (mkF m 320 #[iv p1, iv p2, iv p3, iv p4, iv p5, iv p6, rv b1, iv (3 : Int32), iv (4 : Int32), rv b262, rv r264, iv (1 : Int32)] [(.int p4), (.int p3), (.int p2), (.int p1), (.int (3 : Int32)), (.int (p4.toInt8.toInt32))])) rfl (by rw [hml]; rfl) (argsL := [(.int (3 : Int32)), (.int p1), (.int p2), (.int p3), (.int p4)]) (rest := [(.int (p4.toInt8.toInt32))]) (lenOf own_pd__IIIII_B rfl) rfl (by show 2 * 0 + _ ≤ _; exact Nat.le_of_eq rfl) (hb hby at_320) (fun _ _ => ⟨rfl, e279, (by decide : 3 + 0 ≤ _), (by decide : 7 + 0 ≤ _)⟩)
            dsimp only [Pt.U, Pt.locs, Pt.cells, Pt.slots] at X281 l281 y281 z281 st281 hQ281
            subst l281 y281 z281
            obtain ⟨rfl, Nq281, e281⟩ := hQ281
            have N281 := Fr.app N279 Nq281
            refine own_go st281 ?_
            show own_Go p e below s _ _ _ (T281.setTop (mkF m 323 #[iv p1, iv p2, iv p3, iv p4, iv p5, iv p6, rv b1, iv (3 : Int32), iv (4 : Int32), rv b262, rv r264, iv (1 : Int32)] [(.int (p4.toInt8.toInt32)), (.int (p4.toInt8.toInt32))]))
            refine own_go (fun zt zk => (XS.icmpNo X281.here hx rfl (hb hby at_323) rfl (teq (rfl : (p4.toInt8.toInt32) = (p4.toInt8.toInt32))).2 (XS.iconst X281.here hx rfl (hb hby at_326) (XS.goto X281.here hx rfl (pc0 := 327) (pc' := 331) rfl (hb hby at_327) (by decide) (by decide) (XS.istore X281.here hx rfl (hb hby at_331) rfl (l' := #[iv p1, iv p2, iv p3, iv p4, iv p5, iv p6, rv b1, iv (3 : Int32), iv (4 : Int32), rv b262, rv r264, iv (1 : Int32)]) rfl (XS.iload X281.here hx rfl (hb hby at_333) rfl zk)))))) ?_
            show own_Go p e below s _ _ _ (T281.setTop (mkF m 335 #[iv p1, iv p2, iv p3, iv p4, iv p5, iv p6, rv b1, iv (3 : Int32), iv (4 : Int32), rv b262, rv r264, iv (1 : Int32)] [(.int (1 : Int32))]))
            exact own_fin X281 Bd.notSynchronized (fun h => by rw [Bd.returns] at h; cases h) (fun fs hr => retN X281 hx (t := .boolean) Bd.returns (by simp) (hb hby at_335) hr) (by rw [e281]; exact ⟨rfl, N281⟩) (by decide) (by decide)
        · have hk4_st : st = (4 : Int32) := Int32.toInt_inj.mp (by have a := own_mod (D := 5) rfl (by decide) hv_st; have b0 := own_ne 0 rfl hk0_st; have b1 := own_ne 1 rfl hk1_st; have b2 := own_ne 2 rfl hk2_st; have b3 := own_ne 3 rfl hk3_st; show st.toInt = 4; omega)
          subst hk4_st
          show own_Go p e below s _ _ _ (T9.setTop (mkF m 34 #[iv p1, iv p2, iv p3, iv p4, iv p5, iv p6, rv b1, iv (4 : Int32), .unset, .unset, .unset, .unset] []))
          refine own_go (fun zt zk => (XS.iload X9.here hx rfl (hb hby at_34) rfl (XS.iload X9.here hx rfl (hb hby at_36) rfl (X9.ldcI hx hown (mvT hZ (hw _ (List.mem_of_getElem? (i := 1) rfl))) (g := (mkF m 38 #[iv p1, iv p2, iv p3, iv p4, iv p5, iv p6, rv b1, iv (4 : Int32), .unset, .unset, .unset, .unset] [(.int p6), (.int (4 : Int32))])) rfl (hb hby at_38) (XS.iand X9.here hx rfl (hb hby at_40) rfl (XS.iconst X9.here hx rfl (hb hby at_41) (XS.iload X9.here hx rfl (hb hby at_42) rfl (XS.isub X9.here hx rfl (hb hby at_44) rfl (iremM X9 hx rfl (hb hby at_45) rfl (by decide) zk))))))))) ?_
          show own_Go p e below s _ _ _ (T9.setTop (mkF m 46 #[iv p1, iv p2, iv p3, iv p4, iv p5, iv p6, rv b1, iv (4 : Int32), .unset, .unset, .unset, .unset] [(.int ((p6 &&& (2147483647 : Int32)) % (1 : Int32))), (.int (4 : Int32))]))
          generalize hv_en : ((p6 &&& (2147483647 : Int32)) % (1 : Int32)) = en
          show own_Go p e below s _ _ _ (T9.setTop (mkF m 46 #[iv p1, iv p2, iv p3, iv p4, iv p5, iv p6, rv b1, iv (4 : Int32), .unset, .unset, .unset, .unset] [(.int en), (.int (4 : Int32))]))
          have hk0_en : en = (0 : Int32) := Int32.toInt_inj.mp (by have a := own_mod (D := 1) rfl (by decide) hv_en; show en.toInt = 0; omega)
          subst hk0_en
          show own_Go p e below s _ _ _ (T9.setTop (mkF m 46 #[iv p1, iv p2, iv p3, iv p4, iv p5, iv p6, rv b1, iv (4 : Int32), .unset, .unset, .unset, .unset] [(.int (0 : Int32)), (.int (4 : Int32))]))
          refine own_go (fun zt zk => (XS.iadd X9.here hx rfl (hb hby at_46) rfl (XS.istore X9.here hx rfl (hb hby at_47) rfl (l' := #[iv p1, iv p2, iv p3, iv p4, iv p5, iv p6, rv b1, iv (4 : Int32), iv (4 : Int32), .unset, .unset, .unset]) rfl zk))) ?_
          show own_Go p e below s _ _ _ (T9.setTop (mkF m 49 #[iv p1, iv p2, iv p3, iv p4, iv p5, iv p6, rv b1, iv (4 : Int32), iv (4 : Int32), .unset, .unset, .unset] []))
          obtain ⟨T282, h282, X282, e282, E282, A282, D282, -, st282⟩ := newO X9 hx hZ hown (hw _ (List.mem_of_getElem? (i := 2) rfl)) (hw _ (List.mem_of_getElem? (i := 3) rfl)) (hw _ (List.mem_of_getElem? (i := 4) rfl)) e9 (g := (mkF m 49 #[iv p1, iv p2, iv p3, iv p4, iv p5, iv p6, rv b1, iv (4 : Int32), iv (4 : Int32), .unset, .unset, .unset] [])) rfl (hb hby at_49) (by decide) (by decide)
          obtain ⟨b282, g282⟩ : ∃ z, z = h9.size := ⟨_, rfl⟩
          rw [← g282] at A282 D282 st282
          refine own_go st282 ?_
          have ne_b1_b282 : b1 ≠ b282 := Nat.ne_of_lt (Nat.lt_of_lt_of_le V_b1.lt (Nat.le_of_eq g282.symm))
          have sz_b282 : h0.size ≤ b282 := Nat.le_trans Kp.1 (Nat.le_of_eq g282.symm)
          have g_b282 : n0 ≤ b282 := Nat.le_trans Z0 sz_b282
          replace Kp := Kp.ext E282
          replace V_b1 := V_b1.ext E282
          replace Ea_b1 := Ea_b1.ext E282
          have Ex_b282 := A282
          have F_start_b282 : Fld Z h282 b282 "com/example/tranche/tranche/model/Span" "start" "I" (.int (0 : Int32)) := D282 (Or.inr (hw _ (List.mem_of_getElem? (i := 17) rfl))) (ty := .int) (by decide)
          have F_end_b282 : Fld Z h282 b282 "com/example/tranche/tranche/model/Span" "end" "I" (.int (0 : Int32)) := D282 (Or.inr (hw _ (List.mem_of_getElem? (i := 19) rfl))) (ty := .int) (by decide)
          show own_Go p e below s _ _ _ (T282.setTop (mkF m 52 #[iv p1, iv p2, iv p3, iv p4, iv p5, iv p6, rv b1, iv (4 : Int32), iv (4 : Int32), .unset, .unset, .unset] [(.ref b282)]))
          refine own_go (fun zt zk => (XS.dup X282.here hx rfl (hb hby at_52) rfl rfl (XS.iload X282.here hx rfl (hb hby at_53) rfl (XS.iload X282.here hx rfl (hb hby at_55) rfl zk)))) ?_
          show own_Go p e below s _ _ _ (T282.setTop (mkF m 57 #[iv p1, iv p2, iv p3, iv p4, iv p5, iv p6, rv b1, iv (4 : Int32), iv (4 : Int32), .unset, .unset, .unset] [(.int (4 : Int32)), (.int (4 : Int32)), (.ref b282), (.ref b282)]))
          obtain ⟨_, _, ⟨T283, L283, k283, n283⟩, -, X283, ⟨Lc283, hQ283, l283, y283, z283⟩, st283⟩ := X282.specialBack hx (y := (⟨"com/example/tranche/tranche/model/Span", "<init>", "(II)V"⟩ : MethodName)) rfl hown (mvT hZ (hw _ (List.mem_of_getElem? (i := 5) rfl))) (mvT hZ (hw _ (List.mem_of_getElem? (i := 6) rfl))) (mvT hZ (hw _ (List.mem_of_getElem? (i := 7) rfl))) (by decide) (backOf (W := 1) (own_rspan l Z a0 hw [] b282 (4 : Int32) (4 : Int32)  h282 n0 (Nat.le_trans Z0 Kp.1) Ex_b282 F_start_b282 F_end_b282 g_b282 (by decide) (by decide)) hZ (hw _ (List.mem_of_getElem? (i := 7) rfl)) (hw _ (List.mem_of_getElem? (i := 4) rfl)) (by decide) (by decide)) (g := (mkF m 57 #[iv p1, iv p2, iv p3, iv p4, iv p5, iv p6, rv b1, iv (4 : Int32), iv (4 : Int32), .unset, .unset, .unset] [(.int (4 : Int32)), (.int (4 : Int32)), (.ref b282), (.ref b282)])) rfl (by rw [hml]; rfl) (Steps.refl _) (a := b282) (argsL := [(.int (4 : Int32)), (.int (4 : Int32))]) (rest := [(.ref b282)]) (lenOf own_pd__II_V rfl) rfl (by show 2 * 0 + _ ≤ _; exact Nat.le_of_eq rfl) (hb hby at_57) (fun _ _ => ⟨rfl, e282, (by decide : 2 + 0 ≤ _), (by decide : 6 + 0 ≤ _)⟩)
          dsimp only [Pt.U, Pt.locs, Pt.cells, Pt.slots] at X283 l283 y283 z283 st283 hQ283
          subst l283 y283 z283
          obtain ⟨rfl, Nq283, K283, -, F_start_b282, F_end_b282⟩ := hQ283
          have N283 := Fr.app N9 Nq283
          refine own_go (fun zt zk => st283.trans zk) ?_
          replace Kp := Kp.trans K283 (allS (Or.inr sz_b282) all0)
          replace V_b1 := V_b1.keep K283 (ninS ne_b1_b282 nin0)
          replace Ea_b1 := Ea_b1.keep K283
          replace Ex_b282 := Ex_b282.keep K283
          show own_Go p e below s _ _ _ (T283.setTop (mkF m 60 #[iv p1, iv p2, iv p3, iv p4, iv p5, iv p6, rv b1, iv (4 : Int32), iv (4 : Int32), .unset, .unset, .unset] [(.ref b282)]))
          refine own_go (fun zt zk => (XS.astore X283.here hx rfl (hb hby at_60) rfl rfl (l' := #[iv p1, iv p2, iv p3, iv p4, iv p5, iv p6, rv b1, iv (4 : Int32), iv (4 : Int32), rv b282, .unset, .unset]) rfl (XS.aload X283.here hx rfl (hb hby at_62) rfl rfl (XS.aload X283.here hx rfl (hb hby at_64) rfl rfl zk)))) ?_
          show own_Go p e below s _ _ _ (T283.setTop (mkF m 66 #[iv p1, iv p2, iv p3, iv p4, iv p5, iv p6, rv b1, iv (4 : Int32), iv (4 : Int32), rv b282, .unset, .unset] [(.ref b1), (.ref b282)]))
          obtain ⟨cq284, kq284, qa284, qb284, qc284⟩ := isOf hZ rfl Ex_b282
          obtain ⟨_, _, ⟨T284, L284, k284, n284⟩, -, X284, ⟨Lc284, hQ284, l284, y284, z284⟩, st284⟩ := X283.virtualBack hx (y := (⟨"com/example/tranche/tranche/model/Span", "bytesIn", "([B)[B"⟩ : MethodName)) (z := (⟨"com/example/tranche/tranche/model/Span", "bytesIn", "([B)[B"⟩ : MethodName)) hown (mvT hZ (hw _ (List.mem_of_getElem? (i := 20) rfl))) (mvT hZ (hw _ (List.mem_of_getElem? (i := 21) rfl))) (notFace_of_selects (args := #[]) (mvT hZ (hw _ (List.mem_of_getElem? (i := 23) rfl)))) (mvT hZ (hw _ (List.mem_of_getElem? (i := 23) rfl))) (mvT hZ (hw _ (List.mem_of_getElem? (i := 22) rfl))) (by decide) (backOf (W := 0) (own_rbi44 l Z a0 hw [] b282 b1 k1 (.int (p1.toInt8.toInt32)) (.int (p2.toInt8.toInt32)) (.int (p3.toInt8.toInt32)) (.int (p4.toInt8.toInt32)) T283.heap n0 (Nat.le_trans Z0 Kp.1) V_b1 Ea_b1 F_start_b282 F_end_b282) hZ (hw _ (List.mem_of_getElem? (i := 24) rfl)) (hw _ (List.mem_of_getElem? (i := 4) rfl)) (by decide) (by decide)) qa284 qc284 (g := (mkF m 66 #[iv p1, iv p2, iv p3, iv p4, iv p5, iv p6, rv b1, iv (4 : Int32), iv (4 : Int32), rv b282, .unset, .unset] [(.ref b1), (.ref b282)])) rfl (by rw [hml]; rfl) (Steps.refl _) (argsL := [(.ref b1)]) (rest := []) (lenOf own_pd___B__B rfl) rfl (by show 2 * 0 + _ ≤ _; exact Nat.le_of_eq rfl) (hb hby at_66) (fun _ _ => ⟨rfl, rfl, (by decide : 2 + 1 ≤ _), (by decide : 6 + 0 ≤ _)⟩)
          dsimp only [Pt.U, Pt.locs, Pt.cells, Pt.slots] at X284 l284 y284 z284 st284 hQ284
          subst l284 y284 z284
          obtain ⟨r284, kr284, rfl, Nq284, K284, sr284, Ea_r284, V_r284⟩ := hQ284
          have sz_r284 := Nat.le_trans Kp.1 sr284
          have g_r284 := Nat.le_trans Z0 sz_r284
          have ne_b1_r284 : b1 ≠ r284 := Nat.ne_of_lt (Nat.lt_of_lt_of_le V_b1.lt sr284)
          have ne_b282_r284 : b282 ≠ r284 := Nat.ne_of_lt (Nat.lt_of_lt_of_le Ex_b282.lt sr284)
          have N284 := Fr.app N283 Nq284
          refine own_go (fun zt zk => st284.trans zk) ?_
          replace Kp := Kp.trans K284 all0
          replace V_b1 := V_b1.keep K284 nin0
          replace Ea_b1 := Ea_b1.keep K284
          replace Ex_b282 := Ex_b282.keep K284
          replace F_start_b282 := F_start_b282.keep K284 nin0
          replace F_end_b282 := F_end_b282.keep K284 nin0
          show own_Go p e below s _ _ _ (T284.setTop (mkF m 69 #[iv p1, iv p2, iv p3, iv p4, iv p5, iv p6, rv b1, iv (4 : Int32), iv (4 : Int32), rv b282, .unset, .unset] [(.ref r284)]))
          refine own_go (fun zt zk => (XS.astore X284.here hx rfl (hb hby at_69) rfl rfl (l' := #[iv p1, iv p2, iv p3, iv p4, iv p5, iv p6, rv b1, iv (4 : Int32), iv (4 : Int32), rv b282, rv r284, .unset]) rfl (XS.aload X284.here hx rfl (hb hby at_71) rfl rfl (XS.ifnonnullYes X284.here hx rfl (pc0 := 73) (pc' := 78) rfl (hb hby at_73) rfl (by decide) (by decide) (XS.aload X284.here hx rfl (hb hby at_78) rfl rfl zk))))) ?_
          show own_Go p e below s _ _ _ (T284.setTop (mkF m 80 #[iv p1, iv p2, iv p3, iv p4, iv p5, iv p6, rv b1, iv (4 : Int32), iv (4 : Int32), rv b282, rv r284, .unset] [(.ref r284)]))
          obtain ⟨cl285, Ar285, -, Sz285, Nz285, -, -⟩ := id V_r284
          refine own_go (X284.arraylength hx (by exact Ar285.1) (State.isArrayOf_alike hZ.alike Ar285.2.1) (g := (mkF m 80 #[iv p1, iv p2, iv p3, iv p4, iv p5, iv p6, rv b1, iv (4 : Int32), iv (4 : Int32), rv b282, rv r284, .unset] [(.ref r284)])) rfl rfl (hb hby at_80)) ?_
          rw [len_of Sz285 Nz285]
          show own_Go p e below s _ _ _ (T284.setTop (mkF m 81 #[iv p1, iv p2, iv p3, iv p4, iv p5, iv p6, rv b1, iv (4 : Int32), iv (4 : Int32), rv b282, rv r284, .unset] [(.int (0 : Int32))]))
          refine own_go (fun zt zk => (XS.iload X284.here hx rfl (hb hby at_81) rfl (XS.iload X284.here hx rfl (hb hby at_83) rfl (XS.isub X284.here hx rfl (hb hby at_85) rfl (XS.icmpYes X284.here hx rfl (pc0 := 86) (pc' := 91) rfl (hb hby at_86) rfl (teq (rfl : (0 : Int32) = (0 : Int32))).1 (by decide) (by decide) (XS.iconst X284.here hx rfl (hb hby at_91) (XS.istore X284.here hx rfl (hb hby at_92) rfl (l' := #[iv p1, iv p2, iv p3, iv p4, iv p5, iv p6, rv b1, iv (4 : Int32), iv (4 : Int32), rv b282, rv r284, iv (1 : Int32)]) rfl (XS.aload X284.here hx rfl (hb hby at_94) rfl rfl zk)))))))) ?_
          show own_Go p e below s _ _ _ (T284.setTop (mkF m 96 #[iv p1, iv p2, iv p3, iv p4, iv p5, iv p6, rv b1, iv (4 : Int32), iv (4 : Int32), rv b282, rv r284, iv (1 : Int32)] [(.ref r284)]))
          obtain ⟨cl286, Ar286, -, Sz286, Nz286, -, -⟩ := id V_r284
          refine own_go (X284.arraylength hx (by exact Ar286.1) (State.isArrayOf_alike hZ.alike Ar286.2.1) (g := (mkF m 96 #[iv p1, iv p2, iv p3, iv p4, iv p5, iv p6, rv b1, iv (4 : Int32), iv (4 : Int32), rv b282, rv r284, iv (1 : Int32)] [(.ref r284)])) rfl rfl (hb hby at_96)) ?_
          rw [len_of Sz286 Nz286]
          show own_Go p e below s _ _ _ (T284.setTop (mkF m 97 #[iv p1, iv p2, iv p3, iv p4, iv p5, iv p6, rv b1, iv (4 : Int32), iv (4 : Int32), rv b282, rv r284, iv (1 : Int32)] [(.int (0 : Int32))]))
          refine own_go (fun zt zk => (XS.ifYes X284.here hx rfl (pc0 := 97) (pc' := 128) rfl (hb hby at_97) rfl ((if0 _ _).trans (flt ((own_irr _) : ¬ ((0 : Int32) < (0 : Int32)))).2.2.2) (by decide) (by decide) (XS.aload X284.here hx rfl (hb hby at_128) rfl rfl zk))) ?_
          show own_Go p e below s _ _ _ (T284.setTop (mkF m 130 #[iv p1, iv p2, iv p3, iv p4, iv p5, iv p6, rv b1, iv (4 : Int32), iv (4 : Int32), rv b282, rv r284, iv (1 : Int32)] [(.ref r284)]))
          obtain ⟨cl287, Ar287, -, Sz287, Nz287, -, -⟩ := id V_r284
          refine own_go (X284.arraylength hx (by exact Ar287.1) (State.isArrayOf_alike hZ.alike Ar287.2.1) (g := (mkF m 130 #[iv p1, iv p2, iv p3, iv p4, iv p5, iv p6, rv b1, iv (4 : Int32), iv (4 : Int32), rv b282, rv r284, iv (1 : Int32)] [(.ref r284)])) rfl rfl (hb hby at_130)) ?_
          rw [len_of Sz287 Nz287]
          show own_Go p e below s _ _ _ (T284.setTop (mkF m 131 #[iv p1, iv p2, iv p3, iv p4, iv p5, iv p6, rv b1, iv (4 : Int32), iv (4 : Int32), rv b282, rv r284, iv (1 : Int32)] [(.int (0 : Int32))]))
          refine own_go (fun zt zk => (XS.iconst X284.here hx rfl (hb hby at_131) (XS.icmpYes X284.here hx rfl (pc0 := 132) (pc' := 165) rfl (hb hby at_132) rfl (flt ((by decide) : ¬ ((1 : Int32) < (0 : Int32)))).2.2.2 (by decide) (by decide) (XS.aload X284.here hx rfl (hb hby at_165) rfl rfl zk)))) ?_
          show own_Go p e below s _ _ _ (T284.setTop (mkF m 167 #[iv p1, iv p2, iv p3, iv p4, iv p5, iv p6, rv b1, iv (4 : Int32), iv (4 : Int32), rv b282, rv r284, iv (1 : Int32)] [(.ref r284)]))
          obtain ⟨cl288, Ar288, -, Sz288, Nz288, -, -⟩ := id V_r284
          refine own_go (X284.arraylength hx (by exact Ar288.1) (State.isArrayOf_alike hZ.alike Ar288.2.1) (g := (mkF m 167 #[iv p1, iv p2, iv p3, iv p4, iv p5, iv p6, rv b1, iv (4 : Int32), iv (4 : Int32), rv b282, rv r284, iv (1 : Int32)] [(.ref r284)])) rfl rfl (hb hby at_167)) ?_
          rw [len_of Sz288 Nz288]
          show own_Go p e below s _ _ _ (T284.setTop (mkF m 168 #[iv p1, iv p2, iv p3, iv p4, iv p5, iv p6, rv b1, iv (4 : Int32), iv (4 : Int32), rv b282, rv r284, iv (1 : Int32)] [(.int (0 : Int32))]))
          refine own_go (fun zt zk => (XS.iconst X284.here hx rfl (hb hby at_168) (XS.icmpYes X284.here hx rfl (pc0 := 169) (pc' := 202) rfl (hb hby at_169) rfl (flt ((by decide) : ¬ ((2 : Int32) < (0 : Int32)))).2.2.2 (by decide) (by decide) (XS.aload X284.here hx rfl (hb hby at_202) rfl rfl zk)))) ?_
          show own_Go p e below s _ _ _ (T284.setTop (mkF m 204 #[iv p1, iv p2, iv p3, iv p4, iv p5, iv p6, rv b1, iv (4 : Int32), iv (4 : Int32), rv b282, rv r284, iv (1 : Int32)] [(.ref r284)]))
          obtain ⟨cl289, Ar289, -, Sz289, Nz289, -, -⟩ := id V_r284
          refine own_go (X284.arraylength hx (by exact Ar289.1) (State.isArrayOf_alike hZ.alike Ar289.2.1) (g := (mkF m 204 #[iv p1, iv p2, iv p3, iv p4, iv p5, iv p6, rv b1, iv (4 : Int32), iv (4 : Int32), rv b282, rv r284, iv (1 : Int32)] [(.ref r284)])) rfl rfl (hb hby at_204)) ?_
          rw [len_of Sz289 Nz289]
          show own_Go p e below s _ _ _ (T284.setTop (mkF m 205 #[iv p1, iv p2, iv p3, iv p4, iv p5, iv p6, rv b1, iv (4 : Int32), iv (4 : Int32), rv b282, rv r284, iv (1 : Int32)] [(.int (0 : Int32))]))
          refine own_go (fun zt zk => (XS.iconst X284.here hx rfl (hb hby at_205) (XS.icmpYes X284.here hx rfl (pc0 := 206) (pc' := 239) rfl (hb hby at_206) rfl (flt ((by decide) : ¬ ((3 : Int32) < (0 : Int32)))).2.2.2 (by decide) (by decide) (XS.iload X284.here hx rfl (hb hby at_239) rfl (XS.ifNo X284.here hx rfl (hb hby at_241) rfl ((if0 _ _).trans (feq ((by decide) : ¬ ((1 : Int32) = (0 : Int32)))).1) (XS.aload X284.here hx rfl (hb hby at_244) rfl rfl (XS.iconst X284.here hx rfl (hb hby at_246) zk))))))) ?_
          show own_Go p e below s _ _ _ (T284.setTop (mkF m 247 #[iv p1, iv p2, iv p3, iv p4, iv p5, iv p6, rv b1, iv (4 : Int32), iv (4 : Int32), rv b282, rv r284, iv (1 : Int32)] [(.int (0 : Int32)), (.ref b1)]))
          obtain ⟨cl290, Ar290, q290, Sz290, Nz290, Ha290, Ga290⟩ := id V_b1
          have hin290 : ¬ ((0 : Int32) < 0 ∨ cl290.slots.size ≤ ((0 : Int32)).toNatClampNeg) := inb_of Sz290 ⟨by decide, by decide⟩
          have hat290 : cl290.slots[((0 : Int32)).toNatClampNeg]? = some (.int (p1.toInt8.toInt32)) := Has.at Ha290 hin290 rfl
          refine own_go (X284.baloadBytes hx (j := (0 : Int32)) (v := (.int (p1.toInt8.toInt32))) (by exact Ar290.1) (State.isArrayOf_alike hZ.alike Ar290.2.1) Ar290.2.2 hin290 hat290 (g := (mkF m 247 #[iv p1, iv p2, iv p3, iv p4, iv p5, iv p6, rv b1, iv (4 : Int32), iv (4 : Int32), rv b282, rv r284, iv (1 : Int32)] [(.int (0 : Int32)), (.ref b1)])) rfl rfl (hb hby at_247)) ?_
          show own_Go p e below s _ _ _ (T284.setTop (mkF m 248 #[iv p1, iv p2, iv p3, iv p4, iv p5, iv p6, rv b1, iv (4 : Int32), iv (4 : Int32), rv b282, rv r284, iv (1 : Int32)] [(.int (p1.toInt8.toInt32))]))
          refine own_go (fun zt zk => (XS.iloadN X284.here hx rfl (hb hby at_248) rfl (XS.i2b X284.here hx rfl (hb hby at_249) rfl (XS.icmpNo X284.here hx rfl (hb hby at_250) rfl (teq (rfl : (p1.toInt8.toInt32) = (p1.toInt8.toInt32))).2 (XS.aload X284.here hx rfl (hb hby at_253) rfl rfl (XS.iconst X284.here hx rfl (hb hby at_255) zk)))))) ?_
          show own_Go p e below s _ _ _ (T284.setTop (mkF m 256 #[iv p1, iv p2, iv p3, iv p4, iv p5, iv p6, rv b1, iv (4 : Int32), iv (4 : Int32), rv b282, rv r284, iv (1 : Int32)] [(.int (1 : Int32)), (.ref b1)]))
          obtain ⟨cl291, Ar291, q291, Sz291, Nz291, Ha291, Ga291⟩ := id V_b1
          have hin291 : ¬ ((1 : Int32) < 0 ∨ cl291.slots.size ≤ ((1 : Int32)).toNatClampNeg) := inb_of Sz291 ⟨by decide, by decide⟩
          have hat291 : cl291.slots[((1 : Int32)).toNatClampNeg]? = some (.int (p2.toInt8.toInt32)) := Has.at Ha291 hin291 rfl
          refine own_go (X284.baloadBytes hx (j := (1 : Int32)) (v := (.int (p2.toInt8.toInt32))) (by exact Ar291.1) (State.isArrayOf_alike hZ.alike Ar291.2.1) Ar291.2.2 hin291 hat291 (g := (mkF m 256 #[iv p1, iv p2, iv p3, iv p4, iv p5, iv p6, rv b1, iv (4 : Int32), iv (4 : Int32), rv b282, rv r284, iv (1 : Int32)] [(.int (1 : Int32)), (.ref b1)])) rfl rfl (hb hby at_256)) ?_
          show own_Go p e below s _ _ _ (T284.setTop (mkF m 257 #[iv p1, iv p2, iv p3, iv p4, iv p5, iv p6, rv b1, iv (4 : Int32), iv (4 : Int32), rv b282, rv r284, iv (1 : Int32)] [(.int (p2.toInt8.toInt32))]))
          refine own_go (fun zt zk => (XS.iloadN X284.here hx rfl (hb hby at_257) rfl (XS.i2b X284.here hx rfl (hb hby at_258) rfl (XS.icmpNo X284.here hx rfl (hb hby at_259) rfl (teq (rfl : (p2.toInt8.toInt32) = (p2.toInt8.toInt32))).2 (XS.aload X284.here hx rfl (hb hby at_262) rfl rfl (XS.iconst X284.here hx rfl (hb hby at_264) zk)))))) ?_
          show own_Go p e below s _ _ _ (T284.setTop (mkF m 265 #[iv p1, iv p2, iv p3, iv p4, iv p5, iv p6, rv b1, iv (4 : Int32), iv (4 : Int32), rv b282, rv r284, iv (1 : Int32)] [(.int (2 : Int32)), (.ref b1)]))
          obtain ⟨cl292, Ar292, q292, Sz292, Nz292, Ha292, Ga292⟩ := id V_b1
          have hin292 : ¬ ((2 : Int32) < 0 ∨ cl292.slots.size ≤ ((2 : Int32)).toNatClampNeg) := inb_of Sz292 ⟨by decide, by decide⟩
          have hat292 : cl292.slots[((2 : Int32)).toNatClampNeg]? = some (.int (p3.toInt8.toInt32)) := Has.at Ha292 hin292 rfl
          refine own_go (X284.baloadBytes hx (j := (2 : Int32)) (v := (.int (p3.toInt8.toInt32))) (by exact Ar292.1) (State.isArrayOf_alike hZ.alike Ar292.2.1) Ar292.2.2 hin292 hat292 (g := (mkF m 265 #[iv p1, iv p2, iv p3, iv p4, iv p5, iv p6, rv b1, iv (4 : Int32), iv (4 : Int32), rv b282, rv r284, iv (1 : Int32)] [(.int (2 : Int32)), (.ref b1)])) rfl rfl (hb hby at_265)) ?_
          show own_Go p e below s _ _ _ (T284.setTop (mkF m 266 #[iv p1, iv p2, iv p3, iv p4, iv p5, iv p6, rv b1, iv (4 : Int32), iv (4 : Int32), rv b282, rv r284, iv (1 : Int32)] [(.int (p3.toInt8.toInt32))]))
          refine own_go (fun zt zk => (XS.iloadN X284.here hx rfl (hb hby at_266) rfl (XS.i2b X284.here hx rfl (hb hby at_267) rfl (XS.icmpNo X284.here hx rfl (hb hby at_268) rfl (teq (rfl : (p3.toInt8.toInt32) = (p3.toInt8.toInt32))).2 (XS.aload X284.here hx rfl (hb hby at_271) rfl rfl (XS.iconst X284.here hx rfl (hb hby at_273) zk)))))) ?_
          show own_Go p e below s _ _ _ (T284.setTop (mkF m 274 #[iv p1, iv p2, iv p3, iv p4, iv p5, iv p6, rv b1, iv (4 : Int32), iv (4 : Int32), rv b282, rv r284, iv (1 : Int32)] [(.int (3 : Int32)), (.ref b1)]))
          obtain ⟨cl293, Ar293, q293, Sz293, Nz293, Ha293, Ga293⟩ := id V_b1
          have hin293 : ¬ ((3 : Int32) < 0 ∨ cl293.slots.size ≤ ((3 : Int32)).toNatClampNeg) := inb_of Sz293 ⟨by decide, by decide⟩
          have hat293 : cl293.slots[((3 : Int32)).toNatClampNeg]? = some (.int (p4.toInt8.toInt32)) := Has.at Ha293 hin293 rfl
          refine own_go (X284.baloadBytes hx (j := (3 : Int32)) (v := (.int (p4.toInt8.toInt32))) (by exact Ar293.1) (State.isArrayOf_alike hZ.alike Ar293.2.1) Ar293.2.2 hin293 hat293 (g := (mkF m 274 #[iv p1, iv p2, iv p3, iv p4, iv p5, iv p6, rv b1, iv (4 : Int32), iv (4 : Int32), rv b282, rv r284, iv (1 : Int32)] [(.int (3 : Int32)), (.ref b1)])) rfl rfl (hb hby at_274)) ?_
          show own_Go p e below s _ _ _ (T284.setTop (mkF m 275 #[iv p1, iv p2, iv p3, iv p4, iv p5, iv p6, rv b1, iv (4 : Int32), iv (4 : Int32), rv b282, rv r284, iv (1 : Int32)] [(.int (p4.toInt8.toInt32))]))
          refine own_go (fun zt zk => (XS.iloadN X284.here hx rfl (hb hby at_275) rfl (XS.i2b X284.here hx rfl (hb hby at_276) rfl (XS.icmpNo X284.here hx rfl (hb hby at_277) rfl (teq (rfl : (p4.toInt8.toInt32) = (p4.toInt8.toInt32))).2 (XS.iconst X284.here hx rfl (hb hby at_280) (XS.goto X284.here hx rfl (pc0 := 281) (pc' := 285) rfl (hb hby at_281) (by decide) (by decide) (XS.istore X284.here hx rfl (hb hby at_285) rfl (l' := #[iv p1, iv p2, iv p3, iv p4, iv p5, iv p6, rv b1, iv (4 : Int32), iv (4 : Int32), rv b282, rv r284, iv (1 : Int32)]) rfl (XS.aload X284.here hx rfl (hb hby at_287) rfl rfl zk)))))))) ?_
          show own_Go p e below s _ _ _ (T284.setTop (mkF m 289 #[iv p1, iv p2, iv p3, iv p4, iv p5, iv p6, rv b1, iv (4 : Int32), iv (4 : Int32), rv b282, rv r284, iv (1 : Int32)] [(.ref r284)]))
          obtain ⟨cl294, Ar294, -, Sz294, Nz294, -, -⟩ := id V_r284
          refine own_go (X284.arraylength hx (by exact Ar294.1) (State.isArrayOf_alike hZ.alike Ar294.2.1) (g := (mkF m 289 #[iv p1, iv p2, iv p3, iv p4, iv p5, iv p6, rv b1, iv (4 : Int32), iv (4 : Int32), rv b282, rv r284, iv (1 : Int32)] [(.ref r284)])) rfl rfl (hb hby at_289)) ?_
          rw [len_of Sz294 Nz294]
          show own_Go p e below s _ _ _ (T284.setTop (mkF m 290 #[iv p1, iv p2, iv p3, iv p4, iv p5, iv p6, rv b1, iv (4 : Int32), iv (4 : Int32), rv b282, rv r284, iv (1 : Int32)] [(.int (0 : Int32))]))
          refine own_go (fun zt zk => (XS.ifYes X284.here hx rfl (pc0 := 290) (pc' := 333) rfl (hb hby at_290) rfl ((if0 _ _).trans (flt ((own_irr _) : ¬ ((0 : Int32) < (0 : Int32)))).2.2.2) (by decide) (by decide) (XS.iload X284.here hx rfl (hb hby at_333) rfl zk))) ?_
          show own_Go p e below s _ _ _ (T284.setTop (mkF m 335 #[iv p1, iv p2, iv p3, iv p4, iv p5, iv p6, rv b1, iv (4 : Int32), iv (4 : Int32), rv b282, rv r284, iv (1 : Int32)] [(.int (1 : Int32))]))
          exact own_fin X284 Bd.notSynchronized (fun h => by rw [Bd.returns] at h; cases h) (fun fs hr => retN X284 hx (t := .boolean) Bd.returns (by simp) (hb hby at_335) hr) ⟨rfl, N284⟩ (by decide) (by decide)
set_option maxRecDepth 65536 in
set_option maxHeartbeats 40000000 in
theorem comes_1 {Post : Tables → Env → Array Value → State → Outcome → State → Prop} (hpost : ∀ tb e args s v u, (limb_1_1.after args s (.returned v) u = true ∧ limb_1_2.after args s (.returned v) u = true ∧ True) → FrameEnd s (.returned v) u (Jvm.fieldLocs frame_1_writes args s ++ Jvm.arrayLocs frame_1_arrays args s ++ Jvm.staticLocs frame_1_statics s) 16 128 → Post tb e args s (.returned v) u) :
    ArmFor flags0 classFile x code maxLocals ret World_1 tables_1 room_1 Calls_1 rest_1 Pre_1 Post := by
  intro l hfl _ _ p e ha hc hk s m args below hf hA hF happ hP
  obtain ⟨hcalls, hrest, hpre⟩ := hP
  obtain ⟨-, -, -, hnamed, -, -, -, hat⟩ := (Spec.applies_iff hf).mp happ
  obtain ⟨hg, hn⟩ := and_e (Cond.before_iff.mp (show (Jvm.Cond.and given_1 narrow_1).before args s = true from hpre))
  obtain ⟨g0, r0⟩ := and_e hg
  obtain ⟨g1, r1⟩ := and_e r0
  obtain ⟨g2, r2⟩ := and_e r1
  obtain ⟨g3, r3⟩ := and_e r2
  obtain ⟨g4, r4⟩ := and_e r3
  obtain ⟨g5, r5⟩ := and_e r4
  have g6 := r5
  obtain ⟨w0, w1, w2, w3, w4, w5, rfl⟩ : ∃ w0 w1 w2 w3 w4 w5 : Value, args = #[w0, w1, w2, w3, w4, w5] := by
    have hs : args.size = 6 := by simpa [Cond.value, given_1] using g0
    obtain ⟨L⟩ := args
    match L, hs with
    | [w0, w1, w2, w3, w4, w5], _ => exact ⟨w0, w1, w2, w3, w4, w5, rfl⟩
  have hw := fun d (hd : d ∈ tables_1) => atoms_spec (ws := Jvm.Cond.code x code maxLocals ret :: tables_1) hat d (List.mem_cons_of_mem _ hd)
  have hfit : Fit s := fun {y c} hc i hi => by
    obtain ⟨ha, rfl⟩ := Array.getElem?_eq_some_iff.mp hc
    have q := List.all_eq_true.mp ((Array.all_eq_true_iff_forall_mem.mp hF) _ (Array.getElem_mem ha)) i (List.mem_range.mpr hi)
    simpa [Array.getElem?_eq_getElem hi] using q
  obtain ⟨i0, ei0⟩ := is_v g1
  obtain rfl : w0 = (.int i0) := Option.some.inj ei0
  obtain ⟨i1, ei1⟩ := is_v g2
  obtain rfl : w1 = (.int i1) := Option.some.inj ei1
  obtain ⟨i2, ei2⟩ := is_v g3
  obtain rfl : w2 = (.int i2) := Option.some.inj ei2
  obtain ⟨i3, ei3⟩ := is_v g4
  obtain rfl : w3 = (.int i3) := Option.some.inj ei3
  obtain ⟨i4, ei4⟩ := is_v g5
  obtain rfl : w4 = (.int i4) := Option.some.inj ei4
  obtain ⟨i5, ei5⟩ := is_v g6
  obtain rfl : w5 = (.int i5) := Option.some.inj ei5
  obtain ⟨n, o, h1, h2, h3, _, L, rfl, ⟨rfl, N⟩, hq⟩ := own_law l s _ hw tables_1 i0 i1 i2 i3 i4 i5  s.heap s.heap.size (Nat.le_refl _)  p e ha hc hk s m _ below hf ((Spec.applies_iff_loose hf).mp happ).1 ⟨rfl, State.Warmed39.refl s, rfl⟩ trivial
  refine ⟨n, _, h1, h2, h3, hpost _ _ _ _ _ _ ⟨Cond.after_iff.mpr rfl, Cond.after_iff.mpr (eq_i res_at (Term.int_eval (1)) rfl), trivial⟩ ⟨hq.1, hq.2.1, (hq.2.2.sift fun y hy => Or.inr (N y hy)).mono (by decide) (by decide)⟩⟩
theorem main_1_1 : Claimed_1_1 := comes_1 fun _ _ _ _ _ _ h hF => ⟨h.1, hF⟩
theorem main_1_2 : Claimed_1_2 := comes_1 fun _ _ _ _ _ _ h hF => ⟨h.2.1, hF⟩
end Jvm.Pilot.@@N@@
namespace Jvm.Pilot.@@N@@
open Jvm Jvm.ClassFile Sem Op Lib Jvm.Free Jvm.Stand Jvm.Pilot.@@N@@.Jvm.D
/-! MADE BY PROGRAM (witnessworld.py) out of the Statement's table words and the real class files: 11 classes; the members and pool entries that the words name. The judged class is class 1, her method 1. -/
namespace start1
open Jvm.ClassFile
def u (s : String) : CpInfo := .utf8 (stringToUtf16 s)
/-- a pool by its gaps: so many unusable entries, then the entry; so many at the end -/
def gap : Nat → List CpInfo → List CpInfo
  | 0, r => r
  | n + 1, r => .unusable :: gap n r
def poolList (es : List (Nat × CpInfo)) (last : Nat) : List CpInfo := es.foldr (fun e r => gap e.1 (e.2 :: r)) (gap last [])
def pool (es : List (Nat × CpInfo)) (last : Nat) : Array CpInfo := ⟨poolList es last⟩
def fileOf (pool : Array CpInfo) (this : Nat) (attrs : Array Attribute := #[]) (ms : Array MethodInfo := #[]) (fl : Nat := 33) (sup : Nat := 0) (ifs : Array Nat := #[]) (fds : Array FieldInfo := #[]) : ClassFile where
  minorVersion := 0
  majorVersion := 65
  constantPool := pool
  accessFlags := fl
  thisClass := this
  superClass := sup
  interfaces := ifs
  fields := fds
  methods := ms
  attributes := attrs
def plain (name : String) (sup : Option ClassId) : Class where
  name := name
  kind := .ordinary
  loader := none
  accessFlags := 33
  super := sup
  interfaces := #[]
  cf := none
  fields := #[]
  methods := #[]
  instanceTypes := #[]
  staticTypes := #[]
  resolved := #[]
  callSites := []
  init := .initialized
  statics := none
  mirror := none

def pool0 : Array CpInfo := pool [(5, u "<init>"), (0, u "()V"), (1, .class_ 10), (1, u "java/lang/Object"), (85, u "clone"), (0, u "()Ljava/lang/Object;")] 26

def k0c0 : Code := { maxStack := 0, maxLocals := 1, code := object_method_1_code, exceptionTable := #[], attributes := #[] }
def k0m0 : Method := { name := "<init>", desc := "()V", sig := { parameters := [], returnType := none }, accessFlags := 1, code := some k0c0 }
def k0m1 : Method := { name := "clone", desc := "()Ljava/lang/Object;", sig := { parameters := [], returnType := some (.object "java/lang/Object") }, accessFlags := 260, code := none }
/-- java/lang/Object -/
def k0 : Class := { plain "java/lang/Object" none with
  accessFlags := 33
  interfaces := #[]
  cf := some (fileOf pool0 8 #[] #[{ accessFlags := 1, nameIndex := 5, descriptorIndex := 6, attributes := #[] }, { accessFlags := 260, nameIndex := 96, descriptorIndex := 97, attributes := #[] }] 33 0 #[] #[])
  fields := #[]
  methods := #[k0m0, k0m1]
  instanceTypes := #[]
  staticTypes := #[]
  resolved := Array.replicate 124 none
  statics := none }

def pool1 : Array CpInfo := pool [(2, .class_ 4), (1, u "java/lang/Object"), (0, u "<init>"), (0, u "()V"), (0, .integer 2147483647), (0, .class_ 9), (0, u "com/example/tranche/tranche/model/Span"), (0, .methodref 8 11), (0, .nameAndType 5 12), (0, u "(II)V"), (0, .methodref 8 14), (0, .nameAndType 15 16), (0, u "bytesIn"), (0, u "([B)[B"), (0, .methodref 18 19), (0, .class_ 20), (0, .nameAndType 21 22), (0, u "com/example/tranche/tranche/model/SpanBytesInPinLaw"), (0, u "at"), (0, u "(IIIII)B"), (2, u "law"), (0, u "(IIIIII)Z")] 5

def k1m0 : Method := { name := "<init>", desc := "()V", sig := { parameters := [], returnType := none }, accessFlags := 1, code := none }
def k1c1 : Code := { maxStack := 6, maxLocals := 12, code := code, exceptionTable := #[], attributes := #[] }
def k1m1 : Method := { name := "law", desc := "(IIIIII)Z", sig := { parameters := [.int, .int, .int, .int, .int, .int], returnType := some .boolean }, accessFlags := 9, code := some k1c1 }
def k1c2 : Code := { maxStack := 2, maxLocals := 5, code := method_3_code, exceptionTable := #[], attributes := #[] }
def k1m2 : Method := { name := "at", desc := "(IIIII)B", sig := { parameters := [.int, .int, .int, .int, .int], returnType := some .byte }, accessFlags := 10, code := some k1c2 }
/-- com/example/tranche/tranche/model/SpanBytesInPinLaw -/
def k1 : Class := { plain "com/example/tranche/tranche/model/SpanBytesInPinLaw" (some 0) with
  accessFlags := 49
  interfaces := #[]
  cf := some (fileOf pool1 18 #[] #[{ accessFlags := 1, nameIndex := 5, descriptorIndex := 6, attributes := #[] }, { accessFlags := 9, nameIndex := 25, descriptorIndex := 26, attributes := #[] }, { accessFlags := 10, nameIndex := 21, descriptorIndex := 22, attributes := #[] }] 49 2 #[] #[])
  fields := #[]
  methods := #[k1m0, k1m1, k1m2]
  instanceTypes := #[]
  staticTypes := #[]
  resolved := Array.replicate 32 none
  statics := none }

def pool2 : Array CpInfo := pool [(1, .methodref 2 3), (0, .class_ 4), (0, .nameAndType 5 6), (0, u "java/lang/Object"), (0, u "<init>"), (0, u "()V"), (0, .class_ 8), (0, u "java/lang/Record")] 13

def k2c0 : Code := { maxStack := 1, maxLocals := 1, code := jdk_30_method_1_code, exceptionTable := #[], attributes := #[] }
def k2m0 : Method := { name := "<init>", desc := "()V", sig := { parameters := [], returnType := none }, accessFlags := 4, code := some k2c0 }
/-- java/lang/Record -/
def k2 : Class := { plain "java/lang/Record" (some 0) with
  accessFlags := 1057
  interfaces := #[]
  cf := some (fileOf pool2 7 #[] #[{ accessFlags := 4, nameIndex := 5, descriptorIndex := 6, attributes := #[] }] 1057 2 #[] #[])
  fields := #[]
  methods := #[k2m0]
  instanceTypes := #[]
  staticTypes := #[]
  resolved := Array.replicate 22 none
  statics := none }

def pool3 : Array CpInfo := pool [(1, .methodref 2 3), (0, .class_ 4), (0, .nameAndType 5 6), (0, u "java/lang/Record"), (0, u "<init>"), (0, u "()V"), (9, .fieldref 17 18), (0, .class_ 19), (0, .nameAndType 20 21), (0, u "com/example/tranche/tranche/model/Span"), (0, u "start"), (0, u "I"), (0, .fieldref 17 23), (0, .nameAndType 24 21), (0, u "end"), (6, .methodref 32 33), (0, .class_ 34), (0, .nameAndType 35 36), (0, u "java/util/Arrays"), (0, u "copyOfRange"), (0, u "([BII)[B"), (12, u "(II)V"), (4, u "bytesIn"), (0, u "([B)[B")] 34

def k3c0 : Code := { maxStack := 4, maxLocals := 3, code := prog_34_method_1_code, exceptionTable := #[], attributes := #[] }
def k3m0 : Method := { name := "<init>", desc := "(II)V", sig := { parameters := [.int, .int], returnType := none }, accessFlags := 1, code := some k3c0 }
def k3c1 : Code := { maxStack := 5, maxLocals := 2, code := prog_34_method_2_code, exceptionTable := #[], attributes := #[] }
def k3m1 : Method := { name := "bytesIn", desc := "([B)[B", sig := { parameters := [(.array .byte)], returnType := some (.array .byte) }, accessFlags := 1, code := some k3c1 }
/-- com/example/tranche/tranche/model/Span -/
def k3 : Class := { plain "com/example/tranche/tranche/model/Span" (some 2) with
  accessFlags := 49
  interfaces := #[]
  cf := some (fileOf pool3 17 #[] #[{ accessFlags := 1, nameIndex := 5, descriptorIndex := 49, attributes := #[] }, { accessFlags := 1, nameIndex := 54, descriptorIndex := 55, attributes := #[] }] 49 2 #[] #[{ accessFlags := 18, nameIndex := 20, descriptorIndex := 21, attributes := #[] }, { accessFlags := 18, nameIndex := 24, descriptorIndex := 21, attributes := #[] }])
  fields := #[{ name := "start", type := .int, accessFlags := 18, slot := 0, constantValue := 0 }, { name := "end", type := .int, accessFlags := 18, slot := 1, constantValue := 0 }]
  methods := #[k3m0, k3m1]
  instanceTypes := #[.int, .int]
  staticTypes := #[]
  resolved := Array.replicate 90 none
  statics := none }

def pool4 : Array CpInfo := pool [(2, .class_ 4), (1, u "java/lang/Object"), (0, u "<init>"), (0, u "()V"), (7, .class_ 16), (1, u "java/util/Arrays"), (57, .class_ 76), (1, u "java/util/Arrays$NaturalOrder"), (32, u "()Ljava/lang/Object;"), (3, .class_ 115), (1, u "java/util/Arrays$LegacyMergeSort"), (1, u "Z"), (10, .nameAndType 129 109), (0, u "clone"), (9, u "copyOfRange"), (10, .methodref 151 152), (0, .class_ 153), (0, .nameAndType 154 155), (0, u "java/lang/System"), (0, u "arraycopy"), (0, u "(Ljava/lang/Object;ILjava/lang/Object;II)V"), (148, .methodref 305 306), (0, .class_ 307), (0, .nameAndType 308 309), (0, u "java/lang/Math"), (0, u "min"), (0, u "(II)I"), (0, .methodref 311 128), (0, .class_ 312), (0, u "[B"), (26, .methodref 14 340), (0, .nameAndType 341 342), (0, u "copyOfRangeByte"), (0, u "([BII)[B"), (0, .methodref 14 344), (0, .nameAndType 345 346), (0, u "checkLength"), (0, u "(II)V"), (28, .class_ 376), (0, u "java/util/Arrays$ArrayList"), (68, u "$assertionsDisabled"), (269, u "MIN_ARRAY_SORT_GRAN"), (0, u "I"), (2, u "INSERTIONSORT_THRESHOLD"), (255, .class_ 976), (0, u "java/util/Arrays$ArrayItr")] 52

def k4m0 : Method := { name := "<init>", desc := "()V", sig := { parameters := [], returnType := none }, accessFlags := 2, code := none }
def k4c1 : Code := { maxStack := 4, maxLocals := 2, code := jdk_65_method_131_code, exceptionTable := #[], attributes := #[] }
def k4m1 : Method := { name := "checkLength", desc := "(II)V", sig := { parameters := [.int, .int], returnType := none }, accessFlags := 10, code := some k4c1 }
def k4c2 : Code := { maxStack := 3, maxLocals := 3, code := jdk_65_method_132_code, exceptionTable := #[], attributes := #[] }
def k4m2 : Method := { name := "copyOfRange", desc := "([BII)[B", sig := { parameters := [(.array .byte), .int, .int], returnType := some (.array .byte) }, accessFlags := 9, code := some k4c2 }
def k4c3 : Code := { maxStack := 6, maxLocals := 5, code := jdk_65_method_133_code, exceptionTable := #[], attributes := #[] }
def k4m3 : Method := { name := "copyOfRangeByte", desc := "([BII)[B", sig := { parameters := [(.array .byte), .int, .int], returnType := some (.array .byte) }, accessFlags := 10, code := some k4c3 }
/-- java/util/Arrays -/
def k4 : Class := { plain "java/util/Arrays" (some 0) with
  accessFlags := 49
  interfaces := #[]
  cf := some (fileOf pool4 14 #[.nestMembers #[975, 375, 113, 74]] #[{ accessFlags := 2, nameIndex := 5, descriptorIndex := 6, attributes := #[] }, { accessFlags := 10, nameIndex := 345, descriptorIndex := 346, attributes := #[] }, { accessFlags := 9, nameIndex := 139, descriptorIndex := 342, attributes := #[] }, { accessFlags := 10, nameIndex := 341, descriptorIndex := 342, attributes := #[] }] 49 2 #[] #[{ accessFlags := 26, nameIndex := 715, descriptorIndex := 716, attributes := #[] }, { accessFlags := 26, nameIndex := 719, descriptorIndex := 716, attributes := #[] }, { accessFlags := 4120, nameIndex := 445, descriptorIndex := 117, attributes := #[] }])
  fields := #[{ name := "MIN_ARRAY_SORT_GRAN", type := .int, accessFlags := 26, slot := 0, constantValue := 0 }, { name := "INSERTIONSORT_THRESHOLD", type := .int, accessFlags := 26, slot := 1, constantValue := 0 }, { name := "$assertionsDisabled", type := .boolean, accessFlags := 4120, slot := 2, constantValue := 0 }]
  methods := #[k4m0, k4m1, k4m2, k4m3]
  instanceTypes := #[]
  staticTypes := #[.int, .int, .boolean]
  resolved := Array.replicate 1029 none
  statics := none }

def pool5 : Array CpInfo := pool [(1, .class_ 2), (0, u "java/lang/Math"), (1, .class_ 6), (1, u "java/lang/Object"), (0, u "<init>"), (0, u "()V"), (89, .class_ 100), (1, u "java/lang/Math$RandomNumberGeneratorHolder"), (71, u "negativeZeroFloatBits"), (0, u "J"), (2, u "negativeZeroDoubleBits"), (24, u "min"), (43, u "$assertionsDisabled"), (0, u "Z"), (88, u "(II)I"), (2, u "twoToTheDoubleScaleDown"), (0, u "D"), (4, u "twoToTheDoubleScaleUp"), (9, u "E"), (3, u "PI"), (2, u "TAU"), (2, u "DEGREES_TO_RADIANS"), (0, u "RADIANS_TO_DEGREES")] 94

def k5m0 : Method := { name := "<init>", desc := "()V", sig := { parameters := [], returnType := none }, accessFlags := 2, code := none }
def k5c1 : Code := { maxStack := 2, maxLocals := 2, code := jdk_29_method_69_code, exceptionTable := #[], attributes := #[] }
def k5m1 : Method := { name := "min", desc := "(II)I", sig := { parameters := [.int, .int], returnType := some .int }, accessFlags := 9, code := some k5c1 }
/-- java/lang/Math -/
def k5 : Class := { plain "java/lang/Math" (some 0) with
  accessFlags := 49
  interfaces := #[]
  cf := some (fileOf pool5 1 #[.nestMembers #[98]] #[{ accessFlags := 2, nameIndex := 7, descriptorIndex := 8, attributes := #[] }, { accessFlags := 9, nameIndex := 201, descriptorIndex := 335, attributes := #[] }] 49 4 #[] #[{ accessFlags := 25, nameIndex := 354, descriptorIndex := 339, attributes := #[] }, { accessFlags := 25, nameIndex := 358, descriptorIndex := 339, attributes := #[] }, { accessFlags := 25, nameIndex := 361, descriptorIndex := 339, attributes := #[] }, { accessFlags := 26, nameIndex := 364, descriptorIndex := 339, attributes := #[] }, { accessFlags := 26, nameIndex := 365, descriptorIndex := 339, attributes := #[] }, { accessFlags := 26, nameIndex := 172, descriptorIndex := 173, attributes := #[] }, { accessFlags := 26, nameIndex := 176, descriptorIndex := 173, attributes := #[] }, { accessFlags := 8, nameIndex := 344, descriptorIndex := 339, attributes := #[] }, { accessFlags := 8, nameIndex := 338, descriptorIndex := 339, attributes := #[] }, { accessFlags := 4120, nameIndex := 245, descriptorIndex := 246, attributes := #[] }])
  fields := #[{ name := "E", type := .double, accessFlags := 25, slot := 0, constantValue := 0 }, { name := "PI", type := .double, accessFlags := 25, slot := 1, constantValue := 0 }, { name := "TAU", type := .double, accessFlags := 25, slot := 2, constantValue := 0 }, { name := "DEGREES_TO_RADIANS", type := .double, accessFlags := 26, slot := 3, constantValue := 0 }, { name := "RADIANS_TO_DEGREES", type := .double, accessFlags := 26, slot := 4, constantValue := 0 }, { name := "negativeZeroFloatBits", type := .long, accessFlags := 26, slot := 5, constantValue := 0 }, { name := "negativeZeroDoubleBits", type := .long, accessFlags := 26, slot := 6, constantValue := 0 }, { name := "twoToTheDoubleScaleUp", type := .double, accessFlags := 8, slot := 7, constantValue := 0 }, { name := "twoToTheDoubleScaleDown", type := .double, accessFlags := 8, slot := 8, constantValue := 0 }, { name := "$assertionsDisabled", type := .boolean, accessFlags := 4120, slot := 9, constantValue := 0 }]
  methods := #[k5m0, k5m1]
  instanceTypes := #[]
  staticTypes := #[.double, .double, .double, .double, .double, .long, .long, .double, .double, .boolean]
  resolved := Array.replicate 460 none
  statics := none }

def pool6 : Array CpInfo := pool [(2, .class_ 4), (1, u "java/lang/Object"), (0, u "<init>"), (0, u "()V"), (1, .class_ 10), (1, u "java/lang/System"), (0, u "allowSecurityManager"), (0, u "I"), (16, u "cons"), (0, u "Ljava/io/Console;"), (77, .class_ 110), (1, u "java/lang/System$CallersHolder"), (43, u "initialErrStream"), (0, u "Ljava/io/PrintStream;"), (19, u "security"), (0, u "Ljava/lang/SecurityManager;"), (31, .class_ 209), (0, u "java/lang/System$1"), (7, u "props"), (0, u "Ljava/util/Properties;"), (2, u "lineSeparator"), (0, u "Ljava/lang/String;"), (96, .class_ 321), (1, u "java/lang/System$LoggerFinder"), (5, .class_ 328), (0, u "java/lang/System$Logger"), (67, u "err"), (2, u "out"), (91, u "notSupportedJnuEncoding"), (15, u "in"), (17, u "initialIn"), (0, u "Ljava/io/InputStream;"), (35, u "bootLayer"), (0, u "Ljava/lang/ModuleLayer;"), (99, .class_ 664), (0, u "java/lang/System$2"), (9, u "NEVER"), (2, u "MAYBE"), (49, u "arraycopy"), (0, u "(Ljava/lang/Object;ILjava/lang/Object;II)V"), (72, .class_ 802), (0, u "java/lang/System$Logger$Level")] 31

def k6m0 : Method := { name := "<init>", desc := "()V", sig := { parameters := [], returnType := none }, accessFlags := 2, code := none }
def k6m1 : Method := { name := "arraycopy", desc := "(Ljava/lang/Object;ILjava/lang/Object;II)V", sig := { parameters := [(.object "java/lang/Object"), .int, (.object "java/lang/Object"), .int, .int], returnType := none }, accessFlags := 265, code := none }
/-- java/lang/System -/
def k6 : Class := { plain "java/lang/System" (some 0) with
  accessFlags := 49
  interfaces := #[]
  cf := some (fileOf pool6 8 #[.nestMembers #[319, 327, 801, 108, 663, 208]] #[{ accessFlags := 2, nameIndex := 5, descriptorIndex := 6, attributes := #[] }, { accessFlags := 265, nameIndex := 727, descriptorIndex := 728, attributes := #[] }] 49 2 #[] #[{ accessFlags := 25, nameIndex := 507, descriptorIndex := 526, attributes := #[] }, { accessFlags := 25, nameIndex := 399, descriptorIndex := 155, attributes := #[] }, { accessFlags := 25, nameIndex := 396, descriptorIndex := 155, attributes := #[] }, { accessFlags := 10, nameIndex := 525, descriptorIndex := 526, attributes := #[] }, { accessFlags := 26, nameIndex := 674, descriptorIndex := 12, attributes := #[] }, { accessFlags := 26, nameIndex := 677, descriptorIndex := 12, attributes := #[] }, { accessFlags := 10, nameIndex := 11, descriptorIndex := 12, attributes := #[] }, { accessFlags := 74, nameIndex := 175, descriptorIndex := 176, attributes := #[] }, { accessFlags := 10, nameIndex := 491, descriptorIndex := 222, attributes := #[] }, { accessFlags := 74, nameIndex := 29, descriptorIndex := 30, attributes := #[] }, { accessFlags := 74, nameIndex := 154, descriptorIndex := 155, attributes := #[] }, { accessFlags := 10, nameIndex := 217, descriptorIndex := 218, attributes := #[] }, { accessFlags := 10, nameIndex := 221, descriptorIndex := 222, attributes := #[] }, { accessFlags := 8, nameIndex := 562, descriptorIndex := 563, attributes := #[] }])
  fields := #[{ name := "in", type := (.object "java/io/InputStream"), accessFlags := 25, slot := 0, constantValue := 0 }, { name := "out", type := (.object "java/io/PrintStream"), accessFlags := 25, slot := 1, constantValue := 0 }, { name := "err", type := (.object "java/io/PrintStream"), accessFlags := 25, slot := 2, constantValue := 0 }, { name := "initialIn", type := (.object "java/io/InputStream"), accessFlags := 10, slot := 3, constantValue := 0 }, { name := "NEVER", type := .int, accessFlags := 26, slot := 4, constantValue := 0 }, { name := "MAYBE", type := .int, accessFlags := 26, slot := 5, constantValue := 0 }, { name := "allowSecurityManager", type := .int, accessFlags := 10, slot := 6, constantValue := 0 }, { name := "security", type := (.object "java/lang/SecurityManager"), accessFlags := 74, slot := 7, constantValue := 0 }, { name := "notSupportedJnuEncoding", type := (.object "java/lang/String"), accessFlags := 10, slot := 8, constantValue := 0 }, { name := "cons", type := (.object "java/io/Console"), accessFlags := 74, slot := 9, constantValue := 0 }, { name := "initialErrStream", type := (.object "java/io/PrintStream"), accessFlags := 74, slot := 10, constantValue := 0 }, { name := "props", type := (.object "java/util/Properties"), accessFlags := 10, slot := 11, constantValue := 0 }, { name := "lineSeparator", type := (.object "java/lang/String"), accessFlags := 10, slot := 12, constantValue := 0 }, { name := "bootLayer", type := (.object "java/lang/ModuleLayer"), accessFlags := 8, slot := 13, constantValue := 0 }]
  methods := #[k6m0, k6m1]
  instanceTypes := #[]
  staticTypes := #[(.object "java/io/InputStream"), (.object "java/io/PrintStream"), (.object "java/io/PrintStream"), (.object "java/io/InputStream"), .int, .int, .int, (.object "java/lang/SecurityManager"), (.object "java/lang/String"), (.object "java/io/Console"), (.object "java/io/PrintStream"), (.object "java/util/Properties"), (.object "java/lang/String"), (.object "java/lang/ModuleLayer")]
  resolved := Array.replicate 834 none
  statics := none }

def pool7 : Array CpInfo := pool [(1, .class_ 2), (0, u "java/lang/Cloneable"), (0, .class_ 4), (0, u "java/lang/Object")] 2

/-- java/lang/Cloneable -/
def k7 : Class := { plain "java/lang/Cloneable" (some 0) with
  accessFlags := 1537
  interfaces := #[]
  cf := some (fileOf pool7 1 #[] #[] 1537 3 #[] #[])
  fields := #[]
  methods := #[]
  instanceTypes := #[]
  staticTypes := #[]
  resolved := Array.replicate 7 none
  statics := none }

def pool8 : Array CpInfo := pool [(1, u "java/io/Serializable"), (0, .class_ 1), (0, u "java/lang/Object"), (0, .class_ 3)] 3

/-- java/io/Serializable -/
def k8 : Class := { plain "java/io/Serializable" (some 0) with
  accessFlags := 1537
  interfaces := #[]
  cf := some (fileOf pool8 2 #[] #[] 1537 4 #[] #[])
  fields := #[]
  methods := #[]
  instanceTypes := #[]
  staticTypes := #[]
  resolved := Array.replicate 8 none
  statics := none }

/-- the primitive byte -/
def k9 : Class := { plain "byte" none with kind := .primitive 'B', accessFlags := 0x411 }
/-- [B -/
def k10 : Class := { plain "[B" (some 0) with kind := .array 9 .byte, interfaces := #[7, 8], accessFlags := 1041 }

def heap : Heap := #[]
def classes : Array Class := #[k0, k1, k2, k3, k4, k5, k6, k7, k8, k9, k10]
def interned : List (Array UInt16 × Addr) := []
def slotsUsed : Nat := 0
def theMethod : MethodId := ⟨1, 1⟩
def args0 : Array Value := #[.int 1, .int 2, .int 3, .int 4, .int 1, .int 2]
def aboutOver (below : List Frame) : State where
  vm := { classes := classes, interned := interned.toArray }
  heap := heap
  slotsUsed := slotsUsed
  threads := #[{ frames := .invoking theMethod args0 :: below }]
def below0 : List Frame := [.native { method := ⟨0, 0⟩, args := #[] }]
def about1 : State := aboutOver below0
def p0 : Program := .bare "" "" ""
def e0 : Env := launch0.env 0 0 0
theorem w_frames : about1.frames = Frame.invoking theMethod args0 :: below0 := rfl
set_option maxRecDepth 65536 in
theorem w_args : argsFit about1.vm theMethod args0 = true := by decide +kernel
set_option maxRecDepth 65536 in
theorem w_heap : heapFits about1 = true := by decide +kernel
set_option maxRecDepth 65536 in
theorem w_runnable : about1.curStatus? = some .runnable := by decide +kernel
set_option maxRecDepth 65536 in
theorem w_alone : about1.alone = true := by decide +kernel
set_option maxRecDepth 65536 in
theorem w_named : about1.methodNamed? x = some theMethod := by decide +kernel
set_option maxRecDepth 65536 in
theorem w_hears : about1.hears theMethod below0 = true := by decide +kernel
set_option maxRecDepth 65536 in
theorem w_ripe : about1.ripe theMethod args0 below0 = true := by decide +kernel
theorem w_running : about1.status = .running := rfl
set_option maxRecDepth 65536 in
theorem w_room : about1.hasRoom e0.platform room_1 = true :=
  launch0.hasRoom_least _ room_1 (by decide +kernel) (by decide +kernel) (by decide +kernel) (by decide +kernel) (by decide +kernel) (by decide +kernel)
theorem allAtoms_all (ts : List Jvm.Cond) (a : Array Jvm.Value) (st : Jvm.State) : (allAtoms ts).before a st = ts.all (fun c => c.before a st) := by
  induction ts with
  | nil => rfl
  | cons c t ih =>
    show (Jvm.Cond.and c (allAtoms t)).before a st = _
    rw [Jvm.Cond.before_and, ih, List.all_cons]
def words1 : List Jvm.Cond := Jvm.Cond.code x code maxLocals ret :: tables_1
/-- a 'code' word, met by the world's own term for the bytes: nothing is compared byte by byte -/
theorem code_word {y : MethodName} {bytes : ByteArray} {mx : Nat} {rt : Option FieldType} {a : Array Value} {s : State} {m : MethodId} {meth : Method} {c : Code} (h1 : s.methodNamed? y = some m) (h2 : s.vm.method? m = some meth) (h3 : meth.code = some c) (h4 : c.code = bytes)
    (h5 : (c.maxLocals == mx && c.exceptionTable.isEmpty && decide (c.maxStack ≤ mostOperands) && decide (meth.sig.returnType = rt) && !meth.locks && decide (parseMethodDescriptor y.desc = some meth.sig)) = true) : (Jvm.Cond.code y bytes mx rt).before a s = true := by
  simp only [Bool.and_eq_true, beq_iff_eq, Bool.not_eq_true', decide_eq_true_eq] at h5
  obtain ⟨⟨⟨⟨⟨g1, g2⟩, g3⟩, g4⟩, g5⟩, g6⟩ := h5
  simp [Cond.before, Cond.holds, Cond.value, h1, h2, h3, h4, g1, g2, g3, g4, g5, g6]
def isCode : Jvm.Cond → Bool
  | .code _ _ _ _ => true
  | _ => false
theorem all_split {L : List Jvm.Cond} {P : Jvm.Cond → Bool} (h1 : L.all (fun c => isCode c || P c) = true) (h2 : ∀ c ∈ L.filter isCode, P c = true) : L.all P = true := by
  refine List.all_eq_true.mpr fun c hc => ?_
  have h := List.all_eq_true.mp h1 c hc
  rcases Bool.eq_false_or_eq_true (isCode c) with hi | hi
  · exact h2 c (List.mem_filter.mpr ⟨hc, hi⟩)
  · simpa [hi] using h
set_option maxRecDepth 65536 in
theorem w_c0 : (Jvm.Cond.code x code maxLocals ret).before args0 about1 = true := code_word (m := ⟨1, 1⟩) (meth := k1m1) (c := k1c1) (by decide +kernel) rfl rfl rfl (by decide +kernel)
set_option maxRecDepth 65536 in
theorem w_c1 : (Jvm.Cond.code ({ cls := "com/example/tranche/tranche/model/Span", name := "<init>", desc := "(II)V" } : Jvm.MethodName) prog_34_method_1_code (3 : Nat) (Option.none : Option Jvm.ClassFile.FieldType)).before args0 about1 = true := code_word (m := ⟨3, 0⟩) (meth := k3m0) (c := k3c0) (by decide +kernel) rfl rfl rfl (by decide +kernel)
set_option maxRecDepth 65536 in
theorem w_c2 : (Jvm.Cond.code ({ cls := "java/lang/Record", name := "<init>", desc := "()V" } : Jvm.MethodName) jdk_30_method_1_code (1 : Nat) (Option.none : Option Jvm.ClassFile.FieldType)).before args0 about1 = true := code_word (m := ⟨2, 0⟩) (meth := k2m0) (c := k2c0) (by decide +kernel) rfl rfl rfl (by decide +kernel)
set_option maxRecDepth 65536 in
theorem w_c3 : (Jvm.Cond.code ({ cls := "java/lang/Object", name := "<init>", desc := "()V" } : Jvm.MethodName) object_method_1_code (1 : Nat) (Option.none : Option Jvm.ClassFile.FieldType)).before args0 about1 = true := code_word (m := ⟨0, 0⟩) (meth := k0m0) (c := k0c0) (by decide +kernel) rfl rfl rfl (by decide +kernel)
set_option maxRecDepth 65536 in
theorem w_c4 : (Jvm.Cond.code ({ cls := "com/example/tranche/tranche/model/Span", name := "bytesIn", desc := "([B)[B" } : Jvm.MethodName) prog_34_method_2_code (2 : Nat) (Option.some (Jvm.ClassFile.FieldType.array Jvm.ClassFile.FieldType.byte))).before args0 about1 = true := code_word (m := ⟨3, 1⟩) (meth := k3m1) (c := k3c1) (by decide +kernel) rfl rfl rfl (by decide +kernel)
set_option maxRecDepth 65536 in
theorem w_c5 : (Jvm.Cond.code ({ cls := "java/util/Arrays", name := "copyOfRange", desc := "([BII)[B" } : Jvm.MethodName) jdk_65_method_132_code (3 : Nat) (Option.some (Jvm.ClassFile.FieldType.array Jvm.ClassFile.FieldType.byte))).before args0 about1 = true := code_word (m := ⟨4, 2⟩) (meth := k4m2) (c := k4c2) (by decide +kernel) rfl rfl rfl (by decide +kernel)
set_option maxRecDepth 65536 in
theorem w_c6 : (Jvm.Cond.code ({ cls := "java/util/Arrays", name := "copyOfRangeByte", desc := "([BII)[B" } : Jvm.MethodName) jdk_65_method_133_code (5 : Nat) (Option.some (Jvm.ClassFile.FieldType.array Jvm.ClassFile.FieldType.byte))).before args0 about1 = true := code_word (m := ⟨4, 3⟩) (meth := k4m3) (c := k4c3) (by decide +kernel) rfl rfl rfl (by decide +kernel)
set_option maxRecDepth 65536 in
theorem w_c7 : (Jvm.Cond.code ({ cls := "java/util/Arrays", name := "checkLength", desc := "(II)V" } : Jvm.MethodName) jdk_65_method_131_code (2 : Nat) (Option.none : Option Jvm.ClassFile.FieldType)).before args0 about1 = true := code_word (m := ⟨4, 1⟩) (meth := k4m1) (c := k4c1) (by decide +kernel) rfl rfl rfl (by decide +kernel)
set_option maxRecDepth 65536 in
theorem w_c8 : (Jvm.Cond.code ({ cls := "java/lang/Math", name := "min", desc := "(II)I" } : Jvm.MethodName) jdk_29_method_69_code (2 : Nat) (Option.some Jvm.ClassFile.FieldType.int)).before args0 about1 = true := code_word (m := ⟨5, 1⟩) (meth := k5m1) (c := k5c1) (by decide +kernel) rfl rfl rfl (by decide +kernel)
set_option maxRecDepth 65536 in
theorem w_c9 : (Jvm.Cond.code ({ cls := "com/example/tranche/tranche/model/SpanBytesInPinLaw", name := "at", desc := "(IIIII)B" } : Jvm.MethodName) method_3_code (5 : Nat) (Option.some Jvm.ClassFile.FieldType.byte)).before args0 about1 = true := code_word (m := ⟨1, 2⟩) (meth := k1m2) (c := k1c2) (by decide +kernel) rfl rfl rfl (by decide +kernel)
def codes1 : List Jvm.Cond := [Jvm.Cond.code x code maxLocals ret, Jvm.Cond.code ({ cls := "com/example/tranche/tranche/model/Span", name := "<init>", desc := "(II)V" } : Jvm.MethodName) prog_34_method_1_code (3 : Nat) (Option.none : Option Jvm.ClassFile.FieldType), Jvm.Cond.code ({ cls := "java/lang/Record", name := "<init>", desc := "()V" } : Jvm.MethodName) jdk_30_method_1_code (1 : Nat) (Option.none : Option Jvm.ClassFile.FieldType), Jvm.Cond.code ({ cls := "java/lang/Object", name := "<init>", desc := "()V" } : Jvm.MethodName) object_method_1_code (1 : Nat) (Option.none : Option Jvm.ClassFile.FieldType), Jvm.Cond.code ({ cls := "com/example/tranche/tranche/model/Span", name := "bytesIn", desc := "([B)[B" } : Jvm.MethodName) prog_34_method_2_code (2 : Nat) (Option.some (Jvm.ClassFile.FieldType.array Jvm.ClassFile.FieldType.byte)), Jvm.Cond.code ({ cls := "java/util/Arrays", name := "copyOfRange", desc := "([BII)[B" } : Jvm.MethodName) jdk_65_method_132_code (3 : Nat) (Option.some (Jvm.ClassFile.FieldType.array Jvm.ClassFile.FieldType.byte)), Jvm.Cond.code ({ cls := "java/util/Arrays", name := "copyOfRangeByte", desc := "([BII)[B" } : Jvm.MethodName) jdk_65_method_133_code (5 : Nat) (Option.some (Jvm.ClassFile.FieldType.array Jvm.ClassFile.FieldType.byte)), Jvm.Cond.code ({ cls := "java/util/Arrays", name := "checkLength", desc := "(II)V" } : Jvm.MethodName) jdk_65_method_131_code (2 : Nat) (Option.none : Option Jvm.ClassFile.FieldType), Jvm.Cond.code ({ cls := "java/lang/Math", name := "min", desc := "(II)I" } : Jvm.MethodName) jdk_29_method_69_code (2 : Nat) (Option.some Jvm.ClassFile.FieldType.int), Jvm.Cond.code ({ cls := "com/example/tranche/tranche/model/SpanBytesInPinLaw", name := "at", desc := "(IIIII)B" } : Jvm.MethodName) method_3_code (5 : Nat) (Option.some Jvm.ClassFile.FieldType.byte)]
set_option maxRecDepth 65536 in
theorem codes_eq : words1.filter isCode = codes1 := rfl
theorem w_codes : ∀ c ∈ words1.filter isCode, c.before args0 about1 = true := by
  rw [codes_eq]
  intro c hc
  simp only [codes1, List.mem_cons, List.not_mem_nil, or_false] at hc
  rcases hc with rfl | rfl | rfl | rfl | rfl | rfl | rfl | rfl | rfl | rfl
  · exact w_c0
  · exact w_c1
  · exact w_c2
  · exact w_c3
  · exact w_c4
  · exact w_c5
  · exact w_c6
  · exact w_c7
  · exact w_c8
  · exact w_c9
set_option maxRecDepth 65536 in
theorem w_t1 : (words1.take 24).all (fun c => isCode c || c.before args0 about1) = true := by decide +kernel
set_option maxRecDepth 65536 in
theorem w_t2 : ((words1.drop 24).take 24).all (fun c => isCode c || c.before args0 about1) = true := by decide +kernel
set_option maxRecDepth 65536 in
theorem w_t3 : ((words1.drop 24).drop 24).all (fun c => isCode c || c.before args0 about1) = true := by decide +kernel
theorem w_tables : (allAtoms (Jvm.Cond.code x code maxLocals ret :: tables_1)).before args0 about1 = true := by
  rw [allAtoms_all]
  show words1.all (fun c => c.before args0 about1) = true
  refine all_split ?_ w_codes
  rw [← List.take_append_drop 24 words1, List.all_append, w_t1, ← List.take_append_drop 24 (words1.drop 24), List.all_append, w_t2, w_t3]
  rfl
set_option maxRecDepth 65536 in
theorem w_case : (Jvm.Cond.and given_1 narrow_1).before args0 about1 = true := by decide +kernel
theorem w_applies : (headSpec (Jvm.Cond.code x code maxLocals ret :: tables_1) room_1).applies x e0.platform about1 = true :=
  (Spec.applies_iff w_frames).mpr ⟨w_running, w_runnable, w_alone, w_named, w_hears, w_ripe, w_room, w_tables⟩
theorem atStart : AtStart classFile x code maxLocals ret World_1 tables_1 room_1 Calls_1 rest_1 Pre_1 launch0 p0 e0 about1 theMethod args0 below0 :=
  ⟨lists_1, trivial, launch0.admits_env _ _ _, launch0.least_env, fairChoices_fair.cas, fairChoices_fair.clock, w_frames, w_args, w_heap, w_applies, trivial, trivial, w_case⟩
end start1
theorem witness_1 : WitnessClaimed_1 := ⟨start1.p0, start1.e0, start1.about1, start1.theMethod, start1.args0, start1.below0, start1.atStart⟩
end Jvm.Pilot.@@N@@
