import JvmDerived
import JvmDerived.Pilot.@@N@@Statement
import JvmDerived.Pilot.@@N@@Code
set_option linter.unusedVariables false
set_option linter.unusedSimpArgs false
namespace Jvm.Pilot.@@N@@
open Jvm Jvm.ClassFile Sem Op Lib Jvm.Free Jvm.Stand Jvm.LawKit Jvm.RoadKit Bundle Jvm.Pilot.@@N@@.Jvm.D
theorem own_irr (x : Int32) : ¬ x < x := fun h => absurd (Int32.lt_iff_toInt_lt.mp h) (by omega)
theorem own_nn (x : Int32) : ¬ ((x &&& (2147483647 : Int32)) < (0 : Int32)) := fun h => by
  have h1 := Int32.lt_iff_toInt_lt.mp h
  have h2 := (c_and x 2147483647 (by decide)).1
  have h3 : (0 : Int32).toInt = 0 := rfl
  omega
def own_min (a b : Int32) : Int32 := if b < a then b else a
def own_max (a b : Int32) : Int32 := if a < b then b else a
theorem own_mm (a b : Int32) : ¬ (own_max a b < own_min a b) := fun h => by
  have h := Int32.lt_iff_toInt_lt.mp h
  unfold own_max own_min at h
  split at h <;> split at h <;> (simp only [Int32.lt_iff_toInt_lt] at *; omega)
theorem own_min_nn {a b : Int32} (ha : ¬ a < (0 : Int32)) (hb : ¬ b < (0 : Int32)) : ¬ (own_min a b < (0 : Int32)) := by unfold own_min; split <;> assumption
theorem own_max_nn {a b : Int32} (ha : ¬ a < (0 : Int32)) (hb : ¬ b < (0 : Int32)) : ¬ (own_max a b < (0 : Int32)) := by unfold own_max; split <;> assumption
theorem own_mod {x d k : Int32} {D : Int} (hd : d.toInt = D) (hD : 0 < D) (h : (x &&& (2147483647 : Int32)) % d = k) : 0 ≤ k.toInt ∧ k.toInt < D := by
  have h1 := (c_and x 2147483647 (by decide)).1
  have h2 := (c_irem (x &&& 2147483647) d D hd).1 h1
  rw [h] at h2
  rw [h2]
  exact ⟨Int.emod_nonneg _ (by omega), Int.emod_lt_of_pos _ hD⟩
theorem own_ne {k : Int32} (n : Nat) (hc : (Int32.ofNat n).toInt = (n : Int)) (h : ¬ k = Int32.ofNat n) : k.toInt ≠ (n : Int) := fun q => h (Int32.toInt_inj.mp (q.trans hc.symm))
theorem own_r255 {x c : Int32} (h : (x &&& (255 : Int32)) = c) : ¬ (c < (0 : Int32)) ∧ ¬ ((255 : Int32) < c) := by
  have h1 := c_and x 255 (by decide)
  rw [h] at h1
  have e1 : (255 : Int32).toInt = 255 := rfl
  have e0 : (0 : Int32).toInt = 0 := rfl
  simp only [Int32.lt_iff_toInt_lt]
  omega
theorem own_narc {c : Int32} (h : ¬ (c < (0 : Int32)) ∧ ¬ ((255 : Int32) < c)) : nar .char c = c := by
  have e1 : (255 : Int32).toInt = 255 := rfl
  have e0 : (0 : Int32).toInt = 0 := rfl
  have h1 := h.1
  have h2 := h.2
  simp only [Int32.lt_iff_toInt_lt] at h1 h2
  have h3 := c_i2c c
  apply Int32.toInt_inj.mp
  show c.toUInt32.toUInt16.toUInt32.toInt32.toInt = c.toInt
  omega
theorem own_fitc {c : Int32} (h : ¬ (c < (0 : Int32)) ∧ ¬ ((255 : Int32) < c)) : fits .char (.int c) = true := by
  have q := fits_nar_char c
  rw [own_narc h] at q
  exact q
theorem own_b8 (x : Int32) : x.toInt8.toInt32.toInt8.toInt32 = x.toInt8.toInt32 := Int32.toInt_inj.mp (by have a := c_i2b x; have b := c_i2b x.toInt8.toInt32; omega)
theorem own_shr0 (x : Int32) : x >>> ((0 : Int32) &&& 31) = x := Int32.toInt_inj.mp (by rw [c_ishr x 0 0 (by decide)]; simp)
theorem own_nar255 (x : Int32) : nar .char ((x &&& (255 : Int32)).toUInt32.toUInt16.toUInt32.toInt32) = x &&& (255 : Int32) := by rw [i2c_mask]; exact i2c_mask x
/-- from here the run comes to an end at which Q holds, at most so many cells and slots made -/
def own_Go (p : Program) (e : Env) (below : List Frame) (s : State) (Q : Option Value → Heap → List Loc → Prop) (C S : Nat) (A : State) : Prop :=
  ∃ s₂ o, Steps p.tables e below A s₂ ∧ s₂.status = .running ∧ Ended s₂ below o ∧ ∃ v L, o = .returned v ∧ Q v s₂.heap L ∧ FrameEnd s o s₂ L C S
theorem own_go {p : Program} {e : Env} {below : List Frame} {s : State} {Q : Option Value → Heap → List Loc → Prop} {C S : Nat} {A B : State} (k : ∀ t, Steps p.tables e below B t → Steps p.tables e below A t) (h : own_Go p e below s Q C S B) : own_Go p e below s Q C S A := by
  obtain ⟨s₂, o, h1, h2⟩ := h
  exact ⟨s₂, o, k _ h1, h2⟩
theorem own_fin {p : Program} {l : Launch} {e : Env} {R : Room} {s : State} {m : MethodId} {args : Array Value} {below : List Frame} {meth : Method} {c : Code} {T : State} {locs : List Loc} {cells slots : Nat} {Q : Option Value → Heap → List Loc → Prop} {C S : Nat} {A : State} {v : Option Value}
    (X : Stand p l e R s m args below meth c T locs cells slots) (hlocks : meth.locks = false) (hv : meth.sig.returnType = none → v = none)
    (st : ∀ fs, (∀ (f : JFrame) (acts : List Action), f.method = m → f.locked = none → f.entered = [] → (doReturn e (T.setTop f) acts v).1 = T.setFrames fs) → Steps p.tables e below A (T.setFrames fs))
    (hQ : Q v T.heap locs) (hc : cells ≤ C) (hs : slots ≤ S) : own_Go p e below s Q C S A := by
  obtain ⟨fs, hr, hrun, hended, hW, hsame⟩ := X.leave (v := v) hv hlocks
  exact ⟨_, _, st fs hr, hrun, hended, _, _, rfl, hQ, ⟨_, rfl⟩, hW, hsame.mono hc hs⟩
theorem own_d1_0 : decode jdk_29_method_65_code 0 = .ok (.iload_n 0, 1) := by decide +kernel
theorem own_d1_1 : decode jdk_29_method_65_code 1 = .ok (.iload_n 1, 1) := by decide +kernel
theorem own_d1_2 : decode jdk_29_method_65_code 2 = .ok (.if_icmp .lt 7, 3) := by decide +kernel
theorem own_d1_9 : decode jdk_29_method_65_code 9 = .ok (.iload_n 1, 1) := by decide +kernel
theorem own_d1_10 : decode jdk_29_method_65_code 10 = .ok (.ireturn, 1) := by decide +kernel
theorem own_d1_5 : decode jdk_29_method_65_code 5 = .ok (.iload_n 0, 1) := by decide +kernel
theorem own_d1_6 : decode jdk_29_method_65_code 6 = .ok (.goto 4, 3) := by decide +kernel
theorem own_ef_own_rmax (m : MethodId) (p1 : Int32) (p2 : Int32) : entryFrame m #[(.int p1), (.int p2)] 2 = mkF m 0 #[iv p1, iv p2] [] := by first | (simp [entryFrame, mkF, argsToLocals, Value.category]; done) | rfl
def own_Q_own_rmax (Z : State) (p1 : Int32) (p2 : Int32) (h0 : Heap) (n0 : Nat) (v : Option Value) (h : Heap) (L : List Loc) : Prop := v = some (.int (own_max p1 p2)) ∧ Fr n0 L ∧ h = h0
set_option maxRecDepth 65536 in
set_option maxHeartbeats 40000000 in
theorem own_rmax (l : Launch) (Z : State) (a0 : Array Value) (hw : ∀ d ∈ tables_1, d.before a0 Z = true) (ws : List Jvm.Cond) (p1 : Int32) (p2 : Int32) (h0 : Heap) (n0 : Nat) (Z0 : n0 ≤ h0.size)   :
    MetFree l (⟨"java/lang/Math", "max", "(II)I"⟩ : MethodName) (head1 (Jvm.Cond.code (⟨"java/lang/Math", "max", "(II)I"⟩ : MethodName) jdk_29_method_65_code 2 (some .int) :: ws) ({ frames := 0, cells := 0, slots := 0, locals := 0 } : Room)) (fun a U => a = #[(.int p1), (.int p2)] ∧ Z.Warmed39 U.vm ∧ U.heap = h0) (fun _ _ _ _ _ => True) (fun _ U o U' => ∃ v L, o = .returned v ∧ own_Q_own_rmax Z p1 p2 h0 n0 v U'.heap L ∧ FrameEnd U o U' L ({ frames := 0, cells := 0, slots := 0, locals := 0 } : Room).cells ({ frames := 0, cells := 0, slots := 0, locals := 0 } : Room).slots) := by
  refine MetFree.of_bodySF (Jvm.Free.JP.mathPlain rfl (by decide +kernel)) hisR ?_
  intro p e s m args below meth c s₁ Bd hml0 hP hK
  obtain ⟨rfl, hZ, hh⟩ := hP
  have hx := Bd.exec
  have hby := Bd.bytes
  have hml : c.maxLocals = 2 := hml0
  have hown : s.vm.findClass "java/lang/Math" = some m.cls := findClass_of_methodNamed Bd.named
  have hnm := (name_of_methodNamed Bd.named Bd.method).1
  have X0 : Stand p l e ({ frames := 0, cells := 0, slots := 0, locals := 0 } : Room) s m #[(.int p1), (.int p2)] below meth c s₁ [] 0 0 := Stand.of_body Bd
  have e0 : s₁.heap = h0 := by rw [← hh, Bd.state]; rfl
  have N0 := Fr.nil n0
  show own_Go p e below s (own_Q_own_rmax Z p1 p2 h0 n0) ({ frames := 0, cells := 0, slots := 0, locals := 0 } : Room).cells ({ frames := 0, cells := 0, slots := 0, locals := 0 } : Room).slots (s₁.setTop (entryFrame m #[(.int p1), (.int p2)] 2))
  refine own_go (fun zt zk => castTop (own_ef_own_rmax m p1 p2) zk) ?_
  show own_Go p e below s _ _ _ (s₁.setTop (mkF m 0 #[iv p1, iv p2] []))
  refine own_go (fun zt zk => (XS.iloadN X0.here hx rfl (hb hby own_d1_0) rfl (XS.iloadN X0.here hx rfl (hb hby own_d1_1) rfl zk))) ?_
  show own_Go p e below s _ _ _ (s₁.setTop (mkF m 2 #[iv p1, iv p2] [(.int p2), (.int p1)]))
  by_cases hc : p1 < p2
  · refine own_go (fun zt zk => (XS.icmpYes X0.here hx rfl (pc0 := 2) (pc' := 9) rfl (hb hby own_d1_2) rfl (tlt (hc : p1 < p2)).1 (by decide) (by decide) (XS.iloadN X0.here hx rfl (hb hby own_d1_9) rfl zk))) ?_
    show own_Go p e below s _ _ _ (s₁.setTop (mkF m 10 #[iv p1, iv p2] [(.int p2)]))
    exact own_fin X0 Bd.notSynchronized (fun h => by rw [Bd.returns] at h; cases h) (fun fs hr => retOut X0 hx (t := .int) (w := (.int p2)) Bd.returns rfl (Or.inl ⟨rfl, Or.inl rfl, _, rfl⟩) (hb hby own_d1_10) hr) (by rw [e0]; exact ⟨congrArg (fun z => some (Value.int z)) (if_pos hc).symm, N0, rfl⟩) (by decide) (by decide)
  · refine own_go (fun zt zk => (XS.icmpNo X0.here hx rfl (hb hby own_d1_2) rfl (flt (hc : ¬ (p1 < p2))).1 (XS.iloadN X0.here hx rfl (hb hby own_d1_5) rfl (XS.goto X0.here hx rfl (pc0 := 6) (pc' := 10) rfl (hb hby own_d1_6) (by decide) (by decide) zk)))) ?_
    show own_Go p e below s _ _ _ (s₁.setTop (mkF m 10 #[iv p1, iv p2] [(.int p1)]))
    exact own_fin X0 Bd.notSynchronized (fun h => by rw [Bd.returns] at h; cases h) (fun fs hr => retOut X0 hx (t := .int) (w := (.int p1)) Bd.returns rfl (Or.inl ⟨rfl, Or.inl rfl, _, rfl⟩) (hb hby own_d1_10) hr) (by rw [e0]; exact ⟨congrArg (fun z => some (Value.int z)) (if_neg hc).symm, N0, rfl⟩) (by decide) (by decide)
theorem own_d2_0 : decode jdk_29_method_69_code 0 = .ok (.iload_n 0, 1) := by decide +kernel
theorem own_d2_1 : decode jdk_29_method_69_code 1 = .ok (.iload_n 1, 1) := by decide +kernel
theorem own_d2_2 : decode jdk_29_method_69_code 2 = .ok (.if_icmp .gt 7, 3) := by decide +kernel
theorem own_d2_9 : decode jdk_29_method_69_code 9 = .ok (.iload_n 1, 1) := by decide +kernel
theorem own_d2_10 : decode jdk_29_method_69_code 10 = .ok (.ireturn, 1) := by decide +kernel
theorem own_d2_5 : decode jdk_29_method_69_code 5 = .ok (.iload_n 0, 1) := by decide +kernel
theorem own_d2_6 : decode jdk_29_method_69_code 6 = .ok (.goto 4, 3) := by decide +kernel
theorem own_ef_own_rmin (m : MethodId) (p1 : Int32) (p2 : Int32) : entryFrame m #[(.int p1), (.int p2)] 2 = mkF m 0 #[iv p1, iv p2] [] := by first | (simp [entryFrame, mkF, argsToLocals, Value.category]; done) | rfl
def own_Q_own_rmin (Z : State) (p1 : Int32) (p2 : Int32) (h0 : Heap) (n0 : Nat) (v : Option Value) (h : Heap) (L : List Loc) : Prop := v = some (.int (own_min p1 p2)) ∧ Fr n0 L ∧ h = h0
set_option maxRecDepth 65536 in
set_option maxHeartbeats 40000000 in
theorem own_rmin (l : Launch) (Z : State) (a0 : Array Value) (hw : ∀ d ∈ tables_1, d.before a0 Z = true) (ws : List Jvm.Cond) (p1 : Int32) (p2 : Int32) (h0 : Heap) (n0 : Nat) (Z0 : n0 ≤ h0.size)   :
    MetFree l (⟨"java/lang/Math", "min", "(II)I"⟩ : MethodName) (head1 (Jvm.Cond.code (⟨"java/lang/Math", "min", "(II)I"⟩ : MethodName) jdk_29_method_69_code 2 (some .int) :: ws) ({ frames := 0, cells := 0, slots := 0, locals := 0 } : Room)) (fun a U => a = #[(.int p1), (.int p2)] ∧ Z.Warmed39 U.vm ∧ U.heap = h0) (fun _ _ _ _ _ => True) (fun _ U o U' => ∃ v L, o = .returned v ∧ own_Q_own_rmin Z p1 p2 h0 n0 v U'.heap L ∧ FrameEnd U o U' L ({ frames := 0, cells := 0, slots := 0, locals := 0 } : Room).cells ({ frames := 0, cells := 0, slots := 0, locals := 0 } : Room).slots) := by
  refine MetFree.of_bodySF (Jvm.Free.JP.mathPlain rfl (by decide +kernel)) hisR ?_
  intro p e s m args below meth c s₁ Bd hml0 hP hK
  obtain ⟨rfl, hZ, hh⟩ := hP
  have hx := Bd.exec
  have hby := Bd.bytes
  have hml : c.maxLocals = 2 := hml0
  have hown : s.vm.findClass "java/lang/Math" = some m.cls := findClass_of_methodNamed Bd.named
  have hnm := (name_of_methodNamed Bd.named Bd.method).1
  have X0 : Stand p l e ({ frames := 0, cells := 0, slots := 0, locals := 0 } : Room) s m #[(.int p1), (.int p2)] below meth c s₁ [] 0 0 := Stand.of_body Bd
  have e0 : s₁.heap = h0 := by rw [← hh, Bd.state]; rfl
  have N0 := Fr.nil n0
  show own_Go p e below s (own_Q_own_rmin Z p1 p2 h0 n0) ({ frames := 0, cells := 0, slots := 0, locals := 0 } : Room).cells ({ frames := 0, cells := 0, slots := 0, locals := 0 } : Room).slots (s₁.setTop (entryFrame m #[(.int p1), (.int p2)] 2))
  refine own_go (fun zt zk => castTop (own_ef_own_rmin m p1 p2) zk) ?_
  show own_Go p e below s _ _ _ (s₁.setTop (mkF m 0 #[iv p1, iv p2] []))
  refine own_go (fun zt zk => (XS.iloadN X0.here hx rfl (hb hby own_d2_0) rfl (XS.iloadN X0.here hx rfl (hb hby own_d2_1) rfl zk))) ?_
  show own_Go p e below s _ _ _ (s₁.setTop (mkF m 2 #[iv p1, iv p2] [(.int p2), (.int p1)]))
  by_cases hc : p2 < p1
  · refine own_go (fun zt zk => (XS.icmpYes X0.here hx rfl (pc0 := 2) (pc' := 9) rfl (hb hby own_d2_2) rfl (tlt (hc : p2 < p1)).2.2.1 (by decide) (by decide) (XS.iloadN X0.here hx rfl (hb hby own_d2_9) rfl zk))) ?_
    show own_Go p e below s _ _ _ (s₁.setTop (mkF m 10 #[iv p1, iv p2] [(.int p2)]))
    exact own_fin X0 Bd.notSynchronized (fun h => by rw [Bd.returns] at h; cases h) (fun fs hr => retOut X0 hx (t := .int) (w := (.int p2)) Bd.returns rfl (Or.inl ⟨rfl, Or.inl rfl, _, rfl⟩) (hb hby own_d2_10) hr) (by rw [e0]; exact ⟨congrArg (fun z => some (Value.int z)) (if_pos hc).symm, N0, rfl⟩) (by decide) (by decide)
  · refine own_go (fun zt zk => (XS.icmpNo X0.here hx rfl (hb hby own_d2_2) rfl (flt (hc : ¬ (p2 < p1))).2.2.1 (XS.iloadN X0.here hx rfl (hb hby own_d2_5) rfl (XS.goto X0.here hx rfl (pc0 := 6) (pc' := 10) rfl (hb hby own_d2_6) (by decide) (by decide) zk)))) ?_
    show own_Go p e below s _ _ _ (s₁.setTop (mkF m 10 #[iv p1, iv p2] [(.int p1)]))
    exact own_fin X0 Bd.notSynchronized (fun h => by rw [Bd.returns] at h; cases h) (fun fs hr => retOut X0 hx (t := .int) (w := (.int p1)) Bd.returns rfl (Or.inl ⟨rfl, Or.inl rfl, _, rfl⟩) (hb hby own_d2_10) hr) (by rw [e0]; exact ⟨congrArg (fun z => some (Value.int z)) (if_neg hc).symm, N0, rfl⟩) (by decide) (by decide)
theorem own_d3_0 : decode prog_47_method_11_code 0 = .ok (.iload_n 0, 1) := by decide +kernel
theorem own_d3_1 : decode prog_47_method_11_code 1 = .ok (.ifCond .lt 8, 3) := by decide +kernel
theorem own_d3_4 : decode prog_47_method_11_code 4 = .ok (.iload_n 0, 1) := by decide +kernel
theorem own_d3_5 : decode prog_47_method_11_code 5 = .ok (.iload_n 1, 1) := by decide +kernel
theorem own_d3_6 : decode prog_47_method_11_code 6 = .ok (.if_icmp .le 18, 3) := by decide +kernel
theorem own_d3_24 : decode prog_47_method_11_code 24 = .ok (.iload_n 0, 1) := by decide +kernel
theorem own_d3_25 : decode prog_47_method_11_code 25 = .ok (.ireturn, 1) := by decide +kernel
theorem own_pn_com_example_mortise_mortise_store_Commit : plainName "com/example/mortise/mortise/store/Commit" = true := by first | (simp [plainName, overriddenIn]; done) | decide +kernel
theorem own_ef_own_rcnt (m : MethodId) (p1 : Int32) (p2 : Int32) : entryFrame m #[(.int p1), (.int p2)] 2 = mkF m 0 #[iv p1, iv p2] [] := by first | (simp [entryFrame, mkF, argsToLocals, Value.category]; done) | rfl
def own_Q_own_rcnt (Z : State) (p1 : Int32) (p2 : Int32) (h0 : Heap) (n0 : Nat) (v : Option Value) (h : Heap) (L : List Loc) : Prop := v = some (.int p1) ∧ Fr n0 L ∧ h = h0
set_option maxRecDepth 65536 in
set_option maxHeartbeats 40000000 in
theorem own_rcnt (l : Launch) (Z : State) (a0 : Array Value) (hw : ∀ d ∈ tables_1, d.before a0 Z = true) (ws : List Jvm.Cond) (p1 : Int32) (p2 : Int32) (h0 : Heap) (n0 : Nat) (Z0 : n0 ≤ h0.size)  (hc : ¬ (p1 < (0 : Int32))) (hd : ¬ (p2 < p1)) :
    MetFree l (⟨"com/example/mortise/mortise/store/Commit", "count", "(II)I"⟩ : MethodName) (head1 (Jvm.Cond.code (⟨"com/example/mortise/mortise/store/Commit", "count", "(II)I"⟩ : MethodName) prog_47_method_11_code 2 (some .int) :: ws) ({ frames := 0, cells := 0, slots := 0, locals := 0 } : Room)) (fun a U => a = #[(.int p1), (.int p2)] ∧ Z.Warmed39 U.vm ∧ U.heap = h0) (fun _ _ _ _ _ => True) (fun _ U o U' => ∃ v L, o = .returned v ∧ own_Q_own_rcnt Z p1 p2 h0 n0 v U'.heap L ∧ FrameEnd U o U' L ({ frames := 0, cells := 0, slots := 0, locals := 0 } : Room).cells ({ frames := 0, cells := 0, slots := 0, locals := 0 } : Room).slots) := by
  refine MetFree.of_bodySF (plainFor_of_name own_pn_com_example_mortise_mortise_store_Commit) hisR ?_
  intro p e s m args below meth c s₁ Bd hml0 hP hK
  obtain ⟨rfl, hZ, hh⟩ := hP
  have hx := Bd.exec
  have hby := Bd.bytes
  have hml : c.maxLocals = 2 := hml0
  have hown : s.vm.findClass "com/example/mortise/mortise/store/Commit" = some m.cls := findClass_of_methodNamed Bd.named
  have hnm := (name_of_methodNamed Bd.named Bd.method).1
  have X0 : Stand p l e ({ frames := 0, cells := 0, slots := 0, locals := 0 } : Room) s m #[(.int p1), (.int p2)] below meth c s₁ [] 0 0 := Stand.of_body Bd
  have e0 : s₁.heap = h0 := by rw [← hh, Bd.state]; rfl
  have N0 := Fr.nil n0
  show own_Go p e below s (own_Q_own_rcnt Z p1 p2 h0 n0) ({ frames := 0, cells := 0, slots := 0, locals := 0 } : Room).cells ({ frames := 0, cells := 0, slots := 0, locals := 0 } : Room).slots (s₁.setTop (entryFrame m #[(.int p1), (.int p2)] 2))
  refine own_go (fun zt zk => castTop (own_ef_own_rcnt m p1 p2) zk) ?_
  show own_Go p e below s _ _ _ (s₁.setTop (mkF m 0 #[iv p1, iv p2] []))
  refine own_go (fun zt zk => (XS.iloadN X0.here hx rfl (hb hby own_d3_0) rfl (XS.ifNo X0.here hx rfl (hb hby own_d3_1) rfl ((if0 _ _).trans (flt (hc : ¬ (p1 < (0 : Int32)))).1) (XS.iloadN X0.here hx rfl (hb hby own_d3_4) rfl (XS.iloadN X0.here hx rfl (hb hby own_d3_5) rfl (XS.icmpYes X0.here hx rfl (pc0 := 6) (pc' := 24) rfl (hb hby own_d3_6) rfl (flt (hd : ¬ (p2 < p1))).2.2.2 (by decide) (by decide) (XS.iloadN X0.here hx rfl (hb hby own_d3_24) rfl zk))))))) ?_
  show own_Go p e below s _ _ _ (s₁.setTop (mkF m 25 #[iv p1, iv p2] [(.int p1)]))
  exact own_fin X0 Bd.notSynchronized (fun h => by rw [Bd.returns] at h; cases h) (fun fs hr => retOut X0 hx (t := .int) (w := (.int p1)) Bd.returns rfl (Or.inl ⟨rfl, Or.inl rfl, _, rfl⟩) (hb hby own_d3_25) hr) (by rw [e0]; exact ⟨rfl, N0, rfl⟩) (by decide) (by decide)
theorem own_pd__II_I : parseMethodDescriptor "(II)I" = some ⟨[.int, .int], some .int⟩ := by decide +kernel
theorem own_pn_com_example_mortise_mortise_store_CommitCountPinLaw : plainName "com/example/mortise/mortise/store/CommitCountPinLaw" = true := by first | (simp [plainName, overriddenIn]; done) | decide +kernel
theorem own_ef_own_law (m : MethodId) (p1 : Int32) (p2 : Int32) (p3 : Int32) : entryFrame m #[(.int p1), (.int p2), (.int p3)] maxLocals = mkF m 0 #[iv p1, iv p2, iv p3, .unset, .unset, .unset, .unset] [] := by first | (simp [entryFrame, mkF, argsToLocals, Value.category, maxLocals]; done) | rfl
def own_Q_own_law (Z : State) (p1 : Int32) (p2 : Int32) (p3 : Int32) (h0 : Heap) (n0 : Nat) (v : Option Value) (h : Heap) (L : List Loc) : Prop := v = some (.int 1) ∧ Fr n0 L
set_option maxRecDepth 65536 in
set_option maxHeartbeats 40000000 in
theorem own_law (l : Launch) (Z : State) (a0 : Array Value) (hw : ∀ d ∈ tables_1, d.before a0 Z = true) (ws : List Jvm.Cond) (p1 : Int32) (p2 : Int32) (p3 : Int32) (h0 : Heap) (n0 : Nat) (Z0 : n0 ≤ h0.size)   :
    MetFree l x (head1 (Jvm.Cond.code x code maxLocals ret :: ws) room_1) (fun a U => a = #[(.int p1), (.int p2), (.int p3)] ∧ Z.Warmed39 U.vm ∧ U.heap = h0) (fun _ _ _ _ _ => True) (fun _ U o U' => ∃ v L, o = .returned v ∧ own_Q_own_law Z p1 p2 p3 h0 n0 v U'.heap L ∧ FrameEnd U o U' L room_1.cells room_1.slots) := by
  refine MetFree.of_bodySF (plainFor_of_name own_pn_com_example_mortise_mortise_store_CommitCountPinLaw) hisR ?_
  intro p e s m args below meth c s₁ Bd hml0 hP hK
  obtain ⟨rfl, hZ, hh⟩ := hP
  have hx := Bd.exec
  have hby := Bd.bytes
  have hml : c.maxLocals = 7 := hml0
  have hown : s.vm.findClass "com/example/mortise/mortise/store/CommitCountPinLaw" = some m.cls := findClass_of_methodNamed Bd.named
  have hnm := (name_of_methodNamed Bd.named Bd.method).1
  have X0 : Stand p l e room_1 s m #[(.int p1), (.int p2), (.int p3)] below meth c s₁ [] 0 0 := Stand.of_body Bd
  have e0 : s₁.heap = h0 := by rw [← hh, Bd.state]; rfl
  have N0 := Fr.nil n0
  show own_Go p e below s (own_Q_own_law Z p1 p2 p3 h0 n0) room_1.cells room_1.slots (s₁.setTop (entryFrame m #[(.int p1), (.int p2), (.int p3)] maxLocals))
  refine own_go (fun zt zk => castTop (own_ef_own_law m p1 p2 p3) zk) ?_
  show own_Go p e below s _ _ _ (s₁.setTop (mkF m 0 #[iv p1, iv p2, iv p3, .unset, .unset, .unset, .unset] []))
  refine own_go (fun zt zk => (XS.iloadN X0.here hx rfl (hb hby at_0) rfl (X0.ldcI hx hown (mvT hZ (hw _ (List.mem_of_getElem? (i := 0) rfl))) (g := (mkF m 1 #[iv p1, iv p2, iv p3, .unset, .unset, .unset, .unset] [(.int p1)])) rfl (hb hby at_1) (XS.iand X0.here hx rfl (hb hby at_3) rfl (XS.istoreN X0.here hx rfl (hb hby at_4) rfl (l' := #[iv p1, iv p2, iv p3, iv (p1 &&& (2147483647 : Int32)), .unset, .unset, .unset]) rfl (XS.iloadN X0.here hx rfl (hb hby at_5) rfl (X0.ldcI hx hown (mvT hZ (hw _ (List.mem_of_getElem? (i := 0) rfl))) (g := (mkF m 6 #[iv p1, iv p2, iv p3, iv (p1 &&& (2147483647 : Int32)), .unset, .unset, .unset] [(.int p2)])) rfl (hb hby at_6) (XS.iand X0.here hx rfl (hb hby at_8) rfl (XS.istore X0.here hx rfl (hb hby at_9) rfl (l' := #[iv p1, iv p2, iv p3, iv (p1 &&& (2147483647 : Int32)), iv (p2 &&& (2147483647 : Int32)), .unset, .unset]) rfl (XS.iloadN X0.here hx rfl (hb hby at_11) rfl (XS.iload X0.here hx rfl (hb hby at_12) rfl zk))))))))))) ?_
  show own_Go p e below s _ _ _ (s₁.setTop (mkF m 14 #[iv p1, iv p2, iv p3, iv (p1 &&& (2147483647 : Int32)), iv (p2 &&& (2147483647 : Int32)), .unset, .unset] [(.int (p2 &&& (2147483647 : Int32))), (.int (p1 &&& (2147483647 : Int32)))]))
  obtain ⟨_, _, ⟨T1, L1, k1, n1⟩, -, X1, ⟨Lc1, hQ1, l1, y1, z1⟩, st1⟩ := Jvm.LawKit.callS X0 hx (y := (⟨"java/lang/Math", "max", "(II)I"⟩ : MethodName)) hown (mvT hZ (hw _ (List.mem_of_getElem? (i := 1) rfl))) (mvT hZ (hw _ (List.mem_of_getElem? (i := 2) rfl))) (mvT hZ (hw _ (List.mem_of_getElem? (i := 3) rfl))) (mvT hZ (hw _ (List.mem_of_getElem? (i := 4) rfl))) (by decide) (backOf (W := 0) (own_rmax l Z a0 hw [] (p1 &&& (2147483647 : Int32)) (p2 &&& (2147483647 : Int32))  h0 n0 Z0 ) hZ (hw _ (List.mem_of_getElem? (i := 4) rfl)) (hw _ (List.mem_of_getElem? (i := 3) rfl)) (by decide) (by decide)) (g := (mkF m 14 #[iv p1, iv p2, iv p3, iv (p1 &&& (2147483647 : Int32)), iv (p2 &&& (2147483647 : Int32)), .unset, .unset] [(.int (p2 &&& (2147483647 : Int32))), (.int (p1 &&& (2147483647 : Int32)))])) rfl (by rw [hml]; rfl) (argsL := [(.int (p1 &&& (2147483647 : Int32))), (.int (p2 &&& (2147483647 : Int32)))]) (rest := []) (lenOf own_pd__II_I rfl) rfl (by show 2 * 0 + _ ≤ _; exact Nat.le_of_eq rfl) (hb hby at_14) (fun _ _ => ⟨rfl, e0, (by decide : 0 + 0 ≤ _), (by decide : 0 + 0 ≤ _)⟩)
  dsimp only [Pt.U, Pt.locs, Pt.cells, Pt.slots] at X1 l1 y1 z1 st1 hQ1
  subst l1 y1 z1
  obtain ⟨rfl, Nq1, e1⟩ := hQ1
  have N1 := Fr.app N0 Nq1
  refine own_go st1 ?_
  show own_Go p e below s _ _ _ (T1.setTop (mkF m 17 #[iv p1, iv p2, iv p3, iv (p1 &&& (2147483647 : Int32)), iv (p2 &&& (2147483647 : Int32)), .unset, .unset] [(.int (own_max (p1 &&& (2147483647 : Int32)) (p2 &&& (2147483647 : Int32))))]))
  refine own_go (fun zt zk => (XS.istore X1.here hx rfl (hb hby at_17) rfl (l' := #[iv p1, iv p2, iv p3, iv (p1 &&& (2147483647 : Int32)), iv (p2 &&& (2147483647 : Int32)), iv (own_max (p1 &&& (2147483647 : Int32)) (p2 &&& (2147483647 : Int32))), .unset]) rfl (XS.iloadN X1.here hx rfl (hb hby at_19) rfl (XS.iload X1.here hx rfl (hb hby at_20) rfl zk)))) ?_
  show own_Go p e below s _ _ _ (T1.setTop (mkF m 22 #[iv p1, iv p2, iv p3, iv (p1 &&& (2147483647 : Int32)), iv (p2 &&& (2147483647 : Int32)), iv (own_max (p1 &&& (2147483647 : Int32)) (p2 &&& (2147483647 : Int32))), .unset] [(.int (p2 &&& (2147483647 : Int32))), (.int (p1 &&& (2147483647 : Int32)))]))
  obtain ⟨_, _, ⟨T2, L2, k2, n2⟩, -, X2, ⟨Lc2, hQ2, l2, y2, z2⟩, st2⟩ := Jvm.LawKit.callS X1 hx (y := (⟨"java/lang/Math", "min", "(II)I"⟩ : MethodName)) hown (mvT hZ (hw _ (List.mem_of_getElem? (i := 5) rfl))) (mvT hZ (hw _ (List.mem_of_getElem? (i := 6) rfl))) (mvT hZ (hw _ (List.mem_of_getElem? (i := 3) rfl))) (mvT hZ (hw _ (List.mem_of_getElem? (i := 7) rfl))) (by decide) (backOf (W := 0) (own_rmin l Z a0 hw [] (p1 &&& (2147483647 : Int32)) (p2 &&& (2147483647 : Int32))  h0 n0 Z0 ) hZ (hw _ (List.mem_of_getElem? (i := 7) rfl)) (hw _ (List.mem_of_getElem? (i := 3) rfl)) (by decide) (by decide)) (g := (mkF m 22 #[iv p1, iv p2, iv p3, iv (p1 &&& (2147483647 : Int32)), iv (p2 &&& (2147483647 : Int32)), iv (own_max (p1 &&& (2147483647 : Int32)) (p2 &&& (2147483647 : Int32))), .unset] [(.int (p2 &&& (2147483647 : Int32))), (.int (p1 &&& (2147483647 : Int32)))])) rfl (by rw [hml]; rfl) (argsL := [(.int (p1 &&& (2147483647 : Int32))), (.int (p2 &&& (2147483647 : Int32)))]) (rest := []) (lenOf own_pd__II_I rfl) rfl (by show 2 * 0 + _ ≤ _; exact Nat.le_of_eq rfl) (hb hby at_22) (fun _ _ => ⟨rfl, e1, (by decide : 0 + 0 ≤ _), (by decide : 0 + 0 ≤ _)⟩)
  dsimp only [Pt.U, Pt.locs, Pt.cells, Pt.slots] at X2 l2 y2 z2 st2 hQ2
  subst l2 y2 z2
  obtain ⟨rfl, Nq2, e2⟩ := hQ2
  have N2 := Fr.app N1 Nq2
  refine own_go st2 ?_
  show own_Go p e below s _ _ _ (T2.setTop (mkF m 25 #[iv p1, iv p2, iv p3, iv (p1 &&& (2147483647 : Int32)), iv (p2 &&& (2147483647 : Int32)), iv (own_max (p1 &&& (2147483647 : Int32)) (p2 &&& (2147483647 : Int32))), .unset] [(.int (own_min (p1 &&& (2147483647 : Int32)) (p2 &&& (2147483647 : Int32))))]))
  refine own_go (fun zt zk => (XS.istore X2.here hx rfl (hb hby at_25) rfl (l' := #[iv p1, iv p2, iv p3, iv (p1 &&& (2147483647 : Int32)), iv (p2 &&& (2147483647 : Int32)), iv (own_max (p1 &&& (2147483647 : Int32)) (p2 &&& (2147483647 : Int32))), iv (own_min (p1 &&& (2147483647 : Int32)) (p2 &&& (2147483647 : Int32)))]) rfl (XS.iloadN X2.here hx rfl (hb hby at_27) rfl (XS.iconst X2.here hx rfl (hb hby at_28) (XS.iand X2.here hx rfl (hb hby at_29) rfl zk))))) ?_
  show own_Go p e below s _ _ _ (T2.setTop (mkF m 30 #[iv p1, iv p2, iv p3, iv (p1 &&& (2147483647 : Int32)), iv (p2 &&& (2147483647 : Int32)), iv (own_max (p1 &&& (2147483647 : Int32)) (p2 &&& (2147483647 : Int32))), iv (own_min (p1 &&& (2147483647 : Int32)) (p2 &&& (2147483647 : Int32)))] [(.int (p3 &&& (1 : Int32)))]))
  by_cases hf : (p3 &&& (1 : Int32)) = (0 : Int32)
  · refine own_go (fun zt zk => (XS.ifYes X2.here hx rfl (pc0 := 30) (pc' := 37) rfl (hb hby at_30) rfl ((if0 _ _).trans (teq (hf : (p3 &&& (1 : Int32)) = (0 : Int32))).1) (by decide) (by decide) (XS.iloadN X2.here hx rfl (hb hby at_37) rfl (XS.iconst X2.here hx rfl (hb hby at_38) (XS.iand X2.here hx rfl (hb hby at_39) rfl zk))))) ?_
    show own_Go p e below s _ _ _ (T2.setTop (mkF m 40 #[iv p1, iv p2, iv p3, iv (p1 &&& (2147483647 : Int32)), iv (p2 &&& (2147483647 : Int32)), iv (own_max (p1 &&& (2147483647 : Int32)) (p2 &&& (2147483647 : Int32))), iv (own_min (p1 &&& (2147483647 : Int32)) (p2 &&& (2147483647 : Int32)))] [(.int (p3 &&& (2 : Int32)))]))
    by_cases hg : (p3 &&& (2 : Int32)) = (0 : Int32)
    · refine own_go (fun zt zk => (XS.ifYes X2.here hx rfl (pc0 := 40) (pc' := 46) rfl (hb hby at_40) rfl ((if0 _ _).trans (teq (hg : (p3 &&& (2 : Int32)) = (0 : Int32))).1) (by decide) (by decide) (XS.iload X2.here hx rfl (hb hby at_46) rfl (XS.iload X2.here hx rfl (hb hby at_48) rfl zk)))) ?_
      show own_Go p e below s _ _ _ (T2.setTop (mkF m 50 #[iv p1, iv p2, iv p3, iv (p1 &&& (2147483647 : Int32)), iv (p2 &&& (2147483647 : Int32)), iv (own_max (p1 &&& (2147483647 : Int32)) (p2 &&& (2147483647 : Int32))), iv (own_min (p1 &&& (2147483647 : Int32)) (p2 &&& (2147483647 : Int32)))] [(.int (own_max (p1 &&& (2147483647 : Int32)) (p2 &&& (2147483647 : Int32)))), (.int (own_min (p1 &&& (2147483647 : Int32)) (p2 &&& (2147483647 : Int32))))]))
      obtain ⟨_, _, ⟨T3, L3, k3, n3⟩, -, X3, ⟨Lc3, hQ3, l3, y3, z3⟩, st3⟩ := Jvm.LawKit.callS X2 hx (y := (⟨"com/example/mortise/mortise/store/Commit", "count", "(II)I"⟩ : MethodName)) hown (mvT hZ (hw _ (List.mem_of_getElem? (i := 8) rfl))) (mvT hZ (hw _ (List.mem_of_getElem? (i := 9) rfl))) (mvT hZ (hw _ (List.mem_of_getElem? (i := 10) rfl))) (mvT hZ (hw _ (List.mem_of_getElem? (i := 11) rfl))) (by decide) (backOf (W := 0) (own_rcnt l Z a0 hw [] (own_min (p1 &&& (2147483647 : Int32)) (p2 &&& (2147483647 : Int32))) (own_max (p1 &&& (2147483647 : Int32)) (p2 &&& (2147483647 : Int32)))  h0 n0 Z0 (own_min_nn (own_nn p1) (own_nn p2)) (own_mm _ _)) hZ (hw _ (List.mem_of_getElem? (i := 11) rfl)) (hw _ (List.mem_of_getElem? (i := 10) rfl)) (by decide) (by decide)) (g := (mkF m 50 #[iv p1, iv p2, iv p3, iv (p1 &&& (2147483647 : Int32)), iv (p2 &&& (2147483647 : Int32)), iv (own_max (p1 &&& (2147483647 : Int32)) (p2 &&& (2147483647 : Int32))), iv (own_min (p1 &&& (2147483647 : Int32)) (p2 &&& (2147483647 : Int32)))] [(.int (own_max (p1 &&& (2147483647 : Int32)) (p2 &&& (2147483647 : Int32)))), (.int (own_min (p1 &&& (2147483647 : Int32)) (p2 &&& (2147483647 : Int32))))])) rfl (by rw [hml]; rfl) (argsL := [(.int (own_min (p1 &&& (2147483647 : Int32)) (p2 &&& (2147483647 : Int32)))), (.int (own_max (p1 &&& (2147483647 : Int32)) (p2 &&& (2147483647 : Int32))))]) (rest := []) (lenOf own_pd__II_I rfl) rfl (by show 2 * 0 + _ ≤ _; exact Nat.le_of_eq rfl) (hb hby at_50) (fun _ _ => ⟨rfl, e2, (by decide : 0 + 0 ≤ _), (by decide : 0 + 0 ≤ _)⟩)
      dsimp only [Pt.U, Pt.locs, Pt.cells, Pt.slots] at X3 l3 y3 z3 st3 hQ3
      subst l3 y3 z3
      obtain ⟨rfl, Nq3, e3⟩ := hQ3
      have N3 := Fr.app N2 Nq3
      refine own_go st3 ?_
      show own_Go p e below s _ _ _ (T3.setTop (mkF m 53 #[iv p1, iv p2, iv p3, iv (p1 &&& (2147483647 : Int32)), iv (p2 &&& (2147483647 : Int32)), iv (own_max (p1 &&& (2147483647 : Int32)) (p2 &&& (2147483647 : Int32))), iv (own_min (p1 &&& (2147483647 : Int32)) (p2 &&& (2147483647 : Int32)))] [(.int (own_min (p1 &&& (2147483647 : Int32)) (p2 &&& (2147483647 : Int32))))]))
      refine own_go (fun zt zk => (XS.iload X3.here hx rfl (hb hby at_53) rfl (XS.icmpNo X3.here hx rfl (hb hby at_55) rfl (teq (rfl : (own_min (p1 &&& (2147483647 : Int32)) (p2 &&& (2147483647 : Int32))) = (own_min (p1 &&& (2147483647 : Int32)) (p2 &&& (2147483647 : Int32))))).2 (XS.iconst X3.here hx rfl (hb hby at_58) (XS.goto X3.here hx rfl (pc0 := 59) (pc' := 63) rfl (hb hby at_59) (by decide) (by decide) zk))))) ?_
      show own_Go p e below s _ _ _ (T3.setTop (mkF m 63 #[iv p1, iv p2, iv p3, iv (p1 &&& (2147483647 : Int32)), iv (p2 &&& (2147483647 : Int32)), iv (own_max (p1 &&& (2147483647 : Int32)) (p2 &&& (2147483647 : Int32))), iv (own_min (p1 &&& (2147483647 : Int32)) (p2 &&& (2147483647 : Int32)))] [(.int (1 : Int32))]))
      exact own_fin X3 Bd.notSynchronized (fun h => by rw [Bd.returns] at h; cases h) (fun fs hr => retN X3 hx (t := .boolean) Bd.returns (by simp) (hb hby at_63) hr) (by rw [e3]; exact ⟨rfl, N3⟩) (by decide) (by decide)
    · refine own_go (fun zt zk => (XS.ifNo X2.here hx rfl (hb hby at_40) rfl ((if0 _ _).trans (feq (hg : ¬ ((p3 &&& (2 : Int32)) = (0 : Int32)))).1) (XS.iconst X2.here hx rfl (hb hby at_43) (XS.istore X2.here hx rfl (hb hby at_44) rfl (l' := #[iv p1, iv p2, iv p3, iv (p1 &&& (2147483647 : Int32)), iv (p2 &&& (2147483647 : Int32)), iv (own_max (p1 &&& (2147483647 : Int32)) (p2 &&& (2147483647 : Int32))), iv (0 : Int32)]) rfl (XS.iload X2.here hx rfl (hb hby at_46) rfl (XS.iload X2.here hx rfl (hb hby at_48) rfl zk)))))) ?_
      show own_Go p e below s _ _ _ (T2.setTop (mkF m 50 #[iv p1, iv p2, iv p3, iv (p1 &&& (2147483647 : Int32)), iv (p2 &&& (2147483647 : Int32)), iv (own_max (p1 &&& (2147483647 : Int32)) (p2 &&& (2147483647 : Int32))), iv (0 : Int32)] [(.int (own_max (p1 &&& (2147483647 : Int32)) (p2 &&& (2147483647 : Int32)))), (.int (0 : Int32))]))
      obtain ⟨_, _, ⟨T4, L4, k4, n4⟩, -, X4, ⟨Lc4, hQ4, l4, y4, z4⟩, st4⟩ := Jvm.LawKit.callS X2 hx (y := (⟨"com/example/mortise/mortise/store/Commit", "count", "(II)I"⟩ : MethodName)) hown (mvT hZ (hw _ (List.mem_of_getElem? (i := 8) rfl))) (mvT hZ (hw _ (List.mem_of_getElem? (i := 9) rfl))) (mvT hZ (hw _ (List.mem_of_getElem? (i := 10) rfl))) (mvT hZ (hw _ (List.mem_of_getElem? (i := 11) rfl))) (by decide) (backOf (W := 0) (own_rcnt l Z a0 hw [] (0 : Int32) (own_max (p1 &&& (2147483647 : Int32)) (p2 &&& (2147483647 : Int32)))  h0 n0 Z0 (own_irr _) (own_max_nn (own_nn p1) (own_nn p2))) hZ (hw _ (List.mem_of_getElem? (i := 11) rfl)) (hw _ (List.mem_of_getElem? (i := 10) rfl)) (by decide) (by decide)) (g := (mkF m 50 #[iv p1, iv p2, iv p3, iv (p1 &&& (2147483647 : Int32)), iv (p2 &&& (2147483647 : Int32)), iv (own_max (p1 &&& (2147483647 : Int32)) (p2 &&& (2147483647 : Int32))), iv (0 : Int32)] [(.int (own_max (p1 &&& (2147483647 : Int32)) (p2 &&& (2147483647 : Int32)))), (.int (0 : Int32))])) rfl (by rw [hml]; rfl) (argsL := [(.int (0 : Int32)), (.int (own_max (p1 &&& (2147483647 : Int32)) (p2 &&& (2147483647 : Int32))))]) (rest := []) (lenOf own_pd__II_I rfl) rfl (by show 2 * 0 + _ ≤ _; exact Nat.le_of_eq rfl) (hb hby at_50) (fun _ _ => ⟨rfl, e2, (by decide : 0 + 0 ≤ _), (by decide : 0 + 0 ≤ _)⟩)
      dsimp only [Pt.U, Pt.locs, Pt.cells, Pt.slots] at X4 l4 y4 z4 st4 hQ4
      subst l4 y4 z4
      obtain ⟨rfl, Nq4, e4⟩ := hQ4
      have N4 := Fr.app N2 Nq4
      refine own_go st4 ?_
      show own_Go p e below s _ _ _ (T4.setTop (mkF m 53 #[iv p1, iv p2, iv p3, iv (p1 &&& (2147483647 : Int32)), iv (p2 &&& (2147483647 : Int32)), iv (own_max (p1 &&& (2147483647 : Int32)) (p2 &&& (2147483647 : Int32))), iv (0 : Int32)] [(.int (0 : Int32))]))
      refine own_go (fun zt zk => (XS.iload X4.here hx rfl (hb hby at_53) rfl (XS.icmpNo X4.here hx rfl (hb hby at_55) rfl (teq (rfl : (0 : Int32) = (0 : Int32))).2 (XS.iconst X4.here hx rfl (hb hby at_58) (XS.goto X4.here hx rfl (pc0 := 59) (pc' := 63) rfl (hb hby at_59) (by decide) (by decide) zk))))) ?_
      show own_Go p e below s _ _ _ (T4.setTop (mkF m 63 #[iv p1, iv p2, iv p3, iv (p1 &&& (2147483647 : Int32)), iv (p2 &&& (2147483647 : Int32)), iv (own_max (p1 &&& (2147483647 : Int32)) (p2 &&& (2147483647 : Int32))), iv (0 : Int32)] [(.int (1 : Int32))]))
      exact own_fin X4 Bd.notSynchronized (fun h => by rw [Bd.returns] at h; cases h) (fun fs hr => retN X4 hx (t := .boolean) Bd.returns (by simp) (hb hby at_63) hr) (by rw [e4]; exact ⟨rfl, N4⟩) (by decide) (by decide)
  · refine own_go (fun zt zk => (XS.ifNo X2.here hx rfl (hb hby at_30) rfl ((if0 _ _).trans (feq (hf : ¬ ((p3 &&& (1 : Int32)) = (0 : Int32)))).1) (XS.iload X2.here hx rfl (hb hby at_33) rfl (XS.istore X2.here hx rfl (hb hby at_35) rfl (l' := #[iv p1, iv p2, iv p3, iv (p1 &&& (2147483647 : Int32)), iv (p2 &&& (2147483647 : Int32)), iv (own_max (p1 &&& (2147483647 : Int32)) (p2 &&& (2147483647 : Int32))), iv (own_max (p1 &&& (2147483647 : Int32)) (p2 &&& (2147483647 : Int32)))]) rfl (XS.iloadN X2.here hx rfl (hb hby at_37) rfl (XS.iconst X2.here hx rfl (hb hby at_38) (XS.iand X2.here hx rfl (hb hby at_39) rfl zk))))))) ?_
    show own_Go p e below s _ _ _ (T2.setTop (mkF m 40 #[iv p1, iv p2, iv p3, iv (p1 &&& (2147483647 : Int32)), iv (p2 &&& (2147483647 : Int32)), iv (own_max (p1 &&& (2147483647 : Int32)) (p2 &&& (2147483647 : Int32))), iv (own_max (p1 &&& (2147483647 : Int32)) (p2 &&& (2147483647 : Int32)))] [(.int (p3 &&& (2 : Int32)))]))
    by_cases hg : (p3 &&& (2 : Int32)) = (0 : Int32)
    · refine own_go (fun zt zk => (XS.ifYes X2.here hx rfl (pc0 := 40) (pc' := 46) rfl (hb hby at_40) rfl ((if0 _ _).trans (teq (hg : (p3 &&& (2 : Int32)) = (0 : Int32))).1) (by decide) (by decide) (XS.iload X2.here hx rfl (hb hby at_46) rfl (XS.iload X2.here hx rfl (hb hby at_48) rfl zk)))) ?_
      show own_Go p e below s _ _ _ (T2.setTop (mkF m 50 #[iv p1, iv p2, iv p3, iv (p1 &&& (2147483647 : Int32)), iv (p2 &&& (2147483647 : Int32)), iv (own_max (p1 &&& (2147483647 : Int32)) (p2 &&& (2147483647 : Int32))), iv (own_max (p1 &&& (2147483647 : Int32)) (p2 &&& (2147483647 : Int32)))] [(.int (own_max (p1 &&& (2147483647 : Int32)) (p2 &&& (2147483647 : Int32)))), (.int (own_max (p1 &&& (2147483647 : Int32)) (p2 &&& (2147483647 : Int32))))]))
      obtain ⟨_, _, ⟨T5, L5, k5, n5⟩, -, X5, ⟨Lc5, hQ5, l5, y5, z5⟩, st5⟩ := Jvm.LawKit.callS X2 hx (y := (⟨"com/example/mortise/mortise/store/Commit", "count", "(II)I"⟩ : MethodName)) hown (mvT hZ (hw _ (List.mem_of_getElem? (i := 8) rfl))) (mvT hZ (hw _ (List.mem_of_getElem? (i := 9) rfl))) (mvT hZ (hw _ (List.mem_of_getElem? (i := 10) rfl))) (mvT hZ (hw _ (List.mem_of_getElem? (i := 11) rfl))) (by decide) (backOf (W := 0) (own_rcnt l Z a0 hw [] (own_max (p1 &&& (2147483647 : Int32)) (p2 &&& (2147483647 : Int32))) (own_max (p1 &&& (2147483647 : Int32)) (p2 &&& (2147483647 : Int32)))  h0 n0 Z0 (own_max_nn (own_nn p1) (own_nn p2)) (own_irr _)) hZ (hw _ (List.mem_of_getElem? (i := 11) rfl)) (hw _ (List.mem_of_getElem? (i := 10) rfl)) (by decide) (by decide)) (g := (mkF m 50 #[iv p1, iv p2, iv p3, iv (p1 &&& (2147483647 : Int32)), iv (p2 &&& (2147483647 : Int32)), iv (own_max (p1 &&& (2147483647 : Int32)) (p2 &&& (2147483647 : Int32))), iv (own_max (p1 &&& (2147483647 : Int32)) (p2 &&& (2147483647 : Int32)))] [(.int (own_max (p1 &&& (2147483647 : Int32)) (p2 &&& (2147483647 : Int32)))), (.int (own_max (p1 &&& (2147483647 : Int32)) (p2 &&& (2147483647 : Int32))))])) rfl (by rw [hml]; rfl) (argsL := [(.int (own_max (p1 &&& (2147483647 : Int32)) (p2 &&& (2147483647 : Int32)))), (.int (own_max (p1 &&& (2147483647 : Int32)) (p2 &&& (2147483647 : Int32))))]) (rest := []) (lenOf own_pd__II_I rfl) rfl (by show 2 * 0 + _ ≤ _; exact Nat.le_of_eq rfl) (hb hby at_50) (fun _ _ => ⟨rfl, e2, (by decide : 0 + 0 ≤ _), (by decide : 0 + 0 ≤ _)⟩)
      dsimp only [Pt.U, Pt.locs, Pt.cells, Pt.slots] at X5 l5 y5 z5 st5 hQ5
      subst l5 y5 z5
      obtain ⟨rfl, Nq5, e5⟩ := hQ5
      have N5 := Fr.app N2 Nq5
      refine own_go st5 ?_
      show own_Go p e below s _ _ _ (T5.setTop (mkF m 53 #[iv p1, iv p2, iv p3, iv (p1 &&& (2147483647 : Int32)), iv (p2 &&& (2147483647 : Int32)), iv (own_max (p1 &&& (2147483647 : Int32)) (p2 &&& (2147483647 : Int32))), iv (own_max (p1 &&& (2147483647 : Int32)) (p2 &&& (2147483647 : Int32)))] [(.int (own_max (p1 &&& (2147483647 : Int32)) (p2 &&& (2147483647 : Int32))))]))
      refine own_go (fun zt zk => (XS.iload X5.here hx rfl (hb hby at_53) rfl (XS.icmpNo X5.here hx rfl (hb hby at_55) rfl (teq (rfl : (own_max (p1 &&& (2147483647 : Int32)) (p2 &&& (2147483647 : Int32))) = (own_max (p1 &&& (2147483647 : Int32)) (p2 &&& (2147483647 : Int32))))).2 (XS.iconst X5.here hx rfl (hb hby at_58) (XS.goto X5.here hx rfl (pc0 := 59) (pc' := 63) rfl (hb hby at_59) (by decide) (by decide) zk))))) ?_
      show own_Go p e below s _ _ _ (T5.setTop (mkF m 63 #[iv p1, iv p2, iv p3, iv (p1 &&& (2147483647 : Int32)), iv (p2 &&& (2147483647 : Int32)), iv (own_max (p1 &&& (2147483647 : Int32)) (p2 &&& (2147483647 : Int32))), iv (own_max (p1 &&& (2147483647 : Int32)) (p2 &&& (2147483647 : Int32)))] [(.int (1 : Int32))]))
      exact own_fin X5 Bd.notSynchronized (fun h => by rw [Bd.returns] at h; cases h) (fun fs hr => retN X5 hx (t := .boolean) Bd.returns (by simp) (hb hby at_63) hr) (by rw [e5]; exact ⟨rfl, N5⟩) (by decide) (by decide)
    · refine own_go (fun zt zk => (XS.ifNo X2.here hx rfl (hb hby at_40) rfl ((if0 _ _).trans (feq (hg : ¬ ((p3 &&& (2 : Int32)) = (0 : Int32)))).1) (XS.iconst X2.here hx rfl (hb hby at_43) (XS.istore X2.here hx rfl (hb hby at_44) rfl (l' := #[iv p1, iv p2, iv p3, iv (p1 &&& (2147483647 : Int32)), iv (p2 &&& (2147483647 : Int32)), iv (own_max (p1 &&& (2147483647 : Int32)) (p2 &&& (2147483647 : Int32))), iv (0 : Int32)]) rfl (XS.iload X2.here hx rfl (hb hby at_46) rfl (XS.iload X2.here hx rfl (hb hby at_48) rfl zk)))))) ?_
      show own_Go p e below s _ _ _ (T2.setTop (mkF m 50 #[iv p1, iv p2, iv p3, iv (p1 &&& (2147483647 : Int32)), iv (p2 &&& (2147483647 : Int32)), iv (own_max (p1 &&& (2147483647 : Int32)) (p2 &&& (2147483647 : Int32))), iv (0 : Int32)] [(.int (own_max (p1 &&& (2147483647 : Int32)) (p2 &&& (2147483647 : Int32)))), (.int (0 : Int32))]))
      obtain ⟨_, _, ⟨T6, L6, k6, n6⟩, -, X6, ⟨Lc6, hQ6, l6, y6, z6⟩, st6⟩ := Jvm.LawKit.callS X2 hx (y := (⟨"com/example/mortise/mortise/store/Commit", "count", "(II)I"⟩ : MethodName)) hown (mvT hZ (hw _ (List.mem_of_getElem? (i := 8) rfl))) (mvT hZ (hw _ (List.mem_of_getElem? (i := 9) rfl))) (mvT hZ (hw _ (List.mem_of_getElem? (i := 10) rfl))) (mvT hZ (hw _ (List.mem_of_getElem? (i := 11) rfl))) (by decide) (backOf (W := 0) (own_rcnt l Z a0 hw [] (0 : Int32) (own_max (p1 &&& (2147483647 : Int32)) (p2 &&& (2147483647 : Int32)))  h0 n0 Z0 (own_irr _) (own_max_nn (own_nn p1) (own_nn p2))) hZ (hw _ (List.mem_of_getElem? (i := 11) rfl)) (hw _ (List.mem_of_getElem? (i := 10) rfl)) (by decide) (by decide)) (g := (mkF m 50 #[iv p1, iv p2, iv p3, iv (p1 &&& (2147483647 : Int32)), iv (p2 &&& (2147483647 : Int32)), iv (own_max (p1 &&& (2147483647 : Int32)) (p2 &&& (2147483647 : Int32))), iv (0 : Int32)] [(.int (own_max (p1 &&& (2147483647 : Int32)) (p2 &&& (2147483647 : Int32)))), (.int (0 : Int32))])) rfl (by rw [hml]; rfl) (argsL := [(.int (0 : Int32)), (.int (own_max (p1 &&& (2147483647 : Int32)) (p2 &&& (2147483647 : Int32))))]) (rest := []) (lenOf own_pd__II_I rfl) rfl (by show 2 * 0 + _ ≤ _; exact Nat.le_of_eq rfl) (hb hby at_50) (fun _ _ => ⟨rfl, e2, (by decide : 0 + 0 ≤ _), (by decide : 0 + 0 ≤ _)⟩)
      dsimp only [Pt.U, Pt.locs, Pt.cells, Pt.slots] at X6 l6 y6 z6 st6 hQ6
      subst l6 y6 z6
      obtain ⟨rfl, Nq6, e6⟩ := hQ6
      have N6 := Fr.app N2 Nq6
      refine own_go st6 ?_
      show own_Go p e below s _ _ _ (T6.setTop (mkF m 53 #[iv p1, iv p2, iv p3, iv (p1 &&& (2147483647 : Int32)), iv (p2 &&& (2147483647 : Int32)), iv (own_max (p1 &&& (2147483647 : Int32)) (p2 &&& (2147483647 : Int32))), iv (0 : Int32)] [(.int (0 : Int32))]))
      refine own_go (fun zt zk => (XS.iload X6.here hx rfl (hb hby at_53) rfl (XS.icmpNo X6.here hx rfl (hb hby at_55) rfl (teq (rfl : (0 : Int32) = (0 : Int32))).2 (XS.iconst X6.here hx rfl (hb hby at_58) (XS.goto X6.here hx rfl (pc0 := 59) (pc' := 63) rfl (hb hby at_59) (by decide) (by decide) zk))))) ?_
      show own_Go p e below s _ _ _ (T6.setTop (mkF m 63 #[iv p1, iv p2, iv p3, iv (p1 &&& (2147483647 : Int32)), iv (p2 &&& (2147483647 : Int32)), iv (own_max (p1 &&& (2147483647 : Int32)) (p2 &&& (2147483647 : Int32))), iv (0 : Int32)] [(.int (1 : Int32))]))
      exact own_fin X6 Bd.notSynchronized (fun h => by rw [Bd.returns] at h; cases h) (fun fs hr => retN X6 hx (t := .boolean) Bd.returns (by simp) (hb hby at_63) hr) (by rw [e6]; exact ⟨rfl, N6⟩) (by decide) (by decide)
set_option maxRecDepth 65536 in
set_option maxHeartbeats 40000000 in
theorem comes_1 {Post : Tables → Env → Array Value → State → Outcome → State → Prop} (hpost : ∀ tb e args s v u, (limb_1_1.after args s (.returned v) u = true ∧ limb_1_2.after args s (.returned v) u = true ∧ True) → FrameEnd s (.returned v) u (Jvm.fieldLocs frame_1_writes args s ++ Jvm.arrayLocs frame_1_arrays args s ++ Jvm.staticLocs frame_1_statics s) 0 0 → Post tb e args s (.returned v) u) :
    ArmFor flags0 classFile x code maxLocals ret World_1 tables_1 room_1 Calls_1 rest_1 Pre_1 Post := by
  intro l hfl _ _ p e ha hc hk s m args below hf hA hF happ hP
  obtain ⟨hcalls, hrest, hpre⟩ := hP
  obtain ⟨-, -, -, hnamed, -, -, -, hat⟩ := (Spec.applies_iff hf).mp happ
  obtain ⟨hg, hn⟩ := and_e (Cond.before_iff.mp (show (Jvm.Cond.and given_1 narrow_1).before args s = true from hpre))
  obtain ⟨g0, r0⟩ := and_e hg
  obtain ⟨g1, r1⟩ := and_e r0
  obtain ⟨g2, r2⟩ := and_e r1
  have g3 := r2
  obtain ⟨w0, w1, w2, rfl⟩ : ∃ w0 w1 w2 : Value, args = #[w0, w1, w2] := by
    have hs : args.size = 3 := by simpa [Cond.value, given_1] using g0
    obtain ⟨L⟩ := args
    match L, hs with
    | [w0, w1, w2], _ => exact ⟨w0, w1, w2, rfl⟩
  have hw := fun d (hd : d ∈ tables_1) => atoms_spec (ws := Jvm.Cond.code x code maxLocals ret :: tables_1) hat d (List.mem_cons_of_mem _ hd)
  have hfit : Fit s := fun {y c} hc i hi => by
    obtain ⟨ha, rfl⟩ := Array.getElem?_eq_some_iff.mp hc
    have q := List.all_eq_true.mp ((Array.all_eq_true_iff_forall_mem.mp hF) _ (Array.getElem_mem ha)) i (List.mem_range.mpr hi)
    simpa [Array.getElem?_eq_getElem hi] using q
  obtain ⟨i0, ei0⟩ := is_v g1
  obtain rfl : w0 = (.int i0) := Option.some.inj ei0
  obtain ⟨i1, ei1⟩ := is_v g2
  obtain rfl : w1 = (.int i1) := Option.some.inj ei1
  obtain ⟨i2, ei2⟩ := is_v g3
  obtain rfl : w2 = (.int i2) := Option.some.inj ei2
  obtain ⟨n, o, h1, h2, h3, _, L, rfl, ⟨rfl, N⟩, hq⟩ := own_law l s _ hw tables_1 i0 i1 i2  s.heap s.heap.size (Nat.le_refl _)  p e ha hc hk s m _ below hf ((Spec.applies_iff_loose hf).mp happ).1 ⟨rfl, State.Warmed39.refl s, rfl⟩ trivial
  refine ⟨n, _, h1, h2, h3, hpost _ _ _ _ _ _ ⟨Cond.after_iff.mpr rfl, Cond.after_iff.mpr (eq_i res_at (Term.int_eval (1)) rfl), trivial⟩ ⟨hq.1, hq.2.1, (hq.2.2.sift fun y hy => Or.inr (N y hy)).mono (by decide) (by decide)⟩⟩
theorem main_1_1 : Claimed_1_1 := comes_1 fun _ _ _ _ _ _ h hF => ⟨h.1, hF⟩
theorem main_1_2 : Claimed_1_2 := comes_1 fun _ _ _ _ _ _ h hF => ⟨h.2.1, hF⟩
end Jvm.Pilot.@@N@@
namespace Jvm.Pilot.@@N@@
open Jvm Jvm.ClassFile Sem Op Lib Jvm.Free Jvm.Stand Jvm.Pilot.@@N@@.Jvm.D
/-! MADE BY PROGRAM (witnessworld.py) out of the Statement's table words and the real class files: 9 classes; the members and pool entries that the words name. The judged class is class 1, her method 1. -/
namespace start1
open Jvm.ClassFile
def u (s : String) : CpInfo := .utf8 (stringToUtf16 s)
/-- a pool by its gaps: so many unusable entries, then the entry; so many at the end -/
def gap : Nat → List CpInfo → List CpInfo
  | 0, r => r
  | n + 1, r => .unusable :: gap n r
def poolList (es : List (Nat × CpInfo)) (last : Nat) : List CpInfo := es.foldr (fun e r => gap e.1 (e.2 :: r)) (gap last [])
def pool (es : List (Nat × CpInfo)) (last : Nat) : Array CpInfo := ⟨poolList es last⟩
def fileOf (pool : Array CpInfo) (this : Nat) (attrs : Array Attribute := #[]) (ms : Array MethodInfo := #[]) (fl : Nat := 33) (sup : Nat := 0) (ifs : Array Nat := #[]) (fds : Array FieldInfo := #[]) : ClassFile where
  minorVersion := 0
  majorVersion := 65
  constantPool := pool
  accessFlags := fl
  thisClass := this
  superClass := sup
  interfaces := ifs
  fields := fds
  methods := ms
  attributes := attrs
def plain (name : String) (sup : Option ClassId) : Class where
  name := name
  kind := .ordinary
  loader := none
  accessFlags := 33
  super := sup
  interfaces := #[]
  cf := none
  fields := #[]
  methods := #[]
  instanceTypes := #[]
  staticTypes := #[]
  resolved := #[]
  callSites := []
  init := .initialized
  statics := none
  mirror := none

def pool0 : Array CpInfo := pool [(5, u "<init>"), (0, u "()V"), (1, .class_ 10), (1, u "java/lang/Object")] 113

def k0m0 : Method := { name := "<init>", desc := "()V", sig := { parameters := [], returnType := none }, accessFlags := 1, code := none }
/-- java/lang/Object -/
def k0 : Class := { plain "java/lang/Object" none with
  accessFlags := 33
  interfaces := #[]
  cf := some (fileOf pool0 8 #[] #[{ accessFlags := 1, nameIndex := 5, descriptorIndex := 6, attributes := #[] }] 33 0 #[] #[])
  fields := #[]
  methods := #[k0m0]
  instanceTypes := #[]
  staticTypes := #[]
  resolved := Array.replicate 124 none
  statics := none }

def pool1 : Array CpInfo := pool [(2, .class_ 4), (1, u "java/lang/Object"), (0, u "<init>"), (0, u "()V"), (0, .integer 2147483647), (0, .methodref 9 10), (0, .class_ 11), (0, .nameAndType 12 13), (0, u "java/lang/Math"), (0, u "max"), (0, u "(II)I"), (0, .methodref 9 15), (0, .nameAndType 16 13), (0, u "min"), (0, .methodref 18 19), (0, .class_ 20), (0, .nameAndType 21 13), (0, u "com/example/mortise/mortise/store/Commit"), (0, u "count"), (0, .class_ 23), (0, u "com/example/mortise/mortise/store/CommitCountPinLaw"), (2, u "law"), (0, u "(III)Z")] 3

def k1m0 : Method := { name := "<init>", desc := "()V", sig := { parameters := [], returnType := none }, accessFlags := 2, code := none }
def k1c1 : Code := { maxStack := 2, maxLocals := 7, code := code, exceptionTable := #[], attributes := #[] }
def k1m1 : Method := { name := "law", desc := "(III)Z", sig := { parameters := [.int, .int, .int], returnType := some .boolean }, accessFlags := 9, code := some k1c1 }
/-- com/example/mortise/mortise/store/CommitCountPinLaw -/
def k1 : Class := { plain "com/example/mortise/mortise/store/CommitCountPinLaw" (some 0) with
  accessFlags := 49
  interfaces := #[]
  cf := some (fileOf pool1 22 #[] #[{ accessFlags := 2, nameIndex := 5, descriptorIndex := 6, attributes := #[] }, { accessFlags := 9, nameIndex := 26, descriptorIndex := 27, attributes := #[] }] 49 2 #[] #[])
  fields := #[]
  methods := #[k1m0, k1m1]
  instanceTypes := #[]
  staticTypes := #[]
  resolved := Array.replicate 31 none
  statics := none }

def pool2 : Array CpInfo := pool [(1, .class_ 2), (0, u "java/lang/Math"), (1, .class_ 6), (1, u "java/lang/Object"), (0, u "<init>"), (0, u "()V"), (89, .class_ 100), (1, u "java/lang/Math$RandomNumberGeneratorHolder"), (71, u "negativeZeroFloatBits"), (0, u "J"), (2, u "negativeZeroDoubleBits"), (21, u "max"), (2, u "min"), (43, u "$assertionsDisabled"), (0, u "Z"), (88, u "(II)I"), (2, u "twoToTheDoubleScaleDown"), (0, u "D"), (4, u "twoToTheDoubleScaleUp"), (9, u "E"), (3, u "PI"), (2, u "TAU"), (2, u "DEGREES_TO_RADIANS"), (0, u "RADIANS_TO_DEGREES")] 94

def k2m0 : Method := { name := "<init>", desc := "()V", sig := { parameters := [], returnType := none }, accessFlags := 2, code := none }
def k2c1 : Code := { maxStack := 2, maxLocals := 2, code := jdk_29_method_65_code, exceptionTable := #[], attributes := #[] }
def k2m1 : Method := { name := "max", desc := "(II)I", sig := { parameters := [.int, .int], returnType := some .int }, accessFlags := 9, code := some k2c1 }
def k2c2 : Code := { maxStack := 2, maxLocals := 2, code := jdk_29_method_69_code, exceptionTable := #[], attributes := #[] }
def k2m2 : Method := { name := "min", desc := "(II)I", sig := { parameters := [.int, .int], returnType := some .int }, accessFlags := 9, code := some k2c2 }
/-- java/lang/Math -/
def k2 : Class := { plain "java/lang/Math" (some 0) with
  accessFlags := 49
  interfaces := #[]
  cf := some (fileOf pool2 1 #[.nestMembers #[98]] #[{ accessFlags := 2, nameIndex := 7, descriptorIndex := 8, attributes := #[] }, { accessFlags := 9, nameIndex := 198, descriptorIndex := 335, attributes := #[] }, { accessFlags := 9, nameIndex := 201, descriptorIndex := 335, attributes := #[] }] 49 4 #[] #[{ accessFlags := 25, nameIndex := 354, descriptorIndex := 339, attributes := #[] }, { accessFlags := 25, nameIndex := 358, descriptorIndex := 339, attributes := #[] }, { accessFlags := 25, nameIndex := 361, descriptorIndex := 339, attributes := #[] }, { accessFlags := 26, nameIndex := 364, descriptorIndex := 339, attributes := #[] }, { accessFlags := 26, nameIndex := 365, descriptorIndex := 339, attributes := #[] }, { accessFlags := 26, nameIndex := 172, descriptorIndex := 173, attributes := #[] }, { accessFlags := 26, nameIndex := 176, descriptorIndex := 173, attributes := #[] }, { accessFlags := 8, nameIndex := 344, descriptorIndex := 339, attributes := #[] }, { accessFlags := 8, nameIndex := 338, descriptorIndex := 339, attributes := #[] }, { accessFlags := 4120, nameIndex := 245, descriptorIndex := 246, attributes := #[] }])
  fields := #[{ name := "E", type := .double, accessFlags := 25, slot := 0, constantValue := 0 }, { name := "PI", type := .double, accessFlags := 25, slot := 1, constantValue := 0 }, { name := "TAU", type := .double, accessFlags := 25, slot := 2, constantValue := 0 }, { name := "DEGREES_TO_RADIANS", type := .double, accessFlags := 26, slot := 3, constantValue := 0 }, { name := "RADIANS_TO_DEGREES", type := .double, accessFlags := 26, slot := 4, constantValue := 0 }, { name := "negativeZeroFloatBits", type := .long, accessFlags := 26, slot := 5, constantValue := 0 }, { name := "negativeZeroDoubleBits", type := .long, accessFlags := 26, slot := 6, constantValue := 0 }, { name := "twoToTheDoubleScaleUp", type := .double, accessFlags := 8, slot := 7, constantValue := 0 }, { name := "twoToTheDoubleScaleDown", type := .double, accessFlags := 8, slot := 8, constantValue := 0 }, { name := "$assertionsDisabled", type := .boolean, accessFlags := 4120, slot := 9, constantValue := 0 }]
  methods := #[k2m0, k2m1, k2m2]
  instanceTypes := #[]
  staticTypes := #[.double, .double, .double, .double, .double, .long, .long, .double, .double, .boolean]
  resolved := Array.replicate 460 none
  statics := none }

def pool3 : Array CpInfo := pool [(2, .class_ 4), (1, u "java/lang/Object"), (0, u "<init>"), (0, u "()V"), (0, .class_ 8), (0, u "java/lang/Record")] 13

def k3m0 : Method := { name := "<init>", desc := "()V", sig := { parameters := [], returnType := none }, accessFlags := 4, code := none }
/-- java/lang/Record -/
def k3 : Class := { plain "java/lang/Record" (some 0) with
  accessFlags := 1057
  interfaces := #[]
  cf := some (fileOf pool3 7 #[] #[{ accessFlags := 4, nameIndex := 5, descriptorIndex := 6, attributes := #[] }] 1057 2 #[] #[])
  fields := #[]
  methods := #[k3m0]
  instanceTypes := #[]
  staticTypes := #[]
  resolved := Array.replicate 22 none
  statics := none }

def pool4 : Array CpInfo := pool [(4, .class_ 6), (1, u "java/lang/Record"), (3, .class_ 12), (1, u "com/example/mortise/mortise/store/Commit"), (0, u "time"), (0, u "Ljava/time/Instant;"), (2, u "changes"), (0, u "Ljava/util/List;"), (124, u "count"), (0, u "(II)I"), (113, u "TEXT"), (0, u "B"), (2, u "ELEMENT"), (1, u "MIN_ATTRIBUTE_SIZE"), (0, u "I"), (1, u "MIN_ITEM_SIZE")] 55

def k4c0 : Code := { maxStack := 4, maxLocals := 2, code := prog_47_method_11_code, exceptionTable := #[], attributes := #[] }
def k4m0 : Method := { name := "count", desc := "(II)I", sig := { parameters := [.int, .int], returnType := some .int }, accessFlags := 8, code := some k4c0 }
/-- com/example/mortise/mortise/store/Commit -/
def k4 : Class := { plain "com/example/mortise/mortise/store/Commit" (some 3) with
  accessFlags := 48
  interfaces := #[]
  cf := some (fileOf pool4 10 #[] #[{ accessFlags := 8, nameIndex := 143, descriptorIndex := 144, attributes := #[] }] 48 4 #[] #[{ accessFlags := 18, nameIndex := 13, descriptorIndex := 14, attributes := #[] }, { accessFlags := 18, nameIndex := 17, descriptorIndex := 18, attributes := #[] }, { accessFlags := 26, nameIndex := 258, descriptorIndex := 259, attributes := #[] }, { accessFlags := 26, nameIndex := 262, descriptorIndex := 259, attributes := #[] }, { accessFlags := 26, nameIndex := 264, descriptorIndex := 265, attributes := #[] }, { accessFlags := 26, nameIndex := 267, descriptorIndex := 265, attributes := #[] }])
  fields := #[{ name := "time", type := (.object "java/time/Instant"), accessFlags := 18, slot := 0, constantValue := 0 }, { name := "changes", type := (.object "java/util/List"), accessFlags := 18, slot := 1, constantValue := 0 }, { name := "TEXT", type := .byte, accessFlags := 26, slot := 0, constantValue := 0 }, { name := "ELEMENT", type := .byte, accessFlags := 26, slot := 1, constantValue := 0 }, { name := "MIN_ATTRIBUTE_SIZE", type := .int, accessFlags := 26, slot := 2, constantValue := 0 }, { name := "MIN_ITEM_SIZE", type := .int, accessFlags := 26, slot := 3, constantValue := 0 }]
  methods := #[k4m0]
  instanceTypes := #[(.object "java/time/Instant"), (.object "java/util/List")]
  staticTypes := #[.byte, .byte, .int, .int]
  resolved := Array.replicate 323 none
  statics := none }

def pool5 : Array CpInfo := pool [(1, u "java/lang/Cloneable"), (0, .class_ 1), (0, u "java/lang/Object"), (0, .class_ 3)] 3

/-- java/lang/Cloneable -/
def k5 : Class := { plain "java/lang/Cloneable" (some 0) with
  accessFlags := 1537
  interfaces := #[]
  cf := some (fileOf pool5 2 #[] #[] 1537 4 #[] #[])
  fields := #[]
  methods := #[]
  instanceTypes := #[]
  staticTypes := #[]
  resolved := Array.replicate 8 none
  statics := none }

def pool6 : Array CpInfo := pool [(1, u "java/io/Serializable"), (0, .class_ 1), (0, u "java/lang/Object"), (0, .class_ 3)] 3

/-- java/io/Serializable -/
def k6 : Class := { plain "java/io/Serializable" (some 0) with
  accessFlags := 1537
  interfaces := #[]
  cf := some (fileOf pool6 2 #[] #[] 1537 4 #[] #[])
  fields := #[]
  methods := #[]
  instanceTypes := #[]
  staticTypes := #[]
  resolved := Array.replicate 8 none
  statics := none }

/-- the primitive byte -/
def k7 : Class := { plain "byte" none with kind := .primitive 'B', accessFlags := 0x411 }
/-- [B -/
def k8 : Class := { plain "[B" (some 0) with kind := .array 7 .byte, interfaces := #[5, 6], accessFlags := 1041 }

def heap : Heap := #[]
def classes : Array Class := #[k0, k1, k2, k3, k4, k5, k6, k7, k8]
def interned : List (Array UInt16 × Addr) := []
def slotsUsed : Nat := 0
def theMethod : MethodId := ⟨1, 1⟩
def args0 : Array Value := #[.int 5, .int 3, .int 1]
def aboutOver (below : List Frame) : State where
  vm := { classes := classes, interned := interned.toArray }
  heap := heap
  slotsUsed := slotsUsed
  threads := #[{ frames := .invoking theMethod args0 :: below }]
def below0 : List Frame := [.native { method := ⟨0, 0⟩, args := #[] }]
def about1 : State := aboutOver below0
def p0 : Program := .bare "" "" ""
def e0 : Env := launch0.env 0 0 0
theorem w_frames : about1.frames = Frame.invoking theMethod args0 :: below0 := rfl
set_option maxRecDepth 65536 in
theorem w_args : argsFit about1.vm theMethod args0 = true := by decide +kernel
set_option maxRecDepth 65536 in
theorem w_heap : heapFits about1 = true := by decide +kernel
set_option maxRecDepth 65536 in
theorem w_runnable : about1.curStatus? = some .runnable := by decide +kernel
set_option maxRecDepth 65536 in
theorem w_alone : about1.alone = true := by decide +kernel
set_option maxRecDepth 65536 in
theorem w_named : about1.methodNamed? x = some theMethod := by decide +kernel
set_option maxRecDepth 65536 in
theorem w_hears : about1.hears theMethod below0 = true := by decide +kernel
set_option maxRecDepth 65536 in
theorem w_ripe : about1.ripe theMethod args0 below0 = true := by decide +kernel
theorem w_running : about1.status = .running := rfl
set_option maxRecDepth 65536 in
theorem w_room : about1.hasRoom e0.platform room_1 = true :=
  launch0.hasRoom_least _ room_1 (by decide +kernel) (by decide +kernel) (by decide +kernel) (by decide +kernel) (by decide +kernel) (by decide +kernel)
theorem allAtoms_all (ts : List Jvm.Cond) (a : Array Jvm.Value) (st : Jvm.State) : (allAtoms ts).before a st = ts.all (fun c => c.before a st) := by
  induction ts with
  | nil => rfl
  | cons c t ih =>
    show (Jvm.Cond.and c (allAtoms t)).before a st = _
    rw [Jvm.Cond.before_and, ih, List.all_cons]
def words1 : List Jvm.Cond := Jvm.Cond.code x code maxLocals ret :: tables_1
/-- a 'code' word, met by the world's own term for the bytes: nothing is compared byte by byte -/
theorem code_word {y : MethodName} {bytes : ByteArray} {mx : Nat} {rt : Option FieldType} {a : Array Value} {s : State} {m : MethodId} {meth : Method} {c : Code} (h1 : s.methodNamed? y = some m) (h2 : s.vm.method? m = some meth) (h3 : meth.code = some c) (h4 : c.code = bytes)
    (h5 : (c.maxLocals == mx && c.exceptionTable.isEmpty && decide (c.maxStack ≤ mostOperands) && decide (meth.sig.returnType = rt) && !meth.locks && decide (parseMethodDescriptor y.desc = some meth.sig)) = true) : (Jvm.Cond.code y bytes mx rt).before a s = true := by
  simp only [Bool.and_eq_true, beq_iff_eq, Bool.not_eq_true', decide_eq_true_eq] at h5
  obtain ⟨⟨⟨⟨⟨g1, g2⟩, g3⟩, g4⟩, g5⟩, g6⟩ := h5
  simp [Cond.before, Cond.holds, Cond.value, h1, h2, h3, h4, g1, g2, g3, g4, g5, g6]
def isCode : Jvm.Cond → Bool
  | .code _ _ _ _ => true
  | _ => false
theorem all_split {L : List Jvm.Cond} {P : Jvm.Cond → Bool} (h1 : L.all (fun c => isCode c || P c) = true) (h2 : ∀ c ∈ L.filter isCode, P c = true) : L.all P = true := by
  refine List.all_eq_true.mpr fun c hc => ?_
  have h := List.all_eq_true.mp h1 c hc
  rcases Bool.eq_false_or_eq_true (isCode c) with hi | hi
  · exact h2 c (List.mem_filter.mpr ⟨hc, hi⟩)
  · simpa [hi] using h
set_option maxRecDepth 65536 in
theorem w_c0 : (Jvm.Cond.code x code maxLocals ret).before args0 about1 = true := code_word (m := ⟨1, 1⟩) (meth := k1m1) (c := k1c1) (by decide +kernel) rfl rfl rfl (by decide +kernel)
set_option maxRecDepth 65536 in
theorem w_c1 : (Jvm.Cond.code ({ cls := "java/lang/Math", name := "max", desc := "(II)I" } : Jvm.MethodName) jdk_29_method_65_code (2 : Nat) (Option.some Jvm.ClassFile.FieldType.int)).before args0 about1 = true := code_word (m := ⟨2, 1⟩) (meth := k2m1) (c := k2c1) (by decide +kernel) rfl rfl rfl (by decide +kernel)
set_option maxRecDepth 65536 in
theorem w_c2 : (Jvm.Cond.code ({ cls := "java/lang/Math", name := "min", desc := "(II)I" } : Jvm.MethodName) jdk_29_method_69_code (2 : Nat) (Option.some Jvm.ClassFile.FieldType.int)).before args0 about1 = true := code_word (m := ⟨2, 2⟩) (meth := k2m2) (c := k2c2) (by decide +kernel) rfl rfl rfl (by decide +kernel)
set_option maxRecDepth 65536 in
theorem w_c3 : (Jvm.Cond.code ({ cls := "com/example/mortise/mortise/store/Commit", name := "count", desc := "(II)I" } : Jvm.MethodName) prog_47_method_11_code (2 : Nat) (Option.some Jvm.ClassFile.FieldType.int)).before args0 about1 = true := code_word (m := ⟨4, 0⟩) (meth := k4m0) (c := k4c0) (by decide +kernel) rfl rfl rfl (by decide +kernel)
def codes1 : List Jvm.Cond := [Jvm.Cond.code x code maxLocals ret, Jvm.Cond.code ({ cls := "java/lang/Math", name := "max", desc := "(II)I" } : Jvm.MethodName) jdk_29_method_65_code (2 : Nat) (Option.some Jvm.ClassFile.FieldType.int), Jvm.Cond.code ({ cls := "java/lang/Math", name := "min", desc := "(II)I" } : Jvm.MethodName) jdk_29_method_69_code (2 : Nat) (Option.some Jvm.ClassFile.FieldType.int), Jvm.Cond.code ({ cls := "com/example/mortise/mortise/store/Commit", name := "count", desc := "(II)I" } : Jvm.MethodName) prog_47_method_11_code (2 : Nat) (Option.some Jvm.ClassFile.FieldType.int)]
set_option maxRecDepth 65536 in
theorem codes_eq : words1.filter isCode = codes1 := rfl
theorem w_codes : ∀ c ∈ words1.filter isCode, c.before args0 about1 = true := by
  rw [codes_eq]
  intro c hc
  simp only [codes1, List.mem_cons, List.not_mem_nil, or_false] at hc
  rcases hc with rfl | rfl | rfl | rfl
  · exact w_c0
  · exact w_c1
  · exact w_c2
  · exact w_c3
set_option maxRecDepth 65536 in
theorem w_t1 : words1.all (fun c => isCode c || c.before args0 about1) = true := by decide +kernel
theorem w_tables : (allAtoms (Jvm.Cond.code x code maxLocals ret :: tables_1)).before args0 about1 = true := by
  rw [allAtoms_all]
  show words1.all (fun c => c.before args0 about1) = true
  refine all_split ?_ w_codes
  rw [w_t1]
set_option maxRecDepth 65536 in
theorem w_case : (Jvm.Cond.and given_1 narrow_1).before args0 about1 = true := by decide +kernel
theorem w_applies : (headSpec (Jvm.Cond.code x code maxLocals ret :: tables_1) room_1).applies x e0.platform about1 = true :=
  (Spec.applies_iff w_frames).mpr ⟨w_running, w_runnable, w_alone, w_named, w_hears, w_ripe, w_room, w_tables⟩
theorem atStart : AtStart classFile x code maxLocals ret World_1 tables_1 room_1 Calls_1 rest_1 Pre_1 launch0 p0 e0 about1 theMethod args0 below0 :=
  ⟨lists_1, trivial, launch0.admits_env _ _ _, launch0.least_env, fairChoices_fair.cas, fairChoices_fair.clock, w_frames, w_args, w_heap, w_applies, trivial, trivial, w_case⟩
end start1
theorem witness_1 : WitnessClaimed_1 := ⟨start1.p0, start1.e0, start1.about1, start1.theMethod, start1.args0, start1.below0, start1.atStart⟩
end Jvm.Pilot.@@N@@
