import JvmDerived
import JvmDerived.Pilot.@@N@@Statement
import JvmDerived.Pilot.@@N@@Code
set_option linter.unusedVariables false
set_option linter.unusedSimpArgs false
namespace Jvm.Pilot.@@N@@
open Jvm Jvm.ClassFile Sem Op Lib Jvm.Free Jvm.Stand Jvm.LawKit Jvm.RoadKit Bundle Jvm.Pilot.@@N@@.Jvm.D
theorem own_irr (x : Int32) : ¬ x < x := fun h => absurd (Int32.lt_iff_toInt_lt.mp h) (by omega)
theorem own_nn (x : Int32) : ¬ ((x &&& (2147483647 : Int32)) < (0 : Int32)) := fun h => by
  have h1 := Int32.lt_iff_toInt_lt.mp h
  have h2 := (c_and x 2147483647 (by decide)).1
  have h3 : (0 : Int32).toInt = 0 := rfl
  omega
def own_min (a b : Int32) : Int32 := if b < a then b else a
def own_max (a b : Int32) : Int32 := if a < b then b else a
theorem own_mm (a b : Int32) : ¬ (own_max a b < own_min a b) := fun h => by
  have h := Int32.lt_iff_toInt_lt.mp h
  unfold own_max own_min at h
  split at h <;> split at h <;> (simp only [Int32.lt_iff_toInt_lt] at *; omega)
theorem own_min_nn {a b : Int32} (ha : ¬ a < (0 : Int32)) (hb : ¬ b < (0 : Int32)) : ¬ (own_min a b < (0 : Int32)) := by unfold own_min; split <;> assumption
theorem own_max_nn {a b : Int32} (ha : ¬ a < (0 : Int32)) (hb : ¬ b < (0 : Int32)) : ¬ (own_max a b < (0 : Int32)) := by unfold own_max; split <;> assumption
theorem own_mod {x d k : Int32} {D : Int} (hd : d.toInt = D) (hD : 0 < D) (h : (x &&& (2147483647 : Int32)) % d = k) : 0 ≤ k.toInt ∧ k.toInt < D := by
  have h1 := (c_and x 2147483647 (by decide)).1
  have h2 := (c_irem (x &&& 2147483647) d D hd).1 h1
  rw [h] at h2
  rw [h2]
  exact ⟨Int.emod_nonneg _ (by omega), Int.emod_lt_of_pos _ hD⟩
theorem own_ne {k : Int32} (n : Nat) (hc : (Int32.ofNat n).toInt = (n : Int)) (h : ¬ k = Int32.ofNat n) : k.toInt ≠ (n : Int) := fun q => h (Int32.toInt_inj.mp (q.trans hc.symm))
theorem own_r255 {x c : Int32} (h : (x &&& (255 : Int32)) = c) : ¬ (c < (0 : Int32)) ∧ ¬ ((255 : Int32) < c) := by
  have h1 := c_and x 255 (by decide)
  rw [h] at h1
  have e1 : (255 : Int32).toInt = 255 := rfl
  have e0 : (0 : Int32).toInt = 0 := rfl
  simp only [Int32.lt_iff_toInt_lt]
  omega
theorem own_narc {c : Int32} (h : ¬ (c < (0 : Int32)) ∧ ¬ ((255 : Int32) < c)) : nar .char c = c := by
  have e1 : (255 : Int32).toInt = 255 := rfl
  have e0 : (0 : Int32).toInt = 0 := rfl
  have h1 := h.1
  have h2 := h.2
  simp only [Int32.lt_iff_toInt_lt] at h1 h2
  have h3 := c_i2c c
  apply Int32.toInt_inj.mp
  show c.toUInt32.toUInt16.toUInt32.toInt32.toInt = c.toInt
  omega
theorem own_fitc {c : Int32} (h : ¬ (c < (0 : Int32)) ∧ ¬ ((255 : Int32) < c)) : fits .char (.int c) = true := by
  have q := fits_nar_char c
  rw [own_narc h] at q
  exact q
theorem own_b8 (x : Int32) : x.toInt8.toInt32.toInt8.toInt32 = x.toInt8.toInt32 := Int32.toInt_inj.mp (by have a := c_i2b x; have b := c_i2b x.toInt8.toInt32; omega)
theorem own_shr0 (x : Int32) : x >>> ((0 : Int32) &&& 31) = x := Int32.toInt_inj.mp (by rw [c_ishr x 0 0 (by decide)]; simp)
theorem own_nar255 (x : Int32) : nar .char ((x &&& (255 : Int32)).toUInt32.toUInt16.toUInt32.toInt32) = x &&& (255 : Int32) := by rw [i2c_mask]; exact i2c_mask x
/-- from here the run comes to an end at which Q holds, at most so many cells and slots made -/
def own_Go (p : Program) (e : Env) (below : List Frame) (s : State) (Q : Option Value → Heap → List Loc → Prop) (C S : Nat) (A : State) : Prop :=
  ∃ s₂ o, Steps p.tables e below A s₂ ∧ s₂.status = .running ∧ Ended s₂ below o ∧ ∃ v L, o = .returned v ∧ Q v s₂.heap L ∧ FrameEnd s o s₂ L C S
theorem own_go {p : Program} {e : Env} {below : List Frame} {s : State} {Q : Option Value → Heap → List Loc → Prop} {C S : Nat} {A B : State} (k : ∀ t, Steps p.tables e below B t → Steps p.tables e below A t) (h : own_Go p e below s Q C S B) : own_Go p e below s Q C S A := by
  obtain ⟨s₂, o, h1, h2⟩ := h
  exact ⟨s₂, o, k _ h1, h2⟩
theorem own_fin {p : Program} {l : Launch} {e : Env} {R : Room} {s : State} {m : MethodId} {args : Array Value} {below : List Frame} {meth : Method} {c : Code} {T : State} {locs : List Loc} {cells slots : Nat} {Q : Option Value → Heap → List Loc → Prop} {C S : Nat} {A : State} {v : Option Value}
    (X : Stand p l e R s m args below meth c T locs cells slots) (hlocks : meth.locks = false) (hv : meth.sig.returnType = none → v = none)
    (st : ∀ fs, (∀ (f : JFrame) (acts : List Action), f.method = m → f.locked = none → f.entered = [] → (doReturn e (T.setTop f) acts v).1 = T.setFrames fs) → Steps p.tables e below A (T.setFrames fs))
    (hQ : Q v T.heap locs) (hc : cells ≤ C) (hs : slots ≤ S) : own_Go p e below s Q C S A := by
  obtain ⟨fs, hr, hrun, hended, hW, hsame⟩ := X.leave (v := v) hv hlocks
  exact ⟨_, _, st fs hr, hrun, hended, _, _, rfl, hQ, ⟨_, rfl⟩, hW, hsame.mono hc hs⟩
theorem own_eqI {args : Array Value} {first s : State} {o : Option Outcome} {idx : List Nat} {t : Term} {k : Int32} (h : (Jvm.Cond.eq t (.int k)).value args first o s idx = some true) : t.eval args first o idx s = some (.int k) := by
  obtain ⟨x, y, h1, h2, hk, hk'⟩ := cmp_v (Or.inl h)
  have e2 : y = .int k := (Option.some.inj ((Term.int_eval k).symm.trans h2)).symm
  subst e2
  obtain ⟨z, rfl⟩ := hk'
  simp only [Cond.value, h1, h2] at h
  have hz : z = k := by simpa using h
  rw [h1, hz]
theorem own_eqR {args : Array Value} {first s : State} {o : Option Outcome} {idx : List Nat} {t u : Term} {a : Addr} (h : (Jvm.Cond.eq t u).value args first o s idx = some true) (hu : u.eval args first o idx s = some (.ref a)) : t.eval args first o idx s = some (.ref a) := by
  obtain ⟨x, y, h1, h2, hk, hk'⟩ := cmp_v (Or.inl h)
  cases hu.symm.trans h2
  rw [h1, gotT (eq_R h1 hu hk'.2 rfl) h]
theorem own_len {args : Array Value} {s : State} {t : Term} {a : Addr} {cl : Cell} {k : Int32} {ty : FieldType} (h : (Term.length t).eval args s none [] s = some (.int k)) (ht : t.eval args s none [] s = some (.ref a)) (A : Arr s s.heap a cl ty) : cl.slots.size < 2 ^ 31 ∧ cl.slots.size.toInt32 = k := by
  have ha := A.fin (Vm.Alike.refl _)
  simp only [Term.eval, ht, ha, Option.bind_eq_bind, Option.bind_some] at h
  by_cases q : cl.slots.size < 2 ^ 31
  · simp [q] at h; exact ⟨q, h⟩
  · simp [q] at h
theorem own_d4_0 : decode jdk_42_method_152_code 0 = .ok (.getstatic 38, 3) := by decide +kernel
theorem own_d4_3 : decode jdk_42_method_152_code 3 = .ok (.ifCond .eq 10, 3) := by decide +kernel
theorem own_d4_6 : decode jdk_42_method_152_code 6 = .ok (.aload_n 0, 1) := by decide +kernel
theorem own_d4_7 : decode jdk_42_method_152_code 7 = .ok (.getfield 15, 3) := by decide +kernel
theorem own_d4_10 : decode jdk_42_method_152_code 10 = .ok (.goto 4, 3) := by decide +kernel
theorem own_d4_14 : decode jdk_42_method_152_code 14 = .ok (.ireturn, 1) := by decide +kernel
theorem own_pn_java_lang_String : plainName "java/lang/String" = true := by first | (simp [plainName, overriddenIn]; done) | decide +kernel
theorem own_ef_own_rcoder (m : MethodId) (a1 : Addr) : entryFrame m #[(.ref a1)] 1 = mkF m 0 #[rv a1] [] := by first | (simp [entryFrame, mkF, argsToLocals, Value.category]; done) | rfl
def own_Q_own_rcoder (Z : State) (a1 : Addr) (cz : Int32) (h0 : Heap) (n0 : Nat) (v : Option Value) (h : Heap) (L : List Loc) : Prop := v = some (.int (0 : Int32)) ∧ Fr n0 L ∧ h = h0
set_option maxRecDepth 65536 in
set_option maxHeartbeats 40000000 in
theorem own_rcoder (l : Launch) (Z : State) (a0 : Array Value) (hw : ∀ d ∈ tables_1, d.before a0 Z = true) (ws : List Jvm.Cond) (a1 : Addr) (cz : Int32) (h0 : Heap) (n0 : Nat) (Z0 : n0 ≤ h0.size) (O : Old Z n0 h0) (SC : Sta Z Z.heap "java/lang/String" "COMPACT_STRINGS" "Z" (.int cz)) (Fc : Fld Z h0 a1 "java/lang/String" "coder" "B" (.int (0 : Int32))) (hz : ¬ (cz = (0 : Int32))) :
    MetFree l (⟨"java/lang/String", "coder", "()B"⟩ : MethodName) (head1 (Jvm.Cond.code (⟨"java/lang/String", "coder", "()B"⟩ : MethodName) jdk_42_method_152_code 1 (some .byte) :: ws) ({ frames := 0, cells := 0, slots := 0, locals := 0 } : Room)) (fun a U => a = #[(.ref a1)] ∧ Z.Warmed39 U.vm ∧ U.heap = h0) (fun _ _ _ _ _ => True) (fun _ U o U' => ∃ v L, o = .returned v ∧ own_Q_own_rcoder Z a1 cz h0 n0 v U'.heap L ∧ FrameEnd U o U' L ({ frames := 0, cells := 0, slots := 0, locals := 0 } : Room).cells ({ frames := 0, cells := 0, slots := 0, locals := 0 } : Room).slots) := by
  refine MetFree.of_bodySF (plainFor_of_name own_pn_java_lang_String) hisR ?_
  intro p e s m args below meth c s₁ Bd hml0 hP hK
  obtain ⟨rfl, hZ, hh⟩ := hP
  have hx := Bd.exec
  have hby := Bd.bytes
  have hml : c.maxLocals = 1 := hml0
  have hown : s.vm.findClass "java/lang/String" = some m.cls := findClass_of_methodNamed Bd.named
  have hnm := (name_of_methodNamed Bd.named Bd.method).1
  have X0 : Stand p l e ({ frames := 0, cells := 0, slots := 0, locals := 0 } : Room) s m #[(.ref a1)] below meth c s₁ [] 0 0 := Stand.of_body Bd
  have e0 : s₁.heap = h0 := by rw [← hh, Bd.state]; rfl
  have N0 := Fr.nil n0
  show own_Go p e below s (own_Q_own_rcoder Z a1 cz h0 n0) ({ frames := 0, cells := 0, slots := 0, locals := 0 } : Room).cells ({ frames := 0, cells := 0, slots := 0, locals := 0 } : Room).slots (s₁.setTop (entryFrame m #[(.ref a1)] 1))
  refine own_go (fun zt zk => castTop (own_ef_own_rcoder m a1) zk) ?_
  show own_Go p e below s _ _ _ (s₁.setTop (mkF m 0 #[rv a1] []))
  obtain ⟨T1, X1, e1, st1⟩ := getS2 X0 hx hZ hown (host := "") (Or.inl (hw _ (List.mem_of_getElem? (i := 28) rfl))) Via.refl e0 (SC.ext O.2) (g := (mkF m 0 #[rv a1] [])) rfl (hb hby own_d4_0)
  refine own_go st1 ?_
  show own_Go p e below s _ _ _ (T1.setTop (mkF m 3 #[rv a1] [(.int cz)]))
  refine own_go (fun zt zk => (XS.ifNo X1.here hx rfl (hb hby own_d4_3) rfl ((if0 _ _).trans (feq (hz : ¬ (cz = (0 : Int32)))).1) (XS.aloadN X1.here hx rfl (hb hby own_d4_6) rfl rfl zk))) ?_
  show own_Go p e below s _ _ _ (T1.setTop (mkF m 7 #[rv a1] [(.ref a1)]))
  obtain ⟨T2, X2, e2, st2⟩ := getF X1 hx hZ hown (host := "") (Or.inl (hw _ (List.mem_of_getElem? (i := 29) rfl))) Via.refl e1 Fc (g := (mkF m 7 #[rv a1] [(.ref a1)])) rfl rfl (hb hby own_d4_7)
  refine own_go st2 ?_
  show own_Go p e below s _ _ _ (T2.setTop (mkF m 10 #[rv a1] [(.int (0 : Int32))]))
  refine own_go (fun zt zk => (XS.goto X2.here hx rfl (pc0 := 10) (pc' := 14) rfl (hb hby own_d4_10) (by decide) (by decide) zk)) ?_
  show own_Go p e below s _ _ _ (T2.setTop (mkF m 14 #[rv a1] [(.int (0 : Int32))]))
  exact own_fin X2 Bd.notSynchronized (fun h => by rw [Bd.returns] at h; cases h) (fun fs hr => retN X2 hx (t := .byte) Bd.returns (by simp) (hb hby own_d4_14) hr) (by rw [e2]; exact ⟨rfl, N0, rfl⟩) (by decide) (by decide)
theorem own_d3_0 : decode jdk_42_method_54_code 0 = .ok (.aload_n 0, 1) := by decide +kernel
theorem own_d3_1 : decode jdk_42_method_54_code 1 = .ok (.getfield 9, 3) := by decide +kernel
theorem own_d3_4 : decode jdk_42_method_54_code 4 = .ok (.arraylength, 1) := by decide +kernel
theorem own_d3_5 : decode jdk_42_method_54_code 5 = .ok (.aload_n 0, 1) := by decide +kernel
theorem own_d3_6 : decode jdk_42_method_54_code 6 = .ok (.invokevirtual 335, 3) := by decide +kernel
theorem own_pd___B : parseMethodDescriptor "()B" = some ⟨[], some .byte⟩ := by decide +kernel
theorem own_d3_9 : decode jdk_42_method_54_code 9 = .ok (.ishr, 1) := by decide +kernel
theorem own_d3_10 : decode jdk_42_method_54_code 10 = .ok (.ireturn, 1) := by decide +kernel
theorem own_ef_own_rlen (m : MethodId) (a1 : Addr) : entryFrame m #[(.ref a1)] 1 = mkF m 0 #[rv a1] [] := by first | (simp [entryFrame, mkF, argsToLocals, Value.category]; done) | rfl
def own_Q_own_rlen (Z : State) (a1 : Addr) (cz : Int32) (t : Addr) (kb : ClassId) (N : Int32) (vs : List Value) (h0 : Heap) (n0 : Nat) (v : Option Value) (h : Heap) (L : List Loc) : Prop := v = some (.int N) ∧ Fr n0 L ∧ h = h0
set_option maxRecDepth 65536 in
set_option maxHeartbeats 40000000 in
theorem own_rlen (l : Launch) (Z : State) (a0 : Array Value) (hw : ∀ d ∈ tables_1, d.before a0 Z = true) (ws : List Jvm.Cond) (a1 : Addr) (cz : Int32) (t : Addr) (kb : ClassId) (N : Int32) (vs : List Value) (h0 : Heap) (n0 : Nat) (Z0 : n0 ≤ h0.size) (O : Old Z n0 h0) (SC : Sta Z Z.heap "java/lang/String" "COMPACT_STRINGS" "Z" (.int cz)) (Ex : Exa Z h0 a1 "java/lang/String") (Fv : Fld Z h0 a1 "java/lang/String" "value" "[B" (.ref t)) (Fc : Fld Z h0 a1 "java/lang/String" "coder" "B" (.int (0 : Int32))) (Va : Arv Z h0 t kb .byte N vs (.int (0 : Int32))) (hz : ¬ (cz = (0 : Int32))) :
    MetFree l (⟨"java/lang/String", "length", "()I"⟩ : MethodName) (head1 (Jvm.Cond.code (⟨"java/lang/String", "length", "()I"⟩ : MethodName) jdk_42_method_54_code 1 (some .int) :: ws) ({ frames := 1, cells := 0, slots := 0, locals := 13 } : Room)) (fun a U => a = #[(.ref a1)] ∧ Z.Warmed39 U.vm ∧ U.heap = h0) (fun _ _ _ _ _ => True) (fun _ U o U' => ∃ v L, o = .returned v ∧ own_Q_own_rlen Z a1 cz t kb N vs h0 n0 v U'.heap L ∧ FrameEnd U o U' L ({ frames := 1, cells := 0, slots := 0, locals := 13 } : Room).cells ({ frames := 1, cells := 0, slots := 0, locals := 13 } : Room).slots) := by
  refine MetFree.of_bodySF (plainFor_of_name own_pn_java_lang_String) hisR ?_
  intro p e s m args below meth c s₁ Bd hml0 hP hK
  obtain ⟨rfl, hZ, hh⟩ := hP
  have hx := Bd.exec
  have hby := Bd.bytes
  have hml : c.maxLocals = 1 := hml0
  have hown : s.vm.findClass "java/lang/String" = some m.cls := findClass_of_methodNamed Bd.named
  have hnm := (name_of_methodNamed Bd.named Bd.method).1
  have X0 : Stand p l e ({ frames := 1, cells := 0, slots := 0, locals := 13 } : Room) s m #[(.ref a1)] below meth c s₁ [] 0 0 := Stand.of_body Bd
  have e0 : s₁.heap = h0 := by rw [← hh, Bd.state]; rfl
  have N0 := Fr.nil n0
  show own_Go p e below s (own_Q_own_rlen Z a1 cz t kb N vs h0 n0) ({ frames := 1, cells := 0, slots := 0, locals := 13 } : Room).cells ({ frames := 1, cells := 0, slots := 0, locals := 13 } : Room).slots (s₁.setTop (entryFrame m #[(.ref a1)] 1))
  refine own_go (fun zt zk => castTop (own_ef_own_rlen m a1) zk) ?_
  show own_Go p e below s _ _ _ (s₁.setTop (mkF m 0 #[rv a1] []))
  refine own_go (fun zt zk => (XS.aloadN X0.here hx rfl (hb hby own_d3_0) rfl rfl zk)) ?_
  show own_Go p e below s _ _ _ (s₁.setTop (mkF m 1 #[rv a1] [(.ref a1)]))
  obtain ⟨T1, X1, e1, st1⟩ := getF X0 hx hZ hown (host := "") (Or.inl (hw _ (List.mem_of_getElem? (i := 21) rfl))) Via.refl e0 Fv (g := (mkF m 1 #[rv a1] [(.ref a1)])) rfl rfl (hb hby own_d3_1)
  refine own_go st1 ?_
  show own_Go p e below s _ _ _ (T1.setTop (mkF m 4 #[rv a1] [(.ref t)]))
  obtain ⟨cl2, Ar2, -, Sz2, Nz2, -, -⟩ := id Va
  refine own_go (X1.arraylength hx (by rw [e1]; exact Ar2.1) (State.isArrayOf_alike hZ.alike Ar2.2.1) (g := (mkF m 4 #[rv a1] [(.ref t)])) rfl rfl (hb hby own_d3_4)) ?_
  rw [len_of Sz2 Nz2]
  show own_Go p e below s _ _ _ (T1.setTop (mkF m 5 #[rv a1] [(.int N)]))
  refine own_go (fun zt zk => (XS.aloadN X1.here hx rfl (hb hby own_d3_5) rfl rfl zk)) ?_
  show own_Go p e below s _ _ _ (T1.setTop (mkF m 6 #[rv a1] [(.ref a1), (.int N)]))
  obtain ⟨cq3, kq3, qa3, qb3, qc3⟩ := isOf hZ e1 Ex
  obtain ⟨_, _, ⟨T3, L3, k3, n3⟩, -, X3, ⟨Lc3, hQ3, l3, y3, z3⟩, st3⟩ := X1.virtualBack hx (y := (⟨"java/lang/String", "coder", "()B"⟩ : MethodName)) (z := (⟨"java/lang/String", "coder", "()B"⟩ : MethodName)) hown (mvT hZ (hw _ (List.mem_of_getElem? (i := 23) rfl))) (mvT hZ (hw _ (List.mem_of_getElem? (i := 24) rfl))) (notFace_of_selects (args := #[]) (mvT hZ (hw _ (List.mem_of_getElem? (i := 26) rfl)))) (mvT hZ (hw _ (List.mem_of_getElem? (i := 26) rfl))) (mvT hZ (hw _ (List.mem_of_getElem? (i := 25) rfl))) (by decide) (backOf (W := 1) (own_rcoder l Z a0 hw [] a1 cz h0 n0 Z0 O SC Fc hz) hZ (hw _ (List.mem_of_getElem? (i := 27) rfl)) (hw _ (List.mem_of_getElem? (i := 19) rfl)) (by decide) (by decide)) qa3 qc3 (g := (mkF m 6 #[rv a1] [(.ref a1), (.int N)])) rfl (by rw [hml]; rfl) (Steps.refl _) (argsL := []) (rest := [(.int N)]) (lenOf own_pd___B rfl) rfl (by show 2 * 0 + _ ≤ _; exact Nat.le_of_eq rfl) (hb hby own_d3_6) (fun _ _ => ⟨rfl, e1, (by decide : 0 + 0 ≤ _), (by decide : 0 + 0 ≤ _)⟩)
  dsimp only [Pt.U, Pt.locs, Pt.cells, Pt.slots] at X3 l3 y3 z3 st3 hQ3
  subst l3 y3 z3
  obtain ⟨rfl, Nq3, e3⟩ := hQ3
  have N3 := Fr.app N0 Nq3
  refine own_go (fun zt zk => st3.trans zk) ?_
  show own_Go p e below s _ _ _ (T3.setTop (mkF m 9 #[rv a1] [(.int (0 : Int32)), (.int N)]))
  refine own_go (fun zt zk => (XS.ishr X3.here hx rfl (hb hby own_d3_9) rfl zk)) ?_
  show own_Go p e below s _ _ _ (T3.setTop (mkF m 10 #[rv a1] [(.int (N >>> ((0 : Int32) &&& 31)))]))
  exact own_fin X3 Bd.notSynchronized (fun h => by rw [Bd.returns] at h; cases h) (fun fs hr => retOut X3 hx (t := .int) (w := (.int (N >>> ((0 : Int32) &&& 31)))) Bd.returns rfl (Or.inl ⟨rfl, Or.inl rfl, _, rfl⟩) (hb hby own_d3_10) hr) (by rw [e3]; exact ⟨congrArg (fun z => some (Value.int z)) (own_shr0 _), N3, rfl⟩) (by decide) (by decide)
theorem own_d6_0 : decode jdk_42_method_154_code 0 = .ok (.getstatic 38, 3) := by decide +kernel
theorem own_d6_3 : decode jdk_42_method_154_code 3 = .ok (.ifCond .eq 14, 3) := by decide +kernel
theorem own_d6_6 : decode jdk_42_method_154_code 6 = .ok (.aload_n 0, 1) := by decide +kernel
theorem own_d6_7 : decode jdk_42_method_154_code 7 = .ok (.getfield 15, 3) := by decide +kernel
theorem own_d6_10 : decode jdk_42_method_154_code 10 = .ok (.ifCond .ne 7, 3) := by decide +kernel
theorem own_d6_13 : decode jdk_42_method_154_code 13 = .ok (.iconst 1, 1) := by decide +kernel
theorem own_d6_14 : decode jdk_42_method_154_code 14 = .ok (.goto 4, 3) := by decide +kernel
theorem own_d6_18 : decode jdk_42_method_154_code 18 = .ok (.ireturn, 1) := by decide +kernel
theorem own_ef_own_risl (m : MethodId) (a1 : Addr) : entryFrame m #[(.ref a1)] 1 = mkF m 0 #[rv a1] [] := by first | (simp [entryFrame, mkF, argsToLocals, Value.category]; done) | rfl
def own_Q_own_risl (Z : State) (a1 : Addr) (cz : Int32) (h0 : Heap) (n0 : Nat) (v : Option Value) (h : Heap) (L : List Loc) : Prop := v = some (.int (1 : Int32)) ∧ Fr n0 L ∧ h = h0
set_option maxRecDepth 65536 in
set_option maxHeartbeats 40000000 in
theorem own_risl (l : Launch) (Z : State) (a0 : Array Value) (hw : ∀ d ∈ tables_1, d.before a0 Z = true) (ws : List Jvm.Cond) (a1 : Addr) (cz : Int32) (h0 : Heap) (n0 : Nat) (Z0 : n0 ≤ h0.size) (O : Old Z n0 h0) (SC : Sta Z Z.heap "java/lang/String" "COMPACT_STRINGS" "Z" (.int cz)) (Fc : Fld Z h0 a1 "java/lang/String" "coder" "B" (.int (0 : Int32))) (hz : ¬ (cz = (0 : Int32))) :
    MetFree l (⟨"java/lang/String", "isLatin1", "()Z"⟩ : MethodName) (head1 (Jvm.Cond.code (⟨"java/lang/String", "isLatin1", "()Z"⟩ : MethodName) jdk_42_method_154_code 1 (some .boolean) :: ws) ({ frames := 0, cells := 0, slots := 0, locals := 0 } : Room)) (fun a U => a = #[(.ref a1)] ∧ Z.Warmed39 U.vm ∧ U.heap = h0) (fun _ _ _ _ _ => True) (fun _ U o U' => ∃ v L, o = .returned v ∧ own_Q_own_risl Z a1 cz h0 n0 v U'.heap L ∧ FrameEnd U o U' L ({ frames := 0, cells := 0, slots := 0, locals := 0 } : Room).cells ({ frames := 0, cells := 0, slots := 0, locals := 0 } : Room).slots) := by
  refine MetFree.of_bodySF (plainFor_of_name own_pn_java_lang_String) hisR ?_
  intro p e s m args below meth c s₁ Bd hml0 hP hK
  obtain ⟨rfl, hZ, hh⟩ := hP
  have hx := Bd.exec
  have hby := Bd.bytes
  have hml : c.maxLocals = 1 := hml0
  have hown : s.vm.findClass "java/lang/String" = some m.cls := findClass_of_methodNamed Bd.named
  have hnm := (name_of_methodNamed Bd.named Bd.method).1
  have X0 : Stand p l e ({ frames := 0, cells := 0, slots := 0, locals := 0 } : Room) s m #[(.ref a1)] below meth c s₁ [] 0 0 := Stand.of_body Bd
  have e0 : s₁.heap = h0 := by rw [← hh, Bd.state]; rfl
  have N0 := Fr.nil n0
  show own_Go p e below s (own_Q_own_risl Z a1 cz h0 n0) ({ frames := 0, cells := 0, slots := 0, locals := 0 } : Room).cells ({ frames := 0, cells := 0, slots := 0, locals := 0 } : Room).slots (s₁.setTop (entryFrame m #[(.ref a1)] 1))
  refine own_go (fun zt zk => castTop (own_ef_own_risl m a1) zk) ?_
  show own_Go p e below s _ _ _ (s₁.setTop (mkF m 0 #[rv a1] []))
  obtain ⟨T1, X1, e1, st1⟩ := getS2 X0 hx hZ hown (host := "") (Or.inl (hw _ (List.mem_of_getElem? (i := 28) rfl))) Via.refl e0 (SC.ext O.2) (g := (mkF m 0 #[rv a1] [])) rfl (hb hby own_d6_0)
  refine own_go st1 ?_
  show own_Go p e below s _ _ _ (T1.setTop (mkF m 3 #[rv a1] [(.int cz)]))
  refine own_go (fun zt zk => (XS.ifNo X1.here hx rfl (hb hby own_d6_3) rfl ((if0 _ _).trans (feq (hz : ¬ (cz = (0 : Int32)))).1) (XS.aloadN X1.here hx rfl (hb hby own_d6_6) rfl rfl zk))) ?_
  show own_Go p e below s _ _ _ (T1.setTop (mkF m 7 #[rv a1] [(.ref a1)]))
  obtain ⟨T2, X2, e2, st2⟩ := getF X1 hx hZ hown (host := "") (Or.inl (hw _ (List.mem_of_getElem? (i := 29) rfl))) Via.refl e1 Fc (g := (mkF m 7 #[rv a1] [(.ref a1)])) rfl rfl (hb hby own_d6_7)
  refine own_go st2 ?_
  show own_Go p e below s _ _ _ (T2.setTop (mkF m 10 #[rv a1] [(.int (0 : Int32))]))
  refine own_go (fun zt zk => (XS.ifNo X2.here hx rfl (hb hby own_d6_10) rfl ((if0 _ _).trans (teq (rfl : (0 : Int32) = (0 : Int32))).2) (XS.iconst X2.here hx rfl (hb hby own_d6_13) (XS.goto X2.here hx rfl (pc0 := 14) (pc' := 18) rfl (hb hby own_d6_14) (by decide) (by decide) zk)))) ?_
  show own_Go p e below s _ _ _ (T2.setTop (mkF m 18 #[rv a1] [(.int (1 : Int32))]))
  exact own_fin X2 Bd.notSynchronized (fun h => by rw [Bd.returns] at h; cases h) (fun fs hr => retN X2 hx (t := .boolean) Bd.returns (by simp) (hb hby own_d6_18) hr) (by rw [e2]; exact ⟨rfl, N0, rfl⟩) (by decide) (by decide)
theorem own_d9_0 : decode jdk_41_method_11_code 0 = .ok (.iload_n 0, 1) := by decide +kernel
theorem own_d9_1 : decode jdk_41_method_11_code 1 = .ok (.ifCond .lt 8, 3) := by decide +kernel
theorem own_d9_4 : decode jdk_41_method_11_code 4 = .ok (.iload_n 0, 1) := by decide +kernel
theorem own_d9_5 : decode jdk_41_method_11_code 5 = .ok (.iload_n 1, 1) := by decide +kernel
theorem own_d9_6 : decode jdk_41_method_11_code 6 = .ok (.if_icmp .lt 10, 3) := by decide +kernel
theorem own_d9_16 : decode jdk_41_method_11_code 16 = .ok (.iload_n 0, 1) := by decide +kernel
theorem own_d9_17 : decode jdk_41_method_11_code 17 = .ok (.ireturn, 1) := by decide +kernel
theorem own_pn_jdk_internal_util_Preconditions : plainName "jdk/internal/util/Preconditions" = true := by first | (simp [plainName, overriddenIn]; done) | decide +kernel
theorem own_ef_own_rpre (m : MethodId) (p1 : Int32) (p2 : Int32) (fm : Value) (rfm : fm.isRef = true) : entryFrame m #[(.int p1), (.int p2), fm] 3 = mkF m 0 #[iv p1, iv p2, .val fm] [] := by rcases ref_cases rfm with rfl | ⟨_, rfl⟩ <;> first | (simp [entryFrame, mkF, argsToLocals, Value.category]; done) | rfl
def own_Q_own_rpre (Z : State) (p1 : Int32) (p2 : Int32) (fm : Value) (h0 : Heap) (n0 : Nat) (v : Option Value) (h : Heap) (L : List Loc) : Prop := v = some (.int p1) ∧ Fr n0 L ∧ h = h0
set_option maxRecDepth 65536 in
set_option maxHeartbeats 40000000 in
theorem own_rpre (l : Launch) (Z : State) (a0 : Array Value) (hw : ∀ d ∈ tables_1, d.before a0 Z = true) (ws : List Jvm.Cond) (p1 : Int32) (p2 : Int32) (fm : Value) (h0 : Heap) (n0 : Nat) (Z0 : n0 ≤ h0.size)  (rfm : fm.isRef = true) (hj : ¬ (p1 < (0 : Int32)) ∧ p1 < p2) :
    MetFree l (⟨"jdk/internal/util/Preconditions", "checkIndex", "(IILjava/util/function/BiFunction;)I"⟩ : MethodName) (head1 (Jvm.Cond.code (⟨"jdk/internal/util/Preconditions", "checkIndex", "(IILjava/util/function/BiFunction;)I"⟩ : MethodName) jdk_41_method_11_code 3 (some .int) :: ws) ({ frames := 0, cells := 0, slots := 0, locals := 0 } : Room)) (fun a U => a = #[(.int p1), (.int p2), fm] ∧ Z.Warmed39 U.vm ∧ U.heap = h0) (fun _ _ _ _ _ => True) (fun _ U o U' => ∃ v L, o = .returned v ∧ own_Q_own_rpre Z p1 p2 fm h0 n0 v U'.heap L ∧ FrameEnd U o U' L ({ frames := 0, cells := 0, slots := 0, locals := 0 } : Room).cells ({ frames := 0, cells := 0, slots := 0, locals := 0 } : Room).slots) := by
  refine MetFree.of_bodySF (plainFor_of_name own_pn_jdk_internal_util_Preconditions) hisR ?_
  intro p e s m args below meth c s₁ Bd hml0 hP hK
  obtain ⟨rfl, hZ, hh⟩ := hP
  have hx := Bd.exec
  have hby := Bd.bytes
  have hml : c.maxLocals = 3 := hml0
  have hown : s.vm.findClass "jdk/internal/util/Preconditions" = some m.cls := findClass_of_methodNamed Bd.named
  have hnm := (name_of_methodNamed Bd.named Bd.method).1
  have X0 : Stand p l e ({ frames := 0, cells := 0, slots := 0, locals := 0 } : Room) s m #[(.int p1), (.int p2), fm] below meth c s₁ [] 0 0 := Stand.of_body Bd
  have e0 : s₁.heap = h0 := by rw [← hh, Bd.state]; rfl
  have N0 := Fr.nil n0
  show own_Go p e below s (own_Q_own_rpre Z p1 p2 fm h0 n0) ({ frames := 0, cells := 0, slots := 0, locals := 0 } : Room).cells ({ frames := 0, cells := 0, slots := 0, locals := 0 } : Room).slots (s₁.setTop (entryFrame m #[(.int p1), (.int p2), fm] 3))
  refine own_go (fun zt zk => castTop (own_ef_own_rpre m p1 p2 fm rfm) zk) ?_
  show own_Go p e below s _ _ _ (s₁.setTop (mkF m 0 #[iv p1, iv p2, .val fm] []))
  refine own_go (fun zt zk => (XS.iloadN X0.here hx rfl (hb hby own_d9_0) rfl (XS.ifNo X0.here hx rfl (hb hby own_d9_1) rfl ((if0 _ _).trans (flt (hj.1 : ¬ (p1 < (0 : Int32)))).1) (XS.iloadN X0.here hx rfl (hb hby own_d9_4) rfl (XS.iloadN X0.here hx rfl (hb hby own_d9_5) rfl (XS.icmpYes X0.here hx rfl (pc0 := 6) (pc' := 16) rfl (hb hby own_d9_6) rfl (tlt (hj.2 : p1 < p2)).1 (by decide) (by decide) (XS.iloadN X0.here hx rfl (hb hby own_d9_16) rfl zk))))))) ?_
  show own_Go p e below s _ _ _ (s₁.setTop (mkF m 17 #[iv p1, iv p2, .val fm] [(.int p1)]))
  exact own_fin X0 Bd.notSynchronized (fun h => by rw [Bd.returns] at h; cases h) (fun fs hr => retOut X0 hx (t := .int) (w := (.int p1)) Bd.returns rfl (Or.inl ⟨rfl, Or.inl rfl, _, rfl⟩) (hb hby own_d9_17) hr) (by rw [e0]; exact ⟨rfl, N0, rfl⟩) (by decide) (by decide)
theorem own_d8_0 : decode jdk_42_method_155_code 0 = .ok (.iload_n 0, 1) := by decide +kernel
theorem own_d8_1 : decode jdk_42_method_155_code 1 = .ok (.iload_n 1, 1) := by decide +kernel
theorem own_d8_2 : decode jdk_42_method_155_code 2 = .ok (.getstatic 1053, 3) := by decide +kernel
theorem own_d8_5 : decode jdk_42_method_155_code 5 = .ok (.invokestatic 1059, 3) := by decide +kernel
theorem own_pd__IILjava_util_function_BiFunction__I : parseMethodDescriptor "(IILjava/util/function/BiFunction;)I" = some ⟨[.int, .int, (.object "java/util/function/BiFunction")], some .int⟩ := by decide +kernel
theorem own_d8_8 : decode jdk_42_method_155_code 8 = .ok (.pop, 1) := by decide +kernel
theorem own_d8_9 : decode jdk_42_method_155_code 9 = .ok (.return_, 1) := by decide +kernel
theorem own_ef_own_rchk (m : MethodId) (p1 : Int32) (p2 : Int32) : entryFrame m #[(.int p1), (.int p2)] 2 = mkF m 0 #[iv p1, iv p2] [] := by first | (simp [entryFrame, mkF, argsToLocals, Value.category]; done) | rfl
def own_Q_own_rchk (Z : State) (p1 : Int32) (p2 : Int32) (fm : Value) (h0 : Heap) (n0 : Nat) (v : Option Value) (h : Heap) (L : List Loc) : Prop := v = none ∧ Fr n0 L ∧ h = h0
set_option maxRecDepth 65536 in
set_option maxHeartbeats 40000000 in
theorem own_rchk (l : Launch) (Z : State) (a0 : Array Value) (hw : ∀ d ∈ tables_1, d.before a0 Z = true) (ws : List Jvm.Cond) (p1 : Int32) (p2 : Int32) (fm : Value) (h0 : Heap) (n0 : Nat) (Z0 : n0 ≤ h0.size) (O : Old Z n0 h0) (SF : Sta Z Z.heap "jdk/internal/util/Preconditions" "SIOOBE_FORMATTER" "Ljava/util/function/BiFunction;" fm) (rfm : fm.isRef = true) (hj : ¬ (p1 < (0 : Int32)) ∧ p1 < p2) :
    MetFree l (⟨"java/lang/String", "checkIndex", "(II)V"⟩ : MethodName) (head1 (Jvm.Cond.code (⟨"java/lang/String", "checkIndex", "(II)V"⟩ : MethodName) jdk_42_method_155_code 2 none :: ws) ({ frames := 1, cells := 0, slots := 0, locals := 14 } : Room)) (fun a U => a = #[(.int p1), (.int p2)] ∧ Z.Warmed39 U.vm ∧ U.heap = h0) (fun _ _ _ _ _ => True) (fun _ U o U' => ∃ v L, o = .returned v ∧ own_Q_own_rchk Z p1 p2 fm h0 n0 v U'.heap L ∧ FrameEnd U o U' L ({ frames := 1, cells := 0, slots := 0, locals := 14 } : Room).cells ({ frames := 1, cells := 0, slots := 0, locals := 14 } : Room).slots) := by
  refine MetFree.of_bodySF (plainFor_of_name own_pn_java_lang_String) hisR ?_
  intro p e s m args below meth c s₁ Bd hml0 hP hK
  obtain ⟨rfl, hZ, hh⟩ := hP
  have hx := Bd.exec
  have hby := Bd.bytes
  have hml : c.maxLocals = 2 := hml0
  have hown : s.vm.findClass "java/lang/String" = some m.cls := findClass_of_methodNamed Bd.named
  have hnm := (name_of_methodNamed Bd.named Bd.method).1
  have X0 : Stand p l e ({ frames := 1, cells := 0, slots := 0, locals := 14 } : Room) s m #[(.int p1), (.int p2)] below meth c s₁ [] 0 0 := Stand.of_body Bd
  have e0 : s₁.heap = h0 := by rw [← hh, Bd.state]; rfl
  have N0 := Fr.nil n0
  show own_Go p e below s (own_Q_own_rchk Z p1 p2 fm h0 n0) ({ frames := 1, cells := 0, slots := 0, locals := 14 } : Room).cells ({ frames := 1, cells := 0, slots := 0, locals := 14 } : Room).slots (s₁.setTop (entryFrame m #[(.int p1), (.int p2)] 2))
  refine own_go (fun zt zk => castTop (own_ef_own_rchk m p1 p2) zk) ?_
  show own_Go p e below s _ _ _ (s₁.setTop (mkF m 0 #[iv p1, iv p2] []))
  refine own_go (fun zt zk => (XS.iloadN X0.here hx rfl (hb hby own_d8_0) rfl (XS.iloadN X0.here hx rfl (hb hby own_d8_1) rfl zk))) ?_
  show own_Go p e below s _ _ _ (s₁.setTop (mkF m 2 #[iv p1, iv p2] [(.int p2), (.int p1)]))
  obtain ⟨T1, X1, e1, st1⟩ := getS2 X0 hx hZ hown (host := "") (Or.inl (hw _ (List.mem_of_getElem? (i := 48) rfl))) Via.refl e0 (SF.ext O.2) (g := (mkF m 2 #[iv p1, iv p2] [(.int p2), (.int p1)])) rfl (hb hby own_d8_2)
  refine own_go st1 ?_
  show own_Go p e below s _ _ _ (T1.setTop (mkF m 5 #[iv p1, iv p2] [fm, (.int p2), (.int p1)]))
  obtain ⟨_, _, ⟨T2, L2, k2, n2⟩, -, X2, ⟨Lc2, hQ2, l2, y2, z2⟩, st2⟩ := Jvm.LawKit.callS X1 hx (y := (⟨"jdk/internal/util/Preconditions", "checkIndex", "(IILjava/util/function/BiFunction;)I"⟩ : MethodName)) hown (mvT hZ (hw _ (List.mem_of_getElem? (i := 50) rfl))) (mvT hZ (hw _ (List.mem_of_getElem? (i := 51) rfl))) (mvT hZ (hw _ (List.mem_of_getElem? (i := 49) rfl))) (mvT hZ (hw _ (List.mem_of_getElem? (i := 52) rfl))) (by decide) (backOf (W := 0) (own_rpre l Z a0 hw [] p1 p2 fm  h0 n0 Z0 rfm hj) hZ (hw _ (List.mem_of_getElem? (i := 52) rfl)) (hw _ (List.mem_of_getElem? (i := 49) rfl)) (by decide) (by decide)) (g := (mkF m 5 #[iv p1, iv p2] [fm, (.int p2), (.int p1)])) rfl (by rw [hml]; rfl) (argsL := [(.int p1), (.int p2), fm]) (rest := []) (lenOf own_pd__IILjava_util_function_BiFunction__I rfl) rfl (by show 2 * 0 + _ ≤ _; exact Nat.le_of_eq rfl) (hb hby own_d8_5) (fun _ _ => ⟨rfl, e1, (by decide : 0 + 0 ≤ _), (by decide : 0 + 0 ≤ _)⟩)
  dsimp only [Pt.U, Pt.locs, Pt.cells, Pt.slots] at X2 l2 y2 z2 st2 hQ2
  subst l2 y2 z2
  obtain ⟨rfl, Nq2, e2⟩ := hQ2
  have N2 := Fr.app N0 Nq2
  refine own_go st2 ?_
  show own_Go p e below s _ _ _ (T2.setTop (mkF m 8 #[iv p1, iv p2] [(.int p1)]))
  refine own_go (fun zt zk => (XS.pop X2.here hx rfl (hb hby own_d8_8) rfl rfl zk)) ?_
  show own_Go p e below s _ _ _ (T2.setTop (mkF m 9 #[iv p1, iv p2] []))
  exact own_fin X2 Bd.notSynchronized (fun _ => rfl) (fun fs hr => X2.returnOut hx Bd.returns (hb hby own_d8_9) hr) (by rw [e2]; exact ⟨rfl, N2, rfl⟩) (by decide) (by decide)
theorem own_d7_0 : decode jdk_43_method_2_code 0 = .ok (.iload_n 1, 1) := by decide +kernel
theorem own_d7_1 : decode jdk_43_method_2_code 1 = .ok (.aload_n 0, 1) := by decide +kernel
theorem own_d7_2 : decode jdk_43_method_2_code 2 = .ok (.arraylength, 1) := by decide +kernel
theorem own_d7_3 : decode jdk_43_method_2_code 3 = .ok (.invokestatic 9, 3) := by decide +kernel
theorem own_pd__II_V : parseMethodDescriptor "(II)V" = some ⟨[.int, .int], none⟩ := by decide +kernel
theorem own_d7_6 : decode jdk_43_method_2_code 6 = .ok (.aload_n 0, 1) := by decide +kernel
theorem own_d7_7 : decode jdk_43_method_2_code 7 = .ok (.iload_n 1, 1) := by decide +kernel
theorem own_d7_8 : decode jdk_43_method_2_code 8 = .ok (.baload, 1) := by decide +kernel
theorem own_d7_9 : decode jdk_43_method_2_code 9 = .ok (.sipush 255, 3) := by decide +kernel
theorem own_d7_12 : decode jdk_43_method_2_code 12 = .ok (.iand, 1) := by decide +kernel
theorem own_d7_13 : decode jdk_43_method_2_code 13 = .ok (.i2c, 1) := by decide +kernel
theorem own_d7_14 : decode jdk_43_method_2_code 14 = .ok (.ireturn, 1) := by decide +kernel
theorem own_pn_java_lang_StringLatin1 : plainName "java/lang/StringLatin1" = true := by first | (simp [plainName, overriddenIn]; done) | decide +kernel
theorem own_ef_own_rlch (m : MethodId) (t : Addr) (p1 : Int32) : entryFrame m #[(.ref t), (.int p1)] 2 = mkF m 0 #[rv t, iv p1] [] := by first | (simp [entryFrame, mkF, argsToLocals, Value.category]; done) | rfl
def own_Q_own_rlch (Z : State) (t : Addr) (p1 : Int32) (fm : Value) (kb : ClassId) (N : Int32) (vs : List Value) (x : Int32) (h0 : Heap) (n0 : Nat) (v : Option Value) (h : Heap) (L : List Loc) : Prop := v = some (.int (x &&& (255 : Int32))) ∧ Fr n0 L ∧ h = h0
set_option maxRecDepth 65536 in
set_option maxHeartbeats 40000000 in
theorem own_rlch (l : Launch) (Z : State) (a0 : Array Value) (hw : ∀ d ∈ tables_1, d.before a0 Z = true) (ws : List Jvm.Cond) (t : Addr) (p1 : Int32) (fm : Value) (kb : ClassId) (N : Int32) (vs : List Value) (x : Int32) (h0 : Heap) (n0 : Nat) (Z0 : n0 ≤ h0.size) (O : Old Z n0 h0) (SF : Sta Z Z.heap "jdk/internal/util/Preconditions" "SIOOBE_FORMATTER" "Ljava/util/function/BiFunction;" fm) (Va : Arv Z h0 t kb .byte N vs (.int (0 : Int32))) (rfm : fm.isRef = true) (hj : ¬ (p1 < (0 : Int32)) ∧ p1 < N) (hat : vs.getD p1.toNatClampNeg (.int (0 : Int32)) = .int x) :
    MetFree l (⟨"java/lang/StringLatin1", "charAt", "([BI)C"⟩ : MethodName) (head1 (Jvm.Cond.code (⟨"java/lang/StringLatin1", "charAt", "([BI)C"⟩ : MethodName) jdk_43_method_2_code 2 (some .char) :: ws) ({ frames := 2, cells := 0, slots := 0, locals := 27 } : Room)) (fun a U => a = #[(.ref t), (.int p1)] ∧ Z.Warmed39 U.vm ∧ U.heap = h0) (fun _ _ _ _ _ => True) (fun _ U o U' => ∃ v L, o = .returned v ∧ own_Q_own_rlch Z t p1 fm kb N vs x h0 n0 v U'.heap L ∧ FrameEnd U o U' L ({ frames := 2, cells := 0, slots := 0, locals := 27 } : Room).cells ({ frames := 2, cells := 0, slots := 0, locals := 27 } : Room).slots) := by
  refine MetFree.of_bodySF (plainFor_of_name own_pn_java_lang_StringLatin1) hisR ?_
  intro p e s m args below meth c s₁ Bd hml0 hP hK
  obtain ⟨rfl, hZ, hh⟩ := hP
  have hx := Bd.exec
  have hby := Bd.bytes
  have hml : c.maxLocals = 2 := hml0
  have hown : s.vm.findClass "java/lang/StringLatin1" = some m.cls := findClass_of_methodNamed Bd.named
  have hnm := (name_of_methodNamed Bd.named Bd.method).1
  have X0 : Stand p l e ({ frames := 2, cells := 0, slots := 0, locals := 27 } : Room) s m #[(.ref t), (.int p1)] below meth c s₁ [] 0 0 := Stand.of_body Bd
  have e0 : s₁.heap = h0 := by rw [← hh, Bd.state]; rfl
  have N0 := Fr.nil n0
  show own_Go p e below s (own_Q_own_rlch Z t p1 fm kb N vs x h0 n0) ({ frames := 2, cells := 0, slots := 0, locals := 27 } : Room).cells ({ frames := 2, cells := 0, slots := 0, locals := 27 } : Room).slots (s₁.setTop (entryFrame m #[(.ref t), (.int p1)] 2))
  refine own_go (fun zt zk => castTop (own_ef_own_rlch m t p1) zk) ?_
  show own_Go p e below s _ _ _ (s₁.setTop (mkF m 0 #[rv t, iv p1] []))
  refine own_go (fun zt zk => (XS.iloadN X0.here hx rfl (hb hby own_d7_0) rfl (XS.aloadN X0.here hx rfl (hb hby own_d7_1) rfl rfl zk))) ?_
  show own_Go p e below s _ _ _ (s₁.setTop (mkF m 2 #[rv t, iv p1] [(.ref t), (.int p1)]))
  obtain ⟨cl1, Ar1, -, Sz1, Nz1, -, -⟩ := id Va
  refine own_go (X0.arraylength hx (by rw [e0]; exact Ar1.1) (State.isArrayOf_alike hZ.alike Ar1.2.1) (g := (mkF m 2 #[rv t, iv p1] [(.ref t), (.int p1)])) rfl rfl (hb hby own_d7_2)) ?_
  rw [len_of Sz1 Nz1]
  show own_Go p e below s _ _ _ (s₁.setTop (mkF m 3 #[rv t, iv p1] [(.int N), (.int p1)]))
  obtain ⟨_, _, ⟨T2, L2, k2, n2⟩, -, X2, ⟨Lc2, hQ2, l2, y2, z2⟩, st2⟩ := Jvm.LawKit.callS X0 hx (y := (⟨"java/lang/String", "checkIndex", "(II)V"⟩ : MethodName)) hown (mvT hZ (hw _ (List.mem_of_getElem? (i := 45) rfl))) (mvT hZ (hw _ (List.mem_of_getElem? (i := 46) rfl))) (mvT hZ (hw _ (List.mem_of_getElem? (i := 19) rfl))) (mvT hZ (hw _ (List.mem_of_getElem? (i := 47) rfl))) (by decide) (backOf (W := 0) (own_rchk l Z a0 hw [] p1 N fm h0 n0 Z0 O SF rfm hj) hZ (hw _ (List.mem_of_getElem? (i := 47) rfl)) (hw _ (List.mem_of_getElem? (i := 19) rfl)) (by decide) (by decide)) (g := (mkF m 3 #[rv t, iv p1] [(.int N), (.int p1)])) rfl (by rw [hml]; rfl) (argsL := [(.int p1), (.int N)]) (rest := []) (lenOf own_pd__II_V rfl) rfl (by show 2 * 0 + _ ≤ _; exact Nat.le_of_eq rfl) (hb hby own_d7_3) (fun _ _ => ⟨rfl, e0, (by decide : 0 + 0 ≤ _), (by decide : 0 + 0 ≤ _)⟩)
  dsimp only [Pt.U, Pt.locs, Pt.cells, Pt.slots] at X2 l2 y2 z2 st2 hQ2
  subst l2 y2 z2
  obtain ⟨rfl, Nq2, e2⟩ := hQ2
  have N2 := Fr.app N0 Nq2
  refine own_go st2 ?_
  show own_Go p e below s _ _ _ (T2.setTop (mkF m 6 #[rv t, iv p1] []))
  refine own_go (fun zt zk => (XS.aloadN X2.here hx rfl (hb hby own_d7_6) rfl rfl (XS.iloadN X2.here hx rfl (hb hby own_d7_7) rfl zk))) ?_
  show own_Go p e below s _ _ _ (T2.setTop (mkF m 8 #[rv t, iv p1] [(.int p1), (.ref t)]))
  obtain ⟨cl3, Ar3, q3, Sz3, Nz3, Ha3, Ga3⟩ := id Va
  have hin3 : ¬ (p1 < 0 ∨ cl3.slots.size ≤ (p1).toNatClampNeg) := inb_of Sz3 hj
  have hat3 : cl3.slots[(p1).toNatClampNeg]? = some (.int x) := Has.at Ha3 hin3 hat
  refine own_go (X2.baloadBytes hx (j := p1) (v := (.int x)) (by rw [e2]; exact Ar3.1) (State.isArrayOf_alike hZ.alike Ar3.2.1) Ar3.2.2 hin3 hat3 (g := (mkF m 8 #[rv t, iv p1] [(.int p1), (.ref t)])) rfl rfl (hb hby own_d7_8)) ?_
  show own_Go p e below s _ _ _ (T2.setTop (mkF m 9 #[rv t, iv p1] [(.int x)]))
  refine own_go (fun zt zk => (XS.sipush X2.here hx rfl (hb hby own_d7_9) (XS.iand X2.here hx rfl (hb hby own_d7_12) rfl (XS.i2c X2.here hx rfl (hb hby own_d7_13) rfl zk)))) ?_
  show own_Go p e below s _ _ _ (T2.setTop (mkF m 14 #[rv t, iv p1] [(.int ((x &&& (255 : Int32)).toUInt32.toUInt16.toUInt32.toInt32))]))
  rw [i2c_mask]
  generalize hv_c4 : (x &&& (255 : Int32)) = c4
  have hr_c4 := own_r255 hv_c4
  show own_Go p e below s _ _ _ (T2.setTop (mkF m 14 #[rv t, iv p1] [(.int c4)]))
  exact own_fin X2 Bd.notSynchronized (fun h => by rw [Bd.returns] at h; cases h) (fun fs hr => retN X2 hx (t := .char) Bd.returns (by simp) (hb hby own_d7_14) hr) (by rw [e2]; exact ⟨congrArg (fun z => some (Value.int z)) ((own_narc hr_c4).trans hv_c4.symm), N2, rfl⟩) (by decide) (by decide)
theorem own_d5_0 : decode jdk_42_method_56_code 0 = .ok (.aload_n 0, 1) := by decide +kernel
theorem own_d5_1 : decode jdk_42_method_56_code 1 = .ok (.invokevirtual 492, 3) := by decide +kernel
theorem own_pd___Z : parseMethodDescriptor "()Z" = some ⟨[], some .boolean⟩ := by decide +kernel
theorem own_d5_4 : decode jdk_42_method_56_code 4 = .ok (.ifCond .eq 12, 3) := by decide +kernel
theorem own_d5_7 : decode jdk_42_method_56_code 7 = .ok (.aload_n 0, 1) := by decide +kernel
theorem own_d5_8 : decode jdk_42_method_56_code 8 = .ok (.getfield 9, 3) := by decide +kernel
theorem own_d5_11 : decode jdk_42_method_56_code 11 = .ok (.iload_n 1, 1) := by decide +kernel
theorem own_d5_12 : decode jdk_42_method_56_code 12 = .ok (.invokestatic 495, 3) := by decide +kernel
theorem own_pd___BI_C : parseMethodDescriptor "([BI)C" = some ⟨[(.array .byte), .int], some .char⟩ := by decide +kernel
theorem own_d5_15 : decode jdk_42_method_56_code 15 = .ok (.ireturn, 1) := by decide +kernel
theorem own_ef_own_rchar (m : MethodId) (a1 : Addr) (p1 : Int32) : entryFrame m #[(.ref a1), (.int p1)] 2 = mkF m 0 #[rv a1, iv p1] [] := by first | (simp [entryFrame, mkF, argsToLocals, Value.category]; done) | rfl
def own_Q_own_rchar (Z : State) (a1 : Addr) (p1 : Int32) (cz : Int32) (fm : Value) (t : Addr) (kb : ClassId) (N : Int32) (vs : List Value) (x : Int32) (h0 : Heap) (n0 : Nat) (v : Option Value) (h : Heap) (L : List Loc) : Prop := v = some (.int (x &&& (255 : Int32))) ∧ Fr n0 L ∧ h = h0
set_option maxRecDepth 65536 in
set_option maxHeartbeats 40000000 in
theorem own_rchar (l : Launch) (Z : State) (a0 : Array Value) (hw : ∀ d ∈ tables_1, d.before a0 Z = true) (ws : List Jvm.Cond) (a1 : Addr) (p1 : Int32) (cz : Int32) (fm : Value) (t : Addr) (kb : ClassId) (N : Int32) (vs : List Value) (x : Int32) (h0 : Heap) (n0 : Nat) (Z0 : n0 ≤ h0.size) (O : Old Z n0 h0) (SC : Sta Z Z.heap "java/lang/String" "COMPACT_STRINGS" "Z" (.int cz)) (SF : Sta Z Z.heap "jdk/internal/util/Preconditions" "SIOOBE_FORMATTER" "Ljava/util/function/BiFunction;" fm) (Ex : Exa Z h0 a1 "java/lang/String") (Fv : Fld Z h0 a1 "java/lang/String" "value" "[B" (.ref t)) (Fc : Fld Z h0 a1 "java/lang/String" "coder" "B" (.int (0 : Int32))) (Va : Arv Z h0 t kb .byte N vs (.int (0 : Int32))) (hz : ¬ (cz = (0 : Int32))) (rfm : fm.isRef = true) (hj : ¬ (p1 < (0 : Int32)) ∧ p1 < N) (hat : vs.getD p1.toNatClampNeg (.int (0 : Int32)) = .int x) :
    MetFree l (⟨"java/lang/String", "charAt", "(I)C"⟩ : MethodName) (head1 (Jvm.Cond.code (⟨"java/lang/String", "charAt", "(I)C"⟩ : MethodName) jdk_42_method_56_code 2 (some .char) :: ws) ({ frames := 3, cells := 0, slots := 0, locals := 40 } : Room)) (fun a U => a = #[(.ref a1), (.int p1)] ∧ Z.Warmed39 U.vm ∧ U.heap = h0) (fun _ _ _ _ _ => True) (fun _ U o U' => ∃ v L, o = .returned v ∧ own_Q_own_rchar Z a1 p1 cz fm t kb N vs x h0 n0 v U'.heap L ∧ FrameEnd U o U' L ({ frames := 3, cells := 0, slots := 0, locals := 40 } : Room).cells ({ frames := 3, cells := 0, slots := 0, locals := 40 } : Room).slots) := by
  refine MetFree.of_bodySF (plainFor_of_name own_pn_java_lang_String) hisR ?_
  intro p e s m args below meth c s₁ Bd hml0 hP hK
  obtain ⟨rfl, hZ, hh⟩ := hP
  have hx := Bd.exec
  have hby := Bd.bytes
  have hml : c.maxLocals = 2 := hml0
  have hown : s.vm.findClass "java/lang/String" = some m.cls := findClass_of_methodNamed Bd.named
  have hnm := (name_of_methodNamed Bd.named Bd.method).1
  have X0 : Stand p l e ({ frames := 3, cells := 0, slots := 0, locals := 40 } : Room) s m #[(.ref a1), (.int p1)] below meth c s₁ [] 0 0 := Stand.of_body Bd
  have e0 : s₁.heap = h0 := by rw [← hh, Bd.state]; rfl
  have N0 := Fr.nil n0
  show own_Go p e below s (own_Q_own_rchar Z a1 p1 cz fm t kb N vs x h0 n0) ({ frames := 3, cells := 0, slots := 0, locals := 40 } : Room).cells ({ frames := 3, cells := 0, slots := 0, locals := 40 } : Room).slots (s₁.setTop (entryFrame m #[(.ref a1), (.int p1)] 2))
  refine own_go (fun zt zk => castTop (own_ef_own_rchar m a1 p1) zk) ?_
  show own_Go p e below s _ _ _ (s₁.setTop (mkF m 0 #[rv a1, iv p1] []))
  refine own_go (fun zt zk => (XS.aloadN X0.here hx rfl (hb hby own_d5_0) rfl rfl zk)) ?_
  show own_Go p e below s _ _ _ (s₁.setTop (mkF m 1 #[rv a1, iv p1] [(.ref a1)]))
  obtain ⟨cq1, kq1, qa1, qb1, qc1⟩ := isOf hZ e0 Ex
  obtain ⟨_, _, ⟨T1, L1, k1, n1⟩, -, X1, ⟨Lc1, hQ1, l1, y1, z1⟩, st1⟩ := X0.virtualBack hx (y := (⟨"java/lang/String", "isLatin1", "()Z"⟩ : MethodName)) (z := (⟨"java/lang/String", "isLatin1", "()Z"⟩ : MethodName)) hown (mvT hZ (hw _ (List.mem_of_getElem? (i := 36) rfl))) (mvT hZ (hw _ (List.mem_of_getElem? (i := 37) rfl))) (notFace_of_selects (args := #[]) (mvT hZ (hw _ (List.mem_of_getElem? (i := 39) rfl)))) (mvT hZ (hw _ (List.mem_of_getElem? (i := 39) rfl))) (mvT hZ (hw _ (List.mem_of_getElem? (i := 38) rfl))) (by decide) (backOf (W := 0) (own_risl l Z a0 hw [] a1 cz h0 n0 Z0 O SC Fc hz) hZ (hw _ (List.mem_of_getElem? (i := 40) rfl)) (hw _ (List.mem_of_getElem? (i := 19) rfl)) (by decide) (by decide)) qa1 qc1 (g := (mkF m 1 #[rv a1, iv p1] [(.ref a1)])) rfl (by rw [hml]; rfl) (Steps.refl _) (argsL := []) (rest := []) (lenOf own_pd___Z rfl) rfl (by show 2 * 0 + _ ≤ _; exact Nat.le_of_eq rfl) (hb hby own_d5_1) (fun _ _ => ⟨rfl, e0, (by decide : 0 + 0 ≤ _), (by decide : 0 + 0 ≤ _)⟩)
  dsimp only [Pt.U, Pt.locs, Pt.cells, Pt.slots] at X1 l1 y1 z1 st1 hQ1
  subst l1 y1 z1
  obtain ⟨rfl, Nq1, e1⟩ := hQ1
  have N1 := Fr.app N0 Nq1
  refine own_go (fun zt zk => st1.trans zk) ?_
  show own_Go p e below s _ _ _ (T1.setTop (mkF m 4 #[rv a1, iv p1] [(.int (1 : Int32))]))
  refine own_go (fun zt zk => (XS.ifNo X1.here hx rfl (hb hby own_d5_4) rfl ((if0 _ _).trans (feq ((by decide) : ¬ ((1 : Int32) = (0 : Int32)))).1) (XS.aloadN X1.here hx rfl (hb hby own_d5_7) rfl rfl zk))) ?_
  show own_Go p e below s _ _ _ (T1.setTop (mkF m 8 #[rv a1, iv p1] [(.ref a1)]))
  obtain ⟨T2, X2, e2, st2⟩ := getF X1 hx hZ hown (host := "") (Or.inl (hw _ (List.mem_of_getElem? (i := 21) rfl))) Via.refl e1 Fv (g := (mkF m 8 #[rv a1, iv p1] [(.ref a1)])) rfl rfl (hb hby own_d5_8)
  refine own_go st2 ?_
  show own_Go p e below s _ _ _ (T2.setTop (mkF m 11 #[rv a1, iv p1] [(.ref t)]))
  refine own_go (fun zt zk => (XS.iloadN X2.here hx rfl (hb hby own_d5_11) rfl zk)) ?_
  show own_Go p e below s _ _ _ (T2.setTop (mkF m 12 #[rv a1, iv p1] [(.int p1), (.ref t)]))
  obtain ⟨_, _, ⟨T3, L3, k3, n3⟩, -, X3, ⟨Lc3, hQ3, l3, y3, z3⟩, st3⟩ := Jvm.LawKit.callS X2 hx (y := (⟨"java/lang/StringLatin1", "charAt", "([BI)C"⟩ : MethodName)) hown (mvT hZ (hw _ (List.mem_of_getElem? (i := 41) rfl))) (mvT hZ (hw _ (List.mem_of_getElem? (i := 42) rfl))) (mvT hZ (hw _ (List.mem_of_getElem? (i := 43) rfl))) (mvT hZ (hw _ (List.mem_of_getElem? (i := 44) rfl))) (by decide) (backOf (W := 0) (own_rlch l Z a0 hw [] t p1 fm kb N vs x h0 n0 Z0 O SF Va rfm hj hat) hZ (hw _ (List.mem_of_getElem? (i := 44) rfl)) (hw _ (List.mem_of_getElem? (i := 43) rfl)) (by decide) (by decide)) (g := (mkF m 12 #[rv a1, iv p1] [(.int p1), (.ref t)])) rfl (by rw [hml]; rfl) (argsL := [(.ref t), (.int p1)]) (rest := []) (lenOf own_pd___BI_C rfl) rfl (by show 2 * 0 + _ ≤ _; exact Nat.le_of_eq rfl) (hb hby own_d5_12) (fun _ _ => ⟨rfl, e2, (by decide : 0 + 0 ≤ _), (by decide : 0 + 0 ≤ _)⟩)
  dsimp only [Pt.U, Pt.locs, Pt.cells, Pt.slots] at X3 l3 y3 z3 st3 hQ3
  subst l3 y3 z3
  obtain ⟨rfl, Nq3, e3⟩ := hQ3
  have N3 := Fr.app N1 Nq3
  refine own_go st3 ?_
  show own_Go p e below s _ _ _ (T3.setTop (mkF m 15 #[rv a1, iv p1] [(.int (x &&& (255 : Int32)))]))
  exact own_fin X3 Bd.notSynchronized (fun h => by rw [Bd.returns] at h; cases h) (fun fs hr => retN X3 hx (t := .char) Bd.returns (by simp) (hb hby own_d5_15) hr) (by rw [e3]; exact ⟨congrArg (fun z => some (Value.int z)) (i2c_mask x), N3, rfl⟩) (by decide) (by decide)
theorem own_d1_0 : decode method_2_code 0 = .ok (.iload_n 0, 1) := by decide +kernel
theorem own_d1_1 : decode method_2_code 1 = .ok (.ifCond .ne 7, 3) := by decide +kernel
theorem own_d1_4 : decode method_2_code 4 = .ok (.getstatic 7, 3) := by decide +kernel
theorem own_d1_7 : decode method_2_code 7 = .ok (.areturn, 1) := by decide +kernel
theorem own_pn_com_example_riskscan_riskscan_model_SeriesTypeIsOptionPinLaw : plainName "com/example/riskscan/riskscan/model/SeriesTypeIsOptionPinLaw" = true := by first | (simp [plainName, overriddenIn]; done) | decide +kernel
theorem own_ef_own_rpick0 (m : MethodId)  : entryFrame m #[(.int (0 : Int32))] 1 = mkF m 0 #[iv (0 : Int32)] [] := by first | (simp [entryFrame, mkF, argsToLocals, Value.category]; done) | rfl
def own_Q_own_rpick0 (Z : State) (o_FUTURE : Addr) (h0 : Heap) (n0 : Nat) (v : Option Value) (h : Heap) (L : List Loc) : Prop := v = some (.ref o_FUTURE) ∧ Fr n0 L ∧ h = h0
set_option maxRecDepth 65536 in
set_option maxHeartbeats 40000000 in
theorem own_rpick0 (l : Launch) (Z : State) (a0 : Array Value) (hw : ∀ d ∈ tables_1, d.before a0 Z = true) (ws : List Jvm.Cond) (o_FUTURE : Addr) (h0 : Heap) (n0 : Nat) (Z0 : n0 ≤ h0.size) (O : Old Z n0 h0) (S_o_FUTURE : Sta Z Z.heap "com/example/riskscan/riskscan/model/SeriesType" "FUTURE" "Lcom/example/riskscan/riskscan/model/SeriesType;" (.ref o_FUTURE))  :
    MetFree l (⟨"com/example/riskscan/riskscan/model/SeriesTypeIsOptionPinLaw", "pick", "(I)Lcom/example/riskscan/riskscan/model/SeriesType;"⟩ : MethodName) (head1 (Jvm.Cond.code (⟨"com/example/riskscan/riskscan/model/SeriesTypeIsOptionPinLaw", "pick", "(I)Lcom/example/riskscan/riskscan/model/SeriesType;"⟩ : MethodName) method_2_code 1 (some (.object "com/example/riskscan/riskscan/model/SeriesType")) :: ws) ({ frames := 0, cells := 0, slots := 0, locals := 0 } : Room)) (fun a U => a = #[(.int (0 : Int32))] ∧ Z.Warmed39 U.vm ∧ U.heap = h0) (fun _ _ _ _ _ => True) (fun _ U o U' => ∃ v L, o = .returned v ∧ own_Q_own_rpick0 Z o_FUTURE h0 n0 v U'.heap L ∧ FrameEnd U o U' L ({ frames := 0, cells := 0, slots := 0, locals := 0 } : Room).cells ({ frames := 0, cells := 0, slots := 0, locals := 0 } : Room).slots) := by
  refine MetFree.of_bodySF (plainFor_of_name own_pn_com_example_riskscan_riskscan_model_SeriesTypeIsOptionPinLaw) hisR ?_
  intro p e s m args below meth c s₁ Bd hml0 hP hK
  obtain ⟨rfl, hZ, hh⟩ := hP
  have hx := Bd.exec
  have hby := Bd.bytes
  have hml : c.maxLocals = 1 := hml0
  have hown : s.vm.findClass "com/example/riskscan/riskscan/model/SeriesTypeIsOptionPinLaw" = some m.cls := findClass_of_methodNamed Bd.named
  have hnm := (name_of_methodNamed Bd.named Bd.method).1
  have X0 : Stand p l e ({ frames := 0, cells := 0, slots := 0, locals := 0 } : Room) s m #[(.int (0 : Int32))] below meth c s₁ [] 0 0 := Stand.of_body Bd
  have e0 : s₁.heap = h0 := by rw [← hh, Bd.state]; rfl
  have N0 := Fr.nil n0
  show own_Go p e below s (own_Q_own_rpick0 Z o_FUTURE h0 n0) ({ frames := 0, cells := 0, slots := 0, locals := 0 } : Room).cells ({ frames := 0, cells := 0, slots := 0, locals := 0 } : Room).slots (s₁.setTop (entryFrame m #[(.int (0 : Int32))] 1))
  refine own_go (fun zt zk => castTop (own_ef_own_rpick0 m) zk) ?_
  show own_Go p e below s _ _ _ (s₁.setTop (mkF m 0 #[iv (0 : Int32)] []))
  refine own_go (fun zt zk => (XS.iloadN X0.here hx rfl (hb hby own_d1_0) rfl (XS.ifNo X0.here hx rfl (hb hby own_d1_1) rfl ((if0 _ _).trans (teq (rfl : (0 : Int32) = (0 : Int32))).2) zk))) ?_
  show own_Go p e below s _ _ _ (s₁.setTop (mkF m 4 #[iv (0 : Int32)] []))
  obtain ⟨T1, X1, e1, st1⟩ := getS2 X0 hx hZ hown (host := "") (Or.inl (hw _ (List.mem_of_getElem? (i := 5) rfl))) Via.refl e0 (S_o_FUTURE.ext O.2) (g := (mkF m 4 #[iv (0 : Int32)] [])) rfl (hb hby own_d1_4)
  refine own_go st1 ?_
  show own_Go p e below s _ _ _ (T1.setTop (mkF m 7 #[iv (0 : Int32)] [(.ref o_FUTURE)]))
  exact own_fin X1 Bd.notSynchronized (fun h => by rw [Bd.returns] at h; cases h) (fun fs hr => retOut X1 hx (t := (.object "com/example/riskscan/riskscan/model/SeriesType")) (w := (.ref o_FUTURE)) Bd.returns rfl (Or.inr (Or.inr (Or.inr (Or.inr ⟨rfl, rfl, rfl⟩)))) (hb hby own_d1_7) hr) (by rw [e1]; exact ⟨rfl, N0, rfl⟩) (by decide) (by decide)
theorem own_d1_8 : decode method_2_code 8 = .ok (.iload_n 0, 1) := by decide +kernel
theorem own_d1_9 : decode method_2_code 9 = .ok (.iconst 1, 1) := by decide +kernel
theorem own_d1_10 : decode method_2_code 10 = .ok (.if_icmp .ne 7, 3) := by decide +kernel
theorem own_d1_13 : decode method_2_code 13 = .ok (.getstatic 13, 3) := by decide +kernel
theorem own_d1_16 : decode method_2_code 16 = .ok (.areturn, 1) := by decide +kernel
theorem own_ef_own_rpick1 (m : MethodId)  : entryFrame m #[(.int (1 : Int32))] 1 = mkF m 0 #[iv (1 : Int32)] [] := by first | (simp [entryFrame, mkF, argsToLocals, Value.category]; done) | rfl
def own_Q_own_rpick1 (Z : State) (o_CALL : Addr) (h0 : Heap) (n0 : Nat) (v : Option Value) (h : Heap) (L : List Loc) : Prop := v = some (.ref o_CALL) ∧ Fr n0 L ∧ h = h0
set_option maxRecDepth 65536 in
set_option maxHeartbeats 40000000 in
theorem own_rpick1 (l : Launch) (Z : State) (a0 : Array Value) (hw : ∀ d ∈ tables_1, d.before a0 Z = true) (ws : List Jvm.Cond) (o_CALL : Addr) (h0 : Heap) (n0 : Nat) (Z0 : n0 ≤ h0.size) (O : Old Z n0 h0) (S_o_CALL : Sta Z Z.heap "com/example/riskscan/riskscan/model/SeriesType" "CALL" "Lcom/example/riskscan/riskscan/model/SeriesType;" (.ref o_CALL))  :
    MetFree l (⟨"com/example/riskscan/riskscan/model/SeriesTypeIsOptionPinLaw", "pick", "(I)Lcom/example/riskscan/riskscan/model/SeriesType;"⟩ : MethodName) (head1 (Jvm.Cond.code (⟨"com/example/riskscan/riskscan/model/SeriesTypeIsOptionPinLaw", "pick", "(I)Lcom/example/riskscan/riskscan/model/SeriesType;"⟩ : MethodName) method_2_code 1 (some (.object "com/example/riskscan/riskscan/model/SeriesType")) :: ws) ({ frames := 0, cells := 0, slots := 0, locals := 0 } : Room)) (fun a U => a = #[(.int (1 : Int32))] ∧ Z.Warmed39 U.vm ∧ U.heap = h0) (fun _ _ _ _ _ => True) (fun _ U o U' => ∃ v L, o = .returned v ∧ own_Q_own_rpick1 Z o_CALL h0 n0 v U'.heap L ∧ FrameEnd U o U' L ({ frames := 0, cells := 0, slots := 0, locals := 0 } : Room).cells ({ frames := 0, cells := 0, slots := 0, locals := 0 } : Room).slots) := by
  refine MetFree.of_bodySF (plainFor_of_name own_pn_com_example_riskscan_riskscan_model_SeriesTypeIsOptionPinLaw) hisR ?_
  intro p e s m args below meth c s₁ Bd hml0 hP hK
  obtain ⟨rfl, hZ, hh⟩ := hP
  have hx := Bd.exec
  have hby := Bd.bytes
  have hml : c.maxLocals = 1 := hml0
  have hown : s.vm.findClass "com/example/riskscan/riskscan/model/SeriesTypeIsOptionPinLaw" = some m.cls := findClass_of_methodNamed Bd.named
  have hnm := (name_of_methodNamed Bd.named Bd.method).1
  have X0 : Stand p l e ({ frames := 0, cells := 0, slots := 0, locals := 0 } : Room) s m #[(.int (1 : Int32))] below meth c s₁ [] 0 0 := Stand.of_body Bd
  have e0 : s₁.heap = h0 := by rw [← hh, Bd.state]; rfl
  have N0 := Fr.nil n0
  show own_Go p e below s (own_Q_own_rpick1 Z o_CALL h0 n0) ({ frames := 0, cells := 0, slots := 0, locals := 0 } : Room).cells ({ frames := 0, cells := 0, slots := 0, locals := 0 } : Room).slots (s₁.setTop (entryFrame m #[(.int (1 : Int32))] 1))
  refine own_go (fun zt zk => castTop (own_ef_own_rpick1 m) zk) ?_
  show own_Go p e below s _ _ _ (s₁.setTop (mkF m 0 #[iv (1 : Int32)] []))
  refine own_go (fun zt zk => (XS.iloadN X0.here hx rfl (hb hby own_d1_0) rfl (XS.ifYes X0.here hx rfl (pc0 := 1) (pc' := 8) rfl (hb hby own_d1_1) rfl ((if0 _ _).trans (feq ((by decide) : ¬ ((1 : Int32) = (0 : Int32)))).2) (by decide) (by decide) (XS.iloadN X0.here hx rfl (hb hby own_d1_8) rfl (XS.iconst X0.here hx rfl (hb hby own_d1_9) (XS.icmpNo X0.here hx rfl (hb hby own_d1_10) rfl (teq (rfl : (1 : Int32) = (1 : Int32))).2 zk)))))) ?_
  show own_Go p e below s _ _ _ (s₁.setTop (mkF m 13 #[iv (1 : Int32)] []))
  obtain ⟨T1, X1, e1, st1⟩ := getS2 X0 hx hZ hown (host := "") (Or.inl (hw _ (List.mem_of_getElem? (i := 61) rfl))) Via.refl e0 (S_o_CALL.ext O.2) (g := (mkF m 13 #[iv (1 : Int32)] [])) rfl (hb hby own_d1_13)
  refine own_go st1 ?_
  show own_Go p e below s _ _ _ (T1.setTop (mkF m 16 #[iv (1 : Int32)] [(.ref o_CALL)]))
  exact own_fin X1 Bd.notSynchronized (fun h => by rw [Bd.returns] at h; cases h) (fun fs hr => retOut X1 hx (t := (.object "com/example/riskscan/riskscan/model/SeriesType")) (w := (.ref o_CALL)) Bd.returns rfl (Or.inr (Or.inr (Or.inr (Or.inr ⟨rfl, rfl, rfl⟩)))) (hb hby own_d1_16) hr) (by rw [e1]; exact ⟨rfl, N0, rfl⟩) (by decide) (by decide)
theorem own_d1_17 : decode method_2_code 17 = .ok (.iload_n 0, 1) := by decide +kernel
theorem own_d1_18 : decode method_2_code 18 = .ok (.iconst 2, 1) := by decide +kernel
theorem own_d1_19 : decode method_2_code 19 = .ok (.if_icmp .ne 7, 3) := by decide +kernel
theorem own_d1_22 : decode method_2_code 22 = .ok (.getstatic 16, 3) := by decide +kernel
theorem own_d1_25 : decode method_2_code 25 = .ok (.areturn, 1) := by decide +kernel
theorem own_ef_own_rpick2 (m : MethodId)  : entryFrame m #[(.int (2 : Int32))] 1 = mkF m 0 #[iv (2 : Int32)] [] := by first | (simp [entryFrame, mkF, argsToLocals, Value.category]; done) | rfl
def own_Q_own_rpick2 (Z : State) (o_PUT : Addr) (h0 : Heap) (n0 : Nat) (v : Option Value) (h : Heap) (L : List Loc) : Prop := v = some (.ref o_PUT) ∧ Fr n0 L ∧ h = h0
set_option maxRecDepth 65536 in
set_option maxHeartbeats 40000000 in
theorem own_rpick2 (l : Launch) (Z : State) (a0 : Array Value) (hw : ∀ d ∈ tables_1, d.before a0 Z = true) (ws : List Jvm.Cond) (o_PUT : Addr) (h0 : Heap) (n0 : Nat) (Z0 : n0 ≤ h0.size) (O : Old Z n0 h0) (S_o_PUT : Sta Z Z.heap "com/example/riskscan/riskscan/model/SeriesType" "PUT" "Lcom/example/riskscan/riskscan/model/SeriesType;" (.ref o_PUT))  :
    MetFree l (⟨"com/example/riskscan/riskscan/model/SeriesTypeIsOptionPinLaw", "pick", "(I)Lcom/example/riskscan/riskscan/model/SeriesType;"⟩ : MethodName) (head1 (Jvm.Cond.code (⟨"com/example/riskscan/riskscan/model/SeriesTypeIsOptionPinLaw", "pick", "(I)Lcom/example/riskscan/riskscan/model/SeriesType;"⟩ : MethodName) method_2_code 1 (some (.object "com/example/riskscan/riskscan/model/SeriesType")) :: ws) ({ frames := 0, cells := 0, slots := 0, locals := 0 } : Room)) (fun a U => a = #[(.int (2 : Int32))] ∧ Z.Warmed39 U.vm ∧ U.heap = h0) (fun _ _ _ _ _ => True) (fun _ U o U' => ∃ v L, o = .returned v ∧ own_Q_own_rpick2 Z o_PUT h0 n0 v U'.heap L ∧ FrameEnd U o U' L ({ frames := 0, cells := 0, slots := 0, locals := 0 } : Room).cells ({ frames := 0, cells := 0, slots := 0, locals := 0 } : Room).slots) := by
  refine MetFree.of_bodySF (plainFor_of_name own_pn_com_example_riskscan_riskscan_model_SeriesTypeIsOptionPinLaw) hisR ?_
  intro p e s m args below meth c s₁ Bd hml0 hP hK
  obtain ⟨rfl, hZ, hh⟩ := hP
  have hx := Bd.exec
  have hby := Bd.bytes
  have hml : c.maxLocals = 1 := hml0
  have hown : s.vm.findClass "com/example/riskscan/riskscan/model/SeriesTypeIsOptionPinLaw" = some m.cls := findClass_of_methodNamed Bd.named
  have hnm := (name_of_methodNamed Bd.named Bd.method).1
  have X0 : Stand p l e ({ frames := 0, cells := 0, slots := 0, locals := 0 } : Room) s m #[(.int (2 : Int32))] below meth c s₁ [] 0 0 := Stand.of_body Bd
  have e0 : s₁.heap = h0 := by rw [← hh, Bd.state]; rfl
  have N0 := Fr.nil n0
  show own_Go p e below s (own_Q_own_rpick2 Z o_PUT h0 n0) ({ frames := 0, cells := 0, slots := 0, locals := 0 } : Room).cells ({ frames := 0, cells := 0, slots := 0, locals := 0 } : Room).slots (s₁.setTop (entryFrame m #[(.int (2 : Int32))] 1))
  refine own_go (fun zt zk => castTop (own_ef_own_rpick2 m) zk) ?_
  show own_Go p e below s _ _ _ (s₁.setTop (mkF m 0 #[iv (2 : Int32)] []))
  refine own_go (fun zt zk => (XS.iloadN X0.here hx rfl (hb hby own_d1_0) rfl (XS.ifYes X0.here hx rfl (pc0 := 1) (pc' := 8) rfl (hb hby own_d1_1) rfl ((if0 _ _).trans (feq ((by decide) : ¬ ((2 : Int32) = (0 : Int32)))).2) (by decide) (by decide) (XS.iloadN X0.here hx rfl (hb hby own_d1_8) rfl (XS.iconst X0.here hx rfl (hb hby own_d1_9) (XS.icmpYes X0.here hx rfl (pc0 := 10) (pc' := 17) rfl (hb hby own_d1_10) rfl (feq ((by decide) : ¬ ((2 : Int32) = (1 : Int32)))).2 (by decide) (by decide) (XS.iloadN X0.here hx rfl (hb hby own_d1_17) rfl (XS.iconst X0.here hx rfl (hb hby own_d1_18) (XS.icmpNo X0.here hx rfl (hb hby own_d1_19) rfl (teq (rfl : (2 : Int32) = (2 : Int32))).2 zk))))))))) ?_
  show own_Go p e below s _ _ _ (s₁.setTop (mkF m 22 #[iv (2 : Int32)] []))
  obtain ⟨T1, X1, e1, st1⟩ := getS2 X0 hx hZ hown (host := "") (Or.inl (hw _ (List.mem_of_getElem? (i := 65) rfl))) Via.refl e0 (S_o_PUT.ext O.2) (g := (mkF m 22 #[iv (2 : Int32)] [])) rfl (hb hby own_d1_22)
  refine own_go st1 ?_
  show own_Go p e below s _ _ _ (T1.setTop (mkF m 25 #[iv (2 : Int32)] [(.ref o_PUT)]))
  exact own_fin X1 Bd.notSynchronized (fun h => by rw [Bd.returns] at h; cases h) (fun fs hr => retOut X1 hx (t := (.object "com/example/riskscan/riskscan/model/SeriesType")) (w := (.ref o_PUT)) Bd.returns rfl (Or.inr (Or.inr (Or.inr (Or.inr ⟨rfl, rfl, rfl⟩)))) (hb hby own_d1_25) hr) (by rw [e1]; exact ⟨rfl, N0, rfl⟩) (by decide) (by decide)
theorem own_d1_26 : decode method_2_code 26 = .ok (.iload_n 0, 1) := by decide +kernel
theorem own_d1_27 : decode method_2_code 27 = .ok (.iconst 3, 1) := by decide +kernel
theorem own_d1_28 : decode method_2_code 28 = .ok (.if_icmp .ne 7, 3) := by decide +kernel
theorem own_d1_31 : decode method_2_code 31 = .ok (.getstatic 19, 3) := by decide +kernel
theorem own_d1_34 : decode method_2_code 34 = .ok (.areturn, 1) := by decide +kernel
theorem own_ef_own_rpick3 (m : MethodId)  : entryFrame m #[(.int (3 : Int32))] 1 = mkF m 0 #[iv (3 : Int32)] [] := by first | (simp [entryFrame, mkF, argsToLocals, Value.category]; done) | rfl
def own_Q_own_rpick3 (Z : State) (o_AVERAGE_PRICE_CALL : Addr) (h0 : Heap) (n0 : Nat) (v : Option Value) (h : Heap) (L : List Loc) : Prop := v = some (.ref o_AVERAGE_PRICE_CALL) ∧ Fr n0 L ∧ h = h0
set_option maxRecDepth 65536 in
set_option maxHeartbeats 40000000 in
theorem own_rpick3 (l : Launch) (Z : State) (a0 : Array Value) (hw : ∀ d ∈ tables_1, d.before a0 Z = true) (ws : List Jvm.Cond) (o_AVERAGE_PRICE_CALL : Addr) (h0 : Heap) (n0 : Nat) (Z0 : n0 ≤ h0.size) (O : Old Z n0 h0) (S_o_AVERAGE_PRICE_CALL : Sta Z Z.heap "com/example/riskscan/riskscan/model/SeriesType" "AVERAGE_PRICE_CALL" "Lcom/example/riskscan/riskscan/model/SeriesType;" (.ref o_AVERAGE_PRICE_CALL))  :
    MetFree l (⟨"com/example/riskscan/riskscan/model/SeriesTypeIsOptionPinLaw", "pick", "(I)Lcom/example/riskscan/riskscan/model/SeriesType;"⟩ : MethodName) (head1 (Jvm.Cond.code (⟨"com/example/riskscan/riskscan/model/SeriesTypeIsOptionPinLaw", "pick", "(I)Lcom/example/riskscan/riskscan/model/SeriesType;"⟩ : MethodName) method_2_code 1 (some (.object "com/example/riskscan/riskscan/model/SeriesType")) :: ws) ({ frames := 0, cells := 0, slots := 0, locals := 0 } : Room)) (fun a U => a = #[(.int (3 : Int32))] ∧ Z.Warmed39 U.vm ∧ U.heap = h0) (fun _ _ _ _ _ => True) (fun _ U o U' => ∃ v L, o = .returned v ∧ own_Q_own_rpick3 Z o_AVERAGE_PRICE_CALL h0 n0 v U'.heap L ∧ FrameEnd U o U' L ({ frames := 0, cells := 0, slots := 0, locals := 0 } : Room).cells ({ frames := 0, cells := 0, slots := 0, locals := 0 } : Room).slots) := by
  refine MetFree.of_bodySF (plainFor_of_name own_pn_com_example_riskscan_riskscan_model_SeriesTypeIsOptionPinLaw) hisR ?_
  intro p e s m args below meth c s₁ Bd hml0 hP hK
  obtain ⟨rfl, hZ, hh⟩ := hP
  have hx := Bd.exec
  have hby := Bd.bytes
  have hml : c.maxLocals = 1 := hml0
  have hown : s.vm.findClass "com/example/riskscan/riskscan/model/SeriesTypeIsOptionPinLaw" = some m.cls := findClass_of_methodNamed Bd.named
  have hnm := (name_of_methodNamed Bd.named Bd.method).1
  have X0 : Stand p l e ({ frames := 0, cells := 0, slots := 0, locals := 0 } : Room) s m #[(.int (3 : Int32))] below meth c s₁ [] 0 0 := Stand.of_body Bd
  have e0 : s₁.heap = h0 := by rw [← hh, Bd.state]; rfl
  have N0 := Fr.nil n0
  show own_Go p e below s (own_Q_own_rpick3 Z o_AVERAGE_PRICE_CALL h0 n0) ({ frames := 0, cells := 0, slots := 0, locals := 0 } : Room).cells ({ frames := 0, cells := 0, slots := 0, locals := 0 } : Room).slots (s₁.setTop (entryFrame m #[(.int (3 : Int32))] 1))
  refine own_go (fun zt zk => castTop (own_ef_own_rpick3 m) zk) ?_
  show own_Go p e below s _ _ _ (s₁.setTop (mkF m 0 #[iv (3 : Int32)] []))
  refine own_go (fun zt zk => (XS.iloadN X0.here hx rfl (hb hby own_d1_0) rfl (XS.ifYes X0.here hx rfl (pc0 := 1) (pc' := 8) rfl (hb hby own_d1_1) rfl ((if0 _ _).trans (feq ((by decide) : ¬ ((3 : Int32) = (0 : Int32)))).2) (by decide) (by decide) (XS.iloadN X0.here hx rfl (hb hby own_d1_8) rfl (XS.iconst X0.here hx rfl (hb hby own_d1_9) (XS.icmpYes X0.here hx rfl (pc0 := 10) (pc' := 17) rfl (hb hby own_d1_10) rfl (feq ((by decide) : ¬ ((3 : Int32) = (1 : Int32)))).2 (by decide) (by decide) (XS.iloadN X0.here hx rfl (hb hby own_d1_17) rfl (XS.iconst X0.here hx rfl (hb hby own_d1_18) (XS.icmpYes X0.here hx rfl (pc0 := 19) (pc' := 26) rfl (hb hby own_d1_19) rfl (feq ((by decide) : ¬ ((3 : Int32) = (2 : Int32)))).2 (by decide) (by decide) (XS.iloadN X0.here hx rfl (hb hby own_d1_26) rfl (XS.iconst X0.here hx rfl (hb hby own_d1_27) (XS.icmpNo X0.here hx rfl (hb hby own_d1_28) rfl (teq (rfl : (3 : Int32) = (3 : Int32))).2 zk)))))))))))) ?_
  show own_Go p e below s _ _ _ (s₁.setTop (mkF m 31 #[iv (3 : Int32)] []))
  obtain ⟨T1, X1, e1, st1⟩ := getS2 X0 hx hZ hown (host := "") (Or.inl (hw _ (List.mem_of_getElem? (i := 59) rfl))) Via.refl e0 (S_o_AVERAGE_PRICE_CALL.ext O.2) (g := (mkF m 31 #[iv (3 : Int32)] [])) rfl (hb hby own_d1_31)
  refine own_go st1 ?_
  show own_Go p e below s _ _ _ (T1.setTop (mkF m 34 #[iv (3 : Int32)] [(.ref o_AVERAGE_PRICE_CALL)]))
  exact own_fin X1 Bd.notSynchronized (fun h => by rw [Bd.returns] at h; cases h) (fun fs hr => retOut X1 hx (t := (.object "com/example/riskscan/riskscan/model/SeriesType")) (w := (.ref o_AVERAGE_PRICE_CALL)) Bd.returns rfl (Or.inr (Or.inr (Or.inr (Or.inr ⟨rfl, rfl, rfl⟩)))) (hb hby own_d1_34) hr) (by rw [e1]; exact ⟨rfl, N0, rfl⟩) (by decide) (by decide)
theorem own_d1_35 : decode method_2_code 35 = .ok (.getstatic 22, 3) := by decide +kernel
theorem own_d1_38 : decode method_2_code 38 = .ok (.areturn, 1) := by decide +kernel
theorem own_ef_own_rpick4 (m : MethodId) (p1 : Int32) : entryFrame m #[(.int p1)] 1 = mkF m 0 #[iv p1] [] := by first | (simp [entryFrame, mkF, argsToLocals, Value.category]; done) | rfl
def own_Q_own_rpick4 (Z : State) (p1 : Int32) (o_AVERAGE_PRICE_PUT : Addr) (h0 : Heap) (n0 : Nat) (v : Option Value) (h : Heap) (L : List Loc) : Prop := v = some (.ref o_AVERAGE_PRICE_PUT) ∧ Fr n0 L ∧ h = h0
set_option maxRecDepth 65536 in
set_option maxHeartbeats 40000000 in
theorem own_rpick4 (l : Launch) (Z : State) (a0 : Array Value) (hw : ∀ d ∈ tables_1, d.before a0 Z = true) (ws : List Jvm.Cond) (p1 : Int32) (o_AVERAGE_PRICE_PUT : Addr) (h0 : Heap) (n0 : Nat) (Z0 : n0 ≤ h0.size) (O : Old Z n0 h0) (S_o_AVERAGE_PRICE_PUT : Sta Z Z.heap "com/example/riskscan/riskscan/model/SeriesType" "AVERAGE_PRICE_PUT" "Lcom/example/riskscan/riskscan/model/SeriesType;" (.ref o_AVERAGE_PRICE_PUT)) (hk0 : ¬ (p1 = (0 : Int32))) (hk1 : ¬ (p1 = (1 : Int32))) (hk2 : ¬ (p1 = (2 : Int32))) (hk3 : ¬ (p1 = (3 : Int32))) :
    MetFree l (⟨"com/example/riskscan/riskscan/model/SeriesTypeIsOptionPinLaw", "pick", "(I)Lcom/example/riskscan/riskscan/model/SeriesType;"⟩ : MethodName) (head1 (Jvm.Cond.code (⟨"com/example/riskscan/riskscan/model/SeriesTypeIsOptionPinLaw", "pick", "(I)Lcom/example/riskscan/riskscan/model/SeriesType;"⟩ : MethodName) method_2_code 1 (some (.object "com/example/riskscan/riskscan/model/SeriesType")) :: ws) ({ frames := 0, cells := 0, slots := 0, locals := 0 } : Room)) (fun a U => a = #[(.int p1)] ∧ Z.Warmed39 U.vm ∧ U.heap = h0) (fun _ _ _ _ _ => True) (fun _ U o U' => ∃ v L, o = .returned v ∧ own_Q_own_rpick4 Z p1 o_AVERAGE_PRICE_PUT h0 n0 v U'.heap L ∧ FrameEnd U o U' L ({ frames := 0, cells := 0, slots := 0, locals := 0 } : Room).cells ({ frames := 0, cells := 0, slots := 0, locals := 0 } : Room).slots) := by
  refine MetFree.of_bodySF (plainFor_of_name own_pn_com_example_riskscan_riskscan_model_SeriesTypeIsOptionPinLaw) hisR ?_
  intro p e s m args below meth c s₁ Bd hml0 hP hK
  obtain ⟨rfl, hZ, hh⟩ := hP
  have hx := Bd.exec
  have hby := Bd.bytes
  have hml : c.maxLocals = 1 := hml0
  have hown : s.vm.findClass "com/example/riskscan/riskscan/model/SeriesTypeIsOptionPinLaw" = some m.cls := findClass_of_methodNamed Bd.named
  have hnm := (name_of_methodNamed Bd.named Bd.method).1
  have X0 : Stand p l e ({ frames := 0, cells := 0, slots := 0, locals := 0 } : Room) s m #[(.int p1)] below meth c s₁ [] 0 0 := Stand.of_body Bd
  have e0 : s₁.heap = h0 := by rw [← hh, Bd.state]; rfl
  have N0 := Fr.nil n0
  show own_Go p e below s (own_Q_own_rpick4 Z p1 o_AVERAGE_PRICE_PUT h0 n0) ({ frames := 0, cells := 0, slots := 0, locals := 0 } : Room).cells ({ frames := 0, cells := 0, slots := 0, locals := 0 } : Room).slots (s₁.setTop (entryFrame m #[(.int p1)] 1))
  refine own_go (fun zt zk => castTop (own_ef_own_rpick4 m p1) zk) ?_
  show own_Go p e below s _ _ _ (s₁.setTop (mkF m 0 #[iv p1] []))
  refine own_go (fun zt zk => (XS.iloadN X0.here hx rfl (hb hby own_d1_0) rfl (XS.ifYes X0.here hx rfl (pc0 := 1) (pc' := 8) rfl (hb hby own_d1_1) rfl ((if0 _ _).trans (feq (hk0 : ¬ (p1 = (0 : Int32)))).2) (by decide) (by decide) (XS.iloadN X0.here hx rfl (hb hby own_d1_8) rfl (XS.iconst X0.here hx rfl (hb hby own_d1_9) (XS.icmpYes X0.here hx rfl (pc0 := 10) (pc' := 17) rfl (hb hby own_d1_10) rfl (feq (hk1 : ¬ (p1 = (1 : Int32)))).2 (by decide) (by decide) (XS.iloadN X0.here hx rfl (hb hby own_d1_17) rfl (XS.iconst X0.here hx rfl (hb hby own_d1_18) (XS.icmpYes X0.here hx rfl (pc0 := 19) (pc' := 26) rfl (hb hby own_d1_19) rfl (feq (hk2 : ¬ (p1 = (2 : Int32)))).2 (by decide) (by decide) (XS.iloadN X0.here hx rfl (hb hby own_d1_26) rfl (XS.iconst X0.here hx rfl (hb hby own_d1_27) (XS.icmpYes X0.here hx rfl (pc0 := 28) (pc' := 35) rfl (hb hby own_d1_28) rfl (feq (hk3 : ¬ (p1 = (3 : Int32)))).2 (by decide) (by decide) zk)))))))))))) ?_
  show own_Go p e below s _ _ _ (s₁.setTop (mkF m 35 #[iv p1] []))
  obtain ⟨T1, X1, e1, st1⟩ := getS2 X0 hx hZ hown (host := "") (Or.inl (hw _ (List.mem_of_getElem? (i := 63) rfl))) Via.refl e0 (S_o_AVERAGE_PRICE_PUT.ext O.2) (g := (mkF m 35 #[iv p1] [])) rfl (hb hby own_d1_35)
  refine own_go st1 ?_
  show own_Go p e below s _ _ _ (T1.setTop (mkF m 38 #[iv p1] [(.ref o_AVERAGE_PRICE_PUT)]))
  exact own_fin X1 Bd.notSynchronized (fun h => by rw [Bd.returns] at h; cases h) (fun fs hr => retOut X1 hx (t := (.object "com/example/riskscan/riskscan/model/SeriesType")) (w := (.ref o_AVERAGE_PRICE_PUT)) Bd.returns rfl (Or.inr (Or.inr (Or.inr (Or.inr ⟨rfl, rfl, rfl⟩)))) (hb hby own_d1_38) hr) (by rw [e1]; exact ⟨rfl, N0, rfl⟩) (by decide) (by decide)
theorem own_d2_0 : decode prog_96_method_4_code 0 = .ok (.aload_n 0, 1) := by decide +kernel
theorem own_d2_1 : decode prog_96_method_4_code 1 = .ok (.getfield 38, 3) := by decide +kernel
theorem own_d2_4 : decode prog_96_method_4_code 4 = .ok (.areturn, 1) := by decide +kernel
theorem own_pn_com_example_riskscan_riskscan_model_SeriesType : plainName "com/example/riskscan/riskscan/model/SeriesType" = true := by first | (simp [plainName, overriddenIn]; done) | decide +kernel
theorem own_ef_own_rletter (m : MethodId) (a1 : Addr) : entryFrame m #[(.ref a1)] 1 = mkF m 0 #[rv a1] [] := by first | (simp [entryFrame, mkF, argsToLocals, Value.category]; done) | rfl
def own_Q_own_rletter (Z : State) (a1 : Addr) (b : Addr) (h0 : Heap) (n0 : Nat) (v : Option Value) (h : Heap) (L : List Loc) : Prop := v = some (.ref b) ∧ Fr n0 L ∧ h = h0
set_option maxRecDepth 65536 in
set_option maxHeartbeats 40000000 in
theorem own_rletter (l : Launch) (Z : State) (a0 : Array Value) (hw : ∀ d ∈ tables_1, d.before a0 Z = true) (ws : List Jvm.Cond) (a1 : Addr) (b : Addr) (h0 : Heap) (n0 : Nat) (Z0 : n0 ≤ h0.size) (F1 : Fld Z h0 a1 "com/example/riskscan/riskscan/model/SeriesType" "letter" "Ljava/lang/String;" (.ref b))  :
    MetFree l (⟨"com/example/riskscan/riskscan/model/SeriesType", "letter", "()Ljava/lang/String;"⟩ : MethodName) (head1 (Jvm.Cond.code (⟨"com/example/riskscan/riskscan/model/SeriesType", "letter", "()Ljava/lang/String;"⟩ : MethodName) prog_96_method_4_code 1 (some (.object "java/lang/String")) :: ws) ({ frames := 0, cells := 0, slots := 0, locals := 0 } : Room)) (fun a U => a = #[(.ref a1)] ∧ Z.Warmed39 U.vm ∧ U.heap = h0) (fun _ _ _ _ _ => True) (fun _ U o U' => ∃ v L, o = .returned v ∧ own_Q_own_rletter Z a1 b h0 n0 v U'.heap L ∧ FrameEnd U o U' L ({ frames := 0, cells := 0, slots := 0, locals := 0 } : Room).cells ({ frames := 0, cells := 0, slots := 0, locals := 0 } : Room).slots) := by
  refine MetFree.of_bodySF (plainFor_of_name own_pn_com_example_riskscan_riskscan_model_SeriesType) hisR ?_
  intro p e s m args below meth c s₁ Bd hml0 hP hK
  obtain ⟨rfl, hZ, hh⟩ := hP
  have hx := Bd.exec
  have hby := Bd.bytes
  have hml : c.maxLocals = 1 := hml0
  have hown : s.vm.findClass "com/example/riskscan/riskscan/model/SeriesType" = some m.cls := findClass_of_methodNamed Bd.named
  have hnm := (name_of_methodNamed Bd.named Bd.method).1
  have X0 : Stand p l e ({ frames := 0, cells := 0, slots := 0, locals := 0 } : Room) s m #[(.ref a1)] below meth c s₁ [] 0 0 := Stand.of_body Bd
  have e0 : s₁.heap = h0 := by rw [← hh, Bd.state]; rfl
  have N0 := Fr.nil n0
  show own_Go p e below s (own_Q_own_rletter Z a1 b h0 n0) ({ frames := 0, cells := 0, slots := 0, locals := 0 } : Room).cells ({ frames := 0, cells := 0, slots := 0, locals := 0 } : Room).slots (s₁.setTop (entryFrame m #[(.ref a1)] 1))
  refine own_go (fun zt zk => castTop (own_ef_own_rletter m a1) zk) ?_
  show own_Go p e below s _ _ _ (s₁.setTop (mkF m 0 #[rv a1] []))
  refine own_go (fun zt zk => (XS.aloadN X0.here hx rfl (hb hby own_d2_0) rfl rfl zk)) ?_
  show own_Go p e below s _ _ _ (s₁.setTop (mkF m 1 #[rv a1] [(.ref a1)]))
  obtain ⟨T1, X1, e1, st1⟩ := getF X0 hx hZ hown (host := "") (Or.inl (hw _ (List.mem_of_getElem? (i := 13) rfl))) Via.refl e0 F1 (g := (mkF m 1 #[rv a1] [(.ref a1)])) rfl rfl (hb hby own_d2_1)
  refine own_go st1 ?_
  show own_Go p e below s _ _ _ (T1.setTop (mkF m 4 #[rv a1] [(.ref b)]))
  exact own_fin X1 Bd.notSynchronized (fun h => by rw [Bd.returns] at h; cases h) (fun fs hr => retOut X1 hx (t := (.object "java/lang/String")) (w := (.ref b)) Bd.returns rfl (Or.inr (Or.inr (Or.inr (Or.inr ⟨rfl, rfl, rfl⟩)))) (hb hby own_d2_4) hr) (by rw [e1]; exact ⟨rfl, N0, rfl⟩) (by decide) (by decide)
theorem own_d10_0 : decode prog_96_method_5_code 0 = .ok (.aload_n 0, 1) := by decide +kernel
theorem own_d10_1 : decode prog_96_method_5_code 1 = .ok (.getstatic 3, 3) := by decide +kernel
theorem own_d10_4 : decode prog_96_method_5_code 4 = .ok (.if_acmp .eq 7, 3) := by decide +kernel
theorem own_d10_7 : decode prog_96_method_5_code 7 = .ok (.iconst 1, 1) := by decide +kernel
theorem own_d10_8 : decode prog_96_method_5_code 8 = .ok (.goto 4, 3) := by decide +kernel
theorem own_d10_12 : decode prog_96_method_5_code 12 = .ok (.ireturn, 1) := by decide +kernel
theorem own_ef_own_rio1 (m : MethodId) (a1 : Addr) : entryFrame m #[(.ref a1)] 1 = mkF m 0 #[rv a1] [] := by first | (simp [entryFrame, mkF, argsToLocals, Value.category]; done) | rfl
def own_Q_own_rio1 (Z : State) (a1 : Addr) (o_FUTURE : Addr) (h0 : Heap) (n0 : Nat) (v : Option Value) (h : Heap) (L : List Loc) : Prop := v = some (.int (1 : Int32)) ∧ Fr n0 L ∧ h = h0
set_option maxRecDepth 65536 in
set_option maxHeartbeats 40000000 in
theorem own_rio1 (l : Launch) (Z : State) (a0 : Array Value) (hw : ∀ d ∈ tables_1, d.before a0 Z = true) (ws : List Jvm.Cond) (a1 : Addr) (o_FUTURE : Addr) (h0 : Heap) (n0 : Nat) (Z0 : n0 ≤ h0.size) (O : Old Z n0 h0) (S_o_FUTURE : Sta Z Z.heap "com/example/riskscan/riskscan/model/SeriesType" "FUTURE" "Lcom/example/riskscan/riskscan/model/SeriesType;" (.ref o_FUTURE)) (hne : ¬ (a1 = o_FUTURE)) :
    MetFree l (⟨"com/example/riskscan/riskscan/model/SeriesType", "isOption", "()Z"⟩ : MethodName) (head1 (Jvm.Cond.code (⟨"com/example/riskscan/riskscan/model/SeriesType", "isOption", "()Z"⟩ : MethodName) prog_96_method_5_code 1 (some .boolean) :: ws) ({ frames := 0, cells := 0, slots := 0, locals := 0 } : Room)) (fun a U => a = #[(.ref a1)] ∧ Z.Warmed39 U.vm ∧ U.heap = h0) (fun _ _ _ _ _ => True) (fun _ U o U' => ∃ v L, o = .returned v ∧ own_Q_own_rio1 Z a1 o_FUTURE h0 n0 v U'.heap L ∧ FrameEnd U o U' L ({ frames := 0, cells := 0, slots := 0, locals := 0 } : Room).cells ({ frames := 0, cells := 0, slots := 0, locals := 0 } : Room).slots) := by
  refine MetFree.of_bodySF (plainFor_of_name own_pn_com_example_riskscan_riskscan_model_SeriesType) hisR ?_
  intro p e s m args below meth c s₁ Bd hml0 hP hK
  obtain ⟨rfl, hZ, hh⟩ := hP
  have hx := Bd.exec
  have hby := Bd.bytes
  have hml : c.maxLocals = 1 := hml0
  have hown : s.vm.findClass "com/example/riskscan/riskscan/model/SeriesType" = some m.cls := findClass_of_methodNamed Bd.named
  have hnm := (name_of_methodNamed Bd.named Bd.method).1
  have X0 : Stand p l e ({ frames := 0, cells := 0, slots := 0, locals := 0 } : Room) s m #[(.ref a1)] below meth c s₁ [] 0 0 := Stand.of_body Bd
  have e0 : s₁.heap = h0 := by rw [← hh, Bd.state]; rfl
  have N0 := Fr.nil n0
  show own_Go p e below s (own_Q_own_rio1 Z a1 o_FUTURE h0 n0) ({ frames := 0, cells := 0, slots := 0, locals := 0 } : Room).cells ({ frames := 0, cells := 0, slots := 0, locals := 0 } : Room).slots (s₁.setTop (entryFrame m #[(.ref a1)] 1))
  refine own_go (fun zt zk => castTop (own_ef_own_rio1 m a1) zk) ?_
  show own_Go p e below s _ _ _ (s₁.setTop (mkF m 0 #[rv a1] []))
  refine own_go (fun zt zk => (XS.aloadN X0.here hx rfl (hb hby own_d10_0) rfl rfl zk)) ?_
  show own_Go p e below s _ _ _ (s₁.setTop (mkF m 1 #[rv a1] [(.ref a1)]))
  obtain ⟨T1, X1, e1, st1⟩ := getS2 X0 hx hZ hown (host := "") (Or.inl (hw _ (List.mem_of_getElem? (i := 58) rfl))) Via.refl e0 (S_o_FUTURE.ext O.2) (g := (mkF m 1 #[rv a1] [(.ref a1)])) rfl (hb hby own_d10_1)
  refine own_go st1 ?_
  show own_Go p e below s _ _ _ (T1.setTop (mkF m 4 #[rv a1] [(.ref o_FUTURE), (.ref a1)]))
  refine own_go (fun zt zk => Jvm.RoadKit.acmp (g := (mkF m 4 #[rv a1] [(.ref o_FUTURE), (.ref a1)])) X1 hx rfl rfl rfl (pc0 := 4) (pc' := 7) (same := false) rfl (hb hby own_d10_4) rfl (decide_eq_false fun q => hne (Value.ref.inj q)) (by decide) (by decide) zk) ?_
  show own_Go p e below s _ _ _ (T1.setTop (mkF m 7 #[rv a1] []))
  refine own_go (fun zt zk => (XS.iconst X1.here hx rfl (hb hby own_d10_7) (XS.goto X1.here hx rfl (pc0 := 8) (pc' := 12) rfl (hb hby own_d10_8) (by decide) (by decide) zk))) ?_
  show own_Go p e below s _ _ _ (T1.setTop (mkF m 12 #[rv a1] [(.int (1 : Int32))]))
  exact own_fin X1 Bd.notSynchronized (fun h => by rw [Bd.returns] at h; cases h) (fun fs hr => retN X1 hx (t := .boolean) Bd.returns (by simp) (hb hby own_d10_12) hr) (by rw [e1]; exact ⟨rfl, N0, rfl⟩) (by decide) (by decide)
theorem own_d10_11 : decode prog_96_method_5_code 11 = .ok (.iconst 0, 1) := by decide +kernel
theorem own_ef_own_rio0 (m : MethodId) (o_FUTURE : Addr) : entryFrame m #[(.ref o_FUTURE)] 1 = mkF m 0 #[rv o_FUTURE] [] := by first | (simp [entryFrame, mkF, argsToLocals, Value.category]; done) | rfl
def own_Q_own_rio0 (Z : State) (o_FUTURE : Addr) (h0 : Heap) (n0 : Nat) (v : Option Value) (h : Heap) (L : List Loc) : Prop := v = some (.int (0 : Int32)) ∧ Fr n0 L ∧ h = h0
set_option maxRecDepth 65536 in
set_option maxHeartbeats 40000000 in
theorem own_rio0 (l : Launch) (Z : State) (a0 : Array Value) (hw : ∀ d ∈ tables_1, d.before a0 Z = true) (ws : List Jvm.Cond) (o_FUTURE : Addr) (h0 : Heap) (n0 : Nat) (Z0 : n0 ≤ h0.size) (O : Old Z n0 h0) (S_o_FUTURE : Sta Z Z.heap "com/example/riskscan/riskscan/model/SeriesType" "FUTURE" "Lcom/example/riskscan/riskscan/model/SeriesType;" (.ref o_FUTURE))  :
    MetFree l (⟨"com/example/riskscan/riskscan/model/SeriesType", "isOption", "()Z"⟩ : MethodName) (head1 (Jvm.Cond.code (⟨"com/example/riskscan/riskscan/model/SeriesType", "isOption", "()Z"⟩ : MethodName) prog_96_method_5_code 1 (some .boolean) :: ws) ({ frames := 0, cells := 0, slots := 0, locals := 0 } : Room)) (fun a U => a = #[(.ref o_FUTURE)] ∧ Z.Warmed39 U.vm ∧ U.heap = h0) (fun _ _ _ _ _ => True) (fun _ U o U' => ∃ v L, o = .returned v ∧ own_Q_own_rio0 Z o_FUTURE h0 n0 v U'.heap L ∧ FrameEnd U o U' L ({ frames := 0, cells := 0, slots := 0, locals := 0 } : Room).cells ({ frames := 0, cells := 0, slots := 0, locals := 0 } : Room).slots) := by
  refine MetFree.of_bodySF (plainFor_of_name own_pn_com_example_riskscan_riskscan_model_SeriesType) hisR ?_
  intro p e s m args below meth c s₁ Bd hml0 hP hK
  obtain ⟨rfl, hZ, hh⟩ := hP
  have hx := Bd.exec
  have hby := Bd.bytes
  have hml : c.maxLocals = 1 := hml0
  have hown : s.vm.findClass "com/example/riskscan/riskscan/model/SeriesType" = some m.cls := findClass_of_methodNamed Bd.named
  have hnm := (name_of_methodNamed Bd.named Bd.method).1
  have X0 : Stand p l e ({ frames := 0, cells := 0, slots := 0, locals := 0 } : Room) s m #[(.ref o_FUTURE)] below meth c s₁ [] 0 0 := Stand.of_body Bd
  have e0 : s₁.heap = h0 := by rw [← hh, Bd.state]; rfl
  have N0 := Fr.nil n0
  show own_Go p e below s (own_Q_own_rio0 Z o_FUTURE h0 n0) ({ frames := 0, cells := 0, slots := 0, locals := 0 } : Room).cells ({ frames := 0, cells := 0, slots := 0, locals := 0 } : Room).slots (s₁.setTop (entryFrame m #[(.ref o_FUTURE)] 1))
  refine own_go (fun zt zk => castTop (own_ef_own_rio0 m o_FUTURE) zk) ?_
  show own_Go p e below s _ _ _ (s₁.setTop (mkF m 0 #[rv o_FUTURE] []))
  refine own_go (fun zt zk => (XS.aloadN X0.here hx rfl (hb hby own_d10_0) rfl rfl zk)) ?_
  show own_Go p e below s _ _ _ (s₁.setTop (mkF m 1 #[rv o_FUTURE] [(.ref o_FUTURE)]))
  obtain ⟨T1, X1, e1, st1⟩ := getS2 X0 hx hZ hown (host := "") (Or.inl (hw _ (List.mem_of_getElem? (i := 58) rfl))) Via.refl e0 (S_o_FUTURE.ext O.2) (g := (mkF m 1 #[rv o_FUTURE] [(.ref o_FUTURE)])) rfl (hb hby own_d10_1)
  refine own_go st1 ?_
  show own_Go p e below s _ _ _ (T1.setTop (mkF m 4 #[rv o_FUTURE] [(.ref o_FUTURE), (.ref o_FUTURE)]))
  refine own_go (fun zt zk => Jvm.RoadKit.acmp (g := (mkF m 4 #[rv o_FUTURE] [(.ref o_FUTURE), (.ref o_FUTURE)])) X1 hx rfl rfl rfl (pc0 := 4) (pc' := 11) (same := true) rfl (hb hby own_d10_4) rfl (decide_eq_true rfl) (by decide) (by decide) zk) ?_
  show own_Go p e below s _ _ _ (T1.setTop (mkF m 11 #[rv o_FUTURE] []))
  refine own_go (fun zt zk => (XS.iconst X1.here hx rfl (hb hby own_d10_11) zk)) ?_
  show own_Go p e below s _ _ _ (T1.setTop (mkF m 12 #[rv o_FUTURE] [(.int (0 : Int32))]))
  exact own_fin X1 Bd.notSynchronized (fun h => by rw [Bd.returns] at h; cases h) (fun fs hr => retN X1 hx (t := .boolean) Bd.returns (by simp) (hb hby own_d10_12) hr) (by rw [e1]; exact ⟨rfl, N0, rfl⟩) (by decide) (by decide)
theorem own_pd__I_Lcom_example_riskscan_riskscan_model_SeriesType_ : parseMethodDescriptor "(I)Lcom/example/riskscan/riskscan/model/SeriesType;" = some ⟨[.int], some (.object "com/example/riskscan/riskscan/model/SeriesType")⟩ := by decide +kernel
theorem own_pd___Ljava_lang_String_ : parseMethodDescriptor "()Ljava/lang/String;" = some ⟨[], some (.object "java/lang/String")⟩ := by decide +kernel
theorem own_pd___I : parseMethodDescriptor "()I" = some ⟨[], some .int⟩ := by decide +kernel
theorem own_pd__I_C : parseMethodDescriptor "(I)C" = some ⟨[.int], some .char⟩ := by decide +kernel
theorem own_ef_own_law (m : MethodId) (p1 : Int32) : entryFrame m #[(.int p1)] maxLocals = mkF m 0 #[iv p1, .unset, .unset, .unset, .unset, .unset, .unset] [] := by first | (simp [entryFrame, mkF, argsToLocals, Value.category, maxLocals]; done) | rfl
def own_Q_own_law (Z : State) (p1 : Int32) (o_FUTURE : Addr) (o_FUTURE_letter : Addr) (o_FUTURE_letter_value : Addr) (o_AVERAGE_PRICE_CALL : Addr) (o_AVERAGE_PRICE_CALL_letter : Addr) (o_AVERAGE_PRICE_CALL_letter_value : Addr) (o_CALL : Addr) (o_CALL_letter : Addr) (o_CALL_letter_value : Addr) (o_AVERAGE_PRICE_PUT : Addr) (o_AVERAGE_PRICE_PUT_letter : Addr) (o_AVERAGE_PRICE_PUT_letter_value : Addr) (o_PUT : Addr) (o_PUT_letter : Addr) (o_PUT_letter_value : Addr) (o_COMPACT_STRINGS : Int32) (o_SIOOBE_FORMATTER : Value) (k_o_FUTURE_letter_value : ClassId) (k_o_AVERAGE_PRICE_CALL_letter_value : ClassId) (k_o_CALL_letter_value : ClassId) (k_o_AVERAGE_PRICE_PUT_letter_value : ClassId) (k_o_PUT_letter_value : ClassId) (h0 : Heap) (n0 : Nat) (v : Option Value) (h : Heap) (L : List Loc) : Prop := v = some (.int 1) ∧ Fr n0 L
set_option maxRecDepth 65536 in
set_option maxHeartbeats 40000000 in
theorem own_law (l : Launch) (Z : State) (a0 : Array Value) (hw : ∀ d ∈ tables_1, d.before a0 Z = true) (ws : List Jvm.Cond) (p1 : Int32) (o_FUTURE : Addr) (o_FUTURE_letter : Addr) (o_FUTURE_letter_value : Addr) (o_AVERAGE_PRICE_CALL : Addr) (o_AVERAGE_PRICE_CALL_letter : Addr) (o_AVERAGE_PRICE_CALL_letter_value : Addr) (o_CALL : Addr) (o_CALL_letter : Addr) (o_CALL_letter_value : Addr) (o_AVERAGE_PRICE_PUT : Addr) (o_AVERAGE_PRICE_PUT_letter : Addr) (o_AVERAGE_PRICE_PUT_letter_value : Addr) (o_PUT : Addr) (o_PUT_letter : Addr) (o_PUT_letter_value : Addr) (o_COMPACT_STRINGS : Int32) (o_SIOOBE_FORMATTER : Value) (k_o_FUTURE_letter_value : ClassId) (k_o_AVERAGE_PRICE_CALL_letter_value : ClassId) (k_o_CALL_letter_value : ClassId) (k_o_AVERAGE_PRICE_PUT_letter_value : ClassId) (k_o_PUT_letter_value : ClassId) (h0 : Heap) (n0 : Nat) (Z0 : n0 ≤ h0.size) (O : Old Z n0 h0) (S_o_FUTURE : Sta Z Z.heap "com/example/riskscan/riskscan/model/SeriesType" "FUTURE" "Lcom/example/riskscan/riskscan/model/SeriesType;" (.ref o_FUTURE)) (Ex_o_FUTURE : Exa Z Z.heap o_FUTURE "com/example/riskscan/riskscan/model/SeriesType") (F_o_FUTURE_letter : Fld Z Z.heap o_FUTURE "com/example/riskscan/riskscan/model/SeriesType" "letter" "Ljava/lang/String;" (.ref o_FUTURE_letter)) (Ex_o_FUTURE_letter : Exa Z Z.heap o_FUTURE_letter "java/lang/String") (F_o_FUTURE_letter_value : Fld Z Z.heap o_FUTURE_letter "java/lang/String" "value" "[B" (.ref o_FUTURE_letter_value)) (F_o_FUTURE_letter_coder : Fld Z Z.heap o_FUTURE_letter "java/lang/String" "coder" "B" (.int (0 : Int32))) (S_o_AVERAGE_PRICE_CALL : Sta Z Z.heap "com/example/riskscan/riskscan/model/SeriesType" "AVERAGE_PRICE_CALL" "Lcom/example/riskscan/riskscan/model/SeriesType;" (.ref o_AVERAGE_PRICE_CALL)) (Ex_o_AVERAGE_PRICE_CALL : Exa Z Z.heap o_AVERAGE_PRICE_CALL "com/example/riskscan/riskscan/model/SeriesType") (F_o_AVERAGE_PRICE_CALL_letter : Fld Z Z.heap o_AVERAGE_PRICE_CALL "com/example/riskscan/riskscan/model/SeriesType" "letter" "Ljava/lang/String;" (.ref o_AVERAGE_PRICE_CALL_letter)) (Ex_o_AVERAGE_PRICE_CALL_letter : Exa Z Z.heap o_AVERAGE_PRICE_CALL_letter "java/lang/String") (F_o_AVERAGE_PRICE_CALL_letter_value : Fld Z Z.heap o_AVERAGE_PRICE_CALL_letter "java/lang/String" "value" "[B" (.ref o_AVERAGE_PRICE_CALL_letter_value)) (F_o_AVERAGE_PRICE_CALL_letter_coder : Fld Z Z.heap o_AVERAGE_PRICE_CALL_letter "java/lang/String" "coder" "B" (.int (0 : Int32))) (F_o_AVERAGE_PRICE_CALL_ordinal : Fld Z Z.heap o_AVERAGE_PRICE_CALL "java/lang/Enum" "ordinal" "I" (.int (3 : Int32))) (F_o_FUTURE_ordinal : Fld Z Z.heap o_FUTURE "java/lang/Enum" "ordinal" "I" (.int (0 : Int32))) (S_o_CALL : Sta Z Z.heap "com/example/riskscan/riskscan/model/SeriesType" "CALL" "Lcom/example/riskscan/riskscan/model/SeriesType;" (.ref o_CALL)) (Ex_o_CALL : Exa Z Z.heap o_CALL "com/example/riskscan/riskscan/model/SeriesType") (F_o_CALL_letter : Fld Z Z.heap o_CALL "com/example/riskscan/riskscan/model/SeriesType" "letter" "Ljava/lang/String;" (.ref o_CALL_letter)) (Ex_o_CALL_letter : Exa Z Z.heap o_CALL_letter "java/lang/String") (F_o_CALL_letter_value : Fld Z Z.heap o_CALL_letter "java/lang/String" "value" "[B" (.ref o_CALL_letter_value)) (F_o_CALL_letter_coder : Fld Z Z.heap o_CALL_letter "java/lang/String" "coder" "B" (.int (0 : Int32))) (F_o_CALL_ordinal : Fld Z Z.heap o_CALL "java/lang/Enum" "ordinal" "I" (.int (1 : Int32))) (S_o_AVERAGE_PRICE_PUT : Sta Z Z.heap "com/example/riskscan/riskscan/model/SeriesType" "AVERAGE_PRICE_PUT" "Lcom/example/riskscan/riskscan/model/SeriesType;" (.ref o_AVERAGE_PRICE_PUT)) (Ex_o_AVERAGE_PRICE_PUT : Exa Z Z.heap o_AVERAGE_PRICE_PUT "com/example/riskscan/riskscan/model/SeriesType") (F_o_AVERAGE_PRICE_PUT_letter : Fld Z Z.heap o_AVERAGE_PRICE_PUT "com/example/riskscan/riskscan/model/SeriesType" "letter" "Ljava/lang/String;" (.ref o_AVERAGE_PRICE_PUT_letter)) (Ex_o_AVERAGE_PRICE_PUT_letter : Exa Z Z.heap o_AVERAGE_PRICE_PUT_letter "java/lang/String") (F_o_AVERAGE_PRICE_PUT_letter_value : Fld Z Z.heap o_AVERAGE_PRICE_PUT_letter "java/lang/String" "value" "[B" (.ref o_AVERAGE_PRICE_PUT_letter_value)) (F_o_AVERAGE_PRICE_PUT_letter_coder : Fld Z Z.heap o_AVERAGE_PRICE_PUT_letter "java/lang/String" "coder" "B" (.int (0 : Int32))) (F_o_AVERAGE_PRICE_PUT_ordinal : Fld Z Z.heap o_AVERAGE_PRICE_PUT "java/lang/Enum" "ordinal" "I" (.int (4 : Int32))) (S_o_PUT : Sta Z Z.heap "com/example/riskscan/riskscan/model/SeriesType" "PUT" "Lcom/example/riskscan/riskscan/model/SeriesType;" (.ref o_PUT)) (Ex_o_PUT : Exa Z Z.heap o_PUT "com/example/riskscan/riskscan/model/SeriesType") (F_o_PUT_letter : Fld Z Z.heap o_PUT "com/example/riskscan/riskscan/model/SeriesType" "letter" "Ljava/lang/String;" (.ref o_PUT_letter)) (Ex_o_PUT_letter : Exa Z Z.heap o_PUT_letter "java/lang/String") (F_o_PUT_letter_value : Fld Z Z.heap o_PUT_letter "java/lang/String" "value" "[B" (.ref o_PUT_letter_value)) (F_o_PUT_letter_coder : Fld Z Z.heap o_PUT_letter "java/lang/String" "coder" "B" (.int (0 : Int32))) (F_o_PUT_ordinal : Fld Z Z.heap o_PUT "java/lang/Enum" "ordinal" "I" (.int (2 : Int32))) (S_o_COMPACT_STRINGS : Sta Z Z.heap "java/lang/String" "COMPACT_STRINGS" "Z" (.int o_COMPACT_STRINGS)) (S_o_SIOOBE_FORMATTER : Sta Z Z.heap "jdk/internal/util/Preconditions" "SIOOBE_FORMATTER" "Ljava/util/function/BiFunction;" o_SIOOBE_FORMATTER) (V_o_FUTURE_letter_value : Arv Z Z.heap o_FUTURE_letter_value k_o_FUTURE_letter_value .byte (1 : Int32) [(.int (70 : Int32))] (.int (0 : Int32))) (V_o_AVERAGE_PRICE_CALL_letter_value : Arv Z Z.heap o_AVERAGE_PRICE_CALL_letter_value k_o_AVERAGE_PRICE_CALL_letter_value .byte (2 : Int32) [(.int (67 : Int32)), (.int (65 : Int32))] (.int (0 : Int32))) (V_o_CALL_letter_value : Arv Z Z.heap o_CALL_letter_value k_o_CALL_letter_value .byte (1 : Int32) [(.int (67 : Int32))] (.int (0 : Int32))) (V_o_AVERAGE_PRICE_PUT_letter_value : Arv Z Z.heap o_AVERAGE_PRICE_PUT_letter_value k_o_AVERAGE_PRICE_PUT_letter_value .byte (2 : Int32) [(.int (80 : Int32)), (.int (65 : Int32))] (.int (0 : Int32))) (V_o_PUT_letter_value : Arv Z Z.heap o_PUT_letter_value k_o_PUT_letter_value .byte (1 : Int32) [(.int (80 : Int32))] (.int (0 : Int32))) (nz_o_COMPACT_STRINGS : ¬ (o_COMPACT_STRINGS = (0 : Int32))) (r_o_SIOOBE_FORMATTER : o_SIOOBE_FORMATTER.isRef = true) :
    MetFree l x (head1 (Jvm.Cond.code x code maxLocals ret :: ws) room_1) (fun a U => a = #[(.int p1)] ∧ Z.Warmed39 U.vm ∧ U.heap = h0) (fun _ _ _ _ _ => True) (fun _ U o U' => ∃ v L, o = .returned v ∧ own_Q_own_law Z p1 o_FUTURE o_FUTURE_letter o_FUTURE_letter_value o_AVERAGE_PRICE_CALL o_AVERAGE_PRICE_CALL_letter o_AVERAGE_PRICE_CALL_letter_value o_CALL o_CALL_letter o_CALL_letter_value o_AVERAGE_PRICE_PUT o_AVERAGE_PRICE_PUT_letter o_AVERAGE_PRICE_PUT_letter_value o_PUT o_PUT_letter o_PUT_letter_value o_COMPACT_STRINGS o_SIOOBE_FORMATTER k_o_FUTURE_letter_value k_o_AVERAGE_PRICE_CALL_letter_value k_o_CALL_letter_value k_o_AVERAGE_PRICE_PUT_letter_value k_o_PUT_letter_value h0 n0 v U'.heap L ∧ FrameEnd U o U' L room_1.cells room_1.slots) := by
  refine MetFree.of_bodySF (plainFor_of_name own_pn_com_example_riskscan_riskscan_model_SeriesTypeIsOptionPinLaw) hisR ?_
  intro p e s m args below meth c s₁ Bd hml0 hP hK
  obtain ⟨rfl, hZ, hh⟩ := hP
  have hx := Bd.exec
  have hby := Bd.bytes
  have hml : c.maxLocals = 7 := hml0
  have hown : s.vm.findClass "com/example/riskscan/riskscan/model/SeriesTypeIsOptionPinLaw" = some m.cls := findClass_of_methodNamed Bd.named
  have hnm := (name_of_methodNamed Bd.named Bd.method).1
  have X0 : Stand p l e room_1 s m #[(.int p1)] below meth c s₁ [] 0 0 := Stand.of_body Bd
  have e0 : s₁.heap = h0 := by rw [← hh, Bd.state]; rfl
  have N0 := Fr.nil n0
  show own_Go p e below s (own_Q_own_law Z p1 o_FUTURE o_FUTURE_letter o_FUTURE_letter_value o_AVERAGE_PRICE_CALL o_AVERAGE_PRICE_CALL_letter o_AVERAGE_PRICE_CALL_letter_value o_CALL o_CALL_letter o_CALL_letter_value o_AVERAGE_PRICE_PUT o_AVERAGE_PRICE_PUT_letter o_AVERAGE_PRICE_PUT_letter_value o_PUT o_PUT_letter o_PUT_letter_value o_COMPACT_STRINGS o_SIOOBE_FORMATTER k_o_FUTURE_letter_value k_o_AVERAGE_PRICE_CALL_letter_value k_o_CALL_letter_value k_o_AVERAGE_PRICE_PUT_letter_value k_o_PUT_letter_value h0 n0) room_1.cells room_1.slots (s₁.setTop (entryFrame m #[(.int p1)] maxLocals))
  refine own_go (fun zt zk => castTop (own_ef_own_law m p1) zk) ?_
  show own_Go p e below s _ _ _ (s₁.setTop (mkF m 0 #[iv p1, .unset, .unset, .unset, .unset, .unset, .unset] []))
  refine own_go (fun zt zk => (XS.iloadN X0.here hx rfl (hb hby at_0) rfl (X0.ldcI hx hown (mvT hZ (hw _ (List.mem_of_getElem? (i := 0) rfl))) (g := (mkF m 1 #[iv p1, .unset, .unset, .unset, .unset, .unset, .unset] [(.int p1)])) rfl (hb hby at_1) (XS.iand X0.here hx rfl (hb hby at_3) rfl (XS.iconst X0.here hx rfl (hb hby at_4) (iremM X0 hx rfl (hb hby at_5) rfl (by decide) (XS.istoreN X0.here hx rfl (hb hby at_6) rfl (l' := #[iv p1, iv ((p1 &&& (2147483647 : Int32)) % (5 : Int32)), .unset, .unset, .unset, .unset, .unset]) rfl zk))))))) ?_
  show own_Go p e below s _ _ _ (s₁.setTop (mkF m 7 #[iv p1, iv ((p1 &&& (2147483647 : Int32)) % (5 : Int32)), .unset, .unset, .unset, .unset, .unset] []))
  generalize hv_k : ((p1 &&& (2147483647 : Int32)) % (5 : Int32)) = k
  show own_Go p e below s _ _ _ (s₁.setTop (mkF m 7 #[iv p1, iv k, .unset, .unset, .unset, .unset, .unset] []))
  by_cases hk0_k : k = (0 : Int32)
  · subst hk0_k
    show own_Go p e below s _ _ _ (s₁.setTop (mkF m 7 #[iv p1, iv (0 : Int32), .unset, .unset, .unset, .unset, .unset] []))
    refine own_go (fun zt zk => (XS.iloadN X0.here hx rfl (hb hby at_7) rfl zk)) ?_
    show own_Go p e below s _ _ _ (s₁.setTop (mkF m 8 #[iv p1, iv (0 : Int32), .unset, .unset, .unset, .unset, .unset] [(.int (0 : Int32))]))
    obtain ⟨_, _, ⟨T1, L1, k1, n1⟩, -, X1, ⟨Lc1, hQ1, l1, y1, z1⟩, st1⟩ := Jvm.LawKit.callS X0 hx (y := (⟨"com/example/riskscan/riskscan/model/SeriesTypeIsOptionPinLaw", "pick", "(I)Lcom/example/riskscan/riskscan/model/SeriesType;"⟩ : MethodName)) hown (mvT hZ (hw _ (List.mem_of_getElem? (i := 1) rfl))) (mvT hZ (hw _ (List.mem_of_getElem? (i := 2) rfl))) (mvT hZ (hw _ (List.mem_of_getElem? (i := 3) rfl))) (mvT hZ (hw _ (List.mem_of_getElem? (i := 4) rfl))) (by decide) (backOf (W := 0) (own_rpick0 l Z a0 hw []  o_FUTURE h0 n0 Z0 O S_o_FUTURE) hZ (hw _ (List.mem_of_getElem? (i := 4) rfl)) (hw _ (List.mem_of_getElem? (i := 3) rfl)) (by decide) (by decide)) (g := (mkF m 8 #[iv p1, iv (0 : Int32), .unset, .unset, .unset, .unset, .unset] [(.int (0 : Int32))])) rfl (by rw [hml]; rfl) (argsL := [(.int (0 : Int32))]) (rest := []) (lenOf own_pd__I_Lcom_example_riskscan_riskscan_model_SeriesType_ rfl) rfl (by show 2 * 0 + _ ≤ _; exact Nat.le_of_eq rfl) (hb hby at_8) (fun _ _ => ⟨rfl, e0, (by decide : 0 + 0 ≤ _), (by decide : 0 + 0 ≤ _)⟩)
    dsimp only [Pt.U, Pt.locs, Pt.cells, Pt.slots] at X1 l1 y1 z1 st1 hQ1
    subst l1 y1 z1
    obtain ⟨rfl, Nq1, e1⟩ := hQ1
    have N1 := Fr.app N0 Nq1
    refine own_go st1 ?_
    show own_Go p e below s _ _ _ (T1.setTop (mkF m 11 #[iv p1, iv (0 : Int32), .unset, .unset, .unset, .unset, .unset] [(.ref o_FUTURE)]))
    refine own_go (fun zt zk => (XS.astoreN X1.here hx rfl (hb hby at_11) rfl rfl (l' := #[iv p1, iv (0 : Int32), rv o_FUTURE, .unset, .unset, .unset, .unset]) rfl (XS.aloadN X1.here hx rfl (hb hby at_12) rfl rfl zk))) ?_
    show own_Go p e below s _ _ _ (T1.setTop (mkF m 13 #[iv p1, iv (0 : Int32), rv o_FUTURE, .unset, .unset, .unset, .unset] [(.ref o_FUTURE)]))
    obtain ⟨cq2, kq2, qa2, qb2, qc2⟩ := isOf hZ e1 (Ex_o_FUTURE.ext O.2)
    obtain ⟨_, _, ⟨T2, L2, k2, n2⟩, -, X2, ⟨Lc2, hQ2, l2, y2, z2⟩, st2⟩ := X1.virtualBack hx (y := (⟨"com/example/riskscan/riskscan/model/SeriesType", "letter", "()Ljava/lang/String;"⟩ : MethodName)) (z := (⟨"com/example/riskscan/riskscan/model/SeriesType", "letter", "()Ljava/lang/String;"⟩ : MethodName)) hown (mvT hZ (hw _ (List.mem_of_getElem? (i := 8) rfl))) (mvT hZ (hw _ (List.mem_of_getElem? (i := 9) rfl))) (notFace_of_selects (args := #[]) (mvT hZ (hw _ (List.mem_of_getElem? (i := 11) rfl)))) (mvT hZ (hw _ (List.mem_of_getElem? (i := 11) rfl))) (mvT hZ (hw _ (List.mem_of_getElem? (i := 10) rfl))) (by decide) (backOf (W := 0) (own_rletter l Z a0 hw [] o_FUTURE o_FUTURE_letter h0 n0 Z0 (F_o_FUTURE_letter.ext O.2)) hZ (hw _ (List.mem_of_getElem? (i := 12) rfl)) (hw _ (List.mem_of_getElem? (i := 6) rfl)) (by decide) (by decide)) qa2 qc2 (g := (mkF m 13 #[iv p1, iv (0 : Int32), rv o_FUTURE, .unset, .unset, .unset, .unset] [(.ref o_FUTURE)])) rfl (by rw [hml]; rfl) (Steps.refl _) (argsL := []) (rest := []) (lenOf own_pd___Ljava_lang_String_ rfl) rfl (by show 2 * 0 + _ ≤ _; exact Nat.le_of_eq rfl) (hb hby at_13) (fun _ _ => ⟨rfl, e1, (by decide : 0 + 0 ≤ _), (by decide : 0 + 0 ≤ _)⟩)
    dsimp only [Pt.U, Pt.locs, Pt.cells, Pt.slots] at X2 l2 y2 z2 st2 hQ2
    subst l2 y2 z2
    obtain ⟨rfl, Nq2, e2⟩ := hQ2
    have N2 := Fr.app N1 Nq2
    refine own_go (fun zt zk => st2.trans zk) ?_
    show own_Go p e below s _ _ _ (T2.setTop (mkF m 16 #[iv p1, iv (0 : Int32), rv o_FUTURE, .unset, .unset, .unset, .unset] [(.ref o_FUTURE_letter)]))
    refine own_go (fun zt zk => (XS.astoreN X2.here hx rfl (hb hby at_16) rfl rfl (l' := #[iv p1, iv (0 : Int32), rv o_FUTURE, rv o_FUTURE_letter, .unset, .unset, .unset]) rfl (XS.aloadN X2.here hx rfl (hb hby at_17) rfl rfl zk))) ?_
    show own_Go p e below s _ _ _ (T2.setTop (mkF m 18 #[iv p1, iv (0 : Int32), rv o_FUTURE, rv o_FUTURE_letter, .unset, .unset, .unset] [(.ref o_FUTURE_letter)]))
    obtain ⟨cq3, kq3, qa3, qb3, qc3⟩ := isOf hZ e2 (Ex_o_FUTURE_letter.ext O.2)
    obtain ⟨_, _, ⟨T3, L3, k3, n3⟩, -, X3, ⟨Lc3, hQ3, l3, y3, z3⟩, st3⟩ := X2.virtualBack hx (y := (⟨"java/lang/String", "length", "()I"⟩ : MethodName)) (z := (⟨"java/lang/String", "length", "()I"⟩ : MethodName)) hown (mvT hZ (hw _ (List.mem_of_getElem? (i := 15) rfl))) (mvT hZ (hw _ (List.mem_of_getElem? (i := 16) rfl))) (notFace_of_selects (args := #[]) (mvT hZ (hw _ (List.mem_of_getElem? (i := 18) rfl)))) (mvT hZ (hw _ (List.mem_of_getElem? (i := 18) rfl))) (mvT hZ (hw _ (List.mem_of_getElem? (i := 17) rfl))) (by decide) (backOf (W := 0) (own_rlen l Z a0 hw [] o_FUTURE_letter o_COMPACT_STRINGS o_FUTURE_letter_value k_o_FUTURE_letter_value (1 : Int32) [(.int (70 : Int32))] h0 n0 Z0 O S_o_COMPACT_STRINGS (Ex_o_FUTURE_letter.ext O.2) (F_o_FUTURE_letter_value.ext O.2) (F_o_FUTURE_letter_coder.ext O.2) (V_o_FUTURE_letter_value.ext O.2) nz_o_COMPACT_STRINGS) hZ (hw _ (List.mem_of_getElem? (i := 20) rfl)) (hw _ (List.mem_of_getElem? (i := 19) rfl)) (by decide) (by decide)) qa3 qc3 (g := (mkF m 18 #[iv p1, iv (0 : Int32), rv o_FUTURE, rv o_FUTURE_letter, .unset, .unset, .unset] [(.ref o_FUTURE_letter)])) rfl (by rw [hml]; rfl) (Steps.refl _) (argsL := []) (rest := []) (lenOf own_pd___I rfl) rfl (by show 2 * 0 + _ ≤ _; exact Nat.le_of_eq rfl) (hb hby at_18) (fun _ _ => ⟨rfl, e2, (by decide : 0 + 0 ≤ _), (by decide : 0 + 0 ≤ _)⟩)
    dsimp only [Pt.U, Pt.locs, Pt.cells, Pt.slots] at X3 l3 y3 z3 st3 hQ3
    subst l3 y3 z3
    obtain ⟨rfl, Nq3, e3⟩ := hQ3
    have N3 := Fr.app N2 Nq3
    refine own_go (fun zt zk => st3.trans zk) ?_
    show own_Go p e below s _ _ _ (T3.setTop (mkF m 21 #[iv p1, iv (0 : Int32), rv o_FUTURE, rv o_FUTURE_letter, .unset, .unset, .unset] [(.int (1 : Int32))]))
    refine own_go (fun zt zk => (XS.ifNo X3.here hx rfl (hb hby at_21) rfl ((if0 _ _).trans (tlt ((by decide) : (0 : Int32) < (1 : Int32))).2.2.2) (XS.aloadN X3.here hx rfl (hb hby at_24) rfl rfl (XS.iconst X3.here hx rfl (hb hby at_25) zk)))) ?_
    show own_Go p e below s _ _ _ (T3.setTop (mkF m 26 #[iv p1, iv (0 : Int32), rv o_FUTURE, rv o_FUTURE_letter, .unset, .unset, .unset] [(.int (0 : Int32)), (.ref o_FUTURE_letter)]))
    obtain ⟨cq4, kq4, qa4, qb4, qc4⟩ := isOf hZ e3 (Ex_o_FUTURE_letter.ext O.2)
    obtain ⟨_, _, ⟨T4, L4, k4, n4⟩, -, X4, ⟨Lc4, hQ4, l4, y4, z4⟩, st4⟩ := X3.virtualBack hx (y := (⟨"java/lang/String", "charAt", "(I)C"⟩ : MethodName)) (z := (⟨"java/lang/String", "charAt", "(I)C"⟩ : MethodName)) hown (mvT hZ (hw _ (List.mem_of_getElem? (i := 31) rfl))) (mvT hZ (hw _ (List.mem_of_getElem? (i := 32) rfl))) (notFace_of_selects (args := #[]) (mvT hZ (hw _ (List.mem_of_getElem? (i := 34) rfl)))) (mvT hZ (hw _ (List.mem_of_getElem? (i := 34) rfl))) (mvT hZ (hw _ (List.mem_of_getElem? (i := 33) rfl))) (by decide) (backOf (W := 0) (own_rchar l Z a0 hw [] o_FUTURE_letter (0 : Int32) o_COMPACT_STRINGS o_SIOOBE_FORMATTER o_FUTURE_letter_value k_o_FUTURE_letter_value (1 : Int32) [(.int (70 : Int32))] (70 : Int32) h0 n0 Z0 O S_o_COMPACT_STRINGS S_o_SIOOBE_FORMATTER (Ex_o_FUTURE_letter.ext O.2) (F_o_FUTURE_letter_value.ext O.2) (F_o_FUTURE_letter_coder.ext O.2) (V_o_FUTURE_letter_value.ext O.2) nz_o_COMPACT_STRINGS r_o_SIOOBE_FORMATTER ⟨by decide, by decide⟩ rfl) hZ (hw _ (List.mem_of_getElem? (i := 35) rfl)) (hw _ (List.mem_of_getElem? (i := 19) rfl)) (by decide) (by decide)) qa4 qc4 (g := (mkF m 26 #[iv p1, iv (0 : Int32), rv o_FUTURE, rv o_FUTURE_letter, .unset, .unset, .unset] [(.int (0 : Int32)), (.ref o_FUTURE_letter)])) rfl (by rw [hml]; rfl) (Steps.refl _) (argsL := [(.int (0 : Int32))]) (rest := []) (lenOf own_pd__I_C rfl) rfl (by show 2 * 0 + _ ≤ _; exact Nat.le_of_eq rfl) (hb hby at_26) (fun _ _ => ⟨rfl, e3, (by decide : 0 + 0 ≤ _), (by decide : 0 + 0 ≤ _)⟩)
    dsimp only [Pt.U, Pt.locs, Pt.cells, Pt.slots] at X4 l4 y4 z4 st4 hQ4
    subst l4 y4 z4
    obtain ⟨rfl, Nq4, e4⟩ := hQ4
    have N4 := Fr.app N3 Nq4
    refine own_go (fun zt zk => st4.trans zk) ?_
    show own_Go p e below s _ _ _ (T4.setTop (mkF m 29 #[iv p1, iv (0 : Int32), rv o_FUTURE, rv o_FUTURE_letter, .unset, .unset, .unset] [(.int (70 : Int32))]))
    refine own_go (fun zt zk => (XS.bipush X4.here hx rfl (hb hby at_29) (XS.icmpNo X4.here hx rfl (hb hby at_31) rfl (feq ((by decide) : ¬ ((70 : Int32) = (67 : Int32)))).1 (XS.aloadN X4.here hx rfl (hb hby at_34) rfl rfl (XS.iconst X4.here hx rfl (hb hby at_35) zk))))) ?_
    show own_Go p e below s _ _ _ (T4.setTop (mkF m 36 #[iv p1, iv (0 : Int32), rv o_FUTURE, rv o_FUTURE_letter, .unset, .unset, .unset] [(.int (0 : Int32)), (.ref o_FUTURE_letter)]))
    obtain ⟨cq5, kq5, qa5, qb5, qc5⟩ := isOf hZ e4 (Ex_o_FUTURE_letter.ext O.2)
    obtain ⟨_, _, ⟨T5, L5, k5, n5⟩, -, X5, ⟨Lc5, hQ5, l5, y5, z5⟩, st5⟩ := X4.virtualBack hx (y := (⟨"java/lang/String", "charAt", "(I)C"⟩ : MethodName)) (z := (⟨"java/lang/String", "charAt", "(I)C"⟩ : MethodName)) hown (mvT hZ (hw _ (List.mem_of_getElem? (i := 31) rfl))) (mvT hZ (hw _ (List.mem_of_getElem? (i := 32) rfl))) (notFace_of_selects (args := #[]) (mvT hZ (hw _ (List.mem_of_getElem? (i := 34) rfl)))) (mvT hZ (hw _ (List.mem_of_getElem? (i := 34) rfl))) (mvT hZ (hw _ (List.mem_of_getElem? (i := 33) rfl))) (by decide) (backOf (W := 0) (own_rchar l Z a0 hw [] o_FUTURE_letter (0 : Int32) o_COMPACT_STRINGS o_SIOOBE_FORMATTER o_FUTURE_letter_value k_o_FUTURE_letter_value (1 : Int32) [(.int (70 : Int32))] (70 : Int32) h0 n0 Z0 O S_o_COMPACT_STRINGS S_o_SIOOBE_FORMATTER (Ex_o_FUTURE_letter.ext O.2) (F_o_FUTURE_letter_value.ext O.2) (F_o_FUTURE_letter_coder.ext O.2) (V_o_FUTURE_letter_value.ext O.2) nz_o_COMPACT_STRINGS r_o_SIOOBE_FORMATTER ⟨by decide, by decide⟩ rfl) hZ (hw _ (List.mem_of_getElem? (i := 35) rfl)) (hw _ (List.mem_of_getElem? (i := 19) rfl)) (by decide) (by decide)) qa5 qc5 (g := (mkF m 36 #[iv p1, iv (0 : Int32), rv o_FUTURE, rv o_FUTURE_letter, .unset, .unset, .unset] [(.int (0 : Int32)), (.ref o_FUTURE_letter)])) rfl (by rw [hml]; rfl) (Steps.refl _) (argsL := [(.int (0 : Int32))]) (rest := []) (lenOf own_pd__I_C rfl) rfl (by show 2 * 0 + _ ≤ _; exact Nat.le_of_eq rfl) (hb hby at_36) (fun _ _ => ⟨rfl, e4, (by decide : 0 + 0 ≤ _), (by decide : 0 + 0 ≤ _)⟩)
    dsimp only [Pt.U, Pt.locs, Pt.cells, Pt.slots] at X5 l5 y5 z5 st5 hQ5
    subst l5 y5 z5
    obtain ⟨rfl, Nq5, e5⟩ := hQ5
    have N5 := Fr.app N4 Nq5
    refine own_go (fun zt zk => st5.trans zk) ?_
    show own_Go p e below s _ _ _ (T5.setTop (mkF m 39 #[iv p1, iv (0 : Int32), rv o_FUTURE, rv o_FUTURE_letter, .unset, .unset, .unset] [(.int (70 : Int32))]))
    refine own_go (fun zt zk => (XS.bipush X5.here hx rfl (hb hby at_39) (XS.icmpYes X5.here hx rfl (pc0 := 41) (pc' := 48) rfl (hb hby at_41) rfl (feq ((by decide) : ¬ ((70 : Int32) = (80 : Int32)))).2 (by decide) (by decide) (XS.iconst X5.here hx rfl (hb hby at_48) (XS.istore X5.here hx rfl (hb hby at_49) rfl (l' := #[iv p1, iv (0 : Int32), rv o_FUTURE, rv o_FUTURE_letter, iv (0 : Int32), .unset, .unset]) rfl (XS.iloadN X5.here hx rfl (hb hby at_51) rfl (XS.ifYes X5.here hx rfl (pc0 := 52) (pc' := 59) rfl (hb hby at_52) rfl ((if0 _ _).trans (teq (rfl : (0 : Int32) = (0 : Int32))).1) (by decide) (by decide) (XS.iconst X5.here hx rfl (hb hby at_59) (XS.istore X5.here hx rfl (hb hby at_60) rfl (l' := #[iv p1, iv (0 : Int32), rv o_FUTURE, rv o_FUTURE_letter, iv (0 : Int32), iv (0 : Int32), .unset]) rfl (XS.aloadN X5.here hx rfl (hb hby at_62) rfl rfl zk)))))))))) ?_
    show own_Go p e below s _ _ _ (T5.setTop (mkF m 63 #[iv p1, iv (0 : Int32), rv o_FUTURE, rv o_FUTURE_letter, iv (0 : Int32), iv (0 : Int32), .unset] [(.ref o_FUTURE)]))
    obtain ⟨cq6, kq6, qa6, qb6, qc6⟩ := isOf hZ e5 (Ex_o_FUTURE.ext O.2)
    obtain ⟨_, _, ⟨T6, L6, k6, n6⟩, -, X6, ⟨Lc6, hQ6, l6, y6, z6⟩, st6⟩ := X5.virtualBack hx (y := (⟨"com/example/riskscan/riskscan/model/SeriesType", "isOption", "()Z"⟩ : MethodName)) (z := (⟨"com/example/riskscan/riskscan/model/SeriesType", "isOption", "()Z"⟩ : MethodName)) hown (mvT hZ (hw _ (List.mem_of_getElem? (i := 53) rfl))) (mvT hZ (hw _ (List.mem_of_getElem? (i := 54) rfl))) (notFace_of_selects (args := #[]) (mvT hZ (hw _ (List.mem_of_getElem? (i := 56) rfl)))) (mvT hZ (hw _ (List.mem_of_getElem? (i := 56) rfl))) (mvT hZ (hw _ (List.mem_of_getElem? (i := 55) rfl))) (by decide) (backOf (W := 0) (own_rio0 l Z a0 hw [] o_FUTURE  h0 n0 Z0 O S_o_FUTURE) hZ (hw _ (List.mem_of_getElem? (i := 57) rfl)) (hw _ (List.mem_of_getElem? (i := 6) rfl)) (by decide) (by decide)) qa6 qc6 (g := (mkF m 63 #[iv p1, iv (0 : Int32), rv o_FUTURE, rv o_FUTURE_letter, iv (0 : Int32), iv (0 : Int32), .unset] [(.ref o_FUTURE)])) rfl (by rw [hml]; rfl) (Steps.refl _) (argsL := []) (rest := []) (lenOf own_pd___Z rfl) rfl (by show 2 * 0 + _ ≤ _; exact Nat.le_of_eq rfl) (hb hby at_63) (fun _ _ => ⟨rfl, e5, (by decide : 0 + 0 ≤ _), (by decide : 0 + 0 ≤ _)⟩)
    dsimp only [Pt.U, Pt.locs, Pt.cells, Pt.slots] at X6 l6 y6 z6 st6 hQ6
    subst l6 y6 z6
    obtain ⟨rfl, Nq6, e6⟩ := hQ6
    have N6 := Fr.app N5 Nq6
    refine own_go (fun zt zk => st6.trans zk) ?_
    show own_Go p e below s _ _ _ (T6.setTop (mkF m 66 #[iv p1, iv (0 : Int32), rv o_FUTURE, rv o_FUTURE_letter, iv (0 : Int32), iv (0 : Int32), .unset] [(.int (0 : Int32))]))
    refine own_go (fun zt zk => (XS.istore X6.here hx rfl (hb hby at_66) rfl (l' := #[iv p1, iv (0 : Int32), rv o_FUTURE, rv o_FUTURE_letter, iv (0 : Int32), iv (0 : Int32), iv (0 : Int32)]) rfl (XS.iload X6.here hx rfl (hb hby at_68) rfl (XS.iload X6.here hx rfl (hb hby at_70) rfl (XS.icmpNo X6.here hx rfl (hb hby at_72) rfl (teq (rfl : (0 : Int32) = (0 : Int32))).2 (XS.iload X6.here hx rfl (hb hby at_75) rfl (XS.iload X6.here hx rfl (hb hby at_77) rfl (XS.icmpNo X6.here hx rfl (hb hby at_79) rfl (teq (rfl : (0 : Int32) = (0 : Int32))).2 (XS.iconst X6.here hx rfl (hb hby at_82) (XS.goto X6.here hx rfl (pc0 := 83) (pc' := 87) rfl (hb hby at_83) (by decide) (by decide) zk)))))))))) ?_
    show own_Go p e below s _ _ _ (T6.setTop (mkF m 87 #[iv p1, iv (0 : Int32), rv o_FUTURE, rv o_FUTURE_letter, iv (0 : Int32), iv (0 : Int32), iv (0 : Int32)] [(.int (1 : Int32))]))
    exact own_fin X6 Bd.notSynchronized (fun h => by rw [Bd.returns] at h; cases h) (fun fs hr => retN X6 hx (t := .boolean) Bd.returns (by simp) (hb hby at_87) hr) (by rw [e6]; exact ⟨rfl, N6⟩) (by decide) (by decide)
  · by_cases hk1_k : k = (1 : Int32)
    · subst hk1_k
      show own_Go p e below s _ _ _ (s₁.setTop (mkF m 7 #[iv p1, iv (1 : Int32), .unset, .unset, .unset, .unset, .unset] []))
      refine own_go (fun zt zk => (XS.iloadN X0.here hx rfl (hb hby at_7) rfl zk)) ?_
      show own_Go p e below s _ _ _ (s₁.setTop (mkF m 8 #[iv p1, iv (1 : Int32), .unset, .unset, .unset, .unset, .unset] [(.int (1 : Int32))]))
      obtain ⟨_, _, ⟨T7, L7, k7, n7⟩, -, X7, ⟨Lc7, hQ7, l7, y7, z7⟩, st7⟩ := Jvm.LawKit.callS X0 hx (y := (⟨"com/example/riskscan/riskscan/model/SeriesTypeIsOptionPinLaw", "pick", "(I)Lcom/example/riskscan/riskscan/model/SeriesType;"⟩ : MethodName)) hown (mvT hZ (hw _ (List.mem_of_getElem? (i := 1) rfl))) (mvT hZ (hw _ (List.mem_of_getElem? (i := 2) rfl))) (mvT hZ (hw _ (List.mem_of_getElem? (i := 3) rfl))) (mvT hZ (hw _ (List.mem_of_getElem? (i := 4) rfl))) (by decide) (backOf (W := 0) (own_rpick1 l Z a0 hw []  o_CALL h0 n0 Z0 O S_o_CALL) hZ (hw _ (List.mem_of_getElem? (i := 4) rfl)) (hw _ (List.mem_of_getElem? (i := 3) rfl)) (by decide) (by decide)) (g := (mkF m 8 #[iv p1, iv (1 : Int32), .unset, .unset, .unset, .unset, .unset] [(.int (1 : Int32))])) rfl (by rw [hml]; rfl) (argsL := [(.int (1 : Int32))]) (rest := []) (lenOf own_pd__I_Lcom_example_riskscan_riskscan_model_SeriesType_ rfl) rfl (by show 2 * 0 + _ ≤ _; exact Nat.le_of_eq rfl) (hb hby at_8) (fun _ _ => ⟨rfl, e0, (by decide : 0 + 0 ≤ _), (by decide : 0 + 0 ≤ _)⟩)
      dsimp only [Pt.U, Pt.locs, Pt.cells, Pt.slots] at X7 l7 y7 z7 st7 hQ7
      subst l7 y7 z7
      obtain ⟨rfl, Nq7, e7⟩ := hQ7
      have N7 := Fr.app N0 Nq7
      refine own_go st7 ?_
      show own_Go p e below s _ _ _ (T7.setTop (mkF m 11 #[iv p1, iv (1 : Int32), .unset, .unset, .unset, .unset, .unset] [(.ref o_CALL)]))
      refine own_go (fun zt zk => (XS.astoreN X7.here hx rfl (hb hby at_11) rfl rfl (l' := #[iv p1, iv (1 : Int32), rv o_CALL, .unset, .unset, .unset, .unset]) rfl (XS.aloadN X7.here hx rfl (hb hby at_12) rfl rfl zk))) ?_
      show own_Go p e below s _ _ _ (T7.setTop (mkF m 13 #[iv p1, iv (1 : Int32), rv o_CALL, .unset, .unset, .unset, .unset] [(.ref o_CALL)]))
      obtain ⟨cq8, kq8, qa8, qb8, qc8⟩ := isOf hZ e7 (Ex_o_CALL.ext O.2)
      obtain ⟨_, _, ⟨T8, L8, k8, n8⟩, -, X8, ⟨Lc8, hQ8, l8, y8, z8⟩, st8⟩ := X7.virtualBack hx (y := (⟨"com/example/riskscan/riskscan/model/SeriesType", "letter", "()Ljava/lang/String;"⟩ : MethodName)) (z := (⟨"com/example/riskscan/riskscan/model/SeriesType", "letter", "()Ljava/lang/String;"⟩ : MethodName)) hown (mvT hZ (hw _ (List.mem_of_getElem? (i := 8) rfl))) (mvT hZ (hw _ (List.mem_of_getElem? (i := 9) rfl))) (notFace_of_selects (args := #[]) (mvT hZ (hw _ (List.mem_of_getElem? (i := 11) rfl)))) (mvT hZ (hw _ (List.mem_of_getElem? (i := 11) rfl))) (mvT hZ (hw _ (List.mem_of_getElem? (i := 10) rfl))) (by decide) (backOf (W := 0) (own_rletter l Z a0 hw [] o_CALL o_CALL_letter h0 n0 Z0 (F_o_CALL_letter.ext O.2)) hZ (hw _ (List.mem_of_getElem? (i := 12) rfl)) (hw _ (List.mem_of_getElem? (i := 6) rfl)) (by decide) (by decide)) qa8 qc8 (g := (mkF m 13 #[iv p1, iv (1 : Int32), rv o_CALL, .unset, .unset, .unset, .unset] [(.ref o_CALL)])) rfl (by rw [hml]; rfl) (Steps.refl _) (argsL := []) (rest := []) (lenOf own_pd___Ljava_lang_String_ rfl) rfl (by show 2 * 0 + _ ≤ _; exact Nat.le_of_eq rfl) (hb hby at_13) (fun _ _ => ⟨rfl, e7, (by decide : 0 + 0 ≤ _), (by decide : 0 + 0 ≤ _)⟩)
      dsimp only [Pt.U, Pt.locs, Pt.cells, Pt.slots] at X8 l8 y8 z8 st8 hQ8
      subst l8 y8 z8
      obtain ⟨rfl, Nq8, e8⟩ := hQ8
      have N8 := Fr.app N7 Nq8
      refine own_go (fun zt zk => st8.trans zk) ?_
      show own_Go p e below s _ _ _ (T8.setTop (mkF m 16 #[iv p1, iv (1 : Int32), rv o_CALL, .unset, .unset, .unset, .unset] [(.ref o_CALL_letter)]))
      refine own_go (fun zt zk => (XS.astoreN X8.here hx rfl (hb hby at_16) rfl rfl (l' := #[iv p1, iv (1 : Int32), rv o_CALL, rv o_CALL_letter, .unset, .unset, .unset]) rfl (XS.aloadN X8.here hx rfl (hb hby at_17) rfl rfl zk))) ?_
      show own_Go p e below s _ _ _ (T8.setTop (mkF m 18 #[iv p1, iv (1 : Int32), rv o_CALL, rv o_CALL_letter, .unset, .unset, .unset] [(.ref o_CALL_letter)]))
      obtain ⟨cq9, kq9, qa9, qb9, qc9⟩ := isOf hZ e8 (Ex_o_CALL_letter.ext O.2)
      obtain ⟨_, _, ⟨T9, L9, k9, n9⟩, -, X9, ⟨Lc9, hQ9, l9, y9, z9⟩, st9⟩ := X8.virtualBack hx (y := (⟨"java/lang/String", "length", "()I"⟩ : MethodName)) (z := (⟨"java/lang/String", "length", "()I"⟩ : MethodName)) hown (mvT hZ (hw _ (List.mem_of_getElem? (i := 15) rfl))) (mvT hZ (hw _ (List.mem_of_getElem? (i := 16) rfl))) (notFace_of_selects (args := #[]) (mvT hZ (hw _ (List.mem_of_getElem? (i := 18) rfl)))) (mvT hZ (hw _ (List.mem_of_getElem? (i := 18) rfl))) (mvT hZ (hw _ (List.mem_of_getElem? (i := 17) rfl))) (by decide) (backOf (W := 0) (own_rlen l Z a0 hw [] o_CALL_letter o_COMPACT_STRINGS o_CALL_letter_value k_o_CALL_letter_value (1 : Int32) [(.int (67 : Int32))] h0 n0 Z0 O S_o_COMPACT_STRINGS (Ex_o_CALL_letter.ext O.2) (F_o_CALL_letter_value.ext O.2) (F_o_CALL_letter_coder.ext O.2) (V_o_CALL_letter_value.ext O.2) nz_o_COMPACT_STRINGS) hZ (hw _ (List.mem_of_getElem? (i := 20) rfl)) (hw _ (List.mem_of_getElem? (i := 19) rfl)) (by decide) (by decide)) qa9 qc9 (g := (mkF m 18 #[iv p1, iv (1 : Int32), rv o_CALL, rv o_CALL_letter, .unset, .unset, .unset] [(.ref o_CALL_letter)])) rfl (by rw [hml]; rfl) (Steps.refl _) (argsL := []) (rest := []) (lenOf own_pd___I rfl) rfl (by show 2 * 0 + _ ≤ _; exact Nat.le_of_eq rfl) (hb hby at_18) (fun _ _ => ⟨rfl, e8, (by decide : 0 + 0 ≤ _), (by decide : 0 + 0 ≤ _)⟩)
      dsimp only [Pt.U, Pt.locs, Pt.cells, Pt.slots] at X9 l9 y9 z9 st9 hQ9
      subst l9 y9 z9
      obtain ⟨rfl, Nq9, e9⟩ := hQ9
      have N9 := Fr.app N8 Nq9
      refine own_go (fun zt zk => st9.trans zk) ?_
      show own_Go p e below s _ _ _ (T9.setTop (mkF m 21 #[iv p1, iv (1 : Int32), rv o_CALL, rv o_CALL_letter, .unset, .unset, .unset] [(.int (1 : Int32))]))
      refine own_go (fun zt zk => (XS.ifNo X9.here hx rfl (hb hby at_21) rfl ((if0 _ _).trans (tlt ((by decide) : (0 : Int32) < (1 : Int32))).2.2.2) (XS.aloadN X9.here hx rfl (hb hby at_24) rfl rfl (XS.iconst X9.here hx rfl (hb hby at_25) zk)))) ?_
      show own_Go p e below s _ _ _ (T9.setTop (mkF m 26 #[iv p1, iv (1 : Int32), rv o_CALL, rv o_CALL_letter, .unset, .unset, .unset] [(.int (0 : Int32)), (.ref o_CALL_letter)]))
      obtain ⟨cq10, kq10, qa10, qb10, qc10⟩ := isOf hZ e9 (Ex_o_CALL_letter.ext O.2)
      obtain ⟨_, _, ⟨T10, L10, k10, n10⟩, -, X10, ⟨Lc10, hQ10, l10, y10, z10⟩, st10⟩ := X9.virtualBack hx (y := (⟨"java/lang/String", "charAt", "(I)C"⟩ : MethodName)) (z := (⟨"java/lang/String", "charAt", "(I)C"⟩ : MethodName)) hown (mvT hZ (hw _ (List.mem_of_getElem? (i := 31) rfl))) (mvT hZ (hw _ (List.mem_of_getElem? (i := 32) rfl))) (notFace_of_selects (args := #[]) (mvT hZ (hw _ (List.mem_of_getElem? (i := 34) rfl)))) (mvT hZ (hw _ (List.mem_of_getElem? (i := 34) rfl))) (mvT hZ (hw _ (List.mem_of_getElem? (i := 33) rfl))) (by decide) (backOf (W := 0) (own_rchar l Z a0 hw [] o_CALL_letter (0 : Int32) o_COMPACT_STRINGS o_SIOOBE_FORMATTER o_CALL_letter_value k_o_CALL_letter_value (1 : Int32) [(.int (67 : Int32))] (67 : Int32) h0 n0 Z0 O S_o_COMPACT_STRINGS S_o_SIOOBE_FORMATTER (Ex_o_CALL_letter.ext O.2) (F_o_CALL_letter_value.ext O.2) (F_o_CALL_letter_coder.ext O.2) (V_o_CALL_letter_value.ext O.2) nz_o_COMPACT_STRINGS r_o_SIOOBE_FORMATTER ⟨by decide, by decide⟩ rfl) hZ (hw _ (List.mem_of_getElem? (i := 35) rfl)) (hw _ (List.mem_of_getElem? (i := 19) rfl)) (by decide) (by decide)) qa10 qc10 (g := (mkF m 26 #[iv p1, iv (1 : Int32), rv o_CALL, rv o_CALL_letter, .unset, .unset, .unset] [(.int (0 : Int32)), (.ref o_CALL_letter)])) rfl (by rw [hml]; rfl) (Steps.refl _) (argsL := [(.int (0 : Int32))]) (rest := []) (lenOf own_pd__I_C rfl) rfl (by show 2 * 0 + _ ≤ _; exact Nat.le_of_eq rfl) (hb hby at_26) (fun _ _ => ⟨rfl, e9, (by decide : 0 + 0 ≤ _), (by decide : 0 + 0 ≤ _)⟩)
      dsimp only [Pt.U, Pt.locs, Pt.cells, Pt.slots] at X10 l10 y10 z10 st10 hQ10
      subst l10 y10 z10
      obtain ⟨rfl, Nq10, e10⟩ := hQ10
      have N10 := Fr.app N9 Nq10
      refine own_go (fun zt zk => st10.trans zk) ?_
      show own_Go p e below s _ _ _ (T10.setTop (mkF m 29 #[iv p1, iv (1 : Int32), rv o_CALL, rv o_CALL_letter, .unset, .unset, .unset] [(.int (67 : Int32))]))
      refine own_go (fun zt zk => (XS.bipush X10.here hx rfl (hb hby at_29) (XS.icmpYes X10.here hx rfl (pc0 := 31) (pc' := 44) rfl (hb hby at_31) rfl (teq (rfl : (67 : Int32) = (67 : Int32))).1 (by decide) (by decide) (XS.iconst X10.here hx rfl (hb hby at_44) (XS.goto X10.here hx rfl (pc0 := 45) (pc' := 49) rfl (hb hby at_45) (by decide) (by decide) (XS.istore X10.here hx rfl (hb hby at_49) rfl (l' := #[iv p1, iv (1 : Int32), rv o_CALL, rv o_CALL_letter, iv (1 : Int32), .unset, .unset]) rfl (XS.iloadN X10.here hx rfl (hb hby at_51) rfl (XS.ifNo X10.here hx rfl (hb hby at_52) rfl ((if0 _ _).trans (feq ((by decide) : ¬ ((1 : Int32) = (0 : Int32)))).1) (XS.iconst X10.here hx rfl (hb hby at_55) (XS.goto X10.here hx rfl (pc0 := 56) (pc' := 60) rfl (hb hby at_56) (by decide) (by decide) (XS.istore X10.here hx rfl (hb hby at_60) rfl (l' := #[iv p1, iv (1 : Int32), rv o_CALL, rv o_CALL_letter, iv (1 : Int32), iv (1 : Int32), .unset]) rfl (XS.aloadN X10.here hx rfl (hb hby at_62) rfl rfl zk)))))))))))) ?_
      show own_Go p e below s _ _ _ (T10.setTop (mkF m 63 #[iv p1, iv (1 : Int32), rv o_CALL, rv o_CALL_letter, iv (1 : Int32), iv (1 : Int32), .unset] [(.ref o_CALL)]))
      obtain ⟨cq11, kq11, qa11, qb11, qc11⟩ := isOf hZ e10 (Ex_o_CALL.ext O.2)
      obtain ⟨_, _, ⟨T11, L11, k11, n11⟩, -, X11, ⟨Lc11, hQ11, l11, y11, z11⟩, st11⟩ := X10.virtualBack hx (y := (⟨"com/example/riskscan/riskscan/model/SeriesType", "isOption", "()Z"⟩ : MethodName)) (z := (⟨"com/example/riskscan/riskscan/model/SeriesType", "isOption", "()Z"⟩ : MethodName)) hown (mvT hZ (hw _ (List.mem_of_getElem? (i := 53) rfl))) (mvT hZ (hw _ (List.mem_of_getElem? (i := 54) rfl))) (notFace_of_selects (args := #[]) (mvT hZ (hw _ (List.mem_of_getElem? (i := 56) rfl)))) (mvT hZ (hw _ (List.mem_of_getElem? (i := 56) rfl))) (mvT hZ (hw _ (List.mem_of_getElem? (i := 55) rfl))) (by decide) (backOf (W := 0) (own_rio1 l Z a0 hw [] o_CALL o_FUTURE h0 n0 Z0 O S_o_FUTURE (Fld.ne F_o_CALL_ordinal F_o_FUTURE_ordinal (by decide))) hZ (hw _ (List.mem_of_getElem? (i := 57) rfl)) (hw _ (List.mem_of_getElem? (i := 6) rfl)) (by decide) (by decide)) qa11 qc11 (g := (mkF m 63 #[iv p1, iv (1 : Int32), rv o_CALL, rv o_CALL_letter, iv (1 : Int32), iv (1 : Int32), .unset] [(.ref o_CALL)])) rfl (by rw [hml]; rfl) (Steps.refl _) (argsL := []) (rest := []) (lenOf own_pd___Z rfl) rfl (by show 2 * 0 + _ ≤ _; exact Nat.le_of_eq rfl) (hb hby at_63) (fun _ _ => ⟨rfl, e10, (by decide : 0 + 0 ≤ _), (by decide : 0 + 0 ≤ _)⟩)
      dsimp only [Pt.U, Pt.locs, Pt.cells, Pt.slots] at X11 l11 y11 z11 st11 hQ11
      subst l11 y11 z11
      obtain ⟨rfl, Nq11, e11⟩ := hQ11
      have N11 := Fr.app N10 Nq11
      refine own_go (fun zt zk => st11.trans zk) ?_
      show own_Go p e below s _ _ _ (T11.setTop (mkF m 66 #[iv p1, iv (1 : Int32), rv o_CALL, rv o_CALL_letter, iv (1 : Int32), iv (1 : Int32), .unset] [(.int (1 : Int32))]))
      refine own_go (fun zt zk => (XS.istore X11.here hx rfl (hb hby at_66) rfl (l' := #[iv p1, iv (1 : Int32), rv o_CALL, rv o_CALL_letter, iv (1 : Int32), iv (1 : Int32), iv (1 : Int32)]) rfl (XS.iload X11.here hx rfl (hb hby at_68) rfl (XS.iload X11.here hx rfl (hb hby at_70) rfl (XS.icmpNo X11.here hx rfl (hb hby at_72) rfl (teq (rfl : (1 : Int32) = (1 : Int32))).2 (XS.iload X11.here hx rfl (hb hby at_75) rfl (XS.iload X11.here hx rfl (hb hby at_77) rfl (XS.icmpNo X11.here hx rfl (hb hby at_79) rfl (teq (rfl : (1 : Int32) = (1 : Int32))).2 (XS.iconst X11.here hx rfl (hb hby at_82) (XS.goto X11.here hx rfl (pc0 := 83) (pc' := 87) rfl (hb hby at_83) (by decide) (by decide) zk)))))))))) ?_
      show own_Go p e below s _ _ _ (T11.setTop (mkF m 87 #[iv p1, iv (1 : Int32), rv o_CALL, rv o_CALL_letter, iv (1 : Int32), iv (1 : Int32), iv (1 : Int32)] [(.int (1 : Int32))]))
      exact own_fin X11 Bd.notSynchronized (fun h => by rw [Bd.returns] at h; cases h) (fun fs hr => retN X11 hx (t := .boolean) Bd.returns (by simp) (hb hby at_87) hr) (by rw [e11]; exact ⟨rfl, N11⟩) (by decide) (by decide)
    · by_cases hk2_k : k = (2 : Int32)
      · subst hk2_k
        show own_Go p e below s _ _ _ (s₁.setTop (mkF m 7 #[iv p1, iv (2 : Int32), .unset, .unset, .unset, .unset, .unset] []))
        refine own_go (fun zt zk => (XS.iloadN X0.here hx rfl (hb hby at_7) rfl zk)) ?_
        show own_Go p e below s _ _ _ (s₁.setTop (mkF m 8 #[iv p1, iv (2 : Int32), .unset, .unset, .unset, .unset, .unset] [(.int (2 : Int32))]))
        obtain ⟨_, _, ⟨T12, L12, k12, n12⟩, -, X12, ⟨Lc12, hQ12, l12, y12, z12⟩, st12⟩ := Jvm.LawKit.callS X0 hx (y := (⟨"com/example/riskscan/riskscan/model/SeriesTypeIsOptionPinLaw", "pick", "(I)Lcom/example/riskscan/riskscan/model/SeriesType;"⟩ : MethodName)) hown (mvT hZ (hw _ (List.mem_of_getElem? (i := 1) rfl))) (mvT hZ (hw _ (List.mem_of_getElem? (i := 2) rfl))) (mvT hZ (hw _ (List.mem_of_getElem? (i := 3) rfl))) (mvT hZ (hw _ (List.mem_of_getElem? (i := 4) rfl))) (by decide) (backOf (W := 0) (own_rpick2 l Z a0 hw []  o_PUT h0 n0 Z0 O S_o_PUT) hZ (hw _ (List.mem_of_getElem? (i := 4) rfl)) (hw _ (List.mem_of_getElem? (i := 3) rfl)) (by decide) (by decide)) (g := (mkF m 8 #[iv p1, iv (2 : Int32), .unset, .unset, .unset, .unset, .unset] [(.int (2 : Int32))])) rfl (by rw [hml]; rfl) (argsL := [(.int (2 : Int32))]) (rest := []) (lenOf own_pd__I_Lcom_example_riskscan_riskscan_model_SeriesType_ rfl) rfl (by show 2 * 0 + _ ≤ _; exact Nat.le_of_eq rfl) (hb hby at_8) (fun _ _ => ⟨rfl, e0, (by decide : 0 + 0 ≤ _), (by decide : 0 + 0 ≤ _)⟩)
        dsimp only [Pt.U, Pt.locs, Pt.cells, Pt.slots] at X12 l12 y12 z12 st12 hQ12
        subst l12 y12 z12
        obtain ⟨rfl, Nq12, e12⟩ := hQ12
        have N12 := Fr.app N0 Nq12
        refine own_go st12 ?_
        show own_Go p e below s _ _ _ (T12.setTop (mkF m 11 #[iv p1, iv (2 : Int32), .unset, .unset, .unset, .unset, .unset] [(.ref o_PUT)]))
        refine own_go (fun zt zk => (XS.astoreN X12.here hx rfl (hb hby at_11) rfl rfl (l' := #[iv p1, iv (2 : Int32), rv o_PUT, .unset, .unset, .unset, .unset]) rfl (XS.aloadN X12.here hx rfl (hb hby at_12) rfl rfl zk))) ?_
        show own_Go p e below s _ _ _ (T12.setTop (mkF m 13 #[iv p1, iv (2 : Int32), rv o_PUT, .unset, .unset, .unset, .unset] [(.ref o_PUT)]))
        obtain ⟨cq13, kq13, qa13, qb13, qc13⟩ := isOf hZ e12 (Ex_o_PUT.ext O.2)
        obtain ⟨_, _, ⟨T13, L13, k13, n13⟩, -, X13, ⟨Lc13, hQ13, l13, y13, z13⟩, st13⟩ := X12.virtualBack hx (y := (⟨"com/example/riskscan/riskscan/model/SeriesType", "letter", "()Ljava/lang/String;"⟩ : MethodName)) (z := (⟨"com/example/riskscan/riskscan/model/SeriesType", "letter", "()Ljava/lang/String;"⟩ : MethodName)) hown (mvT hZ (hw _ (List.mem_of_getElem? (i := 8) rfl))) (mvT hZ (hw _ (List.mem_of_getElem? (i := 9) rfl))) (notFace_of_selects (args := #[]) (mvT hZ (hw _ (List.mem_of_getElem? (i := 11) rfl)))) (mvT hZ (hw _ (List.mem_of_getElem? (i := 11) rfl))) (mvT hZ (hw _ (List.mem_of_getElem? (i := 10) rfl))) (by decide) (backOf (W := 0) (own_rletter l Z a0 hw [] o_PUT o_PUT_letter h0 n0 Z0 (F_o_PUT_letter.ext O.2)) hZ (hw _ (List.mem_of_getElem? (i := 12) rfl)) (hw _ (List.mem_of_getElem? (i := 6) rfl)) (by decide) (by decide)) qa13 qc13 (g := (mkF m 13 #[iv p1, iv (2 : Int32), rv o_PUT, .unset, .unset, .unset, .unset] [(.ref o_PUT)])) rfl (by rw [hml]; rfl) (Steps.refl _) (argsL := []) (rest := []) (lenOf own_pd___Ljava_lang_String_ rfl) rfl (by show 2 * 0 + _ ≤ _; exact Nat.le_of_eq rfl) (hb hby at_13) (fun _ _ => ⟨rfl, e12, (by decide : 0 + 0 ≤ _), (by decide : 0 + 0 ≤ _)⟩)
        dsimp only [Pt.U, Pt.locs, Pt.cells, Pt.slots] at X13 l13 y13 z13 st13 hQ13
        subst l13 y13 z13
        obtain ⟨rfl, Nq13, e13⟩ := hQ13
        have N13 := Fr.app N12 Nq13
        refine own_go (fun zt zk => st13.trans zk) ?_
        show own_Go p e below s _ _ _ (T13.setTop (mkF m 16 #[iv p1, iv (2 : Int32), rv o_PUT, .unset, .unset, .unset, .unset] [(.ref o_PUT_letter)]))
        refine own_go (fun zt zk => (XS.astoreN X13.here hx rfl (hb hby at_16) rfl rfl (l' := #[iv p1, iv (2 : Int32), rv o_PUT, rv o_PUT_letter, .unset, .unset, .unset]) rfl (XS.aloadN X13.here hx rfl (hb hby at_17) rfl rfl zk))) ?_
        show own_Go p e below s _ _ _ (T13.setTop (mkF m 18 #[iv p1, iv (2 : Int32), rv o_PUT, rv o_PUT_letter, .unset, .unset, .unset] [(.ref o_PUT_letter)]))
        obtain ⟨cq14, kq14, qa14, qb14, qc14⟩ := isOf hZ e13 (Ex_o_PUT_letter.ext O.2)
        obtain ⟨_, _, ⟨T14, L14, k14, n14⟩, -, X14, ⟨Lc14, hQ14, l14, y14, z14⟩, st14⟩ := X13.virtualBack hx (y := (⟨"java/lang/String", "length", "()I"⟩ : MethodName)) (z := (⟨"java/lang/String", "length", "()I"⟩ : MethodName)) hown (mvT hZ (hw _ (List.mem_of_getElem? (i := 15) rfl))) (mvT hZ (hw _ (List.mem_of_getElem? (i := 16) rfl))) (notFace_of_selects (args := #[]) (mvT hZ (hw _ (List.mem_of_getElem? (i := 18) rfl)))) (mvT hZ (hw _ (List.mem_of_getElem? (i := 18) rfl))) (mvT hZ (hw _ (List.mem_of_getElem? (i := 17) rfl))) (by decide) (backOf (W := 0) (own_rlen l Z a0 hw [] o_PUT_letter o_COMPACT_STRINGS o_PUT_letter_value k_o_PUT_letter_value (1 : Int32) [(.int (80 : Int32))] h0 n0 Z0 O S_o_COMPACT_STRINGS (Ex_o_PUT_letter.ext O.2) (F_o_PUT_letter_value.ext O.2) (F_o_PUT_letter_coder.ext O.2) (V_o_PUT_letter_value.ext O.2) nz_o_COMPACT_STRINGS) hZ (hw _ (List.mem_of_getElem? (i := 20) rfl)) (hw _ (List.mem_of_getElem? (i := 19) rfl)) (by decide) (by decide)) qa14 qc14 (g := (mkF m 18 #[iv p1, iv (2 : Int32), rv o_PUT, rv o_PUT_letter, .unset, .unset, .unset] [(.ref o_PUT_letter)])) rfl (by rw [hml]; rfl) (Steps.refl _) (argsL := []) (rest := []) (lenOf own_pd___I rfl) rfl (by show 2 * 0 + _ ≤ _; exact Nat.le_of_eq rfl) (hb hby at_18) (fun _ _ => ⟨rfl, e13, (by decide : 0 + 0 ≤ _), (by decide : 0 + 0 ≤ _)⟩)
        dsimp only [Pt.U, Pt.locs, Pt.cells, Pt.slots] at X14 l14 y14 z14 st14 hQ14
        subst l14 y14 z14
        obtain ⟨rfl, Nq14, e14⟩ := hQ14
        have N14 := Fr.app N13 Nq14
        refine own_go (fun zt zk => st14.trans zk) ?_
        show own_Go p e below s _ _ _ (T14.setTop (mkF m 21 #[iv p1, iv (2 : Int32), rv o_PUT, rv o_PUT_letter, .unset, .unset, .unset] [(.int (1 : Int32))]))
        refine own_go (fun zt zk => (XS.ifNo X14.here hx rfl (hb hby at_21) rfl ((if0 _ _).trans (tlt ((by decide) : (0 : Int32) < (1 : Int32))).2.2.2) (XS.aloadN X14.here hx rfl (hb hby at_24) rfl rfl (XS.iconst X14.here hx rfl (hb hby at_25) zk)))) ?_
        show own_Go p e below s _ _ _ (T14.setTop (mkF m 26 #[iv p1, iv (2 : Int32), rv o_PUT, rv o_PUT_letter, .unset, .unset, .unset] [(.int (0 : Int32)), (.ref o_PUT_letter)]))
        obtain ⟨cq15, kq15, qa15, qb15, qc15⟩ := isOf hZ e14 (Ex_o_PUT_letter.ext O.2)
        obtain ⟨_, _, ⟨T15, L15, k15, n15⟩, -, X15, ⟨Lc15, hQ15, l15, y15, z15⟩, st15⟩ := X14.virtualBack hx (y := (⟨"java/lang/String", "charAt", "(I)C"⟩ : MethodName)) (z := (⟨"java/lang/String", "charAt", "(I)C"⟩ : MethodName)) hown (mvT hZ (hw _ (List.mem_of_getElem? (i := 31) rfl))) (mvT hZ (hw _ (List.mem_of_getElem? (i := 32) rfl))) (notFace_of_selects (args := #[]) (mvT hZ (hw _ (List.mem_of_getElem? (i := 34) rfl)))) (mvT hZ (hw _ (List.mem_of_getElem? (i := 34) rfl))) (mvT hZ (hw _ (List.mem_of_getElem? (i := 33) rfl))) (by decide) (backOf (W := 0) (own_rchar l Z a0 hw [] o_PUT_letter (0 : Int32) o_COMPACT_STRINGS o_SIOOBE_FORMATTER o_PUT_letter_value k_o_PUT_letter_value (1 : Int32) [(.int (80 : Int32))] (80 : Int32) h0 n0 Z0 O S_o_COMPACT_STRINGS S_o_SIOOBE_FORMATTER (Ex_o_PUT_letter.ext O.2) (F_o_PUT_letter_value.ext O.2) (F_o_PUT_letter_coder.ext O.2) (V_o_PUT_letter_value.ext O.2) nz_o_COMPACT_STRINGS r_o_SIOOBE_FORMATTER ⟨by decide, by decide⟩ rfl) hZ (hw _ (List.mem_of_getElem? (i := 35) rfl)) (hw _ (List.mem_of_getElem? (i := 19) rfl)) (by decide) (by decide)) qa15 qc15 (g := (mkF m 26 #[iv p1, iv (2 : Int32), rv o_PUT, rv o_PUT_letter, .unset, .unset, .unset] [(.int (0 : Int32)), (.ref o_PUT_letter)])) rfl (by rw [hml]; rfl) (Steps.refl _) (argsL := [(.int (0 : Int32))]) (rest := []) (lenOf own_pd__I_C rfl) rfl (by show 2 * 0 + _ ≤ _; exact Nat.le_of_eq rfl) (hb hby at_26) (fun _ _ => ⟨rfl, e14, (by decide : 0 + 0 ≤ _), (by decide : 0 + 0 ≤ _)⟩)
        dsimp only [Pt.U, Pt.locs, Pt.cells, Pt.slots] at X15 l15 y15 z15 st15 hQ15
        subst l15 y15 z15
        obtain ⟨rfl, Nq15, e15⟩ := hQ15
        have N15 := Fr.app N14 Nq15
        refine own_go (fun zt zk => st15.trans zk) ?_
        show own_Go p e below s _ _ _ (T15.setTop (mkF m 29 #[iv p1, iv (2 : Int32), rv o_PUT, rv o_PUT_letter, .unset, .unset, .unset] [(.int (80 : Int32))]))
        refine own_go (fun zt zk => (XS.bipush X15.here hx rfl (hb hby at_29) (XS.icmpNo X15.here hx rfl (hb hby at_31) rfl (feq ((by decide) : ¬ ((80 : Int32) = (67 : Int32)))).1 (XS.aloadN X15.here hx rfl (hb hby at_34) rfl rfl (XS.iconst X15.here hx rfl (hb hby at_35) zk))))) ?_
        show own_Go p e below s _ _ _ (T15.setTop (mkF m 36 #[iv p1, iv (2 : Int32), rv o_PUT, rv o_PUT_letter, .unset, .unset, .unset] [(.int (0 : Int32)), (.ref o_PUT_letter)]))
        obtain ⟨cq16, kq16, qa16, qb16, qc16⟩ := isOf hZ e15 (Ex_o_PUT_letter.ext O.2)
        obtain ⟨_, _, ⟨T16, L16, k16, n16⟩, -, X16, ⟨Lc16, hQ16, l16, y16, z16⟩, st16⟩ := X15.virtualBack hx (y := (⟨"java/lang/String", "charAt", "(I)C"⟩ : MethodName)) (z := (⟨"java/lang/String", "charAt", "(I)C"⟩ : MethodName)) hown (mvT hZ (hw _ (List.mem_of_getElem? (i := 31) rfl))) (mvT hZ (hw _ (List.mem_of_getElem? (i := 32) rfl))) (notFace_of_selects (args := #[]) (mvT hZ (hw _ (List.mem_of_getElem? (i := 34) rfl)))) (mvT hZ (hw _ (List.mem_of_getElem? (i := 34) rfl))) (mvT hZ (hw _ (List.mem_of_getElem? (i := 33) rfl))) (by decide) (backOf (W := 0) (own_rchar l Z a0 hw [] o_PUT_letter (0 : Int32) o_COMPACT_STRINGS o_SIOOBE_FORMATTER o_PUT_letter_value k_o_PUT_letter_value (1 : Int32) [(.int (80 : Int32))] (80 : Int32) h0 n0 Z0 O S_o_COMPACT_STRINGS S_o_SIOOBE_FORMATTER (Ex_o_PUT_letter.ext O.2) (F_o_PUT_letter_value.ext O.2) (F_o_PUT_letter_coder.ext O.2) (V_o_PUT_letter_value.ext O.2) nz_o_COMPACT_STRINGS r_o_SIOOBE_FORMATTER ⟨by decide, by decide⟩ rfl) hZ (hw _ (List.mem_of_getElem? (i := 35) rfl)) (hw _ (List.mem_of_getElem? (i := 19) rfl)) (by decide) (by decide)) qa16 qc16 (g := (mkF m 36 #[iv p1, iv (2 : Int32), rv o_PUT, rv o_PUT_letter, .unset, .unset, .unset] [(.int (0 : Int32)), (.ref o_PUT_letter)])) rfl (by rw [hml]; rfl) (Steps.refl _) (argsL := [(.int (0 : Int32))]) (rest := []) (lenOf own_pd__I_C rfl) rfl (by show 2 * 0 + _ ≤ _; exact Nat.le_of_eq rfl) (hb hby at_36) (fun _ _ => ⟨rfl, e15, (by decide : 0 + 0 ≤ _), (by decide : 0 + 0 ≤ _)⟩)
        dsimp only [Pt.U, Pt.locs, Pt.cells, Pt.slots] at X16 l16 y16 z16 st16 hQ16
        subst l16 y16 z16
        obtain ⟨rfl, Nq16, e16⟩ := hQ16
        have N16 := Fr.app N15 Nq16
        refine own_go (fun zt zk => st16.trans zk) ?_
        show own_Go p e below s _ _ _ (T16.setTop (mkF m 39 #[iv p1, iv (2 : Int32), rv o_PUT, rv o_PUT_letter, .unset, .unset, .unset] [(.int (80 : Int32))]))
        refine own_go (fun zt zk => (XS.bipush X16.here hx rfl (hb hby at_39) (XS.icmpNo X16.here hx rfl (hb hby at_41) rfl (teq (rfl : (80 : Int32) = (80 : Int32))).2 (XS.iconst X16.here hx rfl (hb hby at_44) (XS.goto X16.here hx rfl (pc0 := 45) (pc' := 49) rfl (hb hby at_45) (by decide) (by decide) (XS.istore X16.here hx rfl (hb hby at_49) rfl (l' := #[iv p1, iv (2 : Int32), rv o_PUT, rv o_PUT_letter, iv (1 : Int32), .unset, .unset]) rfl (XS.iloadN X16.here hx rfl (hb hby at_51) rfl (XS.ifNo X16.here hx rfl (hb hby at_52) rfl ((if0 _ _).trans (feq ((by decide) : ¬ ((2 : Int32) = (0 : Int32)))).1) (XS.iconst X16.here hx rfl (hb hby at_55) (XS.goto X16.here hx rfl (pc0 := 56) (pc' := 60) rfl (hb hby at_56) (by decide) (by decide) (XS.istore X16.here hx rfl (hb hby at_60) rfl (l' := #[iv p1, iv (2 : Int32), rv o_PUT, rv o_PUT_letter, iv (1 : Int32), iv (1 : Int32), .unset]) rfl (XS.aloadN X16.here hx rfl (hb hby at_62) rfl rfl zk)))))))))))) ?_
        show own_Go p e below s _ _ _ (T16.setTop (mkF m 63 #[iv p1, iv (2 : Int32), rv o_PUT, rv o_PUT_letter, iv (1 : Int32), iv (1 : Int32), .unset] [(.ref o_PUT)]))
        obtain ⟨cq17, kq17, qa17, qb17, qc17⟩ := isOf hZ e16 (Ex_o_PUT.ext O.2)
        obtain ⟨_, _, ⟨T17, L17, k17, n17⟩, -, X17, ⟨Lc17, hQ17, l17, y17, z17⟩, st17⟩ := X16.virtualBack hx (y := (⟨"com/example/riskscan/riskscan/model/SeriesType", "isOption", "()Z"⟩ : MethodName)) (z := (⟨"com/example/riskscan/riskscan/model/SeriesType", "isOption", "()Z"⟩ : MethodName)) hown (mvT hZ (hw _ (List.mem_of_getElem? (i := 53) rfl))) (mvT hZ (hw _ (List.mem_of_getElem? (i := 54) rfl))) (notFace_of_selects (args := #[]) (mvT hZ (hw _ (List.mem_of_getElem? (i := 56) rfl)))) (mvT hZ (hw _ (List.mem_of_getElem? (i := 56) rfl))) (mvT hZ (hw _ (List.mem_of_getElem? (i := 55) rfl))) (by decide) (backOf (W := 0) (own_rio1 l Z a0 hw [] o_PUT o_FUTURE h0 n0 Z0 O S_o_FUTURE (Fld.ne F_o_PUT_ordinal F_o_FUTURE_ordinal (by decide))) hZ (hw _ (List.mem_of_getElem? (i := 57) rfl)) (hw _ (List.mem_of_getElem? (i := 6) rfl)) (by decide) (by decide)) qa17 qc17 (g := (mkF m 63 #[iv p1, iv (2 : Int32), rv o_PUT, rv o_PUT_letter, iv (1 : Int32), iv (1 : Int32), .unset] [(.ref o_PUT)])) rfl (by rw [hml]; rfl) (Steps.refl _) (argsL := []) (rest := []) (lenOf own_pd___Z rfl) rfl (by show 2 * 0 + _ ≤ _; exact Nat.le_of_eq rfl) (hb hby at_63) (fun _ _ => ⟨rfl, e16, (by decide : 0 + 0 ≤ _), (by decide : 0 + 0 ≤ _)⟩)
        dsimp only [Pt.U, Pt.locs, Pt.cells, Pt.slots] at X17 l17 y17 z17 st17 hQ17
        subst l17 y17 z17
        obtain ⟨rfl, Nq17, e17⟩ := hQ17
        have N17 := Fr.app N16 Nq17
        refine own_go (fun zt zk => st17.trans zk) ?_
        show own_Go p e below s _ _ _ (T17.setTop (mkF m 66 #[iv p1, iv (2 : Int32), rv o_PUT, rv o_PUT_letter, iv (1 : Int32), iv (1 : Int32), .unset] [(.int (1 : Int32))]))
        refine own_go (fun zt zk => (XS.istore X17.here hx rfl (hb hby at_66) rfl (l' := #[iv p1, iv (2 : Int32), rv o_PUT, rv o_PUT_letter, iv (1 : Int32), iv (1 : Int32), iv (1 : Int32)]) rfl (XS.iload X17.here hx rfl (hb hby at_68) rfl (XS.iload X17.here hx rfl (hb hby at_70) rfl (XS.icmpNo X17.here hx rfl (hb hby at_72) rfl (teq (rfl : (1 : Int32) = (1 : Int32))).2 (XS.iload X17.here hx rfl (hb hby at_75) rfl (XS.iload X17.here hx rfl (hb hby at_77) rfl (XS.icmpNo X17.here hx rfl (hb hby at_79) rfl (teq (rfl : (1 : Int32) = (1 : Int32))).2 (XS.iconst X17.here hx rfl (hb hby at_82) (XS.goto X17.here hx rfl (pc0 := 83) (pc' := 87) rfl (hb hby at_83) (by decide) (by decide) zk)))))))))) ?_
        show own_Go p e below s _ _ _ (T17.setTop (mkF m 87 #[iv p1, iv (2 : Int32), rv o_PUT, rv o_PUT_letter, iv (1 : Int32), iv (1 : Int32), iv (1 : Int32)] [(.int (1 : Int32))]))
        exact own_fin X17 Bd.notSynchronized (fun h => by rw [Bd.returns] at h; cases h) (fun fs hr => retN X17 hx (t := .boolean) Bd.returns (by simp) (hb hby at_87) hr) (by rw [e17]; exact ⟨rfl, N17⟩) (by decide) (by decide)
      · by_cases hk3_k : k = (3 : Int32)
        · subst hk3_k
          show own_Go p e below s _ _ _ (s₁.setTop (mkF m 7 #[iv p1, iv (3 : Int32), .unset, .unset, .unset, .unset, .unset] []))
          refine own_go (fun zt zk => (XS.iloadN X0.here hx rfl (hb hby at_7) rfl zk)) ?_
          show own_Go p e below s _ _ _ (s₁.setTop (mkF m 8 #[iv p1, iv (3 : Int32), .unset, .unset, .unset, .unset, .unset] [(.int (3 : Int32))]))
          obtain ⟨_, _, ⟨T18, L18, k18, n18⟩, -, X18, ⟨Lc18, hQ18, l18, y18, z18⟩, st18⟩ := Jvm.LawKit.callS X0 hx (y := (⟨"com/example/riskscan/riskscan/model/SeriesTypeIsOptionPinLaw", "pick", "(I)Lcom/example/riskscan/riskscan/model/SeriesType;"⟩ : MethodName)) hown (mvT hZ (hw _ (List.mem_of_getElem? (i := 1) rfl))) (mvT hZ (hw _ (List.mem_of_getElem? (i := 2) rfl))) (mvT hZ (hw _ (List.mem_of_getElem? (i := 3) rfl))) (mvT hZ (hw _ (List.mem_of_getElem? (i := 4) rfl))) (by decide) (backOf (W := 0) (own_rpick3 l Z a0 hw []  o_AVERAGE_PRICE_CALL h0 n0 Z0 O S_o_AVERAGE_PRICE_CALL) hZ (hw _ (List.mem_of_getElem? (i := 4) rfl)) (hw _ (List.mem_of_getElem? (i := 3) rfl)) (by decide) (by decide)) (g := (mkF m 8 #[iv p1, iv (3 : Int32), .unset, .unset, .unset, .unset, .unset] [(.int (3 : Int32))])) rfl (by rw [hml]; rfl) (argsL := [(.int (3 : Int32))]) (rest := []) (lenOf own_pd__I_Lcom_example_riskscan_riskscan_model_SeriesType_ rfl) rfl (by show 2 * 0 + _ ≤ _; exact Nat.le_of_eq rfl) (hb hby at_8) (fun _ _ => ⟨rfl, e0, (by decide : 0 + 0 ≤ _), (by decide : 0 + 0 ≤ _)⟩)
          dsimp only [Pt.U, Pt.locs, Pt.cells, Pt.slots] at X18 l18 y18 z18 st18 hQ18
          subst l18 y18 z18
          obtain ⟨rfl, Nq18, e18⟩ := hQ18
          have N18 := Fr.app N0 Nq18
          refine own_go st18 ?_
          show own_Go p e below s _ _ _ (T18.setTop (mkF m 11 #[iv p1, iv (3 : Int32), .unset, .unset, .unset, .unset, .unset] [(.ref o_AVERAGE_PRICE_CALL)]))
          refine own_go (fun zt zk => (XS.astoreN X18.here hx rfl (hb hby at_11) rfl rfl (l' := #[iv p1, iv (3 : Int32), rv o_AVERAGE_PRICE_CALL, .unset, .unset, .unset, .unset]) rfl (XS.aloadN X18.here hx rfl (hb hby at_12) rfl rfl zk))) ?_
          show own_Go p e below s _ _ _ (T18.setTop (mkF m 13 #[iv p1, iv (3 : Int32), rv o_AVERAGE_PRICE_CALL, .unset, .unset, .unset, .unset] [(.ref o_AVERAGE_PRICE_CALL)]))
          obtain ⟨cq19, kq19, qa19, qb19, qc19⟩ := isOf hZ e18 (Ex_o_AVERAGE_PRICE_CALL.ext O.2)
          obtain ⟨_, _, ⟨T19, L19, k19, n19⟩, -, X19, ⟨Lc19, hQ19, l19, y19, z19⟩, st19⟩ := X18.virtualBack hx (y := (⟨"com/example/riskscan/riskscan/model/SeriesType", "letter", "()Ljava/lang/String;"⟩ : MethodName)) (z := (⟨"com/example/riskscan/riskscan/model/SeriesType", "letter", "()Ljava/lang/String;"⟩ : MethodName)) hown (mvT hZ (hw _ (List.mem_of_getElem? (i := 8) rfl))) (mvT hZ (hw _ (List.mem_of_getElem? (i := 9) rfl))) (notFace_of_selects (args := #[]) (mvT hZ (hw _ (List.mem_of_getElem? (i := 11) rfl)))) (mvT hZ (hw _ (List.mem_of_getElem? (i := 11) rfl))) (mvT hZ (hw _ (List.mem_of_getElem? (i := 10) rfl))) (by decide) (backOf (W := 0) (own_rletter l Z a0 hw [] o_AVERAGE_PRICE_CALL o_AVERAGE_PRICE_CALL_letter h0 n0 Z0 (F_o_AVERAGE_PRICE_CALL_letter.ext O.2)) hZ (hw _ (List.mem_of_getElem? (i := 12) rfl)) (hw _ (List.mem_of_getElem? (i := 6) rfl)) (by decide) (by decide)) qa19 qc19 (g := (mkF m 13 #[iv p1, iv (3 : Int32), rv o_AVERAGE_PRICE_CALL, .unset, .unset, .unset, .unset] [(.ref o_AVERAGE_PRICE_CALL)])) rfl (by rw [hml]; rfl) (Steps.refl _) (argsL := []) (rest := []) (lenOf own_pd___Ljava_lang_String_ rfl) rfl (by show 2 * 0 + _ ≤ _; exact Nat.le_of_eq rfl) (hb hby at_13) (fun _ _ => ⟨rfl, e18, (by decide : 0 + 0 ≤ _), (by decide : 0 + 0 ≤ _)⟩)
          dsimp only [Pt.U, Pt.locs, Pt.cells, Pt.slots] at X19 l19 y19 z19 st19 hQ19
          subst l19 y19 z19
          obtain ⟨rfl, Nq19, e19⟩ := hQ19
          have N19 := Fr.app N18 Nq19
          refine own_go (fun zt zk => st19.trans zk) ?_
          show own_Go p e below s _ _ _ (T19.setTop (mkF m 16 #[iv p1, iv (3 : Int32), rv o_AVERAGE_PRICE_CALL, .unset, .unset, .unset, .unset] [(.ref o_AVERAGE_PRICE_CALL_letter)]))
          refine own_go (fun zt zk => (XS.astoreN X19.here hx rfl (hb hby at_16) rfl rfl (l' := #[iv p1, iv (3 : Int32), rv o_AVERAGE_PRICE_CALL, rv o_AVERAGE_PRICE_CALL_letter, .unset, .unset, .unset]) rfl (XS.aloadN X19.here hx rfl (hb hby at_17) rfl rfl zk))) ?_
          show own_Go p e below s _ _ _ (T19.setTop (mkF m 18 #[iv p1, iv (3 : Int32), rv o_AVERAGE_PRICE_CALL, rv o_AVERAGE_PRICE_CALL_letter, .unset, .unset, .unset] [(.ref o_AVERAGE_PRICE_CALL_letter)]))
          obtain ⟨cq20, kq20, qa20, qb20, qc20⟩ := isOf hZ e19 (Ex_o_AVERAGE_PRICE_CALL_letter.ext O.2)
          obtain ⟨_, _, ⟨T20, L20, k20, n20⟩, -, X20, ⟨Lc20, hQ20, l20, y20, z20⟩, st20⟩ := X19.virtualBack hx (y := (⟨"java/lang/String", "length", "()I"⟩ : MethodName)) (z := (⟨"java/lang/String", "length", "()I"⟩ : MethodName)) hown (mvT hZ (hw _ (List.mem_of_getElem? (i := 15) rfl))) (mvT hZ (hw _ (List.mem_of_getElem? (i := 16) rfl))) (notFace_of_selects (args := #[]) (mvT hZ (hw _ (List.mem_of_getElem? (i := 18) rfl)))) (mvT hZ (hw _ (List.mem_of_getElem? (i := 18) rfl))) (mvT hZ (hw _ (List.mem_of_getElem? (i := 17) rfl))) (by decide) (backOf (W := 0) (own_rlen l Z a0 hw [] o_AVERAGE_PRICE_CALL_letter o_COMPACT_STRINGS o_AVERAGE_PRICE_CALL_letter_value k_o_AVERAGE_PRICE_CALL_letter_value (2 : Int32) [(.int (67 : Int32)), (.int (65 : Int32))] h0 n0 Z0 O S_o_COMPACT_STRINGS (Ex_o_AVERAGE_PRICE_CALL_letter.ext O.2) (F_o_AVERAGE_PRICE_CALL_letter_value.ext O.2) (F_o_AVERAGE_PRICE_CALL_letter_coder.ext O.2) (V_o_AVERAGE_PRICE_CALL_letter_value.ext O.2) nz_o_COMPACT_STRINGS) hZ (hw _ (List.mem_of_getElem? (i := 20) rfl)) (hw _ (List.mem_of_getElem? (i := 19) rfl)) (by decide) (by decide)) qa20 qc20 (g := (mkF m 18 #[iv p1, iv (3 : Int32), rv o_AVERAGE_PRICE_CALL, rv o_AVERAGE_PRICE_CALL_letter, .unset, .unset, .unset] [(.ref o_AVERAGE_PRICE_CALL_letter)])) rfl (by rw [hml]; rfl) (Steps.refl _) (argsL := []) (rest := []) (lenOf own_pd___I rfl) rfl (by show 2 * 0 + _ ≤ _; exact Nat.le_of_eq rfl) (hb hby at_18) (fun _ _ => ⟨rfl, e19, (by decide : 0 + 0 ≤ _), (by decide : 0 + 0 ≤ _)⟩)
          dsimp only [Pt.U, Pt.locs, Pt.cells, Pt.slots] at X20 l20 y20 z20 st20 hQ20
          subst l20 y20 z20
          obtain ⟨rfl, Nq20, e20⟩ := hQ20
          have N20 := Fr.app N19 Nq20
          refine own_go (fun zt zk => st20.trans zk) ?_
          show own_Go p e below s _ _ _ (T20.setTop (mkF m 21 #[iv p1, iv (3 : Int32), rv o_AVERAGE_PRICE_CALL, rv o_AVERAGE_PRICE_CALL_letter, .unset, .unset, .unset] [(.int (2 : Int32))]))
          refine own_go (fun zt zk => (XS.ifNo X20.here hx rfl (hb hby at_21) rfl ((if0 _ _).trans (tlt ((by decide) : (0 : Int32) < (2 : Int32))).2.2.2) (XS.aloadN X20.here hx rfl (hb hby at_24) rfl rfl (XS.iconst X20.here hx rfl (hb hby at_25) zk)))) ?_
          show own_Go p e below s _ _ _ (T20.setTop (mkF m 26 #[iv p1, iv (3 : Int32), rv o_AVERAGE_PRICE_CALL, rv o_AVERAGE_PRICE_CALL_letter, .unset, .unset, .unset] [(.int (0 : Int32)), (.ref o_AVERAGE_PRICE_CALL_letter)]))
          obtain ⟨cq21, kq21, qa21, qb21, qc21⟩ := isOf hZ e20 (Ex_o_AVERAGE_PRICE_CALL_letter.ext O.2)
          obtain ⟨_, _, ⟨T21, L21, k21, n21⟩, -, X21, ⟨Lc21, hQ21, l21, y21, z21⟩, st21⟩ := X20.virtualBack hx (y := (⟨"java/lang/String", "charAt", "(I)C"⟩ : MethodName)) (z := (⟨"java/lang/String", "charAt", "(I)C"⟩ : MethodName)) hown (mvT hZ (hw _ (List.mem_of_getElem? (i := 31) rfl))) (mvT hZ (hw _ (List.mem_of_getElem? (i := 32) rfl))) (notFace_of_selects (args := #[]) (mvT hZ (hw _ (List.mem_of_getElem? (i := 34) rfl)))) (mvT hZ (hw _ (List.mem_of_getElem? (i := 34) rfl))) (mvT hZ (hw _ (List.mem_of_getElem? (i := 33) rfl))) (by decide) (backOf (W := 0) (own_rchar l Z a0 hw [] o_AVERAGE_PRICE_CALL_letter (0 : Int32) o_COMPACT_STRINGS o_SIOOBE_FORMATTER o_AVERAGE_PRICE_CALL_letter_value k_o_AVERAGE_PRICE_CALL_letter_value (2 : Int32) [(.int (67 : Int32)), (.int (65 : Int32))] (67 : Int32) h0 n0 Z0 O S_o_COMPACT_STRINGS S_o_SIOOBE_FORMATTER (Ex_o_AVERAGE_PRICE_CALL_letter.ext O.2) (F_o_AVERAGE_PRICE_CALL_letter_value.ext O.2) (F_o_AVERAGE_PRICE_CALL_letter_coder.ext O.2) (V_o_AVERAGE_PRICE_CALL_letter_value.ext O.2) nz_o_COMPACT_STRINGS r_o_SIOOBE_FORMATTER ⟨by decide, by decide⟩ rfl) hZ (hw _ (List.mem_of_getElem? (i := 35) rfl)) (hw _ (List.mem_of_getElem? (i := 19) rfl)) (by decide) (by decide)) qa21 qc21 (g := (mkF m 26 #[iv p1, iv (3 : Int32), rv o_AVERAGE_PRICE_CALL, rv o_AVERAGE_PRICE_CALL_letter, .unset, .unset, .unset] [(.int (0 : Int32)), (.ref o_AVERAGE_PRICE_CALL_letter)])) rfl (by rw [hml]; rfl) (Steps.refl _) (argsL := [(.int (0 : Int32))]) (rest := []) (lenOf own_pd__I_C rfl) rfl (by show 2 * 0 + _ ≤ _; exact Nat.le_of_eq rfl) (hb hby at_26) (fun _ _ => ⟨rfl, e20, (by decide : 0 + 0 ≤ _), (by decide : 0 + 0 ≤ _)⟩)
          dsimp only [Pt.U, Pt.locs, Pt.cells, Pt.slots] at X21 l21 y21 z21 st21 hQ21
          subst l21 y21 z21
          obtain ⟨rfl, Nq21, e21⟩ := hQ21
          have N21 := Fr.app N20 Nq21
          refine own_go (fun zt zk => st21.trans zk) ?_
          show own_Go p e below s _ _ _ (T21.setTop (mkF m 29 #[iv p1, iv (3 : Int32), rv o_AVERAGE_PRICE_CALL, rv o_AVERAGE_PRICE_CALL_letter, .unset, .unset, .unset] [(.int (67 : Int32))]))
          refine own_go (fun zt zk => (XS.bipush X21.here hx rfl (hb hby at_29) (XS.icmpYes X21.here hx rfl (pc0 := 31) (pc' := 44) rfl (hb hby at_31) rfl (teq (rfl : (67 : Int32) = (67 : Int32))).1 (by decide) (by decide) (XS.iconst X21.here hx rfl (hb hby at_44) (XS.goto X21.here hx rfl (pc0 := 45) (pc' := 49) rfl (hb hby at_45) (by decide) (by decide) (XS.istore X21.here hx rfl (hb hby at_49) rfl (l' := #[iv p1, iv (3 : Int32), rv o_AVERAGE_PRICE_CALL, rv o_AVERAGE_PRICE_CALL_letter, iv (1 : Int32), .unset, .unset]) rfl (XS.iloadN X21.here hx rfl (hb hby at_51) rfl (XS.ifNo X21.here hx rfl (hb hby at_52) rfl ((if0 _ _).trans (feq ((by decide) : ¬ ((3 : Int32) = (0 : Int32)))).1) (XS.iconst X21.here hx rfl (hb hby at_55) (XS.goto X21.here hx rfl (pc0 := 56) (pc' := 60) rfl (hb hby at_56) (by decide) (by decide) (XS.istore X21.here hx rfl (hb hby at_60) rfl (l' := #[iv p1, iv (3 : Int32), rv o_AVERAGE_PRICE_CALL, rv o_AVERAGE_PRICE_CALL_letter, iv (1 : Int32), iv (1 : Int32), .unset]) rfl (XS.aloadN X21.here hx rfl (hb hby at_62) rfl rfl zk)))))))))))) ?_
          show own_Go p e below s _ _ _ (T21.setTop (mkF m 63 #[iv p1, iv (3 : Int32), rv o_AVERAGE_PRICE_CALL, rv o_AVERAGE_PRICE_CALL_letter, iv (1 : Int32), iv (1 : Int32), .unset] [(.ref o_AVERAGE_PRICE_CALL)]))
          obtain ⟨cq22, kq22, qa22, qb22, qc22⟩ := isOf hZ e21 (Ex_o_AVERAGE_PRICE_CALL.ext O.2)
          obtain ⟨_, _, ⟨T22, L22, k22, n22⟩, -, X22, ⟨Lc22, hQ22, l22, y22, z22⟩, st22⟩ := X21.virtualBack hx (y := (⟨"com/example/riskscan/riskscan/model/SeriesType", "isOption", "()Z"⟩ : MethodName)) (z := (⟨"com/example/riskscan/riskscan/model/SeriesType", "isOption", "()Z"⟩ : MethodName)) hown (mvT hZ (hw _ (List.mem_of_getElem? (i := 53) rfl))) (mvT hZ (hw _ (List.mem_of_getElem? (i := 54) rfl))) (notFace_of_selects (args := #[]) (mvT hZ (hw _ (List.mem_of_getElem? (i := 56) rfl)))) (mvT hZ (hw _ (List.mem_of_getElem? (i := 56) rfl))) (mvT hZ (hw _ (List.mem_of_getElem? (i := 55) rfl))) (by decide) (backOf (W := 0) (own_rio1 l Z a0 hw [] o_AVERAGE_PRICE_CALL o_FUTURE h0 n0 Z0 O S_o_FUTURE (Fld.ne F_o_AVERAGE_PRICE_CALL_ordinal F_o_FUTURE_ordinal (by decide))) hZ (hw _ (List.mem_of_getElem? (i := 57) rfl)) (hw _ (List.mem_of_getElem? (i := 6) rfl)) (by decide) (by decide)) qa22 qc22 (g := (mkF m 63 #[iv p1, iv (3 : Int32), rv o_AVERAGE_PRICE_CALL, rv o_AVERAGE_PRICE_CALL_letter, iv (1 : Int32), iv (1 : Int32), .unset] [(.ref o_AVERAGE_PRICE_CALL)])) rfl (by rw [hml]; rfl) (Steps.refl _) (argsL := []) (rest := []) (lenOf own_pd___Z rfl) rfl (by show 2 * 0 + _ ≤ _; exact Nat.le_of_eq rfl) (hb hby at_63) (fun _ _ => ⟨rfl, e21, (by decide : 0 + 0 ≤ _), (by decide : 0 + 0 ≤ _)⟩)
          dsimp only [Pt.U, Pt.locs, Pt.cells, Pt.slots] at X22 l22 y22 z22 st22 hQ22
          subst l22 y22 z22
          obtain ⟨rfl, Nq22, e22⟩ := hQ22
          have N22 := Fr.app N21 Nq22
          refine own_go (fun zt zk => st22.trans zk) ?_
          show own_Go p e below s _ _ _ (T22.setTop (mkF m 66 #[iv p1, iv (3 : Int32), rv o_AVERAGE_PRICE_CALL, rv o_AVERAGE_PRICE_CALL_letter, iv (1 : Int32), iv (1 : Int32), .unset] [(.int (1 : Int32))]))
          refine own_go (fun zt zk => (XS.istore X22.here hx rfl (hb hby at_66) rfl (l' := #[iv p1, iv (3 : Int32), rv o_AVERAGE_PRICE_CALL, rv o_AVERAGE_PRICE_CALL_letter, iv (1 : Int32), iv (1 : Int32), iv (1 : Int32)]) rfl (XS.iload X22.here hx rfl (hb hby at_68) rfl (XS.iload X22.here hx rfl (hb hby at_70) rfl (XS.icmpNo X22.here hx rfl (hb hby at_72) rfl (teq (rfl : (1 : Int32) = (1 : Int32))).2 (XS.iload X22.here hx rfl (hb hby at_75) rfl (XS.iload X22.here hx rfl (hb hby at_77) rfl (XS.icmpNo X22.here hx rfl (hb hby at_79) rfl (teq (rfl : (1 : Int32) = (1 : Int32))).2 (XS.iconst X22.here hx rfl (hb hby at_82) (XS.goto X22.here hx rfl (pc0 := 83) (pc' := 87) rfl (hb hby at_83) (by decide) (by decide) zk)))))))))) ?_
          show own_Go p e below s _ _ _ (T22.setTop (mkF m 87 #[iv p1, iv (3 : Int32), rv o_AVERAGE_PRICE_CALL, rv o_AVERAGE_PRICE_CALL_letter, iv (1 : Int32), iv (1 : Int32), iv (1 : Int32)] [(.int (1 : Int32))]))
          exact own_fin X22 Bd.notSynchronized (fun h => by rw [Bd.returns] at h; cases h) (fun fs hr => retN X22 hx (t := .boolean) Bd.returns (by simp) (hb hby at_87) hr) (by rw [e22]; exact ⟨rfl, N22⟩) (by decide) (by decide)
        · refine own_go (fun zt zk => (XS.iloadN X0.here hx rfl (hb hby at_7) rfl zk)) ?_
          show own_Go p e below s _ _ _ (s₁.setTop (mkF m 8 #[iv p1, iv k, .unset, .unset, .unset, .unset, .unset] [(.int k)]))
          obtain ⟨_, _, ⟨T23, L23, k23, n23⟩, -, X23, ⟨Lc23, hQ23, l23, y23, z23⟩, st23⟩ := Jvm.LawKit.callS X0 hx (y := (⟨"com/example/riskscan/riskscan/model/SeriesTypeIsOptionPinLaw", "pick", "(I)Lcom/example/riskscan/riskscan/model/SeriesType;"⟩ : MethodName)) hown (mvT hZ (hw _ (List.mem_of_getElem? (i := 1) rfl))) (mvT hZ (hw _ (List.mem_of_getElem? (i := 2) rfl))) (mvT hZ (hw _ (List.mem_of_getElem? (i := 3) rfl))) (mvT hZ (hw _ (List.mem_of_getElem? (i := 4) rfl))) (by decide) (backOf (W := 0) (own_rpick4 l Z a0 hw [] k o_AVERAGE_PRICE_PUT h0 n0 Z0 O S_o_AVERAGE_PRICE_PUT hk0_k hk1_k hk2_k hk3_k) hZ (hw _ (List.mem_of_getElem? (i := 4) rfl)) (hw _ (List.mem_of_getElem? (i := 3) rfl)) (by decide) (by decide)) (g := (mkF m 8 #[iv p1, iv k, .unset, .unset, .unset, .unset, .unset] [(.int k)])) rfl (by rw [hml]; rfl) (argsL := [(.int k)]) (rest := []) (lenOf own_pd__I_Lcom_example_riskscan_riskscan_model_SeriesType_ rfl) rfl (by show 2 * 0 + _ ≤ _; exact Nat.le_of_eq rfl) (hb hby at_8) (fun _ _ => ⟨rfl, e0, (by decide : 0 + 0 ≤ _), (by decide : 0 + 0 ≤ _)⟩)
          dsimp only [Pt.U, Pt.locs, Pt.cells, Pt.slots] at X23 l23 y23 z23 st23 hQ23
          subst l23 y23 z23
          obtain ⟨rfl, Nq23, e23⟩ := hQ23
          have N23 := Fr.app N0 Nq23
          refine own_go st23 ?_
          show own_Go p e below s _ _ _ (T23.setTop (mkF m 11 #[iv p1, iv k, .unset, .unset, .unset, .unset, .unset] [(.ref o_AVERAGE_PRICE_PUT)]))
          refine own_go (fun zt zk => (XS.astoreN X23.here hx rfl (hb hby at_11) rfl rfl (l' := #[iv p1, iv k, rv o_AVERAGE_PRICE_PUT, .unset, .unset, .unset, .unset]) rfl (XS.aloadN X23.here hx rfl (hb hby at_12) rfl rfl zk))) ?_
          show own_Go p e below s _ _ _ (T23.setTop (mkF m 13 #[iv p1, iv k, rv o_AVERAGE_PRICE_PUT, .unset, .unset, .unset, .unset] [(.ref o_AVERAGE_PRICE_PUT)]))
          obtain ⟨cq24, kq24, qa24, qb24, qc24⟩ := isOf hZ e23 (Ex_o_AVERAGE_PRICE_PUT.ext O.2)
          obtain ⟨_, _, ⟨T24, L24, k24, n24⟩, -, X24, ⟨Lc24, hQ24, l24, y24, z24⟩, st24⟩ := X23.virtualBack hx (y := (⟨"com/example/riskscan/riskscan/model/SeriesType", "letter", "()Ljava/lang/String;"⟩ : MethodName)) (z := (⟨"com/example/riskscan/riskscan/model/SeriesType", "letter", "()Ljava/lang/String;"⟩ : MethodName)) hown (mvT hZ (hw _ (List.mem_of_getElem? (i := 8) rfl))) (mvT hZ (hw _ (List.mem_of_getElem? (i := 9) rfl))) (notFace_of_selects (args := #[]) (mvT hZ (hw _ (List.mem_of_getElem? (i := 11) rfl)))) (mvT hZ (hw _ (List.mem_of_getElem? (i := 11) rfl))) (mvT hZ (hw _ (List.mem_of_getElem? (i := 10) rfl))) (by decide) (backOf (W := 0) (own_rletter l Z a0 hw [] o_AVERAGE_PRICE_PUT o_AVERAGE_PRICE_PUT_letter h0 n0 Z0 (F_o_AVERAGE_PRICE_PUT_letter.ext O.2)) hZ (hw _ (List.mem_of_getElem? (i := 12) rfl)) (hw _ (List.mem_of_getElem? (i := 6) rfl)) (by decide) (by decide)) qa24 qc24 (g := (mkF m 13 #[iv p1, iv k, rv o_AVERAGE_PRICE_PUT, .unset, .unset, .unset, .unset] [(.ref o_AVERAGE_PRICE_PUT)])) rfl (by rw [hml]; rfl) (Steps.refl _) (argsL := []) (rest := []) (lenOf own_pd___Ljava_lang_String_ rfl) rfl (by show 2 * 0 + _ ≤ _; exact Nat.le_of_eq rfl) (hb hby at_13) (fun _ _ => ⟨rfl, e23, (by decide : 0 + 0 ≤ _), (by decide : 0 + 0 ≤ _)⟩)
          dsimp only [Pt.U, Pt.locs, Pt.cells, Pt.slots] at X24 l24 y24 z24 st24 hQ24
          subst l24 y24 z24
          obtain ⟨rfl, Nq24, e24⟩ := hQ24
          have N24 := Fr.app N23 Nq24
          refine own_go (fun zt zk => st24.trans zk) ?_
          show own_Go p e below s _ _ _ (T24.setTop (mkF m 16 #[iv p1, iv k, rv o_AVERAGE_PRICE_PUT, .unset, .unset, .unset, .unset] [(.ref o_AVERAGE_PRICE_PUT_letter)]))
          refine own_go (fun zt zk => (XS.astoreN X24.here hx rfl (hb hby at_16) rfl rfl (l' := #[iv p1, iv k, rv o_AVERAGE_PRICE_PUT, rv o_AVERAGE_PRICE_PUT_letter, .unset, .unset, .unset]) rfl (XS.aloadN X24.here hx rfl (hb hby at_17) rfl rfl zk))) ?_
          show own_Go p e below s _ _ _ (T24.setTop (mkF m 18 #[iv p1, iv k, rv o_AVERAGE_PRICE_PUT, rv o_AVERAGE_PRICE_PUT_letter, .unset, .unset, .unset] [(.ref o_AVERAGE_PRICE_PUT_letter)]))
          obtain ⟨cq25, kq25, qa25, qb25, qc25⟩ := isOf hZ e24 (Ex_o_AVERAGE_PRICE_PUT_letter.ext O.2)
          obtain ⟨_, _, ⟨T25, L25, k25, n25⟩, -, X25, ⟨Lc25, hQ25, l25, y25, z25⟩, st25⟩ := X24.virtualBack hx (y := (⟨"java/lang/String", "length", "()I"⟩ : MethodName)) (z := (⟨"java/lang/String", "length", "()I"⟩ : MethodName)) hown (mvT hZ (hw _ (List.mem_of_getElem? (i := 15) rfl))) (mvT hZ (hw _ (List.mem_of_getElem? (i := 16) rfl))) (notFace_of_selects (args := #[]) (mvT hZ (hw _ (List.mem_of_getElem? (i := 18) rfl)))) (mvT hZ (hw _ (List.mem_of_getElem? (i := 18) rfl))) (mvT hZ (hw _ (List.mem_of_getElem? (i := 17) rfl))) (by decide) (backOf (W := 0) (own_rlen l Z a0 hw [] o_AVERAGE_PRICE_PUT_letter o_COMPACT_STRINGS o_AVERAGE_PRICE_PUT_letter_value k_o_AVERAGE_PRICE_PUT_letter_value (2 : Int32) [(.int (80 : Int32)), (.int (65 : Int32))] h0 n0 Z0 O S_o_COMPACT_STRINGS (Ex_o_AVERAGE_PRICE_PUT_letter.ext O.2) (F_o_AVERAGE_PRICE_PUT_letter_value.ext O.2) (F_o_AVERAGE_PRICE_PUT_letter_coder.ext O.2) (V_o_AVERAGE_PRICE_PUT_letter_value.ext O.2) nz_o_COMPACT_STRINGS) hZ (hw _ (List.mem_of_getElem? (i := 20) rfl)) (hw _ (List.mem_of_getElem? (i := 19) rfl)) (by decide) (by decide)) qa25 qc25 (g := (mkF m 18 #[iv p1, iv k, rv o_AVERAGE_PRICE_PUT, rv o_AVERAGE_PRICE_PUT_letter, .unset, .unset, .unset] [(.ref o_AVERAGE_PRICE_PUT_letter)])) rfl (by rw [hml]; rfl) (Steps.refl _) (argsL := []) (rest := []) (lenOf own_pd___I rfl) rfl (by show 2 * 0 + _ ≤ _; exact Nat.le_of_eq rfl) (hb hby at_18) (fun _ _ => ⟨rfl, e24, (by decide : 0 + 0 ≤ _), (by decide : 0 + 0 ≤ _)⟩)
          dsimp only [Pt.U, Pt.locs, Pt.cells, Pt.slots] at X25 l25 y25 z25 st25 hQ25
          subst l25 y25 z25
          obtain ⟨rfl, Nq25, e25⟩ := hQ25
          have N25 := Fr.app N24 Nq25
          refine own_go (fun zt zk => st25.trans zk) ?_
          show own_Go p e below s _ _ _ (T25.setTop (mkF m 21 #[iv p1, iv k, rv o_AVERAGE_PRICE_PUT, rv o_AVERAGE_PRICE_PUT_letter, .unset, .unset, .unset] [(.int (2 : Int32))]))
          refine own_go (fun zt zk => (XS.ifNo X25.here hx rfl (hb hby at_21) rfl ((if0 _ _).trans (tlt ((by decide) : (0 : Int32) < (2 : Int32))).2.2.2) (XS.aloadN X25.here hx rfl (hb hby at_24) rfl rfl (XS.iconst X25.here hx rfl (hb hby at_25) zk)))) ?_
          show own_Go p e below s _ _ _ (T25.setTop (mkF m 26 #[iv p1, iv k, rv o_AVERAGE_PRICE_PUT, rv o_AVERAGE_PRICE_PUT_letter, .unset, .unset, .unset] [(.int (0 : Int32)), (.ref o_AVERAGE_PRICE_PUT_letter)]))
          obtain ⟨cq26, kq26, qa26, qb26, qc26⟩ := isOf hZ e25 (Ex_o_AVERAGE_PRICE_PUT_letter.ext O.2)
          obtain ⟨_, _, ⟨T26, L26, k26, n26⟩, -, X26, ⟨Lc26, hQ26, l26, y26, z26⟩, st26⟩ := X25.virtualBack hx (y := (⟨"java/lang/String", "charAt", "(I)C"⟩ : MethodName)) (z := (⟨"java/lang/String", "charAt", "(I)C"⟩ : MethodName)) hown (mvT hZ (hw _ (List.mem_of_getElem? (i := 31) rfl))) (mvT hZ (hw _ (List.mem_of_getElem? (i := 32) rfl))) (notFace_of_selects (args := #[]) (mvT hZ (hw _ (List.mem_of_getElem? (i := 34) rfl)))) (mvT hZ (hw _ (List.mem_of_getElem? (i := 34) rfl))) (mvT hZ (hw _ (List.mem_of_getElem? (i := 33) rfl))) (by decide) (backOf (W := 0) (own_rchar l Z a0 hw [] o_AVERAGE_PRICE_PUT_letter (0 : Int32) o_COMPACT_STRINGS o_SIOOBE_FORMATTER o_AVERAGE_PRICE_PUT_letter_value k_o_AVERAGE_PRICE_PUT_letter_value (2 : Int32) [(.int (80 : Int32)), (.int (65 : Int32))] (80 : Int32) h0 n0 Z0 O S_o_COMPACT_STRINGS S_o_SIOOBE_FORMATTER (Ex_o_AVERAGE_PRICE_PUT_letter.ext O.2) (F_o_AVERAGE_PRICE_PUT_letter_value.ext O.2) (F_o_AVERAGE_PRICE_PUT_letter_coder.ext O.2) (V_o_AVERAGE_PRICE_PUT_letter_value.ext O.2) nz_o_COMPACT_STRINGS r_o_SIOOBE_FORMATTER ⟨by decide, by decide⟩ rfl) hZ (hw _ (List.mem_of_getElem? (i := 35) rfl)) (hw _ (List.mem_of_getElem? (i := 19) rfl)) (by decide) (by decide)) qa26 qc26 (g := (mkF m 26 #[iv p1, iv k, rv o_AVERAGE_PRICE_PUT, rv o_AVERAGE_PRICE_PUT_letter, .unset, .unset, .unset] [(.int (0 : Int32)), (.ref o_AVERAGE_PRICE_PUT_letter)])) rfl (by rw [hml]; rfl) (Steps.refl _) (argsL := [(.int (0 : Int32))]) (rest := []) (lenOf own_pd__I_C rfl) rfl (by show 2 * 0 + _ ≤ _; exact Nat.le_of_eq rfl) (hb hby at_26) (fun _ _ => ⟨rfl, e25, (by decide : 0 + 0 ≤ _), (by decide : 0 + 0 ≤ _)⟩)
          dsimp only [Pt.U, Pt.locs, Pt.cells, Pt.slots] at X26 l26 y26 z26 st26 hQ26
          subst l26 y26 z26
          obtain ⟨rfl, Nq26, e26⟩ := hQ26
          have N26 := Fr.app N25 Nq26
          refine own_go (fun zt zk => st26.trans zk) ?_
          show own_Go p e below s _ _ _ (T26.setTop (mkF m 29 #[iv p1, iv k, rv o_AVERAGE_PRICE_PUT, rv o_AVERAGE_PRICE_PUT_letter, .unset, .unset, .unset] [(.int (80 : Int32))]))
          refine own_go (fun zt zk => (XS.bipush X26.here hx rfl (hb hby at_29) (XS.icmpNo X26.here hx rfl (hb hby at_31) rfl (feq ((by decide) : ¬ ((80 : Int32) = (67 : Int32)))).1 (XS.aloadN X26.here hx rfl (hb hby at_34) rfl rfl (XS.iconst X26.here hx rfl (hb hby at_35) zk))))) ?_
          show own_Go p e below s _ _ _ (T26.setTop (mkF m 36 #[iv p1, iv k, rv o_AVERAGE_PRICE_PUT, rv o_AVERAGE_PRICE_PUT_letter, .unset, .unset, .unset] [(.int (0 : Int32)), (.ref o_AVERAGE_PRICE_PUT_letter)]))
          obtain ⟨cq27, kq27, qa27, qb27, qc27⟩ := isOf hZ e26 (Ex_o_AVERAGE_PRICE_PUT_letter.ext O.2)
          obtain ⟨_, _, ⟨T27, L27, k27, n27⟩, -, X27, ⟨Lc27, hQ27, l27, y27, z27⟩, st27⟩ := X26.virtualBack hx (y := (⟨"java/lang/String", "charAt", "(I)C"⟩ : MethodName)) (z := (⟨"java/lang/String", "charAt", "(I)C"⟩ : MethodName)) hown (mvT hZ (hw _ (List.mem_of_getElem? (i := 31) rfl))) (mvT hZ (hw _ (List.mem_of_getElem? (i := 32) rfl))) (notFace_of_selects (args := #[]) (mvT hZ (hw _ (List.mem_of_getElem? (i := 34) rfl)))) (mvT hZ (hw _ (List.mem_of_getElem? (i := 34) rfl))) (mvT hZ (hw _ (List.mem_of_getElem? (i := 33) rfl))) (by decide) (backOf (W := 0) (own_rchar l Z a0 hw [] o_AVERAGE_PRICE_PUT_letter (0 : Int32) o_COMPACT_STRINGS o_SIOOBE_FORMATTER o_AVERAGE_PRICE_PUT_letter_value k_o_AVERAGE_PRICE_PUT_letter_value (2 : Int32) [(.int (80 : Int32)), (.int (65 : Int32))] (80 : Int32) h0 n0 Z0 O S_o_COMPACT_STRINGS S_o_SIOOBE_FORMATTER (Ex_o_AVERAGE_PRICE_PUT_letter.ext O.2) (F_o_AVERAGE_PRICE_PUT_letter_value.ext O.2) (F_o_AVERAGE_PRICE_PUT_letter_coder.ext O.2) (V_o_AVERAGE_PRICE_PUT_letter_value.ext O.2) nz_o_COMPACT_STRINGS r_o_SIOOBE_FORMATTER ⟨by decide, by decide⟩ rfl) hZ (hw _ (List.mem_of_getElem? (i := 35) rfl)) (hw _ (List.mem_of_getElem? (i := 19) rfl)) (by decide) (by decide)) qa27 qc27 (g := (mkF m 36 #[iv p1, iv k, rv o_AVERAGE_PRICE_PUT, rv o_AVERAGE_PRICE_PUT_letter, .unset, .unset, .unset] [(.int (0 : Int32)), (.ref o_AVERAGE_PRICE_PUT_letter)])) rfl (by rw [hml]; rfl) (Steps.refl _) (argsL := [(.int (0 : Int32))]) (rest := []) (lenOf own_pd__I_C rfl) rfl (by show 2 * 0 + _ ≤ _; exact Nat.le_of_eq rfl) (hb hby at_36) (fun _ _ => ⟨rfl, e26, (by decide : 0 + 0 ≤ _), (by decide : 0 + 0 ≤ _)⟩)
          dsimp only [Pt.U, Pt.locs, Pt.cells, Pt.slots] at X27 l27 y27 z27 st27 hQ27
          subst l27 y27 z27
          obtain ⟨rfl, Nq27, e27⟩ := hQ27
          have N27 := Fr.app N26 Nq27
          refine own_go (fun zt zk => st27.trans zk) ?_
          show own_Go p e below s _ _ _ (T27.setTop (mkF m 39 #[iv p1, iv k, rv o_AVERAGE_PRICE_PUT, rv o_AVERAGE_PRICE_PUT_letter, .unset, .unset, .unset] [(.int (80 : Int32))]))
          refine own_go (fun zt zk => (XS.bipush X27.here hx rfl (hb hby at_39) (XS.icmpNo X27.here hx rfl (hb hby at_41) rfl (teq (rfl : (80 : Int32) = (80 : Int32))).2 (XS.iconst X27.here hx rfl (hb hby at_44) (XS.goto X27.here hx rfl (pc0 := 45) (pc' := 49) rfl (hb hby at_45) (by decide) (by decide) (XS.istore X27.here hx rfl (hb hby at_49) rfl (l' := #[iv p1, iv k, rv o_AVERAGE_PRICE_PUT, rv o_AVERAGE_PRICE_PUT_letter, iv (1 : Int32), .unset, .unset]) rfl (XS.iloadN X27.here hx rfl (hb hby at_51) rfl (XS.ifNo X27.here hx rfl (hb hby at_52) rfl ((if0 _ _).trans (feq (hk0_k : ¬ (k = (0 : Int32)))).1) (XS.iconst X27.here hx rfl (hb hby at_55) (XS.goto X27.here hx rfl (pc0 := 56) (pc' := 60) rfl (hb hby at_56) (by decide) (by decide) (XS.istore X27.here hx rfl (hb hby at_60) rfl (l' := #[iv p1, iv k, rv o_AVERAGE_PRICE_PUT, rv o_AVERAGE_PRICE_PUT_letter, iv (1 : Int32), iv (1 : Int32), .unset]) rfl (XS.aloadN X27.here hx rfl (hb hby at_62) rfl rfl zk)))))))))))) ?_
          show own_Go p e below s _ _ _ (T27.setTop (mkF m 63 #[iv p1, iv k, rv o_AVERAGE_PRICE_PUT, rv o_AVERAGE_PRICE_PUT_letter, iv (1 : Int32), iv (1 : Int32), .unset] [(.ref o_AVERAGE_PRICE_PUT)]))
          obtain ⟨cq28, kq28, qa28, qb28, qc28⟩ := isOf hZ e27 (Ex_o_AVERAGE_PRICE_PUT.ext O.2)
          obtain ⟨_, _, ⟨T28, L28, k28, n28⟩, -, X28, ⟨Lc28, hQ28, l28, y28, z28⟩, st28⟩ := X27.virtualBack hx (y := (⟨"com/example/riskscan/riskscan/model/SeriesType", "isOption", "()Z"⟩ : MethodName)) (z := (⟨"com/example/riskscan/riskscan/model/SeriesType", "isOption", "()Z"⟩ : MethodName)) hown (mvT hZ (hw _ (List.mem_of_getElem? (i := 53) rfl))) (mvT hZ (hw _ (List.mem_of_getElem? (i := 54) rfl))) (notFace_of_selects (args := #[]) (mvT hZ (hw _ (List.mem_of_getElem? (i := 56) rfl)))) (mvT hZ (hw _ (List.mem_of_getElem? (i := 56) rfl))) (mvT hZ (hw _ (List.mem_of_getElem? (i := 55) rfl))) (by decide) (backOf (W := 0) (own_rio1 l Z a0 hw [] o_AVERAGE_PRICE_PUT o_FUTURE h0 n0 Z0 O S_o_FUTURE (Fld.ne F_o_AVERAGE_PRICE_PUT_ordinal F_o_FUTURE_ordinal (by decide))) hZ (hw _ (List.mem_of_getElem? (i := 57) rfl)) (hw _ (List.mem_of_getElem? (i := 6) rfl)) (by decide) (by decide)) qa28 qc28 (g := (mkF m 63 #[iv p1, iv k, rv o_AVERAGE_PRICE_PUT, rv o_AVERAGE_PRICE_PUT_letter, iv (1 : Int32), iv (1 : Int32), .unset] [(.ref o_AVERAGE_PRICE_PUT)])) rfl (by rw [hml]; rfl) (Steps.refl _) (argsL := []) (rest := []) (lenOf own_pd___Z rfl) rfl (by show 2 * 0 + _ ≤ _; exact Nat.le_of_eq rfl) (hb hby at_63) (fun _ _ => ⟨rfl, e27, (by decide : 0 + 0 ≤ _), (by decide : 0 + 0 ≤ _)⟩)
          dsimp only [Pt.U, Pt.locs, Pt.cells, Pt.slots] at X28 l28 y28 z28 st28 hQ28
          subst l28 y28 z28
          obtain ⟨rfl, Nq28, e28⟩ := hQ28
          have N28 := Fr.app N27 Nq28
          refine own_go (fun zt zk => st28.trans zk) ?_
          show own_Go p e below s _ _ _ (T28.setTop (mkF m 66 #[iv p1, iv k, rv o_AVERAGE_PRICE_PUT, rv o_AVERAGE_PRICE_PUT_letter, iv (1 : Int32), iv (1 : Int32), .unset] [(.int (1 : Int32))]))
          refine own_go (fun zt zk => (XS.istore X28.here hx rfl (hb hby at_66) rfl (l' := #[iv p1, iv k, rv o_AVERAGE_PRICE_PUT, rv o_AVERAGE_PRICE_PUT_letter, iv (1 : Int32), iv (1 : Int32), iv (1 : Int32)]) rfl (XS.iload X28.here hx rfl (hb hby at_68) rfl (XS.iload X28.here hx rfl (hb hby at_70) rfl (XS.icmpNo X28.here hx rfl (hb hby at_72) rfl (teq (rfl : (1 : Int32) = (1 : Int32))).2 (XS.iload X28.here hx rfl (hb hby at_75) rfl (XS.iload X28.here hx rfl (hb hby at_77) rfl (XS.icmpNo X28.here hx rfl (hb hby at_79) rfl (teq (rfl : (1 : Int32) = (1 : Int32))).2 (XS.iconst X28.here hx rfl (hb hby at_82) (XS.goto X28.here hx rfl (pc0 := 83) (pc' := 87) rfl (hb hby at_83) (by decide) (by decide) zk)))))))))) ?_
          show own_Go p e below s _ _ _ (T28.setTop (mkF m 87 #[iv p1, iv k, rv o_AVERAGE_PRICE_PUT, rv o_AVERAGE_PRICE_PUT_letter, iv (1 : Int32), iv (1 : Int32), iv (1 : Int32)] [(.int (1 : Int32))]))
          exact own_fin X28 Bd.notSynchronized (fun h => by rw [Bd.returns] at h; cases h) (fun fs hr => retN X28 hx (t := .boolean) Bd.returns (by simp) (hb hby at_87) hr) (by rw [e28]; exact ⟨rfl, N28⟩) (by decide) (by decide)
set_option maxRecDepth 65536 in
set_option maxHeartbeats 40000000 in
theorem comes_1 {Post : Tables → Env → Array Value → State → Outcome → State → Prop} (hpost : ∀ tb e args s v u, (limb_1_1.after args s (.returned v) u = true ∧ limb_1_2.after args s (.returned v) u = true ∧ True) → FrameEnd s (.returned v) u (Jvm.fieldLocs frame_1_writes args s ++ Jvm.arrayLocs frame_1_arrays args s ++ Jvm.staticLocs frame_1_statics s) 0 0 → Post tb e args s (.returned v) u) :
    ArmFor flags0 classFile x code maxLocals ret World_1 tables_1 room_1 Calls_1 rest_1 Pre_1 Post := by
  intro l hfl _ _ p e ha hc hk s m args below hf hA hF happ hP
  obtain ⟨hcalls, hrest, hpre⟩ := hP
  obtain ⟨-, -, -, hnamed, -, -, -, hat⟩ := (Spec.applies_iff hf).mp happ
  obtain ⟨hg, hn⟩ := and_e (Cond.before_iff.mp (show (Jvm.Cond.and given_1 narrow_1).before args s = true from hpre))
  obtain ⟨g0, r0⟩ := and_e hg
  have g1 := r0
  obtain ⟨w0, rfl⟩ : ∃ w0 : Value, args = #[w0] := by
    have hs : args.size = 1 := by simpa [Cond.value, given_1] using g0
    obtain ⟨L⟩ := args
    match L, hs with
    | [w0], _ => exact ⟨w0, rfl⟩
  have hw := fun d (hd : d ∈ tables_1) => atoms_spec (ws := Jvm.Cond.code x code maxLocals ret :: tables_1) hat d (List.mem_cons_of_mem _ hd)
  have hfit : Fit s := fun {y c} hc i hi => by
    obtain ⟨ha, rfl⟩ := Array.getElem?_eq_some_iff.mp hc
    have q := List.all_eq_true.mp ((Array.all_eq_true_iff_forall_mem.mp hF) _ (Array.getElem_mem ha)) i (List.mem_range.mpr hi)
    simpa [Array.getElem?_eq_getElem hi] using q
  obtain ⟨hsets, hown0⟩ := atoms_of _ (rest_1_c_eq ▸ (show rest_1_c.before _ s = true from hrest))
  obtain ⟨i0, ei0⟩ := is_v g1
  obtain rfl : w0 = (.int i0) := Option.some.inj ei0
  obtain ⟨n0, m0⟩ := and_e hn
  obtain ⟨n1, m1⟩ := and_e m0
  obtain ⟨n2, m2⟩ := and_e m1
  obtain ⟨n3, m3⟩ := and_e m2
  obtain ⟨n4, m4⟩ := and_e m3
  obtain ⟨n5, m5⟩ := and_e m4
  obtain ⟨n6, m6⟩ := and_e m5
  obtain ⟨n7, m7⟩ := and_e m6
  obtain ⟨n8, m8⟩ := and_e m7
  obtain ⟨n9, m9⟩ := and_e m8
  obtain ⟨n10, m10⟩ := and_e m9
  obtain ⟨n11, m11⟩ := and_e m10
  obtain ⟨n12, m12⟩ := and_e m11
  obtain ⟨n13, m13⟩ := and_e m12
  obtain ⟨n14, m14⟩ := and_e m13
  obtain ⟨n15, m15⟩ := and_e m14
  obtain ⟨n16, m16⟩ := and_e m15
  obtain ⟨n17, m17⟩ := and_e m16
  obtain ⟨n18, m18⟩ := and_e m17
  obtain ⟨n19, m19⟩ := and_e m18
  obtain ⟨n20, m20⟩ := and_e m19
  obtain ⟨n21, m21⟩ := and_e m20
  obtain ⟨n22, m22⟩ := and_e m21
  obtain ⟨n23, m23⟩ := and_e m22
  obtain ⟨n24, m24⟩ := and_e m23
  obtain ⟨n25, m25⟩ := and_e m24
  obtain ⟨n26, m26⟩ := and_e m25
  obtain ⟨n27, m27⟩ := and_e m26
  obtain ⟨n28, m28⟩ := and_e m27
  obtain ⟨n29, m29⟩ := and_e m28
  obtain ⟨n30, m30⟩ := and_e m29
  obtain ⟨n31, m31⟩ := and_e m30
  obtain ⟨n32, m32⟩ := and_e m31
  obtain ⟨n33, m33⟩ := and_e m32
  obtain ⟨n34, m34⟩ := and_e m33
  obtain ⟨n35, m35⟩ := and_e m34
  have n36 := m35
  obtain ⟨o_FUTURE, e_o_FUTURE⟩ := exa_v n0
  have S_o_FUTURE := Sta.start e_o_FUTURE (Or.inr ⟨hw _ (List.mem_of_getElem? (i := 6) rfl), hw _ (List.mem_of_getElem? (i := 7) rfl)⟩)
  have Ex_o_FUTURE := Exa.start e_o_FUTURE n0
  obtain ⟨o_FUTURE_letter, e_o_FUTURE_letter⟩ := exa_v n1
  have F_o_FUTURE_letter := Fld.start ((fld_at e_o_FUTURE).symm.trans e_o_FUTURE_letter)
  have Ex_o_FUTURE_letter := Exa.start e_o_FUTURE_letter n1
  obtain ⟨o_FUTURE_letter_value, e_o_FUTURE_letter_value⟩ := arr_v n2
  obtain ⟨cl_o_FUTURE_letter_value, Ar_o_FUTURE_letter_value⟩ := Arr.start e_o_FUTURE_letter_value n2
  have F_o_FUTURE_letter_value := Fld.start ((fld_at e_o_FUTURE_letter).symm.trans e_o_FUTURE_letter_value)
  have Ln_o_FUTURE_letter_value := own_len (own_eqI n3) e_o_FUTURE_letter_value Ar_o_FUTURE_letter_value
  have F_o_FUTURE_letter_coder := Fld.start ((fld_at e_o_FUTURE_letter).symm.trans (own_eqI n4))
  have El_o_FUTURE_letter_value_0 := (elem_in (own_eqI n5) e_o_FUTURE_letter_value (Term.int_eval 0) Ar_o_FUTURE_letter_value.1).2
  obtain ⟨o_AVERAGE_PRICE_CALL, e_o_AVERAGE_PRICE_CALL⟩ := exa_v n6
  have S_o_AVERAGE_PRICE_CALL := Sta.start e_o_AVERAGE_PRICE_CALL (Or.inr ⟨hw _ (List.mem_of_getElem? (i := 6) rfl), hw _ (List.mem_of_getElem? (i := 60) rfl)⟩)
  have Ex_o_AVERAGE_PRICE_CALL := Exa.start e_o_AVERAGE_PRICE_CALL n6
  obtain ⟨o_AVERAGE_PRICE_CALL_letter, e_o_AVERAGE_PRICE_CALL_letter⟩ := exa_v n7
  have F_o_AVERAGE_PRICE_CALL_letter := Fld.start ((fld_at e_o_AVERAGE_PRICE_CALL).symm.trans e_o_AVERAGE_PRICE_CALL_letter)
  have Ex_o_AVERAGE_PRICE_CALL_letter := Exa.start e_o_AVERAGE_PRICE_CALL_letter n7
  obtain ⟨o_AVERAGE_PRICE_CALL_letter_value, e_o_AVERAGE_PRICE_CALL_letter_value⟩ := arr_v n8
  obtain ⟨cl_o_AVERAGE_PRICE_CALL_letter_value, Ar_o_AVERAGE_PRICE_CALL_letter_value⟩ := Arr.start e_o_AVERAGE_PRICE_CALL_letter_value n8
  have F_o_AVERAGE_PRICE_CALL_letter_value := Fld.start ((fld_at e_o_AVERAGE_PRICE_CALL_letter).symm.trans e_o_AVERAGE_PRICE_CALL_letter_value)
  have Ln_o_AVERAGE_PRICE_CALL_letter_value := own_len (own_eqI n9) e_o_AVERAGE_PRICE_CALL_letter_value Ar_o_AVERAGE_PRICE_CALL_letter_value
  have F_o_AVERAGE_PRICE_CALL_letter_coder := Fld.start ((fld_at e_o_AVERAGE_PRICE_CALL_letter).symm.trans (own_eqI n10))
  have El_o_AVERAGE_PRICE_CALL_letter_value_0 := (elem_in (own_eqI n11) e_o_AVERAGE_PRICE_CALL_letter_value (Term.int_eval 0) Ar_o_AVERAGE_PRICE_CALL_letter_value.1).2
  have F_o_AVERAGE_PRICE_CALL_ordinal := Fld.start ((fld_at e_o_AVERAGE_PRICE_CALL).symm.trans (own_eqI n12))
  have F_o_FUTURE_ordinal := Fld.start ((fld_at e_o_FUTURE).symm.trans (own_eqI n13))
  obtain ⟨o_CALL, e_o_CALL⟩ := exa_v n14
  have S_o_CALL := Sta.start e_o_CALL (Or.inr ⟨hw _ (List.mem_of_getElem? (i := 6) rfl), hw _ (List.mem_of_getElem? (i := 62) rfl)⟩)
  have Ex_o_CALL := Exa.start e_o_CALL n14
  obtain ⟨o_CALL_letter, e_o_CALL_letter⟩ := exa_v n15
  have F_o_CALL_letter := Fld.start ((fld_at e_o_CALL).symm.trans e_o_CALL_letter)
  have Ex_o_CALL_letter := Exa.start e_o_CALL_letter n15
  obtain ⟨o_CALL_letter_value, e_o_CALL_letter_value⟩ := arr_v n16
  obtain ⟨cl_o_CALL_letter_value, Ar_o_CALL_letter_value⟩ := Arr.start e_o_CALL_letter_value n16
  have F_o_CALL_letter_value := Fld.start ((fld_at e_o_CALL_letter).symm.trans e_o_CALL_letter_value)
  have Ln_o_CALL_letter_value := own_len (own_eqI n17) e_o_CALL_letter_value Ar_o_CALL_letter_value
  have F_o_CALL_letter_coder := Fld.start ((fld_at e_o_CALL_letter).symm.trans (own_eqI n18))
  have El_o_CALL_letter_value_0 := (elem_in (own_eqI n19) e_o_CALL_letter_value (Term.int_eval 0) Ar_o_CALL_letter_value.1).2
  have F_o_CALL_ordinal := Fld.start ((fld_at e_o_CALL).symm.trans (own_eqI n20))
  obtain ⟨o_AVERAGE_PRICE_PUT, e_o_AVERAGE_PRICE_PUT⟩ := exa_v n21
  have S_o_AVERAGE_PRICE_PUT := Sta.start e_o_AVERAGE_PRICE_PUT (Or.inr ⟨hw _ (List.mem_of_getElem? (i := 6) rfl), hw _ (List.mem_of_getElem? (i := 64) rfl)⟩)
  have Ex_o_AVERAGE_PRICE_PUT := Exa.start e_o_AVERAGE_PRICE_PUT n21
  obtain ⟨o_AVERAGE_PRICE_PUT_letter, e_o_AVERAGE_PRICE_PUT_letter⟩ := exa_v n22
  have F_o_AVERAGE_PRICE_PUT_letter := Fld.start ((fld_at e_o_AVERAGE_PRICE_PUT).symm.trans e_o_AVERAGE_PRICE_PUT_letter)
  have Ex_o_AVERAGE_PRICE_PUT_letter := Exa.start e_o_AVERAGE_PRICE_PUT_letter n22
  obtain ⟨o_AVERAGE_PRICE_PUT_letter_value, e_o_AVERAGE_PRICE_PUT_letter_value⟩ := arr_v n23
  obtain ⟨cl_o_AVERAGE_PRICE_PUT_letter_value, Ar_o_AVERAGE_PRICE_PUT_letter_value⟩ := Arr.start e_o_AVERAGE_PRICE_PUT_letter_value n23
  have F_o_AVERAGE_PRICE_PUT_letter_value := Fld.start ((fld_at e_o_AVERAGE_PRICE_PUT_letter).symm.trans e_o_AVERAGE_PRICE_PUT_letter_value)
  have Ln_o_AVERAGE_PRICE_PUT_letter_value := own_len (own_eqI n24) e_o_AVERAGE_PRICE_PUT_letter_value Ar_o_AVERAGE_PRICE_PUT_letter_value
  have F_o_AVERAGE_PRICE_PUT_letter_coder := Fld.start ((fld_at e_o_AVERAGE_PRICE_PUT_letter).symm.trans (own_eqI n25))
  have El_o_AVERAGE_PRICE_PUT_letter_value_0 := (elem_in (own_eqI n26) e_o_AVERAGE_PRICE_PUT_letter_value (Term.int_eval 0) Ar_o_AVERAGE_PRICE_PUT_letter_value.1).2
  have F_o_AVERAGE_PRICE_PUT_ordinal := Fld.start ((fld_at e_o_AVERAGE_PRICE_PUT).symm.trans (own_eqI n27))
  obtain ⟨o_PUT, e_o_PUT⟩ := exa_v n28
  have S_o_PUT := Sta.start e_o_PUT (Or.inr ⟨hw _ (List.mem_of_getElem? (i := 6) rfl), hw _ (List.mem_of_getElem? (i := 66) rfl)⟩)
  have Ex_o_PUT := Exa.start e_o_PUT n28
  obtain ⟨o_PUT_letter, e_o_PUT_letter⟩ := exa_v n29
  have F_o_PUT_letter := Fld.start ((fld_at e_o_PUT).symm.trans e_o_PUT_letter)
  have Ex_o_PUT_letter := Exa.start e_o_PUT_letter n29
  obtain ⟨o_PUT_letter_value, e_o_PUT_letter_value⟩ := arr_v n30
  obtain ⟨cl_o_PUT_letter_value, Ar_o_PUT_letter_value⟩ := Arr.start e_o_PUT_letter_value n30
  have F_o_PUT_letter_value := Fld.start ((fld_at e_o_PUT_letter).symm.trans e_o_PUT_letter_value)
  have Ln_o_PUT_letter_value := own_len (own_eqI n31) e_o_PUT_letter_value Ar_o_PUT_letter_value
  have F_o_PUT_letter_coder := Fld.start ((fld_at e_o_PUT_letter).symm.trans (own_eqI n32))
  have El_o_PUT_letter_value_0 := (elem_in (own_eqI n33) e_o_PUT_letter_value (Term.int_eval 0) Ar_o_PUT_letter_value.1).2
  have F_o_PUT_ordinal := Fld.start ((fld_at e_o_PUT).symm.trans (own_eqI n34))
  have El_o_AVERAGE_PRICE_CALL_letter_value_1 := (elem_in (own_eqI n35) e_o_AVERAGE_PRICE_CALL_letter_value (Term.int_eval 1) Ar_o_AVERAGE_PRICE_CALL_letter_value.1).2
  have El_o_AVERAGE_PRICE_PUT_letter_value_1 := (elem_in (own_eqI n36) e_o_AVERAGE_PRICE_PUT_letter_value (Term.int_eval 1) Ar_o_AVERAGE_PRICE_PUT_letter_value.1).2
  obtain ⟨o_COMPACT_STRINGS, e_o_COMPACT_STRINGS⟩ := is_v (Cond.before_iff.mp (hsets _ (List.mem_of_getElem? (i := 1) rfl)))
  have S_o_COMPACT_STRINGS := Sta.start e_o_COMPACT_STRINGS (Or.inl (hsets _ (List.mem_of_getElem? (i := 0) rfl)))
  have nz_o_COMPACT_STRINGS : ¬ (o_COMPACT_STRINGS = (0 : Int32)) := gotF (Cond.eq_ints e_o_COMPACT_STRINGS (Term.int_eval 0)) (not_v (Cond.before_iff.mp (hsets _ (List.mem_of_getElem? (i := 2) rfl))))
  obtain ⟨o_SIOOBE_FORMATTER, e_o_SIOOBE_FORMATTER, r_o_SIOOBE_FORMATTER⟩ := isR_v (Cond.before_iff.mp (hsets _ (List.mem_of_getElem? (i := 8) rfl)))
  have S_o_SIOOBE_FORMATTER := Sta.start e_o_SIOOBE_FORMATTER (Or.inl (hsets _ (List.mem_of_getElem? (i := 7) rfl)))
  have V_o_FUTURE_letter_value : Arv s s.heap o_FUTURE_letter_value cl_o_FUTURE_letter_value.cls .byte (1 : Int32) [(.int (70 : Int32))] (.int (0 : Int32)) := Arv.start hfit Ar_o_FUTURE_letter_value Ln_o_FUTURE_letter_value.1 Ln_o_FUTURE_letter_value.2 (by decide) rfl ⟨El_o_FUTURE_letter_value_0, trivial⟩
  have V_o_AVERAGE_PRICE_CALL_letter_value : Arv s s.heap o_AVERAGE_PRICE_CALL_letter_value cl_o_AVERAGE_PRICE_CALL_letter_value.cls .byte (2 : Int32) [(.int (67 : Int32)), (.int (65 : Int32))] (.int (0 : Int32)) := Arv.start hfit Ar_o_AVERAGE_PRICE_CALL_letter_value Ln_o_AVERAGE_PRICE_CALL_letter_value.1 Ln_o_AVERAGE_PRICE_CALL_letter_value.2 (by decide) rfl ⟨El_o_AVERAGE_PRICE_CALL_letter_value_0, El_o_AVERAGE_PRICE_CALL_letter_value_1, trivial⟩
  have V_o_CALL_letter_value : Arv s s.heap o_CALL_letter_value cl_o_CALL_letter_value.cls .byte (1 : Int32) [(.int (67 : Int32))] (.int (0 : Int32)) := Arv.start hfit Ar_o_CALL_letter_value Ln_o_CALL_letter_value.1 Ln_o_CALL_letter_value.2 (by decide) rfl ⟨El_o_CALL_letter_value_0, trivial⟩
  have V_o_AVERAGE_PRICE_PUT_letter_value : Arv s s.heap o_AVERAGE_PRICE_PUT_letter_value cl_o_AVERAGE_PRICE_PUT_letter_value.cls .byte (2 : Int32) [(.int (80 : Int32)), (.int (65 : Int32))] (.int (0 : Int32)) := Arv.start hfit Ar_o_AVERAGE_PRICE_PUT_letter_value Ln_o_AVERAGE_PRICE_PUT_letter_value.1 Ln_o_AVERAGE_PRICE_PUT_letter_value.2 (by decide) rfl ⟨El_o_AVERAGE_PRICE_PUT_letter_value_0, El_o_AVERAGE_PRICE_PUT_letter_value_1, trivial⟩
  have V_o_PUT_letter_value : Arv s s.heap o_PUT_letter_value cl_o_PUT_letter_value.cls .byte (1 : Int32) [(.int (80 : Int32))] (.int (0 : Int32)) := Arv.start hfit Ar_o_PUT_letter_value Ln_o_PUT_letter_value.1 Ln_o_PUT_letter_value.2 (by decide) rfl ⟨El_o_PUT_letter_value_0, trivial⟩
  obtain ⟨n, o, h1, h2, h3, _, L, rfl, ⟨rfl, N⟩, hq⟩ := own_law l s _ hw tables_1 i0 o_FUTURE o_FUTURE_letter o_FUTURE_letter_value o_AVERAGE_PRICE_CALL o_AVERAGE_PRICE_CALL_letter o_AVERAGE_PRICE_CALL_letter_value o_CALL o_CALL_letter o_CALL_letter_value o_AVERAGE_PRICE_PUT o_AVERAGE_PRICE_PUT_letter o_AVERAGE_PRICE_PUT_letter_value o_PUT o_PUT_letter o_PUT_letter_value o_COMPACT_STRINGS o_SIOOBE_FORMATTER cl_o_FUTURE_letter_value.cls cl_o_AVERAGE_PRICE_CALL_letter_value.cls cl_o_CALL_letter_value.cls cl_o_AVERAGE_PRICE_PUT_letter_value.cls cl_o_PUT_letter_value.cls s.heap s.heap.size (Nat.le_refl _) (Old.start s) S_o_FUTURE Ex_o_FUTURE F_o_FUTURE_letter Ex_o_FUTURE_letter F_o_FUTURE_letter_value F_o_FUTURE_letter_coder S_o_AVERAGE_PRICE_CALL Ex_o_AVERAGE_PRICE_CALL F_o_AVERAGE_PRICE_CALL_letter Ex_o_AVERAGE_PRICE_CALL_letter F_o_AVERAGE_PRICE_CALL_letter_value F_o_AVERAGE_PRICE_CALL_letter_coder F_o_AVERAGE_PRICE_CALL_ordinal F_o_FUTURE_ordinal S_o_CALL Ex_o_CALL F_o_CALL_letter Ex_o_CALL_letter F_o_CALL_letter_value F_o_CALL_letter_coder F_o_CALL_ordinal S_o_AVERAGE_PRICE_PUT Ex_o_AVERAGE_PRICE_PUT F_o_AVERAGE_PRICE_PUT_letter Ex_o_AVERAGE_PRICE_PUT_letter F_o_AVERAGE_PRICE_PUT_letter_value F_o_AVERAGE_PRICE_PUT_letter_coder F_o_AVERAGE_PRICE_PUT_ordinal S_o_PUT Ex_o_PUT F_o_PUT_letter Ex_o_PUT_letter F_o_PUT_letter_value F_o_PUT_letter_coder F_o_PUT_ordinal S_o_COMPACT_STRINGS S_o_SIOOBE_FORMATTER V_o_FUTURE_letter_value V_o_AVERAGE_PRICE_CALL_letter_value V_o_CALL_letter_value V_o_AVERAGE_PRICE_PUT_letter_value V_o_PUT_letter_value nz_o_COMPACT_STRINGS r_o_SIOOBE_FORMATTER p e ha hc hk s m _ below hf ((Spec.applies_iff_loose hf).mp happ).1 ⟨rfl, State.Warmed39.refl s, rfl⟩ trivial
  refine ⟨n, _, h1, h2, h3, hpost _ _ _ _ _ _ ⟨Cond.after_iff.mpr rfl, Cond.after_iff.mpr (eq_i res_at (Term.int_eval (1)) rfl), trivial⟩ ⟨hq.1, hq.2.1, (hq.2.2.sift fun y hy => Or.inr (N y hy)).mono (by decide) (by decide)⟩⟩
theorem main_1_1 : Claimed_1_1 := comes_1 fun _ _ _ _ _ _ h hF => ⟨h.1, hF⟩
theorem main_1_2 : Claimed_1_2 := comes_1 fun _ _ _ _ _ _ h hF => ⟨h.2.1, hF⟩
end Jvm.Pilot.@@N@@
namespace Jvm.Pilot.@@N@@
open Jvm Jvm.ClassFile Sem Op Lib Jvm.Free Jvm.Stand Jvm.Pilot.@@N@@.Jvm.D
/-! MADE BY PROGRAM (witnessworld.py) out of the Statement's table words and the real class files: 16 classes; the members and pool entries that the words name. The judged class is class 1, her method 2. -/
namespace start1
open Jvm.ClassFile
def u (s : String) : CpInfo := .utf8 (stringToUtf16 s)
/-- a pool by its gaps: so many unusable entries, then the entry; so many at the end -/
def gap : Nat → List CpInfo → List CpInfo
  | 0, r => r
  | n + 1, r => .unusable :: gap n r
def poolList (es : List (Nat × CpInfo)) (last : Nat) : List CpInfo := es.foldr (fun e r => gap e.1 (e.2 :: r)) (gap last [])
def pool (es : List (Nat × CpInfo)) (last : Nat) : Array CpInfo := ⟨poolList es last⟩
def fileOf (pool : Array CpInfo) (this : Nat) (attrs : Array Attribute := #[]) (ms : Array MethodInfo := #[]) (fl : Nat := 33) (sup : Nat := 0) (ifs : Array Nat := #[]) (fds : Array FieldInfo := #[]) : ClassFile where
  minorVersion := 0
  majorVersion := 65
  constantPool := pool
  accessFlags := fl
  thisClass := this
  superClass := sup
  interfaces := ifs
  fields := fds
  methods := ms
  attributes := attrs
def plain (name : String) (sup : Option ClassId) : Class where
  name := name
  kind := .ordinary
  loader := none
  accessFlags := 33
  super := sup
  interfaces := #[]
  cf := none
  fields := #[]
  methods := #[]
  instanceTypes := #[]
  staticTypes := #[]
  resolved := #[]
  callSites := []
  init := .initialized
  statics := none
  mirror := none

def pool0 : Array CpInfo := pool [(5, u "<init>"), (0, u "()V"), (1, .class_ 10), (1, u "java/lang/Object")] 113

def k0m0 : Method := { name := "<init>", desc := "()V", sig := { parameters := [], returnType := none }, accessFlags := 1, code := none }
/-- java/lang/Object -/
def k0 : Class := { plain "java/lang/Object" none with
  accessFlags := 33
  interfaces := #[]
  cf := some (fileOf pool0 8 #[] #[{ accessFlags := 1, nameIndex := 5, descriptorIndex := 6, attributes := #[] }] 33 0 #[] #[])
  fields := #[]
  methods := #[k0m0]
  instanceTypes := #[]
  staticTypes := #[]
  resolved := Array.replicate 124 none
  statics := none }

def pool1 : Array CpInfo := pool [(2, .class_ 4), (1, u "java/lang/Object"), (0, u "<init>"), (0, u "()V"), (0, .fieldref 8 9), (0, .class_ 10), (0, .nameAndType 11 12), (0, u "com/example/riskscan/riskscan/model/SeriesType"), (0, u "FUTURE"), (0, u "Lcom/example/riskscan/riskscan/model/SeriesType;"), (0, .fieldref 8 14), (0, .nameAndType 15 12), (0, u "CALL"), (0, .fieldref 8 17), (0, .nameAndType 18 12), (0, u "PUT"), (0, .fieldref 8 20), (0, .nameAndType 21 12), (0, u "AVERAGE_PRICE_CALL"), (0, .fieldref 8 23), (0, .nameAndType 24 12), (0, u "AVERAGE_PRICE_PUT"), (0, .integer 2147483647), (0, .methodref 27 28), (0, .class_ 29), (0, .nameAndType 30 31), (0, u "com/example/riskscan/riskscan/model/SeriesTypeIsOptionPinLaw"), (0, u "pick"), (0, u "(I)Lcom/example/riskscan/riskscan/model/SeriesType;"), (0, .methodref 8 33), (0, .nameAndType 34 35), (0, u "letter"), (0, u "()Ljava/lang/String;"), (0, .methodref 37 38), (0, .class_ 39), (0, .nameAndType 40 41), (0, u "java/lang/String"), (0, u "length"), (0, u "()I"), (0, .methodref 37 43), (0, .nameAndType 44 45), (0, u "charAt"), (0, u "(I)C"), (0, .methodref 8 47), (0, .nameAndType 48 49), (0, u "isOption"), (0, u "()Z"), (3, u "law"), (0, u "(I)Z")] 2

def k1m0 : Method := { name := "<init>", desc := "()V", sig := { parameters := [], returnType := none }, accessFlags := 1, code := none }
def k1c1 : Code := { maxStack := 2, maxLocals := 1, code := method_2_code, exceptionTable := #[], attributes := #[] }
def k1m1 : Method := { name := "pick", desc := "(I)Lcom/example/riskscan/riskscan/model/SeriesType;", sig := { parameters := [.int], returnType := some (.object "com/example/riskscan/riskscan/model/SeriesType") }, accessFlags := 10, code := some k1c1 }
def k1c2 : Code := { maxStack := 2, maxLocals := 7, code := code, exceptionTable := #[], attributes := #[] }
def k1m2 : Method := { name := "law", desc := "(I)Z", sig := { parameters := [.int], returnType := some .boolean }, accessFlags := 9, code := some k1c2 }
/-- com/example/riskscan/riskscan/model/SeriesTypeIsOptionPinLaw -/
def k1 : Class := { plain "com/example/riskscan/riskscan/model/SeriesTypeIsOptionPinLaw" (some 0) with
  accessFlags := 49
  interfaces := #[]
  cf := some (fileOf pool1 27 #[] #[{ accessFlags := 1, nameIndex := 5, descriptorIndex := 6, attributes := #[] }, { accessFlags := 10, nameIndex := 30, descriptorIndex := 31, attributes := #[] }, { accessFlags := 9, nameIndex := 53, descriptorIndex := 54, attributes := #[] }] 49 2 #[] #[])
  fields := #[]
  methods := #[k1m0, k1m1, k1m2]
  instanceTypes := #[]
  staticTypes := #[]
  resolved := Array.replicate 57 none
  statics := none }

def pool2 : Array CpInfo := pool [(1, .class_ 2), (0, u "java/lang/constant/Constable"), (0, .class_ 4), (0, u "java/lang/Object")] 6

/-- java/lang/constant/Constable -/
def k2 : Class := { plain "java/lang/constant/Constable" (some 0) with
  accessFlags := 1537
  interfaces := #[]
  cf := some (fileOf pool2 1 #[] #[] 1537 3 #[] #[])
  fields := #[]
  methods := #[]
  instanceTypes := #[]
  staticTypes := #[]
  resolved := Array.replicate 11 none
  statics := none }

def pool3 : Array CpInfo := pool [(1, .class_ 2), (0, u "java/lang/Comparable"), (0, .class_ 4), (0, u "java/lang/Object")] 7

/-- java/lang/Comparable -/
def k3 : Class := { plain "java/lang/Comparable" (some 0) with
  accessFlags := 1537
  interfaces := #[]
  cf := some (fileOf pool3 1 #[] #[] 1537 3 #[] #[])
  fields := #[]
  methods := #[]
  instanceTypes := #[]
  staticTypes := #[]
  resolved := Array.replicate 12 none
  statics := none }

def pool4 : Array CpInfo := pool [(1, .class_ 2), (0, u "java/io/Serializable"), (0, .class_ 4), (0, u "java/lang/Object")] 2

/-- java/io/Serializable -/
def k4 : Class := { plain "java/io/Serializable" (some 0) with
  accessFlags := 1537
  interfaces := #[]
  cf := some (fileOf pool4 1 #[] #[] 1537 3 #[] #[])
  fields := #[]
  methods := #[]
  instanceTypes := #[]
  staticTypes := #[]
  resolved := Array.replicate 7 none
  statics := none }

def pool5 : Array CpInfo := pool [(2, .class_ 4), (1, u "java/lang/Enum"), (0, u "name"), (0, u "Ljava/lang/String;"), (2, u "ordinal"), (0, u "I"), (1, .class_ 14), (1, u "java/lang/Object"), (4, u "hash"), (86, .class_ 108), (1, u "java/lang/Enum$EnumDesc"), (2, .class_ 112), (0, u "java/lang/constant/Constable"), (0, .class_ 114), (0, u "java/lang/Comparable"), (0, .class_ 116), (0, u "java/io/Serializable")] 87

/-- java/lang/Enum -/
def k5 : Class := { plain "java/lang/Enum" (some 0) with
  accessFlags := 1057
  interfaces := #[2, 3, 4]
  cf := some (fileOf pool5 2 #[.nestMembers #[106]] #[] 1057 12 #[111, 113, 115] #[{ accessFlags := 18, nameIndex := 5, descriptorIndex := 6, attributes := #[] }, { accessFlags := 18, nameIndex := 9, descriptorIndex := 10, attributes := #[] }, { accessFlags := 2, nameIndex := 19, descriptorIndex := 10, attributes := #[] }])
  fields := #[{ name := "name", type := (.object "java/lang/String"), accessFlags := 18, slot := 0, constantValue := 0 }, { name := "ordinal", type := .int, accessFlags := 18, slot := 1, constantValue := 0 }, { name := "hash", type := .int, accessFlags := 2, slot := 2, constantValue := 0 }]
  methods := #[]
  instanceTypes := #[(.object "java/lang/String"), .int, .int]
  staticTypes := #[]
  resolved := Array.replicate 204 none
  statics := none }

def pool6 : Array CpInfo := pool [(1, .class_ 2), (0, u "com/example/riskscan/riskscan/model/SeriesType"), (0, .fieldref 1 4), (0, .nameAndType 5 6), (0, u "FUTURE"), (0, u "Lcom/example/riskscan/riskscan/model/SeriesType;"), (2, u "CALL"), (2, u "PUT"), (2, u "AVERAGE_PRICE_CALL"), (2, u "AVERAGE_PRICE_PUT"), (2, u "$VALUES"), (0, u "[Lcom/example/riskscan/riskscan/model/SeriesType;"), (6, .class_ 31), (1, u "java/lang/Enum"), (6, .fieldref 1 39), (0, .nameAndType 40 41), (0, u "letter"), (0, u "Ljava/lang/String;"), (73, u "()Ljava/lang/String;"), (0, u "isOption"), (0, u "()Z")] 29

def k6c0 : Code := { maxStack := 1, maxLocals := 1, code := prog_96_method_4_code, exceptionTable := #[], attributes := #[] }
def k6m0 : Method := { name := "letter", desc := "()Ljava/lang/String;", sig := { parameters := [], returnType := some (.object "java/lang/String") }, accessFlags := 1, code := some k6c0 }
def k6c1 : Code := { maxStack := 2, maxLocals := 1, code := prog_96_method_5_code, exceptionTable := #[], attributes := #[] }
def k6m1 : Method := { name := "isOption", desc := "()Z", sig := { parameters := [], returnType := some .boolean }, accessFlags := 1, code := some k6c1 }
/-- com/example/riskscan/riskscan/model/SeriesType -/
def k6 : Class := { plain "com/example/riskscan/riskscan/model/SeriesType" (some 5) with
  accessFlags := 16433
  interfaces := #[]
  cf := some (fileOf pool6 1 #[] #[{ accessFlags := 1, nameIndex := 40, descriptorIndex := 115, attributes := #[] }, { accessFlags := 1, nameIndex := 116, descriptorIndex := 117, attributes := #[] }] 16433 29 #[] #[{ accessFlags := 16409, nameIndex := 5, descriptorIndex := 6, attributes := #[] }, { accessFlags := 16409, nameIndex := 9, descriptorIndex := 6, attributes := #[] }, { accessFlags := 16409, nameIndex := 12, descriptorIndex := 6, attributes := #[] }, { accessFlags := 16409, nameIndex := 15, descriptorIndex := 6, attributes := #[] }, { accessFlags := 16409, nameIndex := 18, descriptorIndex := 6, attributes := #[] }, { accessFlags := 18, nameIndex := 40, descriptorIndex := 41, attributes := #[] }, { accessFlags := 4122, nameIndex := 21, descriptorIndex := 22, attributes := #[] }])
  fields := #[{ name := "FUTURE", type := (.object "com/example/riskscan/riskscan/model/SeriesType"), accessFlags := 16409, slot := 0, constantValue := 0 }, { name := "CALL", type := (.object "com/example/riskscan/riskscan/model/SeriesType"), accessFlags := 16409, slot := 1, constantValue := 0 }, { name := "PUT", type := (.object "com/example/riskscan/riskscan/model/SeriesType"), accessFlags := 16409, slot := 2, constantValue := 0 }, { name := "AVERAGE_PRICE_CALL", type := (.object "com/example/riskscan/riskscan/model/SeriesType"), accessFlags := 16409, slot := 3, constantValue := 0 }, { name := "AVERAGE_PRICE_PUT", type := (.object "com/example/riskscan/riskscan/model/SeriesType"), accessFlags := 16409, slot := 4, constantValue := 0 }, { name := "letter", type := (.object "java/lang/String"), accessFlags := 18, slot := 3, constantValue := 0 }, { name := "$VALUES", type := (.array (.object "com/example/riskscan/riskscan/model/SeriesType")), accessFlags := 4122, slot := 5, constantValue := 0 }]
  methods := #[k6m0, k6m1]
  instanceTypes := #[(.object "java/lang/String"), .int, .int, (.object "java/lang/String")]
  staticTypes := #[(.object "com/example/riskscan/riskscan/model/SeriesType"), (.object "com/example/riskscan/riskscan/model/SeriesType"), (.object "com/example/riskscan/riskscan/model/SeriesType"), (.object "com/example/riskscan/riskscan/model/SeriesType"), (.object "com/example/riskscan/riskscan/model/SeriesType"), (.array (.object "com/example/riskscan/riskscan/model/SeriesType"))]
  resolved := Array.replicate 147 none
  statics := some 0 }

def pool7 : Array CpInfo := pool [(2, .class_ 4), (1, u "java/lang/CharSequence"), (42, .class_ 48), (0, u "java/lang/CharSequence$1CodePointIterator"), (10, .class_ 60), (0, u "java/lang/CharSequence$1CharIterator"), (5, .class_ 67), (0, u "java/lang/Object")] 63

/-- java/lang/CharSequence -/
def k7 : Class := { plain "java/lang/CharSequence" (some 0) with
  accessFlags := 1537
  interfaces := #[]
  cf := some (fileOf pool7 2 #[.nestMembers #[47, 59]] #[] 1537 66 #[] #[])
  fields := #[]
  methods := #[]
  instanceTypes := #[]
  staticTypes := #[]
  resolved := Array.replicate 131 none
  statics := none }

def pool8 : Array CpInfo := pool [(1, .class_ 2), (0, u "java/lang/constant/ConstantDesc"), (0, .class_ 4), (0, u "java/lang/Object")] 32

/-- java/lang/constant/ConstantDesc -/
def k8 : Class := { plain "java/lang/constant/ConstantDesc" (some 0) with
  accessFlags := 1537
  interfaces := #[]
  cf := some (fileOf pool8 1 #[] #[] 1537 3 #[] #[])
  fields := #[]
  methods := #[]
  instanceTypes := #[]
  staticTypes := #[]
  resolved := Array.replicate 37 none
  statics := none }

def pool9 : Array CpInfo := pool [(2, .class_ 4), (1, u "java/lang/Object"), (0, u "<init>"), (0, u "()V"), (2, .fieldref 10 11), (0, .class_ 12), (0, .nameAndType 13 14), (0, u "java/lang/String"), (0, u "value"), (0, u "[B"), (0, .fieldref 10 16), (0, .nameAndType 17 18), (0, u "coder"), (0, u "B"), (2, u "hash"), (0, u "I"), (2, u "hashIsZero"), (0, u "Z"), (11, .fieldref 10 39), (0, .nameAndType 40 26), (0, u "COMPACT_STRINGS"), (66, .class_ 109), (1, u "java/lang/StringLatin1"), (32, u "()Z"), (191, u "()I"), (0, .methodref 10 336), (0, .nameAndType 17 337), (0, u "()B"), (25, u "([BI)C"), (27, u "(II)V"), (35, u "(I)C"), (64, .methodref 10 493), (0, .nameAndType 494 142), (0, u "isLatin1"), (0, .methodref 107 496), (0, .nameAndType 497 363), (0, u "charAt"), (3, u "checkIndex"), (5, u "length"), (67, .class_ 576), (0, u "java/lang/CharSequence"), (22, u "CASE_INSENSITIVE_ORDER"), (0, u "Ljava/util/Comparator;"), (452, .fieldref 1054 1055), (0, .class_ 1056), (0, .nameAndType 1057 1058), (0, u "jdk/internal/util/Preconditions"), (0, u "SIOOBE_FORMATTER"), (0, u "Ljava/util/function/BiFunction;"), (0, .methodref 1054 1060), (0, .nameAndType 501 1061), (0, u "(IILjava/util/function/BiFunction;)I"), (39, u "serialPersistentFields"), (0, u "[Ljava/io/ObjectStreamField;"), (0, .class_ 1104), (0, u "java/lang/String$CaseInsensitiveComparator"), (1, .class_ 1107), (0, u "java/io/Serializable"), (0, .class_ 1109), (0, u "java/lang/Comparable"), (0, .class_ 1111), (0, u "java/lang/constant/Constable"), (0, .class_ 1113), (0, u "java/lang/constant/ConstantDesc"), (2, u "serialVersionUID"), (0, u "J"), (3, u "REPL"), (0, u "C"), (2, u "LATIN1"), (1, u "UTF16")] 323

def k9m0 : Method := { name := "<init>", desc := "()V", sig := { parameters := [], returnType := none }, accessFlags := 1, code := none }
def k9c1 : Code := { maxStack := 2, maxLocals := 1, code := jdk_42_method_54_code, exceptionTable := #[], attributes := #[] }
def k9m1 : Method := { name := "length", desc := "()I", sig := { parameters := [], returnType := some .int }, accessFlags := 1, code := some k9c1 }
def k9c2 : Code := { maxStack := 2, maxLocals := 2, code := jdk_42_method_56_code, exceptionTable := #[], attributes := #[] }
def k9m2 : Method := { name := "charAt", desc := "(I)C", sig := { parameters := [.int], returnType := some .char }, accessFlags := 1, code := some k9c2 }
def k9c3 : Code := { maxStack := 1, maxLocals := 1, code := jdk_42_method_152_code, exceptionTable := #[], attributes := #[] }
def k9m3 : Method := { name := "coder", desc := "()B", sig := { parameters := [], returnType := some .byte }, accessFlags := 0, code := some k9c3 }
def k9c4 : Code := { maxStack := 1, maxLocals := 1, code := jdk_42_method_154_code, exceptionTable := #[], attributes := #[] }
def k9m4 : Method := { name := "isLatin1", desc := "()Z", sig := { parameters := [], returnType := some .boolean }, accessFlags := 0, code := some k9c4 }
def k9c5 : Code := { maxStack := 3, maxLocals := 2, code := jdk_42_method_155_code, exceptionTable := #[], attributes := #[] }
def k9m5 : Method := { name := "checkIndex", desc := "(II)V", sig := { parameters := [.int, .int], returnType := none }, accessFlags := 8, code := some k9c5 }
/-- java/lang/String -/
def k9 : Class := { plain "java/lang/String" (some 0) with
  accessFlags := 49
  interfaces := #[4, 3, 7, 2, 8]
  cf := some (fileOf pool9 10 #[.nestMembers #[1103]] #[{ accessFlags := 1, nameIndex := 5, descriptorIndex := 6, attributes := #[] }, { accessFlags := 1, nameIndex := 507, descriptorIndex := 334, attributes := #[] }, { accessFlags := 1, nameIndex := 497, descriptorIndex := 427, attributes := #[] }, { accessFlags := 0, nameIndex := 17, descriptorIndex := 337, attributes := #[] }, { accessFlags := 0, nameIndex := 494, descriptorIndex := 142, attributes := #[] }, { accessFlags := 8, nameIndex := 501, descriptorIndex := 391, attributes := #[] }] 49 2 #[1106, 1108, 575, 1110, 1112] #[{ accessFlags := 18, nameIndex := 13, descriptorIndex := 14, attributes := #[] }, { accessFlags := 18, nameIndex := 17, descriptorIndex := 18, attributes := #[] }, { accessFlags := 2, nameIndex := 21, descriptorIndex := 22, attributes := #[] }, { accessFlags := 2, nameIndex := 25, descriptorIndex := 26, attributes := #[] }, { accessFlags := 26, nameIndex := 1116, descriptorIndex := 1117, attributes := #[] }, { accessFlags := 24, nameIndex := 40, descriptorIndex := 26, attributes := #[] }, { accessFlags := 26, nameIndex := 1101, descriptorIndex := 1102, attributes := #[] }, { accessFlags := 26, nameIndex := 1121, descriptorIndex := 1122, attributes := #[] }, { accessFlags := 25, nameIndex := 599, descriptorIndex := 600, attributes := #[] }, { accessFlags := 24, nameIndex := 1125, descriptorIndex := 18, attributes := #[] }, { accessFlags := 24, nameIndex := 1127, descriptorIndex := 18, attributes := #[] }])
  fields := #[{ name := "value", type := (.array .byte), accessFlags := 18, slot := 0, constantValue := 0 }, { name := "coder", type := .byte, accessFlags := 18, slot := 1, constantValue := 0 }, { name := "hash", type := .int, accessFlags := 2, slot := 2, constantValue := 0 }, { name := "hashIsZero", type := .boolean, accessFlags := 2, slot := 3, constantValue := 0 }, { name := "serialVersionUID", type := .long, accessFlags := 26, slot := 0, constantValue := 0 }, { name := "COMPACT_STRINGS", type := .boolean, accessFlags := 24, slot := 1, constantValue := 0 }, { name := "serialPersistentFields", type := (.array (.object "java/io/ObjectStreamField")), accessFlags := 26, slot := 2, constantValue := 0 }, { name := "REPL", type := .char, accessFlags := 26, slot := 3, constantValue := 0 }, { name := "CASE_INSENSITIVE_ORDER", type := (.object "java/util/Comparator"), accessFlags := 25, slot := 4, constantValue := 0 }, { name := "LATIN1", type := .byte, accessFlags := 24, slot := 5, constantValue := 0 }, { name := "UTF16", type := .byte, accessFlags := 24, slot := 6, constantValue := 0 }]
  methods := #[k9m0, k9m1, k9m2, k9m3, k9m4, k9m5]
  instanceTypes := #[(.array .byte), .byte, .int, .boolean]
  staticTypes := #[.long, .boolean, (.array (.object "java/io/ObjectStreamField")), .char, (.object "java/util/Comparator"), .byte, .byte]
  resolved := Array.replicate 1451 none
  statics := some 1 }

def pool10 : Array CpInfo := pool [(1, .class_ 2), (0, u "java/lang/String"), (1, .class_ 6), (1, u "java/lang/Object"), (0, u "<init>"), (0, u "()V"), (0, .methodref 1 10), (0, .nameAndType 11 12), (0, u "checkIndex"), (0, u "(II)V"), (1, .class_ 16), (1, u "java/lang/StringLatin1"), (36, u "([BI)C"), (67, u "$assertionsDisabled"), (0, u "Z"), (98, .class_ 223), (1, u "java/lang/StringLatin1$LinesSpliterator"), (28, u "charAt"), (137, .class_ 391), (0, u "java/lang/StringLatin1$CharsSpliterator")] 3

def k10m0 : Method := { name := "<init>", desc := "()V", sig := { parameters := [], returnType := none }, accessFlags := 0, code := none }
def k10c1 : Code := { maxStack := 2, maxLocals := 2, code := jdk_43_method_2_code, exceptionTable := #[], attributes := #[] }
def k10m1 : Method := { name := "charAt", desc := "([BI)C", sig := { parameters := [(.array .byte), .int], returnType := some .char }, accessFlags := 9, code := some k10c1 }
/-- java/lang/StringLatin1 -/
def k10 : Class := { plain "java/lang/StringLatin1" (some 0) with
  accessFlags := 48
  interfaces := #[]
  cf := some (fileOf pool10 14 #[.nestMembers #[390, 221]] #[{ accessFlags := 0, nameIndex := 7, descriptorIndex := 8, attributes := #[] }, { accessFlags := 9, nameIndex := 252, descriptorIndex := 53, attributes := #[] }] 48 4 #[] #[{ accessFlags := 4120, nameIndex := 121, descriptorIndex := 122, attributes := #[] }])
  fields := #[{ name := "$assertionsDisabled", type := .boolean, accessFlags := 4120, slot := 0, constantValue := 0 }]
  methods := #[k10m0, k10m1]
  instanceTypes := #[]
  staticTypes := #[.boolean]
  resolved := Array.replicate 395 none
  statics := none }

def pool11 : Array CpInfo := pool [(2, .class_ 4), (1, u "java/lang/Object"), (0, u "<init>"), (0, u "()V"), (17, .class_ 26), (1, u "jdk/internal/util/Preconditions"), (6, u "checkIndex"), (21, .class_ 56), (0, u "jdk/internal/util/Preconditions$4"), (57, .class_ 115), (0, u "jdk/internal/util/Preconditions$1"), (7, u "SIOOBE_FORMATTER"), (0, u "Ljava/util/function/BiFunction;"), (0, .class_ 126), (0, u "jdk/internal/util/Preconditions$2"), (3, u "AIOOBE_FORMATTER"), (0, .class_ 132), (0, u "jdk/internal/util/Preconditions$3"), (3, u "IOOBE_FORMATTER"), (41, u "(IILjava/util/function/BiFunction;)I")] 15

def k11m0 : Method := { name := "<init>", desc := "()V", sig := { parameters := [], returnType := none }, accessFlags := 1, code := none }
def k11c1 : Code := { maxStack := 3, maxLocals := 3, code := jdk_41_method_11_code, exceptionTable := #[], attributes := #[] }
def k11m1 : Method := { name := "checkIndex", desc := "(IILjava/util/function/BiFunction;)I", sig := { parameters := [.int, .int, (.object "java/util/function/BiFunction")], returnType := some .int }, accessFlags := 9, code := some k11c1 }
/-- jdk/internal/util/Preconditions -/
def k11 : Class := { plain "jdk/internal/util/Preconditions" (some 0) with
  accessFlags := 33
  interfaces := #[]
  cf := some (fileOf pool11 24 #[.nestMembers #[55, 131, 125, 114]] #[{ accessFlags := 1, nameIndex := 5, descriptorIndex := 6, attributes := #[] }, { accessFlags := 9, nameIndex := 33, descriptorIndex := 178, attributes := #[] }] 33 2 #[] #[{ accessFlags := 25, nameIndex := 123, descriptorIndex := 124, attributes := #[] }, { accessFlags := 25, nameIndex := 130, descriptorIndex := 124, attributes := #[] }, { accessFlags := 25, nameIndex := 136, descriptorIndex := 124, attributes := #[] }])
  fields := #[{ name := "SIOOBE_FORMATTER", type := (.object "java/util/function/BiFunction"), accessFlags := 25, slot := 0, constantValue := 0 }, { name := "AIOOBE_FORMATTER", type := (.object "java/util/function/BiFunction"), accessFlags := 25, slot := 1, constantValue := 0 }, { name := "IOOBE_FORMATTER", type := (.object "java/util/function/BiFunction"), accessFlags := 25, slot := 2, constantValue := 0 }]
  methods := #[k11m0, k11m1]
  instanceTypes := #[]
  staticTypes := #[(.object "java/util/function/BiFunction"), (.object "java/util/function/BiFunction"), (.object "java/util/function/BiFunction")]
  resolved := Array.replicate 194 none
  statics := some 2 }

def pool12 : Array CpInfo := pool [(9, u "<init>"), (6, .class_ 18), (1, u "java/lang/Object"), (0, u "()V"), (1, .class_ 23), (1, u "jdk/internal/util/ArraysSupport"), (0, u "LOG2_ARRAY_LONG_INDEX_SCALE"), (0, u "I"), (2, u "U"), (0, u "Ljdk/internal/misc/Unsafe;"), (8, u "BIG_ENDIAN"), (0, u "Z"), (8, u "LOG2_BYTE_BIT_SIZE"), (4, u "LOG2_ARRAY_INT_INDEX_SCALE"), (54, u "JLA"), (0, u "Ljdk/internal/access/JavaLangAccess;"), (11, u "LOG2_ARRAY_BOOLEAN_INDEX_SCALE"), (9, u "LOG2_ARRAY_BYTE_INDEX_SCALE"), (5, u "LOG2_ARRAY_CHAR_INDEX_SCALE"), (5, u "LOG2_ARRAY_SHORT_INDEX_SCALE"), (18, u "LOG2_ARRAY_FLOAT_INDEX_SCALE"), (24, u "LOG2_ARRAY_DOUBLE_INDEX_SCALE"), (89, u "T_BOOLEAN"), (2, u "T_CHAR"), (1, u "T_FLOAT"), (1, u "T_DOUBLE"), (1, u "T_BYTE"), (1, u "T_SHORT"), (1, u "T_INT"), (1, u "T_LONG"), (1, u "SOFT_MAX_ARRAY_LENGTH")] 83

def k12m0 : Method := { name := "<init>", desc := "()V", sig := { parameters := [], returnType := none }, accessFlags := 2, code := none }
/-- jdk/internal/util/ArraysSupport -/
def k12 : Class := { plain "jdk/internal/util/ArraysSupport" (some 0) with
  accessFlags := 33
  interfaces := #[]
  cf := some (fileOf pool12 21 #[] #[{ accessFlags := 2, nameIndex := 9, descriptorIndex := 19, attributes := #[] }] 33 16 #[] #[{ accessFlags := 24, nameIndex := 28, descriptorIndex := 29, attributes := #[] }, { accessFlags := 26, nameIndex := 38, descriptorIndex := 39, attributes := #[] }, { accessFlags := 25, nameIndex := 121, descriptorIndex := 25, attributes := #[] }, { accessFlags := 25, nameIndex := 131, descriptorIndex := 25, attributes := #[] }, { accessFlags := 25, nameIndex := 137, descriptorIndex := 25, attributes := #[] }, { accessFlags := 25, nameIndex := 143, descriptorIndex := 25, attributes := #[] }, { accessFlags := 25, nameIndex := 53, descriptorIndex := 25, attributes := #[] }, { accessFlags := 25, nameIndex := 24, descriptorIndex := 25, attributes := #[] }, { accessFlags := 25, nameIndex := 162, descriptorIndex := 25, attributes := #[] }, { accessFlags := 25, nameIndex := 187, descriptorIndex := 25, attributes := #[] }, { accessFlags := 26, nameIndex := 48, descriptorIndex := 25, attributes := #[] }, { accessFlags := 25, nameIndex := 277, descriptorIndex := 25, attributes := #[] }, { accessFlags := 25, nameIndex := 280, descriptorIndex := 25, attributes := #[] }, { accessFlags := 25, nameIndex := 282, descriptorIndex := 25, attributes := #[] }, { accessFlags := 25, nameIndex := 284, descriptorIndex := 25, attributes := #[] }, { accessFlags := 25, nameIndex := 286, descriptorIndex := 25, attributes := #[] }, { accessFlags := 25, nameIndex := 288, descriptorIndex := 25, attributes := #[] }, { accessFlags := 25, nameIndex := 290, descriptorIndex := 25, attributes := #[] }, { accessFlags := 25, nameIndex := 292, descriptorIndex := 25, attributes := #[] }, { accessFlags := 26, nameIndex := 108, descriptorIndex := 109, attributes := #[] }, { accessFlags := 25, nameIndex := 294, descriptorIndex := 25, attributes := #[] }])
  fields := #[{ name := "U", type := (.object "jdk/internal/misc/Unsafe"), accessFlags := 24, slot := 0, constantValue := 0 }, { name := "BIG_ENDIAN", type := .boolean, accessFlags := 26, slot := 1, constantValue := 0 }, { name := "LOG2_ARRAY_BOOLEAN_INDEX_SCALE", type := .int, accessFlags := 25, slot := 2, constantValue := 0 }, { name := "LOG2_ARRAY_BYTE_INDEX_SCALE", type := .int, accessFlags := 25, slot := 3, constantValue := 0 }, { name := "LOG2_ARRAY_CHAR_INDEX_SCALE", type := .int, accessFlags := 25, slot := 4, constantValue := 0 }, { name := "LOG2_ARRAY_SHORT_INDEX_SCALE", type := .int, accessFlags := 25, slot := 5, constantValue := 0 }, { name := "LOG2_ARRAY_INT_INDEX_SCALE", type := .int, accessFlags := 25, slot := 6, constantValue := 0 }, { name := "LOG2_ARRAY_LONG_INDEX_SCALE", type := .int, accessFlags := 25, slot := 7, constantValue := 0 }, { name := "LOG2_ARRAY_FLOAT_INDEX_SCALE", type := .int, accessFlags := 25, slot := 8, constantValue := 0 }, { name := "LOG2_ARRAY_DOUBLE_INDEX_SCALE", type := .int, accessFlags := 25, slot := 9, constantValue := 0 }, { name := "LOG2_BYTE_BIT_SIZE", type := .int, accessFlags := 26, slot := 10, constantValue := 0 }, { name := "T_BOOLEAN", type := .int, accessFlags := 25, slot := 11, constantValue := 0 }, { name := "T_CHAR", type := .int, accessFlags := 25, slot := 12, constantValue := 0 }, { name := "T_FLOAT", type := .int, accessFlags := 25, slot := 13, constantValue := 0 }, { name := "T_DOUBLE", type := .int, accessFlags := 25, slot := 14, constantValue := 0 }, { name := "T_BYTE", type := .int, accessFlags := 25, slot := 15, constantValue := 0 }, { name := "T_SHORT", type := .int, accessFlags := 25, slot := 16, constantValue := 0 }, { name := "T_INT", type := .int, accessFlags := 25, slot := 17, constantValue := 0 }, { name := "T_LONG", type := .int, accessFlags := 25, slot := 18, constantValue := 0 }, { name := "JLA", type := (.object "jdk/internal/access/JavaLangAccess"), accessFlags := 26, slot := 19, constantValue := 0 }, { name := "SOFT_MAX_ARRAY_LENGTH", type := .int, accessFlags := 25, slot := 20, constantValue := 0 }]
  methods := #[k12m0]
  instanceTypes := #[]
  staticTypes := #[(.object "jdk/internal/misc/Unsafe"), .boolean, .int, .int, .int, .int, .int, .int, .int, .int, .int, .int, .int, .int, .int, .int, .int, .int, .int, (.object "jdk/internal/access/JavaLangAccess"), .int]
  resolved := Array.replicate 378 none
  statics := none }

def pool13 : Array CpInfo := pool [(1, u "java/lang/Cloneable"), (0, .class_ 1), (0, u "java/lang/Object"), (0, .class_ 3)] 3

/-- java/lang/Cloneable -/
def k13 : Class := { plain "java/lang/Cloneable" (some 0) with
  accessFlags := 1537
  interfaces := #[]
  cf := some (fileOf pool13 2 #[] #[] 1537 4 #[] #[])
  fields := #[]
  methods := #[]
  instanceTypes := #[]
  staticTypes := #[]
  resolved := Array.replicate 8 none
  statics := none }

/-- the primitive byte -/
def k14 : Class := { plain "byte" none with kind := .primitive 'B', accessFlags := 0x411 }
/-- [B -/
def k15 : Class := { plain "[B" (some 0) with kind := .array 14 .byte, interfaces := #[13, 4], accessFlags := 1041 }

def heap : Heap := #[{ cls := 6, slots := #[.ref 3, .ref 9, .ref 15, .ref 6, .ref 12, .null], vm := .statics 6 },
  { cls := 9, slots := #[.long 0, .int 1, .null, .int 0, .null, .int 0, .int 0], vm := .statics 9 },
  { cls := 11, slots := #[.null, .null, .null], vm := .statics 11 },
  { cls := 6, slots := #[.null, .int 0, .int 0, .ref 4], vm := .none },
  { cls := 9, slots := #[.ref 5, .int 0, .int 0, .int 0], vm := .none },
  { cls := 15, slots := #[.int 70], vm := .none },
  { cls := 6, slots := #[.null, .int 3, .int 0, .ref 7], vm := .none },
  { cls := 9, slots := #[.ref 8, .int 0, .int 0, .int 0], vm := .none },
  { cls := 15, slots := #[.int 67, .int 65], vm := .none },
  { cls := 6, slots := #[.null, .int 1, .int 0, .ref 10], vm := .none },
  { cls := 9, slots := #[.ref 11, .int 0, .int 0, .int 0], vm := .none },
  { cls := 15, slots := #[.int 67], vm := .none },
  { cls := 6, slots := #[.null, .int 4, .int 0, .ref 13], vm := .none },
  { cls := 9, slots := #[.ref 14, .int 0, .int 0, .int 0], vm := .none },
  { cls := 15, slots := #[.int 80, .int 65], vm := .none },
  { cls := 6, slots := #[.null, .int 2, .int 0, .ref 16], vm := .none },
  { cls := 9, slots := #[.ref 17, .int 0, .int 0, .int 0], vm := .none },
  { cls := 15, slots := #[.int 80], vm := .none }]
def classes : Array Class := #[k0, k1, k2, k3, k4, k5, k6, k7, k8, k9, k10, k11, k12, k13, k14, k15]
def interned : List (Array UInt16 × Addr) := []
def slotsUsed : Nat := 63
def theMethod : MethodId := ⟨1, 2⟩
def args0 : Array Value := #[.int 5]
def aboutOver (below : List Frame) : State where
  vm := { classes := classes, interned := interned.toArray }
  heap := heap
  slotsUsed := slotsUsed
  threads := #[{ frames := .invoking theMethod args0 :: below }]
def below0 : List Frame := [.native { method := ⟨0, 0⟩, args := #[] }]
def about1 : State := aboutOver below0
def p0 : Program := .bare "" "" ""
def e0 : Env := launch0.env 0 0 0
theorem w_frames : about1.frames = Frame.invoking theMethod args0 :: below0 := rfl
set_option maxRecDepth 65536 in
theorem w_args : argsFit about1.vm theMethod args0 = true := by decide +kernel
set_option maxRecDepth 65536 in
theorem w_heap : heapFits about1 = true := by decide +kernel
set_option maxRecDepth 65536 in
theorem w_runnable : about1.curStatus? = some .runnable := by decide +kernel
set_option maxRecDepth 65536 in
theorem w_alone : about1.alone = true := by decide +kernel
set_option maxRecDepth 65536 in
theorem w_named : about1.methodNamed? x = some theMethod := by decide +kernel
set_option maxRecDepth 65536 in
theorem w_hears : about1.hears theMethod below0 = true := by decide +kernel
set_option maxRecDepth 65536 in
theorem w_ripe : about1.ripe theMethod args0 below0 = true := by decide +kernel
theorem w_running : about1.status = .running := rfl
set_option maxRecDepth 65536 in
theorem w_room : about1.hasRoom e0.platform room_1 = true :=
  launch0.hasRoom_least _ room_1 (by decide +kernel) (by decide +kernel) (by decide +kernel) (by decide +kernel) (by decide +kernel) (by decide +kernel)
theorem allAtoms_all (ts : List Jvm.Cond) (a : Array Jvm.Value) (st : Jvm.State) : (allAtoms ts).before a st = ts.all (fun c => c.before a st) := by
  induction ts with
  | nil => rfl
  | cons c t ih =>
    show (Jvm.Cond.and c (allAtoms t)).before a st = _
    rw [Jvm.Cond.before_and, ih, List.all_cons]
def words1 : List Jvm.Cond := Jvm.Cond.code x code maxLocals ret :: tables_1
/-- a 'code' word, met by the world's own term for the bytes: nothing is compared byte by byte -/
theorem code_word {y : MethodName} {bytes : ByteArray} {mx : Nat} {rt : Option FieldType} {a : Array Value} {s : State} {m : MethodId} {meth : Method} {c : Code} (h1 : s.methodNamed? y = some m) (h2 : s.vm.method? m = some meth) (h3 : meth.code = some c) (h4 : c.code = bytes)
    (h5 : (c.maxLocals == mx && c.exceptionTable.isEmpty && decide (c.maxStack ≤ mostOperands) && decide (meth.sig.returnType = rt) && !meth.locks && decide (parseMethodDescriptor y.desc = some meth.sig)) = true) : (Jvm.Cond.code y bytes mx rt).before a s = true := by
  simp only [Bool.and_eq_true, beq_iff_eq, Bool.not_eq_true', decide_eq_true_eq] at h5
  obtain ⟨⟨⟨⟨⟨g1, g2⟩, g3⟩, g4⟩, g5⟩, g6⟩ := h5
  simp [Cond.before, Cond.holds, Cond.value, h1, h2, h3, h4, g1, g2, g3, g4, g5, g6]
def isCode : Jvm.Cond → Bool
  | .code _ _ _ _ => true
  | _ => false
theorem all_split {L : List Jvm.Cond} {P : Jvm.Cond → Bool} (h1 : L.all (fun c => isCode c || P c) = true) (h2 : ∀ c ∈ L.filter isCode, P c = true) : L.all P = true := by
  refine List.all_eq_true.mpr fun c hc => ?_
  have h := List.all_eq_true.mp h1 c hc
  rcases Bool.eq_false_or_eq_true (isCode c) with hi | hi
  · exact h2 c (List.mem_filter.mpr ⟨hc, hi⟩)
  · simpa [hi] using h
set_option maxRecDepth 65536 in
theorem w_c0 : (Jvm.Cond.code x code maxLocals ret).before args0 about1 = true := code_word (m := ⟨1, 2⟩) (meth := k1m2) (c := k1c2) (by decide +kernel) rfl rfl rfl (by decide +kernel)
set_option maxRecDepth 65536 in
theorem w_c1 : (Jvm.Cond.code ({ cls := "com/example/riskscan/riskscan/model/SeriesTypeIsOptionPinLaw", name := "pick", desc := "(I)Lcom/example/riskscan/riskscan/model/SeriesType;" } : Jvm.MethodName) method_2_code (1 : Nat) (Option.some (Jvm.ClassFile.FieldType.object "com/example/riskscan/riskscan/model/SeriesType"))).before args0 about1 = true := code_word (m := ⟨1, 1⟩) (meth := k1m1) (c := k1c1) (by decide +kernel) rfl rfl rfl (by decide +kernel)
set_option maxRecDepth 65536 in
theorem w_c2 : (Jvm.Cond.code ({ cls := "com/example/riskscan/riskscan/model/SeriesType", name := "letter", desc := "()Ljava/lang/String;" } : Jvm.MethodName) prog_96_method_4_code (1 : Nat) (Option.some (Jvm.ClassFile.FieldType.object "java/lang/String"))).before args0 about1 = true := code_word (m := ⟨6, 0⟩) (meth := k6m0) (c := k6c0) (by decide +kernel) rfl rfl rfl (by decide +kernel)
set_option maxRecDepth 65536 in
theorem w_c3 : (Jvm.Cond.code ({ cls := "java/lang/String", name := "length", desc := "()I" } : Jvm.MethodName) jdk_42_method_54_code (1 : Nat) (Option.some Jvm.ClassFile.FieldType.int)).before args0 about1 = true := code_word (m := ⟨9, 1⟩) (meth := k9m1) (c := k9c1) (by decide +kernel) rfl rfl rfl (by decide +kernel)
set_option maxRecDepth 65536 in
theorem w_c4 : (Jvm.Cond.code ({ cls := "java/lang/String", name := "coder", desc := "()B" } : Jvm.MethodName) jdk_42_method_152_code (1 : Nat) (Option.some Jvm.ClassFile.FieldType.byte)).before args0 about1 = true := code_word (m := ⟨9, 3⟩) (meth := k9m3) (c := k9c3) (by decide +kernel) rfl rfl rfl (by decide +kernel)
set_option maxRecDepth 65536 in
theorem w_c5 : (Jvm.Cond.code ({ cls := "java/lang/String", name := "charAt", desc := "(I)C" } : Jvm.MethodName) jdk_42_method_56_code (2 : Nat) (Option.some Jvm.ClassFile.FieldType.char)).before args0 about1 = true := code_word (m := ⟨9, 2⟩) (meth := k9m2) (c := k9c2) (by decide +kernel) rfl rfl rfl (by decide +kernel)
set_option maxRecDepth 65536 in
theorem w_c6 : (Jvm.Cond.code ({ cls := "java/lang/String", name := "isLatin1", desc := "()Z" } : Jvm.MethodName) jdk_42_method_154_code (1 : Nat) (Option.some Jvm.ClassFile.FieldType.boolean)).before args0 about1 = true := code_word (m := ⟨9, 4⟩) (meth := k9m4) (c := k9c4) (by decide +kernel) rfl rfl rfl (by decide +kernel)
set_option maxRecDepth 65536 in
theorem w_c7 : (Jvm.Cond.code ({ cls := "java/lang/StringLatin1", name := "charAt", desc := "([BI)C" } : Jvm.MethodName) jdk_43_method_2_code (2 : Nat) (Option.some Jvm.ClassFile.FieldType.char)).before args0 about1 = true := code_word (m := ⟨10, 1⟩) (meth := k10m1) (c := k10c1) (by decide +kernel) rfl rfl rfl (by decide +kernel)
set_option maxRecDepth 65536 in
theorem w_c8 : (Jvm.Cond.code ({ cls := "java/lang/String", name := "checkIndex", desc := "(II)V" } : Jvm.MethodName) jdk_42_method_155_code (2 : Nat) (Option.none : Option Jvm.ClassFile.FieldType)).before args0 about1 = true := code_word (m := ⟨9, 5⟩) (meth := k9m5) (c := k9c5) (by decide +kernel) rfl rfl rfl (by decide +kernel)
set_option maxRecDepth 65536 in
theorem w_c9 : (Jvm.Cond.code ({ cls := "jdk/internal/util/Preconditions", name := "checkIndex", desc := "(IILjava/util/function/BiFunction;)I" } : Jvm.MethodName) jdk_41_method_11_code (3 : Nat) (Option.some Jvm.ClassFile.FieldType.int)).before args0 about1 = true := code_word (m := ⟨11, 1⟩) (meth := k11m1) (c := k11c1) (by decide +kernel) rfl rfl rfl (by decide +kernel)
set_option maxRecDepth 65536 in
theorem w_c10 : (Jvm.Cond.code ({ cls := "com/example/riskscan/riskscan/model/SeriesType", name := "isOption", desc := "()Z" } : Jvm.MethodName) prog_96_method_5_code (1 : Nat) (Option.some Jvm.ClassFile.FieldType.boolean)).before args0 about1 = true := code_word (m := ⟨6, 1⟩) (meth := k6m1) (c := k6c1) (by decide +kernel) rfl rfl rfl (by decide +kernel)
def codes1 : List Jvm.Cond := [Jvm.Cond.code x code maxLocals ret, Jvm.Cond.code ({ cls := "com/example/riskscan/riskscan/model/SeriesTypeIsOptionPinLaw", name := "pick", desc := "(I)Lcom/example/riskscan/riskscan/model/SeriesType;" } : Jvm.MethodName) method_2_code (1 : Nat) (Option.some (Jvm.ClassFile.FieldType.object "com/example/riskscan/riskscan/model/SeriesType")), Jvm.Cond.code ({ cls := "com/example/riskscan/riskscan/model/SeriesType", name := "letter", desc := "()Ljava/lang/String;" } : Jvm.MethodName) prog_96_method_4_code (1 : Nat) (Option.some (Jvm.ClassFile.FieldType.object "java/lang/String")), Jvm.Cond.code ({ cls := "java/lang/String", name := "length", desc := "()I" } : Jvm.MethodName) jdk_42_method_54_code (1 : Nat) (Option.some Jvm.ClassFile.FieldType.int), Jvm.Cond.code ({ cls := "java/lang/String", name := "coder", desc := "()B" } : Jvm.MethodName) jdk_42_method_152_code (1 : Nat) (Option.some Jvm.ClassFile.FieldType.byte), Jvm.Cond.code ({ cls := "java/lang/String", name := "charAt", desc := "(I)C" } : Jvm.MethodName) jdk_42_method_56_code (2 : Nat) (Option.some Jvm.ClassFile.FieldType.char), Jvm.Cond.code ({ cls := "java/lang/String", name := "isLatin1", desc := "()Z" } : Jvm.MethodName) jdk_42_method_154_code (1 : Nat) (Option.some Jvm.ClassFile.FieldType.boolean), Jvm.Cond.code ({ cls := "java/lang/StringLatin1", name := "charAt", desc := "([BI)C" } : Jvm.MethodName) jdk_43_method_2_code (2 : Nat) (Option.some Jvm.ClassFile.FieldType.char), Jvm.Cond.code ({ cls := "java/lang/String", name := "checkIndex", desc := "(II)V" } : Jvm.MethodName) jdk_42_method_155_code (2 : Nat) (Option.none : Option Jvm.ClassFile.FieldType), Jvm.Cond.code ({ cls := "jdk/internal/util/Preconditions", name := "checkIndex", desc := "(IILjava/util/function/BiFunction;)I" } : Jvm.MethodName) jdk_41_method_11_code (3 : Nat) (Option.some Jvm.ClassFile.FieldType.int), Jvm.Cond.code ({ cls := "com/example/riskscan/riskscan/model/SeriesType", name := "isOption", desc := "()Z" } : Jvm.MethodName) prog_96_method_5_code (1 : Nat) (Option.some Jvm.ClassFile.FieldType.boolean)]
set_option maxRecDepth 65536 in
theorem codes_eq : words1.filter isCode = codes1 := rfl
theorem w_codes : ∀ c ∈ words1.filter isCode, c.before args0 about1 = true := by
  rw [codes_eq]
  intro c hc
  simp only [codes1, List.mem_cons, List.not_mem_nil, or_false] at hc
  rcases hc with rfl | rfl | rfl | rfl | rfl | rfl | rfl | rfl | rfl | rfl | rfl
  · exact w_c0
  · exact w_c1
  · exact w_c2
  · exact w_c3
  · exact w_c4
  · exact w_c5
  · exact w_c6
  · exact w_c7
  · exact w_c8
  · exact w_c9
  · exact w_c10
set_option maxRecDepth 65536 in
theorem w_t1 : (words1.take 24).all (fun c => isCode c || c.before args0 about1) = true := by decide +kernel
set_option maxRecDepth 65536 in
theorem w_t2 : ((words1.drop 24).take 24).all (fun c => isCode c || c.before args0 about1) = true := by decide +kernel
set_option maxRecDepth 65536 in
theorem w_t3 : ((words1.drop 24).drop 24).all (fun c => isCode c || c.before args0 about1) = true := by decide +kernel
theorem w_tables : (allAtoms (Jvm.Cond.code x code maxLocals ret :: tables_1)).before args0 about1 = true := by
  rw [allAtoms_all]
  show words1.all (fun c => c.before args0 about1) = true
  refine all_split ?_ w_codes
  rw [← List.take_append_drop 24 words1, List.all_append, w_t1, ← List.take_append_drop 24 (words1.drop 24), List.all_append, w_t2, w_t3]
  rfl
set_option maxRecDepth 65536 in
theorem w_rest : rest_1_c.before args0 about1 = true := by decide +kernel
set_option maxRecDepth 65536 in
theorem w_case : (Jvm.Cond.and given_1 narrow_1).before args0 about1 = true := by decide +kernel
theorem w_applies : (headSpec (Jvm.Cond.code x code maxLocals ret :: tables_1) room_1).applies x e0.platform about1 = true :=
  (Spec.applies_iff w_frames).mpr ⟨w_running, w_runnable, w_alone, w_named, w_hears, w_ripe, w_room, w_tables⟩
theorem atStart : AtStart classFile x code maxLocals ret World_1 tables_1 room_1 Calls_1 rest_1 Pre_1 launch0 p0 e0 about1 theMethod args0 below0 :=
  ⟨lists_1, trivial, launch0.admits_env _ _ _, launch0.least_env, fairChoices_fair.cas, fairChoices_fair.clock, w_frames, w_args, w_heap, w_applies, trivial, w_rest, w_case⟩
end start1
theorem witness_1 : WitnessClaimed_1 := ⟨start1.p0, start1.e0, start1.about1, start1.theMethod, start1.args0, start1.below0, start1.atStart⟩
end Jvm.Pilot.@@N@@
