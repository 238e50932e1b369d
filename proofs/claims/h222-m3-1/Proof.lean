import JvmDerived
import JvmDerived.Pilot.@@N@@Statement
import JvmDerived.Pilot.@@N@@Code
set_option linter.unusedVariables false
set_option linter.unusedSimpArgs false
namespace Jvm.Pilot.@@N@@
open Jvm Jvm.ClassFile Sem Op Lib Jvm.Free Jvm.Stand Jvm.LawKit Jvm.RoadKit Bundle Jvm.Pilot.@@N@@.Jvm.D
theorem own_irr (x : Int32) : ¬ x < x := fun h => absurd (Int32.lt_iff_toInt_lt.mp h) (by omega)
theorem own_nn (x : Int32) : ¬ ((x &&& (2147483647 : Int32)) < (0 : Int32)) := fun h => by
  have h1 := Int32.lt_iff_toInt_lt.mp h
  have h2 := (c_and x 2147483647 (by decide)).1
  have h3 : (0 : Int32).toInt = 0 := rfl
  omega
def own_min (a b : Int32) : Int32 := if b < a then b else a
def own_max (a b : Int32) : Int32 := if a < b then b else a
theorem own_mm (a b : Int32) : ¬ (own_max a b < own_min a b) := fun h => by
  have h := Int32.lt_iff_toInt_lt.mp h
  unfold own_max own_min at h
  split at h <;> split at h <;> (simp only [Int32.lt_iff_toInt_lt] at *; omega)
theorem own_min_nn {a b : Int32} (ha : ¬ a < (0 : Int32)) (hb : ¬ b < (0 : Int32)) : ¬ (own_min a b < (0 : Int32)) := by unfold own_min; split <;> assumption
theorem own_max_nn {a b : Int32} (ha : ¬ a < (0 : Int32)) (hb : ¬ b < (0 : Int32)) : ¬ (own_max a b < (0 : Int32)) := by unfold own_max; split <;> assumption
theorem own_mod {x d k : Int32} {D : Int} (hd : d.toInt = D) (hD : 0 < D) (h : (x &&& (2147483647 : Int32)) % d = k) : 0 ≤ k.toInt ∧ k.toInt < D := by
  have h1 := (c_and x 2147483647 (by decide)).1
  have h2 := (c_irem (x &&& 2147483647) d D hd).1 h1
  rw [h] at h2
  rw [h2]
  exact ⟨Int.emod_nonneg _ (by omega), Int.emod_lt_of_pos _ hD⟩
theorem own_ne {k : Int32} (n : Nat) (hc : (Int32.ofNat n).toInt = (n : Int)) (h : ¬ k = Int32.ofNat n) : k.toInt ≠ (n : Int) := fun q => h (Int32.toInt_inj.mp (q.trans hc.symm))
theorem own_r255 {x c : Int32} (h : (x &&& (255 : Int32)) = c) : ¬ (c < (0 : Int32)) ∧ ¬ ((255 : Int32) < c) := by
  have h1 := c_and x 255 (by decide)
  rw [h] at h1
  have e1 : (255 : Int32).toInt = 255 := rfl
  have e0 : (0 : Int32).toInt = 0 := rfl
  simp only [Int32.lt_iff_toInt_lt]
  omega
theorem own_narc {c : Int32} (h : ¬ (c < (0 : Int32)) ∧ ¬ ((255 : Int32) < c)) : nar .char c = c := by
  have e1 : (255 : Int32).toInt = 255 := rfl
  have e0 : (0 : Int32).toInt = 0 := rfl
  have h1 := h.1
  have h2 := h.2
  simp only [Int32.lt_iff_toInt_lt] at h1 h2
  have h3 := c_i2c c
  apply Int32.toInt_inj.mp
  show c.toUInt32.toUInt16.toUInt32.toInt32.toInt = c.toInt
  omega
theorem own_fitc {c : Int32} (h : ¬ (c < (0 : Int32)) ∧ ¬ ((255 : Int32) < c)) : fits .char (.int c) = true := by
  have q := fits_nar_char c
  rw [own_narc h] at q
  exact q
theorem own_b8 (x : Int32) : x.toInt8.toInt32.toInt8.toInt32 = x.toInt8.toInt32 := Int32.toInt_inj.mp (by have a := c_i2b x; have b := c_i2b x.toInt8.toInt32; omega)
theorem own_shr0 (x : Int32) : x >>> ((0 : Int32) &&& 31) = x := Int32.toInt_inj.mp (by rw [c_ishr x 0 0 (by decide)]; simp)
theorem own_nar255 (x : Int32) : nar .char ((x &&& (255 : Int32)).toUInt32.toUInt16.toUInt32.toInt32) = x &&& (255 : Int32) := by rw [i2c_mask]; exact i2c_mask x
/-- from here the run comes to an end at which Q holds, at most so many cells and slots made -/
def own_Go (p : Program) (e : Env) (below : List Frame) (s : State) (Q : Option Value → Heap → List Loc → Prop) (C S : Nat) (A : State) : Prop :=
  ∃ s₂ o, Steps p.tables e below A s₂ ∧ s₂.status = .running ∧ Ended s₂ below o ∧ ∃ v L, o = .returned v ∧ Q v s₂.heap L ∧ FrameEnd s o s₂ L C S
theorem own_go {p : Program} {e : Env} {below : List Frame} {s : State} {Q : Option Value → Heap → List Loc → Prop} {C S : Nat} {A B : State} (k : ∀ t, Steps p.tables e below B t → Steps p.tables e below A t) (h : own_Go p e below s Q C S B) : own_Go p e below s Q C S A := by
  obtain ⟨s₂, o, h1, h2⟩ := h
  exact ⟨s₂, o, k _ h1, h2⟩
theorem own_fin {p : Program} {l : Launch} {e : Env} {R : Room} {s : State} {m : MethodId} {args : Array Value} {below : List Frame} {meth : Method} {c : Code} {T : State} {locs : List Loc} {cells slots : Nat} {Q : Option Value → Heap → List Loc → Prop} {C S : Nat} {A : State} {v : Option Value}
    (X : Stand p l e R s m args below meth c T locs cells slots) (hlocks : meth.locks = false) (hv : meth.sig.returnType = none → v = none)
    (st : ∀ fs, (∀ (f : JFrame) (acts : List Action), f.method = m → f.locked = none → f.entered = [] → (doReturn e (T.setTop f) acts v).1 = T.setFrames fs) → Steps p.tables e below A (T.setFrames fs))
    (hQ : Q v T.heap locs) (hc : cells ≤ C) (hs : slots ≤ S) : own_Go p e below s Q C S A := by
  obtain ⟨fs, hr, hrun, hended, hW, hsame⟩ := X.leave (v := v) hv hlocks
  exact ⟨_, _, st fs hr, hrun, hended, _, _, rfl, hQ, ⟨_, rfl⟩, hW, hsame.mono hc hs⟩
theorem own_eqI {args : Array Value} {first s : State} {o : Option Outcome} {idx : List Nat} {t : Term} {k : Int32} (h : (Jvm.Cond.eq t (.int k)).value args first o s idx = some true) : t.eval args first o idx s = some (.int k) := by
  obtain ⟨x, y, h1, h2, hk, hk'⟩ := cmp_v (Or.inl h)
  have e2 : y = .int k := (Option.some.inj ((Term.int_eval k).symm.trans h2)).symm
  subst e2
  obtain ⟨z, rfl⟩ := hk'
  simp only [Cond.value, h1, h2] at h
  have hz : z = k := by simpa using h
  rw [h1, hz]
theorem own_eqR {args : Array Value} {first s : State} {o : Option Outcome} {idx : List Nat} {t u : Term} {a : Addr} (h : (Jvm.Cond.eq t u).value args first o s idx = some true) (hu : u.eval args first o idx s = some (.ref a)) : t.eval args first o idx s = some (.ref a) := by
  obtain ⟨x, y, h1, h2, hk, hk'⟩ := cmp_v (Or.inl h)
  cases hu.symm.trans h2
  rw [h1, gotT (eq_R h1 hu hk'.2 rfl) h]
theorem own_len {args : Array Value} {s : State} {t : Term} {a : Addr} {cl : Cell} {k : Int32} {ty : FieldType} (h : (Term.length t).eval args s none [] s = some (.int k)) (ht : t.eval args s none [] s = some (.ref a)) (A : Arr s s.heap a cl ty) : cl.slots.size < 2 ^ 31 ∧ cl.slots.size.toInt32 = k := by
  have ha := A.fin (Vm.Alike.refl _)
  simp only [Term.eval, ht, ha, Option.bind_eq_bind, Option.bind_some] at h
  by_cases q : cl.slots.size < 2 ^ 31
  · simp [q] at h; exact ⟨q, h⟩
  · simp [q] at h
theorem own_sz {cl : Cell} {k : Int32} (h : cl.slots.size < 2 ^ 31 ∧ cl.slots.size.toInt32 = k) (hk : ¬ k < 0) : cl.slots.size = k.toNatClampNeg := by
  obtain ⟨h1, rfl⟩ := h
  simp only [Int32.toNatClampNeg, len_toInt h1]; rfl
theorem own_or {args : Array Value} {first s : State} {o : Option Outcome} {idx : List Nat} {c d : Jvm.Cond} (h : (Jvm.Cond.or c d).value args first o s idx = some true) (hc : c.value args first o s idx = some false) : d.value args first o s idx = some true := by simpa [Cond.value, hc] using h
theorem own_all0 {args : Array Value} {s : State} {t : Term} {a : Addr} {cl : Cell} (j k : Int32) (ht : ∀ idx, t.eval args s none idx s = some (.ref a)) (A : Arr s s.heap a cl .int)
    (h : (Jvm.Cond.or (.lt (.index 0) (.int 1)) (.or (.le (.int 6) (.index 0)) (.eq (.op1 .i2l (.elem t (.index 0))) (.op2 .ladd (.op1 .i2l (.index 0)) (.long 2))))).value args s none s [j.toNatClampNeg] = some true) (h0 : ¬ j < 0) (h1 : ¬ j < 1) (h6 : ¬ 6 ≤ j) (hk : k.toInt = (j.toInt64 + 2).toInt) : cl.slots[j.toNatClampNeg]? = some (.int k) := by
  have hj := idx_at (args := args) (first := s) (s := s) (o := none) h0
  have g := own_or (own_or h (nay (Cond.lt_ints hj (Term.int_eval 1)) h1)) (nay (Cond.le_ints (Term.int_eval 6) hj) h6)
  obtain ⟨x, y, e1, e2, -, -⟩ := cmp_v (Or.inl g)
  obtain ⟨u, e3, e4⟩ := op1_v e1
  have e5 : (Term.op1 .i2l (.index 0)).eval args s none [j.toNatClampNeg] s = some (Value.long j.toInt64) := op1_f hj
  have e6 : (Term.op2 .ladd (.op1 .i2l (.index 0)) (.long 2)).eval args s none [j.toNatClampNeg] s = some (Value.long (j.toInt64 + 2)) := op2_f e5 (long_at 2)
  cases u with
  | int z =>
    have e7 : (Term.op1 .i2l (.elem t (.index 0))).eval args s none [j.toNatClampNeg] s = some (Value.long z.toInt64) := op1_f e3
    have e8 := gotT (eq_L e7 e6) g
    have e9 : z = k := by
      apply Int32.toInt_inj.mp
      rw [hk, ← e8, Int32.toInt_toInt64]
    subst e9
    exact (elem_in e3 (ht _) hj A.1).2
  | _ => simp [Unary.apply] at e4
theorem own_d2_0 : decode jdk_37_method_2_code 0 = .ok (.aload_n 0, 1) := by decide +kernel
theorem own_d2_1 : decode jdk_37_method_2_code 1 = .ok (.getfield 7, 3) := by decide +kernel
theorem own_d2_4 : decode jdk_37_method_2_code 4 = .ok (.ireturn, 1) := by decide +kernel
theorem own_pn_java_lang_Enum : plainName "java/lang/Enum" = true := by first | (simp [plainName, overriddenIn]; done) | decide +kernel
theorem own_ef_own_rord (m : MethodId) (a1 : Addr) : entryFrame m #[(.ref a1)] 1 = mkF m 0 #[rv a1] [] := by first | (simp [entryFrame, mkF, argsToLocals, Value.category]; done) | rfl
def own_Q_own_rord (Z : State) (a1 : Addr) (k : Int32) (h0 : Heap) (n0 : Nat) (v : Option Value) (h : Heap) (L : List Loc) : Prop := v = some (.int k) ∧ Fr n0 L ∧ h = h0
set_option maxRecDepth 65536 in
set_option maxHeartbeats 40000000 in
theorem own_rord (l : Launch) (Z : State) (a0 : Array Value) (hw : ∀ d ∈ tables_1, d.before a0 Z = true) (ws : List Jvm.Cond) (a1 : Addr) (k : Int32) (h0 : Heap) (n0 : Nat) (Z0 : n0 ≤ h0.size) (F1 : Fld Z h0 a1 "java/lang/Enum" "ordinal" "I" (.int k))  :
    MetFree l (⟨"java/lang/Enum", "ordinal", "()I"⟩ : MethodName) (head1 (Jvm.Cond.code (⟨"java/lang/Enum", "ordinal", "()I"⟩ : MethodName) jdk_37_method_2_code 1 (some .int) :: ws) ({ frames := 0, cells := 0, slots := 0, locals := 0 } : Room)) (fun a U => a = #[(.ref a1)] ∧ Z.Warmed39 U.vm ∧ U.heap = h0) (fun _ _ _ _ _ => True) (fun _ U o U' => ∃ v L, o = .returned v ∧ own_Q_own_rord Z a1 k h0 n0 v U'.heap L ∧ FrameEnd U o U' L ({ frames := 0, cells := 0, slots := 0, locals := 0 } : Room).cells ({ frames := 0, cells := 0, slots := 0, locals := 0 } : Room).slots) := by
  refine MetFree.of_bodySF (plainFor_of_name own_pn_java_lang_Enum) hisR ?_
  intro p e s m args below meth c s₁ Bd hml0 hP hK
  obtain ⟨rfl, hZ, hh⟩ := hP
  have hx := Bd.exec
  have hby := Bd.bytes
  have hml : c.maxLocals = 1 := hml0
  have hown : s.vm.findClass "java/lang/Enum" = some m.cls := findClass_of_methodNamed Bd.named
  have hnm := (name_of_methodNamed Bd.named Bd.method).1
  have X0 : Stand p l e ({ frames := 0, cells := 0, slots := 0, locals := 0 } : Room) s m #[(.ref a1)] below meth c s₁ [] 0 0 := Stand.of_body Bd
  have e0 : s₁.heap = h0 := by rw [← hh, Bd.state]; rfl
  have N0 := Fr.nil n0
  show own_Go p e below s (own_Q_own_rord Z a1 k h0 n0) ({ frames := 0, cells := 0, slots := 0, locals := 0 } : Room).cells ({ frames := 0, cells := 0, slots := 0, locals := 0 } : Room).slots (s₁.setTop (entryFrame m #[(.ref a1)] 1))
  refine own_go (fun zt zk => castTop (own_ef_own_rord m a1) zk) ?_
  show own_Go p e below s _ _ _ (s₁.setTop (mkF m 0 #[rv a1] []))
  refine own_go (fun zt zk => (XS.aloadN X0.here hx rfl (hb hby own_d2_0) rfl rfl zk)) ?_
  show own_Go p e below s _ _ _ (s₁.setTop (mkF m 1 #[rv a1] [(.ref a1)]))
  obtain ⟨T1, X1, e1, st1⟩ := getF X0 hx hZ hown (host := "") (Or.inl (hw _ (List.mem_of_getElem? (i := 18) rfl))) Via.refl e0 F1 (g := (mkF m 1 #[rv a1] [(.ref a1)])) rfl rfl (hb hby own_d2_1)
  refine own_go st1 ?_
  show own_Go p e below s _ _ _ (T1.setTop (mkF m 4 #[rv a1] [(.int k)]))
  exact own_fin X1 Bd.notSynchronized (fun h => by rw [Bd.returns] at h; cases h) (fun fs hr => retOut X1 hx (t := .int) (w := (.int k)) Bd.returns rfl (Or.inl ⟨rfl, Or.inl rfl, _, rfl⟩) (hb hby own_d2_4) hr) (by rw [e1]; exact ⟨rfl, N0, rfl⟩) (by decide) (by decide)
theorem own_d1_0 : decode prog_74_method_11_code 0 = .ok (.getstatic 150, 3) := by decide +kernel
theorem own_d1_3 : decode prog_74_method_11_code 3 = .ok (.aload_n 0, 1) := by decide +kernel
theorem own_d1_4 : decode prog_74_method_11_code 4 = .ok (.invokevirtual 156, 3) := by decide +kernel
theorem own_pd___I : parseMethodDescriptor "()I" = some ⟨[], some .int⟩ := by decide +kernel
theorem own_d1_7 : decode prog_74_method_11_code 7 = .ok (.iaload, 1) := by decide +kernel
theorem own_d1_8 : decode prog_74_method_11_code 8 = .ok (.tableswitch 44 1 7 #[54, 54, 60, 60, 66, 72, 72], 44) := by decide +kernel
theorem own_d1_62 : decode prog_74_method_11_code 62 = .ok (.sipush 409, 3) := by decide +kernel
theorem own_d1_65 : decode prog_74_method_11_code 65 = .ok (.goto 18, 3) := by decide +kernel
theorem own_d1_83 : decode prog_74_method_11_code 83 = .ok (.ireturn, 1) := by decide +kernel
theorem own_pn_com_example_mortise_mortise_webdav_Exchanges : plainName "com/example/mortise/mortise/webdav/Exchanges" = true := by first | (simp [plainName, overriddenIn]; done) | decide +kernel
theorem own_ef_own_rst0 (m : MethodId) (a1 : Addr) : entryFrame m #[(.ref a1)] 1 = mkF m 0 #[rv a1] [] := by first | (simp [entryFrame, mkF, argsToLocals, Value.category]; done) | rfl
def own_Q_own_rst0 (Z : State) (a1 : Addr) (o__SwitchMap_com_example_mortise_mortise_store_RejectedChangeException_Reason : Addr) (k_o__SwitchMap_com_example_mortise_mortise_store_RejectedChangeException_Reason : ClassId) (h0 : Heap) (n0 : Nat) (v : Option Value) (h : Heap) (L : List Loc) : Prop := v = some (.int (409 : Int32)) ∧ Fr n0 L ∧ h = h0
set_option maxRecDepth 65536 in
set_option maxHeartbeats 40000000 in
theorem own_rst0 (l : Launch) (Z : State) (a0 : Array Value) (hw : ∀ d ∈ tables_1, d.before a0 Z = true) (ws : List Jvm.Cond) (a1 : Addr) (o__SwitchMap_com_example_mortise_mortise_store_RejectedChangeException_Reason : Addr) (k_o__SwitchMap_com_example_mortise_mortise_store_RejectedChangeException_Reason : ClassId) (h0 : Heap) (n0 : Nat) (Z0 : n0 ≤ h0.size) (O : Old Z n0 h0) (S_o__SwitchMap_com_example_mortise_mortise_store_RejectedChangeException_Reason : Sta Z Z.heap "com/example/mortise/mortise/webdav/Exchanges$1" "$SwitchMap$com$example$mortise$mortise$store$RejectedChangeException$Reason" "[I" (.ref o__SwitchMap_com_example_mortise_mortise_store_RejectedChangeException_Reason)) (V_o__SwitchMap_com_example_mortise_mortise_store_RejectedChangeException_Reason : Arv Z Z.heap o__SwitchMap_com_example_mortise_mortise_store_RejectedChangeException_Reason k_o__SwitchMap_com_example_mortise_mortise_store_RejectedChangeException_Reason .int (7 : Int32) [(.int (1 : Int32)), (.int (3 : Int32)), (.int (4 : Int32)), (.int (5 : Int32)), (.int (6 : Int32)), (.int (7 : Int32)), (.int (2 : Int32))] (.int (0 : Int32))) (Ex1 : Exa Z Z.heap a1 "com/example/mortise/mortise/store/RejectedChangeException$Reason") (F1 : Fld Z Z.heap a1 "java/lang/Enum" "ordinal" "I" (.int (0 : Int32)))  :
    MetFree l (⟨"com/example/mortise/mortise/webdav/Exchanges", "statusFor", "(Lcom/example/mortise/mortise/store/RejectedChangeException$Reason;)I"⟩ : MethodName) (head1 (Jvm.Cond.code (⟨"com/example/mortise/mortise/webdav/Exchanges", "statusFor", "(Lcom/example/mortise/mortise/store/RejectedChangeException$Reason;)I"⟩ : MethodName) prog_74_method_11_code 1 (some .int) :: ws) ({ frames := 1, cells := 0, slots := 0, locals := 13 } : Room)) (fun a U => a = #[(.ref a1)] ∧ Z.Warmed39 U.vm ∧ U.heap = h0) (fun _ _ _ _ _ => True) (fun _ U o U' => ∃ v L, o = .returned v ∧ own_Q_own_rst0 Z a1 o__SwitchMap_com_example_mortise_mortise_store_RejectedChangeException_Reason k_o__SwitchMap_com_example_mortise_mortise_store_RejectedChangeException_Reason h0 n0 v U'.heap L ∧ FrameEnd U o U' L ({ frames := 1, cells := 0, slots := 0, locals := 13 } : Room).cells ({ frames := 1, cells := 0, slots := 0, locals := 13 } : Room).slots) := by
  refine MetFree.of_bodySF (plainFor_of_name own_pn_com_example_mortise_mortise_webdav_Exchanges) hisR ?_
  intro p e s m args below meth c s₁ Bd hml0 hP hK
  obtain ⟨rfl, hZ, hh⟩ := hP
  have hx := Bd.exec
  have hby := Bd.bytes
  have hml : c.maxLocals = 1 := hml0
  have hown : s.vm.findClass "com/example/mortise/mortise/webdav/Exchanges" = some m.cls := findClass_of_methodNamed Bd.named
  have hnm := (name_of_methodNamed Bd.named Bd.method).1
  have X0 : Stand p l e ({ frames := 1, cells := 0, slots := 0, locals := 13 } : Room) s m #[(.ref a1)] below meth c s₁ [] 0 0 := Stand.of_body Bd
  have e0 : s₁.heap = h0 := by rw [← hh, Bd.state]; rfl
  have N0 := Fr.nil n0
  show own_Go p e below s (own_Q_own_rst0 Z a1 o__SwitchMap_com_example_mortise_mortise_store_RejectedChangeException_Reason k_o__SwitchMap_com_example_mortise_mortise_store_RejectedChangeException_Reason h0 n0) ({ frames := 1, cells := 0, slots := 0, locals := 13 } : Room).cells ({ frames := 1, cells := 0, slots := 0, locals := 13 } : Room).slots (s₁.setTop (entryFrame m #[(.ref a1)] 1))
  refine own_go (fun zt zk => castTop (own_ef_own_rst0 m a1) zk) ?_
  show own_Go p e below s _ _ _ (s₁.setTop (mkF m 0 #[rv a1] []))
  obtain ⟨T1, X1, e1, st1⟩ := getS2 X0 hx hZ hown (host := "") (Or.inl (hw _ (List.mem_of_getElem? (i := 8) rfl))) Via.refl e0 (S_o__SwitchMap_com_example_mortise_mortise_store_RejectedChangeException_Reason.ext O.2) (g := (mkF m 0 #[rv a1] [])) rfl (hb hby own_d1_0)
  refine own_go st1 ?_
  show own_Go p e below s _ _ _ (T1.setTop (mkF m 3 #[rv a1] [(.ref o__SwitchMap_com_example_mortise_mortise_store_RejectedChangeException_Reason)]))
  refine own_go (fun zt zk => (XS.aloadN X1.here hx rfl (hb hby own_d1_3) rfl rfl zk)) ?_
  show own_Go p e below s _ _ _ (T1.setTop (mkF m 4 #[rv a1] [(.ref a1), (.ref o__SwitchMap_com_example_mortise_mortise_store_RejectedChangeException_Reason)]))
  obtain ⟨cq2, kq2, qa2, qb2, qc2⟩ := isOf hZ e1 (Ex1.ext O.2)
  obtain ⟨_, _, ⟨T2, L2, k2, n2⟩, -, X2, ⟨Lc2, hQ2, l2, y2, z2⟩, st2⟩ := X1.virtualBackUp hx (x := (⟨"com/example/mortise/mortise/store/RejectedChangeException$Reason", "ordinal", "()I"⟩ : MethodName)) (y := (⟨"java/lang/Enum", "ordinal", "()I"⟩ : MethodName)) hown (mvT hZ (hw _ (List.mem_of_getElem? (i := 11) rfl))) (mvT hZ (hw _ (List.mem_of_getElem? (i := 12) rfl))) (mvT hZ (hw _ (List.mem_of_getElem? (i := 13) rfl))) (by decide) (mvT hZ (hw _ (List.mem_of_getElem? (i := 15) rfl))) (mvT hZ (hw _ (List.mem_of_getElem? (i := 14) rfl))) (backOf (W := 1) (own_rord l Z a0 hw [] a1 (0 : Int32) h0 n0 Z0 (F1.ext O.2)) hZ (hw _ (List.mem_of_getElem? (i := 17) rfl)) (hw _ (List.mem_of_getElem? (i := 16) rfl)) (by decide) (by decide)) qa2 qc2 (g := (mkF m 4 #[rv a1] [(.ref a1), (.ref o__SwitchMap_com_example_mortise_mortise_store_RejectedChangeException_Reason)])) rfl (by rw [hml]; rfl) (Steps.refl _) (argsL := []) (rest := [(.ref o__SwitchMap_com_example_mortise_mortise_store_RejectedChangeException_Reason)]) (lenOf own_pd___I rfl) rfl (by show 2 * 0 + _ ≤ _; exact Nat.le_of_eq rfl) (hb hby own_d1_4) (fun _ _ => ⟨rfl, e1, (by decide : 0 + 0 ≤ _), (by decide : 0 + 0 ≤ _)⟩)
  dsimp only [Pt.U, Pt.locs, Pt.cells, Pt.slots] at X2 l2 y2 z2 st2 hQ2
  subst l2 y2 z2
  obtain ⟨rfl, Nq2, e2⟩ := hQ2
  have N2 := Fr.app N0 Nq2
  refine own_go (fun zt zk => st2.trans zk) ?_
  show own_Go p e below s _ _ _ (T2.setTop (mkF m 7 #[rv a1] [(.int (0 : Int32)), (.ref o__SwitchMap_com_example_mortise_mortise_store_RejectedChangeException_Reason)]))
  obtain ⟨cl3, Ar3, q3, Sz3, Nz3, Ha3, Ga3⟩ := id (V_o__SwitchMap_com_example_mortise_mortise_store_RejectedChangeException_Reason.ext O.2)
  have hin3 : ¬ ((0 : Int32) < 0 ∨ cl3.slots.size ≤ ((0 : Int32)).toNatClampNeg) := inb_of Sz3 ⟨by decide, by decide⟩
  have hat3 : cl3.slots[((0 : Int32)).toNatClampNeg]? = some (.int (1 : Int32)) := Has.at Ha3 hin3 rfl
  refine own_go (X2.iaload hx (j := (0 : Int32)) (v := (.int (1 : Int32))) (by rw [e2]; exact Ar3.1) (State.isArrayOf_alike hZ.alike Ar3.2.1) Ar3.2.2 hin3 hat3 (g := (mkF m 7 #[rv a1] [(.int (0 : Int32)), (.ref o__SwitchMap_com_example_mortise_mortise_store_RejectedChangeException_Reason)])) rfl rfl (hb hby own_d1_7)) ?_
  show own_Go p e below s _ _ _ (T2.setTop (mkF m 8 #[rv a1] [(.int (1 : Int32))]))
  refine own_go (fun zt zk => (XS.tswIn X2.here hx rfl (pc0 := 8) (pc' := 62) rfl (hb hby own_d1_8) rfl (by decide) (o := 54) rfl (by decide) (by decide) (XS.sipush X2.here hx rfl (hb hby own_d1_62) (XS.goto X2.here hx rfl (pc0 := 65) (pc' := 83) rfl (hb hby own_d1_65) (by decide) (by decide) zk)))) ?_
  show own_Go p e below s _ _ _ (T2.setTop (mkF m 83 #[rv a1] [(.int (409 : Int32))]))
  exact own_fin X2 Bd.notSynchronized (fun h => by rw [Bd.returns] at h; cases h) (fun fs hr => retOut X2 hx (t := .int) (w := (.int (409 : Int32))) Bd.returns rfl (Or.inl ⟨rfl, Or.inl rfl, _, rfl⟩) (hb hby own_d1_83) hr) (by rw [e2]; exact ⟨rfl, N2, rfl⟩) (by decide) (by decide)
theorem own_d1_68 : decode prog_74_method_11_code 68 = .ok (.sipush 405, 3) := by decide +kernel
theorem own_d1_71 : decode prog_74_method_11_code 71 = .ok (.goto 12, 3) := by decide +kernel
theorem own_ef_own_rst1 (m : MethodId) (a1 : Addr) : entryFrame m #[(.ref a1)] 1 = mkF m 0 #[rv a1] [] := by first | (simp [entryFrame, mkF, argsToLocals, Value.category]; done) | rfl
def own_Q_own_rst1 (Z : State) (a1 : Addr) (o__SwitchMap_com_example_mortise_mortise_store_RejectedChangeException_Reason : Addr) (k_o__SwitchMap_com_example_mortise_mortise_store_RejectedChangeException_Reason : ClassId) (h0 : Heap) (n0 : Nat) (v : Option Value) (h : Heap) (L : List Loc) : Prop := v = some (.int (405 : Int32)) ∧ Fr n0 L ∧ h = h0
set_option maxRecDepth 65536 in
set_option maxHeartbeats 40000000 in
theorem own_rst1 (l : Launch) (Z : State) (a0 : Array Value) (hw : ∀ d ∈ tables_1, d.before a0 Z = true) (ws : List Jvm.Cond) (a1 : Addr) (o__SwitchMap_com_example_mortise_mortise_store_RejectedChangeException_Reason : Addr) (k_o__SwitchMap_com_example_mortise_mortise_store_RejectedChangeException_Reason : ClassId) (h0 : Heap) (n0 : Nat) (Z0 : n0 ≤ h0.size) (O : Old Z n0 h0) (S_o__SwitchMap_com_example_mortise_mortise_store_RejectedChangeException_Reason : Sta Z Z.heap "com/example/mortise/mortise/webdav/Exchanges$1" "$SwitchMap$com$example$mortise$mortise$store$RejectedChangeException$Reason" "[I" (.ref o__SwitchMap_com_example_mortise_mortise_store_RejectedChangeException_Reason)) (V_o__SwitchMap_com_example_mortise_mortise_store_RejectedChangeException_Reason : Arv Z Z.heap o__SwitchMap_com_example_mortise_mortise_store_RejectedChangeException_Reason k_o__SwitchMap_com_example_mortise_mortise_store_RejectedChangeException_Reason .int (7 : Int32) [(.int (1 : Int32)), (.int (3 : Int32)), (.int (4 : Int32)), (.int (5 : Int32)), (.int (6 : Int32)), (.int (7 : Int32)), (.int (2 : Int32))] (.int (0 : Int32))) (Ex1 : Exa Z Z.heap a1 "com/example/mortise/mortise/store/RejectedChangeException$Reason") (F1 : Fld Z Z.heap a1 "java/lang/Enum" "ordinal" "I" (.int (1 : Int32)))  :
    MetFree l (⟨"com/example/mortise/mortise/webdav/Exchanges", "statusFor", "(Lcom/example/mortise/mortise/store/RejectedChangeException$Reason;)I"⟩ : MethodName) (head1 (Jvm.Cond.code (⟨"com/example/mortise/mortise/webdav/Exchanges", "statusFor", "(Lcom/example/mortise/mortise/store/RejectedChangeException$Reason;)I"⟩ : MethodName) prog_74_method_11_code 1 (some .int) :: ws) ({ frames := 1, cells := 0, slots := 0, locals := 13 } : Room)) (fun a U => a = #[(.ref a1)] ∧ Z.Warmed39 U.vm ∧ U.heap = h0) (fun _ _ _ _ _ => True) (fun _ U o U' => ∃ v L, o = .returned v ∧ own_Q_own_rst1 Z a1 o__SwitchMap_com_example_mortise_mortise_store_RejectedChangeException_Reason k_o__SwitchMap_com_example_mortise_mortise_store_RejectedChangeException_Reason h0 n0 v U'.heap L ∧ FrameEnd U o U' L ({ frames := 1, cells := 0, slots := 0, locals := 13 } : Room).cells ({ frames := 1, cells := 0, slots := 0, locals := 13 } : Room).slots) := by
  refine MetFree.of_bodySF (plainFor_of_name own_pn_com_example_mortise_mortise_webdav_Exchanges) hisR ?_
  intro p e s m args below meth c s₁ Bd hml0 hP hK
  obtain ⟨rfl, hZ, hh⟩ := hP
  have hx := Bd.exec
  have hby := Bd.bytes
  have hml : c.maxLocals = 1 := hml0
  have hown : s.vm.findClass "com/example/mortise/mortise/webdav/Exchanges" = some m.cls := findClass_of_methodNamed Bd.named
  have hnm := (name_of_methodNamed Bd.named Bd.method).1
  have X0 : Stand p l e ({ frames := 1, cells := 0, slots := 0, locals := 13 } : Room) s m #[(.ref a1)] below meth c s₁ [] 0 0 := Stand.of_body Bd
  have e0 : s₁.heap = h0 := by rw [← hh, Bd.state]; rfl
  have N0 := Fr.nil n0
  show own_Go p e below s (own_Q_own_rst1 Z a1 o__SwitchMap_com_example_mortise_mortise_store_RejectedChangeException_Reason k_o__SwitchMap_com_example_mortise_mortise_store_RejectedChangeException_Reason h0 n0) ({ frames := 1, cells := 0, slots := 0, locals := 13 } : Room).cells ({ frames := 1, cells := 0, slots := 0, locals := 13 } : Room).slots (s₁.setTop (entryFrame m #[(.ref a1)] 1))
  refine own_go (fun zt zk => castTop (own_ef_own_rst1 m a1) zk) ?_
  show own_Go p e below s _ _ _ (s₁.setTop (mkF m 0 #[rv a1] []))
  obtain ⟨T1, X1, e1, st1⟩ := getS2 X0 hx hZ hown (host := "") (Or.inl (hw _ (List.mem_of_getElem? (i := 8) rfl))) Via.refl e0 (S_o__SwitchMap_com_example_mortise_mortise_store_RejectedChangeException_Reason.ext O.2) (g := (mkF m 0 #[rv a1] [])) rfl (hb hby own_d1_0)
  refine own_go st1 ?_
  show own_Go p e below s _ _ _ (T1.setTop (mkF m 3 #[rv a1] [(.ref o__SwitchMap_com_example_mortise_mortise_store_RejectedChangeException_Reason)]))
  refine own_go (fun zt zk => (XS.aloadN X1.here hx rfl (hb hby own_d1_3) rfl rfl zk)) ?_
  show own_Go p e below s _ _ _ (T1.setTop (mkF m 4 #[rv a1] [(.ref a1), (.ref o__SwitchMap_com_example_mortise_mortise_store_RejectedChangeException_Reason)]))
  obtain ⟨cq2, kq2, qa2, qb2, qc2⟩ := isOf hZ e1 (Ex1.ext O.2)
  obtain ⟨_, _, ⟨T2, L2, k2, n2⟩, -, X2, ⟨Lc2, hQ2, l2, y2, z2⟩, st2⟩ := X1.virtualBackUp hx (x := (⟨"com/example/mortise/mortise/store/RejectedChangeException$Reason", "ordinal", "()I"⟩ : MethodName)) (y := (⟨"java/lang/Enum", "ordinal", "()I"⟩ : MethodName)) hown (mvT hZ (hw _ (List.mem_of_getElem? (i := 11) rfl))) (mvT hZ (hw _ (List.mem_of_getElem? (i := 12) rfl))) (mvT hZ (hw _ (List.mem_of_getElem? (i := 13) rfl))) (by decide) (mvT hZ (hw _ (List.mem_of_getElem? (i := 15) rfl))) (mvT hZ (hw _ (List.mem_of_getElem? (i := 14) rfl))) (backOf (W := 1) (own_rord l Z a0 hw [] a1 (1 : Int32) h0 n0 Z0 (F1.ext O.2)) hZ (hw _ (List.mem_of_getElem? (i := 17) rfl)) (hw _ (List.mem_of_getElem? (i := 16) rfl)) (by decide) (by decide)) qa2 qc2 (g := (mkF m 4 #[rv a1] [(.ref a1), (.ref o__SwitchMap_com_example_mortise_mortise_store_RejectedChangeException_Reason)])) rfl (by rw [hml]; rfl) (Steps.refl _) (argsL := []) (rest := [(.ref o__SwitchMap_com_example_mortise_mortise_store_RejectedChangeException_Reason)]) (lenOf own_pd___I rfl) rfl (by show 2 * 0 + _ ≤ _; exact Nat.le_of_eq rfl) (hb hby own_d1_4) (fun _ _ => ⟨rfl, e1, (by decide : 0 + 0 ≤ _), (by decide : 0 + 0 ≤ _)⟩)
  dsimp only [Pt.U, Pt.locs, Pt.cells, Pt.slots] at X2 l2 y2 z2 st2 hQ2
  subst l2 y2 z2
  obtain ⟨rfl, Nq2, e2⟩ := hQ2
  have N2 := Fr.app N0 Nq2
  refine own_go (fun zt zk => st2.trans zk) ?_
  show own_Go p e below s _ _ _ (T2.setTop (mkF m 7 #[rv a1] [(.int (1 : Int32)), (.ref o__SwitchMap_com_example_mortise_mortise_store_RejectedChangeException_Reason)]))
  obtain ⟨cl3, Ar3, q3, Sz3, Nz3, Ha3, Ga3⟩ := id (V_o__SwitchMap_com_example_mortise_mortise_store_RejectedChangeException_Reason.ext O.2)
  have hin3 : ¬ ((1 : Int32) < 0 ∨ cl3.slots.size ≤ ((1 : Int32)).toNatClampNeg) := inb_of Sz3 ⟨by decide, by decide⟩
  have hat3 : cl3.slots[((1 : Int32)).toNatClampNeg]? = some (.int (3 : Int32)) := Has.at Ha3 hin3 rfl
  refine own_go (X2.iaload hx (j := (1 : Int32)) (v := (.int (3 : Int32))) (by rw [e2]; exact Ar3.1) (State.isArrayOf_alike hZ.alike Ar3.2.1) Ar3.2.2 hin3 hat3 (g := (mkF m 7 #[rv a1] [(.int (1 : Int32)), (.ref o__SwitchMap_com_example_mortise_mortise_store_RejectedChangeException_Reason)])) rfl rfl (hb hby own_d1_7)) ?_
  show own_Go p e below s _ _ _ (T2.setTop (mkF m 8 #[rv a1] [(.int (3 : Int32))]))
  refine own_go (fun zt zk => (XS.tswIn X2.here hx rfl (pc0 := 8) (pc' := 68) rfl (hb hby own_d1_8) rfl (by decide) (o := 60) rfl (by decide) (by decide) (XS.sipush X2.here hx rfl (hb hby own_d1_68) (XS.goto X2.here hx rfl (pc0 := 71) (pc' := 83) rfl (hb hby own_d1_71) (by decide) (by decide) zk)))) ?_
  show own_Go p e below s _ _ _ (T2.setTop (mkF m 83 #[rv a1] [(.int (405 : Int32))]))
  exact own_fin X2 Bd.notSynchronized (fun h => by rw [Bd.returns] at h; cases h) (fun fs hr => retOut X2 hx (t := .int) (w := (.int (405 : Int32))) Bd.returns rfl (Or.inl ⟨rfl, Or.inl rfl, _, rfl⟩) (hb hby own_d1_83) hr) (by rw [e2]; exact ⟨rfl, N2, rfl⟩) (by decide) (by decide)
theorem own_ef_own_rst2 (m : MethodId) (a1 : Addr) : entryFrame m #[(.ref a1)] 1 = mkF m 0 #[rv a1] [] := by first | (simp [entryFrame, mkF, argsToLocals, Value.category]; done) | rfl
def own_Q_own_rst2 (Z : State) (a1 : Addr) (o__SwitchMap_com_example_mortise_mortise_store_RejectedChangeException_Reason : Addr) (k_o__SwitchMap_com_example_mortise_mortise_store_RejectedChangeException_Reason : ClassId) (h0 : Heap) (n0 : Nat) (v : Option Value) (h : Heap) (L : List Loc) : Prop := v = some (.int (405 : Int32)) ∧ Fr n0 L ∧ h = h0
set_option maxRecDepth 65536 in
set_option maxHeartbeats 40000000 in
theorem own_rst2 (l : Launch) (Z : State) (a0 : Array Value) (hw : ∀ d ∈ tables_1, d.before a0 Z = true) (ws : List Jvm.Cond) (a1 : Addr) (o__SwitchMap_com_example_mortise_mortise_store_RejectedChangeException_Reason : Addr) (k_o__SwitchMap_com_example_mortise_mortise_store_RejectedChangeException_Reason : ClassId) (h0 : Heap) (n0 : Nat) (Z0 : n0 ≤ h0.size) (O : Old Z n0 h0) (S_o__SwitchMap_com_example_mortise_mortise_store_RejectedChangeException_Reason : Sta Z Z.heap "com/example/mortise/mortise/webdav/Exchanges$1" "$SwitchMap$com$example$mortise$mortise$store$RejectedChangeException$Reason" "[I" (.ref o__SwitchMap_com_example_mortise_mortise_store_RejectedChangeException_Reason)) (V_o__SwitchMap_com_example_mortise_mortise_store_RejectedChangeException_Reason : Arv Z Z.heap o__SwitchMap_com_example_mortise_mortise_store_RejectedChangeException_Reason k_o__SwitchMap_com_example_mortise_mortise_store_RejectedChangeException_Reason .int (7 : Int32) [(.int (1 : Int32)), (.int (3 : Int32)), (.int (4 : Int32)), (.int (5 : Int32)), (.int (6 : Int32)), (.int (7 : Int32)), (.int (2 : Int32))] (.int (0 : Int32))) (Ex1 : Exa Z Z.heap a1 "com/example/mortise/mortise/store/RejectedChangeException$Reason") (F1 : Fld Z Z.heap a1 "java/lang/Enum" "ordinal" "I" (.int (2 : Int32)))  :
    MetFree l (⟨"com/example/mortise/mortise/webdav/Exchanges", "statusFor", "(Lcom/example/mortise/mortise/store/RejectedChangeException$Reason;)I"⟩ : MethodName) (head1 (Jvm.Cond.code (⟨"com/example/mortise/mortise/webdav/Exchanges", "statusFor", "(Lcom/example/mortise/mortise/store/RejectedChangeException$Reason;)I"⟩ : MethodName) prog_74_method_11_code 1 (some .int) :: ws) ({ frames := 1, cells := 0, slots := 0, locals := 13 } : Room)) (fun a U => a = #[(.ref a1)] ∧ Z.Warmed39 U.vm ∧ U.heap = h0) (fun _ _ _ _ _ => True) (fun _ U o U' => ∃ v L, o = .returned v ∧ own_Q_own_rst2 Z a1 o__SwitchMap_com_example_mortise_mortise_store_RejectedChangeException_Reason k_o__SwitchMap_com_example_mortise_mortise_store_RejectedChangeException_Reason h0 n0 v U'.heap L ∧ FrameEnd U o U' L ({ frames := 1, cells := 0, slots := 0, locals := 13 } : Room).cells ({ frames := 1, cells := 0, slots := 0, locals := 13 } : Room).slots) := by
  refine MetFree.of_bodySF (plainFor_of_name own_pn_com_example_mortise_mortise_webdav_Exchanges) hisR ?_
  intro p e s m args below meth c s₁ Bd hml0 hP hK
  obtain ⟨rfl, hZ, hh⟩ := hP
  have hx := Bd.exec
  have hby := Bd.bytes
  have hml : c.maxLocals = 1 := hml0
  have hown : s.vm.findClass "com/example/mortise/mortise/webdav/Exchanges" = some m.cls := findClass_of_methodNamed Bd.named
  have hnm := (name_of_methodNamed Bd.named Bd.method).1
  have X0 : Stand p l e ({ frames := 1, cells := 0, slots := 0, locals := 13 } : Room) s m #[(.ref a1)] below meth c s₁ [] 0 0 := Stand.of_body Bd
  have e0 : s₁.heap = h0 := by rw [← hh, Bd.state]; rfl
  have N0 := Fr.nil n0
  show own_Go p e below s (own_Q_own_rst2 Z a1 o__SwitchMap_com_example_mortise_mortise_store_RejectedChangeException_Reason k_o__SwitchMap_com_example_mortise_mortise_store_RejectedChangeException_Reason h0 n0) ({ frames := 1, cells := 0, slots := 0, locals := 13 } : Room).cells ({ frames := 1, cells := 0, slots := 0, locals := 13 } : Room).slots (s₁.setTop (entryFrame m #[(.ref a1)] 1))
  refine own_go (fun zt zk => castTop (own_ef_own_rst2 m a1) zk) ?_
  show own_Go p e below s _ _ _ (s₁.setTop (mkF m 0 #[rv a1] []))
  obtain ⟨T1, X1, e1, st1⟩ := getS2 X0 hx hZ hown (host := "") (Or.inl (hw _ (List.mem_of_getElem? (i := 8) rfl))) Via.refl e0 (S_o__SwitchMap_com_example_mortise_mortise_store_RejectedChangeException_Reason.ext O.2) (g := (mkF m 0 #[rv a1] [])) rfl (hb hby own_d1_0)
  refine own_go st1 ?_
  show own_Go p e below s _ _ _ (T1.setTop (mkF m 3 #[rv a1] [(.ref o__SwitchMap_com_example_mortise_mortise_store_RejectedChangeException_Reason)]))
  refine own_go (fun zt zk => (XS.aloadN X1.here hx rfl (hb hby own_d1_3) rfl rfl zk)) ?_
  show own_Go p e below s _ _ _ (T1.setTop (mkF m 4 #[rv a1] [(.ref a1), (.ref o__SwitchMap_com_example_mortise_mortise_store_RejectedChangeException_Reason)]))
  obtain ⟨cq2, kq2, qa2, qb2, qc2⟩ := isOf hZ e1 (Ex1.ext O.2)
  obtain ⟨_, _, ⟨T2, L2, k2, n2⟩, -, X2, ⟨Lc2, hQ2, l2, y2, z2⟩, st2⟩ := X1.virtualBackUp hx (x := (⟨"com/example/mortise/mortise/store/RejectedChangeException$Reason", "ordinal", "()I"⟩ : MethodName)) (y := (⟨"java/lang/Enum", "ordinal", "()I"⟩ : MethodName)) hown (mvT hZ (hw _ (List.mem_of_getElem? (i := 11) rfl))) (mvT hZ (hw _ (List.mem_of_getElem? (i := 12) rfl))) (mvT hZ (hw _ (List.mem_of_getElem? (i := 13) rfl))) (by decide) (mvT hZ (hw _ (List.mem_of_getElem? (i := 15) rfl))) (mvT hZ (hw _ (List.mem_of_getElem? (i := 14) rfl))) (backOf (W := 1) (own_rord l Z a0 hw [] a1 (2 : Int32) h0 n0 Z0 (F1.ext O.2)) hZ (hw _ (List.mem_of_getElem? (i := 17) rfl)) (hw _ (List.mem_of_getElem? (i := 16) rfl)) (by decide) (by decide)) qa2 qc2 (g := (mkF m 4 #[rv a1] [(.ref a1), (.ref o__SwitchMap_com_example_mortise_mortise_store_RejectedChangeException_Reason)])) rfl (by rw [hml]; rfl) (Steps.refl _) (argsL := []) (rest := [(.ref o__SwitchMap_com_example_mortise_mortise_store_RejectedChangeException_Reason)]) (lenOf own_pd___I rfl) rfl (by show 2 * 0 + _ ≤ _; exact Nat.le_of_eq rfl) (hb hby own_d1_4) (fun _ _ => ⟨rfl, e1, (by decide : 0 + 0 ≤ _), (by decide : 0 + 0 ≤ _)⟩)
  dsimp only [Pt.U, Pt.locs, Pt.cells, Pt.slots] at X2 l2 y2 z2 st2 hQ2
  subst l2 y2 z2
  obtain ⟨rfl, Nq2, e2⟩ := hQ2
  have N2 := Fr.app N0 Nq2
  refine own_go (fun zt zk => st2.trans zk) ?_
  show own_Go p e below s _ _ _ (T2.setTop (mkF m 7 #[rv a1] [(.int (2 : Int32)), (.ref o__SwitchMap_com_example_mortise_mortise_store_RejectedChangeException_Reason)]))
  obtain ⟨cl3, Ar3, q3, Sz3, Nz3, Ha3, Ga3⟩ := id (V_o__SwitchMap_com_example_mortise_mortise_store_RejectedChangeException_Reason.ext O.2)
  have hin3 : ¬ ((2 : Int32) < 0 ∨ cl3.slots.size ≤ ((2 : Int32)).toNatClampNeg) := inb_of Sz3 ⟨by decide, by decide⟩
  have hat3 : cl3.slots[((2 : Int32)).toNatClampNeg]? = some (.int (4 : Int32)) := Has.at Ha3 hin3 rfl
  refine own_go (X2.iaload hx (j := (2 : Int32)) (v := (.int (4 : Int32))) (by rw [e2]; exact Ar3.1) (State.isArrayOf_alike hZ.alike Ar3.2.1) Ar3.2.2 hin3 hat3 (g := (mkF m 7 #[rv a1] [(.int (2 : Int32)), (.ref o__SwitchMap_com_example_mortise_mortise_store_RejectedChangeException_Reason)])) rfl rfl (hb hby own_d1_7)) ?_
  show own_Go p e below s _ _ _ (T2.setTop (mkF m 8 #[rv a1] [(.int (4 : Int32))]))
  refine own_go (fun zt zk => (XS.tswIn X2.here hx rfl (pc0 := 8) (pc' := 68) rfl (hb hby own_d1_8) rfl (by decide) (o := 60) rfl (by decide) (by decide) (XS.sipush X2.here hx rfl (hb hby own_d1_68) (XS.goto X2.here hx rfl (pc0 := 71) (pc' := 83) rfl (hb hby own_d1_71) (by decide) (by decide) zk)))) ?_
  show own_Go p e below s _ _ _ (T2.setTop (mkF m 83 #[rv a1] [(.int (405 : Int32))]))
  exact own_fin X2 Bd.notSynchronized (fun h => by rw [Bd.returns] at h; cases h) (fun fs hr => retOut X2 hx (t := .int) (w := (.int (405 : Int32))) Bd.returns rfl (Or.inl ⟨rfl, Or.inl rfl, _, rfl⟩) (hb hby own_d1_83) hr) (by rw [e2]; exact ⟨rfl, N2, rfl⟩) (by decide) (by decide)
theorem own_d1_74 : decode prog_74_method_11_code 74 = .ok (.sipush 404, 3) := by decide +kernel
theorem own_d1_77 : decode prog_74_method_11_code 77 = .ok (.goto 6, 3) := by decide +kernel
theorem own_ef_own_rst3 (m : MethodId) (a1 : Addr) : entryFrame m #[(.ref a1)] 1 = mkF m 0 #[rv a1] [] := by first | (simp [entryFrame, mkF, argsToLocals, Value.category]; done) | rfl
def own_Q_own_rst3 (Z : State) (a1 : Addr) (o__SwitchMap_com_example_mortise_mortise_store_RejectedChangeException_Reason : Addr) (k_o__SwitchMap_com_example_mortise_mortise_store_RejectedChangeException_Reason : ClassId) (h0 : Heap) (n0 : Nat) (v : Option Value) (h : Heap) (L : List Loc) : Prop := v = some (.int (404 : Int32)) ∧ Fr n0 L ∧ h = h0
set_option maxRecDepth 65536 in
set_option maxHeartbeats 40000000 in
theorem own_rst3 (l : Launch) (Z : State) (a0 : Array Value) (hw : ∀ d ∈ tables_1, d.before a0 Z = true) (ws : List Jvm.Cond) (a1 : Addr) (o__SwitchMap_com_example_mortise_mortise_store_RejectedChangeException_Reason : Addr) (k_o__SwitchMap_com_example_mortise_mortise_store_RejectedChangeException_Reason : ClassId) (h0 : Heap) (n0 : Nat) (Z0 : n0 ≤ h0.size) (O : Old Z n0 h0) (S_o__SwitchMap_com_example_mortise_mortise_store_RejectedChangeException_Reason : Sta Z Z.heap "com/example/mortise/mortise/webdav/Exchanges$1" "$SwitchMap$com$example$mortise$mortise$store$RejectedChangeException$Reason" "[I" (.ref o__SwitchMap_com_example_mortise_mortise_store_RejectedChangeException_Reason)) (V_o__SwitchMap_com_example_mortise_mortise_store_RejectedChangeException_Reason : Arv Z Z.heap o__SwitchMap_com_example_mortise_mortise_store_RejectedChangeException_Reason k_o__SwitchMap_com_example_mortise_mortise_store_RejectedChangeException_Reason .int (7 : Int32) [(.int (1 : Int32)), (.int (3 : Int32)), (.int (4 : Int32)), (.int (5 : Int32)), (.int (6 : Int32)), (.int (7 : Int32)), (.int (2 : Int32))] (.int (0 : Int32))) (Ex1 : Exa Z Z.heap a1 "com/example/mortise/mortise/store/RejectedChangeException$Reason") (F1 : Fld Z Z.heap a1 "java/lang/Enum" "ordinal" "I" (.int (3 : Int32)))  :
    MetFree l (⟨"com/example/mortise/mortise/webdav/Exchanges", "statusFor", "(Lcom/example/mortise/mortise/store/RejectedChangeException$Reason;)I"⟩ : MethodName) (head1 (Jvm.Cond.code (⟨"com/example/mortise/mortise/webdav/Exchanges", "statusFor", "(Lcom/example/mortise/mortise/store/RejectedChangeException$Reason;)I"⟩ : MethodName) prog_74_method_11_code 1 (some .int) :: ws) ({ frames := 1, cells := 0, slots := 0, locals := 13 } : Room)) (fun a U => a = #[(.ref a1)] ∧ Z.Warmed39 U.vm ∧ U.heap = h0) (fun _ _ _ _ _ => True) (fun _ U o U' => ∃ v L, o = .returned v ∧ own_Q_own_rst3 Z a1 o__SwitchMap_com_example_mortise_mortise_store_RejectedChangeException_Reason k_o__SwitchMap_com_example_mortise_mortise_store_RejectedChangeException_Reason h0 n0 v U'.heap L ∧ FrameEnd U o U' L ({ frames := 1, cells := 0, slots := 0, locals := 13 } : Room).cells ({ frames := 1, cells := 0, slots := 0, locals := 13 } : Room).slots) := by
  refine MetFree.of_bodySF (plainFor_of_name own_pn_com_example_mortise_mortise_webdav_Exchanges) hisR ?_
  intro p e s m args below meth c s₁ Bd hml0 hP hK
  obtain ⟨rfl, hZ, hh⟩ := hP
  have hx := Bd.exec
  have hby := Bd.bytes
  have hml : c.maxLocals = 1 := hml0
  have hown : s.vm.findClass "com/example/mortise/mortise/webdav/Exchanges" = some m.cls := findClass_of_methodNamed Bd.named
  have hnm := (name_of_methodNamed Bd.named Bd.method).1
  have X0 : Stand p l e ({ frames := 1, cells := 0, slots := 0, locals := 13 } : Room) s m #[(.ref a1)] below meth c s₁ [] 0 0 := Stand.of_body Bd
  have e0 : s₁.heap = h0 := by rw [← hh, Bd.state]; rfl
  have N0 := Fr.nil n0
  show own_Go p e below s (own_Q_own_rst3 Z a1 o__SwitchMap_com_example_mortise_mortise_store_RejectedChangeException_Reason k_o__SwitchMap_com_example_mortise_mortise_store_RejectedChangeException_Reason h0 n0) ({ frames := 1, cells := 0, slots := 0, locals := 13 } : Room).cells ({ frames := 1, cells := 0, slots := 0, locals := 13 } : Room).slots (s₁.setTop (entryFrame m #[(.ref a1)] 1))
  refine own_go (fun zt zk => castTop (own_ef_own_rst3 m a1) zk) ?_
  show own_Go p e below s _ _ _ (s₁.setTop (mkF m 0 #[rv a1] []))
  obtain ⟨T1, X1, e1, st1⟩ := getS2 X0 hx hZ hown (host := "") (Or.inl (hw _ (List.mem_of_getElem? (i := 8) rfl))) Via.refl e0 (S_o__SwitchMap_com_example_mortise_mortise_store_RejectedChangeException_Reason.ext O.2) (g := (mkF m 0 #[rv a1] [])) rfl (hb hby own_d1_0)
  refine own_go st1 ?_
  show own_Go p e below s _ _ _ (T1.setTop (mkF m 3 #[rv a1] [(.ref o__SwitchMap_com_example_mortise_mortise_store_RejectedChangeException_Reason)]))
  refine own_go (fun zt zk => (XS.aloadN X1.here hx rfl (hb hby own_d1_3) rfl rfl zk)) ?_
  show own_Go p e below s _ _ _ (T1.setTop (mkF m 4 #[rv a1] [(.ref a1), (.ref o__SwitchMap_com_example_mortise_mortise_store_RejectedChangeException_Reason)]))
  obtain ⟨cq2, kq2, qa2, qb2, qc2⟩ := isOf hZ e1 (Ex1.ext O.2)
  obtain ⟨_, _, ⟨T2, L2, k2, n2⟩, -, X2, ⟨Lc2, hQ2, l2, y2, z2⟩, st2⟩ := X1.virtualBackUp hx (x := (⟨"com/example/mortise/mortise/store/RejectedChangeException$Reason", "ordinal", "()I"⟩ : MethodName)) (y := (⟨"java/lang/Enum", "ordinal", "()I"⟩ : MethodName)) hown (mvT hZ (hw _ (List.mem_of_getElem? (i := 11) rfl))) (mvT hZ (hw _ (List.mem_of_getElem? (i := 12) rfl))) (mvT hZ (hw _ (List.mem_of_getElem? (i := 13) rfl))) (by decide) (mvT hZ (hw _ (List.mem_of_getElem? (i := 15) rfl))) (mvT hZ (hw _ (List.mem_of_getElem? (i := 14) rfl))) (backOf (W := 1) (own_rord l Z a0 hw [] a1 (3 : Int32) h0 n0 Z0 (F1.ext O.2)) hZ (hw _ (List.mem_of_getElem? (i := 17) rfl)) (hw _ (List.mem_of_getElem? (i := 16) rfl)) (by decide) (by decide)) qa2 qc2 (g := (mkF m 4 #[rv a1] [(.ref a1), (.ref o__SwitchMap_com_example_mortise_mortise_store_RejectedChangeException_Reason)])) rfl (by rw [hml]; rfl) (Steps.refl _) (argsL := []) (rest := [(.ref o__SwitchMap_com_example_mortise_mortise_store_RejectedChangeException_Reason)]) (lenOf own_pd___I rfl) rfl (by show 2 * 0 + _ ≤ _; exact Nat.le_of_eq rfl) (hb hby own_d1_4) (fun _ _ => ⟨rfl, e1, (by decide : 0 + 0 ≤ _), (by decide : 0 + 0 ≤ _)⟩)
  dsimp only [Pt.U, Pt.locs, Pt.cells, Pt.slots] at X2 l2 y2 z2 st2 hQ2
  subst l2 y2 z2
  obtain ⟨rfl, Nq2, e2⟩ := hQ2
  have N2 := Fr.app N0 Nq2
  refine own_go (fun zt zk => st2.trans zk) ?_
  show own_Go p e below s _ _ _ (T2.setTop (mkF m 7 #[rv a1] [(.int (3 : Int32)), (.ref o__SwitchMap_com_example_mortise_mortise_store_RejectedChangeException_Reason)]))
  obtain ⟨cl3, Ar3, q3, Sz3, Nz3, Ha3, Ga3⟩ := id (V_o__SwitchMap_com_example_mortise_mortise_store_RejectedChangeException_Reason.ext O.2)
  have hin3 : ¬ ((3 : Int32) < 0 ∨ cl3.slots.size ≤ ((3 : Int32)).toNatClampNeg) := inb_of Sz3 ⟨by decide, by decide⟩
  have hat3 : cl3.slots[((3 : Int32)).toNatClampNeg]? = some (.int (5 : Int32)) := Has.at Ha3 hin3 rfl
  refine own_go (X2.iaload hx (j := (3 : Int32)) (v := (.int (5 : Int32))) (by rw [e2]; exact Ar3.1) (State.isArrayOf_alike hZ.alike Ar3.2.1) Ar3.2.2 hin3 hat3 (g := (mkF m 7 #[rv a1] [(.int (3 : Int32)), (.ref o__SwitchMap_com_example_mortise_mortise_store_RejectedChangeException_Reason)])) rfl rfl (hb hby own_d1_7)) ?_
  show own_Go p e below s _ _ _ (T2.setTop (mkF m 8 #[rv a1] [(.int (5 : Int32))]))
  refine own_go (fun zt zk => (XS.tswIn X2.here hx rfl (pc0 := 8) (pc' := 74) rfl (hb hby own_d1_8) rfl (by decide) (o := 66) rfl (by decide) (by decide) (XS.sipush X2.here hx rfl (hb hby own_d1_74) (XS.goto X2.here hx rfl (pc0 := 77) (pc' := 83) rfl (hb hby own_d1_77) (by decide) (by decide) zk)))) ?_
  show own_Go p e below s _ _ _ (T2.setTop (mkF m 83 #[rv a1] [(.int (404 : Int32))]))
  exact own_fin X2 Bd.notSynchronized (fun h => by rw [Bd.returns] at h; cases h) (fun fs hr => retOut X2 hx (t := .int) (w := (.int (404 : Int32))) Bd.returns rfl (Or.inl ⟨rfl, Or.inl rfl, _, rfl⟩) (hb hby own_d1_83) hr) (by rw [e2]; exact ⟨rfl, N2, rfl⟩) (by decide) (by decide)
theorem own_d1_80 : decode prog_74_method_11_code 80 = .ok (.sipush 403, 3) := by decide +kernel
theorem own_ef_own_rst4 (m : MethodId) (a1 : Addr) : entryFrame m #[(.ref a1)] 1 = mkF m 0 #[rv a1] [] := by first | (simp [entryFrame, mkF, argsToLocals, Value.category]; done) | rfl
def own_Q_own_rst4 (Z : State) (a1 : Addr) (o__SwitchMap_com_example_mortise_mortise_store_RejectedChangeException_Reason : Addr) (k_o__SwitchMap_com_example_mortise_mortise_store_RejectedChangeException_Reason : ClassId) (h0 : Heap) (n0 : Nat) (v : Option Value) (h : Heap) (L : List Loc) : Prop := v = some (.int (403 : Int32)) ∧ Fr n0 L ∧ h = h0
set_option maxRecDepth 65536 in
set_option maxHeartbeats 40000000 in
theorem own_rst4 (l : Launch) (Z : State) (a0 : Array Value) (hw : ∀ d ∈ tables_1, d.before a0 Z = true) (ws : List Jvm.Cond) (a1 : Addr) (o__SwitchMap_com_example_mortise_mortise_store_RejectedChangeException_Reason : Addr) (k_o__SwitchMap_com_example_mortise_mortise_store_RejectedChangeException_Reason : ClassId) (h0 : Heap) (n0 : Nat) (Z0 : n0 ≤ h0.size) (O : Old Z n0 h0) (S_o__SwitchMap_com_example_mortise_mortise_store_RejectedChangeException_Reason : Sta Z Z.heap "com/example/mortise/mortise/webdav/Exchanges$1" "$SwitchMap$com$example$mortise$mortise$store$RejectedChangeException$Reason" "[I" (.ref o__SwitchMap_com_example_mortise_mortise_store_RejectedChangeException_Reason)) (V_o__SwitchMap_com_example_mortise_mortise_store_RejectedChangeException_Reason : Arv Z Z.heap o__SwitchMap_com_example_mortise_mortise_store_RejectedChangeException_Reason k_o__SwitchMap_com_example_mortise_mortise_store_RejectedChangeException_Reason .int (7 : Int32) [(.int (1 : Int32)), (.int (3 : Int32)), (.int (4 : Int32)), (.int (5 : Int32)), (.int (6 : Int32)), (.int (7 : Int32)), (.int (2 : Int32))] (.int (0 : Int32))) (Ex1 : Exa Z Z.heap a1 "com/example/mortise/mortise/store/RejectedChangeException$Reason") (F1 : Fld Z Z.heap a1 "java/lang/Enum" "ordinal" "I" (.int (4 : Int32)))  :
    MetFree l (⟨"com/example/mortise/mortise/webdav/Exchanges", "statusFor", "(Lcom/example/mortise/mortise/store/RejectedChangeException$Reason;)I"⟩ : MethodName) (head1 (Jvm.Cond.code (⟨"com/example/mortise/mortise/webdav/Exchanges", "statusFor", "(Lcom/example/mortise/mortise/store/RejectedChangeException$Reason;)I"⟩ : MethodName) prog_74_method_11_code 1 (some .int) :: ws) ({ frames := 1, cells := 0, slots := 0, locals := 13 } : Room)) (fun a U => a = #[(.ref a1)] ∧ Z.Warmed39 U.vm ∧ U.heap = h0) (fun _ _ _ _ _ => True) (fun _ U o U' => ∃ v L, o = .returned v ∧ own_Q_own_rst4 Z a1 o__SwitchMap_com_example_mortise_mortise_store_RejectedChangeException_Reason k_o__SwitchMap_com_example_mortise_mortise_store_RejectedChangeException_Reason h0 n0 v U'.heap L ∧ FrameEnd U o U' L ({ frames := 1, cells := 0, slots := 0, locals := 13 } : Room).cells ({ frames := 1, cells := 0, slots := 0, locals := 13 } : Room).slots) := by
  refine MetFree.of_bodySF (plainFor_of_name own_pn_com_example_mortise_mortise_webdav_Exchanges) hisR ?_
  intro p e s m args below meth c s₁ Bd hml0 hP hK
  obtain ⟨rfl, hZ, hh⟩ := hP
  have hx := Bd.exec
  have hby := Bd.bytes
  have hml : c.maxLocals = 1 := hml0
  have hown : s.vm.findClass "com/example/mortise/mortise/webdav/Exchanges" = some m.cls := findClass_of_methodNamed Bd.named
  have hnm := (name_of_methodNamed Bd.named Bd.method).1
  have X0 : Stand p l e ({ frames := 1, cells := 0, slots := 0, locals := 13 } : Room) s m #[(.ref a1)] below meth c s₁ [] 0 0 := Stand.of_body Bd
  have e0 : s₁.heap = h0 := by rw [← hh, Bd.state]; rfl
  have N0 := Fr.nil n0
  show own_Go p e below s (own_Q_own_rst4 Z a1 o__SwitchMap_com_example_mortise_mortise_store_RejectedChangeException_Reason k_o__SwitchMap_com_example_mortise_mortise_store_RejectedChangeException_Reason h0 n0) ({ frames := 1, cells := 0, slots := 0, locals := 13 } : Room).cells ({ frames := 1, cells := 0, slots := 0, locals := 13 } : Room).slots (s₁.setTop (entryFrame m #[(.ref a1)] 1))
  refine own_go (fun zt zk => castTop (own_ef_own_rst4 m a1) zk) ?_
  show own_Go p e below s _ _ _ (s₁.setTop (mkF m 0 #[rv a1] []))
  obtain ⟨T1, X1, e1, st1⟩ := getS2 X0 hx hZ hown (host := "") (Or.inl (hw _ (List.mem_of_getElem? (i := 8) rfl))) Via.refl e0 (S_o__SwitchMap_com_example_mortise_mortise_store_RejectedChangeException_Reason.ext O.2) (g := (mkF m 0 #[rv a1] [])) rfl (hb hby own_d1_0)
  refine own_go st1 ?_
  show own_Go p e below s _ _ _ (T1.setTop (mkF m 3 #[rv a1] [(.ref o__SwitchMap_com_example_mortise_mortise_store_RejectedChangeException_Reason)]))
  refine own_go (fun zt zk => (XS.aloadN X1.here hx rfl (hb hby own_d1_3) rfl rfl zk)) ?_
  show own_Go p e below s _ _ _ (T1.setTop (mkF m 4 #[rv a1] [(.ref a1), (.ref o__SwitchMap_com_example_mortise_mortise_store_RejectedChangeException_Reason)]))
  obtain ⟨cq2, kq2, qa2, qb2, qc2⟩ := isOf hZ e1 (Ex1.ext O.2)
  obtain ⟨_, _, ⟨T2, L2, k2, n2⟩, -, X2, ⟨Lc2, hQ2, l2, y2, z2⟩, st2⟩ := X1.virtualBackUp hx (x := (⟨"com/example/mortise/mortise/store/RejectedChangeException$Reason", "ordinal", "()I"⟩ : MethodName)) (y := (⟨"java/lang/Enum", "ordinal", "()I"⟩ : MethodName)) hown (mvT hZ (hw _ (List.mem_of_getElem? (i := 11) rfl))) (mvT hZ (hw _ (List.mem_of_getElem? (i := 12) rfl))) (mvT hZ (hw _ (List.mem_of_getElem? (i := 13) rfl))) (by decide) (mvT hZ (hw _ (List.mem_of_getElem? (i := 15) rfl))) (mvT hZ (hw _ (List.mem_of_getElem? (i := 14) rfl))) (backOf (W := 1) (own_rord l Z a0 hw [] a1 (4 : Int32) h0 n0 Z0 (F1.ext O.2)) hZ (hw _ (List.mem_of_getElem? (i := 17) rfl)) (hw _ (List.mem_of_getElem? (i := 16) rfl)) (by decide) (by decide)) qa2 qc2 (g := (mkF m 4 #[rv a1] [(.ref a1), (.ref o__SwitchMap_com_example_mortise_mortise_store_RejectedChangeException_Reason)])) rfl (by rw [hml]; rfl) (Steps.refl _) (argsL := []) (rest := [(.ref o__SwitchMap_com_example_mortise_mortise_store_RejectedChangeException_Reason)]) (lenOf own_pd___I rfl) rfl (by show 2 * 0 + _ ≤ _; exact Nat.le_of_eq rfl) (hb hby own_d1_4) (fun _ _ => ⟨rfl, e1, (by decide : 0 + 0 ≤ _), (by decide : 0 + 0 ≤ _)⟩)
  dsimp only [Pt.U, Pt.locs, Pt.cells, Pt.slots] at X2 l2 y2 z2 st2 hQ2
  subst l2 y2 z2
  obtain ⟨rfl, Nq2, e2⟩ := hQ2
  have N2 := Fr.app N0 Nq2
  refine own_go (fun zt zk => st2.trans zk) ?_
  show own_Go p e below s _ _ _ (T2.setTop (mkF m 7 #[rv a1] [(.int (4 : Int32)), (.ref o__SwitchMap_com_example_mortise_mortise_store_RejectedChangeException_Reason)]))
  obtain ⟨cl3, Ar3, q3, Sz3, Nz3, Ha3, Ga3⟩ := id (V_o__SwitchMap_com_example_mortise_mortise_store_RejectedChangeException_Reason.ext O.2)
  have hin3 : ¬ ((4 : Int32) < 0 ∨ cl3.slots.size ≤ ((4 : Int32)).toNatClampNeg) := inb_of Sz3 ⟨by decide, by decide⟩
  have hat3 : cl3.slots[((4 : Int32)).toNatClampNeg]? = some (.int (6 : Int32)) := Has.at Ha3 hin3 rfl
  refine own_go (X2.iaload hx (j := (4 : Int32)) (v := (.int (6 : Int32))) (by rw [e2]; exact Ar3.1) (State.isArrayOf_alike hZ.alike Ar3.2.1) Ar3.2.2 hin3 hat3 (g := (mkF m 7 #[rv a1] [(.int (4 : Int32)), (.ref o__SwitchMap_com_example_mortise_mortise_store_RejectedChangeException_Reason)])) rfl rfl (hb hby own_d1_7)) ?_
  show own_Go p e below s _ _ _ (T2.setTop (mkF m 8 #[rv a1] [(.int (6 : Int32))]))
  refine own_go (fun zt zk => (XS.tswIn X2.here hx rfl (pc0 := 8) (pc' := 80) rfl (hb hby own_d1_8) rfl (by decide) (o := 72) rfl (by decide) (by decide) (XS.sipush X2.here hx rfl (hb hby own_d1_80) zk))) ?_
  show own_Go p e below s _ _ _ (T2.setTop (mkF m 83 #[rv a1] [(.int (403 : Int32))]))
  exact own_fin X2 Bd.notSynchronized (fun h => by rw [Bd.returns] at h; cases h) (fun fs hr => retOut X2 hx (t := .int) (w := (.int (403 : Int32))) Bd.returns rfl (Or.inl ⟨rfl, Or.inl rfl, _, rfl⟩) (hb hby own_d1_83) hr) (by rw [e2]; exact ⟨rfl, N2, rfl⟩) (by decide) (by decide)
theorem own_ef_own_rst5 (m : MethodId) (a1 : Addr) : entryFrame m #[(.ref a1)] 1 = mkF m 0 #[rv a1] [] := by first | (simp [entryFrame, mkF, argsToLocals, Value.category]; done) | rfl
def own_Q_own_rst5 (Z : State) (a1 : Addr) (o__SwitchMap_com_example_mortise_mortise_store_RejectedChangeException_Reason : Addr) (k_o__SwitchMap_com_example_mortise_mortise_store_RejectedChangeException_Reason : ClassId) (h0 : Heap) (n0 : Nat) (v : Option Value) (h : Heap) (L : List Loc) : Prop := v = some (.int (403 : Int32)) ∧ Fr n0 L ∧ h = h0
set_option maxRecDepth 65536 in
set_option maxHeartbeats 40000000 in
theorem own_rst5 (l : Launch) (Z : State) (a0 : Array Value) (hw : ∀ d ∈ tables_1, d.before a0 Z = true) (ws : List Jvm.Cond) (a1 : Addr) (o__SwitchMap_com_example_mortise_mortise_store_RejectedChangeException_Reason : Addr) (k_o__SwitchMap_com_example_mortise_mortise_store_RejectedChangeException_Reason : ClassId) (h0 : Heap) (n0 : Nat) (Z0 : n0 ≤ h0.size) (O : Old Z n0 h0) (S_o__SwitchMap_com_example_mortise_mortise_store_RejectedChangeException_Reason : Sta Z Z.heap "com/example/mortise/mortise/webdav/Exchanges$1" "$SwitchMap$com$example$mortise$mortise$store$RejectedChangeException$Reason" "[I" (.ref o__SwitchMap_com_example_mortise_mortise_store_RejectedChangeException_Reason)) (V_o__SwitchMap_com_example_mortise_mortise_store_RejectedChangeException_Reason : Arv Z Z.heap o__SwitchMap_com_example_mortise_mortise_store_RejectedChangeException_Reason k_o__SwitchMap_com_example_mortise_mortise_store_RejectedChangeException_Reason .int (7 : Int32) [(.int (1 : Int32)), (.int (3 : Int32)), (.int (4 : Int32)), (.int (5 : Int32)), (.int (6 : Int32)), (.int (7 : Int32)), (.int (2 : Int32))] (.int (0 : Int32))) (Ex1 : Exa Z Z.heap a1 "com/example/mortise/mortise/store/RejectedChangeException$Reason") (F1 : Fld Z Z.heap a1 "java/lang/Enum" "ordinal" "I" (.int (5 : Int32)))  :
    MetFree l (⟨"com/example/mortise/mortise/webdav/Exchanges", "statusFor", "(Lcom/example/mortise/mortise/store/RejectedChangeException$Reason;)I"⟩ : MethodName) (head1 (Jvm.Cond.code (⟨"com/example/mortise/mortise/webdav/Exchanges", "statusFor", "(Lcom/example/mortise/mortise/store/RejectedChangeException$Reason;)I"⟩ : MethodName) prog_74_method_11_code 1 (some .int) :: ws) ({ frames := 1, cells := 0, slots := 0, locals := 13 } : Room)) (fun a U => a = #[(.ref a1)] ∧ Z.Warmed39 U.vm ∧ U.heap = h0) (fun _ _ _ _ _ => True) (fun _ U o U' => ∃ v L, o = .returned v ∧ own_Q_own_rst5 Z a1 o__SwitchMap_com_example_mortise_mortise_store_RejectedChangeException_Reason k_o__SwitchMap_com_example_mortise_mortise_store_RejectedChangeException_Reason h0 n0 v U'.heap L ∧ FrameEnd U o U' L ({ frames := 1, cells := 0, slots := 0, locals := 13 } : Room).cells ({ frames := 1, cells := 0, slots := 0, locals := 13 } : Room).slots) := by
  refine MetFree.of_bodySF (plainFor_of_name own_pn_com_example_mortise_mortise_webdav_Exchanges) hisR ?_
  intro p e s m args below meth c s₁ Bd hml0 hP hK
  obtain ⟨rfl, hZ, hh⟩ := hP
  have hx := Bd.exec
  have hby := Bd.bytes
  have hml : c.maxLocals = 1 := hml0
  have hown : s.vm.findClass "com/example/mortise/mortise/webdav/Exchanges" = some m.cls := findClass_of_methodNamed Bd.named
  have hnm := (name_of_methodNamed Bd.named Bd.method).1
  have X0 : Stand p l e ({ frames := 1, cells := 0, slots := 0, locals := 13 } : Room) s m #[(.ref a1)] below meth c s₁ [] 0 0 := Stand.of_body Bd
  have e0 : s₁.heap = h0 := by rw [← hh, Bd.state]; rfl
  have N0 := Fr.nil n0
  show own_Go p e below s (own_Q_own_rst5 Z a1 o__SwitchMap_com_example_mortise_mortise_store_RejectedChangeException_Reason k_o__SwitchMap_com_example_mortise_mortise_store_RejectedChangeException_Reason h0 n0) ({ frames := 1, cells := 0, slots := 0, locals := 13 } : Room).cells ({ frames := 1, cells := 0, slots := 0, locals := 13 } : Room).slots (s₁.setTop (entryFrame m #[(.ref a1)] 1))
  refine own_go (fun zt zk => castTop (own_ef_own_rst5 m a1) zk) ?_
  show own_Go p e below s _ _ _ (s₁.setTop (mkF m 0 #[rv a1] []))
  obtain ⟨T1, X1, e1, st1⟩ := getS2 X0 hx hZ hown (host := "") (Or.inl (hw _ (List.mem_of_getElem? (i := 8) rfl))) Via.refl e0 (S_o__SwitchMap_com_example_mortise_mortise_store_RejectedChangeException_Reason.ext O.2) (g := (mkF m 0 #[rv a1] [])) rfl (hb hby own_d1_0)
  refine own_go st1 ?_
  show own_Go p e below s _ _ _ (T1.setTop (mkF m 3 #[rv a1] [(.ref o__SwitchMap_com_example_mortise_mortise_store_RejectedChangeException_Reason)]))
  refine own_go (fun zt zk => (XS.aloadN X1.here hx rfl (hb hby own_d1_3) rfl rfl zk)) ?_
  show own_Go p e below s _ _ _ (T1.setTop (mkF m 4 #[rv a1] [(.ref a1), (.ref o__SwitchMap_com_example_mortise_mortise_store_RejectedChangeException_Reason)]))
  obtain ⟨cq2, kq2, qa2, qb2, qc2⟩ := isOf hZ e1 (Ex1.ext O.2)
  obtain ⟨_, _, ⟨T2, L2, k2, n2⟩, -, X2, ⟨Lc2, hQ2, l2, y2, z2⟩, st2⟩ := X1.virtualBackUp hx (x := (⟨"com/example/mortise/mortise/store/RejectedChangeException$Reason", "ordinal", "()I"⟩ : MethodName)) (y := (⟨"java/lang/Enum", "ordinal", "()I"⟩ : MethodName)) hown (mvT hZ (hw _ (List.mem_of_getElem? (i := 11) rfl))) (mvT hZ (hw _ (List.mem_of_getElem? (i := 12) rfl))) (mvT hZ (hw _ (List.mem_of_getElem? (i := 13) rfl))) (by decide) (mvT hZ (hw _ (List.mem_of_getElem? (i := 15) rfl))) (mvT hZ (hw _ (List.mem_of_getElem? (i := 14) rfl))) (backOf (W := 1) (own_rord l Z a0 hw [] a1 (5 : Int32) h0 n0 Z0 (F1.ext O.2)) hZ (hw _ (List.mem_of_getElem? (i := 17) rfl)) (hw _ (List.mem_of_getElem? (i := 16) rfl)) (by decide) (by decide)) qa2 qc2 (g := (mkF m 4 #[rv a1] [(.ref a1), (.ref o__SwitchMap_com_example_mortise_mortise_store_RejectedChangeException_Reason)])) rfl (by rw [hml]; rfl) (Steps.refl _) (argsL := []) (rest := [(.ref o__SwitchMap_com_example_mortise_mortise_store_RejectedChangeException_Reason)]) (lenOf own_pd___I rfl) rfl (by show 2 * 0 + _ ≤ _; exact Nat.le_of_eq rfl) (hb hby own_d1_4) (fun _ _ => ⟨rfl, e1, (by decide : 0 + 0 ≤ _), (by decide : 0 + 0 ≤ _)⟩)
  dsimp only [Pt.U, Pt.locs, Pt.cells, Pt.slots] at X2 l2 y2 z2 st2 hQ2
  subst l2 y2 z2
  obtain ⟨rfl, Nq2, e2⟩ := hQ2
  have N2 := Fr.app N0 Nq2
  refine own_go (fun zt zk => st2.trans zk) ?_
  show own_Go p e below s _ _ _ (T2.setTop (mkF m 7 #[rv a1] [(.int (5 : Int32)), (.ref o__SwitchMap_com_example_mortise_mortise_store_RejectedChangeException_Reason)]))
  obtain ⟨cl3, Ar3, q3, Sz3, Nz3, Ha3, Ga3⟩ := id (V_o__SwitchMap_com_example_mortise_mortise_store_RejectedChangeException_Reason.ext O.2)
  have hin3 : ¬ ((5 : Int32) < 0 ∨ cl3.slots.size ≤ ((5 : Int32)).toNatClampNeg) := inb_of Sz3 ⟨by decide, by decide⟩
  have hat3 : cl3.slots[((5 : Int32)).toNatClampNeg]? = some (.int (7 : Int32)) := Has.at Ha3 hin3 rfl
  refine own_go (X2.iaload hx (j := (5 : Int32)) (v := (.int (7 : Int32))) (by rw [e2]; exact Ar3.1) (State.isArrayOf_alike hZ.alike Ar3.2.1) Ar3.2.2 hin3 hat3 (g := (mkF m 7 #[rv a1] [(.int (5 : Int32)), (.ref o__SwitchMap_com_example_mortise_mortise_store_RejectedChangeException_Reason)])) rfl rfl (hb hby own_d1_7)) ?_
  show own_Go p e below s _ _ _ (T2.setTop (mkF m 8 #[rv a1] [(.int (7 : Int32))]))
  refine own_go (fun zt zk => (XS.tswIn X2.here hx rfl (pc0 := 8) (pc' := 80) rfl (hb hby own_d1_8) rfl (by decide) (o := 72) rfl (by decide) (by decide) (XS.sipush X2.here hx rfl (hb hby own_d1_80) zk))) ?_
  show own_Go p e below s _ _ _ (T2.setTop (mkF m 83 #[rv a1] [(.int (403 : Int32))]))
  exact own_fin X2 Bd.notSynchronized (fun h => by rw [Bd.returns] at h; cases h) (fun fs hr => retOut X2 hx (t := .int) (w := (.int (403 : Int32))) Bd.returns rfl (Or.inl ⟨rfl, Or.inl rfl, _, rfl⟩) (hb hby own_d1_83) hr) (by rw [e2]; exact ⟨rfl, N2, rfl⟩) (by decide) (by decide)
theorem own_ef_own_rst6 (m : MethodId) (a1 : Addr) : entryFrame m #[(.ref a1)] 1 = mkF m 0 #[rv a1] [] := by first | (simp [entryFrame, mkF, argsToLocals, Value.category]; done) | rfl
def own_Q_own_rst6 (Z : State) (a1 : Addr) (o__SwitchMap_com_example_mortise_mortise_store_RejectedChangeException_Reason : Addr) (k_o__SwitchMap_com_example_mortise_mortise_store_RejectedChangeException_Reason : ClassId) (h0 : Heap) (n0 : Nat) (v : Option Value) (h : Heap) (L : List Loc) : Prop := v = some (.int (409 : Int32)) ∧ Fr n0 L ∧ h = h0
set_option maxRecDepth 65536 in
set_option maxHeartbeats 40000000 in
theorem own_rst6 (l : Launch) (Z : State) (a0 : Array Value) (hw : ∀ d ∈ tables_1, d.before a0 Z = true) (ws : List Jvm.Cond) (a1 : Addr) (o__SwitchMap_com_example_mortise_mortise_store_RejectedChangeException_Reason : Addr) (k_o__SwitchMap_com_example_mortise_mortise_store_RejectedChangeException_Reason : ClassId) (h0 : Heap) (n0 : Nat) (Z0 : n0 ≤ h0.size) (O : Old Z n0 h0) (S_o__SwitchMap_com_example_mortise_mortise_store_RejectedChangeException_Reason : Sta Z Z.heap "com/example/mortise/mortise/webdav/Exchanges$1" "$SwitchMap$com$example$mortise$mortise$store$RejectedChangeException$Reason" "[I" (.ref o__SwitchMap_com_example_mortise_mortise_store_RejectedChangeException_Reason)) (V_o__SwitchMap_com_example_mortise_mortise_store_RejectedChangeException_Reason : Arv Z Z.heap o__SwitchMap_com_example_mortise_mortise_store_RejectedChangeException_Reason k_o__SwitchMap_com_example_mortise_mortise_store_RejectedChangeException_Reason .int (7 : Int32) [(.int (1 : Int32)), (.int (3 : Int32)), (.int (4 : Int32)), (.int (5 : Int32)), (.int (6 : Int32)), (.int (7 : Int32)), (.int (2 : Int32))] (.int (0 : Int32))) (Ex1 : Exa Z Z.heap a1 "com/example/mortise/mortise/store/RejectedChangeException$Reason") (F1 : Fld Z Z.heap a1 "java/lang/Enum" "ordinal" "I" (.int (6 : Int32)))  :
    MetFree l (⟨"com/example/mortise/mortise/webdav/Exchanges", "statusFor", "(Lcom/example/mortise/mortise/store/RejectedChangeException$Reason;)I"⟩ : MethodName) (head1 (Jvm.Cond.code (⟨"com/example/mortise/mortise/webdav/Exchanges", "statusFor", "(Lcom/example/mortise/mortise/store/RejectedChangeException$Reason;)I"⟩ : MethodName) prog_74_method_11_code 1 (some .int) :: ws) ({ frames := 1, cells := 0, slots := 0, locals := 13 } : Room)) (fun a U => a = #[(.ref a1)] ∧ Z.Warmed39 U.vm ∧ U.heap = h0) (fun _ _ _ _ _ => True) (fun _ U o U' => ∃ v L, o = .returned v ∧ own_Q_own_rst6 Z a1 o__SwitchMap_com_example_mortise_mortise_store_RejectedChangeException_Reason k_o__SwitchMap_com_example_mortise_mortise_store_RejectedChangeException_Reason h0 n0 v U'.heap L ∧ FrameEnd U o U' L ({ frames := 1, cells := 0, slots := 0, locals := 13 } : Room).cells ({ frames := 1, cells := 0, slots := 0, locals := 13 } : Room).slots) := by
  refine MetFree.of_bodySF (plainFor_of_name own_pn_com_example_mortise_mortise_webdav_Exchanges) hisR ?_
  intro p e s m args below meth c s₁ Bd hml0 hP hK
  obtain ⟨rfl, hZ, hh⟩ := hP
  have hx := Bd.exec
  have hby := Bd.bytes
  have hml : c.maxLocals = 1 := hml0
  have hown : s.vm.findClass "com/example/mortise/mortise/webdav/Exchanges" = some m.cls := findClass_of_methodNamed Bd.named
  have hnm := (name_of_methodNamed Bd.named Bd.method).1
  have X0 : Stand p l e ({ frames := 1, cells := 0, slots := 0, locals := 13 } : Room) s m #[(.ref a1)] below meth c s₁ [] 0 0 := Stand.of_body Bd
  have e0 : s₁.heap = h0 := by rw [← hh, Bd.state]; rfl
  have N0 := Fr.nil n0
  show own_Go p e below s (own_Q_own_rst6 Z a1 o__SwitchMap_com_example_mortise_mortise_store_RejectedChangeException_Reason k_o__SwitchMap_com_example_mortise_mortise_store_RejectedChangeException_Reason h0 n0) ({ frames := 1, cells := 0, slots := 0, locals := 13 } : Room).cells ({ frames := 1, cells := 0, slots := 0, locals := 13 } : Room).slots (s₁.setTop (entryFrame m #[(.ref a1)] 1))
  refine own_go (fun zt zk => castTop (own_ef_own_rst6 m a1) zk) ?_
  show own_Go p e below s _ _ _ (s₁.setTop (mkF m 0 #[rv a1] []))
  obtain ⟨T1, X1, e1, st1⟩ := getS2 X0 hx hZ hown (host := "") (Or.inl (hw _ (List.mem_of_getElem? (i := 8) rfl))) Via.refl e0 (S_o__SwitchMap_com_example_mortise_mortise_store_RejectedChangeException_Reason.ext O.2) (g := (mkF m 0 #[rv a1] [])) rfl (hb hby own_d1_0)
  refine own_go st1 ?_
  show own_Go p e below s _ _ _ (T1.setTop (mkF m 3 #[rv a1] [(.ref o__SwitchMap_com_example_mortise_mortise_store_RejectedChangeException_Reason)]))
  refine own_go (fun zt zk => (XS.aloadN X1.here hx rfl (hb hby own_d1_3) rfl rfl zk)) ?_
  show own_Go p e below s _ _ _ (T1.setTop (mkF m 4 #[rv a1] [(.ref a1), (.ref o__SwitchMap_com_example_mortise_mortise_store_RejectedChangeException_Reason)]))
  obtain ⟨cq2, kq2, qa2, qb2, qc2⟩ := isOf hZ e1 (Ex1.ext O.2)
  obtain ⟨_, _, ⟨T2, L2, k2, n2⟩, -, X2, ⟨Lc2, hQ2, l2, y2, z2⟩, st2⟩ := X1.virtualBackUp hx (x := (⟨"com/example/mortise/mortise/store/RejectedChangeException$Reason", "ordinal", "()I"⟩ : MethodName)) (y := (⟨"java/lang/Enum", "ordinal", "()I"⟩ : MethodName)) hown (mvT hZ (hw _ (List.mem_of_getElem? (i := 11) rfl))) (mvT hZ (hw _ (List.mem_of_getElem? (i := 12) rfl))) (mvT hZ (hw _ (List.mem_of_getElem? (i := 13) rfl))) (by decide) (mvT hZ (hw _ (List.mem_of_getElem? (i := 15) rfl))) (mvT hZ (hw _ (List.mem_of_getElem? (i := 14) rfl))) (backOf (W := 1) (own_rord l Z a0 hw [] a1 (6 : Int32) h0 n0 Z0 (F1.ext O.2)) hZ (hw _ (List.mem_of_getElem? (i := 17) rfl)) (hw _ (List.mem_of_getElem? (i := 16) rfl)) (by decide) (by decide)) qa2 qc2 (g := (mkF m 4 #[rv a1] [(.ref a1), (.ref o__SwitchMap_com_example_mortise_mortise_store_RejectedChangeException_Reason)])) rfl (by rw [hml]; rfl) (Steps.refl _) (argsL := []) (rest := [(.ref o__SwitchMap_com_example_mortise_mortise_store_RejectedChangeException_Reason)]) (lenOf own_pd___I rfl) rfl (by show 2 * 0 + _ ≤ _; exact Nat.le_of_eq rfl) (hb hby own_d1_4) (fun _ _ => ⟨rfl, e1, (by decide : 0 + 0 ≤ _), (by decide : 0 + 0 ≤ _)⟩)
  dsimp only [Pt.U, Pt.locs, Pt.cells, Pt.slots] at X2 l2 y2 z2 st2 hQ2
  subst l2 y2 z2
  obtain ⟨rfl, Nq2, e2⟩ := hQ2
  have N2 := Fr.app N0 Nq2
  refine own_go (fun zt zk => st2.trans zk) ?_
  show own_Go p e below s _ _ _ (T2.setTop (mkF m 7 #[rv a1] [(.int (6 : Int32)), (.ref o__SwitchMap_com_example_mortise_mortise_store_RejectedChangeException_Reason)]))
  obtain ⟨cl3, Ar3, q3, Sz3, Nz3, Ha3, Ga3⟩ := id (V_o__SwitchMap_com_example_mortise_mortise_store_RejectedChangeException_Reason.ext O.2)
  have hin3 : ¬ ((6 : Int32) < 0 ∨ cl3.slots.size ≤ ((6 : Int32)).toNatClampNeg) := inb_of Sz3 ⟨by decide, by decide⟩
  have hat3 : cl3.slots[((6 : Int32)).toNatClampNeg]? = some (.int (2 : Int32)) := Has.at Ha3 hin3 rfl
  refine own_go (X2.iaload hx (j := (6 : Int32)) (v := (.int (2 : Int32))) (by rw [e2]; exact Ar3.1) (State.isArrayOf_alike hZ.alike Ar3.2.1) Ar3.2.2 hin3 hat3 (g := (mkF m 7 #[rv a1] [(.int (6 : Int32)), (.ref o__SwitchMap_com_example_mortise_mortise_store_RejectedChangeException_Reason)])) rfl rfl (hb hby own_d1_7)) ?_
  show own_Go p e below s _ _ _ (T2.setTop (mkF m 8 #[rv a1] [(.int (2 : Int32))]))
  refine own_go (fun zt zk => (XS.tswIn X2.here hx rfl (pc0 := 8) (pc' := 62) rfl (hb hby own_d1_8) rfl (by decide) (o := 54) rfl (by decide) (by decide) (XS.sipush X2.here hx rfl (hb hby own_d1_62) (XS.goto X2.here hx rfl (pc0 := 65) (pc' := 83) rfl (hb hby own_d1_65) (by decide) (by decide) zk)))) ?_
  show own_Go p e below s _ _ _ (T2.setTop (mkF m 83 #[rv a1] [(.int (409 : Int32))]))
  exact own_fin X2 Bd.notSynchronized (fun h => by rw [Bd.returns] at h; cases h) (fun fs hr => retOut X2 hx (t := .int) (w := (.int (409 : Int32))) Bd.returns rfl (Or.inl ⟨rfl, Or.inl rfl, _, rfl⟩) (hb hby own_d1_83) hr) (by rw [e2]; exact ⟨rfl, N2, rfl⟩) (by decide) (by decide)
theorem own_pd__Lcom_example_mortise_mortise_store_RejectedChangeException_Reason__I : parseMethodDescriptor "(Lcom/example/mortise/mortise/store/RejectedChangeException$Reason;)I" = some ⟨[(.object "com/example/mortise/mortise/store/RejectedChangeException$Reason")], some .int⟩ := by decide +kernel
theorem own_pn_com_example_mortise_mortise_webdav_ExchangesStatusForPinLaw : plainName "com/example/mortise/mortise/webdav/ExchangesStatusForPinLaw" = true := by first | (simp [plainName, overriddenIn]; done) | decide +kernel
theorem own_ef_own_law (m : MethodId) (p1 : Int32) : entryFrame m #[(.int p1)] maxLocals = mkF m 0 #[iv p1, .unset, .unset, .unset] [] := by first | (simp [entryFrame, mkF, argsToLocals, Value.category, maxLocals]; done) | rfl
def own_Q_own_law (Z : State) (p1 : Int32) (o_NO_PARENT_COLLECTION : Addr) (o__SwitchMap_com_example_mortise_mortise_store_RejectedChangeException_Reason : Addr) (o_NOT_FOUND : Addr) (o_WITHIN_SOURCE : Addr) (o_CONFLICT : Addr) (o_ROOT : Addr) (o_COLLECTION : Addr) (o_EXISTS : Addr) (k_o__SwitchMap_com_example_mortise_mortise_store_RejectedChangeException_Reason : ClassId) (h0 : Heap) (n0 : Nat) (v : Option Value) (h : Heap) (L : List Loc) : Prop := v = some (.int 1) ∧ Fr n0 L
set_option maxRecDepth 65536 in
set_option maxHeartbeats 40000000 in
theorem own_law (l : Launch) (Z : State) (a0 : Array Value) (hw : ∀ d ∈ tables_1, d.before a0 Z = true) (ws : List Jvm.Cond) (p1 : Int32) (o_NO_PARENT_COLLECTION : Addr) (o__SwitchMap_com_example_mortise_mortise_store_RejectedChangeException_Reason : Addr) (o_NOT_FOUND : Addr) (o_WITHIN_SOURCE : Addr) (o_CONFLICT : Addr) (o_ROOT : Addr) (o_COLLECTION : Addr) (o_EXISTS : Addr) (k_o__SwitchMap_com_example_mortise_mortise_store_RejectedChangeException_Reason : ClassId) (h0 : Heap) (n0 : Nat) (Z0 : n0 ≤ h0.size) (O : Old Z n0 h0) (S_o_NO_PARENT_COLLECTION : Sta Z Z.heap "com/example/mortise/mortise/store/RejectedChangeException$Reason" "NO_PARENT_COLLECTION" "Lcom/example/mortise/mortise/store/RejectedChangeException$Reason;" (.ref o_NO_PARENT_COLLECTION)) (Ex_o_NO_PARENT_COLLECTION : Exa Z Z.heap o_NO_PARENT_COLLECTION "com/example/mortise/mortise/store/RejectedChangeException$Reason") (S_o__SwitchMap_com_example_mortise_mortise_store_RejectedChangeException_Reason : Sta Z Z.heap "com/example/mortise/mortise/webdav/Exchanges$1" "$SwitchMap$com$example$mortise$mortise$store$RejectedChangeException$Reason" "[I" (.ref o__SwitchMap_com_example_mortise_mortise_store_RejectedChangeException_Reason)) (F_o_NO_PARENT_COLLECTION_ordinal : Fld Z Z.heap o_NO_PARENT_COLLECTION "java/lang/Enum" "ordinal" "I" (.int (0 : Int32))) (S_o_NOT_FOUND : Sta Z Z.heap "com/example/mortise/mortise/store/RejectedChangeException$Reason" "NOT_FOUND" "Lcom/example/mortise/mortise/store/RejectedChangeException$Reason;" (.ref o_NOT_FOUND)) (Ex_o_NOT_FOUND : Exa Z Z.heap o_NOT_FOUND "com/example/mortise/mortise/store/RejectedChangeException$Reason") (F_o_NOT_FOUND_ordinal : Fld Z Z.heap o_NOT_FOUND "java/lang/Enum" "ordinal" "I" (.int (3 : Int32))) (S_o_WITHIN_SOURCE : Sta Z Z.heap "com/example/mortise/mortise/store/RejectedChangeException$Reason" "WITHIN_SOURCE" "Lcom/example/mortise/mortise/store/RejectedChangeException$Reason;" (.ref o_WITHIN_SOURCE)) (Ex_o_WITHIN_SOURCE : Exa Z Z.heap o_WITHIN_SOURCE "com/example/mortise/mortise/store/RejectedChangeException$Reason") (F_o_WITHIN_SOURCE_ordinal : Fld Z Z.heap o_WITHIN_SOURCE "java/lang/Enum" "ordinal" "I" (.int (5 : Int32))) (S_o_CONFLICT : Sta Z Z.heap "com/example/mortise/mortise/store/RejectedChangeException$Reason" "CONFLICT" "Lcom/example/mortise/mortise/store/RejectedChangeException$Reason;" (.ref o_CONFLICT)) (Ex_o_CONFLICT : Exa Z Z.heap o_CONFLICT "com/example/mortise/mortise/store/RejectedChangeException$Reason") (F_o_CONFLICT_ordinal : Fld Z Z.heap o_CONFLICT "java/lang/Enum" "ordinal" "I" (.int (6 : Int32))) (S_o_ROOT : Sta Z Z.heap "com/example/mortise/mortise/store/RejectedChangeException$Reason" "ROOT" "Lcom/example/mortise/mortise/store/RejectedChangeException$Reason;" (.ref o_ROOT)) (Ex_o_ROOT : Exa Z Z.heap o_ROOT "com/example/mortise/mortise/store/RejectedChangeException$Reason") (F_o_ROOT_ordinal : Fld Z Z.heap o_ROOT "java/lang/Enum" "ordinal" "I" (.int (4 : Int32))) (S_o_COLLECTION : Sta Z Z.heap "com/example/mortise/mortise/store/RejectedChangeException$Reason" "COLLECTION" "Lcom/example/mortise/mortise/store/RejectedChangeException$Reason;" (.ref o_COLLECTION)) (Ex_o_COLLECTION : Exa Z Z.heap o_COLLECTION "com/example/mortise/mortise/store/RejectedChangeException$Reason") (F_o_COLLECTION_ordinal : Fld Z Z.heap o_COLLECTION "java/lang/Enum" "ordinal" "I" (.int (2 : Int32))) (S_o_EXISTS : Sta Z Z.heap "com/example/mortise/mortise/store/RejectedChangeException$Reason" "EXISTS" "Lcom/example/mortise/mortise/store/RejectedChangeException$Reason;" (.ref o_EXISTS)) (Ex_o_EXISTS : Exa Z Z.heap o_EXISTS "com/example/mortise/mortise/store/RejectedChangeException$Reason") (F_o_EXISTS_ordinal : Fld Z Z.heap o_EXISTS "java/lang/Enum" "ordinal" "I" (.int (1 : Int32))) (V_o__SwitchMap_com_example_mortise_mortise_store_RejectedChangeException_Reason : Arv Z Z.heap o__SwitchMap_com_example_mortise_mortise_store_RejectedChangeException_Reason k_o__SwitchMap_com_example_mortise_mortise_store_RejectedChangeException_Reason .int (7 : Int32) [(.int (1 : Int32)), (.int (3 : Int32)), (.int (4 : Int32)), (.int (5 : Int32)), (.int (6 : Int32)), (.int (7 : Int32)), (.int (2 : Int32))] (.int (0 : Int32)))  :
    MetFree l x (head1 (Jvm.Cond.code x code maxLocals ret :: ws) room_1) (fun a U => a = #[(.int p1)] ∧ Z.Warmed39 U.vm ∧ U.heap = h0) (fun _ _ _ _ _ => True) (fun _ U o U' => ∃ v L, o = .returned v ∧ own_Q_own_law Z p1 o_NO_PARENT_COLLECTION o__SwitchMap_com_example_mortise_mortise_store_RejectedChangeException_Reason o_NOT_FOUND o_WITHIN_SOURCE o_CONFLICT o_ROOT o_COLLECTION o_EXISTS k_o__SwitchMap_com_example_mortise_mortise_store_RejectedChangeException_Reason h0 n0 v U'.heap L ∧ FrameEnd U o U' L room_1.cells room_1.slots) := by
  refine MetFree.of_bodySF (plainFor_of_name own_pn_com_example_mortise_mortise_webdav_ExchangesStatusForPinLaw) hisR ?_
  intro p e s m args below meth c s₁ Bd hml0 hP hK
  obtain ⟨rfl, hZ, hh⟩ := hP
  have hx := Bd.exec
  have hby := Bd.bytes
  have hml : c.maxLocals = 4 := hml0
  have hown : s.vm.findClass "com/example/mortise/mortise/webdav/ExchangesStatusForPinLaw" = some m.cls := findClass_of_methodNamed Bd.named
  have hnm := (name_of_methodNamed Bd.named Bd.method).1
  have X0 : Stand p l e room_1 s m #[(.int p1)] below meth c s₁ [] 0 0 := Stand.of_body Bd
  have e0 : s₁.heap = h0 := by rw [← hh, Bd.state]; rfl
  have N0 := Fr.nil n0
  show own_Go p e below s (own_Q_own_law Z p1 o_NO_PARENT_COLLECTION o__SwitchMap_com_example_mortise_mortise_store_RejectedChangeException_Reason o_NOT_FOUND o_WITHIN_SOURCE o_CONFLICT o_ROOT o_COLLECTION o_EXISTS k_o__SwitchMap_com_example_mortise_mortise_store_RejectedChangeException_Reason h0 n0) room_1.cells room_1.slots (s₁.setTop (entryFrame m #[(.int p1)] maxLocals))
  refine own_go (fun zt zk => castTop (own_ef_own_law m p1) zk) ?_
  show own_Go p e below s _ _ _ (s₁.setTop (mkF m 0 #[iv p1, .unset, .unset, .unset] []))
  refine own_go (fun zt zk => (XS.iloadN X0.here hx rfl (hb hby at_0) rfl (X0.ldcI hx hown (mvT hZ (hw _ (List.mem_of_getElem? (i := 0) rfl))) (g := (mkF m 1 #[iv p1, .unset, .unset, .unset] [(.int p1)])) rfl (hb hby at_1) (XS.iand X0.here hx rfl (hb hby at_3) rfl (XS.bipush X0.here hx rfl (hb hby at_4) (iremM X0 hx rfl (hb hby at_6) rfl (by decide) (XS.istoreN X0.here hx rfl (hb hby at_7) rfl (l' := #[iv p1, iv ((p1 &&& (2147483647 : Int32)) % (7 : Int32)), .unset, .unset]) rfl zk))))))) ?_
  show own_Go p e below s _ _ _ (s₁.setTop (mkF m 8 #[iv p1, iv ((p1 &&& (2147483647 : Int32)) % (7 : Int32)), .unset, .unset] []))
  generalize hv_k : ((p1 &&& (2147483647 : Int32)) % (7 : Int32)) = k
  refine own_go (fun zt zk => (XS.iloadN X0.here hx rfl (hb hby at_8) rfl zk)) ?_
  show own_Go p e below s _ _ _ (s₁.setTop (mkF m 9 #[iv p1, iv k, .unset, .unset] [(.int k)]))
  by_cases hk0 : k = (0 : Int32)
  · refine own_go (fun zt zk => (XS.ifNo X0.here hx rfl (hb hby at_9) rfl ((if0 _ _).trans (teq (hk0 : k = (0 : Int32))).2) zk)) ?_
    show own_Go p e below s _ _ _ (s₁.setTop (mkF m 12 #[iv p1, iv k, .unset, .unset] []))
    obtain ⟨T1, X1, e1, st1⟩ := getS2 X0 hx hZ hown (host := "") (Or.inl (hw _ (List.mem_of_getElem? (i := 1) rfl))) Via.refl e0 (S_o_NO_PARENT_COLLECTION.ext O.2) (g := (mkF m 12 #[iv p1, iv k, .unset, .unset] [])) rfl (hb hby at_12)
    refine own_go st1 ?_
    show own_Go p e below s _ _ _ (T1.setTop (mkF m 15 #[iv p1, iv k, .unset, .unset] [(.ref o_NO_PARENT_COLLECTION)]))
    refine own_go (fun zt zk => (XS.astoreN X1.here hx rfl (hb hby at_15) rfl rfl (l' := #[iv p1, iv k, rv o_NO_PARENT_COLLECTION, .unset]) rfl (XS.sipush X1.here hx rfl (hb hby at_16) (XS.istoreN X1.here hx rfl (hb hby at_19) rfl (l' := #[iv p1, iv k, rv o_NO_PARENT_COLLECTION, iv (409 : Int32)]) rfl (XS.goto X1.here hx rfl (pc0 := 20) (pc' := 111) rfl (hb hby at_20) (by decide) (by decide) (XS.aloadN X1.here hx rfl (hb hby at_111) rfl rfl zk)))))) ?_
    show own_Go p e below s _ _ _ (T1.setTop (mkF m 112 #[iv p1, iv k, rv o_NO_PARENT_COLLECTION, iv (409 : Int32)] [(.ref o_NO_PARENT_COLLECTION)]))
    obtain ⟨_, _, ⟨T2, L2, k2, n2⟩, -, X2, ⟨Lc2, hQ2, l2, y2, z2⟩, st2⟩ := Jvm.LawKit.callS X1 hx (y := (⟨"com/example/mortise/mortise/webdav/Exchanges", "statusFor", "(Lcom/example/mortise/mortise/store/RejectedChangeException$Reason;)I"⟩ : MethodName)) hown (mvT hZ (hw _ (List.mem_of_getElem? (i := 4) rfl))) (mvT hZ (hw _ (List.mem_of_getElem? (i := 5) rfl))) (mvT hZ (hw _ (List.mem_of_getElem? (i := 6) rfl))) (mvT hZ (hw _ (List.mem_of_getElem? (i := 7) rfl))) (by decide) (backOf (W := 0) (own_rst0 l Z a0 hw [] o_NO_PARENT_COLLECTION o__SwitchMap_com_example_mortise_mortise_store_RejectedChangeException_Reason k_o__SwitchMap_com_example_mortise_mortise_store_RejectedChangeException_Reason h0 n0 Z0 O S_o__SwitchMap_com_example_mortise_mortise_store_RejectedChangeException_Reason V_o__SwitchMap_com_example_mortise_mortise_store_RejectedChangeException_Reason Ex_o_NO_PARENT_COLLECTION F_o_NO_PARENT_COLLECTION_ordinal) hZ (hw _ (List.mem_of_getElem? (i := 7) rfl)) (hw _ (List.mem_of_getElem? (i := 6) rfl)) (by decide) (by decide)) (g := (mkF m 112 #[iv p1, iv k, rv o_NO_PARENT_COLLECTION, iv (409 : Int32)] [(.ref o_NO_PARENT_COLLECTION)])) rfl (by rw [hml]; rfl) (argsL := [(.ref o_NO_PARENT_COLLECTION)]) (rest := []) (lenOf own_pd__Lcom_example_mortise_mortise_store_RejectedChangeException_Reason__I rfl) rfl (by show 2 * 0 + _ ≤ _; exact Nat.le_of_eq rfl) (hb hby at_112) (fun _ _ => ⟨rfl, e1, (by decide : 0 + 0 ≤ _), (by decide : 0 + 0 ≤ _)⟩)
    dsimp only [Pt.U, Pt.locs, Pt.cells, Pt.slots] at X2 l2 y2 z2 st2 hQ2
    subst l2 y2 z2
    obtain ⟨rfl, Nq2, e2⟩ := hQ2
    have N2 := Fr.app N0 Nq2
    refine own_go st2 ?_
    show own_Go p e below s _ _ _ (T2.setTop (mkF m 115 #[iv p1, iv k, rv o_NO_PARENT_COLLECTION, iv (409 : Int32)] [(.int (409 : Int32))]))
    refine own_go (fun zt zk => (XS.iloadN X2.here hx rfl (hb hby at_115) rfl (XS.icmpNo X2.here hx rfl (hb hby at_116) rfl (teq (rfl : (409 : Int32) = (409 : Int32))).2 (XS.iconst X2.here hx rfl (hb hby at_119) (XS.goto X2.here hx rfl (pc0 := 120) (pc' := 124) rfl (hb hby at_120) (by decide) (by decide) zk))))) ?_
    show own_Go p e below s _ _ _ (T2.setTop (mkF m 124 #[iv p1, iv k, rv o_NO_PARENT_COLLECTION, iv (409 : Int32)] [(.int (1 : Int32))]))
    exact own_fin X2 Bd.notSynchronized (fun h => by rw [Bd.returns] at h; cases h) (fun fs hr => retN X2 hx (t := .boolean) Bd.returns (by simp) (hb hby at_124) hr) (by rw [e2]; exact ⟨rfl, N2⟩) (by decide) (by decide)
  · refine own_go (fun zt zk => (XS.ifYes X0.here hx rfl (pc0 := 9) (pc' := 23) rfl (hb hby at_9) rfl ((if0 _ _).trans (feq (hk0 : ¬ (k = (0 : Int32)))).2) (by decide) (by decide) (XS.iloadN X0.here hx rfl (hb hby at_23) rfl (XS.iconst X0.here hx rfl (hb hby at_24) zk)))) ?_
    show own_Go p e below s _ _ _ (s₁.setTop (mkF m 25 #[iv p1, iv k, .unset, .unset] [(.int (1 : Int32)), (.int k)]))
    by_cases hk1 : k = (1 : Int32)
    · refine own_go (fun zt zk => (XS.icmpNo X0.here hx rfl (hb hby at_25) rfl (teq (hk1 : k = (1 : Int32))).2 zk)) ?_
      show own_Go p e below s _ _ _ (s₁.setTop (mkF m 28 #[iv p1, iv k, .unset, .unset] []))
      obtain ⟨T3, X3, e3, st3⟩ := getS2 X0 hx hZ hown (host := "") (Or.inl (hw _ (List.mem_of_getElem? (i := 30) rfl))) Via.refl e0 (S_o_EXISTS.ext O.2) (g := (mkF m 28 #[iv p1, iv k, .unset, .unset] [])) rfl (hb hby at_28)
      refine own_go st3 ?_
      show own_Go p e below s _ _ _ (T3.setTop (mkF m 31 #[iv p1, iv k, .unset, .unset] [(.ref o_EXISTS)]))
      refine own_go (fun zt zk => (XS.astoreN X3.here hx rfl (hb hby at_31) rfl rfl (l' := #[iv p1, iv k, rv o_EXISTS, .unset]) rfl (XS.sipush X3.here hx rfl (hb hby at_32) (XS.istoreN X3.here hx rfl (hb hby at_35) rfl (l' := #[iv p1, iv k, rv o_EXISTS, iv (405 : Int32)]) rfl (XS.goto X3.here hx rfl (pc0 := 36) (pc' := 111) rfl (hb hby at_36) (by decide) (by decide) (XS.aloadN X3.here hx rfl (hb hby at_111) rfl rfl zk)))))) ?_
      show own_Go p e below s _ _ _ (T3.setTop (mkF m 112 #[iv p1, iv k, rv o_EXISTS, iv (405 : Int32)] [(.ref o_EXISTS)]))
      obtain ⟨_, _, ⟨T4, L4, k4, n4⟩, -, X4, ⟨Lc4, hQ4, l4, y4, z4⟩, st4⟩ := Jvm.LawKit.callS X3 hx (y := (⟨"com/example/mortise/mortise/webdav/Exchanges", "statusFor", "(Lcom/example/mortise/mortise/store/RejectedChangeException$Reason;)I"⟩ : MethodName)) hown (mvT hZ (hw _ (List.mem_of_getElem? (i := 4) rfl))) (mvT hZ (hw _ (List.mem_of_getElem? (i := 5) rfl))) (mvT hZ (hw _ (List.mem_of_getElem? (i := 6) rfl))) (mvT hZ (hw _ (List.mem_of_getElem? (i := 7) rfl))) (by decide) (backOf (W := 0) (own_rst1 l Z a0 hw [] o_EXISTS o__SwitchMap_com_example_mortise_mortise_store_RejectedChangeException_Reason k_o__SwitchMap_com_example_mortise_mortise_store_RejectedChangeException_Reason h0 n0 Z0 O S_o__SwitchMap_com_example_mortise_mortise_store_RejectedChangeException_Reason V_o__SwitchMap_com_example_mortise_mortise_store_RejectedChangeException_Reason Ex_o_EXISTS F_o_EXISTS_ordinal) hZ (hw _ (List.mem_of_getElem? (i := 7) rfl)) (hw _ (List.mem_of_getElem? (i := 6) rfl)) (by decide) (by decide)) (g := (mkF m 112 #[iv p1, iv k, rv o_EXISTS, iv (405 : Int32)] [(.ref o_EXISTS)])) rfl (by rw [hml]; rfl) (argsL := [(.ref o_EXISTS)]) (rest := []) (lenOf own_pd__Lcom_example_mortise_mortise_store_RejectedChangeException_Reason__I rfl) rfl (by show 2 * 0 + _ ≤ _; exact Nat.le_of_eq rfl) (hb hby at_112) (fun _ _ => ⟨rfl, e3, (by decide : 0 + 0 ≤ _), (by decide : 0 + 0 ≤ _)⟩)
      dsimp only [Pt.U, Pt.locs, Pt.cells, Pt.slots] at X4 l4 y4 z4 st4 hQ4
      subst l4 y4 z4
      obtain ⟨rfl, Nq4, e4⟩ := hQ4
      have N4 := Fr.app N0 Nq4
      refine own_go st4 ?_
      show own_Go p e below s _ _ _ (T4.setTop (mkF m 115 #[iv p1, iv k, rv o_EXISTS, iv (405 : Int32)] [(.int (405 : Int32))]))
      refine own_go (fun zt zk => (XS.iloadN X4.here hx rfl (hb hby at_115) rfl (XS.icmpNo X4.here hx rfl (hb hby at_116) rfl (teq (rfl : (405 : Int32) = (405 : Int32))).2 (XS.iconst X4.here hx rfl (hb hby at_119) (XS.goto X4.here hx rfl (pc0 := 120) (pc' := 124) rfl (hb hby at_120) (by decide) (by decide) zk))))) ?_
      show own_Go p e below s _ _ _ (T4.setTop (mkF m 124 #[iv p1, iv k, rv o_EXISTS, iv (405 : Int32)] [(.int (1 : Int32))]))
      exact own_fin X4 Bd.notSynchronized (fun h => by rw [Bd.returns] at h; cases h) (fun fs hr => retN X4 hx (t := .boolean) Bd.returns (by simp) (hb hby at_124) hr) (by rw [e4]; exact ⟨rfl, N4⟩) (by decide) (by decide)
    · refine own_go (fun zt zk => (XS.icmpYes X0.here hx rfl (pc0 := 25) (pc' := 39) rfl (hb hby at_25) rfl (feq (hk1 : ¬ (k = (1 : Int32)))).2 (by decide) (by decide) (XS.iloadN X0.here hx rfl (hb hby at_39) rfl (XS.iconst X0.here hx rfl (hb hby at_40) zk)))) ?_
      show own_Go p e below s _ _ _ (s₁.setTop (mkF m 41 #[iv p1, iv k, .unset, .unset] [(.int (2 : Int32)), (.int k)]))
      by_cases hk2 : k = (2 : Int32)
      · refine own_go (fun zt zk => (XS.icmpNo X0.here hx rfl (hb hby at_41) rfl (teq (hk2 : k = (2 : Int32))).2 zk)) ?_
        show own_Go p e below s _ _ _ (s₁.setTop (mkF m 44 #[iv p1, iv k, .unset, .unset] []))
        obtain ⟨T5, X5, e5, st5⟩ := getS2 X0 hx hZ hown (host := "") (Or.inl (hw _ (List.mem_of_getElem? (i := 28) rfl))) Via.refl e0 (S_o_COLLECTION.ext O.2) (g := (mkF m 44 #[iv p1, iv k, .unset, .unset] [])) rfl (hb hby at_44)
        refine own_go st5 ?_
        show own_Go p e below s _ _ _ (T5.setTop (mkF m 47 #[iv p1, iv k, .unset, .unset] [(.ref o_COLLECTION)]))
        refine own_go (fun zt zk => (XS.astoreN X5.here hx rfl (hb hby at_47) rfl rfl (l' := #[iv p1, iv k, rv o_COLLECTION, .unset]) rfl (XS.sipush X5.here hx rfl (hb hby at_48) (XS.istoreN X5.here hx rfl (hb hby at_51) rfl (l' := #[iv p1, iv k, rv o_COLLECTION, iv (405 : Int32)]) rfl (XS.goto X5.here hx rfl (pc0 := 52) (pc' := 111) rfl (hb hby at_52) (by decide) (by decide) (XS.aloadN X5.here hx rfl (hb hby at_111) rfl rfl zk)))))) ?_
        show own_Go p e below s _ _ _ (T5.setTop (mkF m 112 #[iv p1, iv k, rv o_COLLECTION, iv (405 : Int32)] [(.ref o_COLLECTION)]))
        obtain ⟨_, _, ⟨T6, L6, k6, n6⟩, -, X6, ⟨Lc6, hQ6, l6, y6, z6⟩, st6⟩ := Jvm.LawKit.callS X5 hx (y := (⟨"com/example/mortise/mortise/webdav/Exchanges", "statusFor", "(Lcom/example/mortise/mortise/store/RejectedChangeException$Reason;)I"⟩ : MethodName)) hown (mvT hZ (hw _ (List.mem_of_getElem? (i := 4) rfl))) (mvT hZ (hw _ (List.mem_of_getElem? (i := 5) rfl))) (mvT hZ (hw _ (List.mem_of_getElem? (i := 6) rfl))) (mvT hZ (hw _ (List.mem_of_getElem? (i := 7) rfl))) (by decide) (backOf (W := 0) (own_rst2 l Z a0 hw [] o_COLLECTION o__SwitchMap_com_example_mortise_mortise_store_RejectedChangeException_Reason k_o__SwitchMap_com_example_mortise_mortise_store_RejectedChangeException_Reason h0 n0 Z0 O S_o__SwitchMap_com_example_mortise_mortise_store_RejectedChangeException_Reason V_o__SwitchMap_com_example_mortise_mortise_store_RejectedChangeException_Reason Ex_o_COLLECTION F_o_COLLECTION_ordinal) hZ (hw _ (List.mem_of_getElem? (i := 7) rfl)) (hw _ (List.mem_of_getElem? (i := 6) rfl)) (by decide) (by decide)) (g := (mkF m 112 #[iv p1, iv k, rv o_COLLECTION, iv (405 : Int32)] [(.ref o_COLLECTION)])) rfl (by rw [hml]; rfl) (argsL := [(.ref o_COLLECTION)]) (rest := []) (lenOf own_pd__Lcom_example_mortise_mortise_store_RejectedChangeException_Reason__I rfl) rfl (by show 2 * 0 + _ ≤ _; exact Nat.le_of_eq rfl) (hb hby at_112) (fun _ _ => ⟨rfl, e5, (by decide : 0 + 0 ≤ _), (by decide : 0 + 0 ≤ _)⟩)
        dsimp only [Pt.U, Pt.locs, Pt.cells, Pt.slots] at X6 l6 y6 z6 st6 hQ6
        subst l6 y6 z6
        obtain ⟨rfl, Nq6, e6⟩ := hQ6
        have N6 := Fr.app N0 Nq6
        refine own_go st6 ?_
        show own_Go p e below s _ _ _ (T6.setTop (mkF m 115 #[iv p1, iv k, rv o_COLLECTION, iv (405 : Int32)] [(.int (405 : Int32))]))
        refine own_go (fun zt zk => (XS.iloadN X6.here hx rfl (hb hby at_115) rfl (XS.icmpNo X6.here hx rfl (hb hby at_116) rfl (teq (rfl : (405 : Int32) = (405 : Int32))).2 (XS.iconst X6.here hx rfl (hb hby at_119) (XS.goto X6.here hx rfl (pc0 := 120) (pc' := 124) rfl (hb hby at_120) (by decide) (by decide) zk))))) ?_
        show own_Go p e below s _ _ _ (T6.setTop (mkF m 124 #[iv p1, iv k, rv o_COLLECTION, iv (405 : Int32)] [(.int (1 : Int32))]))
        exact own_fin X6 Bd.notSynchronized (fun h => by rw [Bd.returns] at h; cases h) (fun fs hr => retN X6 hx (t := .boolean) Bd.returns (by simp) (hb hby at_124) hr) (by rw [e6]; exact ⟨rfl, N6⟩) (by decide) (by decide)
      · refine own_go (fun zt zk => (XS.icmpYes X0.here hx rfl (pc0 := 41) (pc' := 55) rfl (hb hby at_41) rfl (feq (hk2 : ¬ (k = (2 : Int32)))).2 (by decide) (by decide) (XS.iloadN X0.here hx rfl (hb hby at_55) rfl (XS.iconst X0.here hx rfl (hb hby at_56) zk)))) ?_
        show own_Go p e below s _ _ _ (s₁.setTop (mkF m 57 #[iv p1, iv k, .unset, .unset] [(.int (3 : Int32)), (.int k)]))
        by_cases hk3 : k = (3 : Int32)
        · refine own_go (fun zt zk => (XS.icmpNo X0.here hx rfl (hb hby at_57) rfl (teq (hk3 : k = (3 : Int32))).2 zk)) ?_
          show own_Go p e below s _ _ _ (s₁.setTop (mkF m 60 #[iv p1, iv k, .unset, .unset] []))
          obtain ⟨T7, X7, e7, st7⟩ := getS2 X0 hx hZ hown (host := "") (Or.inl (hw _ (List.mem_of_getElem? (i := 20) rfl))) Via.refl e0 (S_o_NOT_FOUND.ext O.2) (g := (mkF m 60 #[iv p1, iv k, .unset, .unset] [])) rfl (hb hby at_60)
          refine own_go st7 ?_
          show own_Go p e below s _ _ _ (T7.setTop (mkF m 63 #[iv p1, iv k, .unset, .unset] [(.ref o_NOT_FOUND)]))
          refine own_go (fun zt zk => (XS.astoreN X7.here hx rfl (hb hby at_63) rfl rfl (l' := #[iv p1, iv k, rv o_NOT_FOUND, .unset]) rfl (XS.sipush X7.here hx rfl (hb hby at_64) (XS.istoreN X7.here hx rfl (hb hby at_67) rfl (l' := #[iv p1, iv k, rv o_NOT_FOUND, iv (404 : Int32)]) rfl (XS.goto X7.here hx rfl (pc0 := 68) (pc' := 111) rfl (hb hby at_68) (by decide) (by decide) (XS.aloadN X7.here hx rfl (hb hby at_111) rfl rfl zk)))))) ?_
          show own_Go p e below s _ _ _ (T7.setTop (mkF m 112 #[iv p1, iv k, rv o_NOT_FOUND, iv (404 : Int32)] [(.ref o_NOT_FOUND)]))
          obtain ⟨_, _, ⟨T8, L8, k8, n8⟩, -, X8, ⟨Lc8, hQ8, l8, y8, z8⟩, st8⟩ := Jvm.LawKit.callS X7 hx (y := (⟨"com/example/mortise/mortise/webdav/Exchanges", "statusFor", "(Lcom/example/mortise/mortise/store/RejectedChangeException$Reason;)I"⟩ : MethodName)) hown (mvT hZ (hw _ (List.mem_of_getElem? (i := 4) rfl))) (mvT hZ (hw _ (List.mem_of_getElem? (i := 5) rfl))) (mvT hZ (hw _ (List.mem_of_getElem? (i := 6) rfl))) (mvT hZ (hw _ (List.mem_of_getElem? (i := 7) rfl))) (by decide) (backOf (W := 0) (own_rst3 l Z a0 hw [] o_NOT_FOUND o__SwitchMap_com_example_mortise_mortise_store_RejectedChangeException_Reason k_o__SwitchMap_com_example_mortise_mortise_store_RejectedChangeException_Reason h0 n0 Z0 O S_o__SwitchMap_com_example_mortise_mortise_store_RejectedChangeException_Reason V_o__SwitchMap_com_example_mortise_mortise_store_RejectedChangeException_Reason Ex_o_NOT_FOUND F_o_NOT_FOUND_ordinal) hZ (hw _ (List.mem_of_getElem? (i := 7) rfl)) (hw _ (List.mem_of_getElem? (i := 6) rfl)) (by decide) (by decide)) (g := (mkF m 112 #[iv p1, iv k, rv o_NOT_FOUND, iv (404 : Int32)] [(.ref o_NOT_FOUND)])) rfl (by rw [hml]; rfl) (argsL := [(.ref o_NOT_FOUND)]) (rest := []) (lenOf own_pd__Lcom_example_mortise_mortise_store_RejectedChangeException_Reason__I rfl) rfl (by show 2 * 0 + _ ≤ _; exact Nat.le_of_eq rfl) (hb hby at_112) (fun _ _ => ⟨rfl, e7, (by decide : 0 + 0 ≤ _), (by decide : 0 + 0 ≤ _)⟩)
          dsimp only [Pt.U, Pt.locs, Pt.cells, Pt.slots] at X8 l8 y8 z8 st8 hQ8
          subst l8 y8 z8
          obtain ⟨rfl, Nq8, e8⟩ := hQ8
          have N8 := Fr.app N0 Nq8
          refine own_go st8 ?_
          show own_Go p e below s _ _ _ (T8.setTop (mkF m 115 #[iv p1, iv k, rv o_NOT_FOUND, iv (404 : Int32)] [(.int (404 : Int32))]))
          refine own_go (fun zt zk => (XS.iloadN X8.here hx rfl (hb hby at_115) rfl (XS.icmpNo X8.here hx rfl (hb hby at_116) rfl (teq (rfl : (404 : Int32) = (404 : Int32))).2 (XS.iconst X8.here hx rfl (hb hby at_119) (XS.goto X8.here hx rfl (pc0 := 120) (pc' := 124) rfl (hb hby at_120) (by decide) (by decide) zk))))) ?_
          show own_Go p e below s _ _ _ (T8.setTop (mkF m 124 #[iv p1, iv k, rv o_NOT_FOUND, iv (404 : Int32)] [(.int (1 : Int32))]))
          exact own_fin X8 Bd.notSynchronized (fun h => by rw [Bd.returns] at h; cases h) (fun fs hr => retN X8 hx (t := .boolean) Bd.returns (by simp) (hb hby at_124) hr) (by rw [e8]; exact ⟨rfl, N8⟩) (by decide) (by decide)
        · refine own_go (fun zt zk => (XS.icmpYes X0.here hx rfl (pc0 := 57) (pc' := 71) rfl (hb hby at_57) rfl (feq (hk3 : ¬ (k = (3 : Int32)))).2 (by decide) (by decide) (XS.iloadN X0.here hx rfl (hb hby at_71) rfl (XS.iconst X0.here hx rfl (hb hby at_72) zk)))) ?_
          show own_Go p e below s _ _ _ (s₁.setTop (mkF m 73 #[iv p1, iv k, .unset, .unset] [(.int (4 : Int32)), (.int k)]))
          by_cases hk4 : k = (4 : Int32)
          · refine own_go (fun zt zk => (XS.icmpNo X0.here hx rfl (hb hby at_73) rfl (teq (hk4 : k = (4 : Int32))).2 zk)) ?_
            show own_Go p e below s _ _ _ (s₁.setTop (mkF m 76 #[iv p1, iv k, .unset, .unset] []))
            obtain ⟨T9, X9, e9, st9⟩ := getS2 X0 hx hZ hown (host := "") (Or.inl (hw _ (List.mem_of_getElem? (i := 26) rfl))) Via.refl e0 (S_o_ROOT.ext O.2) (g := (mkF m 76 #[iv p1, iv k, .unset, .unset] [])) rfl (hb hby at_76)
            refine own_go st9 ?_
            show own_Go p e below s _ _ _ (T9.setTop (mkF m 79 #[iv p1, iv k, .unset, .unset] [(.ref o_ROOT)]))
            refine own_go (fun zt zk => (XS.astoreN X9.here hx rfl (hb hby at_79) rfl rfl (l' := #[iv p1, iv k, rv o_ROOT, .unset]) rfl (XS.sipush X9.here hx rfl (hb hby at_80) (XS.istoreN X9.here hx rfl (hb hby at_83) rfl (l' := #[iv p1, iv k, rv o_ROOT, iv (403 : Int32)]) rfl (XS.goto X9.here hx rfl (pc0 := 84) (pc' := 111) rfl (hb hby at_84) (by decide) (by decide) (XS.aloadN X9.here hx rfl (hb hby at_111) rfl rfl zk)))))) ?_
            show own_Go p e below s _ _ _ (T9.setTop (mkF m 112 #[iv p1, iv k, rv o_ROOT, iv (403 : Int32)] [(.ref o_ROOT)]))
            obtain ⟨_, _, ⟨T10, L10, k10, n10⟩, -, X10, ⟨Lc10, hQ10, l10, y10, z10⟩, st10⟩ := Jvm.LawKit.callS X9 hx (y := (⟨"com/example/mortise/mortise/webdav/Exchanges", "statusFor", "(Lcom/example/mortise/mortise/store/RejectedChangeException$Reason;)I"⟩ : MethodName)) hown (mvT hZ (hw _ (List.mem_of_getElem? (i := 4) rfl))) (mvT hZ (hw _ (List.mem_of_getElem? (i := 5) rfl))) (mvT hZ (hw _ (List.mem_of_getElem? (i := 6) rfl))) (mvT hZ (hw _ (List.mem_of_getElem? (i := 7) rfl))) (by decide) (backOf (W := 0) (own_rst4 l Z a0 hw [] o_ROOT o__SwitchMap_com_example_mortise_mortise_store_RejectedChangeException_Reason k_o__SwitchMap_com_example_mortise_mortise_store_RejectedChangeException_Reason h0 n0 Z0 O S_o__SwitchMap_com_example_mortise_mortise_store_RejectedChangeException_Reason V_o__SwitchMap_com_example_mortise_mortise_store_RejectedChangeException_Reason Ex_o_ROOT F_o_ROOT_ordinal) hZ (hw _ (List.mem_of_getElem? (i := 7) rfl)) (hw _ (List.mem_of_getElem? (i := 6) rfl)) (by decide) (by decide)) (g := (mkF m 112 #[iv p1, iv k, rv o_ROOT, iv (403 : Int32)] [(.ref o_ROOT)])) rfl (by rw [hml]; rfl) (argsL := [(.ref o_ROOT)]) (rest := []) (lenOf own_pd__Lcom_example_mortise_mortise_store_RejectedChangeException_Reason__I rfl) rfl (by show 2 * 0 + _ ≤ _; exact Nat.le_of_eq rfl) (hb hby at_112) (fun _ _ => ⟨rfl, e9, (by decide : 0 + 0 ≤ _), (by decide : 0 + 0 ≤ _)⟩)
            dsimp only [Pt.U, Pt.locs, Pt.cells, Pt.slots] at X10 l10 y10 z10 st10 hQ10
            subst l10 y10 z10
            obtain ⟨rfl, Nq10, e10⟩ := hQ10
            have N10 := Fr.app N0 Nq10
            refine own_go st10 ?_
            show own_Go p e below s _ _ _ (T10.setTop (mkF m 115 #[iv p1, iv k, rv o_ROOT, iv (403 : Int32)] [(.int (403 : Int32))]))
            refine own_go (fun zt zk => (XS.iloadN X10.here hx rfl (hb hby at_115) rfl (XS.icmpNo X10.here hx rfl (hb hby at_116) rfl (teq (rfl : (403 : Int32) = (403 : Int32))).2 (XS.iconst X10.here hx rfl (hb hby at_119) (XS.goto X10.here hx rfl (pc0 := 120) (pc' := 124) rfl (hb hby at_120) (by decide) (by decide) zk))))) ?_
            show own_Go p e below s _ _ _ (T10.setTop (mkF m 124 #[iv p1, iv k, rv o_ROOT, iv (403 : Int32)] [(.int (1 : Int32))]))
            exact own_fin X10 Bd.notSynchronized (fun h => by rw [Bd.returns] at h; cases h) (fun fs hr => retN X10 hx (t := .boolean) Bd.returns (by simp) (hb hby at_124) hr) (by rw [e10]; exact ⟨rfl, N10⟩) (by decide) (by decide)
          · refine own_go (fun zt zk => (XS.icmpYes X0.here hx rfl (pc0 := 73) (pc' := 87) rfl (hb hby at_73) rfl (feq (hk4 : ¬ (k = (4 : Int32)))).2 (by decide) (by decide) (XS.iloadN X0.here hx rfl (hb hby at_87) rfl (XS.iconst X0.here hx rfl (hb hby at_88) zk)))) ?_
            show own_Go p e below s _ _ _ (s₁.setTop (mkF m 89 #[iv p1, iv k, .unset, .unset] [(.int (5 : Int32)), (.int k)]))
            by_cases hk5 : k = (5 : Int32)
            · refine own_go (fun zt zk => (XS.icmpNo X0.here hx rfl (hb hby at_89) rfl (teq (hk5 : k = (5 : Int32))).2 zk)) ?_
              show own_Go p e below s _ _ _ (s₁.setTop (mkF m 92 #[iv p1, iv k, .unset, .unset] []))
              obtain ⟨T11, X11, e11, st11⟩ := getS2 X0 hx hZ hown (host := "") (Or.inl (hw _ (List.mem_of_getElem? (i := 22) rfl))) Via.refl e0 (S_o_WITHIN_SOURCE.ext O.2) (g := (mkF m 92 #[iv p1, iv k, .unset, .unset] [])) rfl (hb hby at_92)
              refine own_go st11 ?_
              show own_Go p e below s _ _ _ (T11.setTop (mkF m 95 #[iv p1, iv k, .unset, .unset] [(.ref o_WITHIN_SOURCE)]))
              refine own_go (fun zt zk => (XS.astoreN X11.here hx rfl (hb hby at_95) rfl rfl (l' := #[iv p1, iv k, rv o_WITHIN_SOURCE, .unset]) rfl (XS.sipush X11.here hx rfl (hb hby at_96) (XS.istoreN X11.here hx rfl (hb hby at_99) rfl (l' := #[iv p1, iv k, rv o_WITHIN_SOURCE, iv (403 : Int32)]) rfl (XS.goto X11.here hx rfl (pc0 := 100) (pc' := 111) rfl (hb hby at_100) (by decide) (by decide) (XS.aloadN X11.here hx rfl (hb hby at_111) rfl rfl zk)))))) ?_
              show own_Go p e below s _ _ _ (T11.setTop (mkF m 112 #[iv p1, iv k, rv o_WITHIN_SOURCE, iv (403 : Int32)] [(.ref o_WITHIN_SOURCE)]))
              obtain ⟨_, _, ⟨T12, L12, k12, n12⟩, -, X12, ⟨Lc12, hQ12, l12, y12, z12⟩, st12⟩ := Jvm.LawKit.callS X11 hx (y := (⟨"com/example/mortise/mortise/webdav/Exchanges", "statusFor", "(Lcom/example/mortise/mortise/store/RejectedChangeException$Reason;)I"⟩ : MethodName)) hown (mvT hZ (hw _ (List.mem_of_getElem? (i := 4) rfl))) (mvT hZ (hw _ (List.mem_of_getElem? (i := 5) rfl))) (mvT hZ (hw _ (List.mem_of_getElem? (i := 6) rfl))) (mvT hZ (hw _ (List.mem_of_getElem? (i := 7) rfl))) (by decide) (backOf (W := 0) (own_rst5 l Z a0 hw [] o_WITHIN_SOURCE o__SwitchMap_com_example_mortise_mortise_store_RejectedChangeException_Reason k_o__SwitchMap_com_example_mortise_mortise_store_RejectedChangeException_Reason h0 n0 Z0 O S_o__SwitchMap_com_example_mortise_mortise_store_RejectedChangeException_Reason V_o__SwitchMap_com_example_mortise_mortise_store_RejectedChangeException_Reason Ex_o_WITHIN_SOURCE F_o_WITHIN_SOURCE_ordinal) hZ (hw _ (List.mem_of_getElem? (i := 7) rfl)) (hw _ (List.mem_of_getElem? (i := 6) rfl)) (by decide) (by decide)) (g := (mkF m 112 #[iv p1, iv k, rv o_WITHIN_SOURCE, iv (403 : Int32)] [(.ref o_WITHIN_SOURCE)])) rfl (by rw [hml]; rfl) (argsL := [(.ref o_WITHIN_SOURCE)]) (rest := []) (lenOf own_pd__Lcom_example_mortise_mortise_store_RejectedChangeException_Reason__I rfl) rfl (by show 2 * 0 + _ ≤ _; exact Nat.le_of_eq rfl) (hb hby at_112) (fun _ _ => ⟨rfl, e11, (by decide : 0 + 0 ≤ _), (by decide : 0 + 0 ≤ _)⟩)
              dsimp only [Pt.U, Pt.locs, Pt.cells, Pt.slots] at X12 l12 y12 z12 st12 hQ12
              subst l12 y12 z12
              obtain ⟨rfl, Nq12, e12⟩ := hQ12
              have N12 := Fr.app N0 Nq12
              refine own_go st12 ?_
              show own_Go p e below s _ _ _ (T12.setTop (mkF m 115 #[iv p1, iv k, rv o_WITHIN_SOURCE, iv (403 : Int32)] [(.int (403 : Int32))]))
              refine own_go (fun zt zk => (XS.iloadN X12.here hx rfl (hb hby at_115) rfl (XS.icmpNo X12.here hx rfl (hb hby at_116) rfl (teq (rfl : (403 : Int32) = (403 : Int32))).2 (XS.iconst X12.here hx rfl (hb hby at_119) (XS.goto X12.here hx rfl (pc0 := 120) (pc' := 124) rfl (hb hby at_120) (by decide) (by decide) zk))))) ?_
              show own_Go p e below s _ _ _ (T12.setTop (mkF m 124 #[iv p1, iv k, rv o_WITHIN_SOURCE, iv (403 : Int32)] [(.int (1 : Int32))]))
              exact own_fin X12 Bd.notSynchronized (fun h => by rw [Bd.returns] at h; cases h) (fun fs hr => retN X12 hx (t := .boolean) Bd.returns (by simp) (hb hby at_124) hr) (by rw [e12]; exact ⟨rfl, N12⟩) (by decide) (by decide)
            · refine own_go (fun zt zk => (XS.icmpYes X0.here hx rfl (pc0 := 89) (pc' := 103) rfl (hb hby at_89) rfl (feq (hk5 : ¬ (k = (5 : Int32)))).2 (by decide) (by decide) zk)) ?_
              show own_Go p e below s _ _ _ (s₁.setTop (mkF m 103 #[iv p1, iv k, .unset, .unset] []))
              obtain ⟨T13, X13, e13, st13⟩ := getS2 X0 hx hZ hown (host := "") (Or.inl (hw _ (List.mem_of_getElem? (i := 24) rfl))) Via.refl e0 (S_o_CONFLICT.ext O.2) (g := (mkF m 103 #[iv p1, iv k, .unset, .unset] [])) rfl (hb hby at_103)
              refine own_go st13 ?_
              show own_Go p e below s _ _ _ (T13.setTop (mkF m 106 #[iv p1, iv k, .unset, .unset] [(.ref o_CONFLICT)]))
              refine own_go (fun zt zk => (XS.astoreN X13.here hx rfl (hb hby at_106) rfl rfl (l' := #[iv p1, iv k, rv o_CONFLICT, .unset]) rfl (XS.sipush X13.here hx rfl (hb hby at_107) (XS.istoreN X13.here hx rfl (hb hby at_110) rfl (l' := #[iv p1, iv k, rv o_CONFLICT, iv (409 : Int32)]) rfl (XS.aloadN X13.here hx rfl (hb hby at_111) rfl rfl zk))))) ?_
              show own_Go p e below s _ _ _ (T13.setTop (mkF m 112 #[iv p1, iv k, rv o_CONFLICT, iv (409 : Int32)] [(.ref o_CONFLICT)]))
              obtain ⟨_, _, ⟨T14, L14, k14, n14⟩, -, X14, ⟨Lc14, hQ14, l14, y14, z14⟩, st14⟩ := Jvm.LawKit.callS X13 hx (y := (⟨"com/example/mortise/mortise/webdav/Exchanges", "statusFor", "(Lcom/example/mortise/mortise/store/RejectedChangeException$Reason;)I"⟩ : MethodName)) hown (mvT hZ (hw _ (List.mem_of_getElem? (i := 4) rfl))) (mvT hZ (hw _ (List.mem_of_getElem? (i := 5) rfl))) (mvT hZ (hw _ (List.mem_of_getElem? (i := 6) rfl))) (mvT hZ (hw _ (List.mem_of_getElem? (i := 7) rfl))) (by decide) (backOf (W := 0) (own_rst6 l Z a0 hw [] o_CONFLICT o__SwitchMap_com_example_mortise_mortise_store_RejectedChangeException_Reason k_o__SwitchMap_com_example_mortise_mortise_store_RejectedChangeException_Reason h0 n0 Z0 O S_o__SwitchMap_com_example_mortise_mortise_store_RejectedChangeException_Reason V_o__SwitchMap_com_example_mortise_mortise_store_RejectedChangeException_Reason Ex_o_CONFLICT F_o_CONFLICT_ordinal) hZ (hw _ (List.mem_of_getElem? (i := 7) rfl)) (hw _ (List.mem_of_getElem? (i := 6) rfl)) (by decide) (by decide)) (g := (mkF m 112 #[iv p1, iv k, rv o_CONFLICT, iv (409 : Int32)] [(.ref o_CONFLICT)])) rfl (by rw [hml]; rfl) (argsL := [(.ref o_CONFLICT)]) (rest := []) (lenOf own_pd__Lcom_example_mortise_mortise_store_RejectedChangeException_Reason__I rfl) rfl (by show 2 * 0 + _ ≤ _; exact Nat.le_of_eq rfl) (hb hby at_112) (fun _ _ => ⟨rfl, e13, (by decide : 0 + 0 ≤ _), (by decide : 0 + 0 ≤ _)⟩)
              dsimp only [Pt.U, Pt.locs, Pt.cells, Pt.slots] at X14 l14 y14 z14 st14 hQ14
              subst l14 y14 z14
              obtain ⟨rfl, Nq14, e14⟩ := hQ14
              have N14 := Fr.app N0 Nq14
              refine own_go st14 ?_
              show own_Go p e below s _ _ _ (T14.setTop (mkF m 115 #[iv p1, iv k, rv o_CONFLICT, iv (409 : Int32)] [(.int (409 : Int32))]))
              refine own_go (fun zt zk => (XS.iloadN X14.here hx rfl (hb hby at_115) rfl (XS.icmpNo X14.here hx rfl (hb hby at_116) rfl (teq (rfl : (409 : Int32) = (409 : Int32))).2 (XS.iconst X14.here hx rfl (hb hby at_119) (XS.goto X14.here hx rfl (pc0 := 120) (pc' := 124) rfl (hb hby at_120) (by decide) (by decide) zk))))) ?_
              show own_Go p e below s _ _ _ (T14.setTop (mkF m 124 #[iv p1, iv k, rv o_CONFLICT, iv (409 : Int32)] [(.int (1 : Int32))]))
              exact own_fin X14 Bd.notSynchronized (fun h => by rw [Bd.returns] at h; cases h) (fun fs hr => retN X14 hx (t := .boolean) Bd.returns (by simp) (hb hby at_124) hr) (by rw [e14]; exact ⟨rfl, N14⟩) (by decide) (by decide)
set_option maxRecDepth 65536 in
set_option maxHeartbeats 40000000 in
theorem comes_1 {Post : Tables → Env → Array Value → State → Outcome → State → Prop} (hpost : ∀ tb e args s v u, (limb_1_1.after args s (.returned v) u = true ∧ limb_1_2.after args s (.returned v) u = true ∧ True) → FrameEnd s (.returned v) u (Jvm.fieldLocs frame_1_writes args s ++ Jvm.arrayLocs frame_1_arrays args s ++ Jvm.staticLocs frame_1_statics s) 0 0 → Post tb e args s (.returned v) u) :
    ArmFor flags0 classFile x code maxLocals ret World_1 tables_1 room_1 Calls_1 rest_1 Pre_1 Post := by
  intro l hfl _ _ p e ha hc hk s m args below hf hA hF happ hP
  obtain ⟨hcalls, hrest, hpre⟩ := hP
  obtain ⟨-, -, -, hnamed, -, -, -, hat⟩ := (Spec.applies_iff hf).mp happ
  obtain ⟨hg, hn⟩ := and_e (Cond.before_iff.mp (show (Jvm.Cond.and given_1 narrow_1).before args s = true from hpre))
  obtain ⟨g0, r0⟩ := and_e hg
  have g1 := r0
  obtain ⟨w0, rfl⟩ : ∃ w0 : Value, args = #[w0] := by
    have hs : args.size = 1 := by simpa [Cond.value, given_1] using g0
    obtain ⟨L⟩ := args
    match L, hs with
    | [w0], _ => exact ⟨w0, rfl⟩
  have hw := fun d (hd : d ∈ tables_1) => atoms_spec (ws := Jvm.Cond.code x code maxLocals ret :: tables_1) hat d (List.mem_cons_of_mem _ hd)
  have hfit : Fit s := fun {y c} hc i hi => by
    obtain ⟨ha, rfl⟩ := Array.getElem?_eq_some_iff.mp hc
    have q := List.all_eq_true.mp ((Array.all_eq_true_iff_forall_mem.mp hF) _ (Array.getElem_mem ha)) i (List.mem_range.mpr hi)
    simpa [Array.getElem?_eq_getElem hi] using q
  obtain ⟨i0, ei0⟩ := is_v g1
  obtain rfl : w0 = (.int i0) := Option.some.inj ei0
  obtain ⟨n0, m0⟩ := and_e hn
  obtain ⟨n1, m1⟩ := and_e m0
  obtain ⟨n2, m2⟩ := and_e m1
  obtain ⟨n3, m3⟩ := and_e m2
  obtain ⟨n4, m4⟩ := and_e m3
  obtain ⟨n5, m5⟩ := and_e m4
  obtain ⟨n6, m6⟩ := and_e m5
  obtain ⟨n7, m7⟩ := and_e m6
  obtain ⟨n8, m8⟩ := and_e m7
  obtain ⟨n9, m9⟩ := and_e m8
  obtain ⟨n10, m10⟩ := and_e m9
  obtain ⟨n11, m11⟩ := and_e m10
  obtain ⟨n12, m12⟩ := and_e m11
  obtain ⟨n13, m13⟩ := and_e m12
  obtain ⟨n14, m14⟩ := and_e m13
  obtain ⟨n15, m15⟩ := and_e m14
  obtain ⟨n16, m16⟩ := and_e m15
  obtain ⟨n17, m17⟩ := and_e m16
  have n18 := m17
  obtain ⟨o_NO_PARENT_COLLECTION, e_o_NO_PARENT_COLLECTION⟩ := exa_v n0
  have S_o_NO_PARENT_COLLECTION := Sta.start e_o_NO_PARENT_COLLECTION (Or.inr ⟨hw _ (List.mem_of_getElem? (i := 2) rfl), hw _ (List.mem_of_getElem? (i := 3) rfl)⟩)
  have Ex_o_NO_PARENT_COLLECTION := Exa.start e_o_NO_PARENT_COLLECTION n0
  obtain ⟨o__SwitchMap_com_example_mortise_mortise_store_RejectedChangeException_Reason, e_o__SwitchMap_com_example_mortise_mortise_store_RejectedChangeException_Reason⟩ := arr_v n1
  obtain ⟨cl_o__SwitchMap_com_example_mortise_mortise_store_RejectedChangeException_Reason, Ar_o__SwitchMap_com_example_mortise_mortise_store_RejectedChangeException_Reason⟩ := Arr.start e_o__SwitchMap_com_example_mortise_mortise_store_RejectedChangeException_Reason n1
  have S_o__SwitchMap_com_example_mortise_mortise_store_RejectedChangeException_Reason := Sta.start e_o__SwitchMap_com_example_mortise_mortise_store_RejectedChangeException_Reason (Or.inr ⟨hw _ (List.mem_of_getElem? (i := 9) rfl), hw _ (List.mem_of_getElem? (i := 10) rfl)⟩)
  have Ln_o__SwitchMap_com_example_mortise_mortise_store_RejectedChangeException_Reason := own_len (own_eqI n2) e_o__SwitchMap_com_example_mortise_mortise_store_RejectedChangeException_Reason Ar_o__SwitchMap_com_example_mortise_mortise_store_RejectedChangeException_Reason
  have F_o_NO_PARENT_COLLECTION_ordinal := Fld.start ((fld_at e_o_NO_PARENT_COLLECTION).symm.trans (own_eqI n3))
  obtain ⟨o_NOT_FOUND, e_o_NOT_FOUND⟩ := exa_v n4
  have S_o_NOT_FOUND := Sta.start e_o_NOT_FOUND (Or.inr ⟨hw _ (List.mem_of_getElem? (i := 2) rfl), hw _ (List.mem_of_getElem? (i := 21) rfl)⟩)
  have Ex_o_NOT_FOUND := Exa.start e_o_NOT_FOUND n4
  have F_o_NOT_FOUND_ordinal := Fld.start ((fld_at e_o_NOT_FOUND).symm.trans (own_eqI n5))
  obtain ⟨o_WITHIN_SOURCE, e_o_WITHIN_SOURCE⟩ := exa_v n6
  have S_o_WITHIN_SOURCE := Sta.start e_o_WITHIN_SOURCE (Or.inr ⟨hw _ (List.mem_of_getElem? (i := 2) rfl), hw _ (List.mem_of_getElem? (i := 23) rfl)⟩)
  have Ex_o_WITHIN_SOURCE := Exa.start e_o_WITHIN_SOURCE n6
  have F_o_WITHIN_SOURCE_ordinal := Fld.start ((fld_at e_o_WITHIN_SOURCE).symm.trans (own_eqI n7))
  obtain ⟨o_CONFLICT, e_o_CONFLICT⟩ := exa_v n8
  have S_o_CONFLICT := Sta.start e_o_CONFLICT (Or.inr ⟨hw _ (List.mem_of_getElem? (i := 2) rfl), hw _ (List.mem_of_getElem? (i := 25) rfl)⟩)
  have Ex_o_CONFLICT := Exa.start e_o_CONFLICT n8
  have F_o_CONFLICT_ordinal := Fld.start ((fld_at e_o_CONFLICT).symm.trans (own_eqI n9))
  obtain ⟨o_ROOT, e_o_ROOT⟩ := exa_v n10
  have S_o_ROOT := Sta.start e_o_ROOT (Or.inr ⟨hw _ (List.mem_of_getElem? (i := 2) rfl), hw _ (List.mem_of_getElem? (i := 27) rfl)⟩)
  have Ex_o_ROOT := Exa.start e_o_ROOT n10
  have F_o_ROOT_ordinal := Fld.start ((fld_at e_o_ROOT).symm.trans (own_eqI n11))
  obtain ⟨o_COLLECTION, e_o_COLLECTION⟩ := exa_v n12
  have S_o_COLLECTION := Sta.start e_o_COLLECTION (Or.inr ⟨hw _ (List.mem_of_getElem? (i := 2) rfl), hw _ (List.mem_of_getElem? (i := 29) rfl)⟩)
  have Ex_o_COLLECTION := Exa.start e_o_COLLECTION n12
  have F_o_COLLECTION_ordinal := Fld.start ((fld_at e_o_COLLECTION).symm.trans (own_eqI n13))
  obtain ⟨o_EXISTS, e_o_EXISTS⟩ := exa_v n14
  have S_o_EXISTS := Sta.start e_o_EXISTS (Or.inr ⟨hw _ (List.mem_of_getElem? (i := 2) rfl), hw _ (List.mem_of_getElem? (i := 31) rfl)⟩)
  have Ex_o_EXISTS := Exa.start e_o_EXISTS n14
  have F_o_EXISTS_ordinal := Fld.start ((fld_at e_o_EXISTS).symm.trans (own_eqI n15))
  have El_o__SwitchMap_com_example_mortise_mortise_store_RejectedChangeException_Reason_0 := (elem_in (own_eqI n16) e_o__SwitchMap_com_example_mortise_mortise_store_RejectedChangeException_Reason (Term.int_eval 0) Ar_o__SwitchMap_com_example_mortise_mortise_store_RejectedChangeException_Reason.1).2
  have Al := Cond.all_elim e_o__SwitchMap_com_example_mortise_mortise_store_RejectedChangeException_Reason (Ar_o__SwitchMap_com_example_mortise_mortise_store_RejectedChangeException_Reason.fin (Vm.Alike.refl _)) n17
  have El_o__SwitchMap_com_example_mortise_mortise_store_RejectedChangeException_Reason_1 := own_all0 1 3 (fun _ => e_o__SwitchMap_com_example_mortise_mortise_store_RejectedChangeException_Reason) Ar_o__SwitchMap_com_example_mortise_mortise_store_RejectedChangeException_Reason (Al 1 (by rw [own_sz Ln_o__SwitchMap_com_example_mortise_mortise_store_RejectedChangeException_Reason (by decide)]; decide)) (by decide) (by decide) (by decide) (by decide)
  have El_o__SwitchMap_com_example_mortise_mortise_store_RejectedChangeException_Reason_2 := own_all0 2 4 (fun _ => e_o__SwitchMap_com_example_mortise_mortise_store_RejectedChangeException_Reason) Ar_o__SwitchMap_com_example_mortise_mortise_store_RejectedChangeException_Reason (Al 2 (by rw [own_sz Ln_o__SwitchMap_com_example_mortise_mortise_store_RejectedChangeException_Reason (by decide)]; decide)) (by decide) (by decide) (by decide) (by decide)
  have El_o__SwitchMap_com_example_mortise_mortise_store_RejectedChangeException_Reason_3 := own_all0 3 5 (fun _ => e_o__SwitchMap_com_example_mortise_mortise_store_RejectedChangeException_Reason) Ar_o__SwitchMap_com_example_mortise_mortise_store_RejectedChangeException_Reason (Al 3 (by rw [own_sz Ln_o__SwitchMap_com_example_mortise_mortise_store_RejectedChangeException_Reason (by decide)]; decide)) (by decide) (by decide) (by decide) (by decide)
  have El_o__SwitchMap_com_example_mortise_mortise_store_RejectedChangeException_Reason_4 := own_all0 4 6 (fun _ => e_o__SwitchMap_com_example_mortise_mortise_store_RejectedChangeException_Reason) Ar_o__SwitchMap_com_example_mortise_mortise_store_RejectedChangeException_Reason (Al 4 (by rw [own_sz Ln_o__SwitchMap_com_example_mortise_mortise_store_RejectedChangeException_Reason (by decide)]; decide)) (by decide) (by decide) (by decide) (by decide)
  have El_o__SwitchMap_com_example_mortise_mortise_store_RejectedChangeException_Reason_5 := own_all0 5 7 (fun _ => e_o__SwitchMap_com_example_mortise_mortise_store_RejectedChangeException_Reason) Ar_o__SwitchMap_com_example_mortise_mortise_store_RejectedChangeException_Reason (Al 5 (by rw [own_sz Ln_o__SwitchMap_com_example_mortise_mortise_store_RejectedChangeException_Reason (by decide)]; decide)) (by decide) (by decide) (by decide) (by decide)
  have El_o__SwitchMap_com_example_mortise_mortise_store_RejectedChangeException_Reason_6 := (elem_in (own_eqI n18) e_o__SwitchMap_com_example_mortise_mortise_store_RejectedChangeException_Reason (Term.int_eval 6) Ar_o__SwitchMap_com_example_mortise_mortise_store_RejectedChangeException_Reason.1).2
  have V_o__SwitchMap_com_example_mortise_mortise_store_RejectedChangeException_Reason : Arv s s.heap o__SwitchMap_com_example_mortise_mortise_store_RejectedChangeException_Reason cl_o__SwitchMap_com_example_mortise_mortise_store_RejectedChangeException_Reason.cls .int (7 : Int32) [(.int (1 : Int32)), (.int (3 : Int32)), (.int (4 : Int32)), (.int (5 : Int32)), (.int (6 : Int32)), (.int (7 : Int32)), (.int (2 : Int32))] (.int (0 : Int32)) := Arv.start hfit Ar_o__SwitchMap_com_example_mortise_mortise_store_RejectedChangeException_Reason Ln_o__SwitchMap_com_example_mortise_mortise_store_RejectedChangeException_Reason.1 Ln_o__SwitchMap_com_example_mortise_mortise_store_RejectedChangeException_Reason.2 (by decide) rfl ⟨El_o__SwitchMap_com_example_mortise_mortise_store_RejectedChangeException_Reason_0, El_o__SwitchMap_com_example_mortise_mortise_store_RejectedChangeException_Reason_1, El_o__SwitchMap_com_example_mortise_mortise_store_RejectedChangeException_Reason_2, El_o__SwitchMap_com_example_mortise_mortise_store_RejectedChangeException_Reason_3, El_o__SwitchMap_com_example_mortise_mortise_store_RejectedChangeException_Reason_4, El_o__SwitchMap_com_example_mortise_mortise_store_RejectedChangeException_Reason_5, El_o__SwitchMap_com_example_mortise_mortise_store_RejectedChangeException_Reason_6, trivial⟩
  obtain ⟨n, o, h1, h2, h3, _, L, rfl, ⟨rfl, N⟩, hq⟩ := own_law l s _ hw tables_1 i0 o_NO_PARENT_COLLECTION o__SwitchMap_com_example_mortise_mortise_store_RejectedChangeException_Reason o_NOT_FOUND o_WITHIN_SOURCE o_CONFLICT o_ROOT o_COLLECTION o_EXISTS cl_o__SwitchMap_com_example_mortise_mortise_store_RejectedChangeException_Reason.cls s.heap s.heap.size (Nat.le_refl _) (Old.start s) S_o_NO_PARENT_COLLECTION Ex_o_NO_PARENT_COLLECTION S_o__SwitchMap_com_example_mortise_mortise_store_RejectedChangeException_Reason F_o_NO_PARENT_COLLECTION_ordinal S_o_NOT_FOUND Ex_o_NOT_FOUND F_o_NOT_FOUND_ordinal S_o_WITHIN_SOURCE Ex_o_WITHIN_SOURCE F_o_WITHIN_SOURCE_ordinal S_o_CONFLICT Ex_o_CONFLICT F_o_CONFLICT_ordinal S_o_ROOT Ex_o_ROOT F_o_ROOT_ordinal S_o_COLLECTION Ex_o_COLLECTION F_o_COLLECTION_ordinal S_o_EXISTS Ex_o_EXISTS F_o_EXISTS_ordinal V_o__SwitchMap_com_example_mortise_mortise_store_RejectedChangeException_Reason  p e ha hc hk s m _ below hf ((Spec.applies_iff_loose hf).mp happ).1 ⟨rfl, State.Warmed39.refl s, rfl⟩ trivial
  refine ⟨n, _, h1, h2, h3, hpost _ _ _ _ _ _ ⟨Cond.after_iff.mpr rfl, Cond.after_iff.mpr (eq_i res_at (Term.int_eval (1)) rfl), trivial⟩ ⟨hq.1, hq.2.1, (hq.2.2.sift fun y hy => Or.inr (N y hy)).mono (by decide) (by decide)⟩⟩
theorem main_1_1 : Claimed_1_1 := comes_1 fun _ _ _ _ _ _ h hF => ⟨h.1, hF⟩
theorem main_1_2 : Claimed_1_2 := comes_1 fun _ _ _ _ _ _ h hF => ⟨h.2.1, hF⟩
end Jvm.Pilot.@@N@@
namespace Jvm.Pilot.@@N@@
open Jvm Jvm.ClassFile Sem Op Lib Jvm.Free Jvm.Stand Jvm.Pilot.@@N@@.Jvm.D
/-! MADE BY PROGRAM (witnessworld.py) out of the Statement's table words and the real class files: 14 classes; the members and pool entries that the words name. The judged class is class 1, her method 1. -/
namespace start1
open Jvm.ClassFile
def u (s : String) : CpInfo := .utf8 (stringToUtf16 s)
/-- a pool by its gaps: so many unusable entries, then the entry; so many at the end -/
def gap : Nat → List CpInfo → List CpInfo
  | 0, r => r
  | n + 1, r => .unusable :: gap n r
def poolList (es : List (Nat × CpInfo)) (last : Nat) : List CpInfo := es.foldr (fun e r => gap e.1 (e.2 :: r)) (gap last [])
def pool (es : List (Nat × CpInfo)) (last : Nat) : Array CpInfo := ⟨poolList es last⟩
def fileOf (pool : Array CpInfo) (this : Nat) (attrs : Array Attribute := #[]) (ms : Array MethodInfo := #[]) (fl : Nat := 33) (sup : Nat := 0) (ifs : Array Nat := #[]) (fds : Array FieldInfo := #[]) : ClassFile where
  minorVersion := 0
  majorVersion := 65
  constantPool := pool
  accessFlags := fl
  thisClass := this
  superClass := sup
  interfaces := ifs
  fields := fds
  methods := ms
  attributes := attrs
def plain (name : String) (sup : Option ClassId) : Class where
  name := name
  kind := .ordinary
  loader := none
  accessFlags := 33
  super := sup
  interfaces := #[]
  cf := none
  fields := #[]
  methods := #[]
  instanceTypes := #[]
  staticTypes := #[]
  resolved := #[]
  callSites := []
  init := .initialized
  statics := none
  mirror := none

def pool0 : Array CpInfo := pool [(5, u "<init>"), (0, u "()V"), (1, .class_ 10), (1, u "java/lang/Object")] 113

def k0m0 : Method := { name := "<init>", desc := "()V", sig := { parameters := [], returnType := none }, accessFlags := 1, code := none }
/-- java/lang/Object -/
def k0 : Class := { plain "java/lang/Object" none with
  accessFlags := 33
  interfaces := #[]
  cf := some (fileOf pool0 8 #[] #[{ accessFlags := 1, nameIndex := 5, descriptorIndex := 6, attributes := #[] }] 33 0 #[] #[])
  fields := #[]
  methods := #[k0m0]
  instanceTypes := #[]
  staticTypes := #[]
  resolved := Array.replicate 124 none
  statics := none }

def pool1 : Array CpInfo := pool [(2, .class_ 4), (1, u "java/lang/Object"), (0, u "<init>"), (0, u "()V"), (0, .integer 2147483647), (0, .fieldref 9 10), (0, .class_ 11), (0, .nameAndType 12 13), (0, u "com/example/mortise/mortise/store/RejectedChangeException$Reason"), (0, u "NO_PARENT_COLLECTION"), (0, u "Lcom/example/mortise/mortise/store/RejectedChangeException$Reason;"), (0, .fieldref 9 15), (0, .nameAndType 16 13), (0, u "EXISTS"), (0, .fieldref 9 18), (0, .nameAndType 19 13), (0, u "COLLECTION"), (0, .fieldref 9 21), (0, .nameAndType 22 13), (0, u "NOT_FOUND"), (0, .fieldref 9 24), (0, .nameAndType 25 13), (0, u "ROOT"), (0, .fieldref 9 27), (0, .nameAndType 28 13), (0, u "WITHIN_SOURCE"), (0, .fieldref 9 30), (0, .nameAndType 31 13), (0, u "CONFLICT"), (0, .methodref 33 34), (0, .class_ 35), (0, .nameAndType 36 37), (0, u "com/example/mortise/mortise/webdav/Exchanges"), (0, u "statusFor"), (0, u "(Lcom/example/mortise/mortise/store/RejectedChangeException$Reason;)I"), (0, .class_ 39), (0, u "com/example/mortise/mortise/webdav/ExchangesStatusForPinLaw"), (2, u "law"), (0, u "(I)Z")] 7

def k1m0 : Method := { name := "<init>", desc := "()V", sig := { parameters := [], returnType := none }, accessFlags := 2, code := none }
def k1c1 : Code := { maxStack := 2, maxLocals := 4, code := code, exceptionTable := #[], attributes := #[] }
def k1m1 : Method := { name := "law", desc := "(I)Z", sig := { parameters := [.int], returnType := some .boolean }, accessFlags := 9, code := some k1c1 }
/-- com/example/mortise/mortise/webdav/ExchangesStatusForPinLaw -/
def k1 : Class := { plain "com/example/mortise/mortise/webdav/ExchangesStatusForPinLaw" (some 0) with
  accessFlags := 49
  interfaces := #[]
  cf := some (fileOf pool1 38 #[] #[{ accessFlags := 2, nameIndex := 5, descriptorIndex := 6, attributes := #[] }, { accessFlags := 9, nameIndex := 42, descriptorIndex := 43, attributes := #[] }] 49 2 #[] #[])
  fields := #[]
  methods := #[k1m0, k1m1]
  instanceTypes := #[]
  staticTypes := #[]
  resolved := Array.replicate 51 none
  statics := none }

def pool2 : Array CpInfo := pool [(1, .class_ 2), (0, u "java/lang/constant/Constable"), (0, .class_ 4), (0, u "java/lang/Object")] 6

/-- java/lang/constant/Constable -/
def k2 : Class := { plain "java/lang/constant/Constable" (some 0) with
  accessFlags := 1537
  interfaces := #[]
  cf := some (fileOf pool2 1 #[] #[] 1537 3 #[] #[])
  fields := #[]
  methods := #[]
  instanceTypes := #[]
  staticTypes := #[]
  resolved := Array.replicate 11 none
  statics := none }

def pool3 : Array CpInfo := pool [(1, .class_ 2), (0, u "java/lang/Comparable"), (0, .class_ 4), (0, u "java/lang/Object")] 7

/-- java/lang/Comparable -/
def k3 : Class := { plain "java/lang/Comparable" (some 0) with
  accessFlags := 1537
  interfaces := #[]
  cf := some (fileOf pool3 1 #[] #[] 1537 3 #[] #[])
  fields := #[]
  methods := #[]
  instanceTypes := #[]
  staticTypes := #[]
  resolved := Array.replicate 12 none
  statics := none }

def pool4 : Array CpInfo := pool [(1, .class_ 2), (0, u "java/io/Serializable"), (0, .class_ 4), (0, u "java/lang/Object")] 2

/-- java/io/Serializable -/
def k4 : Class := { plain "java/io/Serializable" (some 0) with
  accessFlags := 1537
  interfaces := #[]
  cf := some (fileOf pool4 1 #[] #[] 1537 3 #[] #[])
  fields := #[]
  methods := #[]
  instanceTypes := #[]
  staticTypes := #[]
  resolved := Array.replicate 7 none
  statics := none }

def pool5 : Array CpInfo := pool [(2, .class_ 4), (1, u "java/lang/Enum"), (0, u "name"), (0, u "Ljava/lang/String;"), (0, .fieldref 2 8), (0, .nameAndType 9 10), (0, u "ordinal"), (0, u "I"), (1, .class_ 14), (1, u "java/lang/Object"), (4, u "hash"), (86, .class_ 108), (1, u "java/lang/Enum$EnumDesc"), (2, .class_ 112), (0, u "java/lang/constant/Constable"), (0, .class_ 114), (0, u "java/lang/Comparable"), (0, .class_ 116), (0, u "java/io/Serializable"), (9, u "()I")] 77

def k5c0 : Code := { maxStack := 1, maxLocals := 1, code := jdk_37_method_2_code, exceptionTable := #[], attributes := #[] }
def k5m0 : Method := { name := "ordinal", desc := "()I", sig := { parameters := [], returnType := some .int }, accessFlags := 17, code := some k5c0 }
/-- java/lang/Enum -/
def k5 : Class := { plain "java/lang/Enum" (some 0) with
  accessFlags := 1057
  interfaces := #[2, 3, 4]
  cf := some (fileOf pool5 2 #[.nestMembers #[106]] #[{ accessFlags := 17, nameIndex := 9, descriptorIndex := 126, attributes := #[] }] 1057 12 #[111, 113, 115] #[{ accessFlags := 18, nameIndex := 5, descriptorIndex := 6, attributes := #[] }, { accessFlags := 18, nameIndex := 9, descriptorIndex := 10, attributes := #[] }, { accessFlags := 2, nameIndex := 19, descriptorIndex := 10, attributes := #[] }])
  fields := #[{ name := "name", type := (.object "java/lang/String"), accessFlags := 18, slot := 0, constantValue := 0 }, { name := "ordinal", type := .int, accessFlags := 18, slot := 1, constantValue := 0 }, { name := "hash", type := .int, accessFlags := 2, slot := 2, constantValue := 0 }]
  methods := #[k5m0]
  instanceTypes := #[(.object "java/lang/String"), .int, .int]
  staticTypes := #[]
  resolved := Array.replicate 204 none
  statics := none }

def pool6 : Array CpInfo := pool [(1, .class_ 2), (0, u "com/example/mortise/mortise/store/RejectedChangeException$Reason"), (2, u "NO_PARENT_COLLECTION"), (0, u "Lcom/example/mortise/mortise/store/RejectedChangeException$Reason;"), (2, u "EXISTS"), (2, u "COLLECTION"), (2, u "NOT_FOUND"), (2, u "ROOT"), (2, u "WITHIN_SOURCE"), (2, u "CONFLICT"), (2, u "$VALUES"), (0, u "[Lcom/example/mortise/mortise/store/RejectedChangeException$Reason;"), (6, .class_ 37), (1, u "java/lang/Enum"), (30, .class_ 69), (0, u "com/example/mortise/mortise/store/RejectedChangeException")] 2

/-- com/example/mortise/mortise/store/RejectedChangeException$Reason -/
def k6 : Class := { plain "com/example/mortise/mortise/store/RejectedChangeException$Reason" (some 5) with
  accessFlags := 16433
  interfaces := #[]
  cf := some (fileOf pool6 1 #[.nestHost 68] #[] 16433 35 #[] #[{ accessFlags := 16409, nameIndex := 5, descriptorIndex := 6, attributes := #[] }, { accessFlags := 16409, nameIndex := 9, descriptorIndex := 6, attributes := #[] }, { accessFlags := 16409, nameIndex := 12, descriptorIndex := 6, attributes := #[] }, { accessFlags := 16409, nameIndex := 15, descriptorIndex := 6, attributes := #[] }, { accessFlags := 16409, nameIndex := 18, descriptorIndex := 6, attributes := #[] }, { accessFlags := 16409, nameIndex := 21, descriptorIndex := 6, attributes := #[] }, { accessFlags := 16409, nameIndex := 24, descriptorIndex := 6, attributes := #[] }, { accessFlags := 4122, nameIndex := 27, descriptorIndex := 28, attributes := #[] }])
  fields := #[{ name := "NO_PARENT_COLLECTION", type := (.object "com/example/mortise/mortise/store/RejectedChangeException$Reason"), accessFlags := 16409, slot := 0, constantValue := 0 }, { name := "EXISTS", type := (.object "com/example/mortise/mortise/store/RejectedChangeException$Reason"), accessFlags := 16409, slot := 1, constantValue := 0 }, { name := "COLLECTION", type := (.object "com/example/mortise/mortise/store/RejectedChangeException$Reason"), accessFlags := 16409, slot := 2, constantValue := 0 }, { name := "NOT_FOUND", type := (.object "com/example/mortise/mortise/store/RejectedChangeException$Reason"), accessFlags := 16409, slot := 3, constantValue := 0 }, { name := "ROOT", type := (.object "com/example/mortise/mortise/store/RejectedChangeException$Reason"), accessFlags := 16409, slot := 4, constantValue := 0 }, { name := "WITHIN_SOURCE", type := (.object "com/example/mortise/mortise/store/RejectedChangeException$Reason"), accessFlags := 16409, slot := 5, constantValue := 0 }, { name := "CONFLICT", type := (.object "com/example/mortise/mortise/store/RejectedChangeException$Reason"), accessFlags := 16409, slot := 6, constantValue := 0 }, { name := "$VALUES", type := (.array (.object "com/example/mortise/mortise/store/RejectedChangeException$Reason")), accessFlags := 4122, slot := 7, constantValue := 0 }]
  methods := #[]
  instanceTypes := #[(.object "java/lang/String"), .int, .int]
  staticTypes := #[(.object "com/example/mortise/mortise/store/RejectedChangeException$Reason"), (.object "com/example/mortise/mortise/store/RejectedChangeException$Reason"), (.object "com/example/mortise/mortise/store/RejectedChangeException$Reason"), (.object "com/example/mortise/mortise/store/RejectedChangeException$Reason"), (.object "com/example/mortise/mortise/store/RejectedChangeException$Reason"), (.object "com/example/mortise/mortise/store/RejectedChangeException$Reason"), (.object "com/example/mortise/mortise/store/RejectedChangeException$Reason"), (.array (.object "com/example/mortise/mortise/store/RejectedChangeException$Reason"))]
  resolved := Array.replicate 72 none
  statics := some 0 }

def pool7 : Array CpInfo := pool [(2, .class_ 4), (1, u "java/lang/Object"), (0, u "<init>"), (0, u "()V"), (6, .class_ 14), (0, u "com/example/mortise/mortise/webdav/Exchanges"), (135, .fieldref 151 152), (0, .class_ 153), (0, .nameAndType 154 155), (0, u "com/example/mortise/mortise/webdav/Exchanges$1"), (0, u "$SwitchMap$com$example$mortise$mortise$store$RejectedChangeException$Reason"), (0, u "[I"), (0, .methodref 157 158), (0, .class_ 159), (0, .nameAndType 160 161), (0, u "com/example/mortise/mortise/store/RejectedChangeException$Reason"), (0, u "ordinal"), (0, u "()I"), (11, u "DEFAULT_MEDIA_TYPE"), (0, u "Ljava/lang/String;"), (3, u "MAX_BODY"), (0, u "I"), (19, u "statusFor"), (0, u "(Lcom/example/mortise/mortise/store/RejectedChangeException$Reason;)I")] 36

def k7m0 : Method := { name := "<init>", desc := "()V", sig := { parameters := [], returnType := none }, accessFlags := 2, code := none }
def k7c1 : Code := { maxStack := 4, maxLocals := 1, code := prog_74_method_11_code, exceptionTable := #[], attributes := #[] }
def k7m1 : Method := { name := "statusFor", desc := "(Lcom/example/mortise/mortise/store/RejectedChangeException$Reason;)I", sig := { parameters := [(.object "com/example/mortise/mortise/store/RejectedChangeException$Reason")], returnType := some .int }, accessFlags := 8, code := some k7c1 }
/-- com/example/mortise/mortise/webdav/Exchanges -/
def k7 : Class := { plain "com/example/mortise/mortise/webdav/Exchanges" (some 0) with
  accessFlags := 48
  interfaces := #[]
  cf := some (fileOf pool7 13 #[.nestMembers #[151]] #[{ accessFlags := 2, nameIndex := 5, descriptorIndex := 6, attributes := #[] }, { accessFlags := 8, nameIndex := 199, descriptorIndex := 200, attributes := #[] }] 48 2 #[] #[{ accessFlags := 24, nameIndex := 173, descriptorIndex := 174, attributes := #[] }, { accessFlags := 26, nameIndex := 178, descriptorIndex := 179, attributes := #[] }])
  fields := #[{ name := "DEFAULT_MEDIA_TYPE", type := (.object "java/lang/String"), accessFlags := 24, slot := 0, constantValue := 0 }, { name := "MAX_BODY", type := .int, accessFlags := 26, slot := 1, constantValue := 0 }]
  methods := #[k7m0, k7m1]
  instanceTypes := #[]
  staticTypes := #[(.object "java/lang/String"), .int]
  resolved := Array.replicate 237 none
  statics := none }

def pool8 : Array CpInfo := pool [(8, .class_ 10), (1, u "com/example/mortise/mortise/webdav/Exchanges$1"), (0, u "$SwitchMap$com$example$mortise$mortise$store$RejectedChangeException$Reason"), (0, u "[I"), (28, .class_ 42), (0, u "java/lang/Object"), (8, .class_ 52), (0, u "com/example/mortise/mortise/webdav/Exchanges")] 5

/-- com/example/mortise/mortise/webdav/Exchanges$1 -/
def k8 : Class := { plain "com/example/mortise/mortise/webdav/Exchanges$1" (some 0) with
  accessFlags := 4128
  interfaces := #[]
  cf := some (fileOf pool8 8 #[.nestHost 51] #[] 4128 41 #[] #[{ accessFlags := 4120, nameIndex := 11, descriptorIndex := 12, attributes := #[] }])
  fields := #[{ name := "$SwitchMap$com$example$mortise$mortise$store$RejectedChangeException$Reason", type := (.array .int), accessFlags := 4120, slot := 0, constantValue := 0 }]
  methods := #[]
  instanceTypes := #[]
  staticTypes := #[(.array .int)]
  resolved := Array.replicate 58 none
  statics := some 1 }

def pool9 : Array CpInfo := pool [(1, u "java/lang/Cloneable"), (0, .class_ 1), (0, u "java/lang/Object"), (0, .class_ 3)] 3

/-- java/lang/Cloneable -/
def k9 : Class := { plain "java/lang/Cloneable" (some 0) with
  accessFlags := 1537
  interfaces := #[]
  cf := some (fileOf pool9 2 #[] #[] 1537 4 #[] #[])
  fields := #[]
  methods := #[]
  instanceTypes := #[]
  staticTypes := #[]
  resolved := Array.replicate 8 none
  statics := none }

/-- the primitive byte -/
def k10 : Class := { plain "byte" none with kind := .primitive 'B', accessFlags := 0x411 }
/-- [B -/
def k11 : Class := { plain "[B" (some 0) with kind := .array 10 .byte, interfaces := #[9, 4], accessFlags := 1041 }

/-- the primitive int -/
def k12 : Class := { plain "int" none with kind := .primitive 'I', accessFlags := 0x411 }
/-- [I -/
def k13 : Class := { plain "[I" (some 0) with kind := .array 12 .int, interfaces := #[9, 4], accessFlags := 1041 }

def heap : Heap := #[{ cls := 6, slots := #[.ref 2, .ref 9, .ref 8, .ref 4, .ref 7, .ref 5, .ref 6, .null], vm := .statics 6 },
  { cls := 8, slots := #[.ref 3], vm := .statics 8 },
  { cls := 6, slots := #[.null, .int 0, .int 0], vm := .none },
  { cls := 13, slots := #[.int 1, .int 3, .int 4, .int 5, .int 6, .int 7, .int 2], vm := .none },
  { cls := 6, slots := #[.null, .int 3, .int 0], vm := .none },
  { cls := 6, slots := #[.null, .int 5, .int 0], vm := .none },
  { cls := 6, slots := #[.null, .int 6, .int 0], vm := .none },
  { cls := 6, slots := #[.null, .int 4, .int 0], vm := .none },
  { cls := 6, slots := #[.null, .int 2, .int 0], vm := .none },
  { cls := 6, slots := #[.null, .int 1, .int 0], vm := .none }]
def classes : Array Class := #[k0, k1, k2, k3, k4, k5, k6, k7, k8, k9, k10, k11, k12, k13]
def interned : List (Array UInt16 × Addr) := []
def slotsUsed : Nat := 37
def theMethod : MethodId := ⟨1, 1⟩
def args0 : Array Value := #[.int 5]
def aboutOver (below : List Frame) : State where
  vm := { classes := classes, interned := interned.toArray }
  heap := heap
  slotsUsed := slotsUsed
  threads := #[{ frames := .invoking theMethod args0 :: below }]
def below0 : List Frame := [.native { method := ⟨0, 0⟩, args := #[] }]
def about1 : State := aboutOver below0
def p0 : Program := .bare "" "" ""
def e0 : Env := launch0.env 0 0 0
theorem w_frames : about1.frames = Frame.invoking theMethod args0 :: below0 := rfl
set_option maxRecDepth 65536 in
theorem w_args : argsFit about1.vm theMethod args0 = true := by decide +kernel
set_option maxRecDepth 65536 in
theorem w_heap : heapFits about1 = true := by decide +kernel
set_option maxRecDepth 65536 in
theorem w_runnable : about1.curStatus? = some .runnable := by decide +kernel
set_option maxRecDepth 65536 in
theorem w_alone : about1.alone = true := by decide +kernel
set_option maxRecDepth 65536 in
theorem w_named : about1.methodNamed? x = some theMethod := by decide +kernel
set_option maxRecDepth 65536 in
theorem w_hears : about1.hears theMethod below0 = true := by decide +kernel
set_option maxRecDepth 65536 in
theorem w_ripe : about1.ripe theMethod args0 below0 = true := by decide +kernel
theorem w_running : about1.status = .running := rfl
set_option maxRecDepth 65536 in
theorem w_room : about1.hasRoom e0.platform room_1 = true :=
  launch0.hasRoom_least _ room_1 (by decide +kernel) (by decide +kernel) (by decide +kernel) (by decide +kernel) (by decide +kernel) (by decide +kernel)
theorem allAtoms_all (ts : List Jvm.Cond) (a : Array Jvm.Value) (st : Jvm.State) : (allAtoms ts).before a st = ts.all (fun c => c.before a st) := by
  induction ts with
  | nil => rfl
  | cons c t ih =>
    show (Jvm.Cond.and c (allAtoms t)).before a st = _
    rw [Jvm.Cond.before_and, ih, List.all_cons]
def words1 : List Jvm.Cond := Jvm.Cond.code x code maxLocals ret :: tables_1
/-- a 'code' word, met by the world's own term for the bytes: nothing is compared byte by byte -/
theorem code_word {y : MethodName} {bytes : ByteArray} {mx : Nat} {rt : Option FieldType} {a : Array Value} {s : State} {m : MethodId} {meth : Method} {c : Code} (h1 : s.methodNamed? y = some m) (h2 : s.vm.method? m = some meth) (h3 : meth.code = some c) (h4 : c.code = bytes)
    (h5 : (c.maxLocals == mx && c.exceptionTable.isEmpty && decide (c.maxStack ≤ mostOperands) && decide (meth.sig.returnType = rt) && !meth.locks && decide (parseMethodDescriptor y.desc = some meth.sig)) = true) : (Jvm.Cond.code y bytes mx rt).before a s = true := by
  simp only [Bool.and_eq_true, beq_iff_eq, Bool.not_eq_true', decide_eq_true_eq] at h5
  obtain ⟨⟨⟨⟨⟨g1, g2⟩, g3⟩, g4⟩, g5⟩, g6⟩ := h5
  simp [Cond.before, Cond.holds, Cond.value, h1, h2, h3, h4, g1, g2, g3, g4, g5, g6]
def isCode : Jvm.Cond → Bool
  | .code _ _ _ _ => true
  | _ => false
theorem all_split {L : List Jvm.Cond} {P : Jvm.Cond → Bool} (h1 : L.all (fun c => isCode c || P c) = true) (h2 : ∀ c ∈ L.filter isCode, P c = true) : L.all P = true := by
  refine List.all_eq_true.mpr fun c hc => ?_
  have h := List.all_eq_true.mp h1 c hc
  rcases Bool.eq_false_or_eq_true (isCode c) with hi | hi
  · exact h2 c (List.mem_filter.mpr ⟨hc, hi⟩)
  · simpa [hi] using h
set_option maxRecDepth 65536 in
theorem w_c0 : (Jvm.Cond.code x code maxLocals ret).before args0 about1 = true := code_word (m := ⟨1, 1⟩) (meth := k1m1) (c := k1c1) (by decide +kernel) rfl rfl rfl (by decide +kernel)
set_option maxRecDepth 65536 in
theorem w_c1 : (Jvm.Cond.code ({ cls := "com/example/mortise/mortise/webdav/Exchanges", name := "statusFor", desc := "(Lcom/example/mortise/mortise/store/RejectedChangeException$Reason;)I" } : Jvm.MethodName) prog_74_method_11_code (1 : Nat) (Option.some Jvm.ClassFile.FieldType.int)).before args0 about1 = true := code_word (m := ⟨7, 1⟩) (meth := k7m1) (c := k7c1) (by decide +kernel) rfl rfl rfl (by decide +kernel)
set_option maxRecDepth 65536 in
theorem w_c2 : (Jvm.Cond.code ({ cls := "java/lang/Enum", name := "ordinal", desc := "()I" } : Jvm.MethodName) jdk_37_method_2_code (1 : Nat) (Option.some Jvm.ClassFile.FieldType.int)).before args0 about1 = true := code_word (m := ⟨5, 0⟩) (meth := k5m0) (c := k5c0) (by decide +kernel) rfl rfl rfl (by decide +kernel)
def codes1 : List Jvm.Cond := [Jvm.Cond.code x code maxLocals ret, Jvm.Cond.code ({ cls := "com/example/mortise/mortise/webdav/Exchanges", name := "statusFor", desc := "(Lcom/example/mortise/mortise/store/RejectedChangeException$Reason;)I" } : Jvm.MethodName) prog_74_method_11_code (1 : Nat) (Option.some Jvm.ClassFile.FieldType.int), Jvm.Cond.code ({ cls := "java/lang/Enum", name := "ordinal", desc := "()I" } : Jvm.MethodName) jdk_37_method_2_code (1 : Nat) (Option.some Jvm.ClassFile.FieldType.int)]
set_option maxRecDepth 65536 in
theorem codes_eq : words1.filter isCode = codes1 := rfl
theorem w_codes : ∀ c ∈ words1.filter isCode, c.before args0 about1 = true := by
  rw [codes_eq]
  intro c hc
  simp only [codes1, List.mem_cons, List.not_mem_nil, or_false] at hc
  rcases hc with rfl | rfl | rfl
  · exact w_c0
  · exact w_c1
  · exact w_c2
set_option maxRecDepth 65536 in
theorem w_t1 : (words1.take 24).all (fun c => isCode c || c.before args0 about1) = true := by decide +kernel
set_option maxRecDepth 65536 in
theorem w_t2 : (words1.drop 24).all (fun c => isCode c || c.before args0 about1) = true := by decide +kernel
theorem w_tables : (allAtoms (Jvm.Cond.code x code maxLocals ret :: tables_1)).before args0 about1 = true := by
  rw [allAtoms_all]
  show words1.all (fun c => c.before args0 about1) = true
  refine all_split ?_ w_codes
  rw [← List.take_append_drop 24 words1, List.all_append, w_t1, w_t2]
  rfl
set_option maxRecDepth 65536 in
theorem w_case : (Jvm.Cond.and given_1 narrow_1).before args0 about1 = true := by decide +kernel
theorem w_applies : (headSpec (Jvm.Cond.code x code maxLocals ret :: tables_1) room_1).applies x e0.platform about1 = true :=
  (Spec.applies_iff w_frames).mpr ⟨w_running, w_runnable, w_alone, w_named, w_hears, w_ripe, w_room, w_tables⟩
theorem atStart : AtStart classFile x code maxLocals ret World_1 tables_1 room_1 Calls_1 rest_1 Pre_1 launch0 p0 e0 about1 theMethod args0 below0 :=
  ⟨lists_1, trivial, launch0.admits_env _ _ _, launch0.least_env, fairChoices_fair.cas, fairChoices_fair.clock, w_frames, w_args, w_heap, w_applies, trivial, trivial, w_case⟩
end start1
theorem witness_1 : WitnessClaimed_1 := ⟨start1.p0, start1.e0, start1.about1, start1.theMethod, start1.args0, start1.below0, start1.atStart⟩
end Jvm.Pilot.@@N@@
