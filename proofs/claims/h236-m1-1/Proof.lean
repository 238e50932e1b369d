import JvmDerived
import JvmDerived.Pilot.@@N@@Statement
import JvmDerived.Pilot.@@N@@Code
set_option linter.unusedVariables false
set_option linter.unusedSimpArgs false
namespace Jvm.Pilot.@@N@@
open Jvm Jvm.ClassFile Sem Op Lib Jvm.Free Jvm.Stand Jvm.LawKit Jvm.RoadKit Bundle Jvm.Pilot.@@N@@.Jvm.D
theorem own_irr (x : Int32) : ¬ x < x := fun h => absurd (Int32.lt_iff_toInt_lt.mp h) (by omega)
theorem own_nn (x : Int32) : ¬ ((x &&& (2147483647 : Int32)) < (0 : Int32)) := fun h => by
  have h1 := Int32.lt_iff_toInt_lt.mp h
  have h2 := (c_and x 2147483647 (by decide)).1
  have h3 : (0 : Int32).toInt = 0 := rfl
  omega
def own_min (a b : Int32) : Int32 := if b < a then b else a
def own_max (a b : Int32) : Int32 := if a < b then b else a
theorem own_mm (a b : Int32) : ¬ (own_max a b < own_min a b) := fun h => by
  have h := Int32.lt_iff_toInt_lt.mp h
  unfold own_max own_min at h
  split at h <;> split at h <;> (simp only [Int32.lt_iff_toInt_lt] at *; omega)
theorem own_min_nn {a b : Int32} (ha : ¬ a < (0 : Int32)) (hb : ¬ b < (0 : Int32)) : ¬ (own_min a b < (0 : Int32)) := by unfold own_min; split <;> assumption
theorem own_max_nn {a b : Int32} (ha : ¬ a < (0 : Int32)) (hb : ¬ b < (0 : Int32)) : ¬ (own_max a b < (0 : Int32)) := by unfold own_max; split <;> assumption
theorem own_mod {x d k : Int32} {D : Int} (hd : d.toInt = D) (hD : 0 < D) (h : (x &&& (2147483647 : Int32)) % d = k) : 0 ≤ k.toInt ∧ k.toInt < D := by
  have h1 := (c_and x 2147483647 (by decide)).1
  have h2 := (c_irem (x &&& 2147483647) d D hd).1 h1
  rw [h] at h2
  rw [h2]
  exact ⟨Int.emod_nonneg _ (by omega), Int.emod_lt_of_pos _ hD⟩
theorem own_ne {k : Int32} (n : Nat) (hc : (Int32.ofNat n).toInt = (n : Int)) (h : ¬ k = Int32.ofNat n) : k.toInt ≠ (n : Int) := fun q => h (Int32.toInt_inj.mp (q.trans hc.symm))
theorem own_r255 {x c : Int32} (h : (x &&& (255 : Int32)) = c) : ¬ (c < (0 : Int32)) ∧ ¬ ((255 : Int32) < c) := by
  have h1 := c_and x 255 (by decide)
  rw [h] at h1
  have e1 : (255 : Int32).toInt = 255 := rfl
  have e0 : (0 : Int32).toInt = 0 := rfl
  simp only [Int32.lt_iff_toInt_lt]
  omega
theorem own_narc {c : Int32} (h : ¬ (c < (0 : Int32)) ∧ ¬ ((255 : Int32) < c)) : nar .char c = c := by
  have e1 : (255 : Int32).toInt = 255 := rfl
  have e0 : (0 : Int32).toInt = 0 := rfl
  have h1 := h.1
  have h2 := h.2
  simp only [Int32.lt_iff_toInt_lt] at h1 h2
  have h3 := c_i2c c
  apply Int32.toInt_inj.mp
  show c.toUInt32.toUInt16.toUInt32.toInt32.toInt = c.toInt
  omega
theorem own_fitc {c : Int32} (h : ¬ (c < (0 : Int32)) ∧ ¬ ((255 : Int32) < c)) : fits .char (.int c) = true := by
  have q := fits_nar_char c
  rw [own_narc h] at q
  exact q
theorem own_b8 (x : Int32) : x.toInt8.toInt32.toInt8.toInt32 = x.toInt8.toInt32 := Int32.toInt_inj.mp (by have a := c_i2b x; have b := c_i2b x.toInt8.toInt32; omega)
theorem own_shr0 (x : Int32) : x >>> ((0 : Int32) &&& 31) = x := Int32.toInt_inj.mp (by rw [c_ishr x 0 0 (by decide)]; simp)
theorem own_nar255 (x : Int32) : nar .char ((x &&& (255 : Int32)).toUInt32.toUInt16.toUInt32.toInt32) = x &&& (255 : Int32) := by rw [i2c_mask]; exact i2c_mask x
/-- from here the run comes to an end at which Q holds, at most so many cells and slots made -/
def own_Go (p : Program) (e : Env) (below : List Frame) (s : State) (Q : Option Value → Heap → List Loc → Prop) (C S : Nat) (A : State) : Prop :=
  ∃ s₂ o, Steps p.tables e below A s₂ ∧ s₂.status = .running ∧ Ended s₂ below o ∧ ∃ v L, o = .returned v ∧ Q v s₂.heap L ∧ FrameEnd s o s₂ L C S
theorem own_go {p : Program} {e : Env} {below : List Frame} {s : State} {Q : Option Value → Heap → List Loc → Prop} {C S : Nat} {A B : State} (k : ∀ t, Steps p.tables e below B t → Steps p.tables e below A t) (h : own_Go p e below s Q C S B) : own_Go p e below s Q C S A := by
  obtain ⟨s₂, o, h1, h2⟩ := h
  exact ⟨s₂, o, k _ h1, h2⟩
theorem own_fin {p : Program} {l : Launch} {e : Env} {R : Room} {s : State} {m : MethodId} {args : Array Value} {below : List Frame} {meth : Method} {c : Code} {T : State} {locs : List Loc} {cells slots : Nat} {Q : Option Value → Heap → List Loc → Prop} {C S : Nat} {A : State} {v : Option Value}
    (X : Stand p l e R s m args below meth c T locs cells slots) (hlocks : meth.locks = false) (hv : meth.sig.returnType = none → v = none)
    (st : ∀ fs, (∀ (f : JFrame) (acts : List Action), f.method = m → f.locked = none → f.entered = [] → (doReturn e (T.setTop f) acts v).1 = T.setFrames fs) → Steps p.tables e below A (T.setFrames fs))
    (hQ : Q v T.heap locs) (hc : cells ≤ C) (hs : slots ≤ S) : own_Go p e below s Q C S A := by
  obtain ⟨fs, hr, hrun, hended, hW, hsame⟩ := X.leave (v := v) hv hlocks
  exact ⟨_, _, st fs hr, hrun, hended, _, _, rfl, hQ, ⟨_, rfl⟩, hW, hsame.mono hc hs⟩
theorem own_eqI {args : Array Value} {first s : State} {o : Option Outcome} {idx : List Nat} {t : Term} {k : Int32} (h : (Jvm.Cond.eq t (.int k)).value args first o s idx = some true) : t.eval args first o idx s = some (.int k) := by
  obtain ⟨x, y, h1, h2, hk, hk'⟩ := cmp_v (Or.inl h)
  have e2 : y = .int k := (Option.some.inj ((Term.int_eval k).symm.trans h2)).symm
  subst e2
  obtain ⟨z, rfl⟩ := hk'
  simp only [Cond.value, h1, h2] at h
  have hz : z = k := by simpa using h
  rw [h1, hz]
theorem own_eqR {args : Array Value} {first s : State} {o : Option Outcome} {idx : List Nat} {t u : Term} {a : Addr} (h : (Jvm.Cond.eq t u).value args first o s idx = some true) (hu : u.eval args first o idx s = some (.ref a)) : t.eval args first o idx s = some (.ref a) := by
  obtain ⟨x, y, h1, h2, hk, hk'⟩ := cmp_v (Or.inl h)
  cases hu.symm.trans h2
  rw [h1, gotT (eq_R h1 hu hk'.2 rfl) h]
theorem own_len {args : Array Value} {s : State} {t : Term} {a : Addr} {cl : Cell} {k : Int32} {ty : FieldType} (h : (Term.length t).eval args s none [] s = some (.int k)) (ht : t.eval args s none [] s = some (.ref a)) (A : Arr s s.heap a cl ty) : cl.slots.size < 2 ^ 31 ∧ cl.slots.size.toInt32 = k := by
  have ha := A.fin (Vm.Alike.refl _)
  simp only [Term.eval, ht, ha, Option.bind_eq_bind, Option.bind_some] at h
  by_cases q : cl.slots.size < 2 ^ 31
  · simp [q] at h; exact ⟨q, h⟩
  · simp [q] at h
abbrev own_EL : List (String × Nat) := consts_1
/-- the same with String constants loaded on the way (RW14's invariant, kept) -/
def own_GoW (p : Program) (e : Env) (below : List Frame) (s Z : State) (Q : Option Value → Heap → List Loc → Prop) (C S : Nat) (A : State) : Prop :=
  ∃ s₂ o, Steps p.tables e below A s₂ ∧ s₂.status = .running ∧ Ended s₂ below o ∧ ∃ v L, o = .returned v ∧ Q v s₂.heap L ∧ CHr Z own_EL s.vm s.heap s₂.vm s₂.heap ∧ ReturnedEndW s o s₂ L C S
theorem own_goW {p : Program} {e : Env} {below : List Frame} {s Z : State} {Q : Option Value → Heap → List Loc → Prop} {C S : Nat} {A B : State} (k : ∀ t, Steps p.tables e below B t → Steps p.tables e below A t) (h : own_GoW p e below s Z Q C S B) : own_GoW p e below s Z Q C S A := by
  obtain ⟨s₂, o, h1, h2⟩ := h
  exact ⟨s₂, o, k _ h1, h2⟩
theorem own_finW {p : Program} {l : Launch} {e : Env} {R : Room} {s Z : State} {vm1 : Vm} {k0 : Nat} {m : MethodId} {args : Array Value} {below : List Frame} {meth : Method} {c : Code} {T : State} {locs : List Loc} {cells slots : Nat} {Q : Option Value → Heap → List Loc → Prop} {C S : Nat} {A : State} {v : Option Value}
    (X : Stand p l e R (s.setVm vm1) m args below meth c T locs cells slots) (hS : s.Since vm1 k0) (hk : k0 ≤ T.heap.size) (hR : CHr Z own_EL s.vm s.heap T.vm T.heap) (hlocks : meth.locks = false) (hv : meth.sig.returnType = none → v = none)
    (st : ∀ fs, (∀ (f : JFrame) (acts : List Action), f.method = m → f.locked = none → f.entered = [] → (doReturn e (T.setTop f) acts v).1 = T.setFrames fs) → Steps p.tables e below A (T.setFrames fs))
    (hQ : Q v T.heap locs) (hc : cells ≤ C) (hs : slots ≤ S) : own_GoW p e below s Z Q C S A := by
  obtain ⟨fs, hr, hrun, hended, h1, h2, h3, h4⟩ := X.leaveW hS hk (v := v) hv hlocks
  exact ⟨_, _, st fs hr, hrun, hended, _, _, rfl, hQ, hR, h1, h2, h3, h4.mono hc hs⟩
/-- a callee that loads String constants, paid at a call: the invariant from the caller's tables on -/
theorem own_backW {p : Program} {l : Launch} {e : Env} {R : Room} {s : State} {args : Array Value} {below : List Frame} {Z : State} {a0 : Array Value} {h : Heap} {vm0 : Vm} {y : MethodName} {bytes : ByteArray} {maxL : Nat} {ret : Option FieldType} {rm : Room} {len W : Nat} {as' : Array Value} {Q : Option Value → Heap → List Loc → Prop}
    (hM : MetFree l y (head1 [Jvm.Cond.code y bytes maxL ret] rm) (fun a U => a = as' ∧ Z.Warmed39 U.vm ∧ U.heap = h ∧ CHr Z own_EL vm0 h U.vm h) (fun _ _ _ _ _ => True) (fun _ U o U' => ∃ v L, o = .returned v ∧ Q v U'.heap L ∧ CHr Z own_EL U.vm U.heap U'.vm U'.heap ∧ ReturnedEndW U o U' L rm.cells rm.slots))
    (hZ : Z.Warmed39 vm0) (wc : (Jvm.Cond.code y bytes maxL ret).before a0 Z = true) (wz : (Jvm.Cond.initialized y.cls).before a0 Z = true) (hf : rm.frames + 1 ≤ R.frames) (hl : W + (maxL + 11) + rm.locals ≤ R.locals) (hEL : EW Z a0 own_EL) (H : CHv Z own_EL vm0 h) :
    BackS l R p e below (s.setVm vm0) args y len W (fun A a => a = as' ∧ A.U.heap = h ∧ A.cells + rm.cells ≤ R.cells ∧ A.slots + rm.slots ≤ R.slots)
      (fun A _ v B => ∃ L, Q v B.U.heap L ∧ B.locs = A.locs ++ L ∧ B.cells = A.cells + rm.cells ∧ B.slots = A.slots + rm.slots ∧ CHr Z own_EL vm0 h B.U.vm B.U.heap) := by
  refine BackS.of_freeW (bytes := bytes) (maxL := maxL) (ret := ret) (E := fun _ first o t L k n => k = rm.cells ∧ n = rm.slots ∧ (∃ v, o = .returned v ∧ Q v t.heap L) ∧ CHr Z own_EL first.vm first.heap t.vm t.heap) hM hf hl ?_ ?_ ?_ ?_ ?_
  · intro m meth c A a Y hp
    have hU : Z.Warmed39 A.U.vm := wtrans (s := s.setVm vm0) hZ Y.warmed
    exact ⟨by show (Jvm.Cond.and _ .tt).before a A.U = true; rw [Cond.before_and, mv hU wc]; rfl, mv hU wc, mv hU wz, hp.2.2.1, hp.2.2.2⟩
  · intro m meth c A a g mk Y hp
    exact ⟨hp.1, wtrans (s := s.setVm vm0) hZ Y.warmed, hp.2.1, (show CHr Z own_EL vm0 h A.U.vm h from CHv.at Y hZ hEL H)⟩
  · intro _ _ _ _ _ _ _ _ _
    trivial
  · rintro _ _ _ _ ⟨v, L, h1, h2, h3, h4⟩
    exact ⟨L, _, _, h4, rfl, rfl, ⟨v, h1, h2⟩, h3⟩
  · rintro m meth c A a g mk v t L k n Y hp _ _ ⟨e1, e2, ⟨v', e3, e4⟩, e5⟩
    cases e3
    subst e1 e2
    refine ⟨L, e4, rfl, rfl, rfl, (show CHr Z own_EL vm0 h A.U.vm h from CHv.at Y hZ hEL H).trans ?_⟩
    rw [← hp.2.1]
    exact e5
theorem own_safe_arv {Z : State} {EL : List (String × Nat)} {vm : Vm} {h : Heap} {a : Addr} {k : ClassId} {ty : FieldType} {z : Int32} {vs : List Value} {d : Value} (hal : Z.vm.Alike vm) (V : Arv Z h a k ty z vs d) (ht : ty ≠ .byte) : Safe Z EL vm h a := by
  obtain ⟨c, A, -⟩ := V
  exact Safe.arr hal A ht
theorem own_EW (Z : State) (a0 : Array Value) (hw : ∀ d ∈ tables_1, d.before a0 Z = true) : EW Z a0 own_EL := (EW.cons (hw _ (List.mem_of_getElem? (i := 11) rfl)) (by decide +kernel) EW.nil)
theorem own_wS (Z : State) (a0 : Array Value) (hw : ∀ d ∈ tables_1, d.before a0 Z = true) : ∀ a ∈ Bundle.stringAtoms, a.before a0 Z = true := fun d hd => hw d ((by decide +kernel : ∀ d ∈ Bundle.stringAtoms, d ∈ tables_1) d hd)
theorem own_ofNat {q : Nat} (h : q < 2147483648) : (Int32.ofNat q).toInt = q ∧ (Int32.ofNat q).toNatClampNeg = q := by
  have e : (Int32.ofNat q).toInt = q := Int32.toInt_ofNat_small (by omega)
  exact ⟨e, by show (Int32.ofNat q).toInt.toNat = q; rw [e]; rfl⟩
theorem own_idx {q n : Nat} {N : Int32} (hN : N.toNatClampNeg = n) (hN0 : ¬ N < 0) (hq : q < n) : (¬ (Int32.ofNat q < (0 : Int32)) ∧ Int32.ofNat q < N) ∧ (Int32.ofNat q).toNatClampNeg = q := by
  have h1 := nat_of hN0
  have h2 := (rng32 N).2
  have h3 := own_ofNat (q := q) (by omega)
  refine ⟨⟨fun h => ?_, ?_⟩, h3.2⟩
  · have h4 := Int32.lt_iff_toInt_lt.mp h
    rw [h3.1] at h4
    have e0 : (0 : Int32).toInt = 0 := rfl
    omega
  · rw [Int32.lt_iff_toInt_lt, h3.1, h1, hN]; omega
theorem own_past {n : Nat} {N : Int32} (hN : N.toNatClampNeg = n) (hN0 : ¬ N < 0) : ¬ (Int32.ofNat n < N) := fun h => by
  have h1 := nat_of hN0
  have h2 := (rng32 N).2
  have h3 := own_ofNat (q := n) (by omega)
  have h4 := Int32.lt_iff_toInt_lt.mp h
  rw [h3.1, h1, hN] at h4
  omega
theorem own_incr {q n : Nat} {N : Int32} (hN : N.toNatClampNeg = n) (hN0 : ¬ N < 0) (hq : q < n) : Int32.ofNat q + (1 : Int32) = Int32.ofNat (q + 1) := by
  have h1 := nat_of hN0
  have h2 := (rng32 N).2
  have h3 := own_ofNat (q := q) (by omega)
  apply Int32.toInt_inj.mp
  have a := c_iadd (Int32.ofNat q) 1
  have b := rng32 (Int32.ofNat q + 1)
  have e1 : (1 : Int32).toInt = 1 := rfl
  by_cases hb : q + 1 < 2147483648
  · rw [(own_ofNat hb).1]; rw [h3.1] at a; omega
  · omega
theorem own_mapget (xs : List Int32) (q : Nat) : (xs.map Value.int).getD q (.int (0 : Int32)) = .int (xs.getD q 0) := by
  simp only [List.getD_eq_getElem?_getD, List.getElem?_map]
  cases xs[q]? <;> rfl
theorem own_listeq {xs ys : List Int32} (hl : xs.length = ys.length) (h : ∀ r, r < xs.length → xs.getD r 0 = ys.getD r 0) : xs = ys := by
  apply List.ext_getElem hl
  intro i h1 h2
  have := h i h1
  simpa [List.getD_eq_getElem?_getD, List.getElem?_eq_getElem h1, List.getElem?_eq_getElem h2] using this
def own_eqv (xs ys : List Int32) : Int32 := if xs = ys then 1 else 0
theorem own_fldeq {Z : State} {h : Heap} {a : Addr} {C n d : String} {v w : Value} (F : Fld Z h a C n d v) (G : Fld Z h a C n d w) : v = w := Classical.byContradiction fun q => Fld.ne F G q rfl
theorem own_same {Z : State} {h : Heap} {t : Addr} {k k' : ClassId} {N N' : Int32} {xs ys : List Int32} (F : Arv Z h t k .byte N (xs.map Value.int) (.int (0 : Int32))) (G : Arv Z h t k' .byte N' (ys.map Value.int) (.int (0 : Int32))) (h1 : N.toNatClampNeg = xs.length) (h2 : N'.toNatClampNeg = ys.length) : xs = ys := by
  obtain ⟨c, A, -, S, -, H, -⟩ := F
  obtain ⟨c', A', -, S', -, H', -⟩ := G
  cases A.1.symm.trans A'.1
  refine own_listeq (by omega) fun r hr => ?_
  have e := (H r (by omega)).symm.trans (H' r (by omega))
  rw [own_mapget, own_mapget] at e
  exact Value.int.inj (Option.some.inj e)
theorem own_nat_inj {N N' : Int32} (h : N.toNatClampNeg = N'.toNatClampNeg) (h0 : ¬ N < 0) (h0' : ¬ N' < 0) : N = N' := by
  apply Int32.toInt_inj.mp
  rw [nat_of h0, nat_of h0', h]
theorem own_d4_0 : decode jdk_43_method_13_code 0 = .ok (.aload_n 0, 1) := by decide +kernel
theorem own_d4_1 : decode jdk_43_method_13_code 1 = .ok (.arraylength, 1) := by decide +kernel
theorem own_d4_2 : decode jdk_43_method_13_code 2 = .ok (.aload_n 1, 1) := by decide +kernel
theorem own_d4_3 : decode jdk_43_method_13_code 3 = .ok (.arraylength, 1) := by decide +kernel
theorem own_d4_4 : decode jdk_43_method_13_code 4 = .ok (.if_icmp .ne 30, 3) := by decide +kernel
theorem own_d4_7 : decode jdk_43_method_13_code 7 = .ok (.iconst 0, 1) := by decide +kernel
theorem own_d4_8 : decode jdk_43_method_13_code 8 = .ok (.istore_n 2, 1) := by decide +kernel
theorem own_d4_9 : decode jdk_43_method_13_code 9 = .ok (.iload_n 2, 1) := by decide +kernel
theorem own_d4_10 : decode jdk_43_method_13_code 10 = .ok (.aload_n 0, 1) := by decide +kernel
theorem own_d4_11 : decode jdk_43_method_13_code 11 = .ok (.arraylength, 1) := by decide +kernel
theorem own_d4_12 : decode jdk_43_method_13_code 12 = .ok (.if_icmp .ge 20, 3) := by decide +kernel
theorem own_d4_32 : decode jdk_43_method_13_code 32 = .ok (.iconst 1, 1) := by decide +kernel
theorem own_d4_33 : decode jdk_43_method_13_code 33 = .ok (.ireturn, 1) := by decide +kernel
theorem own_d4_15 : decode jdk_43_method_13_code 15 = .ok (.aload_n 0, 1) := by decide +kernel
theorem own_d4_16 : decode jdk_43_method_13_code 16 = .ok (.iload_n 2, 1) := by decide +kernel
theorem own_d4_17 : decode jdk_43_method_13_code 17 = .ok (.baload, 1) := by decide +kernel
theorem own_d4_18 : decode jdk_43_method_13_code 18 = .ok (.aload_n 1, 1) := by decide +kernel
theorem own_d4_19 : decode jdk_43_method_13_code 19 = .ok (.iload_n 2, 1) := by decide +kernel
theorem own_d4_20 : decode jdk_43_method_13_code 20 = .ok (.baload, 1) := by decide +kernel
theorem own_d4_21 : decode jdk_43_method_13_code 21 = .ok (.if_icmp .eq 5, 3) := by decide +kernel
theorem own_d4_26 : decode jdk_43_method_13_code 26 = .ok (.iinc 2 1, 3) := by decide +kernel
theorem own_d4_29 : decode jdk_43_method_13_code 29 = .ok (.goto (-20), 3) := by decide +kernel
theorem own_d4_24 : decode jdk_43_method_13_code 24 = .ok (.iconst 0, 1) := by decide +kernel
theorem own_d4_25 : decode jdk_43_method_13_code 25 = .ok (.ireturn, 1) := by decide +kernel
theorem own_d4_34 : decode jdk_43_method_13_code 34 = .ok (.iconst 0, 1) := by decide +kernel
theorem own_d4_35 : decode jdk_43_method_13_code 35 = .ok (.ireturn, 1) := by decide +kernel
theorem own_pn_java_lang_StringLatin1 : plainName "java/lang/StringLatin1" = true := by first | (simp [plainName, overriddenIn]; done) | decide +kernel
theorem own_ef_own_rleq (m : MethodId) (t1 : Addr) (t2 : Addr) : entryFrame m #[(.ref t1), (.ref t2)] 3 = mkF m 0 #[rv t1, rv t2, .unset] [] := by first | (simp [entryFrame, mkF, argsToLocals, Value.category]; done) | rfl
def own_Q_own_rleq (Z : State) (t1 : Addr) (t2 : Addr) (k1 k2 : ClassId) (N1 N2 : Int32) (xs ys : List Int32) (h0 : Heap) (n0 : Nat) (v : Option Value) (h : Heap) (L : List Loc) : Prop := v = some (.int (own_eqv xs ys)) ∧ Fr n0 L ∧ h = h0
set_option maxRecDepth 65536 in
set_option maxHeartbeats 40000000 in
theorem own_rleq (l : Launch) (Z : State) (a0 : Array Value) (hw : ∀ d ∈ tables_1, d.before a0 Z = true) (ws : List Jvm.Cond) (t1 : Addr) (t2 : Addr) (k1 k2 : ClassId) (N1 N2 : Int32) (xs ys : List Int32) (h0 : Heap) (n0 : Nat) (Z0 : n0 ≤ h0.size) (Va1 : Arv Z h0 t1 k1 .byte N1 (xs.map Value.int) (.int (0 : Int32))) (Va2 : Arv Z h0 t2 k2 .byte N2 (ys.map Value.int) (.int (0 : Int32))) (hl1 : N1.toNatClampNeg = xs.length) (hl2 : N2.toNatClampNeg = ys.length) :
    MetFree l (⟨"java/lang/StringLatin1", "equals", "([B[B)Z"⟩ : MethodName) (head1 (Jvm.Cond.code (⟨"java/lang/StringLatin1", "equals", "([B[B)Z"⟩ : MethodName) jdk_43_method_13_code 3 (some .boolean) :: ws) ({ frames := 0, cells := 0, slots := 0, locals := 0 } : Room)) (fun a U => a = #[(.ref t1), (.ref t2)] ∧ Z.Warmed39 U.vm ∧ U.heap = h0) (fun _ _ _ _ _ => True) (fun _ U o U' => ∃ v L, o = .returned v ∧ own_Q_own_rleq Z t1 t2 k1 k2 N1 N2 xs ys h0 n0 v U'.heap L ∧ FrameEnd U o U' L ({ frames := 0, cells := 0, slots := 0, locals := 0 } : Room).cells ({ frames := 0, cells := 0, slots := 0, locals := 0 } : Room).slots) := by
  refine MetFree.of_bodySF (plainFor_of_name own_pn_java_lang_StringLatin1) hisR ?_
  intro p e s m args below meth c s₁ Bd hml0 hP hK
  obtain ⟨rfl, hZ, hh⟩ := hP
  have hx := Bd.exec
  have hby := Bd.bytes
  have hml : c.maxLocals = 3 := hml0
  have hown : s.vm.findClass "java/lang/StringLatin1" = some m.cls := findClass_of_methodNamed Bd.named
  have hnm := (name_of_methodNamed Bd.named Bd.method).1
  have X0 : Stand p l e ({ frames := 0, cells := 0, slots := 0, locals := 0 } : Room) s m #[(.ref t1), (.ref t2)] below meth c s₁ [] 0 0 := Stand.of_body Bd
  have e0 : s₁.heap = h0 := by rw [← hh, Bd.state]; rfl
  have N0 := Fr.nil n0
  show own_Go p e below s (own_Q_own_rleq Z t1 t2 k1 k2 N1 N2 xs ys h0 n0) ({ frames := 0, cells := 0, slots := 0, locals := 0 } : Room).cells ({ frames := 0, cells := 0, slots := 0, locals := 0 } : Room).slots (s₁.setTop (entryFrame m #[(.ref t1), (.ref t2)] 3))
  obtain ⟨-, -, -, -, Nz1, -, -⟩ := id Va1
  obtain ⟨-, -, -, -, Nz2, -, -⟩ := id Va2
  refine own_go (fun zt zk => castTop (own_ef_own_rleq m t1 t2) zk) ?_
  show own_Go p e below s _ _ _ (s₁.setTop (mkF m 0 #[rv t1, rv t2, .unset] []))
  refine own_go (fun zt zk => (XS.aloadN X0.here hx rfl (hb hby own_d4_0) rfl rfl zk)) ?_
  show own_Go p e below s _ _ _ (s₁.setTop (mkF m 1 #[rv t1, rv t2, .unset] [(.ref t1)]))
  obtain ⟨cl1, Ar1, -, Sz1, Nz1, -, -⟩ := id Va1
  refine own_go (X0.arraylength hx (by rw [e0]; exact Ar1.1) (State.isArrayOf_alike hZ.alike Ar1.2.1) (g := (mkF m 1 #[rv t1, rv t2, .unset] [(.ref t1)])) rfl rfl (hb hby own_d4_1)) ?_
  rw [len_of Sz1 Nz1]
  show own_Go p e below s _ _ _ (s₁.setTop (mkF m 2 #[rv t1, rv t2, .unset] [(.int N1)]))
  refine own_go (fun zt zk => (XS.aloadN X0.here hx rfl (hb hby own_d4_2) rfl rfl zk)) ?_
  show own_Go p e below s _ _ _ (s₁.setTop (mkF m 3 #[rv t1, rv t2, .unset] [(.ref t2), (.int N1)]))
  obtain ⟨cl2, Ar2, -, Sz2, Nz2, -, -⟩ := id Va2
  refine own_go (X0.arraylength hx (by rw [e0]; exact Ar2.1) (State.isArrayOf_alike hZ.alike Ar2.2.1) (g := (mkF m 3 #[rv t1, rv t2, .unset] [(.ref t2), (.int N1)])) rfl rfl (hb hby own_d4_3)) ?_
  rw [len_of Sz2 Nz2]
  show own_Go p e below s _ _ _ (s₁.setTop (mkF m 4 #[rv t1, rv t2, .unset] [(.int N2), (.int N1)]))
  by_cases hN : N1 = N2
  · have hll : xs.length = ys.length := by rw [← hl1, ← hl2, hN]
    refine own_go (fun zt zk => (XS.icmpNo X0.here hx rfl (hb hby own_d4_4) rfl (teq (hN : N1 = N2)).2 (XS.iconst X0.here hx rfl (hb hby own_d4_7) (XS.istoreN X0.here hx rfl (hb hby own_d4_8) rfl (l' := #[rv t1, rv t2, iv (0 : Int32)]) rfl zk)))) ?_
    show own_Go p e below s _ _ _ (s₁.setTop (mkF m 9 #[rv t1, rv t2, iv (0 : Int32)] []))
    have loop : ∀ (k q : Nat), q + k = xs.length → (∀ r, r < q → xs.getD r 0 = ys.getD r 0) → own_Go p e below s (own_Q_own_rleq Z t1 t2 k1 k2 N1 N2 xs ys h0 n0) ({ frames := 0, cells := 0, slots := 0, locals := 0 } : Room).cells ({ frames := 0, cells := 0, slots := 0, locals := 0 } : Room).slots (s₁.setTop (mkF m 9 #[.val (.ref t1), .val (.ref t2), .val (.int (Int32.ofNat q))] [])) := by
      intro k
      induction k with
      | zero =>
        intro q hq hr
        have hq' : q = xs.length := by omega
        show own_Go p e below s _ _ _ (s₁.setTop (mkF m 9 #[rv t1, rv t2, iv (Int32.ofNat q)] []))
        refine own_go (fun zt zk => (XS.iloadN X0.here hx rfl (hb hby own_d4_9) rfl (XS.aloadN X0.here hx rfl (hb hby own_d4_10) rfl rfl zk))) ?_
        show own_Go p e below s _ _ _ (s₁.setTop (mkF m 11 #[rv t1, rv t2, iv (Int32.ofNat q)] [(.ref t1), (.int (Int32.ofNat q))]))
        obtain ⟨cl3, Ar3, -, Sz3, Nz3, -, -⟩ := id Va1
        refine own_go (X0.arraylength hx (by rw [e0]; exact Ar3.1) (State.isArrayOf_alike hZ.alike Ar3.2.1) (g := (mkF m 11 #[rv t1, rv t2, iv (Int32.ofNat q)] [(.ref t1), (.int (Int32.ofNat q))])) rfl rfl (hb hby own_d4_11)) ?_
        rw [len_of Sz3 Nz3]
        show own_Go p e below s _ _ _ (s₁.setTop (mkF m 12 #[rv t1, rv t2, iv (Int32.ofNat q)] [(.int N1), (.int (Int32.ofNat q))]))
        refine own_go (fun zt zk => (XS.icmpYes X0.here hx rfl (pc0 := 12) (pc' := 32) rfl (hb hby own_d4_12) rfl (flt ((by rw [hq']; exact own_past hl1 Nz1) : ¬ ((Int32.ofNat q) < N1))).2.1 (by decide) (by decide) (XS.iconst X0.here hx rfl (hb hby own_d4_32) zk))) ?_
        show own_Go p e below s _ _ _ (s₁.setTop (mkF m 33 #[rv t1, rv t2, iv (Int32.ofNat q)] [(.int (1 : Int32))]))
        exact own_fin X0 Bd.notSynchronized (fun h => by rw [Bd.returns] at h; cases h) (fun fs hr => retN X0 hx (t := .boolean) Bd.returns (by simp) (hb hby own_d4_33) hr) (by rw [e0]; exact ⟨congrArg (fun z => some (Value.int z)) (if_pos (own_listeq hll (fun r h => hr r (by omega)))).symm, N0, rfl⟩) (by decide) (by decide)
      | succ k ih =>
        intro q hq hr
        have hq' : q < xs.length := by omega
        obtain ⟨hi1, hi3⟩ := own_idx hl1 Nz1 hq'
        obtain ⟨hi2, -⟩ := own_idx hl2 Nz2 (by omega : q < ys.length)
        show own_Go p e below s _ _ _ (s₁.setTop (mkF m 9 #[rv t1, rv t2, iv (Int32.ofNat q)] []))
        refine own_go (fun zt zk => (XS.iloadN X0.here hx rfl (hb hby own_d4_9) rfl (XS.aloadN X0.here hx rfl (hb hby own_d4_10) rfl rfl zk))) ?_
        show own_Go p e below s _ _ _ (s₁.setTop (mkF m 11 #[rv t1, rv t2, iv (Int32.ofNat q)] [(.ref t1), (.int (Int32.ofNat q))]))
        obtain ⟨cl4, Ar4, -, Sz4, Nz4, -, -⟩ := id Va1
        refine own_go (X0.arraylength hx (by rw [e0]; exact Ar4.1) (State.isArrayOf_alike hZ.alike Ar4.2.1) (g := (mkF m 11 #[rv t1, rv t2, iv (Int32.ofNat q)] [(.ref t1), (.int (Int32.ofNat q))])) rfl rfl (hb hby own_d4_11)) ?_
        rw [len_of Sz4 Nz4]
        show own_Go p e below s _ _ _ (s₁.setTop (mkF m 12 #[rv t1, rv t2, iv (Int32.ofNat q)] [(.int N1), (.int (Int32.ofNat q))]))
        refine own_go (fun zt zk => (XS.icmpNo X0.here hx rfl (hb hby own_d4_12) rfl (tlt (hi1.2 : (Int32.ofNat q) < N1)).2.1 (XS.aloadN X0.here hx rfl (hb hby own_d4_15) rfl rfl (XS.iloadN X0.here hx rfl (hb hby own_d4_16) rfl zk)))) ?_
        show own_Go p e below s _ _ _ (s₁.setTop (mkF m 17 #[rv t1, rv t2, iv (Int32.ofNat q)] [(.int (Int32.ofNat q)), (.ref t1)]))
        obtain ⟨cl5, Ar5, q5, Sz5, Nz5, Ha5, Ga5⟩ := id Va1
        have hin5 : ¬ ((Int32.ofNat q) < 0 ∨ cl5.slots.size ≤ ((Int32.ofNat q)).toNatClampNeg) := inb_of Sz5 hi1
        have hat5 : cl5.slots[((Int32.ofNat q)).toNatClampNeg]? = some (.int (xs.getD q 0)) := Has.at Ha5 hin5 (by rw [hi3]; exact own_mapget xs q)
        refine own_go (X0.baloadBytes hx (j := (Int32.ofNat q)) (v := (.int (xs.getD q 0))) (by rw [e0]; exact Ar5.1) (State.isArrayOf_alike hZ.alike Ar5.2.1) Ar5.2.2 hin5 hat5 (g := (mkF m 17 #[rv t1, rv t2, iv (Int32.ofNat q)] [(.int (Int32.ofNat q)), (.ref t1)])) rfl rfl (hb hby own_d4_17)) ?_
        show own_Go p e below s _ _ _ (s₁.setTop (mkF m 18 #[rv t1, rv t2, iv (Int32.ofNat q)] [(.int (xs.getD q 0))]))
        refine own_go (fun zt zk => (XS.aloadN X0.here hx rfl (hb hby own_d4_18) rfl rfl (XS.iloadN X0.here hx rfl (hb hby own_d4_19) rfl zk))) ?_
        show own_Go p e below s _ _ _ (s₁.setTop (mkF m 20 #[rv t1, rv t2, iv (Int32.ofNat q)] [(.int (Int32.ofNat q)), (.ref t2), (.int (xs.getD q 0))]))
        obtain ⟨cl6, Ar6, q6, Sz6, Nz6, Ha6, Ga6⟩ := id Va2
        have hin6 : ¬ ((Int32.ofNat q) < 0 ∨ cl6.slots.size ≤ ((Int32.ofNat q)).toNatClampNeg) := inb_of Sz6 hi2
        have hat6 : cl6.slots[((Int32.ofNat q)).toNatClampNeg]? = some (.int (ys.getD q 0)) := Has.at Ha6 hin6 (by rw [hi3]; exact own_mapget ys q)
        refine own_go (X0.baloadBytes hx (j := (Int32.ofNat q)) (v := (.int (ys.getD q 0))) (by rw [e0]; exact Ar6.1) (State.isArrayOf_alike hZ.alike Ar6.2.1) Ar6.2.2 hin6 hat6 (g := (mkF m 20 #[rv t1, rv t2, iv (Int32.ofNat q)] [(.int (Int32.ofNat q)), (.ref t2), (.int (xs.getD q 0))])) rfl rfl (hb hby own_d4_20)) ?_
        show own_Go p e below s _ _ _ (s₁.setTop (mkF m 21 #[rv t1, rv t2, iv (Int32.ofNat q)] [(.int (ys.getD q 0)), (.int (xs.getD q 0))]))
        by_cases heq : (xs.getD q 0) = (ys.getD q 0)
        · refine own_go (fun zt zk => (XS.icmpYes X0.here hx rfl (pc0 := 21) (pc' := 26) rfl (hb hby own_d4_21) rfl (teq (heq : (xs.getD q 0) = (ys.getD q 0))).1 (by decide) (by decide) (XS.iinc X0.here hx rfl (hb hby own_d4_26) rfl (l' := #[rv t1, rv t2, iv ((Int32.ofNat q) + (1 : Int32))]) rfl (XS.goto X0.here hx rfl (pc0 := 29) (pc' := 9) rfl (hb hby own_d4_29) (by decide) (by decide) zk)))) ?_
          show own_Go p e below s _ _ _ (s₁.setTop (mkF m 9 #[rv t1, rv t2, iv ((Int32.ofNat q) + (1 : Int32))] []))
          rw [own_incr hl1 Nz1 hq']
          refine ih (q + 1) (by omega) fun r h => ?_
          by_cases h2 : r < q
          · exact hr r h2
          · have h3 : r = q := by omega
            rw [h3]; exact heq
        · refine own_go (fun zt zk => (XS.icmpNo X0.here hx rfl (hb hby own_d4_21) rfl (feq (heq : ¬ ((xs.getD q 0) = (ys.getD q 0)))).1 (XS.iconst X0.here hx rfl (hb hby own_d4_24) zk))) ?_
          show own_Go p e below s _ _ _ (s₁.setTop (mkF m 25 #[rv t1, rv t2, iv (Int32.ofNat q)] [(.int (0 : Int32))]))
          exact own_fin X0 Bd.notSynchronized (fun h => by rw [Bd.returns] at h; cases h) (fun fs hr => retN X0 hx (t := .boolean) Bd.returns (by simp) (hb hby own_d4_25) hr) (by rw [e0]; exact ⟨congrArg (fun z => some (Value.int z)) (if_neg (fun q' => heq (by rw [q']))).symm, N0, rfl⟩) (by decide) (by decide)
    exact loop xs.length 0 (by omega) (fun r h => absurd h (Nat.not_lt_zero r))
  · refine own_go (fun zt zk => (XS.icmpYes X0.here hx rfl (pc0 := 4) (pc' := 34) rfl (hb hby own_d4_4) rfl (feq (hN : ¬ (N1 = N2))).2 (by decide) (by decide) (XS.iconst X0.here hx rfl (hb hby own_d4_34) zk))) ?_
    show own_Go p e below s _ _ _ (s₁.setTop (mkF m 35 #[rv t1, rv t2, .unset] [(.int (0 : Int32))]))
    exact own_fin X0 Bd.notSynchronized (fun h => by rw [Bd.returns] at h; cases h) (fun fs hr => retN X0 hx (t := .boolean) Bd.returns (by simp) (hb hby own_d4_35) hr) (by rw [e0]; exact ⟨congrArg (fun z => some (Value.int z)) (if_neg (fun q => hN ((own_nat_inj (hl1.trans ((congrArg List.length q).trans hl2.symm)) Nz1 Nz2)))).symm, N0, rfl⟩) (by decide) (by decide)
theorem own_d3_0 : decode jdk_42_method_66_code 0 = .ok (.aload_n 0, 1) := by decide +kernel
theorem own_d3_1 : decode jdk_42_method_66_code 1 = .ok (.aload_n 1, 1) := by decide +kernel
theorem own_d3_2 : decode jdk_42_method_66_code 2 = .ok (.if_acmp .ne 5, 3) := by decide +kernel
theorem own_d3_5 : decode jdk_42_method_66_code 5 = .ok (.iconst 1, 1) := by decide +kernel
theorem own_d3_6 : decode jdk_42_method_66_code 6 = .ok (.ireturn, 1) := by decide +kernel
theorem own_d3_7 : decode jdk_42_method_66_code 7 = .ok (.aload_n 1, 1) := by decide +kernel
theorem own_d3_8 : decode jdk_42_method_66_code 8 = .ok (.instanceof 10, 3) := by decide +kernel
theorem own_d3_11 : decode jdk_42_method_66_code 11 = .ok (.ifCond .eq 43, 3) := by decide +kernel
theorem own_d3_14 : decode jdk_42_method_66_code 14 = .ok (.aload_n 1, 1) := by decide +kernel
theorem own_d3_15 : decode jdk_42_method_66_code 15 = .ok (.checkcast 10, 3) := by decide +kernel
theorem own_d3_18 : decode jdk_42_method_66_code 18 = .ok (.astore_n 2, 1) := by decide +kernel
theorem own_d3_19 : decode jdk_42_method_66_code 19 = .ok (.getstatic 38, 3) := by decide +kernel
theorem own_d3_22 : decode jdk_42_method_66_code 22 = .ok (.ifCond .eq 14, 3) := by decide +kernel
theorem own_d3_25 : decode jdk_42_method_66_code 25 = .ok (.aload_n 0, 1) := by decide +kernel
theorem own_d3_26 : decode jdk_42_method_66_code 26 = .ok (.getfield 15, 3) := by decide +kernel
theorem own_d3_29 : decode jdk_42_method_66_code 29 = .ok (.aload_n 2, 1) := by decide +kernel
theorem own_d3_30 : decode jdk_42_method_66_code 30 = .ok (.getfield 15, 3) := by decide +kernel
theorem own_d3_33 : decode jdk_42_method_66_code 33 = .ok (.if_icmp .ne 21, 3) := by decide +kernel
theorem own_d3_36 : decode jdk_42_method_66_code 36 = .ok (.aload_n 0, 1) := by decide +kernel
theorem own_d3_37 : decode jdk_42_method_66_code 37 = .ok (.getfield 9, 3) := by decide +kernel
theorem own_d3_40 : decode jdk_42_method_66_code 40 = .ok (.aload_n 2, 1) := by decide +kernel
theorem own_d3_41 : decode jdk_42_method_66_code 41 = .ok (.getfield 9, 3) := by decide +kernel
theorem own_d3_44 : decode jdk_42_method_66_code 44 = .ok (.invokestatic 541, 3) := by decide +kernel
theorem own_pd___B_B_Z : parseMethodDescriptor "([B[B)Z" = some ⟨[(.array .byte), (.array .byte)], some .boolean⟩ := by decide +kernel
theorem own_d3_47 : decode jdk_42_method_66_code 47 = .ok (.ifCond .eq 7, 3) := by decide +kernel
theorem own_d3_50 : decode jdk_42_method_66_code 50 = .ok (.iconst 1, 1) := by decide +kernel
theorem own_d3_51 : decode jdk_42_method_66_code 51 = .ok (.goto 4, 3) := by decide +kernel
theorem own_d3_55 : decode jdk_42_method_66_code 55 = .ok (.ireturn, 1) := by decide +kernel
theorem own_d3_54 : decode jdk_42_method_66_code 54 = .ok (.iconst 0, 1) := by decide +kernel
theorem own_pn_java_lang_String : plainName "java/lang/String" = true := by first | (simp [plainName, overriddenIn]; done) | decide +kernel
theorem own_ef_own_req (m : MethodId) (a1 : Addr) (a2 : Addr) : entryFrame m #[(.ref a1), (.ref a2)] 3 = mkF m 0 #[rv a1, rv a2, .unset] [] := by first | (simp [entryFrame, mkF, argsToLocals, Value.category]; done) | rfl
def own_Q_own_req (Z : State) (a1 : Addr) (a2 : Addr) (cz : Int32) (t1 t2 : Addr) (k1 k2 : ClassId) (N1 N2 : Int32) (xs ys : List Int32) (h0 : Heap) (n0 : Nat) (v : Option Value) (h : Heap) (L : List Loc) : Prop := v = some (.int (own_eqv xs ys)) ∧ Fr n0 L ∧ h = h0
set_option maxRecDepth 65536 in
set_option maxHeartbeats 40000000 in
theorem own_req (l : Launch) (Z : State) (a0 : Array Value) (hw : ∀ d ∈ tables_1, d.before a0 Z = true) (ws : List Jvm.Cond) (a1 : Addr) (a2 : Addr) (cz : Int32) (t1 t2 : Addr) (k1 k2 : ClassId) (N1 N2 : Int32) (xs ys : List Int32) (h0 : Heap) (n0 : Nat) (Z0 : n0 ≤ h0.size) (O : Old Z n0 h0) (SC : Sta Z Z.heap "java/lang/String" "COMPACT_STRINGS" "Z" (.int cz)) (Ex1 : Exa Z h0 a1 "java/lang/String") (Fv1 : Fld Z h0 a1 "java/lang/String" "value" "[B" (.ref t1)) (Fc1 : Fld Z h0 a1 "java/lang/String" "coder" "B" (.int (0 : Int32))) (Va1 : Arv Z h0 t1 k1 .byte N1 (xs.map Value.int) (.int (0 : Int32))) (Ex2 : Exa Z h0 a2 "java/lang/String") (Fv2 : Fld Z h0 a2 "java/lang/String" "value" "[B" (.ref t2)) (Fc2 : Fld Z h0 a2 "java/lang/String" "coder" "B" (.int (0 : Int32))) (Va2 : Arv Z h0 t2 k2 .byte N2 (ys.map Value.int) (.int (0 : Int32))) (hz : ¬ (cz = (0 : Int32))) (hl1 : N1.toNatClampNeg = xs.length) (hl2 : N2.toNatClampNeg = ys.length) :
    MetFree l (⟨"java/lang/String", "equals", "(Ljava/lang/Object;)Z"⟩ : MethodName) (head1 (Jvm.Cond.code (⟨"java/lang/String", "equals", "(Ljava/lang/Object;)Z"⟩ : MethodName) jdk_42_method_66_code 3 (some .boolean) :: ws) ({ frames := 1, cells := 0, slots := 0, locals := 14 } : Room)) (fun a U => a = #[(.ref a1), (.ref a2)] ∧ Z.Warmed39 U.vm ∧ U.heap = h0) (fun _ _ _ _ _ => True) (fun _ U o U' => ∃ v L, o = .returned v ∧ own_Q_own_req Z a1 a2 cz t1 t2 k1 k2 N1 N2 xs ys h0 n0 v U'.heap L ∧ FrameEnd U o U' L ({ frames := 1, cells := 0, slots := 0, locals := 14 } : Room).cells ({ frames := 1, cells := 0, slots := 0, locals := 14 } : Room).slots) := by
  refine MetFree.of_bodySF (plainFor_of_name own_pn_java_lang_String) hisR ?_
  intro p e s m args below meth c s₁ Bd hml0 hP hK
  obtain ⟨rfl, hZ, hh⟩ := hP
  have hx := Bd.exec
  have hby := Bd.bytes
  have hml : c.maxLocals = 3 := hml0
  have hown : s.vm.findClass "java/lang/String" = some m.cls := findClass_of_methodNamed Bd.named
  have hnm := (name_of_methodNamed Bd.named Bd.method).1
  have X0 : Stand p l e ({ frames := 1, cells := 0, slots := 0, locals := 14 } : Room) s m #[(.ref a1), (.ref a2)] below meth c s₁ [] 0 0 := Stand.of_body Bd
  have e0 : s₁.heap = h0 := by rw [← hh, Bd.state]; rfl
  have N0 := Fr.nil n0
  show own_Go p e below s (own_Q_own_req Z a1 a2 cz t1 t2 k1 k2 N1 N2 xs ys h0 n0) ({ frames := 1, cells := 0, slots := 0, locals := 14 } : Room).cells ({ frames := 1, cells := 0, slots := 0, locals := 14 } : Room).slots (s₁.setTop (entryFrame m #[(.ref a1), (.ref a2)] 3))
  refine own_go (fun zt zk => castTop (own_ef_own_req m a1 a2) zk) ?_
  show own_Go p e below s _ _ _ (s₁.setTop (mkF m 0 #[rv a1, rv a2, .unset] []))
  refine own_go (fun zt zk => (XS.aloadN X0.here hx rfl (hb hby own_d3_0) rfl rfl (XS.aloadN X0.here hx rfl (hb hby own_d3_1) rfl rfl zk))) ?_
  show own_Go p e below s _ _ _ (s₁.setTop (mkF m 2 #[rv a1, rv a2, .unset] [(.ref a2), (.ref a1)]))
  by_cases hsame : a1 = a2
  · subst hsame
    have ht := Value.ref.inj (own_fldeq Fv1 Fv2)
    subst ht
    have hxy := own_same Va1 Va2 hl1 hl2
    show own_Go p e below s _ _ _ (s₁.setTop (mkF m 2 #[rv a1, rv a1, .unset] [(.ref a1), (.ref a1)]))
    refine own_go (fun zt zk => Jvm.RoadKit.acmp (g := (mkF m 2 #[rv a1, rv a1, .unset] [(.ref a1), (.ref a1)])) X0 hx rfl rfl rfl (pc0 := 2) (pc' := 5) (same := true) rfl (hb hby own_d3_2) rfl (decide_eq_true rfl) (by decide) (by decide) zk) ?_
    show own_Go p e below s _ _ _ (s₁.setTop (mkF m 5 #[rv a1, rv a1, .unset] []))
    refine own_go (fun zt zk => (XS.iconst X0.here hx rfl (hb hby own_d3_5) zk)) ?_
    show own_Go p e below s _ _ _ (s₁.setTop (mkF m 6 #[rv a1, rv a1, .unset] [(.int (1 : Int32))]))
    exact own_fin X0 Bd.notSynchronized (fun h => by rw [Bd.returns] at h; cases h) (fun fs hr => retN X0 hx (t := .boolean) Bd.returns (by simp) (hb hby own_d3_6) hr) (by rw [e0]; exact ⟨congrArg (fun z => some (Value.int z)) (if_pos hxy).symm, N0, rfl⟩) (by decide) (by decide)
  · refine own_go (fun zt zk => Jvm.RoadKit.acmp (g := (mkF m 2 #[rv a1, rv a2, .unset] [(.ref a2), (.ref a1)])) X0 hx rfl rfl rfl (pc0 := 2) (pc' := 7) (same := false) rfl (hb hby own_d3_2) rfl (decide_eq_false fun q => hsame (Value.ref.inj q)) (by decide) (by decide) zk) ?_
    show own_Go p e below s _ _ _ (s₁.setTop (mkF m 7 #[rv a1, rv a2, .unset] []))
    refine own_go (fun zt zk => (XS.aloadN X0.here hx rfl (hb hby own_d3_7) rfl rfl zk)) ?_
    show own_Go p e below s _ _ _ (s₁.setTop (mkF m 8 #[rv a1, rv a2, .unset] [(.ref a2)]))
    obtain ⟨T1, X1, e1, st1⟩ := instY X0 hx hZ hown (hw _ (List.mem_of_getElem? (i := 31) rfl)) e0 (Ins.self Ex2) (g := (mkF m 8 #[rv a1, rv a2, .unset] [(.ref a2)])) rfl rfl (hb hby own_d3_8)
    refine own_go st1 ?_
    show own_Go p e below s _ _ _ (T1.setTop (mkF m 11 #[rv a1, rv a2, .unset] [(.int (1 : Int32))]))
    refine own_go (fun zt zk => (XS.ifNo X1.here hx rfl (hb hby own_d3_11) rfl ((if0 _ _).trans (feq ((by decide) : ¬ ((1 : Int32) = (0 : Int32)))).1) (XS.aloadN X1.here hx rfl (hb hby own_d3_14) rfl rfl zk))) ?_
    show own_Go p e below s _ _ _ (T1.setTop (mkF m 15 #[rv a1, rv a2, .unset] [(.ref a2)]))
    obtain ⟨T2, X2, e2, st2⟩ := castY X1 hx hZ hown (hw _ (List.mem_of_getElem? (i := 31) rfl)) e1 (Ins.self Ex2) (g := (mkF m 15 #[rv a1, rv a2, .unset] [(.ref a2)])) rfl rfl (hb hby own_d3_15)
    refine own_go st2 ?_
    show own_Go p e below s _ _ _ (T2.setTop (mkF m 18 #[rv a1, rv a2, .unset] [(.ref a2)]))
    refine own_go (fun zt zk => (XS.astoreN X2.here hx rfl (hb hby own_d3_18) rfl rfl (l' := #[rv a1, rv a2, rv a2]) rfl zk)) ?_
    show own_Go p e below s _ _ _ (T2.setTop (mkF m 19 #[rv a1, rv a2, rv a2] []))
    obtain ⟨T3, X3, e3, st3⟩ := getS2 X2 hx hZ hown (host := "") (Or.inl (hw _ (List.mem_of_getElem? (i := 33) rfl))) Via.refl e2 (SC.ext O.2) (g := (mkF m 19 #[rv a1, rv a2, rv a2] [])) rfl (hb hby own_d3_19)
    refine own_go st3 ?_
    show own_Go p e below s _ _ _ (T3.setTop (mkF m 22 #[rv a1, rv a2, rv a2] [(.int cz)]))
    refine own_go (fun zt zk => (XS.ifNo X3.here hx rfl (hb hby own_d3_22) rfl ((if0 _ _).trans (feq (hz : ¬ (cz = (0 : Int32)))).1) (XS.aloadN X3.here hx rfl (hb hby own_d3_25) rfl rfl zk))) ?_
    show own_Go p e below s _ _ _ (T3.setTop (mkF m 26 #[rv a1, rv a2, rv a2] [(.ref a1)]))
    obtain ⟨T4, X4, e4, st4⟩ := getF X3 hx hZ hown (host := "") (Or.inl (hw _ (List.mem_of_getElem? (i := 34) rfl))) Via.refl e3 Fc1 (g := (mkF m 26 #[rv a1, rv a2, rv a2] [(.ref a1)])) rfl rfl (hb hby own_d3_26)
    refine own_go st4 ?_
    show own_Go p e below s _ _ _ (T4.setTop (mkF m 29 #[rv a1, rv a2, rv a2] [(.int (0 : Int32))]))
    refine own_go (fun zt zk => (XS.aloadN X4.here hx rfl (hb hby own_d3_29) rfl rfl zk)) ?_
    show own_Go p e below s _ _ _ (T4.setTop (mkF m 30 #[rv a1, rv a2, rv a2] [(.ref a2), (.int (0 : Int32))]))
    obtain ⟨T5, X5, e5, st5⟩ := getF X4 hx hZ hown (host := "") (Or.inl (hw _ (List.mem_of_getElem? (i := 34) rfl))) Via.refl e4 Fc2 (g := (mkF m 30 #[rv a1, rv a2, rv a2] [(.ref a2), (.int (0 : Int32))])) rfl rfl (hb hby own_d3_30)
    refine own_go st5 ?_
    show own_Go p e below s _ _ _ (T5.setTop (mkF m 33 #[rv a1, rv a2, rv a2] [(.int (0 : Int32)), (.int (0 : Int32))]))
    refine own_go (fun zt zk => (XS.icmpNo X5.here hx rfl (hb hby own_d3_33) rfl (teq (rfl : (0 : Int32) = (0 : Int32))).2 (XS.aloadN X5.here hx rfl (hb hby own_d3_36) rfl rfl zk))) ?_
    show own_Go p e below s _ _ _ (T5.setTop (mkF m 37 #[rv a1, rv a2, rv a2] [(.ref a1)]))
    obtain ⟨T6, X6, e6, st6⟩ := getF X5 hx hZ hown (host := "") (Or.inl (hw _ (List.mem_of_getElem? (i := 35) rfl))) Via.refl e5 Fv1 (g := (mkF m 37 #[rv a1, rv a2, rv a2] [(.ref a1)])) rfl rfl (hb hby own_d3_37)
    refine own_go st6 ?_
    show own_Go p e below s _ _ _ (T6.setTop (mkF m 40 #[rv a1, rv a2, rv a2] [(.ref t1)]))
    refine own_go (fun zt zk => (XS.aloadN X6.here hx rfl (hb hby own_d3_40) rfl rfl zk)) ?_
    show own_Go p e below s _ _ _ (T6.setTop (mkF m 41 #[rv a1, rv a2, rv a2] [(.ref a2), (.ref t1)]))
    obtain ⟨T7, X7, e7, st7⟩ := getF X6 hx hZ hown (host := "") (Or.inl (hw _ (List.mem_of_getElem? (i := 35) rfl))) Via.refl e6 Fv2 (g := (mkF m 41 #[rv a1, rv a2, rv a2] [(.ref a2), (.ref t1)])) rfl rfl (hb hby own_d3_41)
    refine own_go st7 ?_
    show own_Go p e below s _ _ _ (T7.setTop (mkF m 44 #[rv a1, rv a2, rv a2] [(.ref t2), (.ref t1)]))
    obtain ⟨_, _, ⟨T8, L8, k8, n8⟩, -, X8, ⟨Lc8, hQ8, l8, y8, z8⟩, st8⟩ := Jvm.LawKit.callS X7 hx (y := (⟨"java/lang/StringLatin1", "equals", "([B[B)Z"⟩ : MethodName)) hown (mvT hZ (hw _ (List.mem_of_getElem? (i := 36) rfl))) (mvT hZ (hw _ (List.mem_of_getElem? (i := 37) rfl))) (mvT hZ (hw _ (List.mem_of_getElem? (i := 38) rfl))) (mvT hZ (hw _ (List.mem_of_getElem? (i := 39) rfl))) (by decide) (backOf (W := 0) (own_rleq l Z a0 hw [] t1 t2 k1 k2 N1 N2 xs ys h0 n0 Z0 Va1 Va2 hl1 hl2) hZ (hw _ (List.mem_of_getElem? (i := 39) rfl)) (hw _ (List.mem_of_getElem? (i := 38) rfl)) (by decide) (by decide)) (g := (mkF m 44 #[rv a1, rv a2, rv a2] [(.ref t2), (.ref t1)])) rfl (by rw [hml]; rfl) (argsL := [(.ref t1), (.ref t2)]) (rest := []) (lenOf own_pd___B_B_Z rfl) rfl (by show 2 * 0 + _ ≤ _; exact Nat.le_of_eq rfl) (hb hby own_d3_44) (fun _ _ => ⟨rfl, e7, (by decide : 0 + 0 ≤ _), (by decide : 0 + 0 ≤ _)⟩)
    dsimp only [Pt.U, Pt.locs, Pt.cells, Pt.slots] at X8 l8 y8 z8 st8 hQ8
    subst l8 y8 z8
    obtain ⟨rfl, Nq8, e8⟩ := hQ8
    have N8 := Fr.app N0 Nq8
    refine own_go st8 ?_
    show own_Go p e below s _ _ _ (T8.setTop (mkF m 47 #[rv a1, rv a2, rv a2] [(.int (own_eqv xs ys))]))
    by_cases hxy : xs = ys
    · refine own_go (fun zt zk => (XS.ifNo X8.here hx rfl (hb hby own_d3_47) rfl ((if0 _ _).trans (feq ((by rw [show own_eqv xs ys = (1 : Int32) from if_pos hxy]; decide) : ¬ ((own_eqv xs ys) = (0 : Int32)))).1) (XS.iconst X8.here hx rfl (hb hby own_d3_50) (XS.goto X8.here hx rfl (pc0 := 51) (pc' := 55) rfl (hb hby own_d3_51) (by decide) (by decide) zk)))) ?_
      show own_Go p e below s _ _ _ (T8.setTop (mkF m 55 #[rv a1, rv a2, rv a2] [(.int (1 : Int32))]))
      exact own_fin X8 Bd.notSynchronized (fun h => by rw [Bd.returns] at h; cases h) (fun fs hr => retN X8 hx (t := .boolean) Bd.returns (by simp) (hb hby own_d3_55) hr) (by rw [e8]; exact ⟨congrArg (fun z => some (Value.int z)) (if_pos hxy).symm, N8, rfl⟩) (by decide) (by decide)
    · refine own_go (fun zt zk => (XS.ifYes X8.here hx rfl (pc0 := 47) (pc' := 54) rfl (hb hby own_d3_47) rfl ((if0 _ _).trans (teq ((if_neg hxy) : (own_eqv xs ys) = (0 : Int32))).1) (by decide) (by decide) (XS.iconst X8.here hx rfl (hb hby own_d3_54) zk))) ?_
      show own_Go p e below s _ _ _ (T8.setTop (mkF m 55 #[rv a1, rv a2, rv a2] [(.int (0 : Int32))]))
      exact own_fin X8 Bd.notSynchronized (fun h => by rw [Bd.returns] at h; cases h) (fun fs hr => retN X8 hx (t := .boolean) Bd.returns (by simp) (hb hby own_d3_55) hr) (by rw [e8]; exact ⟨congrArg (fun z => some (Value.int z)) (if_neg hxy).symm, N8, rfl⟩) (by decide) (by decide)
theorem own_d1_0 : decode prog_8_method_6_code 0 = .ok (.aload_n 0, 1) := by decide +kernel
theorem own_d1_1 : decode prog_8_method_6_code 1 = .ok (.getstatic 10, 3) := by decide +kernel
theorem own_d1_4 : decode prog_8_method_6_code 4 = .ok (.if_acmp .ne 7, 3) := by decide +kernel
theorem own_d1_7 : decode prog_8_method_6_code 7 = .ok (.iconst 1, 1) := by decide +kernel
theorem own_d1_8 : decode prog_8_method_6_code 8 = .ok (.goto 4, 3) := by decide +kernel
theorem own_d1_12 : decode prog_8_method_6_code 12 = .ok (.ireturn, 1) := by decide +kernel
theorem own_pn_com_example_boxwright_boxwright_Kind : plainName "com/example/boxwright/boxwright/Kind" = true := by first | (simp [plainName, overriddenIn]; done) | decide +kernel
theorem own_ef_own_rhl1 (m : MethodId) (o_DATA_PROPERTY : Addr) : entryFrame m #[(.ref o_DATA_PROPERTY)] 1 = mkF m 0 #[rv o_DATA_PROPERTY] [] := by first | (simp [entryFrame, mkF, argsToLocals, Value.category]; done) | rfl
def own_Q_own_rhl1 (Z : State) (o_DATA_PROPERTY : Addr) (h0 : Heap) (n0 : Nat) (v : Option Value) (h : Heap) (L : List Loc) : Prop := v = some (.int (1 : Int32)) ∧ Fr n0 L ∧ h = h0
set_option maxRecDepth 65536 in
set_option maxHeartbeats 40000000 in
theorem own_rhl1 (l : Launch) (Z : State) (a0 : Array Value) (hw : ∀ d ∈ tables_1, d.before a0 Z = true) (ws : List Jvm.Cond) (o_DATA_PROPERTY : Addr) (h0 : Heap) (n0 : Nat) (Z0 : n0 ≤ h0.size) (O : Old Z n0 h0) (S_o_DATA_PROPERTY : Sta Z Z.heap "com/example/boxwright/boxwright/Kind" "DATA_PROPERTY" "Lcom/example/boxwright/boxwright/Kind;" (.ref o_DATA_PROPERTY))  :
    MetFree l (⟨"com/example/boxwright/boxwright/Kind", "holdsLiteral", "()Z"⟩ : MethodName) (head1 (Jvm.Cond.code (⟨"com/example/boxwright/boxwright/Kind", "holdsLiteral", "()Z"⟩ : MethodName) prog_8_method_6_code 1 (some .boolean) :: ws) ({ frames := 0, cells := 0, slots := 0, locals := 0 } : Room)) (fun a U => a = #[(.ref o_DATA_PROPERTY)] ∧ Z.Warmed39 U.vm ∧ U.heap = h0) (fun _ _ _ _ _ => True) (fun _ U o U' => ∃ v L, o = .returned v ∧ own_Q_own_rhl1 Z o_DATA_PROPERTY h0 n0 v U'.heap L ∧ FrameEnd U o U' L ({ frames := 0, cells := 0, slots := 0, locals := 0 } : Room).cells ({ frames := 0, cells := 0, slots := 0, locals := 0 } : Room).slots) := by
  refine MetFree.of_bodySF (plainFor_of_name own_pn_com_example_boxwright_boxwright_Kind) hisR ?_
  intro p e s m args below meth c s₁ Bd hml0 hP hK
  obtain ⟨rfl, hZ, hh⟩ := hP
  have hx := Bd.exec
  have hby := Bd.bytes
  have hml : c.maxLocals = 1 := hml0
  have hown : s.vm.findClass "com/example/boxwright/boxwright/Kind" = some m.cls := findClass_of_methodNamed Bd.named
  have hnm := (name_of_methodNamed Bd.named Bd.method).1
  have X0 : Stand p l e ({ frames := 0, cells := 0, slots := 0, locals := 0 } : Room) s m #[(.ref o_DATA_PROPERTY)] below meth c s₁ [] 0 0 := Stand.of_body Bd
  have e0 : s₁.heap = h0 := by rw [← hh, Bd.state]; rfl
  have N0 := Fr.nil n0
  show own_Go p e below s (own_Q_own_rhl1 Z o_DATA_PROPERTY h0 n0) ({ frames := 0, cells := 0, slots := 0, locals := 0 } : Room).cells ({ frames := 0, cells := 0, slots := 0, locals := 0 } : Room).slots (s₁.setTop (entryFrame m #[(.ref o_DATA_PROPERTY)] 1))
  refine own_go (fun zt zk => castTop (own_ef_own_rhl1 m o_DATA_PROPERTY) zk) ?_
  show own_Go p e below s _ _ _ (s₁.setTop (mkF m 0 #[rv o_DATA_PROPERTY] []))
  refine own_go (fun zt zk => (XS.aloadN X0.here hx rfl (hb hby own_d1_0) rfl rfl zk)) ?_
  show own_Go p e below s _ _ _ (s₁.setTop (mkF m 1 #[rv o_DATA_PROPERTY] [(.ref o_DATA_PROPERTY)]))
  obtain ⟨T1, X1, e1, st1⟩ := getS2 X0 hx hZ hown (host := "") (Or.inl (hw _ (List.mem_of_getElem? (i := 9) rfl))) Via.refl e0 (S_o_DATA_PROPERTY.ext O.2) (g := (mkF m 1 #[rv o_DATA_PROPERTY] [(.ref o_DATA_PROPERTY)])) rfl (hb hby own_d1_1)
  refine own_go st1 ?_
  show own_Go p e below s _ _ _ (T1.setTop (mkF m 4 #[rv o_DATA_PROPERTY] [(.ref o_DATA_PROPERTY), (.ref o_DATA_PROPERTY)]))
  refine own_go (fun zt zk => Jvm.RoadKit.acmp (g := (mkF m 4 #[rv o_DATA_PROPERTY] [(.ref o_DATA_PROPERTY), (.ref o_DATA_PROPERTY)])) X1 hx rfl rfl rfl (pc0 := 4) (pc' := 7) (same := true) rfl (hb hby own_d1_4) rfl (decide_eq_true rfl) (by decide) (by decide) zk) ?_
  show own_Go p e below s _ _ _ (T1.setTop (mkF m 7 #[rv o_DATA_PROPERTY] []))
  refine own_go (fun zt zk => (XS.iconst X1.here hx rfl (hb hby own_d1_7) (XS.goto X1.here hx rfl (pc0 := 8) (pc' := 12) rfl (hb hby own_d1_8) (by decide) (by decide) zk))) ?_
  show own_Go p e below s _ _ _ (T1.setTop (mkF m 12 #[rv o_DATA_PROPERTY] [(.int (1 : Int32))]))
  exact own_fin X1 Bd.notSynchronized (fun h => by rw [Bd.returns] at h; cases h) (fun fs hr => retN X1 hx (t := .boolean) Bd.returns (by simp) (hb hby own_d1_12) hr) (by rw [e1]; exact ⟨rfl, N0, rfl⟩) (by decide) (by decide)
theorem own_d1_11 : decode prog_8_method_6_code 11 = .ok (.iconst 0, 1) := by decide +kernel
theorem own_ef_own_rhl0 (m : MethodId) (a1 : Addr) : entryFrame m #[(.ref a1)] 1 = mkF m 0 #[rv a1] [] := by first | (simp [entryFrame, mkF, argsToLocals, Value.category]; done) | rfl
def own_Q_own_rhl0 (Z : State) (a1 : Addr) (o_DATA_PROPERTY : Addr) (h0 : Heap) (n0 : Nat) (v : Option Value) (h : Heap) (L : List Loc) : Prop := v = some (.int (0 : Int32)) ∧ Fr n0 L ∧ h = h0
set_option maxRecDepth 65536 in
set_option maxHeartbeats 40000000 in
theorem own_rhl0 (l : Launch) (Z : State) (a0 : Array Value) (hw : ∀ d ∈ tables_1, d.before a0 Z = true) (ws : List Jvm.Cond) (a1 : Addr) (o_DATA_PROPERTY : Addr) (h0 : Heap) (n0 : Nat) (Z0 : n0 ≤ h0.size) (O : Old Z n0 h0) (S_o_DATA_PROPERTY : Sta Z Z.heap "com/example/boxwright/boxwright/Kind" "DATA_PROPERTY" "Lcom/example/boxwright/boxwright/Kind;" (.ref o_DATA_PROPERTY)) (hne : ¬ (a1 = o_DATA_PROPERTY)) :
    MetFree l (⟨"com/example/boxwright/boxwright/Kind", "holdsLiteral", "()Z"⟩ : MethodName) (head1 (Jvm.Cond.code (⟨"com/example/boxwright/boxwright/Kind", "holdsLiteral", "()Z"⟩ : MethodName) prog_8_method_6_code 1 (some .boolean) :: ws) ({ frames := 0, cells := 0, slots := 0, locals := 0 } : Room)) (fun a U => a = #[(.ref a1)] ∧ Z.Warmed39 U.vm ∧ U.heap = h0) (fun _ _ _ _ _ => True) (fun _ U o U' => ∃ v L, o = .returned v ∧ own_Q_own_rhl0 Z a1 o_DATA_PROPERTY h0 n0 v U'.heap L ∧ FrameEnd U o U' L ({ frames := 0, cells := 0, slots := 0, locals := 0 } : Room).cells ({ frames := 0, cells := 0, slots := 0, locals := 0 } : Room).slots) := by
  refine MetFree.of_bodySF (plainFor_of_name own_pn_com_example_boxwright_boxwright_Kind) hisR ?_
  intro p e s m args below meth c s₁ Bd hml0 hP hK
  obtain ⟨rfl, hZ, hh⟩ := hP
  have hx := Bd.exec
  have hby := Bd.bytes
  have hml : c.maxLocals = 1 := hml0
  have hown : s.vm.findClass "com/example/boxwright/boxwright/Kind" = some m.cls := findClass_of_methodNamed Bd.named
  have hnm := (name_of_methodNamed Bd.named Bd.method).1
  have X0 : Stand p l e ({ frames := 0, cells := 0, slots := 0, locals := 0 } : Room) s m #[(.ref a1)] below meth c s₁ [] 0 0 := Stand.of_body Bd
  have e0 : s₁.heap = h0 := by rw [← hh, Bd.state]; rfl
  have N0 := Fr.nil n0
  show own_Go p e below s (own_Q_own_rhl0 Z a1 o_DATA_PROPERTY h0 n0) ({ frames := 0, cells := 0, slots := 0, locals := 0 } : Room).cells ({ frames := 0, cells := 0, slots := 0, locals := 0 } : Room).slots (s₁.setTop (entryFrame m #[(.ref a1)] 1))
  refine own_go (fun zt zk => castTop (own_ef_own_rhl0 m a1) zk) ?_
  show own_Go p e below s _ _ _ (s₁.setTop (mkF m 0 #[rv a1] []))
  refine own_go (fun zt zk => (XS.aloadN X0.here hx rfl (hb hby own_d1_0) rfl rfl zk)) ?_
  show own_Go p e below s _ _ _ (s₁.setTop (mkF m 1 #[rv a1] [(.ref a1)]))
  obtain ⟨T1, X1, e1, st1⟩ := getS2 X0 hx hZ hown (host := "") (Or.inl (hw _ (List.mem_of_getElem? (i := 9) rfl))) Via.refl e0 (S_o_DATA_PROPERTY.ext O.2) (g := (mkF m 1 #[rv a1] [(.ref a1)])) rfl (hb hby own_d1_1)
  refine own_go st1 ?_
  show own_Go p e below s _ _ _ (T1.setTop (mkF m 4 #[rv a1] [(.ref o_DATA_PROPERTY), (.ref a1)]))
  refine own_go (fun zt zk => Jvm.RoadKit.acmp (g := (mkF m 4 #[rv a1] [(.ref o_DATA_PROPERTY), (.ref a1)])) X1 hx rfl rfl rfl (pc0 := 4) (pc' := 11) (same := false) rfl (hb hby own_d1_4) rfl (decide_eq_false fun q => hne (Value.ref.inj q)) (by decide) (by decide) zk) ?_
  show own_Go p e below s _ _ _ (T1.setTop (mkF m 11 #[rv a1] []))
  refine own_go (fun zt zk => (XS.iconst X1.here hx rfl (hb hby own_d1_11) zk)) ?_
  show own_Go p e below s _ _ _ (T1.setTop (mkF m 12 #[rv a1] [(.int (0 : Int32))]))
  exact own_fin X1 Bd.notSynchronized (fun h => by rw [Bd.returns] at h; cases h) (fun fs hr => retN X1 hx (t := .boolean) Bd.returns (by simp) (hb hby own_d1_12) hr) (by rw [e1]; exact ⟨rfl, N0, rfl⟩) (by decide) (by decide)
theorem own_d2_0 : decode prog_8_method_4_code 0 = .ok (.aload_n 0, 1) := by decide +kernel
theorem own_d2_1 : decode prog_8_method_4_code 1 = .ok (.getfield 32, 3) := by decide +kernel
theorem own_d2_4 : decode prog_8_method_4_code 4 = .ok (.areturn, 1) := by decide +kernel
theorem own_ef_own_rlabel (m : MethodId) (a1 : Addr) : entryFrame m #[(.ref a1)] 1 = mkF m 0 #[rv a1] [] := by first | (simp [entryFrame, mkF, argsToLocals, Value.category]; done) | rfl
def own_Q_own_rlabel (Z : State) (a1 : Addr) (b : Addr) (h0 : Heap) (n0 : Nat) (v : Option Value) (h : Heap) (L : List Loc) : Prop := v = some (.ref b) ∧ Fr n0 L ∧ h = h0
set_option maxRecDepth 65536 in
set_option maxHeartbeats 40000000 in
theorem own_rlabel (l : Launch) (Z : State) (a0 : Array Value) (hw : ∀ d ∈ tables_1, d.before a0 Z = true) (ws : List Jvm.Cond) (a1 : Addr) (b : Addr) (h0 : Heap) (n0 : Nat) (Z0 : n0 ≤ h0.size) (F1 : Fld Z h0 a1 "com/example/boxwright/boxwright/Kind" "label" "Ljava/lang/String;" (.ref b))  :
    MetFree l (⟨"com/example/boxwright/boxwright/Kind", "label", "()Ljava/lang/String;"⟩ : MethodName) (head1 (Jvm.Cond.code (⟨"com/example/boxwright/boxwright/Kind", "label", "()Ljava/lang/String;"⟩ : MethodName) prog_8_method_4_code 1 (some (.object "java/lang/String")) :: ws) ({ frames := 0, cells := 0, slots := 0, locals := 0 } : Room)) (fun a U => a = #[(.ref a1)] ∧ Z.Warmed39 U.vm ∧ U.heap = h0) (fun _ _ _ _ _ => True) (fun _ U o U' => ∃ v L, o = .returned v ∧ own_Q_own_rlabel Z a1 b h0 n0 v U'.heap L ∧ FrameEnd U o U' L ({ frames := 0, cells := 0, slots := 0, locals := 0 } : Room).cells ({ frames := 0, cells := 0, slots := 0, locals := 0 } : Room).slots) := by
  refine MetFree.of_bodySF (plainFor_of_name own_pn_com_example_boxwright_boxwright_Kind) hisR ?_
  intro p e s m args below meth c s₁ Bd hml0 hP hK
  obtain ⟨rfl, hZ, hh⟩ := hP
  have hx := Bd.exec
  have hby := Bd.bytes
  have hml : c.maxLocals = 1 := hml0
  have hown : s.vm.findClass "com/example/boxwright/boxwright/Kind" = some m.cls := findClass_of_methodNamed Bd.named
  have hnm := (name_of_methodNamed Bd.named Bd.method).1
  have X0 : Stand p l e ({ frames := 0, cells := 0, slots := 0, locals := 0 } : Room) s m #[(.ref a1)] below meth c s₁ [] 0 0 := Stand.of_body Bd
  have e0 : s₁.heap = h0 := by rw [← hh, Bd.state]; rfl
  have N0 := Fr.nil n0
  show own_Go p e below s (own_Q_own_rlabel Z a1 b h0 n0) ({ frames := 0, cells := 0, slots := 0, locals := 0 } : Room).cells ({ frames := 0, cells := 0, slots := 0, locals := 0 } : Room).slots (s₁.setTop (entryFrame m #[(.ref a1)] 1))
  refine own_go (fun zt zk => castTop (own_ef_own_rlabel m a1) zk) ?_
  show own_Go p e below s _ _ _ (s₁.setTop (mkF m 0 #[rv a1] []))
  refine own_go (fun zt zk => (XS.aloadN X0.here hx rfl (hb hby own_d2_0) rfl rfl zk)) ?_
  show own_Go p e below s _ _ _ (s₁.setTop (mkF m 1 #[rv a1] [(.ref a1)]))
  obtain ⟨T1, X1, e1, st1⟩ := getF X0 hx hZ hown (host := "") (Or.inl (hw _ (List.mem_of_getElem? (i := 24) rfl))) Via.refl e0 F1 (g := (mkF m 1 #[rv a1] [(.ref a1)])) rfl rfl (hb hby own_d2_1)
  refine own_go st1 ?_
  show own_Go p e below s _ _ _ (T1.setTop (mkF m 4 #[rv a1] [(.ref b)]))
  exact own_fin X1 Bd.notSynchronized (fun h => by rw [Bd.returns] at h; cases h) (fun fs hr => retOut X1 hx (t := (.object "java/lang/String")) (w := (.ref b)) Bd.returns rfl (Or.inr (Or.inr (Or.inr (Or.inr ⟨rfl, rfl, rfl⟩)))) (hb hby own_d2_4) hr) (by rw [e1]; exact ⟨rfl, N0, rfl⟩) (by decide) (by decide)
theorem own_pd___Z : parseMethodDescriptor "()Z" = some ⟨[], some .boolean⟩ := by decide +kernel
theorem own_pd___Ljava_lang_String_ : parseMethodDescriptor "()Ljava/lang/String;" = some ⟨[], some (.object "java/lang/String")⟩ := by decide +kernel
theorem own_pd__Ljava_lang_Object__Z : parseMethodDescriptor "(Ljava/lang/Object;)Z" = some ⟨[(.object "java/lang/Object")], some .boolean⟩ := by decide +kernel
theorem own_pn_com_example_boxwright_boxwright_KindHoldsLiteralPinLaw : plainName "com/example/boxwright/boxwright/KindHoldsLiteralPinLaw" = true := by first | (simp [plainName, overriddenIn]; done) | decide +kernel
theorem own_ef_own_law (m : MethodId) (p1 : Int32) : entryFrame m #[(.int p1)] maxLocals = mkF m 0 #[iv p1, .unset, .unset, .unset, .unset, .unset] [] := by first | (simp [entryFrame, mkF, argsToLocals, Value.category, maxLocals]; done) | rfl
def own_Q_own_law (Z : State) (p1 : Int32) (o_CLASS : Addr) (o_DATA_PROPERTY : Addr) (o_CLASS_label : Addr) (o_CLASS_label_value : Addr) (o_DATA_PROPERTY_label : Addr) (o_DATA_PROPERTY_label_value : Addr) (o_OBJECT_PROPERTY : Addr) (o_OBJECT_PROPERTY_label : Addr) (o_OBJECT_PROPERTY_label_value : Addr) (o_COMPACT_STRINGS : Int32) (o_SIOOBE_FORMATTER : Value) (k_o_CLASS_label_value : ClassId) (k_o_DATA_PROPERTY_label_value : ClassId) (k_o_OBJECT_PROPERTY_label_value : ClassId) (h0 : Heap) (n0 : Nat) (v : Option Value) (h : Heap) (L : List Loc) : Prop := v = some (.int 1) ∧ Fr n0 L
set_option maxRecDepth 65536 in
set_option maxHeartbeats 40000000 in
theorem own_law (l : Launch) (Z : State) (a0 : Array Value) (hw : ∀ d ∈ tables_1, d.before a0 Z = true) (ws : List Jvm.Cond) (p1 : Int32) (o_CLASS : Addr) (o_DATA_PROPERTY : Addr) (o_CLASS_label : Addr) (o_CLASS_label_value : Addr) (o_DATA_PROPERTY_label : Addr) (o_DATA_PROPERTY_label_value : Addr) (o_OBJECT_PROPERTY : Addr) (o_OBJECT_PROPERTY_label : Addr) (o_OBJECT_PROPERTY_label_value : Addr) (o_COMPACT_STRINGS : Int32) (o_SIOOBE_FORMATTER : Value) (k_o_CLASS_label_value : ClassId) (k_o_DATA_PROPERTY_label_value : ClassId) (k_o_OBJECT_PROPERTY_label_value : ClassId) (vm0 : Vm) (h0 : Heap) (n0 : Nat) (Z0 : n0 ≤ h0.size) (O : Old Z n0 h0) (S_o_CLASS : Sta Z Z.heap "com/example/boxwright/boxwright/Kind" "CLASS" "Lcom/example/boxwright/boxwright/Kind;" (.ref o_CLASS)) (Ex_o_CLASS : Exa Z Z.heap o_CLASS "com/example/boxwright/boxwright/Kind") (S_o_DATA_PROPERTY : Sta Z Z.heap "com/example/boxwright/boxwright/Kind" "DATA_PROPERTY" "Lcom/example/boxwright/boxwright/Kind;" (.ref o_DATA_PROPERTY)) (Ex_o_DATA_PROPERTY : Exa Z Z.heap o_DATA_PROPERTY "com/example/boxwright/boxwright/Kind") (F_o_CLASS_ordinal : Fld Z Z.heap o_CLASS "java/lang/Enum" "ordinal" "I" (.int (0 : Int32))) (F_o_DATA_PROPERTY_ordinal : Fld Z Z.heap o_DATA_PROPERTY "java/lang/Enum" "ordinal" "I" (.int (2 : Int32))) (F_o_CLASS_label : Fld Z Z.heap o_CLASS "com/example/boxwright/boxwright/Kind" "label" "Ljava/lang/String;" (.ref o_CLASS_label)) (Ex_o_CLASS_label : Exa Z Z.heap o_CLASS_label "java/lang/String") (F_o_CLASS_label_coder : Fld Z Z.heap o_CLASS_label "java/lang/String" "coder" "B" (.int (0 : Int32))) (F_o_CLASS_label_value : Fld Z Z.heap o_CLASS_label "java/lang/String" "value" "[B" (.ref o_CLASS_label_value)) (F_o_DATA_PROPERTY_label : Fld Z Z.heap o_DATA_PROPERTY "com/example/boxwright/boxwright/Kind" "label" "Ljava/lang/String;" (.ref o_DATA_PROPERTY_label)) (Ex_o_DATA_PROPERTY_label : Exa Z Z.heap o_DATA_PROPERTY_label "java/lang/String") (F_o_DATA_PROPERTY_label_coder : Fld Z Z.heap o_DATA_PROPERTY_label "java/lang/String" "coder" "B" (.int (0 : Int32))) (F_o_DATA_PROPERTY_label_value : Fld Z Z.heap o_DATA_PROPERTY_label "java/lang/String" "value" "[B" (.ref o_DATA_PROPERTY_label_value)) (S_o_OBJECT_PROPERTY : Sta Z Z.heap "com/example/boxwright/boxwright/Kind" "OBJECT_PROPERTY" "Lcom/example/boxwright/boxwright/Kind;" (.ref o_OBJECT_PROPERTY)) (Ex_o_OBJECT_PROPERTY : Exa Z Z.heap o_OBJECT_PROPERTY "com/example/boxwright/boxwright/Kind") (F_o_OBJECT_PROPERTY_ordinal : Fld Z Z.heap o_OBJECT_PROPERTY "java/lang/Enum" "ordinal" "I" (.int (1 : Int32))) (F_o_OBJECT_PROPERTY_label : Fld Z Z.heap o_OBJECT_PROPERTY "com/example/boxwright/boxwright/Kind" "label" "Ljava/lang/String;" (.ref o_OBJECT_PROPERTY_label)) (Ex_o_OBJECT_PROPERTY_label : Exa Z Z.heap o_OBJECT_PROPERTY_label "java/lang/String") (F_o_OBJECT_PROPERTY_label_coder : Fld Z Z.heap o_OBJECT_PROPERTY_label "java/lang/String" "coder" "B" (.int (0 : Int32))) (F_o_OBJECT_PROPERTY_label_value : Fld Z Z.heap o_OBJECT_PROPERTY_label "java/lang/String" "value" "[B" (.ref o_OBJECT_PROPERTY_label_value)) (S_o_COMPACT_STRINGS : Sta Z Z.heap "java/lang/String" "COMPACT_STRINGS" "Z" (.int o_COMPACT_STRINGS)) (S_o_SIOOBE_FORMATTER : Sta Z Z.heap "jdk/internal/util/Preconditions" "SIOOBE_FORMATTER" "Ljava/util/function/BiFunction;" o_SIOOBE_FORMATTER) (V_o_CLASS_label_value : Arv Z Z.heap o_CLASS_label_value k_o_CLASS_label_value .byte (5 : Int32) [(.int (99 : Int32)), (.int (108 : Int32)), (.int (97 : Int32)), (.int (115 : Int32)), (.int (115 : Int32))] (.int (0 : Int32))) (V_o_DATA_PROPERTY_label_value : Arv Z Z.heap o_DATA_PROPERTY_label_value k_o_DATA_PROPERTY_label_value .byte (17 : Int32) [(.int (100 : Int32)), (.int (97 : Int32)), (.int (116 : Int32)), (.int (97 : Int32)), (.int (116 : Int32)), (.int (121 : Int32)), (.int (112 : Int32)), (.int (101 : Int32)), (.int (32 : Int32)), (.int (112 : Int32)), (.int (114 : Int32)), (.int (111 : Int32)), (.int (112 : Int32)), (.int (101 : Int32)), (.int (114 : Int32)), (.int (116 : Int32)), (.int (121 : Int32))] (.int (0 : Int32))) (V_o_OBJECT_PROPERTY_label_value : Arv Z Z.heap o_OBJECT_PROPERTY_label_value k_o_OBJECT_PROPERTY_label_value .byte (15 : Int32) [(.int (111 : Int32)), (.int (98 : Int32)), (.int (106 : Int32)), (.int (101 : Int32)), (.int (99 : Int32)), (.int (116 : Int32)), (.int (32 : Int32)), (.int (112 : Int32)), (.int (114 : Int32)), (.int (111 : Int32)), (.int (112 : Int32)), (.int (101 : Int32)), (.int (114 : Int32)), (.int (116 : Int32)), (.int (121 : Int32))] (.int (0 : Int32))) (nz_o_COMPACT_STRINGS : ¬ (o_COMPACT_STRINGS = (0 : Int32))) (r_o_SIOOBE_FORMATTER : o_SIOOBE_FORMATTER.isRef = true) :
    MetFree l x (head1 (Jvm.Cond.code x code maxLocals ret :: ws) room_1) (fun a U => a = #[(.int p1)] ∧ Z.Warmed39 U.vm ∧ U.heap = h0 ∧ CHr Z own_EL vm0 h0 U.vm h0) (fun _ _ _ _ _ => True) (fun _ U o U' => ∃ v L, o = .returned v ∧ own_Q_own_law Z p1 o_CLASS o_DATA_PROPERTY o_CLASS_label o_CLASS_label_value o_DATA_PROPERTY_label o_DATA_PROPERTY_label_value o_OBJECT_PROPERTY o_OBJECT_PROPERTY_label o_OBJECT_PROPERTY_label_value o_COMPACT_STRINGS o_SIOOBE_FORMATTER k_o_CLASS_label_value k_o_DATA_PROPERTY_label_value k_o_OBJECT_PROPERTY_label_value h0 n0 v U'.heap L ∧ CHr Z own_EL U.vm U.heap U'.vm U'.heap ∧ ReturnedEndW U o U' L room_1.cells room_1.slots) := by
  refine MetFree.of_bodySF (plainFor_of_name own_pn_com_example_boxwright_boxwright_KindHoldsLiteralPinLaw) hisR ?_
  intro p e s m args below meth c s₁ Bd hml0 hP hK
  obtain ⟨rfl, hZ, hh, hCH⟩ := hP
  have hx := Bd.exec
  have hby := Bd.bytes
  have hml : c.maxLocals = 6 := hml0
  have hown : s.vm.findClass "com/example/boxwright/boxwright/KindHoldsLiteralPinLaw" = some m.cls := findClass_of_methodNamed Bd.named
  have hnm := (name_of_methodNamed Bd.named Bd.method).1
  have X0 : Stand p l e room_1 (s.setVm s.vm) m #[(.int p1)] below meth c s₁ [] 0 0 := Stand.of_body Bd
  have e0 : s₁.heap = h0 := by rw [← hh, Bd.state]; rfl
  have N0 := Fr.nil n0
  have hEL := own_EW Z a0 hw
  have wS := own_wS Z a0 hw
  have hS : s.Since s.vm 0 := (State.WarmedH.refl s).since 0
  have hk : 0 ≤ h0.size := Nat.zero_le _
  have Rc : CHr Z own_EL s.vm h0 s.vm h0 := CHr.refl hCH.1
  have Kp : Keep h0 h0 [] := Keep.refl h0 _
  show own_GoW p e below s Z (own_Q_own_law Z p1 o_CLASS o_DATA_PROPERTY o_CLASS_label o_CLASS_label_value o_DATA_PROPERTY_label o_DATA_PROPERTY_label_value o_OBJECT_PROPERTY o_OBJECT_PROPERTY_label o_OBJECT_PROPERTY_label_value o_COMPACT_STRINGS o_SIOOBE_FORMATTER k_o_CLASS_label_value k_o_DATA_PROPERTY_label_value k_o_OBJECT_PROPERTY_label_value h0 n0) room_1.cells room_1.slots (s₁.setTop (entryFrame m #[(.int p1)] maxLocals))
  refine own_goW (fun zt zk => castTop (own_ef_own_law m p1) zk) ?_
  show own_GoW p e below s _ _ _ _ (s₁.setTop (mkF m 0 #[iv p1, .unset, .unset, .unset, .unset, .unset] []))
  refine own_goW (fun zt zk => (XS.iloadN X0.here hx rfl (hb hby at_0) rfl (X0.ldcI hx hown (mvT hZ (hw _ (List.mem_of_getElem? (i := 0) rfl))) (g := (mkF m 1 #[iv p1, .unset, .unset, .unset, .unset, .unset] [(.int p1)])) rfl (hb hby at_1) (XS.iand X0.here hx rfl (hb hby at_3) rfl (XS.iconst X0.here hx rfl (hb hby at_4) (iremM X0 hx rfl (hb hby at_5) rfl (by decide) (XS.istoreN X0.here hx rfl (hb hby at_6) rfl (l' := #[iv p1, iv ((p1 &&& (2147483647 : Int32)) % (3 : Int32)), .unset, .unset, .unset, .unset]) rfl zk))))))) ?_
  show own_GoW p e below s _ _ _ _ (s₁.setTop (mkF m 7 #[iv p1, iv ((p1 &&& (2147483647 : Int32)) % (3 : Int32)), .unset, .unset, .unset, .unset] []))
  generalize hv_k : ((p1 &&& (2147483647 : Int32)) % (3 : Int32)) = k
  show own_GoW p e below s _ _ _ _ (s₁.setTop (mkF m 7 #[iv p1, iv k, .unset, .unset, .unset, .unset] []))
  by_cases hk0_k : k = (0 : Int32)
  · subst hk0_k
    show own_GoW p e below s _ _ _ _ (s₁.setTop (mkF m 7 #[iv p1, iv (0 : Int32), .unset, .unset, .unset, .unset] []))
    refine own_goW (fun zt zk => (XS.iloadN X0.here hx rfl (hb hby at_7) rfl (XS.ifNo X0.here hx rfl (hb hby at_8) rfl ((if0 _ _).trans (teq (rfl : (0 : Int32) = (0 : Int32))).2) zk))) ?_
    show own_GoW p e below s _ _ _ _ (s₁.setTop (mkF m 11 #[iv p1, iv (0 : Int32), .unset, .unset, .unset, .unset] []))
    obtain ⟨T1, X1, e1, st1⟩ := getS2 X0 hx hZ hown (host := "") (Or.inl (hw _ (List.mem_of_getElem? (i := 1) rfl))) Via.refl e0 (S_o_CLASS.ext O.2) (g := (mkF m 11 #[iv p1, iv (0 : Int32), .unset, .unset, .unset, .unset] [])) rfl (hb hby at_11)
    refine own_goW st1 ?_
    show own_GoW p e below s _ _ _ _ (T1.setTop (mkF m 14 #[iv p1, iv (0 : Int32), .unset, .unset, .unset, .unset] [(.ref o_CLASS)]))
    refine own_goW (fun zt zk => (XS.astoreN X1.here hx rfl (hb hby at_14) rfl rfl (l' := #[iv p1, iv (0 : Int32), rv o_CLASS, .unset, .unset, .unset]) rfl (XS.goto X1.here hx rfl (pc0 := 15) (pc' := 34) rfl (hb hby at_15) (by decide) (by decide) (XS.aloadN X1.here hx rfl (hb hby at_34) rfl rfl zk)))) ?_
    show own_GoW p e below s _ _ _ _ (T1.setTop (mkF m 35 #[iv p1, iv (0 : Int32), rv o_CLASS, .unset, .unset, .unset] [(.ref o_CLASS)]))
    obtain ⟨cq2, kq2, qa2, qb2, qc2⟩ := isOf hZ e1 (Ex_o_CLASS.ext O.2)
    obtain ⟨_, _, ⟨T2, L2, k2, n2⟩, -, X2, ⟨Lc2, hQ2, l2, y2, z2⟩, st2⟩ := X1.virtualBack hx (y := (⟨"com/example/boxwright/boxwright/Kind", "holdsLiteral", "()Z"⟩ : MethodName)) (z := (⟨"com/example/boxwright/boxwright/Kind", "holdsLiteral", "()Z"⟩ : MethodName)) hown (mvT hZ (hw _ (List.mem_of_getElem? (i := 4) rfl))) (mvT hZ (hw _ (List.mem_of_getElem? (i := 5) rfl))) (notFace_of_selects (args := #[]) (mvT hZ (hw _ (List.mem_of_getElem? (i := 7) rfl)))) (mvT hZ (hw _ (List.mem_of_getElem? (i := 7) rfl))) (mvT hZ (hw _ (List.mem_of_getElem? (i := 6) rfl))) (by decide) (backOf (W := 0) (own_rhl0 l Z a0 hw [] o_CLASS o_DATA_PROPERTY h0 n0 Z0 O S_o_DATA_PROPERTY (Fld.ne F_o_CLASS_ordinal F_o_DATA_PROPERTY_ordinal (by decide))) hZ (hw _ (List.mem_of_getElem? (i := 8) rfl)) (hw _ (List.mem_of_getElem? (i := 2) rfl)) (by decide) (by decide)) qa2 qc2 (g := (mkF m 35 #[iv p1, iv (0 : Int32), rv o_CLASS, .unset, .unset, .unset] [(.ref o_CLASS)])) rfl (by rw [hml]; rfl) (Steps.refl _) (argsL := []) (rest := []) (lenOf own_pd___Z rfl) rfl (by show 2 * 0 + _ ≤ _; exact Nat.le_of_eq rfl) (hb hby at_35) (fun _ _ => ⟨rfl, e1, (by decide : 0 + 0 ≤ _), (by decide : 0 + 0 ≤ _)⟩)
    dsimp only [Pt.U, Pt.locs, Pt.cells, Pt.slots] at X2 l2 y2 z2 st2 hQ2
    subst l2 y2 z2
    obtain ⟨rfl, Nq2, e2⟩ := hQ2
    have N2 := Fr.app N0 Nq2
    refine own_goW (fun zt zk => st2.trans zk) ?_
    show own_GoW p e below s _ _ _ _ (T2.setTop (mkF m 38 #[iv p1, iv (0 : Int32), rv o_CLASS, .unset, .unset, .unset] [(.int (0 : Int32))]))
    refine own_goW (fun zt zk => (XS.istoreN X2.here hx rfl (hb hby at_38) rfl (l' := #[iv p1, iv (0 : Int32), rv o_CLASS, iv (0 : Int32), .unset, .unset]) rfl (XS.iloadN X2.here hx rfl (hb hby at_39) rfl (XS.iconst X2.here hx rfl (hb hby at_40) (XS.icmpYes X2.here hx rfl (pc0 := 41) (pc' := 48) rfl (hb hby at_41) rfl (feq ((by decide) : ¬ ((0 : Int32) = (2 : Int32)))).2 (by decide) (by decide) (XS.iconst X2.here hx rfl (hb hby at_48) (XS.istore X2.here hx rfl (hb hby at_49) rfl (l' := #[iv p1, iv (0 : Int32), rv o_CLASS, iv (0 : Int32), iv (0 : Int32), .unset]) rfl zk))))))) ?_
    show own_GoW p e below s _ _ _ _ (T2.setTop (mkF m 51 #[iv p1, iv (0 : Int32), rv o_CLASS, iv (0 : Int32), iv (0 : Int32), .unset] []))
    obtain ⟨a3, T3, h3, q3, b3, k3, X3, e3, E3, hS3, hk3, hZ3, hown3, Ex_a3, Fc_a3, Fv_a3, Va_b3, lta3, ltb3, A3, Li3, Sn3, st3⟩ := ldcCH X2 hx hZ hown (hw _ (List.mem_of_getElem? (i := 11) rfl)) wS e2 hS hk hEL (by decide +kernel) Rc.1 (vs := [(.int (100 : Int32)), (.int (97 : Int32)), (.int (116 : Int32)), (.int (97 : Int32)), (.int (116 : Int32)), (.int (121 : Int32)), (.int (112 : Int32)), (.int (101 : Int32)), (.int (32 : Int32)), (.int (112 : Int32)), (.int (114 : Int32)), (.int (111 : Int32)), (.int (112 : Int32)), (.int (101 : Int32)), (.int (114 : Int32)), (.int (116 : Int32)), (.int (121 : Int32))]) (z := (17 : Int32)) ⟨by decide +kernel, by decide +kernel⟩ (by decide) rfl (g := (mkF m 51 #[iv p1, iv (0 : Int32), rv o_CLASS, iv (0 : Int32), iv (0 : Int32), .unset] [])) rfl (hb hby at_51) (n := 68) (by decide +kernel) (by decide) (by decide) (by decide)
    replace O := O.ext E3
    replace Kp := Kp.ext E3
    replace Rc := Rc.trans A3
    replace hS := hS3
    replace hk := hk3
    replace hZ := hZ3
    replace hown := hown3
    refine own_goW st3 ?_
    show own_GoW p e below s _ _ _ _ (T3.setTop (mkF m 53 #[iv p1, iv (0 : Int32), rv o_CLASS, iv (0 : Int32), iv (0 : Int32), .unset] [(.ref a3)]))
    refine own_goW (fun zt zk => (XS.aloadN X3.here hx rfl (hb hby at_53) rfl rfl zk)) ?_
    show own_GoW p e below s _ _ _ _ (T3.setTop (mkF m 54 #[iv p1, iv (0 : Int32), rv o_CLASS, iv (0 : Int32), iv (0 : Int32), .unset] [(.ref o_CLASS), (.ref a3)]))
    obtain ⟨cq4, kq4, qa4, qb4, qc4⟩ := isOf hZ e3 (Ex_o_CLASS.ext O.2)
    obtain ⟨_, _, ⟨T4, L4, k4, n4⟩, -, X4, ⟨Lc4, hQ4, l4, y4, z4⟩, st4⟩ := X3.virtualBack hx (y := (⟨"com/example/boxwright/boxwright/Kind", "label", "()Ljava/lang/String;"⟩ : MethodName)) (z := (⟨"com/example/boxwright/boxwright/Kind", "label", "()Ljava/lang/String;"⟩ : MethodName)) hown (mvT hZ (hw _ (List.mem_of_getElem? (i := 19) rfl))) (mvT hZ (hw _ (List.mem_of_getElem? (i := 20) rfl))) (notFace_of_selects (args := #[]) (mvT hZ (hw _ (List.mem_of_getElem? (i := 22) rfl)))) (mvT hZ (hw _ (List.mem_of_getElem? (i := 22) rfl))) (mvT hZ (hw _ (List.mem_of_getElem? (i := 21) rfl))) (by decide) (backOf (W := 1) (own_rlabel l Z a0 hw [] o_CLASS o_CLASS_label h3 n0 (Nat.le_trans Z0 Kp.1) (F_o_CLASS_label.ext O.2)) hZ (hw _ (List.mem_of_getElem? (i := 23) rfl)) (hw _ (List.mem_of_getElem? (i := 2) rfl)) (by decide) (by decide)) qa4 qc4 (g := (mkF m 54 #[iv p1, iv (0 : Int32), rv o_CLASS, iv (0 : Int32), iv (0 : Int32), .unset] [(.ref o_CLASS), (.ref a3)])) rfl (by rw [hml]; rfl) (Steps.refl _) (argsL := []) (rest := [(.ref a3)]) (lenOf own_pd___Ljava_lang_String_ rfl) rfl (by show 2 * 0 + _ ≤ _; exact Nat.le_of_eq rfl) (hb hby at_54) (fun _ _ => ⟨rfl, e3, (by decide : 2 + 0 ≤ _), (by decide : 72 + 0 ≤ _)⟩)
    dsimp only [Pt.U, Pt.locs, Pt.cells, Pt.slots] at X4 l4 y4 z4 st4 hQ4
    subst l4 y4 z4
    obtain ⟨rfl, Nq4, e4⟩ := hQ4
    have N4 := Fr.app N2 Nq4
    refine own_goW (fun zt zk => st4.trans zk) ?_
    show own_GoW p e below s _ _ _ _ (T4.setTop (mkF m 57 #[iv p1, iv (0 : Int32), rv o_CLASS, iv (0 : Int32), iv (0 : Int32), .unset] [(.ref o_CLASS_label), (.ref a3)]))
    obtain ⟨cq5, kq5, qa5, qb5, qc5⟩ := isOf hZ e4 Ex_a3
    obtain ⟨_, _, ⟨T5, L5, k5, n5⟩, -, X5, ⟨Lc5, hQ5, l5, y5, z5⟩, st5⟩ := X4.virtualBack hx (y := (⟨"java/lang/String", "equals", "(Ljava/lang/Object;)Z"⟩ : MethodName)) (z := (⟨"java/lang/String", "equals", "(Ljava/lang/Object;)Z"⟩ : MethodName)) hown (mvT hZ (hw _ (List.mem_of_getElem? (i := 26) rfl))) (mvT hZ (hw _ (List.mem_of_getElem? (i := 27) rfl))) (notFace_of_selects (args := #[]) (mvT hZ (hw _ (List.mem_of_getElem? (i := 29) rfl)))) (mvT hZ (hw _ (List.mem_of_getElem? (i := 29) rfl))) (mvT hZ (hw _ (List.mem_of_getElem? (i := 28) rfl))) (by decide) (backOf (W := 0) (own_req l Z a0 hw [] a3 o_CLASS_label o_COMPACT_STRINGS b3 o_CLASS_label_value k3 k_o_CLASS_label_value (17 : Int32) (5 : Int32) [(100 : Int32), (97 : Int32), (116 : Int32), (97 : Int32), (116 : Int32), (121 : Int32), (112 : Int32), (101 : Int32), (32 : Int32), (112 : Int32), (114 : Int32), (111 : Int32), (112 : Int32), (101 : Int32), (114 : Int32), (116 : Int32), (121 : Int32)] [(99 : Int32), (108 : Int32), (97 : Int32), (115 : Int32), (115 : Int32)] h3 n0 (Nat.le_trans Z0 Kp.1) O S_o_COMPACT_STRINGS Ex_a3 Fv_a3 Fc_a3 Va_b3 (Ex_o_CLASS_label.ext O.2) (F_o_CLASS_label_value.ext O.2) (F_o_CLASS_label_coder.ext O.2) (V_o_CLASS_label_value.ext O.2) nz_o_COMPACT_STRINGS rfl rfl) hZ (hw _ (List.mem_of_getElem? (i := 30) rfl)) (hw _ (List.mem_of_getElem? (i := 12) rfl)) (by decide) (by decide)) qa5 qc5 (g := (mkF m 57 #[iv p1, iv (0 : Int32), rv o_CLASS, iv (0 : Int32), iv (0 : Int32), .unset] [(.ref o_CLASS_label), (.ref a3)])) rfl (by rw [hml]; rfl) (Steps.refl _) (argsL := [(.ref o_CLASS_label)]) (rest := []) (lenOf own_pd__Ljava_lang_Object__Z rfl) rfl (by show 2 * 0 + _ ≤ _; exact Nat.le_of_eq rfl) (hb hby at_57) (fun _ _ => ⟨rfl, e4, (by decide : 2 + 0 ≤ _), (by decide : 72 + 0 ≤ _)⟩)
    dsimp only [Pt.U, Pt.locs, Pt.cells, Pt.slots] at X5 l5 y5 z5 st5 hQ5
    subst l5 y5 z5
    obtain ⟨hv5, Nq5, e5⟩ := hQ5
    rw [show own_eqv _ _ = (0 : Int32) by decide] at hv5
    subst hv5
    have N5 := Fr.app N4 Nq5
    refine own_goW (fun zt zk => st5.trans zk) ?_
    show own_GoW p e below s _ _ _ _ (T5.setTop (mkF m 60 #[iv p1, iv (0 : Int32), rv o_CLASS, iv (0 : Int32), iv (0 : Int32), .unset] [(.int (0 : Int32))]))
    refine own_goW (fun zt zk => (XS.istore X5.here hx rfl (hb hby at_60) rfl (l' := #[iv p1, iv (0 : Int32), rv o_CLASS, iv (0 : Int32), iv (0 : Int32), iv (0 : Int32)]) rfl (XS.iloadN X5.here hx rfl (hb hby at_62) rfl (XS.iload X5.here hx rfl (hb hby at_63) rfl (XS.icmpNo X5.here hx rfl (hb hby at_65) rfl (teq (rfl : (0 : Int32) = (0 : Int32))).2 (XS.iloadN X5.here hx rfl (hb hby at_68) rfl (XS.iload X5.here hx rfl (hb hby at_69) rfl (XS.icmpNo X5.here hx rfl (hb hby at_71) rfl (teq (rfl : (0 : Int32) = (0 : Int32))).2 (XS.iconst X5.here hx rfl (hb hby at_74) (XS.goto X5.here hx rfl (pc0 := 75) (pc' := 79) rfl (hb hby at_75) (by decide) (by decide) zk)))))))))) ?_
    show own_GoW p e below s _ _ _ _ (T5.setTop (mkF m 79 #[iv p1, iv (0 : Int32), rv o_CLASS, iv (0 : Int32), iv (0 : Int32), iv (0 : Int32)] [(.int (1 : Int32))]))
    have Re := Rc.trans (CHv.at X5 hZ hEL Rc.1)
    exact own_finW X5 hS (by rw [e5]; exact hk) (by rw [e5, hh]; exact Re) Bd.notSynchronized (fun h => by rw [Bd.returns] at h; cases h) (fun fs hr => retN X5 hx (t := .boolean) Bd.returns (by simp) (hb hby at_79) hr) (by rw [e5]; exact ⟨rfl, N5⟩) (by decide) (by decide)
  · by_cases hk1_k : k = (1 : Int32)
    · subst hk1_k
      show own_GoW p e below s _ _ _ _ (s₁.setTop (mkF m 7 #[iv p1, iv (1 : Int32), .unset, .unset, .unset, .unset] []))
      refine own_goW (fun zt zk => (XS.iloadN X0.here hx rfl (hb hby at_7) rfl (XS.ifYes X0.here hx rfl (pc0 := 8) (pc' := 18) rfl (hb hby at_8) rfl ((if0 _ _).trans (feq ((by decide) : ¬ ((1 : Int32) = (0 : Int32)))).2) (by decide) (by decide) (XS.iloadN X0.here hx rfl (hb hby at_18) rfl (XS.iconst X0.here hx rfl (hb hby at_19) (XS.icmpNo X0.here hx rfl (hb hby at_20) rfl (teq (rfl : (1 : Int32) = (1 : Int32))).2 zk)))))) ?_
      show own_GoW p e below s _ _ _ _ (s₁.setTop (mkF m 23 #[iv p1, iv (1 : Int32), .unset, .unset, .unset, .unset] []))
      obtain ⟨T6, X6, e6, st6⟩ := getS2 X0 hx hZ hown (host := "") (Or.inl (hw _ (List.mem_of_getElem? (i := 41) rfl))) Via.refl e0 (S_o_OBJECT_PROPERTY.ext O.2) (g := (mkF m 23 #[iv p1, iv (1 : Int32), .unset, .unset, .unset, .unset] [])) rfl (hb hby at_23)
      refine own_goW st6 ?_
      show own_GoW p e below s _ _ _ _ (T6.setTop (mkF m 26 #[iv p1, iv (1 : Int32), .unset, .unset, .unset, .unset] [(.ref o_OBJECT_PROPERTY)]))
      refine own_goW (fun zt zk => (XS.astoreN X6.here hx rfl (hb hby at_26) rfl rfl (l' := #[iv p1, iv (1 : Int32), rv o_OBJECT_PROPERTY, .unset, .unset, .unset]) rfl (XS.goto X6.here hx rfl (pc0 := 27) (pc' := 34) rfl (hb hby at_27) (by decide) (by decide) (XS.aloadN X6.here hx rfl (hb hby at_34) rfl rfl zk)))) ?_
      show own_GoW p e below s _ _ _ _ (T6.setTop (mkF m 35 #[iv p1, iv (1 : Int32), rv o_OBJECT_PROPERTY, .unset, .unset, .unset] [(.ref o_OBJECT_PROPERTY)]))
      obtain ⟨cq7, kq7, qa7, qb7, qc7⟩ := isOf hZ e6 (Ex_o_OBJECT_PROPERTY.ext O.2)
      obtain ⟨_, _, ⟨T7, L7, k7, n7⟩, -, X7, ⟨Lc7, hQ7, l7, y7, z7⟩, st7⟩ := X6.virtualBack hx (y := (⟨"com/example/boxwright/boxwright/Kind", "holdsLiteral", "()Z"⟩ : MethodName)) (z := (⟨"com/example/boxwright/boxwright/Kind", "holdsLiteral", "()Z"⟩ : MethodName)) hown (mvT hZ (hw _ (List.mem_of_getElem? (i := 4) rfl))) (mvT hZ (hw _ (List.mem_of_getElem? (i := 5) rfl))) (notFace_of_selects (args := #[]) (mvT hZ (hw _ (List.mem_of_getElem? (i := 7) rfl)))) (mvT hZ (hw _ (List.mem_of_getElem? (i := 7) rfl))) (mvT hZ (hw _ (List.mem_of_getElem? (i := 6) rfl))) (by decide) (backOf (W := 0) (own_rhl0 l Z a0 hw [] o_OBJECT_PROPERTY o_DATA_PROPERTY h0 n0 Z0 O S_o_DATA_PROPERTY (Fld.ne F_o_OBJECT_PROPERTY_ordinal F_o_DATA_PROPERTY_ordinal (by decide))) hZ (hw _ (List.mem_of_getElem? (i := 8) rfl)) (hw _ (List.mem_of_getElem? (i := 2) rfl)) (by decide) (by decide)) qa7 qc7 (g := (mkF m 35 #[iv p1, iv (1 : Int32), rv o_OBJECT_PROPERTY, .unset, .unset, .unset] [(.ref o_OBJECT_PROPERTY)])) rfl (by rw [hml]; rfl) (Steps.refl _) (argsL := []) (rest := []) (lenOf own_pd___Z rfl) rfl (by show 2 * 0 + _ ≤ _; exact Nat.le_of_eq rfl) (hb hby at_35) (fun _ _ => ⟨rfl, e6, (by decide : 0 + 0 ≤ _), (by decide : 0 + 0 ≤ _)⟩)
      dsimp only [Pt.U, Pt.locs, Pt.cells, Pt.slots] at X7 l7 y7 z7 st7 hQ7
      subst l7 y7 z7
      obtain ⟨rfl, Nq7, e7⟩ := hQ7
      have N7 := Fr.app N0 Nq7
      refine own_goW (fun zt zk => st7.trans zk) ?_
      show own_GoW p e below s _ _ _ _ (T7.setTop (mkF m 38 #[iv p1, iv (1 : Int32), rv o_OBJECT_PROPERTY, .unset, .unset, .unset] [(.int (0 : Int32))]))
      refine own_goW (fun zt zk => (XS.istoreN X7.here hx rfl (hb hby at_38) rfl (l' := #[iv p1, iv (1 : Int32), rv o_OBJECT_PROPERTY, iv (0 : Int32), .unset, .unset]) rfl (XS.iloadN X7.here hx rfl (hb hby at_39) rfl (XS.iconst X7.here hx rfl (hb hby at_40) (XS.icmpYes X7.here hx rfl (pc0 := 41) (pc' := 48) rfl (hb hby at_41) rfl (feq ((by decide) : ¬ ((1 : Int32) = (2 : Int32)))).2 (by decide) (by decide) (XS.iconst X7.here hx rfl (hb hby at_48) (XS.istore X7.here hx rfl (hb hby at_49) rfl (l' := #[iv p1, iv (1 : Int32), rv o_OBJECT_PROPERTY, iv (0 : Int32), iv (0 : Int32), .unset]) rfl zk))))))) ?_
      show own_GoW p e below s _ _ _ _ (T7.setTop (mkF m 51 #[iv p1, iv (1 : Int32), rv o_OBJECT_PROPERTY, iv (0 : Int32), iv (0 : Int32), .unset] []))
      obtain ⟨a8, T8, h8, q8, b8, k8, X8, e8, E8, hS8, hk8, hZ8, hown8, Ex_a8, Fc_a8, Fv_a8, Va_b8, lta8, ltb8, A8, Li8, Sn8, st8⟩ := ldcCH X7 hx hZ hown (hw _ (List.mem_of_getElem? (i := 11) rfl)) wS e7 hS hk hEL (by decide +kernel) Rc.1 (vs := [(.int (100 : Int32)), (.int (97 : Int32)), (.int (116 : Int32)), (.int (97 : Int32)), (.int (116 : Int32)), (.int (121 : Int32)), (.int (112 : Int32)), (.int (101 : Int32)), (.int (32 : Int32)), (.int (112 : Int32)), (.int (114 : Int32)), (.int (111 : Int32)), (.int (112 : Int32)), (.int (101 : Int32)), (.int (114 : Int32)), (.int (116 : Int32)), (.int (121 : Int32))]) (z := (17 : Int32)) ⟨by decide +kernel, by decide +kernel⟩ (by decide) rfl (g := (mkF m 51 #[iv p1, iv (1 : Int32), rv o_OBJECT_PROPERTY, iv (0 : Int32), iv (0 : Int32), .unset] [])) rfl (hb hby at_51) (n := 68) (by decide +kernel) (by decide) (by decide) (by decide)
      replace O := O.ext E8
      replace Kp := Kp.ext E8
      replace Rc := Rc.trans A8
      replace hS := hS8
      replace hk := hk8
      replace hZ := hZ8
      replace hown := hown8
      refine own_goW st8 ?_
      show own_GoW p e below s _ _ _ _ (T8.setTop (mkF m 53 #[iv p1, iv (1 : Int32), rv o_OBJECT_PROPERTY, iv (0 : Int32), iv (0 : Int32), .unset] [(.ref a8)]))
      refine own_goW (fun zt zk => (XS.aloadN X8.here hx rfl (hb hby at_53) rfl rfl zk)) ?_
      show own_GoW p e below s _ _ _ _ (T8.setTop (mkF m 54 #[iv p1, iv (1 : Int32), rv o_OBJECT_PROPERTY, iv (0 : Int32), iv (0 : Int32), .unset] [(.ref o_OBJECT_PROPERTY), (.ref a8)]))
      obtain ⟨cq9, kq9, qa9, qb9, qc9⟩ := isOf hZ e8 (Ex_o_OBJECT_PROPERTY.ext O.2)
      obtain ⟨_, _, ⟨T9, L9, k9, n9⟩, -, X9, ⟨Lc9, hQ9, l9, y9, z9⟩, st9⟩ := X8.virtualBack hx (y := (⟨"com/example/boxwright/boxwright/Kind", "label", "()Ljava/lang/String;"⟩ : MethodName)) (z := (⟨"com/example/boxwright/boxwright/Kind", "label", "()Ljava/lang/String;"⟩ : MethodName)) hown (mvT hZ (hw _ (List.mem_of_getElem? (i := 19) rfl))) (mvT hZ (hw _ (List.mem_of_getElem? (i := 20) rfl))) (notFace_of_selects (args := #[]) (mvT hZ (hw _ (List.mem_of_getElem? (i := 22) rfl)))) (mvT hZ (hw _ (List.mem_of_getElem? (i := 22) rfl))) (mvT hZ (hw _ (List.mem_of_getElem? (i := 21) rfl))) (by decide) (backOf (W := 1) (own_rlabel l Z a0 hw [] o_OBJECT_PROPERTY o_OBJECT_PROPERTY_label h8 n0 (Nat.le_trans Z0 Kp.1) (F_o_OBJECT_PROPERTY_label.ext O.2)) hZ (hw _ (List.mem_of_getElem? (i := 23) rfl)) (hw _ (List.mem_of_getElem? (i := 2) rfl)) (by decide) (by decide)) qa9 qc9 (g := (mkF m 54 #[iv p1, iv (1 : Int32), rv o_OBJECT_PROPERTY, iv (0 : Int32), iv (0 : Int32), .unset] [(.ref o_OBJECT_PROPERTY), (.ref a8)])) rfl (by rw [hml]; rfl) (Steps.refl _) (argsL := []) (rest := [(.ref a8)]) (lenOf own_pd___Ljava_lang_String_ rfl) rfl (by show 2 * 0 + _ ≤ _; exact Nat.le_of_eq rfl) (hb hby at_54) (fun _ _ => ⟨rfl, e8, (by decide : 2 + 0 ≤ _), (by decide : 72 + 0 ≤ _)⟩)
      dsimp only [Pt.U, Pt.locs, Pt.cells, Pt.slots] at X9 l9 y9 z9 st9 hQ9
      subst l9 y9 z9
      obtain ⟨rfl, Nq9, e9⟩ := hQ9
      have N9 := Fr.app N7 Nq9
      refine own_goW (fun zt zk => st9.trans zk) ?_
      show own_GoW p e below s _ _ _ _ (T9.setTop (mkF m 57 #[iv p1, iv (1 : Int32), rv o_OBJECT_PROPERTY, iv (0 : Int32), iv (0 : Int32), .unset] [(.ref o_OBJECT_PROPERTY_label), (.ref a8)]))
      obtain ⟨cq10, kq10, qa10, qb10, qc10⟩ := isOf hZ e9 Ex_a8
      obtain ⟨_, _, ⟨T10, L10, k10, n10⟩, -, X10, ⟨Lc10, hQ10, l10, y10, z10⟩, st10⟩ := X9.virtualBack hx (y := (⟨"java/lang/String", "equals", "(Ljava/lang/Object;)Z"⟩ : MethodName)) (z := (⟨"java/lang/String", "equals", "(Ljava/lang/Object;)Z"⟩ : MethodName)) hown (mvT hZ (hw _ (List.mem_of_getElem? (i := 26) rfl))) (mvT hZ (hw _ (List.mem_of_getElem? (i := 27) rfl))) (notFace_of_selects (args := #[]) (mvT hZ (hw _ (List.mem_of_getElem? (i := 29) rfl)))) (mvT hZ (hw _ (List.mem_of_getElem? (i := 29) rfl))) (mvT hZ (hw _ (List.mem_of_getElem? (i := 28) rfl))) (by decide) (backOf (W := 0) (own_req l Z a0 hw [] a8 o_OBJECT_PROPERTY_label o_COMPACT_STRINGS b8 o_OBJECT_PROPERTY_label_value k8 k_o_OBJECT_PROPERTY_label_value (17 : Int32) (15 : Int32) [(100 : Int32), (97 : Int32), (116 : Int32), (97 : Int32), (116 : Int32), (121 : Int32), (112 : Int32), (101 : Int32), (32 : Int32), (112 : Int32), (114 : Int32), (111 : Int32), (112 : Int32), (101 : Int32), (114 : Int32), (116 : Int32), (121 : Int32)] [(111 : Int32), (98 : Int32), (106 : Int32), (101 : Int32), (99 : Int32), (116 : Int32), (32 : Int32), (112 : Int32), (114 : Int32), (111 : Int32), (112 : Int32), (101 : Int32), (114 : Int32), (116 : Int32), (121 : Int32)] h8 n0 (Nat.le_trans Z0 Kp.1) O S_o_COMPACT_STRINGS Ex_a8 Fv_a8 Fc_a8 Va_b8 (Ex_o_OBJECT_PROPERTY_label.ext O.2) (F_o_OBJECT_PROPERTY_label_value.ext O.2) (F_o_OBJECT_PROPERTY_label_coder.ext O.2) (V_o_OBJECT_PROPERTY_label_value.ext O.2) nz_o_COMPACT_STRINGS rfl rfl) hZ (hw _ (List.mem_of_getElem? (i := 30) rfl)) (hw _ (List.mem_of_getElem? (i := 12) rfl)) (by decide) (by decide)) qa10 qc10 (g := (mkF m 57 #[iv p1, iv (1 : Int32), rv o_OBJECT_PROPERTY, iv (0 : Int32), iv (0 : Int32), .unset] [(.ref o_OBJECT_PROPERTY_label), (.ref a8)])) rfl (by rw [hml]; rfl) (Steps.refl _) (argsL := [(.ref o_OBJECT_PROPERTY_label)]) (rest := []) (lenOf own_pd__Ljava_lang_Object__Z rfl) rfl (by show 2 * 0 + _ ≤ _; exact Nat.le_of_eq rfl) (hb hby at_57) (fun _ _ => ⟨rfl, e9, (by decide : 2 + 0 ≤ _), (by decide : 72 + 0 ≤ _)⟩)
      dsimp only [Pt.U, Pt.locs, Pt.cells, Pt.slots] at X10 l10 y10 z10 st10 hQ10
      subst l10 y10 z10
      obtain ⟨hv10, Nq10, e10⟩ := hQ10
      rw [show own_eqv _ _ = (0 : Int32) by decide] at hv10
      subst hv10
      have N10 := Fr.app N9 Nq10
      refine own_goW (fun zt zk => st10.trans zk) ?_
      show own_GoW p e below s _ _ _ _ (T10.setTop (mkF m 60 #[iv p1, iv (1 : Int32), rv o_OBJECT_PROPERTY, iv (0 : Int32), iv (0 : Int32), .unset] [(.int (0 : Int32))]))
      refine own_goW (fun zt zk => (XS.istore X10.here hx rfl (hb hby at_60) rfl (l' := #[iv p1, iv (1 : Int32), rv o_OBJECT_PROPERTY, iv (0 : Int32), iv (0 : Int32), iv (0 : Int32)]) rfl (XS.iloadN X10.here hx rfl (hb hby at_62) rfl (XS.iload X10.here hx rfl (hb hby at_63) rfl (XS.icmpNo X10.here hx rfl (hb hby at_65) rfl (teq (rfl : (0 : Int32) = (0 : Int32))).2 (XS.iloadN X10.here hx rfl (hb hby at_68) rfl (XS.iload X10.here hx rfl (hb hby at_69) rfl (XS.icmpNo X10.here hx rfl (hb hby at_71) rfl (teq (rfl : (0 : Int32) = (0 : Int32))).2 (XS.iconst X10.here hx rfl (hb hby at_74) (XS.goto X10.here hx rfl (pc0 := 75) (pc' := 79) rfl (hb hby at_75) (by decide) (by decide) zk)))))))))) ?_
      show own_GoW p e below s _ _ _ _ (T10.setTop (mkF m 79 #[iv p1, iv (1 : Int32), rv o_OBJECT_PROPERTY, iv (0 : Int32), iv (0 : Int32), iv (0 : Int32)] [(.int (1 : Int32))]))
      have Re := Rc.trans (CHv.at X10 hZ hEL Rc.1)
      exact own_finW X10 hS (by rw [e10]; exact hk) (by rw [e10, hh]; exact Re) Bd.notSynchronized (fun h => by rw [Bd.returns] at h; cases h) (fun fs hr => retN X10 hx (t := .boolean) Bd.returns (by simp) (hb hby at_79) hr) (by rw [e10]; exact ⟨rfl, N10⟩) (by decide) (by decide)
    · have hk2_k : k = (2 : Int32) := Int32.toInt_inj.mp (by have a := own_mod (D := 3) rfl (by decide) hv_k; have b := own_ne 0 rfl hk0_k; have c := own_ne 1 rfl hk1_k; show k.toInt = 2; omega)
      subst hk2_k
      show own_GoW p e below s _ _ _ _ (s₁.setTop (mkF m 7 #[iv p1, iv (2 : Int32), .unset, .unset, .unset, .unset] []))
      refine own_goW (fun zt zk => (XS.iloadN X0.here hx rfl (hb hby at_7) rfl (XS.ifYes X0.here hx rfl (pc0 := 8) (pc' := 18) rfl (hb hby at_8) rfl ((if0 _ _).trans (feq ((by decide) : ¬ ((2 : Int32) = (0 : Int32)))).2) (by decide) (by decide) (XS.iloadN X0.here hx rfl (hb hby at_18) rfl (XS.iconst X0.here hx rfl (hb hby at_19) (XS.icmpYes X0.here hx rfl (pc0 := 20) (pc' := 30) rfl (hb hby at_20) rfl (feq ((by decide) : ¬ ((2 : Int32) = (1 : Int32)))).2 (by decide) (by decide) zk)))))) ?_
      show own_GoW p e below s _ _ _ _ (s₁.setTop (mkF m 30 #[iv p1, iv (2 : Int32), .unset, .unset, .unset, .unset] []))
      obtain ⟨T11, X11, e11, st11⟩ := getS2 X0 hx hZ hown (host := "") (Or.inl (hw _ (List.mem_of_getElem? (i := 40) rfl))) Via.refl e0 (S_o_DATA_PROPERTY.ext O.2) (g := (mkF m 30 #[iv p1, iv (2 : Int32), .unset, .unset, .unset, .unset] [])) rfl (hb hby at_30)
      refine own_goW st11 ?_
      show own_GoW p e below s _ _ _ _ (T11.setTop (mkF m 33 #[iv p1, iv (2 : Int32), .unset, .unset, .unset, .unset] [(.ref o_DATA_PROPERTY)]))
      refine own_goW (fun zt zk => (XS.astoreN X11.here hx rfl (hb hby at_33) rfl rfl (l' := #[iv p1, iv (2 : Int32), rv o_DATA_PROPERTY, .unset, .unset, .unset]) rfl (XS.aloadN X11.here hx rfl (hb hby at_34) rfl rfl zk))) ?_
      show own_GoW p e below s _ _ _ _ (T11.setTop (mkF m 35 #[iv p1, iv (2 : Int32), rv o_DATA_PROPERTY, .unset, .unset, .unset] [(.ref o_DATA_PROPERTY)]))
      obtain ⟨cq12, kq12, qa12, qb12, qc12⟩ := isOf hZ e11 (Ex_o_DATA_PROPERTY.ext O.2)
      obtain ⟨_, _, ⟨T12, L12, k12, n12⟩, -, X12, ⟨Lc12, hQ12, l12, y12, z12⟩, st12⟩ := X11.virtualBack hx (y := (⟨"com/example/boxwright/boxwright/Kind", "holdsLiteral", "()Z"⟩ : MethodName)) (z := (⟨"com/example/boxwright/boxwright/Kind", "holdsLiteral", "()Z"⟩ : MethodName)) hown (mvT hZ (hw _ (List.mem_of_getElem? (i := 4) rfl))) (mvT hZ (hw _ (List.mem_of_getElem? (i := 5) rfl))) (notFace_of_selects (args := #[]) (mvT hZ (hw _ (List.mem_of_getElem? (i := 7) rfl)))) (mvT hZ (hw _ (List.mem_of_getElem? (i := 7) rfl))) (mvT hZ (hw _ (List.mem_of_getElem? (i := 6) rfl))) (by decide) (backOf (W := 0) (own_rhl1 l Z a0 hw [] o_DATA_PROPERTY  h0 n0 Z0 O S_o_DATA_PROPERTY) hZ (hw _ (List.mem_of_getElem? (i := 8) rfl)) (hw _ (List.mem_of_getElem? (i := 2) rfl)) (by decide) (by decide)) qa12 qc12 (g := (mkF m 35 #[iv p1, iv (2 : Int32), rv o_DATA_PROPERTY, .unset, .unset, .unset] [(.ref o_DATA_PROPERTY)])) rfl (by rw [hml]; rfl) (Steps.refl _) (argsL := []) (rest := []) (lenOf own_pd___Z rfl) rfl (by show 2 * 0 + _ ≤ _; exact Nat.le_of_eq rfl) (hb hby at_35) (fun _ _ => ⟨rfl, e11, (by decide : 0 + 0 ≤ _), (by decide : 0 + 0 ≤ _)⟩)
      dsimp only [Pt.U, Pt.locs, Pt.cells, Pt.slots] at X12 l12 y12 z12 st12 hQ12
      subst l12 y12 z12
      obtain ⟨rfl, Nq12, e12⟩ := hQ12
      have N12 := Fr.app N0 Nq12
      refine own_goW (fun zt zk => st12.trans zk) ?_
      show own_GoW p e below s _ _ _ _ (T12.setTop (mkF m 38 #[iv p1, iv (2 : Int32), rv o_DATA_PROPERTY, .unset, .unset, .unset] [(.int (1 : Int32))]))
      refine own_goW (fun zt zk => (XS.istoreN X12.here hx rfl (hb hby at_38) rfl (l' := #[iv p1, iv (2 : Int32), rv o_DATA_PROPERTY, iv (1 : Int32), .unset, .unset]) rfl (XS.iloadN X12.here hx rfl (hb hby at_39) rfl (XS.iconst X12.here hx rfl (hb hby at_40) (XS.icmpNo X12.here hx rfl (hb hby at_41) rfl (teq (rfl : (2 : Int32) = (2 : Int32))).2 (XS.iconst X12.here hx rfl (hb hby at_44) (XS.goto X12.here hx rfl (pc0 := 45) (pc' := 49) rfl (hb hby at_45) (by decide) (by decide) (XS.istore X12.here hx rfl (hb hby at_49) rfl (l' := #[iv p1, iv (2 : Int32), rv o_DATA_PROPERTY, iv (1 : Int32), iv (1 : Int32), .unset]) rfl zk)))))))) ?_
      show own_GoW p e below s _ _ _ _ (T12.setTop (mkF m 51 #[iv p1, iv (2 : Int32), rv o_DATA_PROPERTY, iv (1 : Int32), iv (1 : Int32), .unset] []))
      obtain ⟨a13, T13, h13, q13, b13, k13, X13, e13, E13, hS13, hk13, hZ13, hown13, Ex_a13, Fc_a13, Fv_a13, Va_b13, lta13, ltb13, A13, Li13, Sn13, st13⟩ := ldcCH X12 hx hZ hown (hw _ (List.mem_of_getElem? (i := 11) rfl)) wS e12 hS hk hEL (by decide +kernel) Rc.1 (vs := [(.int (100 : Int32)), (.int (97 : Int32)), (.int (116 : Int32)), (.int (97 : Int32)), (.int (116 : Int32)), (.int (121 : Int32)), (.int (112 : Int32)), (.int (101 : Int32)), (.int (32 : Int32)), (.int (112 : Int32)), (.int (114 : Int32)), (.int (111 : Int32)), (.int (112 : Int32)), (.int (101 : Int32)), (.int (114 : Int32)), (.int (116 : Int32)), (.int (121 : Int32))]) (z := (17 : Int32)) ⟨by decide +kernel, by decide +kernel⟩ (by decide) rfl (g := (mkF m 51 #[iv p1, iv (2 : Int32), rv o_DATA_PROPERTY, iv (1 : Int32), iv (1 : Int32), .unset] [])) rfl (hb hby at_51) (n := 68) (by decide +kernel) (by decide) (by decide) (by decide)
      replace O := O.ext E13
      replace Kp := Kp.ext E13
      replace Rc := Rc.trans A13
      replace hS := hS13
      replace hk := hk13
      replace hZ := hZ13
      replace hown := hown13
      refine own_goW st13 ?_
      show own_GoW p e below s _ _ _ _ (T13.setTop (mkF m 53 #[iv p1, iv (2 : Int32), rv o_DATA_PROPERTY, iv (1 : Int32), iv (1 : Int32), .unset] [(.ref a13)]))
      refine own_goW (fun zt zk => (XS.aloadN X13.here hx rfl (hb hby at_53) rfl rfl zk)) ?_
      show own_GoW p e below s _ _ _ _ (T13.setTop (mkF m 54 #[iv p1, iv (2 : Int32), rv o_DATA_PROPERTY, iv (1 : Int32), iv (1 : Int32), .unset] [(.ref o_DATA_PROPERTY), (.ref a13)]))
      obtain ⟨cq14, kq14, qa14, qb14, qc14⟩ := isOf hZ e13 (Ex_o_DATA_PROPERTY.ext O.2)
      obtain ⟨_, _, ⟨T14, L14, k14, n14⟩, -, X14, ⟨Lc14, hQ14, l14, y14, z14⟩, st14⟩ := X13.virtualBack hx (y := (⟨"com/example/boxwright/boxwright/Kind", "label", "()Ljava/lang/String;"⟩ : MethodName)) (z := (⟨"com/example/boxwright/boxwright/Kind", "label", "()Ljava/lang/String;"⟩ : MethodName)) hown (mvT hZ (hw _ (List.mem_of_getElem? (i := 19) rfl))) (mvT hZ (hw _ (List.mem_of_getElem? (i := 20) rfl))) (notFace_of_selects (args := #[]) (mvT hZ (hw _ (List.mem_of_getElem? (i := 22) rfl)))) (mvT hZ (hw _ (List.mem_of_getElem? (i := 22) rfl))) (mvT hZ (hw _ (List.mem_of_getElem? (i := 21) rfl))) (by decide) (backOf (W := 1) (own_rlabel l Z a0 hw [] o_DATA_PROPERTY o_DATA_PROPERTY_label h13 n0 (Nat.le_trans Z0 Kp.1) (F_o_DATA_PROPERTY_label.ext O.2)) hZ (hw _ (List.mem_of_getElem? (i := 23) rfl)) (hw _ (List.mem_of_getElem? (i := 2) rfl)) (by decide) (by decide)) qa14 qc14 (g := (mkF m 54 #[iv p1, iv (2 : Int32), rv o_DATA_PROPERTY, iv (1 : Int32), iv (1 : Int32), .unset] [(.ref o_DATA_PROPERTY), (.ref a13)])) rfl (by rw [hml]; rfl) (Steps.refl _) (argsL := []) (rest := [(.ref a13)]) (lenOf own_pd___Ljava_lang_String_ rfl) rfl (by show 2 * 0 + _ ≤ _; exact Nat.le_of_eq rfl) (hb hby at_54) (fun _ _ => ⟨rfl, e13, (by decide : 2 + 0 ≤ _), (by decide : 72 + 0 ≤ _)⟩)
      dsimp only [Pt.U, Pt.locs, Pt.cells, Pt.slots] at X14 l14 y14 z14 st14 hQ14
      subst l14 y14 z14
      obtain ⟨rfl, Nq14, e14⟩ := hQ14
      have N14 := Fr.app N12 Nq14
      refine own_goW (fun zt zk => st14.trans zk) ?_
      show own_GoW p e below s _ _ _ _ (T14.setTop (mkF m 57 #[iv p1, iv (2 : Int32), rv o_DATA_PROPERTY, iv (1 : Int32), iv (1 : Int32), .unset] [(.ref o_DATA_PROPERTY_label), (.ref a13)]))
      obtain ⟨cq15, kq15, qa15, qb15, qc15⟩ := isOf hZ e14 Ex_a13
      obtain ⟨_, _, ⟨T15, L15, k15, n15⟩, -, X15, ⟨Lc15, hQ15, l15, y15, z15⟩, st15⟩ := X14.virtualBack hx (y := (⟨"java/lang/String", "equals", "(Ljava/lang/Object;)Z"⟩ : MethodName)) (z := (⟨"java/lang/String", "equals", "(Ljava/lang/Object;)Z"⟩ : MethodName)) hown (mvT hZ (hw _ (List.mem_of_getElem? (i := 26) rfl))) (mvT hZ (hw _ (List.mem_of_getElem? (i := 27) rfl))) (notFace_of_selects (args := #[]) (mvT hZ (hw _ (List.mem_of_getElem? (i := 29) rfl)))) (mvT hZ (hw _ (List.mem_of_getElem? (i := 29) rfl))) (mvT hZ (hw _ (List.mem_of_getElem? (i := 28) rfl))) (by decide) (backOf (W := 0) (own_req l Z a0 hw [] a13 o_DATA_PROPERTY_label o_COMPACT_STRINGS b13 o_DATA_PROPERTY_label_value k13 k_o_DATA_PROPERTY_label_value (17 : Int32) (17 : Int32) [(100 : Int32), (97 : Int32), (116 : Int32), (97 : Int32), (116 : Int32), (121 : Int32), (112 : Int32), (101 : Int32), (32 : Int32), (112 : Int32), (114 : Int32), (111 : Int32), (112 : Int32), (101 : Int32), (114 : Int32), (116 : Int32), (121 : Int32)] [(100 : Int32), (97 : Int32), (116 : Int32), (97 : Int32), (116 : Int32), (121 : Int32), (112 : Int32), (101 : Int32), (32 : Int32), (112 : Int32), (114 : Int32), (111 : Int32), (112 : Int32), (101 : Int32), (114 : Int32), (116 : Int32), (121 : Int32)] h13 n0 (Nat.le_trans Z0 Kp.1) O S_o_COMPACT_STRINGS Ex_a13 Fv_a13 Fc_a13 Va_b13 (Ex_o_DATA_PROPERTY_label.ext O.2) (F_o_DATA_PROPERTY_label_value.ext O.2) (F_o_DATA_PROPERTY_label_coder.ext O.2) (V_o_DATA_PROPERTY_label_value.ext O.2) nz_o_COMPACT_STRINGS rfl rfl) hZ (hw _ (List.mem_of_getElem? (i := 30) rfl)) (hw _ (List.mem_of_getElem? (i := 12) rfl)) (by decide) (by decide)) qa15 qc15 (g := (mkF m 57 #[iv p1, iv (2 : Int32), rv o_DATA_PROPERTY, iv (1 : Int32), iv (1 : Int32), .unset] [(.ref o_DATA_PROPERTY_label), (.ref a13)])) rfl (by rw [hml]; rfl) (Steps.refl _) (argsL := [(.ref o_DATA_PROPERTY_label)]) (rest := []) (lenOf own_pd__Ljava_lang_Object__Z rfl) rfl (by show 2 * 0 + _ ≤ _; exact Nat.le_of_eq rfl) (hb hby at_57) (fun _ _ => ⟨rfl, e14, (by decide : 2 + 0 ≤ _), (by decide : 72 + 0 ≤ _)⟩)
      dsimp only [Pt.U, Pt.locs, Pt.cells, Pt.slots] at X15 l15 y15 z15 st15 hQ15
      subst l15 y15 z15
      obtain ⟨hv15, Nq15, e15⟩ := hQ15
      rw [show own_eqv _ _ = (1 : Int32) by decide] at hv15
      subst hv15
      have N15 := Fr.app N14 Nq15
      refine own_goW (fun zt zk => st15.trans zk) ?_
      show own_GoW p e below s _ _ _ _ (T15.setTop (mkF m 60 #[iv p1, iv (2 : Int32), rv o_DATA_PROPERTY, iv (1 : Int32), iv (1 : Int32), .unset] [(.int (1 : Int32))]))
      refine own_goW (fun zt zk => (XS.istore X15.here hx rfl (hb hby at_60) rfl (l' := #[iv p1, iv (2 : Int32), rv o_DATA_PROPERTY, iv (1 : Int32), iv (1 : Int32), iv (1 : Int32)]) rfl (XS.iloadN X15.here hx rfl (hb hby at_62) rfl (XS.iload X15.here hx rfl (hb hby at_63) rfl (XS.icmpNo X15.here hx rfl (hb hby at_65) rfl (teq (rfl : (1 : Int32) = (1 : Int32))).2 (XS.iloadN X15.here hx rfl (hb hby at_68) rfl (XS.iload X15.here hx rfl (hb hby at_69) rfl (XS.icmpNo X15.here hx rfl (hb hby at_71) rfl (teq (rfl : (1 : Int32) = (1 : Int32))).2 (XS.iconst X15.here hx rfl (hb hby at_74) (XS.goto X15.here hx rfl (pc0 := 75) (pc' := 79) rfl (hb hby at_75) (by decide) (by decide) zk)))))))))) ?_
      show own_GoW p e below s _ _ _ _ (T15.setTop (mkF m 79 #[iv p1, iv (2 : Int32), rv o_DATA_PROPERTY, iv (1 : Int32), iv (1 : Int32), iv (1 : Int32)] [(.int (1 : Int32))]))
      have Re := Rc.trans (CHv.at X15 hZ hEL Rc.1)
      exact own_finW X15 hS (by rw [e15]; exact hk) (by rw [e15, hh]; exact Re) Bd.notSynchronized (fun h => by rw [Bd.returns] at h; cases h) (fun fs hr => retN X15 hx (t := .boolean) Bd.returns (by simp) (hb hby at_79) hr) (by rw [e15]; exact ⟨rfl, N15⟩) (by decide) (by decide)
set_option maxRecDepth 65536 in
set_option maxHeartbeats 40000000 in
theorem comes_1 {Post : Tables → Env → Array Value → State → Outcome → State → Prop} (hpost : ∀ tb e args s v u, (limb_1_1.after args s (.returned v) u = true ∧ limb_1_2.after args s (.returned v) u = true ∧ True) → ReturnedEndW s (.returned v) u (Jvm.fieldLocs frame_1_writes args s ++ Jvm.arrayLocs frame_1_arrays args s ++ Jvm.staticLocs frame_1_statics s) 8 1088 → Post tb e args s (.returned v) u) :
    ArmFor flags0 classFile x code maxLocals ret World_1 tables_1 room_1 Calls_1 rest_1 Pre_1 Post := by
  intro l hfl _ _ p e ha hc hk s m args below hf hA hF happ hP
  obtain ⟨hcalls, hrest, hpre⟩ := hP
  obtain ⟨-, -, -, hnamed, -, -, -, hat⟩ := (Spec.applies_iff hf).mp happ
  obtain ⟨hg, hn⟩ := and_e (Cond.before_iff.mp (show (Jvm.Cond.and given_1 narrow_1).before args s = true from hpre))
  obtain ⟨g0, r0⟩ := and_e hg
  have g1 := r0
  obtain ⟨w0, rfl⟩ : ∃ w0 : Value, args = #[w0] := by
    have hs : args.size = 1 := by simpa [Cond.value, given_1] using g0
    obtain ⟨L⟩ := args
    match L, hs with
    | [w0], _ => exact ⟨w0, rfl⟩
  have hw := fun d (hd : d ∈ tables_1) => atoms_spec (ws := Jvm.Cond.code x code maxLocals ret :: tables_1) hat d (List.mem_cons_of_mem _ hd)
  have hfit : Fit s := fun {y c} hc i hi => by
    obtain ⟨ha, rfl⟩ := Array.getElem?_eq_some_iff.mp hc
    have q := List.all_eq_true.mp ((Array.all_eq_true_iff_forall_mem.mp hF) _ (Array.getElem_mem ha)) i (List.mem_range.mpr hi)
    simpa [Array.getElem?_eq_getElem hi] using q
  obtain ⟨hsets, hown0⟩ := atoms_of _ (rest_1_c_eq ▸ (show rest_1_c.before _ s = true from hrest))
  obtain ⟨i0, ei0⟩ := is_v g1
  obtain rfl : w0 = (.int i0) := Option.some.inj ei0
  obtain ⟨n0, m0⟩ := and_e hn
  obtain ⟨n1, m1⟩ := and_e m0
  obtain ⟨n2, m2⟩ := and_e m1
  obtain ⟨n3, m3⟩ := and_e m2
  obtain ⟨n4, m4⟩ := and_e m3
  obtain ⟨n5, m5⟩ := and_e m4
  obtain ⟨n6, m6⟩ := and_e m5
  obtain ⟨n7, m7⟩ := and_e m6
  obtain ⟨n8, m8⟩ := and_e m7
  obtain ⟨n9, m9⟩ := and_e m8
  obtain ⟨n10, m10⟩ := and_e m9
  obtain ⟨n11, m11⟩ := and_e m10
  obtain ⟨n12, m12⟩ := and_e m11
  obtain ⟨n13, m13⟩ := and_e m12
  obtain ⟨n14, m14⟩ := and_e m13
  obtain ⟨n15, m15⟩ := and_e m14
  obtain ⟨n16, m16⟩ := and_e m15
  obtain ⟨n17, m17⟩ := and_e m16
  obtain ⟨n18, m18⟩ := and_e m17
  obtain ⟨n19, m19⟩ := and_e m18
  obtain ⟨n20, m20⟩ := and_e m19
  obtain ⟨n21, m21⟩ := and_e m20
  obtain ⟨n22, m22⟩ := and_e m21
  obtain ⟨n23, m23⟩ := and_e m22
  obtain ⟨n24, m24⟩ := and_e m23
  obtain ⟨n25, m25⟩ := and_e m24
  obtain ⟨n26, m26⟩ := and_e m25
  obtain ⟨n27, m27⟩ := and_e m26
  obtain ⟨n28, m28⟩ := and_e m27
  obtain ⟨n29, m29⟩ := and_e m28
  obtain ⟨n30, m30⟩ := and_e m29
  obtain ⟨n31, m31⟩ := and_e m30
  obtain ⟨n32, m32⟩ := and_e m31
  obtain ⟨n33, m33⟩ := and_e m32
  obtain ⟨n34, m34⟩ := and_e m33
  obtain ⟨n35, m35⟩ := and_e m34
  obtain ⟨n36, m36⟩ := and_e m35
  obtain ⟨n37, m37⟩ := and_e m36
  obtain ⟨n38, m38⟩ := and_e m37
  obtain ⟨n39, m39⟩ := and_e m38
  obtain ⟨n40, m40⟩ := and_e m39
  obtain ⟨n41, m41⟩ := and_e m40
  obtain ⟨n42, m42⟩ := and_e m41
  obtain ⟨n43, m43⟩ := and_e m42
  obtain ⟨n44, m44⟩ := and_e m43
  obtain ⟨n45, m45⟩ := and_e m44
  obtain ⟨n46, m46⟩ := and_e m45
  obtain ⟨n47, m47⟩ := and_e m46
  obtain ⟨n48, m48⟩ := and_e m47
  obtain ⟨n49, m49⟩ := and_e m48
  obtain ⟨n50, m50⟩ := and_e m49
  obtain ⟨n51, m51⟩ := and_e m50
  obtain ⟨n52, m52⟩ := and_e m51
  obtain ⟨n53, m53⟩ := and_e m52
  have n54 := m53
  obtain ⟨o_CLASS, e_o_CLASS⟩ := exa_v n0
  have S_o_CLASS := Sta.start e_o_CLASS (Or.inr ⟨hw _ (List.mem_of_getElem? (i := 2) rfl), hw _ (List.mem_of_getElem? (i := 3) rfl)⟩)
  have Ex_o_CLASS := Exa.start e_o_CLASS n0
  obtain ⟨o_DATA_PROPERTY, e_o_DATA_PROPERTY⟩ := exa_v n1
  have S_o_DATA_PROPERTY := Sta.start e_o_DATA_PROPERTY (Or.inr ⟨hw _ (List.mem_of_getElem? (i := 2) rfl), hw _ (List.mem_of_getElem? (i := 10) rfl)⟩)
  have Ex_o_DATA_PROPERTY := Exa.start e_o_DATA_PROPERTY n1
  have F_o_CLASS_ordinal := Fld.start ((fld_at e_o_CLASS).symm.trans (own_eqI n2))
  have F_o_DATA_PROPERTY_ordinal := Fld.start ((fld_at e_o_DATA_PROPERTY).symm.trans (own_eqI n3))
  obtain ⟨o_CLASS_label, e_o_CLASS_label⟩ := exa_v n4
  have F_o_CLASS_label := Fld.start ((fld_at e_o_CLASS).symm.trans e_o_CLASS_label)
  have Ex_o_CLASS_label := Exa.start e_o_CLASS_label n4
  have F_o_CLASS_label_coder := Fld.start ((fld_at e_o_CLASS_label).symm.trans (own_eqI n5))
  obtain ⟨o_CLASS_label_value, e_o_CLASS_label_value⟩ := arr_v n6
  obtain ⟨cl_o_CLASS_label_value, Ar_o_CLASS_label_value⟩ := Arr.start e_o_CLASS_label_value n6
  have F_o_CLASS_label_value := Fld.start ((fld_at e_o_CLASS_label).symm.trans e_o_CLASS_label_value)
  have Ln_o_CLASS_label_value := own_len (own_eqI n7) e_o_CLASS_label_value Ar_o_CLASS_label_value
  obtain ⟨o_DATA_PROPERTY_label, e_o_DATA_PROPERTY_label⟩ := exa_v n8
  have F_o_DATA_PROPERTY_label := Fld.start ((fld_at e_o_DATA_PROPERTY).symm.trans e_o_DATA_PROPERTY_label)
  have Ex_o_DATA_PROPERTY_label := Exa.start e_o_DATA_PROPERTY_label n8
  have F_o_DATA_PROPERTY_label_coder := Fld.start ((fld_at e_o_DATA_PROPERTY_label).symm.trans (own_eqI n9))
  obtain ⟨o_DATA_PROPERTY_label_value, e_o_DATA_PROPERTY_label_value⟩ := arr_v n10
  obtain ⟨cl_o_DATA_PROPERTY_label_value, Ar_o_DATA_PROPERTY_label_value⟩ := Arr.start e_o_DATA_PROPERTY_label_value n10
  have F_o_DATA_PROPERTY_label_value := Fld.start ((fld_at e_o_DATA_PROPERTY_label).symm.trans e_o_DATA_PROPERTY_label_value)
  have Ln_o_DATA_PROPERTY_label_value := own_len (own_eqI n11) e_o_DATA_PROPERTY_label_value Ar_o_DATA_PROPERTY_label_value
  obtain ⟨o_OBJECT_PROPERTY, e_o_OBJECT_PROPERTY⟩ := exa_v n12
  have S_o_OBJECT_PROPERTY := Sta.start e_o_OBJECT_PROPERTY (Or.inr ⟨hw _ (List.mem_of_getElem? (i := 2) rfl), hw _ (List.mem_of_getElem? (i := 42) rfl)⟩)
  have Ex_o_OBJECT_PROPERTY := Exa.start e_o_OBJECT_PROPERTY n12
  have F_o_OBJECT_PROPERTY_ordinal := Fld.start ((fld_at e_o_OBJECT_PROPERTY).symm.trans (own_eqI n13))
  obtain ⟨o_OBJECT_PROPERTY_label, e_o_OBJECT_PROPERTY_label⟩ := exa_v n14
  have F_o_OBJECT_PROPERTY_label := Fld.start ((fld_at e_o_OBJECT_PROPERTY).symm.trans e_o_OBJECT_PROPERTY_label)
  have Ex_o_OBJECT_PROPERTY_label := Exa.start e_o_OBJECT_PROPERTY_label n14
  have F_o_OBJECT_PROPERTY_label_coder := Fld.start ((fld_at e_o_OBJECT_PROPERTY_label).symm.trans (own_eqI n15))
  obtain ⟨o_OBJECT_PROPERTY_label_value, e_o_OBJECT_PROPERTY_label_value⟩ := arr_v n16
  obtain ⟨cl_o_OBJECT_PROPERTY_label_value, Ar_o_OBJECT_PROPERTY_label_value⟩ := Arr.start e_o_OBJECT_PROPERTY_label_value n16
  have F_o_OBJECT_PROPERTY_label_value := Fld.start ((fld_at e_o_OBJECT_PROPERTY_label).symm.trans e_o_OBJECT_PROPERTY_label_value)
  have Ln_o_OBJECT_PROPERTY_label_value := own_len (own_eqI n17) e_o_OBJECT_PROPERTY_label_value Ar_o_OBJECT_PROPERTY_label_value
  have El_o_CLASS_label_value_0 := (elem_in (own_eqI n18) e_o_CLASS_label_value (Term.int_eval 0) Ar_o_CLASS_label_value.1).2
  have El_o_CLASS_label_value_1 := (elem_in (own_eqI n19) e_o_CLASS_label_value (Term.int_eval 1) Ar_o_CLASS_label_value.1).2
  have El_o_CLASS_label_value_2 := (elem_in (own_eqI n20) e_o_CLASS_label_value (Term.int_eval 2) Ar_o_CLASS_label_value.1).2
  have El_o_CLASS_label_value_3 := (elem_in (own_eqI n21) e_o_CLASS_label_value (Term.int_eval 3) Ar_o_CLASS_label_value.1).2
  have El_o_CLASS_label_value_4 := (elem_in (own_eqI n22) e_o_CLASS_label_value (Term.int_eval 4) Ar_o_CLASS_label_value.1).2
  have El_o_DATA_PROPERTY_label_value_0 := (elem_in (own_eqI n23) e_o_DATA_PROPERTY_label_value (Term.int_eval 0) Ar_o_DATA_PROPERTY_label_value.1).2
  have El_o_DATA_PROPERTY_label_value_1 := (elem_in (own_eqI n24) e_o_DATA_PROPERTY_label_value (Term.int_eval 1) Ar_o_DATA_PROPERTY_label_value.1).2
  have El_o_DATA_PROPERTY_label_value_2 := (elem_in (own_eqI n25) e_o_DATA_PROPERTY_label_value (Term.int_eval 2) Ar_o_DATA_PROPERTY_label_value.1).2
  have El_o_DATA_PROPERTY_label_value_3 := (elem_in (own_eqI n26) e_o_DATA_PROPERTY_label_value (Term.int_eval 3) Ar_o_DATA_PROPERTY_label_value.1).2
  have El_o_DATA_PROPERTY_label_value_4 := (elem_in (own_eqI n27) e_o_DATA_PROPERTY_label_value (Term.int_eval 4) Ar_o_DATA_PROPERTY_label_value.1).2
  have El_o_DATA_PROPERTY_label_value_5 := (elem_in (own_eqI n28) e_o_DATA_PROPERTY_label_value (Term.int_eval 5) Ar_o_DATA_PROPERTY_label_value.1).2
  have El_o_DATA_PROPERTY_label_value_6 := (elem_in (own_eqI n29) e_o_DATA_PROPERTY_label_value (Term.int_eval 6) Ar_o_DATA_PROPERTY_label_value.1).2
  have El_o_DATA_PROPERTY_label_value_7 := (elem_in (own_eqI n30) e_o_DATA_PROPERTY_label_value (Term.int_eval 7) Ar_o_DATA_PROPERTY_label_value.1).2
  have El_o_DATA_PROPERTY_label_value_8 := (elem_in (own_eqI n31) e_o_DATA_PROPERTY_label_value (Term.int_eval 8) Ar_o_DATA_PROPERTY_label_value.1).2
  have El_o_DATA_PROPERTY_label_value_9 := (elem_in (own_eqI n32) e_o_DATA_PROPERTY_label_value (Term.int_eval 9) Ar_o_DATA_PROPERTY_label_value.1).2
  have El_o_DATA_PROPERTY_label_value_10 := (elem_in (own_eqI n33) e_o_DATA_PROPERTY_label_value (Term.int_eval 10) Ar_o_DATA_PROPERTY_label_value.1).2
  have El_o_DATA_PROPERTY_label_value_11 := (elem_in (own_eqI n34) e_o_DATA_PROPERTY_label_value (Term.int_eval 11) Ar_o_DATA_PROPERTY_label_value.1).2
  have El_o_DATA_PROPERTY_label_value_12 := (elem_in (own_eqI n35) e_o_DATA_PROPERTY_label_value (Term.int_eval 12) Ar_o_DATA_PROPERTY_label_value.1).2
  have El_o_DATA_PROPERTY_label_value_13 := (elem_in (own_eqI n36) e_o_DATA_PROPERTY_label_value (Term.int_eval 13) Ar_o_DATA_PROPERTY_label_value.1).2
  have El_o_DATA_PROPERTY_label_value_14 := (elem_in (own_eqI n37) e_o_DATA_PROPERTY_label_value (Term.int_eval 14) Ar_o_DATA_PROPERTY_label_value.1).2
  have El_o_DATA_PROPERTY_label_value_15 := (elem_in (own_eqI n38) e_o_DATA_PROPERTY_label_value (Term.int_eval 15) Ar_o_DATA_PROPERTY_label_value.1).2
  have El_o_DATA_PROPERTY_label_value_16 := (elem_in (own_eqI n39) e_o_DATA_PROPERTY_label_value (Term.int_eval 16) Ar_o_DATA_PROPERTY_label_value.1).2
  have El_o_OBJECT_PROPERTY_label_value_0 := (elem_in (own_eqI n40) e_o_OBJECT_PROPERTY_label_value (Term.int_eval 0) Ar_o_OBJECT_PROPERTY_label_value.1).2
  have El_o_OBJECT_PROPERTY_label_value_1 := (elem_in (own_eqI n41) e_o_OBJECT_PROPERTY_label_value (Term.int_eval 1) Ar_o_OBJECT_PROPERTY_label_value.1).2
  have El_o_OBJECT_PROPERTY_label_value_2 := (elem_in (own_eqI n42) e_o_OBJECT_PROPERTY_label_value (Term.int_eval 2) Ar_o_OBJECT_PROPERTY_label_value.1).2
  have El_o_OBJECT_PROPERTY_label_value_3 := (elem_in (own_eqI n43) e_o_OBJECT_PROPERTY_label_value (Term.int_eval 3) Ar_o_OBJECT_PROPERTY_label_value.1).2
  have El_o_OBJECT_PROPERTY_label_value_4 := (elem_in (own_eqI n44) e_o_OBJECT_PROPERTY_label_value (Term.int_eval 4) Ar_o_OBJECT_PROPERTY_label_value.1).2
  have El_o_OBJECT_PROPERTY_label_value_5 := (elem_in (own_eqI n45) e_o_OBJECT_PROPERTY_label_value (Term.int_eval 5) Ar_o_OBJECT_PROPERTY_label_value.1).2
  have El_o_OBJECT_PROPERTY_label_value_6 := (elem_in (own_eqI n46) e_o_OBJECT_PROPERTY_label_value (Term.int_eval 6) Ar_o_OBJECT_PROPERTY_label_value.1).2
  have El_o_OBJECT_PROPERTY_label_value_7 := (elem_in (own_eqI n47) e_o_OBJECT_PROPERTY_label_value (Term.int_eval 7) Ar_o_OBJECT_PROPERTY_label_value.1).2
  have El_o_OBJECT_PROPERTY_label_value_8 := (elem_in (own_eqI n48) e_o_OBJECT_PROPERTY_label_value (Term.int_eval 8) Ar_o_OBJECT_PROPERTY_label_value.1).2
  have El_o_OBJECT_PROPERTY_label_value_9 := (elem_in (own_eqI n49) e_o_OBJECT_PROPERTY_label_value (Term.int_eval 9) Ar_o_OBJECT_PROPERTY_label_value.1).2
  have El_o_OBJECT_PROPERTY_label_value_10 := (elem_in (own_eqI n50) e_o_OBJECT_PROPERTY_label_value (Term.int_eval 10) Ar_o_OBJECT_PROPERTY_label_value.1).2
  have El_o_OBJECT_PROPERTY_label_value_11 := (elem_in (own_eqI n51) e_o_OBJECT_PROPERTY_label_value (Term.int_eval 11) Ar_o_OBJECT_PROPERTY_label_value.1).2
  have El_o_OBJECT_PROPERTY_label_value_12 := (elem_in (own_eqI n52) e_o_OBJECT_PROPERTY_label_value (Term.int_eval 12) Ar_o_OBJECT_PROPERTY_label_value.1).2
  have El_o_OBJECT_PROPERTY_label_value_13 := (elem_in (own_eqI n53) e_o_OBJECT_PROPERTY_label_value (Term.int_eval 13) Ar_o_OBJECT_PROPERTY_label_value.1).2
  have El_o_OBJECT_PROPERTY_label_value_14 := (elem_in (own_eqI n54) e_o_OBJECT_PROPERTY_label_value (Term.int_eval 14) Ar_o_OBJECT_PROPERTY_label_value.1).2
  obtain ⟨o_COMPACT_STRINGS, e_o_COMPACT_STRINGS⟩ := is_v (Cond.before_iff.mp (hsets _ (List.mem_of_getElem? (i := 1) rfl)))
  have S_o_COMPACT_STRINGS := Sta.start e_o_COMPACT_STRINGS (Or.inl (hsets _ (List.mem_of_getElem? (i := 0) rfl)))
  have nz_o_COMPACT_STRINGS : ¬ (o_COMPACT_STRINGS = (0 : Int32)) := gotF (Cond.eq_ints e_o_COMPACT_STRINGS (Term.int_eval 0)) (not_v (Cond.before_iff.mp (hsets _ (List.mem_of_getElem? (i := 2) rfl))))
  obtain ⟨o_SIOOBE_FORMATTER, e_o_SIOOBE_FORMATTER, r_o_SIOOBE_FORMATTER⟩ := isR_v (Cond.before_iff.mp (hsets _ (List.mem_of_getElem? (i := 8) rfl)))
  have S_o_SIOOBE_FORMATTER := Sta.start e_o_SIOOBE_FORMATTER (Or.inl (hsets _ (List.mem_of_getElem? (i := 7) rfl)))
  have V_o_CLASS_label_value : Arv s s.heap o_CLASS_label_value cl_o_CLASS_label_value.cls .byte (5 : Int32) [(.int (99 : Int32)), (.int (108 : Int32)), (.int (97 : Int32)), (.int (115 : Int32)), (.int (115 : Int32))] (.int (0 : Int32)) := Arv.start hfit Ar_o_CLASS_label_value Ln_o_CLASS_label_value.1 Ln_o_CLASS_label_value.2 (by decide) rfl ⟨El_o_CLASS_label_value_0, El_o_CLASS_label_value_1, El_o_CLASS_label_value_2, El_o_CLASS_label_value_3, El_o_CLASS_label_value_4, trivial⟩
  have V_o_DATA_PROPERTY_label_value : Arv s s.heap o_DATA_PROPERTY_label_value cl_o_DATA_PROPERTY_label_value.cls .byte (17 : Int32) [(.int (100 : Int32)), (.int (97 : Int32)), (.int (116 : Int32)), (.int (97 : Int32)), (.int (116 : Int32)), (.int (121 : Int32)), (.int (112 : Int32)), (.int (101 : Int32)), (.int (32 : Int32)), (.int (112 : Int32)), (.int (114 : Int32)), (.int (111 : Int32)), (.int (112 : Int32)), (.int (101 : Int32)), (.int (114 : Int32)), (.int (116 : Int32)), (.int (121 : Int32))] (.int (0 : Int32)) := Arv.start hfit Ar_o_DATA_PROPERTY_label_value Ln_o_DATA_PROPERTY_label_value.1 Ln_o_DATA_PROPERTY_label_value.2 (by decide) rfl ⟨El_o_DATA_PROPERTY_label_value_0, El_o_DATA_PROPERTY_label_value_1, El_o_DATA_PROPERTY_label_value_2, El_o_DATA_PROPERTY_label_value_3, El_o_DATA_PROPERTY_label_value_4, El_o_DATA_PROPERTY_label_value_5, El_o_DATA_PROPERTY_label_value_6, El_o_DATA_PROPERTY_label_value_7, El_o_DATA_PROPERTY_label_value_8, El_o_DATA_PROPERTY_label_value_9, El_o_DATA_PROPERTY_label_value_10, El_o_DATA_PROPERTY_label_value_11, El_o_DATA_PROPERTY_label_value_12, El_o_DATA_PROPERTY_label_value_13, El_o_DATA_PROPERTY_label_value_14, El_o_DATA_PROPERTY_label_value_15, El_o_DATA_PROPERTY_label_value_16, trivial⟩
  have V_o_OBJECT_PROPERTY_label_value : Arv s s.heap o_OBJECT_PROPERTY_label_value cl_o_OBJECT_PROPERTY_label_value.cls .byte (15 : Int32) [(.int (111 : Int32)), (.int (98 : Int32)), (.int (106 : Int32)), (.int (101 : Int32)), (.int (99 : Int32)), (.int (116 : Int32)), (.int (32 : Int32)), (.int (112 : Int32)), (.int (114 : Int32)), (.int (111 : Int32)), (.int (112 : Int32)), (.int (101 : Int32)), (.int (114 : Int32)), (.int (116 : Int32)), (.int (121 : Int32))] (.int (0 : Int32)) := Arv.start hfit Ar_o_OBJECT_PROPERTY_label_value Ln_o_OBJECT_PROPERTY_label_value.1 Ln_o_OBJECT_PROPERTY_label_value.2 (by decide) rfl ⟨El_o_OBJECT_PROPERTY_label_value_0, El_o_OBJECT_PROPERTY_label_value_1, El_o_OBJECT_PROPERTY_label_value_2, El_o_OBJECT_PROPERTY_label_value_3, El_o_OBJECT_PROPERTY_label_value_4, El_o_OBJECT_PROPERTY_label_value_5, El_o_OBJECT_PROPERTY_label_value_6, El_o_OBJECT_PROPERTY_label_value_7, El_o_OBJECT_PROPERTY_label_value_8, El_o_OBJECT_PROPERTY_label_value_9, El_o_OBJECT_PROPERTY_label_value_10, El_o_OBJECT_PROPERTY_label_value_11, El_o_OBJECT_PROPERTY_label_value_12, El_o_OBJECT_PROPERTY_label_value_13, El_o_OBJECT_PROPERTY_label_value_14, trivial⟩
  have hcw : Jvm.Lit.compactW.before #[(.int i0)] s = true := hsets _ (List.mem_of_getElem? (i := 2) rfl)
  have hCH : CHv s own_EL s.vm s.heap := CHv.start (own_EW s _ hw) hcalls.1 hcw (hw _ (List.mem_of_getElem? (i := 14) rfl)) (hw _ (List.mem_of_getElem? (i := 13) rfl))
  obtain ⟨n, o, h1, h2, h3, _, L, rfl, ⟨rfl, N⟩, -, hq⟩ := own_law l s _ hw tables_1 i0 o_CLASS o_DATA_PROPERTY o_CLASS_label o_CLASS_label_value o_DATA_PROPERTY_label o_DATA_PROPERTY_label_value o_OBJECT_PROPERTY o_OBJECT_PROPERTY_label o_OBJECT_PROPERTY_label_value o_COMPACT_STRINGS o_SIOOBE_FORMATTER cl_o_CLASS_label_value.cls cl_o_DATA_PROPERTY_label_value.cls cl_o_OBJECT_PROPERTY_label_value.cls s.vm s.heap s.heap.size (Nat.le_refl _) (Old.start s) S_o_CLASS Ex_o_CLASS S_o_DATA_PROPERTY Ex_o_DATA_PROPERTY F_o_CLASS_ordinal F_o_DATA_PROPERTY_ordinal F_o_CLASS_label Ex_o_CLASS_label F_o_CLASS_label_coder F_o_CLASS_label_value F_o_DATA_PROPERTY_label Ex_o_DATA_PROPERTY_label F_o_DATA_PROPERTY_label_coder F_o_DATA_PROPERTY_label_value S_o_OBJECT_PROPERTY Ex_o_OBJECT_PROPERTY F_o_OBJECT_PROPERTY_ordinal F_o_OBJECT_PROPERTY_label Ex_o_OBJECT_PROPERTY_label F_o_OBJECT_PROPERTY_label_coder F_o_OBJECT_PROPERTY_label_value S_o_COMPACT_STRINGS S_o_SIOOBE_FORMATTER V_o_CLASS_label_value V_o_DATA_PROPERTY_label_value V_o_OBJECT_PROPERTY_label_value nz_o_COMPACT_STRINGS r_o_SIOOBE_FORMATTER p e ha hc hk s m _ below hf ((Spec.applies_iff_loose hf).mp happ).1 ⟨rfl, State.Warmed39.refl s, rfl, CHr.refl hCH⟩ trivial
  refine ⟨n, _, h1, h2, h3, hpost _ _ _ _ _ _ ⟨Cond.after_iff.mpr rfl, Cond.after_iff.mpr (eq_i res_at (Term.int_eval (1)) rfl), trivial⟩ ⟨hq.1, hq.2.1, hq.2.2.1, (hq.2.2.2.sift fun y hy => Or.inr (N y hy)).mono (by decide) (by decide)⟩⟩
theorem main_1_1 : Claimed_1_1 := comes_1 fun _ _ _ _ _ _ h hF => ⟨h.1, hF⟩
theorem main_1_2 : Claimed_1_2 := comes_1 fun _ _ _ _ _ _ h hF => ⟨h.2.1, hF⟩
end Jvm.Pilot.@@N@@
namespace Jvm.Pilot.@@N@@
open Jvm Jvm.ClassFile Sem Op Lib Jvm.Free Jvm.Stand Jvm.Pilot.@@N@@.Jvm.D
/-! MADE BY PROGRAM (witnessworld.py) out of the Statement's table words and the real class files: 16 classes; the members and pool entries that the words name. The judged class is class 1, her method 1. -/
namespace start1
open Jvm.ClassFile
def u (s : String) : CpInfo := .utf8 (stringToUtf16 s)
/-- a pool by its gaps: so many unusable entries, then the entry; so many at the end -/
def gap : Nat → List CpInfo → List CpInfo
  | 0, r => r
  | n + 1, r => .unusable :: gap n r
def poolList (es : List (Nat × CpInfo)) (last : Nat) : List CpInfo := es.foldr (fun e r => gap e.1 (e.2 :: r)) (gap last [])
def pool (es : List (Nat × CpInfo)) (last : Nat) : Array CpInfo := ⟨poolList es last⟩
def fileOf (pool : Array CpInfo) (this : Nat) (attrs : Array Attribute := #[]) (ms : Array MethodInfo := #[]) (fl : Nat := 33) (sup : Nat := 0) (ifs : Array Nat := #[]) (fds : Array FieldInfo := #[]) : ClassFile where
  minorVersion := 0
  majorVersion := 65
  constantPool := pool
  accessFlags := fl
  thisClass := this
  superClass := sup
  interfaces := ifs
  fields := fds
  methods := ms
  attributes := attrs
def plain (name : String) (sup : Option ClassId) : Class where
  name := name
  kind := .ordinary
  loader := none
  accessFlags := 33
  super := sup
  interfaces := #[]
  cf := none
  fields := #[]
  methods := #[]
  instanceTypes := #[]
  staticTypes := #[]
  resolved := #[]
  callSites := []
  init := .initialized
  statics := none
  mirror := none

def pool0 : Array CpInfo := pool [(5, u "<init>"), (0, u "()V"), (1, .class_ 10), (1, u "java/lang/Object")] 113

def k0m0 : Method := { name := "<init>", desc := "()V", sig := { parameters := [], returnType := none }, accessFlags := 1, code := none }
/-- java/lang/Object -/
def k0 : Class := { plain "java/lang/Object" none with
  accessFlags := 33
  interfaces := #[]
  cf := some (fileOf pool0 8 #[] #[{ accessFlags := 1, nameIndex := 5, descriptorIndex := 6, attributes := #[] }] 33 0 #[] #[])
  fields := #[]
  methods := #[k0m0]
  instanceTypes := #[]
  staticTypes := #[]
  resolved := Array.replicate 124 none
  statics := none }

def pool1 : Array CpInfo := pool [(2, .class_ 4), (1, u "java/lang/Object"), (0, u "<init>"), (0, u "()V"), (0, .integer 2147483647), (0, .fieldref 9 10), (0, .class_ 11), (0, .nameAndType 12 13), (0, u "com/example/boxwright/boxwright/Kind"), (0, u "CLASS"), (0, u "Lcom/example/boxwright/boxwright/Kind;"), (0, .fieldref 9 15), (0, .nameAndType 16 13), (0, u "OBJECT_PROPERTY"), (0, .fieldref 9 18), (0, .nameAndType 19 13), (0, u "DATA_PROPERTY"), (0, .methodref 9 21), (0, .nameAndType 22 23), (0, u "holdsLiteral"), (0, u "()Z"), (0, .string 25), (0, u "datatype property"), (0, .methodref 9 27), (0, .nameAndType 28 29), (0, u "label"), (0, u "()Ljava/lang/String;"), (0, .methodref 31 32), (0, .class_ 33), (0, .nameAndType 34 35), (0, u "java/lang/String"), (0, u "equals"), (0, u "(Ljava/lang/Object;)Z"), (0, .class_ 37), (0, u "com/example/boxwright/boxwright/KindHoldsLiteralPinLaw"), (2, u "law"), (0, u "(I)Z")] 3

def k1m0 : Method := { name := "<init>", desc := "()V", sig := { parameters := [], returnType := none }, accessFlags := 1, code := none }
def k1c1 : Code := { maxStack := 2, maxLocals := 6, code := code, exceptionTable := #[], attributes := #[] }
def k1m1 : Method := { name := "law", desc := "(I)Z", sig := { parameters := [.int], returnType := some .boolean }, accessFlags := 9, code := some k1c1 }
/-- com/example/boxwright/boxwright/KindHoldsLiteralPinLaw -/
def k1 : Class := { plain "com/example/boxwright/boxwright/KindHoldsLiteralPinLaw" (some 0) with
  accessFlags := 49
  interfaces := #[]
  cf := some (fileOf pool1 36 #[] #[{ accessFlags := 1, nameIndex := 5, descriptorIndex := 6, attributes := #[] }, { accessFlags := 9, nameIndex := 40, descriptorIndex := 41, attributes := #[] }] 49 2 #[] #[])
  fields := #[]
  methods := #[k1m0, k1m1]
  instanceTypes := #[]
  staticTypes := #[]
  resolved := Array.replicate 45 none
  statics := none }

def pool2 : Array CpInfo := pool [(1, .class_ 2), (0, u "java/lang/constant/Constable"), (0, .class_ 4), (0, u "java/lang/Object")] 6

/-- java/lang/constant/Constable -/
def k2 : Class := { plain "java/lang/constant/Constable" (some 0) with
  accessFlags := 1537
  interfaces := #[]
  cf := some (fileOf pool2 1 #[] #[] 1537 3 #[] #[])
  fields := #[]
  methods := #[]
  instanceTypes := #[]
  staticTypes := #[]
  resolved := Array.replicate 11 none
  statics := none }

def pool3 : Array CpInfo := pool [(1, .class_ 2), (0, u "java/lang/Comparable"), (0, .class_ 4), (0, u "java/lang/Object")] 7

/-- java/lang/Comparable -/
def k3 : Class := { plain "java/lang/Comparable" (some 0) with
  accessFlags := 1537
  interfaces := #[]
  cf := some (fileOf pool3 1 #[] #[] 1537 3 #[] #[])
  fields := #[]
  methods := #[]
  instanceTypes := #[]
  staticTypes := #[]
  resolved := Array.replicate 12 none
  statics := none }

def pool4 : Array CpInfo := pool [(1, .class_ 2), (0, u "java/io/Serializable"), (0, .class_ 4), (0, u "java/lang/Object")] 2

/-- java/io/Serializable -/
def k4 : Class := { plain "java/io/Serializable" (some 0) with
  accessFlags := 1537
  interfaces := #[]
  cf := some (fileOf pool4 1 #[] #[] 1537 3 #[] #[])
  fields := #[]
  methods := #[]
  instanceTypes := #[]
  staticTypes := #[]
  resolved := Array.replicate 7 none
  statics := none }

def pool5 : Array CpInfo := pool [(2, .class_ 4), (1, u "java/lang/Enum"), (0, u "name"), (0, u "Ljava/lang/String;"), (2, u "ordinal"), (0, u "I"), (1, .class_ 14), (1, u "java/lang/Object"), (4, u "hash"), (86, .class_ 108), (1, u "java/lang/Enum$EnumDesc"), (2, .class_ 112), (0, u "java/lang/constant/Constable"), (0, .class_ 114), (0, u "java/lang/Comparable"), (0, .class_ 116), (0, u "java/io/Serializable")] 87

/-- java/lang/Enum -/
def k5 : Class := { plain "java/lang/Enum" (some 0) with
  accessFlags := 1057
  interfaces := #[2, 3, 4]
  cf := some (fileOf pool5 2 #[.nestMembers #[106]] #[] 1057 12 #[111, 113, 115] #[{ accessFlags := 18, nameIndex := 5, descriptorIndex := 6, attributes := #[] }, { accessFlags := 18, nameIndex := 9, descriptorIndex := 10, attributes := #[] }, { accessFlags := 2, nameIndex := 19, descriptorIndex := 10, attributes := #[] }])
  fields := #[{ name := "name", type := (.object "java/lang/String"), accessFlags := 18, slot := 0, constantValue := 0 }, { name := "ordinal", type := .int, accessFlags := 18, slot := 1, constantValue := 0 }, { name := "hash", type := .int, accessFlags := 2, slot := 2, constantValue := 0 }]
  methods := #[]
  instanceTypes := #[(.object "java/lang/String"), .int, .int]
  staticTypes := #[]
  resolved := Array.replicate 204 none
  statics := none }

def pool6 : Array CpInfo := pool [(1, .class_ 2), (0, u "com/example/boxwright/boxwright/Kind"), (2, u "CLASS"), (0, u "Lcom/example/boxwright/boxwright/Kind;"), (2, u "OBJECT_PROPERTY"), (0, .fieldref 1 11), (0, .nameAndType 12 6), (0, u "DATA_PROPERTY"), (2, u "$VALUES"), (0, u "[Lcom/example/boxwright/boxwright/Kind;"), (6, .class_ 25), (1, u "java/lang/Enum"), (6, .fieldref 1 33), (0, .nameAndType 34 35), (0, u "label"), (0, u "Ljava/lang/String;"), (8, u "columns"), (0, u "Ljava/util/List;"), (2, u "holdsLiteral"), (0, u "()Z"), (89, u "()Ljava/lang/String;")] 28

def k6c0 : Code := { maxStack := 1, maxLocals := 1, code := prog_8_method_4_code, exceptionTable := #[], attributes := #[] }
def k6m0 : Method := { name := "label", desc := "()Ljava/lang/String;", sig := { parameters := [], returnType := some (.object "java/lang/String") }, accessFlags := 0, code := some k6c0 }
def k6c1 : Code := { maxStack := 2, maxLocals := 1, code := prog_8_method_6_code, exceptionTable := #[], attributes := #[] }
def k6m1 : Method := { name := "holdsLiteral", desc := "()Z", sig := { parameters := [], returnType := some .boolean }, accessFlags := 0, code := some k6c1 }
/-- com/example/boxwright/boxwright/Kind -/
def k6 : Class := { plain "com/example/boxwright/boxwright/Kind" (some 5) with
  accessFlags := 16432
  interfaces := #[]
  cf := some (fileOf pool6 1 #[] #[{ accessFlags := 0, nameIndex := 34, descriptorIndex := 139, attributes := #[] }, { accessFlags := 0, nameIndex := 48, descriptorIndex := 49, attributes := #[] }] 16432 23 #[] #[{ accessFlags := 16409, nameIndex := 5, descriptorIndex := 6, attributes := #[] }, { accessFlags := 16409, nameIndex := 9, descriptorIndex := 6, attributes := #[] }, { accessFlags := 16409, nameIndex := 12, descriptorIndex := 6, attributes := #[] }, { accessFlags := 18, nameIndex := 34, descriptorIndex := 35, attributes := #[] }, { accessFlags := 18, nameIndex := 44, descriptorIndex := 45, attributes := #[] }, { accessFlags := 4122, nameIndex := 15, descriptorIndex := 16, attributes := #[] }])
  fields := #[{ name := "CLASS", type := (.object "com/example/boxwright/boxwright/Kind"), accessFlags := 16409, slot := 0, constantValue := 0 }, { name := "OBJECT_PROPERTY", type := (.object "com/example/boxwright/boxwright/Kind"), accessFlags := 16409, slot := 1, constantValue := 0 }, { name := "DATA_PROPERTY", type := (.object "com/example/boxwright/boxwright/Kind"), accessFlags := 16409, slot := 2, constantValue := 0 }, { name := "label", type := (.object "java/lang/String"), accessFlags := 18, slot := 3, constantValue := 0 }, { name := "columns", type := (.object "java/util/List"), accessFlags := 18, slot := 4, constantValue := 0 }, { name := "$VALUES", type := (.array (.object "com/example/boxwright/boxwright/Kind")), accessFlags := 4122, slot := 3, constantValue := 0 }]
  methods := #[k6m0, k6m1]
  instanceTypes := #[(.object "java/lang/String"), .int, .int, (.object "java/lang/String"), (.object "java/util/List")]
  staticTypes := #[(.object "com/example/boxwright/boxwright/Kind"), (.object "com/example/boxwright/boxwright/Kind"), (.object "com/example/boxwright/boxwright/Kind"), (.array (.object "com/example/boxwright/boxwright/Kind"))]
  resolved := Array.replicate 168 none
  statics := some 0 }

def pool7 : Array CpInfo := pool [(2, .class_ 4), (1, u "java/lang/CharSequence"), (42, .class_ 48), (0, u "java/lang/CharSequence$1CodePointIterator"), (10, .class_ 60), (0, u "java/lang/CharSequence$1CharIterator"), (5, .class_ 67), (0, u "java/lang/Object")] 63

/-- java/lang/CharSequence -/
def k7 : Class := { plain "java/lang/CharSequence" (some 0) with
  accessFlags := 1537
  interfaces := #[]
  cf := some (fileOf pool7 2 #[.nestMembers #[47, 59]] #[] 1537 66 #[] #[])
  fields := #[]
  methods := #[]
  instanceTypes := #[]
  staticTypes := #[]
  resolved := Array.replicate 131 none
  statics := none }

def pool8 : Array CpInfo := pool [(1, .class_ 2), (0, u "java/lang/constant/ConstantDesc"), (0, .class_ 4), (0, u "java/lang/Object")] 32

/-- java/lang/constant/ConstantDesc -/
def k8 : Class := { plain "java/lang/constant/ConstantDesc" (some 0) with
  accessFlags := 1537
  interfaces := #[]
  cf := some (fileOf pool8 1 #[] #[] 1537 3 #[] #[])
  fields := #[]
  methods := #[]
  instanceTypes := #[]
  staticTypes := #[]
  resolved := Array.replicate 37 none
  statics := none }

def pool9 : Array CpInfo := pool [(2, .class_ 4), (1, u "java/lang/Object"), (0, u "<init>"), (0, u "()V"), (2, .fieldref 10 11), (0, .class_ 12), (0, .nameAndType 13 14), (0, u "java/lang/String"), (0, u "value"), (0, u "[B"), (0, .fieldref 10 16), (0, .nameAndType 17 18), (0, u "coder"), (0, u "B"), (2, u "hash"), (0, u "I"), (2, u "hashIsZero"), (0, u "Z"), (11, .fieldref 10 39), (0, .nameAndType 40 26), (0, u "COMPACT_STRINGS"), (66, .class_ 109), (1, u "java/lang/StringLatin1"), (431, .methodref 107 542), (0, .nameAndType 543 544), (0, u "equals"), (0, u "([B[B)Z"), (28, u "(Ljava/lang/Object;)Z"), (1, .class_ 576), (0, u "java/lang/CharSequence"), (22, u "CASE_INSENSITIVE_ORDER"), (0, u "Ljava/util/Comparator;"), (500, u "serialPersistentFields"), (0, u "[Ljava/io/ObjectStreamField;"), (0, .class_ 1104), (0, u "java/lang/String$CaseInsensitiveComparator"), (1, .class_ 1107), (0, u "java/io/Serializable"), (0, .class_ 1109), (0, u "java/lang/Comparable"), (0, .class_ 1111), (0, u "java/lang/constant/Constable"), (0, .class_ 1113), (0, u "java/lang/constant/ConstantDesc"), (2, u "serialVersionUID"), (0, u "J"), (3, u "REPL"), (0, u "C"), (2, u "LATIN1"), (1, u "UTF16")] 323

def k9m0 : Method := { name := "<init>", desc := "()V", sig := { parameters := [], returnType := none }, accessFlags := 1, code := none }
def k9c1 : Code := { maxStack := 2, maxLocals := 3, code := jdk_42_method_66_code, exceptionTable := #[], attributes := #[] }
def k9m1 : Method := { name := "equals", desc := "(Ljava/lang/Object;)Z", sig := { parameters := [(.object "java/lang/Object")], returnType := some .boolean }, accessFlags := 1, code := some k9c1 }
/-- java/lang/String -/
def k9 : Class := { plain "java/lang/String" (some 0) with
  accessFlags := 49
  interfaces := #[4, 3, 7, 2, 8]
  cf := some (fileOf pool9 10 #[.nestMembers #[1103]] #[{ accessFlags := 1, nameIndex := 5, descriptorIndex := 6, attributes := #[] }, { accessFlags := 1, nameIndex := 543, descriptorIndex := 573, attributes := #[] }] 49 2 #[1106, 1108, 575, 1110, 1112] #[{ accessFlags := 18, nameIndex := 13, descriptorIndex := 14, attributes := #[] }, { accessFlags := 18, nameIndex := 17, descriptorIndex := 18, attributes := #[] }, { accessFlags := 2, nameIndex := 21, descriptorIndex := 22, attributes := #[] }, { accessFlags := 2, nameIndex := 25, descriptorIndex := 26, attributes := #[] }, { accessFlags := 26, nameIndex := 1116, descriptorIndex := 1117, attributes := #[] }, { accessFlags := 24, nameIndex := 40, descriptorIndex := 26, attributes := #[] }, { accessFlags := 26, nameIndex := 1101, descriptorIndex := 1102, attributes := #[] }, { accessFlags := 26, nameIndex := 1121, descriptorIndex := 1122, attributes := #[] }, { accessFlags := 25, nameIndex := 599, descriptorIndex := 600, attributes := #[] }, { accessFlags := 24, nameIndex := 1125, descriptorIndex := 18, attributes := #[] }, { accessFlags := 24, nameIndex := 1127, descriptorIndex := 18, attributes := #[] }])
  fields := #[{ name := "value", type := (.array .byte), accessFlags := 18, slot := 0, constantValue := 0 }, { name := "coder", type := .byte, accessFlags := 18, slot := 1, constantValue := 0 }, { name := "hash", type := .int, accessFlags := 2, slot := 2, constantValue := 0 }, { name := "hashIsZero", type := .boolean, accessFlags := 2, slot := 3, constantValue := 0 }, { name := "serialVersionUID", type := .long, accessFlags := 26, slot := 0, constantValue := 0 }, { name := "COMPACT_STRINGS", type := .boolean, accessFlags := 24, slot := 1, constantValue := 0 }, { name := "serialPersistentFields", type := (.array (.object "java/io/ObjectStreamField")), accessFlags := 26, slot := 2, constantValue := 0 }, { name := "REPL", type := .char, accessFlags := 26, slot := 3, constantValue := 0 }, { name := "CASE_INSENSITIVE_ORDER", type := (.object "java/util/Comparator"), accessFlags := 25, slot := 4, constantValue := 0 }, { name := "LATIN1", type := .byte, accessFlags := 24, slot := 5, constantValue := 0 }, { name := "UTF16", type := .byte, accessFlags := 24, slot := 6, constantValue := 0 }]
  methods := #[k9m0, k9m1]
  instanceTypes := #[(.array .byte), .byte, .int, .boolean]
  staticTypes := #[.long, .boolean, (.array (.object "java/io/ObjectStreamField")), .char, (.object "java/util/Comparator"), .byte, .byte]
  resolved := Array.replicate 1451 none
  statics := some 1 }

def pool10 : Array CpInfo := pool [(4, .class_ 6), (1, u "java/lang/Object"), (0, u "<init>"), (0, u "()V"), (5, .class_ 16), (1, u "java/lang/StringLatin1"), (104, u "$assertionsDisabled"), (0, u "Z"), (98, .class_ 223), (1, u "java/lang/StringLatin1$LinesSpliterator"), (57, u "equals"), (0, u "([B[B)Z"), (107, .class_ 391), (0, u "java/lang/StringLatin1$CharsSpliterator")] 3

def k10m0 : Method := { name := "<init>", desc := "()V", sig := { parameters := [], returnType := none }, accessFlags := 0, code := none }
def k10c1 : Code := { maxStack := 3, maxLocals := 3, code := jdk_43_method_13_code, exceptionTable := #[], attributes := #[] }
def k10m1 : Method := { name := "equals", desc := "([B[B)Z", sig := { parameters := [(.array .byte), (.array .byte)], returnType := some .boolean }, accessFlags := 9, code := some k10c1 }
/-- java/lang/StringLatin1 -/
def k10 : Class := { plain "java/lang/StringLatin1" (some 0) with
  accessFlags := 48
  interfaces := #[]
  cf := some (fileOf pool10 14 #[.nestMembers #[390, 221]] #[{ accessFlags := 0, nameIndex := 7, descriptorIndex := 8, attributes := #[] }, { accessFlags := 9, nameIndex := 281, descriptorIndex := 282, attributes := #[] }] 48 4 #[] #[{ accessFlags := 4120, nameIndex := 121, descriptorIndex := 122, attributes := #[] }])
  fields := #[{ name := "$assertionsDisabled", type := .boolean, accessFlags := 4120, slot := 0, constantValue := 0 }]
  methods := #[k10m0, k10m1]
  instanceTypes := #[]
  staticTypes := #[.boolean]
  resolved := Array.replicate 395 none
  statics := none }

def pool11 : Array CpInfo := pool [(2, .class_ 4), (1, u "java/lang/Object"), (0, u "<init>"), (0, u "()V"), (17, .class_ 26), (1, u "jdk/internal/util/Preconditions"), (28, .class_ 56), (0, u "jdk/internal/util/Preconditions$4"), (57, .class_ 115), (0, u "jdk/internal/util/Preconditions$1"), (7, u "SIOOBE_FORMATTER"), (0, u "Ljava/util/function/BiFunction;"), (0, .class_ 126), (0, u "jdk/internal/util/Preconditions$2"), (3, u "AIOOBE_FORMATTER"), (0, .class_ 132), (0, u "jdk/internal/util/Preconditions$3"), (3, u "IOOBE_FORMATTER")] 57

def k11m0 : Method := { name := "<init>", desc := "()V", sig := { parameters := [], returnType := none }, accessFlags := 1, code := none }
/-- jdk/internal/util/Preconditions -/
def k11 : Class := { plain "jdk/internal/util/Preconditions" (some 0) with
  accessFlags := 33
  interfaces := #[]
  cf := some (fileOf pool11 24 #[.nestMembers #[55, 131, 125, 114]] #[{ accessFlags := 1, nameIndex := 5, descriptorIndex := 6, attributes := #[] }] 33 2 #[] #[{ accessFlags := 25, nameIndex := 123, descriptorIndex := 124, attributes := #[] }, { accessFlags := 25, nameIndex := 130, descriptorIndex := 124, attributes := #[] }, { accessFlags := 25, nameIndex := 136, descriptorIndex := 124, attributes := #[] }])
  fields := #[{ name := "SIOOBE_FORMATTER", type := (.object "java/util/function/BiFunction"), accessFlags := 25, slot := 0, constantValue := 0 }, { name := "AIOOBE_FORMATTER", type := (.object "java/util/function/BiFunction"), accessFlags := 25, slot := 1, constantValue := 0 }, { name := "IOOBE_FORMATTER", type := (.object "java/util/function/BiFunction"), accessFlags := 25, slot := 2, constantValue := 0 }]
  methods := #[k11m0]
  instanceTypes := #[]
  staticTypes := #[(.object "java/util/function/BiFunction"), (.object "java/util/function/BiFunction"), (.object "java/util/function/BiFunction")]
  resolved := Array.replicate 194 none
  statics := some 2 }

def pool12 : Array CpInfo := pool [(9, u "<init>"), (6, .class_ 18), (1, u "java/lang/Object"), (0, u "()V"), (1, .class_ 23), (1, u "jdk/internal/util/ArraysSupport"), (0, u "LOG2_ARRAY_LONG_INDEX_SCALE"), (0, u "I"), (2, u "U"), (0, u "Ljdk/internal/misc/Unsafe;"), (8, u "BIG_ENDIAN"), (0, u "Z"), (8, u "LOG2_BYTE_BIT_SIZE"), (4, u "LOG2_ARRAY_INT_INDEX_SCALE"), (54, u "JLA"), (0, u "Ljdk/internal/access/JavaLangAccess;"), (11, u "LOG2_ARRAY_BOOLEAN_INDEX_SCALE"), (9, u "LOG2_ARRAY_BYTE_INDEX_SCALE"), (5, u "LOG2_ARRAY_CHAR_INDEX_SCALE"), (5, u "LOG2_ARRAY_SHORT_INDEX_SCALE"), (18, u "LOG2_ARRAY_FLOAT_INDEX_SCALE"), (24, u "LOG2_ARRAY_DOUBLE_INDEX_SCALE"), (89, u "T_BOOLEAN"), (2, u "T_CHAR"), (1, u "T_FLOAT"), (1, u "T_DOUBLE"), (1, u "T_BYTE"), (1, u "T_SHORT"), (1, u "T_INT"), (1, u "T_LONG"), (1, u "SOFT_MAX_ARRAY_LENGTH")] 83

def k12m0 : Method := { name := "<init>", desc := "()V", sig := { parameters := [], returnType := none }, accessFlags := 2, code := none }
/-- jdk/internal/util/ArraysSupport -/
def k12 : Class := { plain "jdk/internal/util/ArraysSupport" (some 0) with
  accessFlags := 33
  interfaces := #[]
  cf := some (fileOf pool12 21 #[] #[{ accessFlags := 2, nameIndex := 9, descriptorIndex := 19, attributes := #[] }] 33 16 #[] #[{ accessFlags := 24, nameIndex := 28, descriptorIndex := 29, attributes := #[] }, { accessFlags := 26, nameIndex := 38, descriptorIndex := 39, attributes := #[] }, { accessFlags := 25, nameIndex := 121, descriptorIndex := 25, attributes := #[] }, { accessFlags := 25, nameIndex := 131, descriptorIndex := 25, attributes := #[] }, { accessFlags := 25, nameIndex := 137, descriptorIndex := 25, attributes := #[] }, { accessFlags := 25, nameIndex := 143, descriptorIndex := 25, attributes := #[] }, { accessFlags := 25, nameIndex := 53, descriptorIndex := 25, attributes := #[] }, { accessFlags := 25, nameIndex := 24, descriptorIndex := 25, attributes := #[] }, { accessFlags := 25, nameIndex := 162, descriptorIndex := 25, attributes := #[] }, { accessFlags := 25, nameIndex := 187, descriptorIndex := 25, attributes := #[] }, { accessFlags := 26, nameIndex := 48, descriptorIndex := 25, attributes := #[] }, { accessFlags := 25, nameIndex := 277, descriptorIndex := 25, attributes := #[] }, { accessFlags := 25, nameIndex := 280, descriptorIndex := 25, attributes := #[] }, { accessFlags := 25, nameIndex := 282, descriptorIndex := 25, attributes := #[] }, { accessFlags := 25, nameIndex := 284, descriptorIndex := 25, attributes := #[] }, { accessFlags := 25, nameIndex := 286, descriptorIndex := 25, attributes := #[] }, { accessFlags := 25, nameIndex := 288, descriptorIndex := 25, attributes := #[] }, { accessFlags := 25, nameIndex := 290, descriptorIndex := 25, attributes := #[] }, { accessFlags := 25, nameIndex := 292, descriptorIndex := 25, attributes := #[] }, { accessFlags := 26, nameIndex := 108, descriptorIndex := 109, attributes := #[] }, { accessFlags := 25, nameIndex := 294, descriptorIndex := 25, attributes := #[] }])
  fields := #[{ name := "U", type := (.object "jdk/internal/misc/Unsafe"), accessFlags := 24, slot := 0, constantValue := 0 }, { name := "BIG_ENDIAN", type := .boolean, accessFlags := 26, slot := 1, constantValue := 0 }, { name := "LOG2_ARRAY_BOOLEAN_INDEX_SCALE", type := .int, accessFlags := 25, slot := 2, constantValue := 0 }, { name := "LOG2_ARRAY_BYTE_INDEX_SCALE", type := .int, accessFlags := 25, slot := 3, constantValue := 0 }, { name := "LOG2_ARRAY_CHAR_INDEX_SCALE", type := .int, accessFlags := 25, slot := 4, constantValue := 0 }, { name := "LOG2_ARRAY_SHORT_INDEX_SCALE", type := .int, accessFlags := 25, slot := 5, constantValue := 0 }, { name := "LOG2_ARRAY_INT_INDEX_SCALE", type := .int, accessFlags := 25, slot := 6, constantValue := 0 }, { name := "LOG2_ARRAY_LONG_INDEX_SCALE", type := .int, accessFlags := 25, slot := 7, constantValue := 0 }, { name := "LOG2_ARRAY_FLOAT_INDEX_SCALE", type := .int, accessFlags := 25, slot := 8, constantValue := 0 }, { name := "LOG2_ARRAY_DOUBLE_INDEX_SCALE", type := .int, accessFlags := 25, slot := 9, constantValue := 0 }, { name := "LOG2_BYTE_BIT_SIZE", type := .int, accessFlags := 26, slot := 10, constantValue := 0 }, { name := "T_BOOLEAN", type := .int, accessFlags := 25, slot := 11, constantValue := 0 }, { name := "T_CHAR", type := .int, accessFlags := 25, slot := 12, constantValue := 0 }, { name := "T_FLOAT", type := .int, accessFlags := 25, slot := 13, constantValue := 0 }, { name := "T_DOUBLE", type := .int, accessFlags := 25, slot := 14, constantValue := 0 }, { name := "T_BYTE", type := .int, accessFlags := 25, slot := 15, constantValue := 0 }, { name := "T_SHORT", type := .int, accessFlags := 25, slot := 16, constantValue := 0 }, { name := "T_INT", type := .int, accessFlags := 25, slot := 17, constantValue := 0 }, { name := "T_LONG", type := .int, accessFlags := 25, slot := 18, constantValue := 0 }, { name := "JLA", type := (.object "jdk/internal/access/JavaLangAccess"), accessFlags := 26, slot := 19, constantValue := 0 }, { name := "SOFT_MAX_ARRAY_LENGTH", type := .int, accessFlags := 25, slot := 20, constantValue := 0 }]
  methods := #[k12m0]
  instanceTypes := #[]
  staticTypes := #[(.object "jdk/internal/misc/Unsafe"), .boolean, .int, .int, .int, .int, .int, .int, .int, .int, .int, .int, .int, .int, .int, .int, .int, .int, .int, (.object "jdk/internal/access/JavaLangAccess"), .int]
  resolved := Array.replicate 378 none
  statics := none }

def pool13 : Array CpInfo := pool [(1, u "java/lang/Cloneable"), (0, .class_ 1), (0, u "java/lang/Object"), (0, .class_ 3)] 3

/-- java/lang/Cloneable -/
def k13 : Class := { plain "java/lang/Cloneable" (some 0) with
  accessFlags := 1537
  interfaces := #[]
  cf := some (fileOf pool13 2 #[] #[] 1537 4 #[] #[])
  fields := #[]
  methods := #[]
  instanceTypes := #[]
  staticTypes := #[]
  resolved := Array.replicate 8 none
  statics := none }

/-- the primitive byte -/
def k14 : Class := { plain "byte" none with kind := .primitive 'B', accessFlags := 0x411 }
/-- [B -/
def k15 : Class := { plain "[B" (some 0) with kind := .array 14 .byte, interfaces := #[13, 4], accessFlags := 1041 }

def heap : Heap := #[{ cls := 6, slots := #[.ref 3, .ref 9, .ref 4, .null], vm := .statics 6 },
  { cls := 9, slots := #[.long 0, .int 1, .null, .int 0, .null, .int 0, .int 0], vm := .statics 9 },
  { cls := 11, slots := #[.null, .null, .null], vm := .statics 11 },
  { cls := 6, slots := #[.null, .int 0, .int 0, .ref 5, .null], vm := .none },
  { cls := 6, slots := #[.null, .int 2, .int 0, .ref 7, .null], vm := .none },
  { cls := 9, slots := #[.ref 6, .int 0, .int 0, .int 0], vm := .none },
  { cls := 15, slots := #[.int 99, .int 108, .int 97, .int 115, .int 115], vm := .none },
  { cls := 9, slots := #[.ref 8, .int 0, .int 0, .int 0], vm := .none },
  { cls := 15, slots := #[.int 100, .int 97, .int 116, .int 97, .int 116, .int 121, .int 112, .int 101, .int 32, .int 112, .int 114, .int 111, .int 112, .int 101, .int 114, .int 116, .int 121], vm := .none },
  { cls := 6, slots := #[.null, .int 1, .int 0, .ref 10, .null], vm := .none },
  { cls := 9, slots := #[.ref 11, .int 0, .int 0, .int 0], vm := .none },
  { cls := 15, slots := #[.int 111, .int 98, .int 106, .int 101, .int 99, .int 116, .int 32, .int 112, .int 114, .int 111, .int 112, .int 101, .int 114, .int 116, .int 121], vm := .none }]
def classes : Array Class := #[k0, k1, k2, k3, k4, k5, k6, k7, k8, k9, k10, k11, k12, k13, k14, k15]
def interned : List (Array UInt16 × Addr) := []
def slotsUsed : Nat := 78
def theMethod : MethodId := ⟨1, 1⟩
def args0 : Array Value := #[.int 5]
def aboutOver (below : List Frame) : State where
  vm := { classes := classes, interned := interned.toArray }
  heap := heap
  slotsUsed := slotsUsed
  threads := #[{ frames := .invoking theMethod args0 :: below }]
def below0 : List Frame := [.native { method := ⟨0, 0⟩, args := #[] }]
def about1 : State := aboutOver below0
def p0 : Program := .bare "" "" ""
def e0 : Env := launch0.env 0 0 0
theorem w_frames : about1.frames = Frame.invoking theMethod args0 :: below0 := rfl
set_option maxRecDepth 65536 in
theorem w_args : argsFit about1.vm theMethod args0 = true := by decide +kernel
set_option maxRecDepth 65536 in
theorem w_heap : heapFits about1 = true := by decide +kernel
set_option maxRecDepth 65536 in
theorem w_runnable : about1.curStatus? = some .runnable := by decide +kernel
set_option maxRecDepth 65536 in
theorem w_alone : about1.alone = true := by decide +kernel
set_option maxRecDepth 65536 in
theorem w_named : about1.methodNamed? x = some theMethod := by decide +kernel
set_option maxRecDepth 65536 in
theorem w_hears : about1.hears theMethod below0 = true := by decide +kernel
set_option maxRecDepth 65536 in
theorem w_ripe : about1.ripe theMethod args0 below0 = true := by decide +kernel
theorem w_running : about1.status = .running := rfl
set_option maxRecDepth 65536 in
theorem w_room : about1.hasRoom e0.platform room_1 = true :=
  launch0.hasRoom_least _ room_1 (by decide +kernel) (by decide +kernel) (by decide +kernel) (by decide +kernel) (by decide +kernel) (by decide +kernel)
theorem allAtoms_all (ts : List Jvm.Cond) (a : Array Jvm.Value) (st : Jvm.State) : (allAtoms ts).before a st = ts.all (fun c => c.before a st) := by
  induction ts with
  | nil => rfl
  | cons c t ih =>
    show (Jvm.Cond.and c (allAtoms t)).before a st = _
    rw [Jvm.Cond.before_and, ih, List.all_cons]
def words1 : List Jvm.Cond := Jvm.Cond.code x code maxLocals ret :: tables_1
/-- a 'code' word, met by the world's own term for the bytes: nothing is compared byte by byte -/
theorem code_word {y : MethodName} {bytes : ByteArray} {mx : Nat} {rt : Option FieldType} {a : Array Value} {s : State} {m : MethodId} {meth : Method} {c : Code} (h1 : s.methodNamed? y = some m) (h2 : s.vm.method? m = some meth) (h3 : meth.code = some c) (h4 : c.code = bytes)
    (h5 : (c.maxLocals == mx && c.exceptionTable.isEmpty && decide (c.maxStack ≤ mostOperands) && decide (meth.sig.returnType = rt) && !meth.locks && decide (parseMethodDescriptor y.desc = some meth.sig)) = true) : (Jvm.Cond.code y bytes mx rt).before a s = true := by
  simp only [Bool.and_eq_true, beq_iff_eq, Bool.not_eq_true', decide_eq_true_eq] at h5
  obtain ⟨⟨⟨⟨⟨g1, g2⟩, g3⟩, g4⟩, g5⟩, g6⟩ := h5
  simp [Cond.before, Cond.holds, Cond.value, h1, h2, h3, h4, g1, g2, g3, g4, g5, g6]
def isCode : Jvm.Cond → Bool
  | .code _ _ _ _ => true
  | _ => false
theorem all_split {L : List Jvm.Cond} {P : Jvm.Cond → Bool} (h1 : L.all (fun c => isCode c || P c) = true) (h2 : ∀ c ∈ L.filter isCode, P c = true) : L.all P = true := by
  refine List.all_eq_true.mpr fun c hc => ?_
  have h := List.all_eq_true.mp h1 c hc
  rcases Bool.eq_false_or_eq_true (isCode c) with hi | hi
  · exact h2 c (List.mem_filter.mpr ⟨hc, hi⟩)
  · simpa [hi] using h
set_option maxRecDepth 65536 in
theorem w_c0 : (Jvm.Cond.code x code maxLocals ret).before args0 about1 = true := code_word (m := ⟨1, 1⟩) (meth := k1m1) (c := k1c1) (by decide +kernel) rfl rfl rfl (by decide +kernel)
set_option maxRecDepth 65536 in
theorem w_c1 : (Jvm.Cond.code ({ cls := "com/example/boxwright/boxwright/Kind", name := "holdsLiteral", desc := "()Z" } : Jvm.MethodName) prog_8_method_6_code (1 : Nat) (Option.some Jvm.ClassFile.FieldType.boolean)).before args0 about1 = true := code_word (m := ⟨6, 1⟩) (meth := k6m1) (c := k6c1) (by decide +kernel) rfl rfl rfl (by decide +kernel)
set_option maxRecDepth 65536 in
theorem w_c2 : (Jvm.Cond.code ({ cls := "com/example/boxwright/boxwright/Kind", name := "label", desc := "()Ljava/lang/String;" } : Jvm.MethodName) prog_8_method_4_code (1 : Nat) (Option.some (Jvm.ClassFile.FieldType.object "java/lang/String"))).before args0 about1 = true := code_word (m := ⟨6, 0⟩) (meth := k6m0) (c := k6c0) (by decide +kernel) rfl rfl rfl (by decide +kernel)
set_option maxRecDepth 65536 in
theorem w_c3 : (Jvm.Cond.code ({ cls := "java/lang/String", name := "equals", desc := "(Ljava/lang/Object;)Z" } : Jvm.MethodName) jdk_42_method_66_code (3 : Nat) (Option.some Jvm.ClassFile.FieldType.boolean)).before args0 about1 = true := code_word (m := ⟨9, 1⟩) (meth := k9m1) (c := k9c1) (by decide +kernel) rfl rfl rfl (by decide +kernel)
set_option maxRecDepth 65536 in
theorem w_c4 : (Jvm.Cond.code ({ cls := "java/lang/StringLatin1", name := "equals", desc := "([B[B)Z" } : Jvm.MethodName) jdk_43_method_13_code (3 : Nat) (Option.some Jvm.ClassFile.FieldType.boolean)).before args0 about1 = true := code_word (m := ⟨10, 1⟩) (meth := k10m1) (c := k10c1) (by decide +kernel) rfl rfl rfl (by decide +kernel)
def codes1 : List Jvm.Cond := [Jvm.Cond.code x code maxLocals ret, Jvm.Cond.code ({ cls := "com/example/boxwright/boxwright/Kind", name := "holdsLiteral", desc := "()Z" } : Jvm.MethodName) prog_8_method_6_code (1 : Nat) (Option.some Jvm.ClassFile.FieldType.boolean), Jvm.Cond.code ({ cls := "com/example/boxwright/boxwright/Kind", name := "label", desc := "()Ljava/lang/String;" } : Jvm.MethodName) prog_8_method_4_code (1 : Nat) (Option.some (Jvm.ClassFile.FieldType.object "java/lang/String")), Jvm.Cond.code ({ cls := "java/lang/String", name := "equals", desc := "(Ljava/lang/Object;)Z" } : Jvm.MethodName) jdk_42_method_66_code (3 : Nat) (Option.some Jvm.ClassFile.FieldType.boolean), Jvm.Cond.code ({ cls := "java/lang/StringLatin1", name := "equals", desc := "([B[B)Z" } : Jvm.MethodName) jdk_43_method_13_code (3 : Nat) (Option.some Jvm.ClassFile.FieldType.boolean)]
set_option maxRecDepth 65536 in
theorem codes_eq : words1.filter isCode = codes1 := rfl
theorem w_codes : ∀ c ∈ words1.filter isCode, c.before args0 about1 = true := by
  rw [codes_eq]
  intro c hc
  simp only [codes1, List.mem_cons, List.not_mem_nil, or_false] at hc
  rcases hc with rfl | rfl | rfl | rfl | rfl
  · exact w_c0
  · exact w_c1
  · exact w_c2
  · exact w_c3
  · exact w_c4
set_option maxRecDepth 65536 in
theorem w_t1 : (words1.take 24).all (fun c => isCode c || c.before args0 about1) = true := by decide +kernel
set_option maxRecDepth 65536 in
theorem w_t2 : (words1.drop 24).all (fun c => isCode c || c.before args0 about1) = true := by decide +kernel
theorem w_tables : (allAtoms (Jvm.Cond.code x code maxLocals ret :: tables_1)).before args0 about1 = true := by
  rw [allAtoms_all]
  show words1.all (fun c => c.before args0 about1) = true
  refine all_split ?_ w_codes
  rw [← List.take_append_drop 24 words1, List.all_append, w_t1, w_t2]
  rfl
set_option maxRecDepth 65536 in
theorem w_rest : rest_1_c.before args0 about1 = true := by decide +kernel
set_option maxRecDepth 65536 in
theorem w_case : (Jvm.Cond.and given_1 narrow_1).before args0 about1 = true := by decide +kernel
set_option maxRecDepth 65536 in
theorem w_consts : constsHeld consts_1 about1 := Jvm.Lit.constsHeldB_iff.mp (by decide +kernel)
theorem w_applies : (headSpec (Jvm.Cond.code x code maxLocals ret :: tables_1) room_1).applies x e0.platform about1 = true :=
  (Spec.applies_iff w_frames).mpr ⟨w_running, w_runnable, w_alone, w_named, w_hears, w_ripe, w_room, w_tables⟩
theorem atStart : AtStart classFile x code maxLocals ret World_1 tables_1 room_1 Calls_1 rest_1 Pre_1 launch0 p0 e0 about1 theMethod args0 below0 :=
  ⟨lists_1, trivial, launch0.admits_env _ _ _, launch0.least_env, fairChoices_fair.cas, fairChoices_fair.clock, w_frames, w_args, w_heap, w_applies, ⟨w_consts, trivial⟩, w_rest, w_case⟩
end start1
theorem witness_1 : WitnessClaimed_1 := ⟨start1.p0, start1.e0, start1.about1, start1.theMethod, start1.args0, start1.below0, start1.atStart⟩
end Jvm.Pilot.@@N@@
