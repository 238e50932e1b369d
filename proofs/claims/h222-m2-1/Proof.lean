import JvmDerived
import JvmDerived.Pilot.@@N@@Statement
import JvmDerived.Pilot.@@N@@Code
set_option linter.unusedVariables false
set_option linter.unusedSimpArgs false
namespace Jvm.Pilot.@@N@@
open Jvm Jvm.ClassFile Sem Op Lib Jvm.Free Jvm.Stand Jvm.LawKit Jvm.RoadKit Bundle Jvm.Pilot.@@N@@.Jvm.D
theorem own_irr (x : Int32) : ¬ x < x := fun h => absurd (Int32.lt_iff_toInt_lt.mp h) (by omega)
theorem own_nn (x : Int32) : ¬ ((x &&& (2147483647 : Int32)) < (0 : Int32)) := fun h => by
  have h1 := Int32.lt_iff_toInt_lt.mp h
  have h2 := (c_and x 2147483647 (by decide)).1
  have h3 : (0 : Int32).toInt = 0 := rfl
  omega
def own_min (a b : Int32) : Int32 := if b < a then b else a
def own_max (a b : Int32) : Int32 := if a < b then b else a
theorem own_mm (a b : Int32) : ¬ (own_max a b < own_min a b) := fun h => by
  have h := Int32.lt_iff_toInt_lt.mp h
  unfold own_max own_min at h
  split at h <;> split at h <;> (simp only [Int32.lt_iff_toInt_lt] at *; omega)
theorem own_min_nn {a b : Int32} (ha : ¬ a < (0 : Int32)) (hb : ¬ b < (0 : Int32)) : ¬ (own_min a b < (0 : Int32)) := by unfold own_min; split <;> assumption
theorem own_max_nn {a b : Int32} (ha : ¬ a < (0 : Int32)) (hb : ¬ b < (0 : Int32)) : ¬ (own_max a b < (0 : Int32)) := by unfold own_max; split <;> assumption
theorem own_mod {x d k : Int32} {D : Int} (hd : d.toInt = D) (hD : 0 < D) (h : (x &&& (2147483647 : Int32)) % d = k) : 0 ≤ k.toInt ∧ k.toInt < D := by
  have h1 := (c_and x 2147483647 (by decide)).1
  have h2 := (c_irem (x &&& 2147483647) d D hd).1 h1
  rw [h] at h2
  rw [h2]
  exact ⟨Int.emod_nonneg _ (by omega), Int.emod_lt_of_pos _ hD⟩
theorem own_ne {k : Int32} (n : Nat) (hc : (Int32.ofNat n).toInt = (n : Int)) (h : ¬ k = Int32.ofNat n) : k.toInt ≠ (n : Int) := fun q => h (Int32.toInt_inj.mp (q.trans hc.symm))
theorem own_r255 {x c : Int32} (h : (x &&& (255 : Int32)) = c) : ¬ (c < (0 : Int32)) ∧ ¬ ((255 : Int32) < c) := by
  have h1 := c_and x 255 (by decide)
  rw [h] at h1
  have e1 : (255 : Int32).toInt = 255 := rfl
  have e0 : (0 : Int32).toInt = 0 := rfl
  simp only [Int32.lt_iff_toInt_lt]
  omega
theorem own_narc {c : Int32} (h : ¬ (c < (0 : Int32)) ∧ ¬ ((255 : Int32) < c)) : nar .char c = c := by
  have e1 : (255 : Int32).toInt = 255 := rfl
  have e0 : (0 : Int32).toInt = 0 := rfl
  have h1 := h.1
  have h2 := h.2
  simp only [Int32.lt_iff_toInt_lt] at h1 h2
  have h3 := c_i2c c
  apply Int32.toInt_inj.mp
  show c.toUInt32.toUInt16.toUInt32.toInt32.toInt = c.toInt
  omega
theorem own_fitc {c : Int32} (h : ¬ (c < (0 : Int32)) ∧ ¬ ((255 : Int32) < c)) : fits .char (.int c) = true := by
  have q := fits_nar_char c
  rw [own_narc h] at q
  exact q
theorem own_b8 (x : Int32) : x.toInt8.toInt32.toInt8.toInt32 = x.toInt8.toInt32 := Int32.toInt_inj.mp (by have a := c_i2b x; have b := c_i2b x.toInt8.toInt32; omega)
theorem own_shr0 (x : Int32) : x >>> ((0 : Int32) &&& 31) = x := Int32.toInt_inj.mp (by rw [c_ishr x 0 0 (by decide)]; simp)
theorem own_nar255 (x : Int32) : nar .char ((x &&& (255 : Int32)).toUInt32.toUInt16.toUInt32.toInt32) = x &&& (255 : Int32) := by rw [i2c_mask]; exact i2c_mask x
/-- from here the run comes to an end at which Q holds, at most so many cells and slots made -/
def own_Go (p : Program) (e : Env) (below : List Frame) (s : State) (Q : Option Value → Heap → List Loc → Prop) (C S : Nat) (A : State) : Prop :=
  ∃ s₂ o, Steps p.tables e below A s₂ ∧ s₂.status = .running ∧ Ended s₂ below o ∧ ∃ v L, o = .returned v ∧ Q v s₂.heap L ∧ FrameEnd s o s₂ L C S
theorem own_go {p : Program} {e : Env} {below : List Frame} {s : State} {Q : Option Value → Heap → List Loc → Prop} {C S : Nat} {A B : State} (k : ∀ t, Steps p.tables e below B t → Steps p.tables e below A t) (h : own_Go p e below s Q C S B) : own_Go p e below s Q C S A := by
  obtain ⟨s₂, o, h1, h2⟩ := h
  exact ⟨s₂, o, k _ h1, h2⟩
theorem own_fin {p : Program} {l : Launch} {e : Env} {R : Room} {s : State} {m : MethodId} {args : Array Value} {below : List Frame} {meth : Method} {c : Code} {T : State} {locs : List Loc} {cells slots : Nat} {Q : Option Value → Heap → List Loc → Prop} {C S : Nat} {A : State} {v : Option Value}
    (X : Stand p l e R s m args below meth c T locs cells slots) (hlocks : meth.locks = false) (hv : meth.sig.returnType = none → v = none)
    (st : ∀ fs, (∀ (f : JFrame) (acts : List Action), f.method = m → f.locked = none → f.entered = [] → (doReturn e (T.setTop f) acts v).1 = T.setFrames fs) → Steps p.tables e below A (T.setFrames fs))
    (hQ : Q v T.heap locs) (hc : cells ≤ C) (hs : slots ≤ S) : own_Go p e below s Q C S A := by
  obtain ⟨fs, hr, hrun, hended, hW, hsame⟩ := X.leave (v := v) hv hlocks
  exact ⟨_, _, st fs hr, hrun, hended, _, _, rfl, hQ, ⟨_, rfl⟩, hW, hsame.mono hc hs⟩
theorem own_eqI {args : Array Value} {first s : State} {o : Option Outcome} {idx : List Nat} {t : Term} {k : Int32} (h : (Jvm.Cond.eq t (.int k)).value args first o s idx = some true) : t.eval args first o idx s = some (.int k) := by
  obtain ⟨x, y, h1, h2, hk, hk'⟩ := cmp_v (Or.inl h)
  have e2 : y = .int k := (Option.some.inj ((Term.int_eval k).symm.trans h2)).symm
  subst e2
  obtain ⟨z, rfl⟩ := hk'
  simp only [Cond.value, h1, h2] at h
  have hz : z = k := by simpa using h
  rw [h1, hz]
theorem own_eqR {args : Array Value} {first s : State} {o : Option Outcome} {idx : List Nat} {t u : Term} {a : Addr} (h : (Jvm.Cond.eq t u).value args first o s idx = some true) (hu : u.eval args first o idx s = some (.ref a)) : t.eval args first o idx s = some (.ref a) := by
  obtain ⟨x, y, h1, h2, hk, hk'⟩ := cmp_v (Or.inl h)
  cases hu.symm.trans h2
  rw [h1, gotT (eq_R h1 hu hk'.2 rfl) h]
theorem own_len {args : Array Value} {s : State} {t : Term} {a : Addr} {cl : Cell} {k : Int32} {ty : FieldType} (h : (Term.length t).eval args s none [] s = some (.int k)) (ht : t.eval args s none [] s = some (.ref a)) (A : Arr s s.heap a cl ty) : cl.slots.size < 2 ^ 31 ∧ cl.slots.size.toInt32 = k := by
  have ha := A.fin (Vm.Alike.refl _)
  simp only [Term.eval, ht, ha, Option.bind_eq_bind, Option.bind_some] at h
  by_cases q : cl.slots.size < 2 ^ 31
  · simp [q] at h; exact ⟨q, h⟩
  · simp [q] at h
abbrev own_EL : List (String × Nat) := consts_1
/-- the same with String constants loaded on the way (RW14's invariant, kept) -/
def own_GoW (p : Program) (e : Env) (below : List Frame) (s Z : State) (Q : Option Value → Heap → List Loc → Prop) (C S : Nat) (A : State) : Prop :=
  ∃ s₂ o, Steps p.tables e below A s₂ ∧ s₂.status = .running ∧ Ended s₂ below o ∧ ∃ v L, o = .returned v ∧ Q v s₂.heap L ∧ CHr Z own_EL s.vm s.heap s₂.vm s₂.heap ∧ ReturnedEndW s o s₂ L C S
theorem own_goW {p : Program} {e : Env} {below : List Frame} {s Z : State} {Q : Option Value → Heap → List Loc → Prop} {C S : Nat} {A B : State} (k : ∀ t, Steps p.tables e below B t → Steps p.tables e below A t) (h : own_GoW p e below s Z Q C S B) : own_GoW p e below s Z Q C S A := by
  obtain ⟨s₂, o, h1, h2⟩ := h
  exact ⟨s₂, o, k _ h1, h2⟩
theorem own_finW {p : Program} {l : Launch} {e : Env} {R : Room} {s Z : State} {vm1 : Vm} {k0 : Nat} {m : MethodId} {args : Array Value} {below : List Frame} {meth : Method} {c : Code} {T : State} {locs : List Loc} {cells slots : Nat} {Q : Option Value → Heap → List Loc → Prop} {C S : Nat} {A : State} {v : Option Value}
    (X : Stand p l e R (s.setVm vm1) m args below meth c T locs cells slots) (hS : s.Since vm1 k0) (hk : k0 ≤ T.heap.size) (hR : CHr Z own_EL s.vm s.heap T.vm T.heap) (hlocks : meth.locks = false) (hv : meth.sig.returnType = none → v = none)
    (st : ∀ fs, (∀ (f : JFrame) (acts : List Action), f.method = m → f.locked = none → f.entered = [] → (doReturn e (T.setTop f) acts v).1 = T.setFrames fs) → Steps p.tables e below A (T.setFrames fs))
    (hQ : Q v T.heap locs) (hc : cells ≤ C) (hs : slots ≤ S) : own_GoW p e below s Z Q C S A := by
  obtain ⟨fs, hr, hrun, hended, h1, h2, h3, h4⟩ := X.leaveW hS hk (v := v) hv hlocks
  exact ⟨_, _, st fs hr, hrun, hended, _, _, rfl, hQ, hR, h1, h2, h3, h4.mono hc hs⟩
/-- a callee that loads String constants, paid at a call: the invariant from the caller's tables on -/
theorem own_backW {p : Program} {l : Launch} {e : Env} {R : Room} {s : State} {args : Array Value} {below : List Frame} {Z : State} {a0 : Array Value} {h : Heap} {vm0 : Vm} {y : MethodName} {bytes : ByteArray} {maxL : Nat} {ret : Option FieldType} {rm : Room} {len W : Nat} {as' : Array Value} {Q : Option Value → Heap → List Loc → Prop}
    (hM : MetFree l y (head1 [Jvm.Cond.code y bytes maxL ret] rm) (fun a U => a = as' ∧ Z.Warmed39 U.vm ∧ U.heap = h ∧ CHr Z own_EL vm0 h U.vm h) (fun _ _ _ _ _ => True) (fun _ U o U' => ∃ v L, o = .returned v ∧ Q v U'.heap L ∧ CHr Z own_EL U.vm U.heap U'.vm U'.heap ∧ ReturnedEndW U o U' L rm.cells rm.slots))
    (hZ : Z.Warmed39 vm0) (wc : (Jvm.Cond.code y bytes maxL ret).before a0 Z = true) (wz : (Jvm.Cond.initialized y.cls).before a0 Z = true) (hf : rm.frames + 1 ≤ R.frames) (hl : W + (maxL + 11) + rm.locals ≤ R.locals) (hEL : EW Z a0 own_EL) (H : CHv Z own_EL vm0 h) :
    BackS l R p e below (s.setVm vm0) args y len W (fun A a => a = as' ∧ A.U.heap = h ∧ A.cells + rm.cells ≤ R.cells ∧ A.slots + rm.slots ≤ R.slots)
      (fun A _ v B => ∃ L, Q v B.U.heap L ∧ B.locs = A.locs ++ L ∧ B.cells = A.cells + rm.cells ∧ B.slots = A.slots + rm.slots ∧ CHr Z own_EL vm0 h B.U.vm B.U.heap) := by
  refine BackS.of_freeW (bytes := bytes) (maxL := maxL) (ret := ret) (E := fun _ first o t L k n => k = rm.cells ∧ n = rm.slots ∧ (∃ v, o = .returned v ∧ Q v t.heap L) ∧ CHr Z own_EL first.vm first.heap t.vm t.heap) hM hf hl ?_ ?_ ?_ ?_ ?_
  · intro m meth c A a Y hp
    have hU : Z.Warmed39 A.U.vm := wtrans (s := s.setVm vm0) hZ Y.warmed
    exact ⟨by show (Jvm.Cond.and _ .tt).before a A.U = true; rw [Cond.before_and, mv hU wc]; rfl, mv hU wc, mv hU wz, hp.2.2.1, hp.2.2.2⟩
  · intro m meth c A a g mk Y hp
    exact ⟨hp.1, wtrans (s := s.setVm vm0) hZ Y.warmed, hp.2.1, (show CHr Z own_EL vm0 h A.U.vm h from CHv.at Y hZ hEL H)⟩
  · intro _ _ _ _ _ _ _ _ _
    trivial
  · rintro _ _ _ _ ⟨v, L, h1, h2, h3, h4⟩
    exact ⟨L, _, _, h4, rfl, rfl, ⟨v, h1, h2⟩, h3⟩
  · rintro m meth c A a g mk v t L k n Y hp _ _ ⟨e1, e2, ⟨v', e3, e4⟩, e5⟩
    cases e3
    subst e1 e2
    refine ⟨L, e4, rfl, rfl, rfl, (show CHr Z own_EL vm0 h A.U.vm h from CHv.at Y hZ hEL H).trans ?_⟩
    rw [← hp.2.1]
    exact e5
theorem own_safe_arv {Z : State} {EL : List (String × Nat)} {vm : Vm} {h : Heap} {a : Addr} {k : ClassId} {ty : FieldType} {z : Int32} {vs : List Value} {d : Value} (hal : Z.vm.Alike vm) (V : Arv Z h a k ty z vs d) (ht : ty ≠ .byte) : Safe Z EL vm h a := by
  obtain ⟨c, A, -⟩ := V
  exact Safe.arr hal A ht
theorem own_EW (Z : State) (a0 : Array Value) (hw : ∀ d ∈ tables_1, d.before a0 Z = true) : EW Z a0 own_EL := (EW.cons (hw _ (List.mem_of_getElem? (i := 20) rfl)) (by decide +kernel) EW.nil)
theorem own_wS (Z : State) (a0 : Array Value) (hw : ∀ d ∈ tables_1, d.before a0 Z = true) : ∀ a ∈ Bundle.stringAtoms, a.before a0 Z = true := fun d hd => hw d ((by decide +kernel : ∀ d ∈ Bundle.stringAtoms, d ∈ tables_1) d hd)
theorem own_ofNat {q : Nat} (h : q < 2147483648) : (Int32.ofNat q).toInt = q ∧ (Int32.ofNat q).toNatClampNeg = q := by
  have e : (Int32.ofNat q).toInt = q := Int32.toInt_ofNat_small (by omega)
  exact ⟨e, by show (Int32.ofNat q).toInt.toNat = q; rw [e]; rfl⟩
theorem own_idx {q n : Nat} {N : Int32} (hN : N.toNatClampNeg = n) (hN0 : ¬ N < 0) (hq : q < n) : (¬ (Int32.ofNat q < (0 : Int32)) ∧ Int32.ofNat q < N) ∧ (Int32.ofNat q).toNatClampNeg = q := by
  have h1 := nat_of hN0
  have h2 := (rng32 N).2
  have h3 := own_ofNat (q := q) (by omega)
  refine ⟨⟨fun h => ?_, ?_⟩, h3.2⟩
  · have h4 := Int32.lt_iff_toInt_lt.mp h
    rw [h3.1] at h4
    have e0 : (0 : Int32).toInt = 0 := rfl
    omega
  · rw [Int32.lt_iff_toInt_lt, h3.1, h1, hN]; omega
theorem own_past {n : Nat} {N : Int32} (hN : N.toNatClampNeg = n) (hN0 : ¬ N < 0) : ¬ (Int32.ofNat n < N) := fun h => by
  have h1 := nat_of hN0
  have h2 := (rng32 N).2
  have h3 := own_ofNat (q := n) (by omega)
  have h4 := Int32.lt_iff_toInt_lt.mp h
  rw [h3.1, h1, hN] at h4
  omega
theorem own_incr {q n : Nat} {N : Int32} (hN : N.toNatClampNeg = n) (hN0 : ¬ N < 0) (hq : q < n) : Int32.ofNat q + (1 : Int32) = Int32.ofNat (q + 1) := by
  have h1 := nat_of hN0
  have h2 := (rng32 N).2
  have h3 := own_ofNat (q := q) (by omega)
  apply Int32.toInt_inj.mp
  have a := c_iadd (Int32.ofNat q) 1
  have b := rng32 (Int32.ofNat q + 1)
  have e1 : (1 : Int32).toInt = 1 := rfl
  by_cases hb : q + 1 < 2147483648
  · rw [(own_ofNat hb).1]; rw [h3.1] at a; omega
  · omega
theorem own_mapget (xs : List Int32) (q : Nat) : (xs.map Value.int).getD q (.int (0 : Int32)) = .int (xs.getD q 0) := by
  simp only [List.getD_eq_getElem?_getD, List.getElem?_map]
  cases xs[q]? <;> rfl
theorem own_listeq {xs ys : List Int32} (hl : xs.length = ys.length) (h : ∀ r, r < xs.length → xs.getD r 0 = ys.getD r 0) : xs = ys := by
  apply List.ext_getElem hl
  intro i h1 h2
  have := h i h1
  simpa [List.getD_eq_getElem?_getD, List.getElem?_eq_getElem h1, List.getElem?_eq_getElem h2] using this
def own_eqv (xs ys : List Int32) : Int32 := if xs = ys then 1 else 0
theorem own_fldeq {Z : State} {h : Heap} {a : Addr} {C n d : String} {v w : Value} (F : Fld Z h a C n d v) (G : Fld Z h a C n d w) : v = w := Classical.byContradiction fun q => Fld.ne F G q rfl
theorem own_same {Z : State} {h : Heap} {t : Addr} {k k' : ClassId} {N N' : Int32} {xs ys : List Int32} (F : Arv Z h t k .byte N (xs.map Value.int) (.int (0 : Int32))) (G : Arv Z h t k' .byte N' (ys.map Value.int) (.int (0 : Int32))) (h1 : N.toNatClampNeg = xs.length) (h2 : N'.toNatClampNeg = ys.length) : xs = ys := by
  obtain ⟨c, A, -, S, -, H, -⟩ := F
  obtain ⟨c', A', -, S', -, H', -⟩ := G
  cases A.1.symm.trans A'.1
  refine own_listeq (by omega) fun r hr => ?_
  have e := (H r (by omega)).symm.trans (H' r (by omega))
  rw [own_mapget, own_mapget] at e
  exact Value.int.inj (Option.some.inj e)
theorem own_nat_inj {N N' : Int32} (h : N.toNatClampNeg = N'.toNatClampNeg) (h0 : ¬ N < 0) (h0' : ¬ N' < 0) : N = N' := by
  apply Int32.toInt_inj.mp
  rw [nat_of h0, nat_of h0', h]
theorem own_an {P : Int32 → Prop} : ∀ c ∈ ([] : List Int32), P c := fun _ q => nomatch q
theorem own_ac {P : Int32 → Prop} {x : Int32} {L : List Int32} (h : P x) (r : ∀ c ∈ L, P c) : ∀ c ∈ x :: L, P c := fun c q => (List.mem_cons.mp q).elim (fun u => u ▸ h) (r c)
theorem own_ltN {n s : Nat} (hn : n < 1000) (hs : s < 1000) : Int32.ofNat n < Int32.ofNat s ↔ n < s := by
  rw [Int32.lt_iff_toInt_lt, (own_ofNat (q := n) (by omega)).1, (own_ofNat (q := s) (by omega)).1]
  omega
theorem own_eqN {n s : Nat} (hn : n < 1000) (hs : s < 1000) : Int32.ofNat n = Int32.ofNat s ↔ n = s := by
  constructor
  · intro h
    have e := congrArg Int32.toInt h
    rw [(own_ofNat (q := n) (by omega)).1, (own_ofNat (q := s) (by omega)).1] at e
    omega
  · intro h; rw [h]
theorem own_nnN {n : Nat} (hn : n < 1000) : ¬ (Int32.ofNat n < (0 : Int32)) := fun h => absurd ((own_ltN (s := 0) hn (by omega)).mp h) (Nat.not_lt_zero n)
theorem own_ltB {n : Nat} (hn : n < 1000) : Int32.ofNat n < (1073741823 : Int32) := by
  have e : (1073741823 : Int32).toInt = 1073741823 := rfl
  rw [Int32.lt_iff_toInt_lt, (own_ofNat (q := n) (by omega)).1, e]
  omega
theorem own_inc (k : Nat) (h : k < 1000) : Int32.ofNat k + (1 : Int32) = Int32.ofNat (k + 1) := by
  apply Int32.toInt_inj.mp
  have a := c_iadd (Int32.ofNat k) 1
  have b := rng32 (Int32.ofNat k + 1)
  have e1 : (1 : Int32).toInt = 1 := rfl
  rw [(own_ofNat (q := k) (by omega)).1] at a
  rw [(own_ofNat (q := k + 1) (by omega)).1]
  omega
theorem own_dbl (k : Nat) (h : k < 1000) : Int32.ofNat k <<< ((1 : Int32) &&& 31) = Int32.ofNat (2 * k) := by
  apply Int32.toInt_inj.mp
  have a := c_ishl (Int32.ofNat k) 1 1 (by decide)
  have b := rng32 (Int32.ofNat k <<< ((1 : Int32) &&& 31))
  rw [(own_ofNat (q := k) (by omega)).1] at a
  rw [(own_ofNat (q := 2 * k) (by omega)).1]
  omega
theorem own_half (k : Nat) (h : k < 1000) : Int32.ofNat (2 * k) >>> ((1 : Int32) &&& 31) = Int32.ofNat k := by
  apply Int32.toInt_inj.mp
  rw [c_ishr (Int32.ofNat (2 * k)) 1 1 (by decide), (own_ofNat (q := 2 * k) (by omega)).1, (own_ofNat (q := k) (by omega)).1]
  omega
theorem own_rep (n : Nat) (i : Nat) : ((List.replicate n (0 : Int32)).map Value.int).getD i (.int (0 : Int32)) = ([] : List Value).getD i (.int (0 : Int32)) := by
  rw [List.map_replicate]
  exact pad_rep [] _ n i
def own_L1 (xs ys : List Int32) (i : Nat) : Prop := ∀ j, j < i → ys.getD j 0 = (xs.getD j 0).toInt8.toInt32 ∧ ¬ ((255 : Int32) < xs.getD j 0)
theorem own_setD (ys : List Int32) (i j : Nat) (v : Int32) (h : i < ys.length) : (ys.set i v).getD j 0 = if j = i then v else ys.getD j 0 := by
  simp only [List.getD_eq_getElem?_getD, List.getElem?_set]
  by_cases q : i = j
  · subst q; simp [h]
  · have q' : ¬ j = i := fun z => q z.symm
    simp [q, q']
theorem own_L1_set {xs ys : List Int32} {i : Nat} (hr : own_L1 xs ys i) (hl : ys.length = xs.length) (hlt : i < xs.length) (hb : ¬ ((255 : Int32) < xs.getD i 0)) : own_L1 xs (ys.set i ((xs.getD i 0).toInt8.toInt32)) (i + 1) := fun j hj => by
  rw [own_setD ys i j _ (by omega)]
  by_cases q : j = i
  · subst q; rw [if_pos rfl]; exact ⟨rfl, hb⟩
  · rw [if_neg q]; exact hr j (by omega)
def own_U (xs zs : List Int32) (i : Nat) : Prop := ∀ j, j < i → zs.getD (2 * j) 0 = ((xs.getD j 0) >>> ((0 : Int32) &&& 31)).toInt8.toInt32 ∧ zs.getD (2 * j + 1) 0 = ((xs.getD j 0) >>> ((8 : Int32) &&& 31)).toInt8.toInt32
theorem own_U_set {xs ys : List Int32} {i : Nat} (hr : own_U xs ys i) (hl : ys.length = 2 * xs.length) (hlt : i < xs.length) : own_U xs ((ys.set (2 * i) (((xs.getD i 0) >>> ((0 : Int32) &&& 31)).toInt8.toInt32)).set (2 * i + 1) (((xs.getD i 0) >>> ((8 : Int32) &&& 31)).toInt8.toInt32)) (i + 1) := fun j hj => by
  rw [own_setD _ (2 * i + 1) (2 * j) _ (by rw [List.length_set]; omega), own_setD _ (2 * i + 1) (2 * j + 1) _ (by rw [List.length_set]; omega), own_setD ys (2 * i) (2 * j) _ (by omega), own_setD ys (2 * i) (2 * j + 1) _ (by omega)]
  by_cases q : j = i
  · subst q
    rw [if_neg (by omega), if_pos rfl, if_pos rfl]
    exact ⟨rfl, rfl⟩
  · rw [if_neg (by omega), if_neg (by omega), if_neg (by omega), if_neg (by omega)]
    exact hr j (by omega)
def own_C (xs zs : List Int32) : Prop := (zs.length = xs.length ∧ own_L1 xs zs xs.length) ∨ (zs.length = 2 * xs.length ∧ own_U xs zs xs.length)
def own_D (xs zs : List Int32) (cd : Int32) : Prop := (cd = 0 ∧ zs.length = xs.length ∧ own_L1 xs zs xs.length) ∨ (cd = 1 ∧ zs.length = 2 * xs.length ∧ own_U xs zs xs.length)
def own_Str (Z : State) (h : Heap) (a : Addr) (xs : List Int32) : Prop := ∃ t kb zs cd, Exa Z h a "java/lang/String" ∧ Fld Z h a "java/lang/String" "value" "[B" (.ref t) ∧ Fld Z h a "java/lang/String" "coder" "B" (.int cd) ∧ Arv Z h t kb .byte (Int32.ofNat zs.length) (zs.map Value.int) (.int (0 : Int32)) ∧ own_D xs zs cd
theorem own_Str_ex {Z : State} {h : Heap} {a : Addr} {xs : List Int32} (S : own_Str Z h a xs) : Exa Z h a "java/lang/String" := by
  obtain ⟨_, _, _, _, E, _⟩ := S
  exact E
def own_R (xs : List Int32) : Prop := ∀ c ∈ xs, ¬ (c < (0 : Int32)) ∧ ¬ ((65535 : Int32) < c)
theorem own_R_at {xs : List Int32} (h : own_R xs) {i : Nat} (hi : i < xs.length) : ¬ (xs.getD i 0 < (0 : Int32)) ∧ ¬ ((65535 : Int32) < xs.getD i 0) := by
  apply h
  rw [List.getD_eq_getElem?_getD, List.getElem?_eq_getElem hi]
  exact List.getElem_mem hi
theorem own_r16 {x c : Int32} (h : x.toUInt32.toUInt16.toUInt32.toInt32 = c) : ¬ (c < (0 : Int32)) ∧ ¬ ((65535 : Int32) < c) := by
  have a := c_i2c x
  rw [h] at a
  have e1 : (65535 : Int32).toInt = 65535 := rfl
  have e0 : (0 : Int32).toInt = 0 := rfl
  simp only [Int32.lt_iff_toInt_lt]
  omega
theorem own_narc16 {c : Int32} (h : ¬ (c < (0 : Int32)) ∧ ¬ ((65535 : Int32) < c)) : nar .char c = c := by
  have e1 : (65535 : Int32).toInt = 65535 := rfl
  have e0 : (0 : Int32).toInt = 0 := rfl
  have h1 := h.1
  have h2 := h.2
  simp only [Int32.lt_iff_toInt_lt] at h1 h2
  have h3 := c_i2c c
  apply Int32.toInt_inj.mp
  show c.toUInt32.toUInt16.toUInt32.toInt32.toInt = c.toInt
  omega
theorem own_fitc16 {c : Int32} (h : ¬ (c < (0 : Int32)) ∧ ¬ ((65535 : Int32) < c)) : fits .char (.int c) = true := by
  have q := fits_nar_char c
  rw [own_narc16 h] at q
  exact q
theorem own_l8 {c : Int32} (h : ¬ (c < (0 : Int32)) ∧ ¬ ((65535 : Int32) < c)) (h' : ¬ ((255 : Int32) < c)) : nar .char (c.toInt8.toInt32 &&& (255 : Int32)) = c := by
  have e1 : (255 : Int32).toInt = 255 := rfl
  have e0 : (0 : Int32).toInt = 0 := rfl
  have e : c.toInt8.toInt32 &&& (255 : Int32) = c := by
    apply Int32.toInt_inj.mp
    have a := c_i2b c
    have b := c_mask c.toInt8.toInt32 255 8 (by decide) (by decide)
    have h1 := h.1
    simp only [Int32.lt_iff_toInt_lt] at h1 h'
    rw [b]
    omega
  rw [e]
  exact own_narc16 h
theorem own_pair {c : Int32} (h : ¬ (c < (0 : Int32)) ∧ ¬ ((65535 : Int32) < c)) : nar .char (((((((c >>> ((0 : Int32) &&& 31)).toInt8.toInt32) &&& (255 : Int32)) <<< ((0 : Int32) &&& 31)) ||| ((((c >>> ((8 : Int32) &&& 31)).toInt8.toInt32) &&& (255 : Int32)) <<< ((8 : Int32) &&& 31)))).toUInt32.toUInt16.toUInt32.toInt32) = c := by
  have e1 : (65535 : Int32).toInt = 65535 := rfl
  have e0 : (0 : Int32).toInt = 0 := rfl
  have h1 := h.1
  have h2 := h.2
  simp only [Int32.lt_iff_toInt_lt] at h1 h2
  generalize hu : ((c >>> ((0 : Int32) &&& 31)).toInt8.toInt32) &&& (255 : Int32) = u
  generalize hv : ((c >>> ((8 : Int32) &&& 31)).toInt8.toInt32) &&& (255 : Int32) = v
  have eu : u.toInt = c.toInt % 256 := by
    rw [← hu, c_mask _ 255 8 (by decide) (by decide), own_shr0]
    have a := c_i2b c
    omega
  have ev : v.toInt = c.toInt / 256 := by
    rw [← hv, c_mask _ 255 8 (by decide) (by decide)]
    have a := c_i2b (c >>> ((8 : Int32) &&& 31))
    have b := c_ishr c 8 8 (by decide)
    omega
  have s0 : u <<< ((0 : Int32) &&& 31) = u := by
    apply Int32.toInt_inj.mp
    have a := c_ishl u 0 0 (by decide)
    have b := rng32 (u <<< ((0 : Int32) &&& 31))
    have b' := rng32 u
    omega
  rw [s0]
  generalize hw : v <<< ((8 : Int32) &&& 31) = w
  have ew : w.toInt = 256 * (c.toInt / 256) := by
    have a := c_ishl v 8 8 (by decide)
    rw [hw] at a
    have b := rng32 w
    omega
  have eo := c_or' u w 8 (by decide) 256 rfl (by omega) (by omega) (by omega)
  have ro := rng32 (u ||| w)
  have ec : u ||| w = c := Int32.toInt_inj.mp (by omega)
  rw [ec]
  have a := own_narc16 h
  rw [show c.toUInt32.toUInt16.toUInt32.toInt32 = c from a]
  exact a
theorem own_cf0 (n : Nat) : nar .byte ((((Int32.ofNat n - Int32.ofNat n).toUInt32 >>> ((31 : Int32) &&& 31).toUInt32).toInt32).toInt8.toInt32) = 0 := by
  rw [Int32.sub_self]
  decide
theorem own_cf1 : ∀ n, n < 5 → 1 ≤ n → nar .byte ((((Int32.ofNat n - Int32.ofNat (2 * n)).toUInt32 >>> ((31 : Int32) &&& 31).toUInt32).toInt32).toInt8.toInt32) = 1 := by decide
def own_fc (c : Int32) : Int32 := if c.toInt = 9 ∨ (32 ≤ c.toInt ∧ c.toInt ≠ 127 ∧ c.toInt ≤ 255) then 1 else 0
theorem own_fcv1 {c : Int32} (h : c.toInt = 9 ∨ (32 ≤ c.toInt ∧ c.toInt ≠ 127 ∧ c.toInt ≤ 255)) : own_fc c = 1 := if_pos h
theorem own_fcv0 {c : Int32} (h : ¬ (c.toInt = 9 ∨ (32 ≤ c.toInt ∧ c.toInt ≠ 127 ∧ c.toInt ≤ 255))) : own_fc c = 0 := if_neg h
theorem own_c9 : (9 : Int32).toInt = 9 := rfl
theorem own_c32 : (32 : Int32).toInt = 32 := rfl
theorem own_c33 : (33 : Int32).toInt = 33 := rfl
theorem own_c126 : (126 : Int32).toInt = 126 := rfl
theorem own_c127 : (127 : Int32).toInt = 127 := rfl
theorem own_c128 : (128 : Int32).toInt = 128 := rfl
theorem own_c255 : (255 : Int32).toInt = 255 := rfl
theorem own_p1 {c : Int32} (h : c = (9 : Int32)) : ¬ (own_fc c = 0) := by
  rw [own_fcv1 (Or.inl (by rw [h]; rfl))]; decide
theorem own_p2 {c : Int32} (h : ¬ (c = (9 : Int32))) (h2 : c < (32 : Int32)) : own_fc c = 0 := by
  simp only [Int32.lt_iff_toInt_lt, ← Int32.toInt_inj, own_c9, own_c32] at h h2
  exact own_fcv0 (by omega)
theorem own_p3 {c : Int32} (h : c = (127 : Int32)) : own_fc c = 0 := by
  simp only [← Int32.toInt_inj, own_c127] at h
  exact own_fcv0 (by omega)
theorem own_p4 {c : Int32} (h : (255 : Int32) < c) : own_fc c = 0 := by
  simp only [Int32.lt_iff_toInt_lt, own_c255] at h
  exact own_fcv0 (by omega)
theorem own_p5 {c : Int32} (h2 : ¬ (c < (32 : Int32))) (h3 : ¬ (c = (127 : Int32))) (h4 : ¬ ((255 : Int32) < c)) : ¬ (own_fc c = 0) := by
  simp only [Int32.lt_iff_toInt_lt, ← Int32.toInt_inj, own_c32, own_c127, own_c255] at h2 h3 h4
  rw [own_fcv1 (Or.inr (by omega))]; decide
def own_all : List Int32 → Int32
  | [] => 1
  | c :: cs => if own_fc c = 0 then 0 else own_all cs
theorem own_all1 : ∀ {xs : List Int32}, (∀ j, j < xs.length → ¬ (own_fc (xs.getD j 0) = 0)) → own_all xs = 1
  | [], _ => rfl
  | c :: cs, h => by
    unfold own_all
    have h0 : ¬ (own_fc c = 0) := h 0 (by simp)
    rw [if_neg h0]
    exact own_all1 (fun j hj => h (j + 1) (by simpa using hj))
theorem own_all0 : ∀ {xs : List Int32}, (∃ j, j < xs.length ∧ own_fc (xs.getD j 0) = 0) → own_all xs = 0
  | [], ⟨j, hj, _⟩ => absurd hj (Nat.not_lt_zero j)
  | c :: cs, ⟨j, hj, q⟩ => by
    unfold own_all
    by_cases u : own_fc c = 0
    · rw [if_pos u]
    · rw [if_neg u]
      cases j with
      | zero => exact absurd q u
      | succ j => exact own_all0 ⟨j, by simpa using hj, q⟩
theorem own_pre {xs : List Int32} {i : Nat} (hr : ∀ j, j < i → ¬ (own_fc (xs.getD j 0) = 0)) (h : ¬ (own_fc (xs.getD i 0) = 0)) : ∀ j, j < i + 1 → ¬ (own_fc (xs.getD j 0) = 0) := fun j hj => by
  by_cases q : j = i
  · rw [q]; exact h
  · exact hr j (by omega)
theorem own_d3_0 : decode jdk_42_method_149_code 0 = .ok (.aload_n 0, 1) := by decide +kernel
theorem own_d3_1 : decode jdk_42_method_149_code 1 = .ok (.invokespecial 1, 3) := by decide +kernel
theorem own_d3_4 : decode jdk_42_method_149_code 4 = .ok (.iload_n 3, 1) := by decide +kernel
theorem own_d3_5 : decode jdk_42_method_149_code 5 = .ok (.ifCond .ne 22, 3) := by decide +kernel
theorem own_d3_8 : decode jdk_42_method_149_code 8 = .ok (.aload_n 0, 1) := by decide +kernel
theorem own_d3_9 : decode jdk_42_method_149_code 9 = .ok (.ldc 7, 2) := by decide +kernel
theorem own_d3_11 : decode jdk_42_method_149_code 11 = .ok (.getfield 9, 3) := by decide +kernel
theorem own_d3_14 : decode jdk_42_method_149_code 14 = .ok (.putfield 9, 3) := by decide +kernel
theorem own_d3_17 : decode jdk_42_method_149_code 17 = .ok (.aload_n 0, 1) := by decide +kernel
theorem own_d3_18 : decode jdk_42_method_149_code 18 = .ok (.ldc 7, 2) := by decide +kernel
theorem own_d3_20 : decode jdk_42_method_149_code 20 = .ok (.getfield 15, 3) := by decide +kernel
theorem own_d3_23 : decode jdk_42_method_149_code 23 = .ok (.putfield 15, 3) := by decide +kernel
theorem own_d3_26 : decode jdk_42_method_149_code 26 = .ok (.return_, 1) := by decide +kernel
theorem own_pn_java_lang_String : plainName "java/lang/String" = true := by first | (simp [plainName, overriddenIn]; done) | decide +kernel
theorem own_ef_own_rn4e (m : MethodId) (a1 : Addr) (ar : Addr) : entryFrame m #[(.ref a1), (.ref ar), (.int (0 : Int32)), (.int (0 : Int32)), .null] 6 = mkF m 0 #[rv a1, rv ar, iv (0 : Int32), iv (0 : Int32), .val .null, .unset] [] := by first | (simp [entryFrame, mkF, argsToLocals, Value.category]; done) | rfl
def own_Q_own_rn4e (Z : State) (a1 : Addr) (ar : Addr) (h0 : Heap) (n0 : Nat) (v : Option Value) (h : Heap) (L : List Loc) : Prop := ∃ t kb, v = none ∧ Fr n0 L ∧ Keep h0 h [a1] ∧ Exa Z h a1 "java/lang/String" ∧ Fld Z h a1 "java/lang/String" "value" "[B" (.ref t) ∧ Fld Z h a1 "java/lang/String" "coder" "B" (.int (0 : Int32)) ∧ Arv Z h t kb .byte (0 : Int32) [] (.int (0 : Int32))
set_option maxRecDepth 65536 in
set_option maxHeartbeats 40000000 in
theorem own_rn4e (l : Launch) (Z : State) (a0 : Array Value) (hw : ∀ d ∈ tables_1, d.before a0 Z = true) (ws : List Jvm.Cond) (a1 : Addr) (ar : Addr) (vm0 : Vm) (h0 : Heap) (n0 : Nat) (Z0 : n0 ≤ h0.size) (Ex : Exa Z h0 a1 "java/lang/String") (Fv : Fld Z h0 a1 "java/lang/String" "value" "[B" .null) (Fc : Fld Z h0 a1 "java/lang/String" "coder" "B" (.int (0 : Int32))) (Sf : Safe Z own_EL vm0 h0 a1) (g_a1 : n0 ≤ a1) :
    MetFree l (⟨"java/lang/String", "<init>", "([CIILjava/lang/Void;)V"⟩ : MethodName) (head1 (Jvm.Cond.code (⟨"java/lang/String", "<init>", "([CIILjava/lang/Void;)V"⟩ : MethodName) jdk_42_method_149_code 6 none :: ws) ({ frames := 1, cells := 4, slots := 8, locals := 12 } : Room)) (fun a U => a = #[(.ref a1), (.ref ar), (.int (0 : Int32)), (.int (0 : Int32)), .null] ∧ Z.Warmed39 U.vm ∧ U.heap = h0 ∧ CHr Z own_EL vm0 h0 U.vm h0) (fun _ _ _ _ _ => True) (fun _ U o U' => ∃ v L, o = .returned v ∧ own_Q_own_rn4e Z a1 ar h0 n0 v U'.heap L ∧ CHr Z own_EL U.vm U.heap U'.vm U'.heap ∧ ReturnedEndW U o U' L ({ frames := 1, cells := 4, slots := 8, locals := 12 } : Room).cells ({ frames := 1, cells := 4, slots := 8, locals := 12 } : Room).slots) := by
  refine MetFree.of_bodySF (plainFor_of_name own_pn_java_lang_String) hisR ?_
  intro p e s m args below meth c s₁ Bd hml0 hP hK
  obtain ⟨rfl, hZ, hh, hCH⟩ := hP
  have hx := Bd.exec
  have hby := Bd.bytes
  have hml : c.maxLocals = 6 := hml0
  have hown : s.vm.findClass "java/lang/String" = some m.cls := findClass_of_methodNamed Bd.named
  have hnm := (name_of_methodNamed Bd.named Bd.method).1
  have X0 : Stand p l e ({ frames := 1, cells := 4, slots := 8, locals := 12 } : Room) (s.setVm s.vm) m #[(.ref a1), (.ref ar), (.int (0 : Int32)), (.int (0 : Int32)), .null] below meth c s₁ [] 0 0 := Stand.of_body Bd
  have e0 : s₁.heap = h0 := by rw [← hh, Bd.state]; rfl
  have N0 := Fr.nil n0
  have hEL := own_EW Z a0 hw
  have wS := own_wS Z a0 hw
  have hS : s.Since s.vm 0 := (State.WarmedH.refl s).since 0
  have hk : 0 ≤ h0.size := Nat.zero_le _
  have Rc : CHr Z own_EL s.vm h0 s.vm h0 := CHr.refl hCH.1
  replace Sf := CHr.safe hCH Ex.lt Sf
  have Kp : Keep h0 h0 [a1] := Keep.refl h0 _
  show own_GoW p e below s Z (own_Q_own_rn4e Z a1 ar h0 n0) ({ frames := 1, cells := 4, slots := 8, locals := 12 } : Room).cells ({ frames := 1, cells := 4, slots := 8, locals := 12 } : Room).slots (s₁.setTop (entryFrame m #[(.ref a1), (.ref ar), (.int (0 : Int32)), (.int (0 : Int32)), .null] 6))
  refine own_goW (fun zt zk => castTop (own_ef_own_rn4e m a1 ar) zk) ?_
  show own_GoW p e below s _ _ _ _ (s₁.setTop (mkF m 0 #[rv a1, rv ar, iv (0 : Int32), iv (0 : Int32), .val .null, .unset] []))
  refine own_goW (fun zt zk => (XS.aloadN X0.here hx rfl (hb hby own_d3_0) rfl rfl zk)) ?_
  show own_GoW p e below s _ _ _ _ (s₁.setTop (mkF m 1 #[rv a1, rv ar, iv (0 : Int32), iv (0 : Int32), .val .null, .unset] [(.ref a1)]))
  obtain ⟨T1, X1, e1, st1⟩ := initO X0 hx hZ hown (hw _ (List.mem_of_getElem? (i := 17) rfl)) (hw _ (List.mem_of_getElem? (i := 18) rfl)) (hw _ (List.mem_of_getElem? (i := 19) rfl)) e0 (g := (mkF m 1 #[rv a1, rv ar, iv (0 : Int32), iv (0 : Int32), .val .null, .unset] [(.ref a1)])) rfl (by rw [hml]; rfl) rfl (hb hby own_d3_1) (by decide) (W := 0) (by show 2 * 0 + _ ≤ _; exact Nat.le_of_eq rfl) (by decide)
  refine own_goW st1 ?_
  show own_GoW p e below s _ _ _ _ (T1.setTop (mkF m 4 #[rv a1, rv ar, iv (0 : Int32), iv (0 : Int32), .val .null, .unset] []))
  refine own_goW (fun zt zk => (XS.iloadN X1.here hx rfl (hb hby own_d3_4) rfl (XS.ifNo X1.here hx rfl (hb hby own_d3_5) rfl ((if0 _ _).trans (teq (rfl : (0 : Int32) = (0 : Int32))).2) (XS.aloadN X1.here hx rfl (hb hby own_d3_8) rfl rfl zk)))) ?_
  show own_GoW p e below s _ _ _ _ (T1.setTop (mkF m 9 #[rv a1, rv ar, iv (0 : Int32), iv (0 : Int32), .val .null, .unset] [(.ref a1)]))
  obtain ⟨a2, T2, h2, q2, b2, k2, X2, e2, E2, hS2, hk2, hZ2, hown2, Ex_a2, Fc_a2, Fv_a2, Va_b2, lta2, ltb2, A2, Li2, Sn2, st2⟩ := ldcCH X1 hx hZ hown (hw _ (List.mem_of_getElem? (i := 20) rfl)) wS e1 hS hk hEL (by decide +kernel) Rc.1 (vs := []) (z := (0 : Int32)) ⟨by decide +kernel, by decide +kernel⟩ (by decide) rfl (g := (mkF m 9 #[rv a1, rv ar, iv (0 : Int32), iv (0 : Int32), .val .null, .unset] [(.ref a1)])) rfl (hb hby own_d3_9) (n := 0) (by decide +kernel) (by decide) (by decide) (by decide)
  replace Sf := CHr.safe A2 Ex.lt Sf
  replace Ex := Ex.ext E2
  replace Fv := Fv.ext E2
  replace Fc := Fc.ext E2
  replace Kp := Kp.ext E2
  replace Rc := Rc.trans A2
  replace hS := hS2
  replace hk := hk2
  replace hZ := hZ2
  replace hown := hown2
  refine own_goW st2 ?_
  have ne_a1_a2 := (Sn2 a1 Sf).1
  have ne_a1_b2 := (Sn2 a1 Sf).2
  show own_GoW p e below s _ _ _ _ (T2.setTop (mkF m 11 #[rv a1, rv ar, iv (0 : Int32), iv (0 : Int32), .val .null, .unset] [(.ref a2), (.ref a1)]))
  obtain ⟨T3, X3, e3, st3⟩ := getF X2 hx hZ hown (host := "") (Or.inl (hw _ (List.mem_of_getElem? (i := 26) rfl))) Via.refl e2 Fv_a2 (g := (mkF m 11 #[rv a1, rv ar, iv (0 : Int32), iv (0 : Int32), .val .null, .unset] [(.ref a2), (.ref a1)])) rfl rfl (hb hby own_d3_11)
  refine own_goW st3 ?_
  show own_GoW p e below s _ _ _ _ (T3.setTop (mkF m 14 #[rv a1, rv ar, iv (0 : Int32), iv (0 : Int32), .val .null, .unset] [(.ref b2), (.ref a1)]))
  obtain ⟨T4, h4, X4, e4, W4, st4⟩ := putF X3 hx hZ hown (host := "") (Or.inl (hw _ (List.mem_of_getElem? (i := 26) rfl))) Via.refl e3 Fv Ex (Or.inr ⟨(hw _ (List.mem_of_getElem? (i := 22) rfl)), rfl, hnm⟩) (hw _ (List.mem_of_getElem? (i := 3) rfl)) (ty := (.array .byte)) (by decide) rfl rfl (g := (mkF m 14 #[rv a1, rv ar, iv (0 : Int32), iv (0 : Int32), .val .null, .unset] [(.ref b2), (.ref a1)])) rfl rfl (hb hby own_d3_14)
  refine own_goW st4 ?_
  have N4 := Fr.snoc X4 N0 g_a1
  have Sf' := Safe.wr W4 Sf Rc.1 Sf
  replace Rc := Rc.trans (CHr.wr W4 Sf Rc.1)
  replace hk := Nat.le_trans hk (Keep.of_wr W4).1
  replace Sf := Sf'
  replace Ex := Ex.wr W4
  replace Fc := Fc.other W4 (Or.inr (slot_ne (Or.inr (hw _ (List.mem_of_getElem? (i := 23) rfl))) (Or.inr (hw _ (List.mem_of_getElem? (i := 22) rfl))) (by decide) (t := .byte) (t' := (.array .byte)) (by decide) (by decide)))
  replace Kp := Kp.wr W4 (Or.inl (List.mem_of_getElem? (i := 0) rfl))
  replace Ex_a2 := Ex_a2.wr W4
  replace Fc_a2 := Fc_a2.other W4 (Or.inl (Ne.symm ne_a1_a2))
  replace Fv_a2 := Fv_a2.other W4 (Or.inl (Ne.symm ne_a1_a2))
  replace Va_b2 := Va_b2.other W4 (Ne.symm ne_a1_b2)
  replace Fv := Fv.same W4
  show own_GoW p e below s _ _ _ _ (T4.setTop (mkF m 17 #[rv a1, rv ar, iv (0 : Int32), iv (0 : Int32), .val .null, .unset] []))
  refine own_goW (fun zt zk => (XS.aloadN X4.here hx rfl (hb hby own_d3_17) rfl rfl zk)) ?_
  show own_GoW p e below s _ _ _ _ (T4.setTop (mkF m 18 #[rv a1, rv ar, iv (0 : Int32), iv (0 : Int32), .val .null, .unset] [(.ref a1)]))
  obtain ⟨a5, T5, h5, q5, b5, k5, X5, e5, E5, hS5, hk5, hZ5, hown5, Ex_a5, Fc_a5, Fv_a5, Va_b5, lta5, ltb5, A5, Li5, Sn5, st5⟩ := ldcCH X4 hx hZ hown (hw _ (List.mem_of_getElem? (i := 20) rfl)) wS e4 hS hk hEL (by decide +kernel) Rc.1 (vs := []) (z := (0 : Int32)) ⟨by decide +kernel, by decide +kernel⟩ (by decide) rfl (g := (mkF m 18 #[rv a1, rv ar, iv (0 : Int32), iv (0 : Int32), .val .null, .unset] [(.ref a1)])) rfl (hb hby own_d3_18) (n := 0) (by decide +kernel) (by decide) (by decide) (by decide)
  replace Sf := CHr.safe A5 Ex.lt Sf
  replace Ex := Ex.ext E5
  replace Fv := Fv.ext E5
  replace Fc := Fc.ext E5
  replace Kp := Kp.ext E5
  replace Ex_a2 := Ex_a2.ext E5
  replace Fc_a2 := Fc_a2.ext E5
  replace Fv_a2 := Fv_a2.ext E5
  replace Va_b2 := Va_b2.ext E5
  replace Rc := Rc.trans A5
  replace hS := hS5
  replace hk := hk5
  replace hZ := hZ5
  replace hown := hown5
  refine own_goW st5 ?_
  have ne_a1_a5 := (Sn5 a1 Sf).1
  have ne_a1_b5 := (Sn5 a1 Sf).2
  show own_GoW p e below s _ _ _ _ (T5.setTop (mkF m 20 #[rv a1, rv ar, iv (0 : Int32), iv (0 : Int32), .val .null, .unset] [(.ref a5), (.ref a1)]))
  obtain ⟨T6, X6, e6, st6⟩ := getF X5 hx hZ hown (host := "") (Or.inl (hw _ (List.mem_of_getElem? (i := 27) rfl))) Via.refl e5 Fc_a5 (g := (mkF m 20 #[rv a1, rv ar, iv (0 : Int32), iv (0 : Int32), .val .null, .unset] [(.ref a5), (.ref a1)])) rfl rfl (hb hby own_d3_20)
  refine own_goW st6 ?_
  show own_GoW p e below s _ _ _ _ (T6.setTop (mkF m 23 #[rv a1, rv ar, iv (0 : Int32), iv (0 : Int32), .val .null, .unset] [(.int (0 : Int32)), (.ref a1)]))
  obtain ⟨T7, h7, X7, e7, W7, st7⟩ := putFN X6 hx hZ hown (hw _ (List.mem_of_getElem? (i := 27) rfl)) Via.refl e6 Fc Ex (Or.inr ⟨(hw _ (List.mem_of_getElem? (i := 23) rfl)), rfl, hnm⟩) (hw _ (List.mem_of_getElem? (i := 3) rfl)) (ty := .byte) (v' := (.int (0 : Int32))) (by decide) rfl (by decide) (g := (mkF m 23 #[rv a1, rv ar, iv (0 : Int32), iv (0 : Int32), .val .null, .unset] [(.int (0 : Int32)), (.ref a1)])) rfl rfl (hb hby own_d3_23)
  refine own_goW st7 ?_
  have N7 := Fr.snoc X7 N4 g_a1
  have Sf' := Safe.wr W7 Sf Rc.1 Sf
  replace Rc := Rc.trans (CHr.wr W7 Sf Rc.1)
  replace hk := Nat.le_trans hk (Keep.of_wr W7).1
  replace Sf := Sf'
  replace Ex := Ex.wr W7
  replace Fv := Fv.other W7 (Or.inr (slot_ne (Or.inr (hw _ (List.mem_of_getElem? (i := 22) rfl))) (Or.inr (hw _ (List.mem_of_getElem? (i := 23) rfl))) (by decide) (t := (.array .byte)) (t' := .byte) (by decide) (by decide)))
  replace Kp := Kp.wr W7 (Or.inl (List.mem_of_getElem? (i := 0) rfl))
  replace Ex_a2 := Ex_a2.wr W7
  replace Fc_a2 := Fc_a2.other W7 (Or.inl (Ne.symm ne_a1_a2))
  replace Fv_a2 := Fv_a2.other W7 (Or.inl (Ne.symm ne_a1_a2))
  replace Va_b2 := Va_b2.other W7 (Ne.symm ne_a1_b2)
  replace Ex_a5 := Ex_a5.wr W7
  replace Fc_a5 := Fc_a5.other W7 (Or.inl (Ne.symm ne_a1_a5))
  replace Fv_a5 := Fv_a5.other W7 (Or.inl (Ne.symm ne_a1_a5))
  replace Va_b5 := Va_b5.other W7 (Ne.symm ne_a1_b5)
  replace Fc := Fc.same W7
  show own_GoW p e below s _ _ _ _ (T7.setTop (mkF m 26 #[rv a1, rv ar, iv (0 : Int32), iv (0 : Int32), .val .null, .unset] []))
  have Re := Rc.trans (CHv.at X7 hZ hEL Rc.1)
  exact own_finW X7 hS (by rw [e7]; exact hk) (by rw [e7, hh]; exact Re) Bd.notSynchronized (fun _ => rfl) (fun fs hr => X7.returnOut hx Bd.returns (hb hby own_d3_26) hr) (by rw [e7]; exact ⟨b2, k2, rfl, N7, Kp, Ex, Fv, Fc, Va_b2⟩) (by decide) (by decide)
theorem own_d2_0 : decode jdk_42_method_3_code 0 = .ok (.aload_n 0, 1) := by decide +kernel
theorem own_d2_1 : decode jdk_42_method_3_code 1 = .ok (.aload_n 1, 1) := by decide +kernel
theorem own_d2_2 : decode jdk_42_method_3_code 2 = .ok (.iconst 0, 1) := by decide +kernel
theorem own_d2_3 : decode jdk_42_method_3_code 3 = .ok (.aload_n 1, 1) := by decide +kernel
theorem own_d2_4 : decode jdk_42_method_3_code 4 = .ok (.arraylength, 1) := by decide +kernel
theorem own_d2_5 : decode jdk_42_method_3_code 5 = .ok (.aconst_null, 1) := by decide +kernel
theorem own_d2_6 : decode jdk_42_method_3_code 6 = .ok (.invokespecial 27, 3) := by decide +kernel
theorem own_pd___CIILjava_lang_Void__V : parseMethodDescriptor "([CIILjava/lang/Void;)V" = some ⟨[(.array .char), .int, .int, (.object "java/lang/Void")], none⟩ := by decide +kernel
theorem own_d2_9 : decode jdk_42_method_3_code 9 = .ok (.return_, 1) := by decide +kernel
theorem own_ef_own_rn1e (m : MethodId) (a1 : Addr) (ar : Addr) : entryFrame m #[(.ref a1), (.ref ar)] 2 = mkF m 0 #[rv a1, rv ar] [] := by first | (simp [entryFrame, mkF, argsToLocals, Value.category]; done) | rfl
def own_Q_own_rn1e (Z : State) (a1 : Addr) (ar : Addr) (ka : ClassId) (h0 : Heap) (n0 : Nat) (v : Option Value) (h : Heap) (L : List Loc) : Prop := ∃ t kb, v = none ∧ Fr n0 L ∧ Keep h0 h [a1] ∧ Exa Z h a1 "java/lang/String" ∧ Fld Z h a1 "java/lang/String" "value" "[B" (.ref t) ∧ Fld Z h a1 "java/lang/String" "coder" "B" (.int (0 : Int32)) ∧ Arv Z h t kb .byte (0 : Int32) [] (.int (0 : Int32))
set_option maxRecDepth 65536 in
set_option maxHeartbeats 40000000 in
theorem own_rn1e (l : Launch) (Z : State) (a0 : Array Value) (hw : ∀ d ∈ tables_1, d.before a0 Z = true) (ws : List Jvm.Cond) (a1 : Addr) (ar : Addr) (ka : ClassId) (vm0 : Vm) (h0 : Heap) (n0 : Nat) (Z0 : n0 ≤ h0.size) (Ex : Exa Z h0 a1 "java/lang/String") (Fv : Fld Z h0 a1 "java/lang/String" "value" "[B" .null) (Fc : Fld Z h0 a1 "java/lang/String" "coder" "B" (.int (0 : Int32))) (Sf : Safe Z own_EL vm0 h0 a1) (Va : Arv Z h0 ar ka .char (0 : Int32) [] (.int (0 : Int32))) (g_a1 : n0 ≤ a1) (hne : ar ≠ a1) :
    MetFree l (⟨"java/lang/String", "<init>", "([C)V"⟩ : MethodName) (head1 (Jvm.Cond.code (⟨"java/lang/String", "<init>", "([C)V"⟩ : MethodName) jdk_42_method_3_code 2 none :: ws) ({ frames := 2, cells := 4, slots := 8, locals := 29 } : Room)) (fun a U => a = #[(.ref a1), (.ref ar)] ∧ Z.Warmed39 U.vm ∧ U.heap = h0 ∧ CHr Z own_EL vm0 h0 U.vm h0) (fun _ _ _ _ _ => True) (fun _ U o U' => ∃ v L, o = .returned v ∧ own_Q_own_rn1e Z a1 ar ka h0 n0 v U'.heap L ∧ CHr Z own_EL U.vm U.heap U'.vm U'.heap ∧ ReturnedEndW U o U' L ({ frames := 2, cells := 4, slots := 8, locals := 29 } : Room).cells ({ frames := 2, cells := 4, slots := 8, locals := 29 } : Room).slots) := by
  refine MetFree.of_bodySF (plainFor_of_name own_pn_java_lang_String) hisR ?_
  intro p e s m args below meth c s₁ Bd hml0 hP hK
  obtain ⟨rfl, hZ, hh, hCH⟩ := hP
  have hx := Bd.exec
  have hby := Bd.bytes
  have hml : c.maxLocals = 2 := hml0
  have hown : s.vm.findClass "java/lang/String" = some m.cls := findClass_of_methodNamed Bd.named
  have hnm := (name_of_methodNamed Bd.named Bd.method).1
  have X0 : Stand p l e ({ frames := 2, cells := 4, slots := 8, locals := 29 } : Room) (s.setVm s.vm) m #[(.ref a1), (.ref ar)] below meth c s₁ [] 0 0 := Stand.of_body Bd
  have e0 : s₁.heap = h0 := by rw [← hh, Bd.state]; rfl
  have N0 := Fr.nil n0
  have hEL := own_EW Z a0 hw
  have wS := own_wS Z a0 hw
  have hS : s.Since s.vm 0 := (State.WarmedH.refl s).since 0
  have hk : 0 ≤ h0.size := Nat.zero_le _
  have Rc : CHr Z own_EL s.vm h0 s.vm h0 := CHr.refl hCH.1
  replace Sf := CHr.safe hCH Ex.lt Sf
  have Kp : Keep h0 h0 [a1] := Keep.refl h0 _
  show own_GoW p e below s Z (own_Q_own_rn1e Z a1 ar ka h0 n0) ({ frames := 2, cells := 4, slots := 8, locals := 29 } : Room).cells ({ frames := 2, cells := 4, slots := 8, locals := 29 } : Room).slots (s₁.setTop (entryFrame m #[(.ref a1), (.ref ar)] 2))
  refine own_goW (fun zt zk => castTop (own_ef_own_rn1e m a1 ar) zk) ?_
  show own_GoW p e below s _ _ _ _ (s₁.setTop (mkF m 0 #[rv a1, rv ar] []))
  refine own_goW (fun zt zk => (XS.aloadN X0.here hx rfl (hb hby own_d2_0) rfl rfl (XS.aloadN X0.here hx rfl (hb hby own_d2_1) rfl rfl (XS.iconst X0.here hx rfl (hb hby own_d2_2) (XS.aloadN X0.here hx rfl (hb hby own_d2_3) rfl rfl zk))))) ?_
  show own_GoW p e below s _ _ _ _ (s₁.setTop (mkF m 4 #[rv a1, rv ar] [(.ref ar), (.int (0 : Int32)), (.ref ar), (.ref a1)]))
  obtain ⟨cl1, Ar1, -, Sz1, Nz1, -, -⟩ := id Va
  refine own_goW (X0.arraylength hx (by rw [e0]; exact Ar1.1) (State.isArrayOf_alike hZ.alike Ar1.2.1) (g := (mkF m 4 #[rv a1, rv ar] [(.ref ar), (.int (0 : Int32)), (.ref ar), (.ref a1)])) rfl rfl (hb hby own_d2_4)) ?_
  rw [len_of Sz1 Nz1]
  show own_GoW p e below s _ _ _ _ (s₁.setTop (mkF m 5 #[rv a1, rv ar] [(.int (0 : Int32)), (.int (0 : Int32)), (.ref ar), (.ref a1)]))
  refine own_goW (fun zt zk => (XS.aconstNull X0.here hx rfl (hb hby own_d2_5) zk)) ?_
  show own_GoW p e below s _ _ _ _ (s₁.setTop (mkF m 6 #[rv a1, rv ar] [.null, (.int (0 : Int32)), (.int (0 : Int32)), (.ref ar), (.ref a1)]))
  obtain ⟨_, _, ⟨T2, L2, k2, n2⟩, -, X2, hSq2, hgq2, ⟨Lc2, hQ2, l2, y2, z2, A2⟩, st2⟩ := X0.specialBackS hx (y := (⟨"java/lang/String", "<init>", "([CIILjava/lang/Void;)V"⟩ : MethodName)) rfl hown (mvT hZ (hw _ (List.mem_of_getElem? (i := 13) rfl))) (mvT hZ (hw _ (List.mem_of_getElem? (i := 14) rfl))) (mvT hZ (hw _ (List.mem_of_getElem? (i := 16) rfl))) (by decide) (own_backW (s := s) (W := 0) (own_rn4e l Z a0 hw [] a1 ar  s.vm h0 n0 Z0 Ex Fv Fc Sf g_a1) hZ (hw _ (List.mem_of_getElem? (i := 16) rfl)) (hw _ (List.mem_of_getElem? (i := 4) rfl)) (by decide) (by decide) hEL Rc.1) (g := (mkF m 6 #[rv a1, rv ar] [.null, (.int (0 : Int32)), (.int (0 : Int32)), (.ref ar), (.ref a1)])) rfl (by rw [hml]; rfl) (Steps.refl _) (a := a1) (argsL := [(.ref ar), (.int (0 : Int32)), (.int (0 : Int32)), .null]) (rest := []) (lenOf own_pd___CIILjava_lang_Void__V rfl) rfl (by show 2 * 0 + _ ≤ _; exact Nat.le_of_eq rfl) (hb hby own_d2_6) (fun _ _ => ⟨rfl, e0, (by decide : 0 + 4 ≤ _), (by decide : 0 + 8 ≤ _)⟩)
  dsimp only [Pt.U, Pt.locs, Pt.cells, Pt.slots] at X2 l2 y2 z2 st2 hQ2 hSq2 hgq2 A2
  subst l2 y2 z2
  obtain ⟨X2, hS2, hZ2, hown2⟩ := rebS hS (by rw [e0]; exact hk) X2 hSq2 hgq2 hZ hown
  replace Sf := CHr.safe A2 Ex.lt Sf
  replace Rc := Rc.trans A2
  replace hS := hS2
  replace hZ := hZ2
  replace hown := hown2
  have hk : T2.heap.size ≤ T2.heap.size := Nat.le_refl _
  obtain ⟨t2, kb2, rfl, Nq2, K2, -, Fv, Fc, Va2⟩ := hQ2
  have N2 := Fr.app N0 Nq2
  refine own_goW (fun zt zk => st2.trans zk) ?_
  replace Ex := Ex.keep K2
  replace Va := Va.keep K2 (ninS hne nin0)
  replace Kp := Kp.trans K2 (allS (Or.inl (List.mem_of_getElem? (i := 0) rfl)) all0)
  show own_GoW p e below s _ _ _ _ (T2.setTop (mkF m 9 #[rv a1, rv ar] []))
  have Re := Rc.trans (CHv.at X2 hZ hEL Rc.1)
  exact own_finW X2 hS (hk) (by rw [hh]; exact Re) Bd.notSynchronized (fun _ => rfl) (fun fs hr => X2.returnOut hx Bd.returns (hb hby own_d2_9) hr) (⟨t2, kb2, rfl, N2, Kp, Ex, Fv, Fc, Va2⟩) (by decide) (by decide)
theorem own_d7_0 : decode jdk_42_method_152_code 0 = .ok (.getstatic 38, 3) := by decide +kernel
theorem own_d7_3 : decode jdk_42_method_152_code 3 = .ok (.ifCond .eq 10, 3) := by decide +kernel
theorem own_d7_6 : decode jdk_42_method_152_code 6 = .ok (.aload_n 0, 1) := by decide +kernel
theorem own_d7_7 : decode jdk_42_method_152_code 7 = .ok (.getfield 15, 3) := by decide +kernel
theorem own_d7_10 : decode jdk_42_method_152_code 10 = .ok (.goto 4, 3) := by decide +kernel
theorem own_d7_14 : decode jdk_42_method_152_code 14 = .ok (.ireturn, 1) := by decide +kernel
theorem own_ef_own_rcoder (m : MethodId) (a1 : Addr) : entryFrame m #[(.ref a1)] 1 = mkF m 0 #[rv a1] [] := by first | (simp [entryFrame, mkF, argsToLocals, Value.category]; done) | rfl
def own_Q_own_rcoder (Z : State) (a1 : Addr) (cz : Int32) (h0 : Heap) (n0 : Nat) (v : Option Value) (h : Heap) (L : List Loc) : Prop := v = some (.int (0 : Int32)) ∧ Fr n0 L ∧ h = h0
set_option maxRecDepth 65536 in
set_option maxHeartbeats 40000000 in
theorem own_rcoder (l : Launch) (Z : State) (a0 : Array Value) (hw : ∀ d ∈ tables_1, d.before a0 Z = true) (ws : List Jvm.Cond) (a1 : Addr) (cz : Int32) (h0 : Heap) (n0 : Nat) (Z0 : n0 ≤ h0.size) (O : Old Z n0 h0) (SC : Sta Z Z.heap "java/lang/String" "COMPACT_STRINGS" "Z" (.int cz)) (Fc : Fld Z h0 a1 "java/lang/String" "coder" "B" (.int (0 : Int32))) (hz : ¬ (cz = (0 : Int32))) :
    MetFree l (⟨"java/lang/String", "coder", "()B"⟩ : MethodName) (head1 (Jvm.Cond.code (⟨"java/lang/String", "coder", "()B"⟩ : MethodName) jdk_42_method_152_code 1 (some .byte) :: ws) ({ frames := 0, cells := 0, slots := 0, locals := 0 } : Room)) (fun a U => a = #[(.ref a1)] ∧ Z.Warmed39 U.vm ∧ U.heap = h0) (fun _ _ _ _ _ => True) (fun _ U o U' => ∃ v L, o = .returned v ∧ own_Q_own_rcoder Z a1 cz h0 n0 v U'.heap L ∧ FrameEnd U o U' L ({ frames := 0, cells := 0, slots := 0, locals := 0 } : Room).cells ({ frames := 0, cells := 0, slots := 0, locals := 0 } : Room).slots) := by
  refine MetFree.of_bodySF (plainFor_of_name own_pn_java_lang_String) hisR ?_
  intro p e s m args below meth c s₁ Bd hml0 hP hK
  obtain ⟨rfl, hZ, hh⟩ := hP
  have hx := Bd.exec
  have hby := Bd.bytes
  have hml : c.maxLocals = 1 := hml0
  have hown : s.vm.findClass "java/lang/String" = some m.cls := findClass_of_methodNamed Bd.named
  have hnm := (name_of_methodNamed Bd.named Bd.method).1
  have X0 : Stand p l e ({ frames := 0, cells := 0, slots := 0, locals := 0 } : Room) s m #[(.ref a1)] below meth c s₁ [] 0 0 := Stand.of_body Bd
  have e0 : s₁.heap = h0 := by rw [← hh, Bd.state]; rfl
  have N0 := Fr.nil n0
  show own_Go p e below s (own_Q_own_rcoder Z a1 cz h0 n0) ({ frames := 0, cells := 0, slots := 0, locals := 0 } : Room).cells ({ frames := 0, cells := 0, slots := 0, locals := 0 } : Room).slots (s₁.setTop (entryFrame m #[(.ref a1)] 1))
  refine own_go (fun zt zk => castTop (own_ef_own_rcoder m a1) zk) ?_
  show own_Go p e below s _ _ _ (s₁.setTop (mkF m 0 #[rv a1] []))
  obtain ⟨T1, X1, e1, st1⟩ := getS2 X0 hx hZ hown (host := "") (Or.inl (hw _ (List.mem_of_getElem? (i := 42) rfl))) Via.refl e0 (SC.ext O.2) (g := (mkF m 0 #[rv a1] [])) rfl (hb hby own_d7_0)
  refine own_go st1 ?_
  show own_Go p e below s _ _ _ (T1.setTop (mkF m 3 #[rv a1] [(.int cz)]))
  refine own_go (fun zt zk => (XS.ifNo X1.here hx rfl (hb hby own_d7_3) rfl ((if0 _ _).trans (feq (hz : ¬ (cz = (0 : Int32)))).1) (XS.aloadN X1.here hx rfl (hb hby own_d7_6) rfl rfl zk))) ?_
  show own_Go p e below s _ _ _ (T1.setTop (mkF m 7 #[rv a1] [(.ref a1)]))
  obtain ⟨T2, X2, e2, st2⟩ := getF X1 hx hZ hown (host := "") (Or.inl (hw _ (List.mem_of_getElem? (i := 27) rfl))) Via.refl e1 Fc (g := (mkF m 7 #[rv a1] [(.ref a1)])) rfl rfl (hb hby own_d7_7)
  refine own_go st2 ?_
  show own_Go p e below s _ _ _ (T2.setTop (mkF m 10 #[rv a1] [(.int (0 : Int32))]))
  refine own_go (fun zt zk => (XS.goto X2.here hx rfl (pc0 := 10) (pc' := 14) rfl (hb hby own_d7_10) (by decide) (by decide) zk)) ?_
  show own_Go p e below s _ _ _ (T2.setTop (mkF m 14 #[rv a1] [(.int (0 : Int32))]))
  exact own_fin X2 Bd.notSynchronized (fun h => by rw [Bd.returns] at h; cases h) (fun fs hr => retN X2 hx (t := .byte) Bd.returns (by simp) (hb hby own_d7_14) hr) (by rw [e2]; exact ⟨rfl, N0, rfl⟩) (by decide) (by decide)
theorem own_d13_0 : decode jdk_42_method_154_code 0 = .ok (.getstatic 38, 3) := by decide +kernel
theorem own_d13_3 : decode jdk_42_method_154_code 3 = .ok (.ifCond .eq 14, 3) := by decide +kernel
theorem own_d13_6 : decode jdk_42_method_154_code 6 = .ok (.aload_n 0, 1) := by decide +kernel
theorem own_d13_7 : decode jdk_42_method_154_code 7 = .ok (.getfield 15, 3) := by decide +kernel
theorem own_d13_10 : decode jdk_42_method_154_code 10 = .ok (.ifCond .ne 7, 3) := by decide +kernel
theorem own_d13_13 : decode jdk_42_method_154_code 13 = .ok (.iconst 1, 1) := by decide +kernel
theorem own_d13_14 : decode jdk_42_method_154_code 14 = .ok (.goto 4, 3) := by decide +kernel
theorem own_d13_18 : decode jdk_42_method_154_code 18 = .ok (.ireturn, 1) := by decide +kernel
theorem own_ef_own_risl (m : MethodId) (a1 : Addr) : entryFrame m #[(.ref a1)] 1 = mkF m 0 #[rv a1] [] := by first | (simp [entryFrame, mkF, argsToLocals, Value.category]; done) | rfl
def own_Q_own_risl (Z : State) (a1 : Addr) (cz : Int32) (h0 : Heap) (n0 : Nat) (v : Option Value) (h : Heap) (L : List Loc) : Prop := v = some (.int (1 : Int32)) ∧ Fr n0 L ∧ h = h0
set_option maxRecDepth 65536 in
set_option maxHeartbeats 40000000 in
theorem own_risl (l : Launch) (Z : State) (a0 : Array Value) (hw : ∀ d ∈ tables_1, d.before a0 Z = true) (ws : List Jvm.Cond) (a1 : Addr) (cz : Int32) (h0 : Heap) (n0 : Nat) (Z0 : n0 ≤ h0.size) (O : Old Z n0 h0) (SC : Sta Z Z.heap "java/lang/String" "COMPACT_STRINGS" "Z" (.int cz)) (Fc : Fld Z h0 a1 "java/lang/String" "coder" "B" (.int (0 : Int32))) (hz : ¬ (cz = (0 : Int32))) :
    MetFree l (⟨"java/lang/String", "isLatin1", "()Z"⟩ : MethodName) (head1 (Jvm.Cond.code (⟨"java/lang/String", "isLatin1", "()Z"⟩ : MethodName) jdk_42_method_154_code 1 (some .boolean) :: ws) ({ frames := 0, cells := 0, slots := 0, locals := 0 } : Room)) (fun a U => a = #[(.ref a1)] ∧ Z.Warmed39 U.vm ∧ U.heap = h0) (fun _ _ _ _ _ => True) (fun _ U o U' => ∃ v L, o = .returned v ∧ own_Q_own_risl Z a1 cz h0 n0 v U'.heap L ∧ FrameEnd U o U' L ({ frames := 0, cells := 0, slots := 0, locals := 0 } : Room).cells ({ frames := 0, cells := 0, slots := 0, locals := 0 } : Room).slots) := by
  refine MetFree.of_bodySF (plainFor_of_name own_pn_java_lang_String) hisR ?_
  intro p e s m args below meth c s₁ Bd hml0 hP hK
  obtain ⟨rfl, hZ, hh⟩ := hP
  have hx := Bd.exec
  have hby := Bd.bytes
  have hml : c.maxLocals = 1 := hml0
  have hown : s.vm.findClass "java/lang/String" = some m.cls := findClass_of_methodNamed Bd.named
  have hnm := (name_of_methodNamed Bd.named Bd.method).1
  have X0 : Stand p l e ({ frames := 0, cells := 0, slots := 0, locals := 0 } : Room) s m #[(.ref a1)] below meth c s₁ [] 0 0 := Stand.of_body Bd
  have e0 : s₁.heap = h0 := by rw [← hh, Bd.state]; rfl
  have N0 := Fr.nil n0
  show own_Go p e below s (own_Q_own_risl Z a1 cz h0 n0) ({ frames := 0, cells := 0, slots := 0, locals := 0 } : Room).cells ({ frames := 0, cells := 0, slots := 0, locals := 0 } : Room).slots (s₁.setTop (entryFrame m #[(.ref a1)] 1))
  refine own_go (fun zt zk => castTop (own_ef_own_risl m a1) zk) ?_
  show own_Go p e below s _ _ _ (s₁.setTop (mkF m 0 #[rv a1] []))
  obtain ⟨T1, X1, e1, st1⟩ := getS2 X0 hx hZ hown (host := "") (Or.inl (hw _ (List.mem_of_getElem? (i := 42) rfl))) Via.refl e0 (SC.ext O.2) (g := (mkF m 0 #[rv a1] [])) rfl (hb hby own_d13_0)
  refine own_go st1 ?_
  show own_Go p e below s _ _ _ (T1.setTop (mkF m 3 #[rv a1] [(.int cz)]))
  refine own_go (fun zt zk => (XS.ifNo X1.here hx rfl (hb hby own_d13_3) rfl ((if0 _ _).trans (feq (hz : ¬ (cz = (0 : Int32)))).1) (XS.aloadN X1.here hx rfl (hb hby own_d13_6) rfl rfl zk))) ?_
  show own_Go p e below s _ _ _ (T1.setTop (mkF m 7 #[rv a1] [(.ref a1)]))
  obtain ⟨T2, X2, e2, st2⟩ := getF X1 hx hZ hown (host := "") (Or.inl (hw _ (List.mem_of_getElem? (i := 27) rfl))) Via.refl e1 Fc (g := (mkF m 7 #[rv a1] [(.ref a1)])) rfl rfl (hb hby own_d13_7)
  refine own_go st2 ?_
  show own_Go p e below s _ _ _ (T2.setTop (mkF m 10 #[rv a1] [(.int (0 : Int32))]))
  refine own_go (fun zt zk => (XS.ifNo X2.here hx rfl (hb hby own_d13_10) rfl ((if0 _ _).trans (teq (rfl : (0 : Int32) = (0 : Int32))).2) (XS.iconst X2.here hx rfl (hb hby own_d13_13) (XS.goto X2.here hx rfl (pc0 := 14) (pc' := 18) rfl (hb hby own_d13_14) (by decide) (by decide) zk)))) ?_
  show own_Go p e below s _ _ _ (T2.setTop (mkF m 18 #[rv a1] [(.int (1 : Int32))]))
  exact own_fin X2 Bd.notSynchronized (fun h => by rw [Bd.returns] at h; cases h) (fun fs hr => retN X2 hx (t := .boolean) Bd.returns (by simp) (hb hby own_d13_18) hr) (by rw [e2]; exact ⟨rfl, N0, rfl⟩) (by decide) (by decide)
theorem own_d16_0 : decode jdk_41_method_11_code 0 = .ok (.iload_n 0, 1) := by decide +kernel
theorem own_d16_1 : decode jdk_41_method_11_code 1 = .ok (.ifCond .lt 8, 3) := by decide +kernel
theorem own_d16_4 : decode jdk_41_method_11_code 4 = .ok (.iload_n 0, 1) := by decide +kernel
theorem own_d16_5 : decode jdk_41_method_11_code 5 = .ok (.iload_n 1, 1) := by decide +kernel
theorem own_d16_6 : decode jdk_41_method_11_code 6 = .ok (.if_icmp .lt 10, 3) := by decide +kernel
theorem own_d16_16 : decode jdk_41_method_11_code 16 = .ok (.iload_n 0, 1) := by decide +kernel
theorem own_d16_17 : decode jdk_41_method_11_code 17 = .ok (.ireturn, 1) := by decide +kernel
theorem own_pn_jdk_internal_util_Preconditions : plainName "jdk/internal/util/Preconditions" = true := by first | (simp [plainName, overriddenIn]; done) | decide +kernel
theorem own_ef_own_rpre (m : MethodId) (p1 : Int32) (p2 : Int32) (fm : Value) (rfm : fm.isRef = true) : entryFrame m #[(.int p1), (.int p2), fm] 3 = mkF m 0 #[iv p1, iv p2, .val fm] [] := by rcases ref_cases rfm with rfl | ⟨_, rfl⟩ <;> first | (simp [entryFrame, mkF, argsToLocals, Value.category]; done) | rfl
def own_Q_own_rpre (Z : State) (p1 : Int32) (p2 : Int32) (fm : Value) (h0 : Heap) (n0 : Nat) (v : Option Value) (h : Heap) (L : List Loc) : Prop := v = some (.int p1) ∧ Fr n0 L ∧ h = h0
set_option maxRecDepth 65536 in
set_option maxHeartbeats 40000000 in
theorem own_rpre (l : Launch) (Z : State) (a0 : Array Value) (hw : ∀ d ∈ tables_1, d.before a0 Z = true) (ws : List Jvm.Cond) (p1 : Int32) (p2 : Int32) (fm : Value) (h0 : Heap) (n0 : Nat) (Z0 : n0 ≤ h0.size)  (rfm : fm.isRef = true) (hj : ¬ (p1 < (0 : Int32)) ∧ p1 < p2) :
    MetFree l (⟨"jdk/internal/util/Preconditions", "checkIndex", "(IILjava/util/function/BiFunction;)I"⟩ : MethodName) (head1 (Jvm.Cond.code (⟨"jdk/internal/util/Preconditions", "checkIndex", "(IILjava/util/function/BiFunction;)I"⟩ : MethodName) jdk_41_method_11_code 3 (some .int) :: ws) ({ frames := 0, cells := 0, slots := 0, locals := 0 } : Room)) (fun a U => a = #[(.int p1), (.int p2), fm] ∧ Z.Warmed39 U.vm ∧ U.heap = h0) (fun _ _ _ _ _ => True) (fun _ U o U' => ∃ v L, o = .returned v ∧ own_Q_own_rpre Z p1 p2 fm h0 n0 v U'.heap L ∧ FrameEnd U o U' L ({ frames := 0, cells := 0, slots := 0, locals := 0 } : Room).cells ({ frames := 0, cells := 0, slots := 0, locals := 0 } : Room).slots) := by
  refine MetFree.of_bodySF (plainFor_of_name own_pn_jdk_internal_util_Preconditions) hisR ?_
  intro p e s m args below meth c s₁ Bd hml0 hP hK
  obtain ⟨rfl, hZ, hh⟩ := hP
  have hx := Bd.exec
  have hby := Bd.bytes
  have hml : c.maxLocals = 3 := hml0
  have hown : s.vm.findClass "jdk/internal/util/Preconditions" = some m.cls := findClass_of_methodNamed Bd.named
  have hnm := (name_of_methodNamed Bd.named Bd.method).1
  have X0 : Stand p l e ({ frames := 0, cells := 0, slots := 0, locals := 0 } : Room) s m #[(.int p1), (.int p2), fm] below meth c s₁ [] 0 0 := Stand.of_body Bd
  have e0 : s₁.heap = h0 := by rw [← hh, Bd.state]; rfl
  have N0 := Fr.nil n0
  show own_Go p e below s (own_Q_own_rpre Z p1 p2 fm h0 n0) ({ frames := 0, cells := 0, slots := 0, locals := 0 } : Room).cells ({ frames := 0, cells := 0, slots := 0, locals := 0 } : Room).slots (s₁.setTop (entryFrame m #[(.int p1), (.int p2), fm] 3))
  refine own_go (fun zt zk => castTop (own_ef_own_rpre m p1 p2 fm rfm) zk) ?_
  show own_Go p e below s _ _ _ (s₁.setTop (mkF m 0 #[iv p1, iv p2, .val fm] []))
  refine own_go (fun zt zk => (XS.iloadN X0.here hx rfl (hb hby own_d16_0) rfl (XS.ifNo X0.here hx rfl (hb hby own_d16_1) rfl ((if0 _ _).trans (flt (hj.1 : ¬ (p1 < (0 : Int32)))).1) (XS.iloadN X0.here hx rfl (hb hby own_d16_4) rfl (XS.iloadN X0.here hx rfl (hb hby own_d16_5) rfl (XS.icmpYes X0.here hx rfl (pc0 := 6) (pc' := 16) rfl (hb hby own_d16_6) rfl (tlt (hj.2 : p1 < p2)).1 (by decide) (by decide) (XS.iloadN X0.here hx rfl (hb hby own_d16_16) rfl zk))))))) ?_
  show own_Go p e below s _ _ _ (s₁.setTop (mkF m 17 #[iv p1, iv p2, .val fm] [(.int p1)]))
  exact own_fin X0 Bd.notSynchronized (fun h => by rw [Bd.returns] at h; cases h) (fun fs hr => retOut X0 hx (t := .int) (w := (.int p1)) Bd.returns rfl (Or.inl ⟨rfl, Or.inl rfl, _, rfl⟩) (hb hby own_d16_17) hr) (by rw [e0]; exact ⟨rfl, N0, rfl⟩) (by decide) (by decide)
theorem own_d15_0 : decode jdk_42_method_155_code 0 = .ok (.iload_n 0, 1) := by decide +kernel
theorem own_d15_1 : decode jdk_42_method_155_code 1 = .ok (.iload_n 1, 1) := by decide +kernel
theorem own_d15_2 : decode jdk_42_method_155_code 2 = .ok (.getstatic 1053, 3) := by decide +kernel
theorem own_d15_5 : decode jdk_42_method_155_code 5 = .ok (.invokestatic 1059, 3) := by decide +kernel
theorem own_pd__IILjava_util_function_BiFunction__I : parseMethodDescriptor "(IILjava/util/function/BiFunction;)I" = some ⟨[.int, .int, (.object "java/util/function/BiFunction")], some .int⟩ := by decide +kernel
theorem own_d15_8 : decode jdk_42_method_155_code 8 = .ok (.pop, 1) := by decide +kernel
theorem own_d15_9 : decode jdk_42_method_155_code 9 = .ok (.return_, 1) := by decide +kernel
theorem own_ef_own_rchk (m : MethodId) (p1 : Int32) (p2 : Int32) : entryFrame m #[(.int p1), (.int p2)] 2 = mkF m 0 #[iv p1, iv p2] [] := by first | (simp [entryFrame, mkF, argsToLocals, Value.category]; done) | rfl
def own_Q_own_rchk (Z : State) (p1 : Int32) (p2 : Int32) (fm : Value) (h0 : Heap) (n0 : Nat) (v : Option Value) (h : Heap) (L : List Loc) : Prop := v = none ∧ Fr n0 L ∧ h = h0
set_option maxRecDepth 65536 in
set_option maxHeartbeats 40000000 in
theorem own_rchk (l : Launch) (Z : State) (a0 : Array Value) (hw : ∀ d ∈ tables_1, d.before a0 Z = true) (ws : List Jvm.Cond) (p1 : Int32) (p2 : Int32) (fm : Value) (h0 : Heap) (n0 : Nat) (Z0 : n0 ≤ h0.size) (O : Old Z n0 h0) (SF : Sta Z Z.heap "jdk/internal/util/Preconditions" "SIOOBE_FORMATTER" "Ljava/util/function/BiFunction;" fm) (rfm : fm.isRef = true) (hj : ¬ (p1 < (0 : Int32)) ∧ p1 < p2) :
    MetFree l (⟨"java/lang/String", "checkIndex", "(II)V"⟩ : MethodName) (head1 (Jvm.Cond.code (⟨"java/lang/String", "checkIndex", "(II)V"⟩ : MethodName) jdk_42_method_155_code 2 none :: ws) ({ frames := 1, cells := 0, slots := 0, locals := 14 } : Room)) (fun a U => a = #[(.int p1), (.int p2)] ∧ Z.Warmed39 U.vm ∧ U.heap = h0) (fun _ _ _ _ _ => True) (fun _ U o U' => ∃ v L, o = .returned v ∧ own_Q_own_rchk Z p1 p2 fm h0 n0 v U'.heap L ∧ FrameEnd U o U' L ({ frames := 1, cells := 0, slots := 0, locals := 14 } : Room).cells ({ frames := 1, cells := 0, slots := 0, locals := 14 } : Room).slots) := by
  refine MetFree.of_bodySF (plainFor_of_name own_pn_java_lang_String) hisR ?_
  intro p e s m args below meth c s₁ Bd hml0 hP hK
  obtain ⟨rfl, hZ, hh⟩ := hP
  have hx := Bd.exec
  have hby := Bd.bytes
  have hml : c.maxLocals = 2 := hml0
  have hown : s.vm.findClass "java/lang/String" = some m.cls := findClass_of_methodNamed Bd.named
  have hnm := (name_of_methodNamed Bd.named Bd.method).1
  have X0 : Stand p l e ({ frames := 1, cells := 0, slots := 0, locals := 14 } : Room) s m #[(.int p1), (.int p2)] below meth c s₁ [] 0 0 := Stand.of_body Bd
  have e0 : s₁.heap = h0 := by rw [← hh, Bd.state]; rfl
  have N0 := Fr.nil n0
  show own_Go p e below s (own_Q_own_rchk Z p1 p2 fm h0 n0) ({ frames := 1, cells := 0, slots := 0, locals := 14 } : Room).cells ({ frames := 1, cells := 0, slots := 0, locals := 14 } : Room).slots (s₁.setTop (entryFrame m #[(.int p1), (.int p2)] 2))
  refine own_go (fun zt zk => castTop (own_ef_own_rchk m p1 p2) zk) ?_
  show own_Go p e below s _ _ _ (s₁.setTop (mkF m 0 #[iv p1, iv p2] []))
  refine own_go (fun zt zk => (XS.iloadN X0.here hx rfl (hb hby own_d15_0) rfl (XS.iloadN X0.here hx rfl (hb hby own_d15_1) rfl zk))) ?_
  show own_Go p e below s _ _ _ (s₁.setTop (mkF m 2 #[iv p1, iv p2] [(.int p2), (.int p1)]))
  obtain ⟨T1, X1, e1, st1⟩ := getS2 X0 hx hZ hown (host := "") (Or.inl (hw _ (List.mem_of_getElem? (i := 73) rfl))) Via.refl e0 (SF.ext O.2) (g := (mkF m 2 #[iv p1, iv p2] [(.int p2), (.int p1)])) rfl (hb hby own_d15_2)
  refine own_go st1 ?_
  show own_Go p e below s _ _ _ (T1.setTop (mkF m 5 #[iv p1, iv p2] [fm, (.int p2), (.int p1)]))
  obtain ⟨_, _, ⟨T2, L2, k2, n2⟩, -, X2, ⟨Lc2, hQ2, l2, y2, z2⟩, st2⟩ := Jvm.LawKit.callS X1 hx (y := (⟨"jdk/internal/util/Preconditions", "checkIndex", "(IILjava/util/function/BiFunction;)I"⟩ : MethodName)) hown (mvT hZ (hw _ (List.mem_of_getElem? (i := 75) rfl))) (mvT hZ (hw _ (List.mem_of_getElem? (i := 76) rfl))) (mvT hZ (hw _ (List.mem_of_getElem? (i := 74) rfl))) (mvT hZ (hw _ (List.mem_of_getElem? (i := 77) rfl))) (by decide) (backOf (W := 0) (own_rpre l Z a0 hw [] p1 p2 fm  h0 n0 Z0 rfm hj) hZ (hw _ (List.mem_of_getElem? (i := 77) rfl)) (hw _ (List.mem_of_getElem? (i := 74) rfl)) (by decide) (by decide)) (g := (mkF m 5 #[iv p1, iv p2] [fm, (.int p2), (.int p1)])) rfl (by rw [hml]; rfl) (argsL := [(.int p1), (.int p2), fm]) (rest := []) (lenOf own_pd__IILjava_util_function_BiFunction__I rfl) rfl (by show 2 * 0 + _ ≤ _; exact Nat.le_of_eq rfl) (hb hby own_d15_5) (fun _ _ => ⟨rfl, e1, (by decide : 0 + 0 ≤ _), (by decide : 0 + 0 ≤ _)⟩)
  dsimp only [Pt.U, Pt.locs, Pt.cells, Pt.slots] at X2 l2 y2 z2 st2 hQ2
  subst l2 y2 z2
  obtain ⟨rfl, Nq2, e2⟩ := hQ2
  have N2 := Fr.app N0 Nq2
  refine own_go st2 ?_
  show own_Go p e below s _ _ _ (T2.setTop (mkF m 8 #[iv p1, iv p2] [(.int p1)]))
  refine own_go (fun zt zk => (XS.pop X2.here hx rfl (hb hby own_d15_8) rfl rfl zk)) ?_
  show own_Go p e below s _ _ _ (T2.setTop (mkF m 9 #[iv p1, iv p2] []))
  exact own_fin X2 Bd.notSynchronized (fun _ => rfl) (fun fs hr => X2.returnOut hx Bd.returns (hb hby own_d15_9) hr) (by rw [e2]; exact ⟨rfl, N2, rfl⟩) (by decide) (by decide)
theorem own_d14_0 : decode jdk_43_method_2_code 0 = .ok (.iload_n 1, 1) := by decide +kernel
theorem own_d14_1 : decode jdk_43_method_2_code 1 = .ok (.aload_n 0, 1) := by decide +kernel
theorem own_d14_2 : decode jdk_43_method_2_code 2 = .ok (.arraylength, 1) := by decide +kernel
theorem own_d14_3 : decode jdk_43_method_2_code 3 = .ok (.invokestatic 9, 3) := by decide +kernel
theorem own_pd__II_V : parseMethodDescriptor "(II)V" = some ⟨[.int, .int], none⟩ := by decide +kernel
theorem own_d14_6 : decode jdk_43_method_2_code 6 = .ok (.aload_n 0, 1) := by decide +kernel
theorem own_d14_7 : decode jdk_43_method_2_code 7 = .ok (.iload_n 1, 1) := by decide +kernel
theorem own_d14_8 : decode jdk_43_method_2_code 8 = .ok (.baload, 1) := by decide +kernel
theorem own_d14_9 : decode jdk_43_method_2_code 9 = .ok (.sipush 255, 3) := by decide +kernel
theorem own_d14_12 : decode jdk_43_method_2_code 12 = .ok (.iand, 1) := by decide +kernel
theorem own_d14_13 : decode jdk_43_method_2_code 13 = .ok (.i2c, 1) := by decide +kernel
theorem own_d14_14 : decode jdk_43_method_2_code 14 = .ok (.ireturn, 1) := by decide +kernel
theorem own_pn_java_lang_StringLatin1 : plainName "java/lang/StringLatin1" = true := by first | (simp [plainName, overriddenIn]; done) | decide +kernel
theorem own_ef_own_rlch (m : MethodId) (t : Addr) (p1 : Int32) : entryFrame m #[(.ref t), (.int p1)] 2 = mkF m 0 #[rv t, iv p1] [] := by first | (simp [entryFrame, mkF, argsToLocals, Value.category]; done) | rfl
def own_Q_own_rlch (Z : State) (t : Addr) (p1 : Int32) (fm : Value) (kb : ClassId) (N : Int32) (vs : List Value) (x : Int32) (h0 : Heap) (n0 : Nat) (v : Option Value) (h : Heap) (L : List Loc) : Prop := v = some (.int (x &&& (255 : Int32))) ∧ Fr n0 L ∧ h = h0
set_option maxRecDepth 65536 in
set_option maxHeartbeats 40000000 in
theorem own_rlch (l : Launch) (Z : State) (a0 : Array Value) (hw : ∀ d ∈ tables_1, d.before a0 Z = true) (ws : List Jvm.Cond) (t : Addr) (p1 : Int32) (fm : Value) (kb : ClassId) (N : Int32) (vs : List Value) (x : Int32) (h0 : Heap) (n0 : Nat) (Z0 : n0 ≤ h0.size) (O : Old Z n0 h0) (SF : Sta Z Z.heap "jdk/internal/util/Preconditions" "SIOOBE_FORMATTER" "Ljava/util/function/BiFunction;" fm) (Va : Arv Z h0 t kb .byte N vs (.int (0 : Int32))) (rfm : fm.isRef = true) (hj : ¬ (p1 < (0 : Int32)) ∧ p1 < N) (hat : vs.getD p1.toNatClampNeg (.int (0 : Int32)) = .int x) :
    MetFree l (⟨"java/lang/StringLatin1", "charAt", "([BI)C"⟩ : MethodName) (head1 (Jvm.Cond.code (⟨"java/lang/StringLatin1", "charAt", "([BI)C"⟩ : MethodName) jdk_43_method_2_code 2 (some .char) :: ws) ({ frames := 2, cells := 0, slots := 0, locals := 27 } : Room)) (fun a U => a = #[(.ref t), (.int p1)] ∧ Z.Warmed39 U.vm ∧ U.heap = h0) (fun _ _ _ _ _ => True) (fun _ U o U' => ∃ v L, o = .returned v ∧ own_Q_own_rlch Z t p1 fm kb N vs x h0 n0 v U'.heap L ∧ FrameEnd U o U' L ({ frames := 2, cells := 0, slots := 0, locals := 27 } : Room).cells ({ frames := 2, cells := 0, slots := 0, locals := 27 } : Room).slots) := by
  refine MetFree.of_bodySF (plainFor_of_name own_pn_java_lang_StringLatin1) hisR ?_
  intro p e s m args below meth c s₁ Bd hml0 hP hK
  obtain ⟨rfl, hZ, hh⟩ := hP
  have hx := Bd.exec
  have hby := Bd.bytes
  have hml : c.maxLocals = 2 := hml0
  have hown : s.vm.findClass "java/lang/StringLatin1" = some m.cls := findClass_of_methodNamed Bd.named
  have hnm := (name_of_methodNamed Bd.named Bd.method).1
  have X0 : Stand p l e ({ frames := 2, cells := 0, slots := 0, locals := 27 } : Room) s m #[(.ref t), (.int p1)] below meth c s₁ [] 0 0 := Stand.of_body Bd
  have e0 : s₁.heap = h0 := by rw [← hh, Bd.state]; rfl
  have N0 := Fr.nil n0
  show own_Go p e below s (own_Q_own_rlch Z t p1 fm kb N vs x h0 n0) ({ frames := 2, cells := 0, slots := 0, locals := 27 } : Room).cells ({ frames := 2, cells := 0, slots := 0, locals := 27 } : Room).slots (s₁.setTop (entryFrame m #[(.ref t), (.int p1)] 2))
  refine own_go (fun zt zk => castTop (own_ef_own_rlch m t p1) zk) ?_
  show own_Go p e below s _ _ _ (s₁.setTop (mkF m 0 #[rv t, iv p1] []))
  refine own_go (fun zt zk => (XS.iloadN X0.here hx rfl (hb hby own_d14_0) rfl (XS.aloadN X0.here hx rfl (hb hby own_d14_1) rfl rfl zk))) ?_
  show own_Go p e below s _ _ _ (s₁.setTop (mkF m 2 #[rv t, iv p1] [(.ref t), (.int p1)]))
  obtain ⟨cl1, Ar1, -, Sz1, Nz1, -, -⟩ := id Va
  refine own_go (X0.arraylength hx (by rw [e0]; exact Ar1.1) (State.isArrayOf_alike hZ.alike Ar1.2.1) (g := (mkF m 2 #[rv t, iv p1] [(.ref t), (.int p1)])) rfl rfl (hb hby own_d14_2)) ?_
  rw [len_of Sz1 Nz1]
  show own_Go p e below s _ _ _ (s₁.setTop (mkF m 3 #[rv t, iv p1] [(.int N), (.int p1)]))
  obtain ⟨_, _, ⟨T2, L2, k2, n2⟩, -, X2, ⟨Lc2, hQ2, l2, y2, z2⟩, st2⟩ := Jvm.LawKit.callS X0 hx (y := (⟨"java/lang/String", "checkIndex", "(II)V"⟩ : MethodName)) hown (mvT hZ (hw _ (List.mem_of_getElem? (i := 70) rfl))) (mvT hZ (hw _ (List.mem_of_getElem? (i := 71) rfl))) (mvT hZ (hw _ (List.mem_of_getElem? (i := 4) rfl))) (mvT hZ (hw _ (List.mem_of_getElem? (i := 72) rfl))) (by decide) (backOf (W := 0) (own_rchk l Z a0 hw [] p1 N fm h0 n0 Z0 O SF rfm hj) hZ (hw _ (List.mem_of_getElem? (i := 72) rfl)) (hw _ (List.mem_of_getElem? (i := 4) rfl)) (by decide) (by decide)) (g := (mkF m 3 #[rv t, iv p1] [(.int N), (.int p1)])) rfl (by rw [hml]; rfl) (argsL := [(.int p1), (.int N)]) (rest := []) (lenOf own_pd__II_V rfl) rfl (by show 2 * 0 + _ ≤ _; exact Nat.le_of_eq rfl) (hb hby own_d14_3) (fun _ _ => ⟨rfl, e0, (by decide : 0 + 0 ≤ _), (by decide : 0 + 0 ≤ _)⟩)
  dsimp only [Pt.U, Pt.locs, Pt.cells, Pt.slots] at X2 l2 y2 z2 st2 hQ2
  subst l2 y2 z2
  obtain ⟨rfl, Nq2, e2⟩ := hQ2
  have N2 := Fr.app N0 Nq2
  refine own_go st2 ?_
  show own_Go p e below s _ _ _ (T2.setTop (mkF m 6 #[rv t, iv p1] []))
  refine own_go (fun zt zk => (XS.aloadN X2.here hx rfl (hb hby own_d14_6) rfl rfl (XS.iloadN X2.here hx rfl (hb hby own_d14_7) rfl zk))) ?_
  show own_Go p e below s _ _ _ (T2.setTop (mkF m 8 #[rv t, iv p1] [(.int p1), (.ref t)]))
  obtain ⟨cl3, Ar3, q3, Sz3, Nz3, Ha3, Ga3⟩ := id Va
  have hin3 : ¬ (p1 < 0 ∨ cl3.slots.size ≤ (p1).toNatClampNeg) := inb_of Sz3 hj
  have hat3 : cl3.slots[(p1).toNatClampNeg]? = some (.int x) := Has.at Ha3 hin3 hat
  refine own_go (X2.baloadBytes hx (j := p1) (v := (.int x)) (by rw [e2]; exact Ar3.1) (State.isArrayOf_alike hZ.alike Ar3.2.1) Ar3.2.2 hin3 hat3 (g := (mkF m 8 #[rv t, iv p1] [(.int p1), (.ref t)])) rfl rfl (hb hby own_d14_8)) ?_
  show own_Go p e below s _ _ _ (T2.setTop (mkF m 9 #[rv t, iv p1] [(.int x)]))
  refine own_go (fun zt zk => (XS.sipush X2.here hx rfl (hb hby own_d14_9) (XS.iand X2.here hx rfl (hb hby own_d14_12) rfl (XS.i2c X2.here hx rfl (hb hby own_d14_13) rfl zk)))) ?_
  show own_Go p e below s _ _ _ (T2.setTop (mkF m 14 #[rv t, iv p1] [(.int ((x &&& (255 : Int32)).toUInt32.toUInt16.toUInt32.toInt32))]))
  rw [i2c_mask]
  generalize hv_c4 : (x &&& (255 : Int32)) = c4
  have hr_c4 := own_r255 hv_c4
  show own_Go p e below s _ _ _ (T2.setTop (mkF m 14 #[rv t, iv p1] [(.int c4)]))
  exact own_fin X2 Bd.notSynchronized (fun h => by rw [Bd.returns] at h; cases h) (fun fs hr => retN X2 hx (t := .char) Bd.returns (by simp) (hb hby own_d14_14) hr) (by rw [e2]; exact ⟨congrArg (fun z => some (Value.int z)) ((own_narc hr_c4).trans hv_c4.symm), N2, rfl⟩) (by decide) (by decide)
theorem own_d12_0 : decode jdk_42_method_56_code 0 = .ok (.aload_n 0, 1) := by decide +kernel
theorem own_d12_1 : decode jdk_42_method_56_code 1 = .ok (.invokevirtual 492, 3) := by decide +kernel
theorem own_pd___Z : parseMethodDescriptor "()Z" = some ⟨[], some .boolean⟩ := by decide +kernel
theorem own_d12_4 : decode jdk_42_method_56_code 4 = .ok (.ifCond .eq 12, 3) := by decide +kernel
theorem own_d12_7 : decode jdk_42_method_56_code 7 = .ok (.aload_n 0, 1) := by decide +kernel
theorem own_d12_8 : decode jdk_42_method_56_code 8 = .ok (.getfield 9, 3) := by decide +kernel
theorem own_d12_11 : decode jdk_42_method_56_code 11 = .ok (.iload_n 1, 1) := by decide +kernel
theorem own_d12_12 : decode jdk_42_method_56_code 12 = .ok (.invokestatic 495, 3) := by decide +kernel
theorem own_pd___BI_C : parseMethodDescriptor "([BI)C" = some ⟨[(.array .byte), .int], some .char⟩ := by decide +kernel
theorem own_d12_15 : decode jdk_42_method_56_code 15 = .ok (.ireturn, 1) := by decide +kernel
theorem own_ef_own_rchar (m : MethodId) (a1 : Addr) (p1 : Int32) : entryFrame m #[(.ref a1), (.int p1)] 2 = mkF m 0 #[rv a1, iv p1] [] := by first | (simp [entryFrame, mkF, argsToLocals, Value.category]; done) | rfl
def own_Q_own_rchar (Z : State) (a1 : Addr) (p1 : Int32) (cz : Int32) (fm : Value) (t : Addr) (kb : ClassId) (N : Int32) (vs : List Value) (x : Int32) (h0 : Heap) (n0 : Nat) (v : Option Value) (h : Heap) (L : List Loc) : Prop := v = some (.int (x &&& (255 : Int32))) ∧ Fr n0 L ∧ h = h0
set_option maxRecDepth 65536 in
set_option maxHeartbeats 40000000 in
theorem own_rchar (l : Launch) (Z : State) (a0 : Array Value) (hw : ∀ d ∈ tables_1, d.before a0 Z = true) (ws : List Jvm.Cond) (a1 : Addr) (p1 : Int32) (cz : Int32) (fm : Value) (t : Addr) (kb : ClassId) (N : Int32) (vs : List Value) (x : Int32) (h0 : Heap) (n0 : Nat) (Z0 : n0 ≤ h0.size) (O : Old Z n0 h0) (SC : Sta Z Z.heap "java/lang/String" "COMPACT_STRINGS" "Z" (.int cz)) (SF : Sta Z Z.heap "jdk/internal/util/Preconditions" "SIOOBE_FORMATTER" "Ljava/util/function/BiFunction;" fm) (Ex : Exa Z h0 a1 "java/lang/String") (Fv : Fld Z h0 a1 "java/lang/String" "value" "[B" (.ref t)) (Fc : Fld Z h0 a1 "java/lang/String" "coder" "B" (.int (0 : Int32))) (Va : Arv Z h0 t kb .byte N vs (.int (0 : Int32))) (hz : ¬ (cz = (0 : Int32))) (rfm : fm.isRef = true) (hj : ¬ (p1 < (0 : Int32)) ∧ p1 < N) (hat : vs.getD p1.toNatClampNeg (.int (0 : Int32)) = .int x) :
    MetFree l (⟨"java/lang/String", "charAt", "(I)C"⟩ : MethodName) (head1 (Jvm.Cond.code (⟨"java/lang/String", "charAt", "(I)C"⟩ : MethodName) jdk_42_method_56_code 2 (some .char) :: ws) ({ frames := 3, cells := 0, slots := 0, locals := 40 } : Room)) (fun a U => a = #[(.ref a1), (.int p1)] ∧ Z.Warmed39 U.vm ∧ U.heap = h0) (fun _ _ _ _ _ => True) (fun _ U o U' => ∃ v L, o = .returned v ∧ own_Q_own_rchar Z a1 p1 cz fm t kb N vs x h0 n0 v U'.heap L ∧ FrameEnd U o U' L ({ frames := 3, cells := 0, slots := 0, locals := 40 } : Room).cells ({ frames := 3, cells := 0, slots := 0, locals := 40 } : Room).slots) := by
  refine MetFree.of_bodySF (plainFor_of_name own_pn_java_lang_String) hisR ?_
  intro p e s m args below meth c s₁ Bd hml0 hP hK
  obtain ⟨rfl, hZ, hh⟩ := hP
  have hx := Bd.exec
  have hby := Bd.bytes
  have hml : c.maxLocals = 2 := hml0
  have hown : s.vm.findClass "java/lang/String" = some m.cls := findClass_of_methodNamed Bd.named
  have hnm := (name_of_methodNamed Bd.named Bd.method).1
  have X0 : Stand p l e ({ frames := 3, cells := 0, slots := 0, locals := 40 } : Room) s m #[(.ref a1), (.int p1)] below meth c s₁ [] 0 0 := Stand.of_body Bd
  have e0 : s₁.heap = h0 := by rw [← hh, Bd.state]; rfl
  have N0 := Fr.nil n0
  show own_Go p e below s (own_Q_own_rchar Z a1 p1 cz fm t kb N vs x h0 n0) ({ frames := 3, cells := 0, slots := 0, locals := 40 } : Room).cells ({ frames := 3, cells := 0, slots := 0, locals := 40 } : Room).slots (s₁.setTop (entryFrame m #[(.ref a1), (.int p1)] 2))
  refine own_go (fun zt zk => castTop (own_ef_own_rchar m a1 p1) zk) ?_
  show own_Go p e below s _ _ _ (s₁.setTop (mkF m 0 #[rv a1, iv p1] []))
  refine own_go (fun zt zk => (XS.aloadN X0.here hx rfl (hb hby own_d12_0) rfl rfl zk)) ?_
  show own_Go p e below s _ _ _ (s₁.setTop (mkF m 1 #[rv a1, iv p1] [(.ref a1)]))
  obtain ⟨cq1, kq1, qa1, qb1, qc1⟩ := isOf hZ e0 Ex
  obtain ⟨_, _, ⟨T1, L1, k1, n1⟩, -, X1, ⟨Lc1, hQ1, l1, y1, z1⟩, st1⟩ := X0.virtualBack hx (y := (⟨"java/lang/String", "isLatin1", "()Z"⟩ : MethodName)) (z := (⟨"java/lang/String", "isLatin1", "()Z"⟩ : MethodName)) hown (mvT hZ (hw _ (List.mem_of_getElem? (i := 61) rfl))) (mvT hZ (hw _ (List.mem_of_getElem? (i := 62) rfl))) (notFace_of_selects (args := #[]) (mvT hZ (hw _ (List.mem_of_getElem? (i := 64) rfl)))) (mvT hZ (hw _ (List.mem_of_getElem? (i := 64) rfl))) (mvT hZ (hw _ (List.mem_of_getElem? (i := 63) rfl))) (by decide) (backOf (W := 0) (own_risl l Z a0 hw [] a1 cz h0 n0 Z0 O SC Fc hz) hZ (hw _ (List.mem_of_getElem? (i := 65) rfl)) (hw _ (List.mem_of_getElem? (i := 4) rfl)) (by decide) (by decide)) qa1 qc1 (g := (mkF m 1 #[rv a1, iv p1] [(.ref a1)])) rfl (by rw [hml]; rfl) (Steps.refl _) (argsL := []) (rest := []) (lenOf own_pd___Z rfl) rfl (by show 2 * 0 + _ ≤ _; exact Nat.le_of_eq rfl) (hb hby own_d12_1) (fun _ _ => ⟨rfl, e0, (by decide : 0 + 0 ≤ _), (by decide : 0 + 0 ≤ _)⟩)
  dsimp only [Pt.U, Pt.locs, Pt.cells, Pt.slots] at X1 l1 y1 z1 st1 hQ1
  subst l1 y1 z1
  obtain ⟨rfl, Nq1, e1⟩ := hQ1
  have N1 := Fr.app N0 Nq1
  refine own_go (fun zt zk => st1.trans zk) ?_
  show own_Go p e below s _ _ _ (T1.setTop (mkF m 4 #[rv a1, iv p1] [(.int (1 : Int32))]))
  refine own_go (fun zt zk => (XS.ifNo X1.here hx rfl (hb hby own_d12_4) rfl ((if0 _ _).trans (feq ((by decide) : ¬ ((1 : Int32) = (0 : Int32)))).1) (XS.aloadN X1.here hx rfl (hb hby own_d12_7) rfl rfl zk))) ?_
  show own_Go p e below s _ _ _ (T1.setTop (mkF m 8 #[rv a1, iv p1] [(.ref a1)]))
  obtain ⟨T2, X2, e2, st2⟩ := getF X1 hx hZ hown (host := "") (Or.inl (hw _ (List.mem_of_getElem? (i := 26) rfl))) Via.refl e1 Fv (g := (mkF m 8 #[rv a1, iv p1] [(.ref a1)])) rfl rfl (hb hby own_d12_8)
  refine own_go st2 ?_
  show own_Go p e below s _ _ _ (T2.setTop (mkF m 11 #[rv a1, iv p1] [(.ref t)]))
  refine own_go (fun zt zk => (XS.iloadN X2.here hx rfl (hb hby own_d12_11) rfl zk)) ?_
  show own_Go p e below s _ _ _ (T2.setTop (mkF m 12 #[rv a1, iv p1] [(.int p1), (.ref t)]))
  obtain ⟨_, _, ⟨T3, L3, k3, n3⟩, -, X3, ⟨Lc3, hQ3, l3, y3, z3⟩, st3⟩ := Jvm.LawKit.callS X2 hx (y := (⟨"java/lang/StringLatin1", "charAt", "([BI)C"⟩ : MethodName)) hown (mvT hZ (hw _ (List.mem_of_getElem? (i := 66) rfl))) (mvT hZ (hw _ (List.mem_of_getElem? (i := 67) rfl))) (mvT hZ (hw _ (List.mem_of_getElem? (i := 68) rfl))) (mvT hZ (hw _ (List.mem_of_getElem? (i := 69) rfl))) (by decide) (backOf (W := 0) (own_rlch l Z a0 hw [] t p1 fm kb N vs x h0 n0 Z0 O SF Va rfm hj hat) hZ (hw _ (List.mem_of_getElem? (i := 69) rfl)) (hw _ (List.mem_of_getElem? (i := 68) rfl)) (by decide) (by decide)) (g := (mkF m 12 #[rv a1, iv p1] [(.int p1), (.ref t)])) rfl (by rw [hml]; rfl) (argsL := [(.ref t), (.int p1)]) (rest := []) (lenOf own_pd___BI_C rfl) rfl (by show 2 * 0 + _ ≤ _; exact Nat.le_of_eq rfl) (hb hby own_d12_12) (fun _ _ => ⟨rfl, e2, (by decide : 0 + 0 ≤ _), (by decide : 0 + 0 ≤ _)⟩)
  dsimp only [Pt.U, Pt.locs, Pt.cells, Pt.slots] at X3 l3 y3 z3 st3 hQ3
  subst l3 y3 z3
  obtain ⟨rfl, Nq3, e3⟩ := hQ3
  have N3 := Fr.app N1 Nq3
  refine own_go st3 ?_
  show own_Go p e below s _ _ _ (T3.setTop (mkF m 15 #[rv a1, iv p1] [(.int (x &&& (255 : Int32)))]))
  exact own_fin X3 Bd.notSynchronized (fun h => by rw [Bd.returns] at h; cases h) (fun fs hr => retN X3 hx (t := .char) Bd.returns (by simp) (hb hby own_d12_15) hr) (by rw [e3]; exact ⟨congrArg (fun z => some (Value.int z)) (i2c_mask x), N3, rfl⟩) (by decide) (by decide)
theorem own_d9_0 : decode jdk_52_method_21_code 0 = .ok (.iconst 0, 1) := by decide +kernel
theorem own_d9_1 : decode jdk_52_method_21_code 1 = .ok (.istore 5, 2) := by decide +kernel
theorem own_d9_3 : decode jdk_52_method_21_code 3 = .ok (.iload 5, 2) := by decide +kernel
theorem own_d9_5 : decode jdk_52_method_21_code 5 = .ok (.iload 4, 2) := by decide +kernel
theorem own_d9_7 : decode jdk_52_method_21_code 7 = .ok (.if_icmp .ge 37, 3) := by decide +kernel
theorem own_d9_44 : decode jdk_52_method_21_code 44 = .ok (.iload 4, 2) := by decide +kernel
theorem own_d9_46 : decode jdk_52_method_21_code 46 = .ok (.ireturn, 1) := by decide +kernel
theorem own_d9_10 : decode jdk_52_method_21_code 10 = .ok (.aload_n 0, 1) := by decide +kernel
theorem own_d9_11 : decode jdk_52_method_21_code 11 = .ok (.iload_n 1, 1) := by decide +kernel
theorem own_d9_12 : decode jdk_52_method_21_code 12 = .ok (.caload, 1) := by decide +kernel
theorem own_d9_13 : decode jdk_52_method_21_code 13 = .ok (.istore 6, 2) := by decide +kernel
theorem own_d9_15 : decode jdk_52_method_21_code 15 = .ok (.iload 6, 2) := by decide +kernel
theorem own_d9_17 : decode jdk_52_method_21_code 17 = .ok (.sipush 255, 3) := by decide +kernel
theorem own_d9_20 : decode jdk_52_method_21_code 20 = .ok (.if_icmp .le 6, 3) := by decide +kernel
theorem own_d9_23 : decode jdk_52_method_21_code 23 = .ok (.iload 5, 2) := by decide +kernel
theorem own_d9_25 : decode jdk_52_method_21_code 25 = .ok (.ireturn, 1) := by decide +kernel
theorem own_d9_26 : decode jdk_52_method_21_code 26 = .ok (.aload_n 2, 1) := by decide +kernel
theorem own_d9_27 : decode jdk_52_method_21_code 27 = .ok (.iload_n 3, 1) := by decide +kernel
theorem own_d9_28 : decode jdk_52_method_21_code 28 = .ok (.iload 6, 2) := by decide +kernel
theorem own_d9_30 : decode jdk_52_method_21_code 30 = .ok (.i2b, 1) := by decide +kernel
theorem own_d9_31 : decode jdk_52_method_21_code 31 = .ok (.bastore, 1) := by decide +kernel
theorem own_d9_32 : decode jdk_52_method_21_code 32 = .ok (.iinc 1 1, 3) := by decide +kernel
theorem own_d9_35 : decode jdk_52_method_21_code 35 = .ok (.iinc 3 1, 3) := by decide +kernel
theorem own_d9_38 : decode jdk_52_method_21_code 38 = .ok (.iinc 5 1, 3) := by decide +kernel
theorem own_d9_41 : decode jdk_52_method_21_code 41 = .ok (.goto (-38), 3) := by decide +kernel
theorem own_pn_java_lang_StringUTF16 : plainName "java/lang/StringUTF16" = true := by first | (simp [plainName, overriddenIn]; done) | decide +kernel
theorem own_ef_own_rc5 (m : MethodId) (src : Addr) (dst : Addr) (xs : List Int32) : entryFrame m #[(.ref src), (.int (0 : Int32)), (.ref dst), (.int (0 : Int32)), (.int (Int32.ofNat xs.length))] 7 = mkF m 0 #[rv src, iv (0 : Int32), rv dst, iv (0 : Int32), iv (Int32.ofNat xs.length), .unset, .unset] [] := by first | (simp [entryFrame, mkF, argsToLocals, Value.category]; done) | rfl
def own_Q_own_rc5 (Z : State) (src : Addr) (dst : Addr) (ks kd : ClassId) (xs zs : List Int32) (h0 : Heap) (n0 : Nat) (v : Option Value) (h : Heap) (L : List Loc) : Prop := ∃ r ys, v = some (.int (Int32.ofNat r)) ∧ Fr n0 L ∧ Keep h0 h [dst] ∧ Arv Z h dst kd .byte (Int32.ofNat xs.length) (ys.map Value.int) (.int (0 : Int32)) ∧ ys.length = xs.length ∧ ((r = xs.length ∧ own_L1 xs ys xs.length) ∨ (r < xs.length ∧ (255 : Int32) < xs.getD r 0))
set_option maxRecDepth 65536 in
set_option maxHeartbeats 40000000 in
theorem own_rc5 (l : Launch) (Z : State) (a0 : Array Value) (hw : ∀ d ∈ tables_1, d.before a0 Z = true) (ws : List Jvm.Cond) (src : Addr) (dst : Addr) (ks kd : ClassId) (xs zs : List Int32) (h0 : Heap) (n0 : Nat) (Z0 : n0 ≤ h0.size) (Vs : Arv Z h0 src ks .char (Int32.ofNat xs.length) (xs.map Value.int) (.int (0 : Int32))) (Vd : Arv Z h0 dst kd .byte (Int32.ofNat xs.length) (zs.map Value.int) (.int (0 : Int32))) (hl : zs.length = xs.length) (h4 : xs.length ≤ 4) (g_dst : n0 ≤ dst) (hne : src ≠ dst) :
    MetFree l (⟨"java/lang/StringUTF16", "compress", "([CI[BII)I"⟩ : MethodName) (head1 (Jvm.Cond.code (⟨"java/lang/StringUTF16", "compress", "([CI[BII)I"⟩ : MethodName) jdk_52_method_21_code 7 (some .int) :: ws) ({ frames := 0, cells := 0, slots := 0, locals := 0 } : Room)) (fun a U => a = #[(.ref src), (.int (0 : Int32)), (.ref dst), (.int (0 : Int32)), (.int (Int32.ofNat xs.length))] ∧ Z.Warmed39 U.vm ∧ U.heap = h0) (fun _ _ _ _ _ => True) (fun _ U o U' => ∃ v L, o = .returned v ∧ own_Q_own_rc5 Z src dst ks kd xs zs h0 n0 v U'.heap L ∧ FrameEnd U o U' L ({ frames := 0, cells := 0, slots := 0, locals := 0 } : Room).cells ({ frames := 0, cells := 0, slots := 0, locals := 0 } : Room).slots) := by
  refine MetFree.of_bodySF (plainFor_of_name own_pn_java_lang_StringUTF16) hisR ?_
  intro p e s m args below meth c s₁ Bd hml0 hP hK
  obtain ⟨rfl, hZ, hh⟩ := hP
  have hx := Bd.exec
  have hby := Bd.bytes
  have hml : c.maxLocals = 7 := hml0
  have hown : s.vm.findClass "java/lang/StringUTF16" = some m.cls := findClass_of_methodNamed Bd.named
  have hnm := (name_of_methodNamed Bd.named Bd.method).1
  have X0 : Stand p l e ({ frames := 0, cells := 0, slots := 0, locals := 0 } : Room) s m #[(.ref src), (.int (0 : Int32)), (.ref dst), (.int (0 : Int32)), (.int (Int32.ofNat xs.length))] below meth c s₁ [] 0 0 := Stand.of_body Bd
  have e0 : s₁.heap = h0 := by rw [← hh, Bd.state]; rfl
  have N0 := Fr.nil n0
  have Kp : Keep h0 h0 [dst] := Keep.refl h0 _
  show own_Go p e below s (own_Q_own_rc5 Z src dst ks kd xs zs h0 n0) ({ frames := 0, cells := 0, slots := 0, locals := 0 } : Room).cells ({ frames := 0, cells := 0, slots := 0, locals := 0 } : Room).slots (s₁.setTop (entryFrame m #[(.ref src), (.int (0 : Int32)), (.ref dst), (.int (0 : Int32)), (.int (Int32.ofNat xs.length))] 7))
  refine own_go (fun zt zk => castTop (own_ef_own_rc5 m src dst xs) zk) ?_
  show own_Go p e below s _ _ _ (s₁.setTop (mkF m 0 #[rv src, iv (0 : Int32), rv dst, iv (0 : Int32), iv (Int32.ofNat xs.length), .unset, .unset] []))
  refine own_go (fun zt zk => (XS.iconst X0.here hx rfl (hb hby own_d9_0) (XS.istore X0.here hx rfl (hb hby own_d9_1) rfl (l' := #[rv src, iv (0 : Int32), rv dst, iv (0 : Int32), iv (Int32.ofNat xs.length), iv (0 : Int32), .unset]) rfl zk))) ?_
  show own_Go p e below s _ _ _ (s₁.setTop (mkF m 3 #[rv src, iv (0 : Int32), rv dst, iv (0 : Int32), iv (Int32.ofNat xs.length), iv (0 : Int32), .unset] []))
  have loop : ∀ (d i : Nat) (ys : List Int32) (T : State) (h : Heap) (L : List Loc) (z : Slot), (z = .unset ∨ ∃ x : Int32, z = iv x) → i + d = xs.length → ys.length = xs.length → own_L1 xs ys i → Stand p l e ({ frames := 0, cells := 0, slots := 0, locals := 0 } : Room) s m #[(.ref src), (.int (0 : Int32)), (.ref dst), (.int (0 : Int32)), (.int (Int32.ofNat xs.length))] below meth c T L 0 0 → T.heap = h → Fr n0 L → Keep h0 h [dst] → Arv Z h src ks .char (Int32.ofNat xs.length) (xs.map Value.int) (.int (0 : Int32)) → Arv Z h dst kd .byte (Int32.ofNat xs.length) (ys.map Value.int) (.int (0 : Int32)) → own_Go p e below s (own_Q_own_rc5 Z src dst ks kd xs zs h0 n0) ({ frames := 0, cells := 0, slots := 0, locals := 0 } : Room).cells ({ frames := 0, cells := 0, slots := 0, locals := 0 } : Room).slots (T.setTop (mkF m 3 #[rv src, iv (Int32.ofNat i), rv dst, iv (Int32.ofNat i), iv (Int32.ofNat xs.length), iv (Int32.ofNat i), z] [])) := by
    intro d
    induction d with
    | zero =>
      intro i ys T h L z hs_z hi hl hr X eT N Kp Vs Vd
      obtain rfl : i = xs.length := by omega
      show own_Go p e below s _ _ _ (T.setTop (mkF m 3 #[rv src, iv (Int32.ofNat xs.length), rv dst, iv (Int32.ofNat xs.length), iv (Int32.ofNat xs.length), iv (Int32.ofNat xs.length), z] []))
      refine own_go (fun zt zk => (XS.iload X.here hx rfl (hb hby own_d9_3) rfl (XS.iload X.here hx rfl (hb hby own_d9_5) rfl (XS.icmpYes X.here hx rfl (pc0 := 7) (pc' := 44) rfl (hb hby own_d9_7) rfl (flt ((own_irr _) : ¬ ((Int32.ofNat xs.length) < (Int32.ofNat xs.length)))).2.1 (by decide) (by decide) (XS.iload X.here hx rfl (hb hby own_d9_44) rfl zk))))) ?_
      show own_Go p e below s _ _ _ (T.setTop (mkF m 46 #[rv src, iv (Int32.ofNat xs.length), rv dst, iv (Int32.ofNat xs.length), iv (Int32.ofNat xs.length), iv (Int32.ofNat xs.length), z] [(.int (Int32.ofNat xs.length))]))
      exact own_fin X Bd.notSynchronized (fun h => by rw [Bd.returns] at h; cases h) (fun fs hr => retOut X hx (t := .int) (w := (.int (Int32.ofNat xs.length))) Bd.returns rfl (Or.inl ⟨rfl, Or.inl rfl, _, rfl⟩) (hb hby own_d9_46) hr) (by rw [eT]; exact ⟨xs.length, ys, rfl, N, Kp, Vd, hl, Or.inl ⟨rfl, hr⟩⟩) (by decide) (by decide)
    | succ d ih =>
      intro i ys T h L z hs_z hi hl hr X eT N Kp Vs Vd
      have hlt : i < xs.length := by omega
      show own_Go p e below s _ _ _ (T.setTop (mkF m 3 #[rv src, iv (Int32.ofNat i), rv dst, iv (Int32.ofNat i), iv (Int32.ofNat xs.length), iv (Int32.ofNat i), z] []))
      refine own_go (fun zt zk => (XS.iload X.here hx rfl (hb hby own_d9_3) rfl (XS.iload X.here hx rfl (hb hby own_d9_5) rfl (XS.icmpNo X.here hx rfl (hb hby own_d9_7) rfl (tlt (((own_ltN (by omega) (by omega)).mpr hlt) : (Int32.ofNat i) < (Int32.ofNat xs.length))).2.1 (XS.aloadN X.here hx rfl (hb hby own_d9_10) rfl rfl (XS.iloadN X.here hx rfl (hb hby own_d9_11) rfl zk)))))) ?_
      show own_Go p e below s _ _ _ (T.setTop (mkF m 12 #[rv src, iv (Int32.ofNat i), rv dst, iv (Int32.ofNat i), iv (Int32.ofNat xs.length), iv (Int32.ofNat i), z] [(.int (Int32.ofNat i)), (.ref src)]))
      obtain ⟨cl1, Ar1, q1, Sz1, Nz1, Ha1, Ga1⟩ := id Vs
      have hin1 : ¬ ((Int32.ofNat i) < 0 ∨ cl1.slots.size ≤ ((Int32.ofNat i)).toNatClampNeg) := inb_of Sz1 ⟨own_nnN (by omega), (own_ltN (by omega) (by omega)).mpr hlt⟩
      have hat1 : cl1.slots[((Int32.ofNat i)).toNatClampNeg]? = some (.int (xs.getD i 0)) := Has.at Ha1 hin1 (by rw [(own_ofNat (q := i) (by omega)).2]; exact own_mapget xs i)
      refine own_go (X.caload hx (j := (Int32.ofNat i)) (v := (.int (xs.getD i 0))) (by rw [eT]; exact Ar1.1) (State.isArrayOf_alike hZ.alike Ar1.2.1) Ar1.2.2 hin1 hat1 (g := (mkF m 12 #[rv src, iv (Int32.ofNat i), rv dst, iv (Int32.ofNat i), iv (Int32.ofNat xs.length), iv (Int32.ofNat i), z] [(.int (Int32.ofNat i)), (.ref src)])) rfl rfl (hb hby own_d9_12)) ?_
      show own_Go p e below s _ _ _ (T.setTop (mkF m 13 #[rv src, iv (Int32.ofNat i), rv dst, iv (Int32.ofNat i), iv (Int32.ofNat xs.length), iv (Int32.ofNat i), z] [(.int (xs.getD i 0))]))
      refine own_go (fun zt zk => (XS.istore X.here hx rfl (hb hby own_d9_13) rfl (l' := #[rv src, iv (Int32.ofNat i), rv dst, iv (Int32.ofNat i), iv (Int32.ofNat xs.length), iv (Int32.ofNat i), iv (xs.getD i 0)]) (by rcases hs_z with rfl | ⟨_, rfl⟩ <;> rfl) (XS.iload X.here hx rfl (hb hby own_d9_15) rfl (XS.sipush X.here hx rfl (hb hby own_d9_17) zk)))) ?_
      show own_Go p e below s _ _ _ (T.setTop (mkF m 20 #[rv src, iv (Int32.ofNat i), rv dst, iv (Int32.ofNat i), iv (Int32.ofNat xs.length), iv (Int32.ofNat i), iv (xs.getD i 0)] [(.int (255 : Int32)), (.int (xs.getD i 0))]))
      by_cases hB : (255 : Int32) < (xs.getD i 0)
      · refine own_go (fun zt zk => (XS.icmpNo X.here hx rfl (hb hby own_d9_20) rfl (tlt (hB : (255 : Int32) < (xs.getD i 0))).2.2.2 (XS.iload X.here hx rfl (hb hby own_d9_23) rfl zk))) ?_
        show own_Go p e below s _ _ _ (T.setTop (mkF m 25 #[rv src, iv (Int32.ofNat i), rv dst, iv (Int32.ofNat i), iv (Int32.ofNat xs.length), iv (Int32.ofNat i), iv (xs.getD i 0)] [(.int (Int32.ofNat i))]))
        exact own_fin X Bd.notSynchronized (fun h => by rw [Bd.returns] at h; cases h) (fun fs hr => retOut X hx (t := .int) (w := (.int (Int32.ofNat i))) Bd.returns rfl (Or.inl ⟨rfl, Or.inl rfl, _, rfl⟩) (hb hby own_d9_25) hr) (by rw [eT]; exact ⟨i, ys, rfl, N, Kp, Vd, hl, Or.inr ⟨hlt, hB⟩⟩) (by decide) (by decide)
      · refine own_go (fun zt zk => (XS.icmpYes X.here hx rfl (pc0 := 20) (pc' := 26) rfl (hb hby own_d9_20) rfl (flt (hB : ¬ ((255 : Int32) < (xs.getD i 0)))).2.2.2 (by decide) (by decide) (XS.aloadN X.here hx rfl (hb hby own_d9_26) rfl rfl (XS.iloadN X.here hx rfl (hb hby own_d9_27) rfl (XS.iload X.here hx rfl (hb hby own_d9_28) rfl (XS.i2b X.here hx rfl (hb hby own_d9_30) rfl zk)))))) ?_
        show own_Go p e below s _ _ _ (T.setTop (mkF m 31 #[rv src, iv (Int32.ofNat i), rv dst, iv (Int32.ofNat i), iv (Int32.ofNat xs.length), iv (Int32.ofNat i), iv (xs.getD i 0)] [(.int ((xs.getD i 0).toInt8.toInt32)), (.int (Int32.ofNat i)), (.ref dst)]))
        obtain ⟨cl2, Ar2, q2, Sz2, Nz2, Ha2, Ga2⟩ := id Vd
        have hin2 : ¬ ((Int32.ofNat i) < 0 ∨ cl2.slots.size ≤ ((Int32.ofNat i)).toNatClampNeg) := inb_of Sz2 ⟨own_nnN (by omega), (own_ltN (by omega) (by omega)).mpr hlt⟩
        obtain ⟨T3, h3, X3, e3, W3, st3⟩ := stB X hx hZ eT Ar2 (j := (Int32.ofNat i)) hin2 (g := (mkF m 31 #[rv src, iv (Int32.ofNat i), rv dst, iv (Int32.ofNat i), iv (Int32.ofNat xs.length), iv (Int32.ofNat i), iv (xs.getD i 0)] [(.int ((xs.getD i 0).toInt8.toInt32)), (.int (Int32.ofNat i)), (.ref dst)])) rfl rfl (hb hby own_d9_31)
        refine own_go st3 ?_
        rw [show nar .byte ((xs.getD i 0).toInt8.toInt32) = ((xs.getD i 0).toInt8.toInt32) from own_b8 _] at W3
        have V3 := Arv.set Ar2 q2 Sz2 Nz2 Ha2 Ga2 (fits_nar_byte _) W3 i (own_ofNat (by omega)).2 (by rw [List.length_map]; omega)
        have N3 := Fr.snoc X3 N g_dst
        replace Vs := Vs.other W3 hne
        replace Kp := Kp.wr W3 (Or.inl (List.mem_of_getElem? (i := 0) rfl))
        replace Vd : Arv Z h3 dst kd .byte (Int32.ofNat xs.length) ((ys.set i ((xs.getD i 0).toInt8.toInt32)).map Value.int) (.int (0 : Int32)) := by rw [List.map_set]; exact V3
        show own_Go p e below s _ _ _ (T3.setTop (mkF m 32 #[rv src, iv (Int32.ofNat i), rv dst, iv (Int32.ofNat i), iv (Int32.ofNat xs.length), iv (Int32.ofNat i), iv (xs.getD i 0)] []))
        refine own_go (fun zt zk => (XS.iinc X3.here hx rfl (hb hby own_d9_32) rfl (l' := #[rv src, iv ((Int32.ofNat i) + (1 : Int32)), rv dst, iv (Int32.ofNat i), iv (Int32.ofNat xs.length), iv (Int32.ofNat i), iv (xs.getD i 0)]) rfl (XS.iinc X3.here hx rfl (hb hby own_d9_35) rfl (l' := #[rv src, iv ((Int32.ofNat i) + (1 : Int32)), rv dst, iv ((Int32.ofNat i) + (1 : Int32)), iv (Int32.ofNat xs.length), iv (Int32.ofNat i), iv (xs.getD i 0)]) rfl (XS.iinc X3.here hx rfl (hb hby own_d9_38) rfl (l' := #[rv src, iv ((Int32.ofNat i) + (1 : Int32)), rv dst, iv ((Int32.ofNat i) + (1 : Int32)), iv (Int32.ofNat xs.length), iv ((Int32.ofNat i) + (1 : Int32)), iv (xs.getD i 0)]) rfl (XS.goto X3.here hx rfl (pc0 := 41) (pc' := 3) rfl (hb hby own_d9_41) (by decide) (by decide) zk))))) ?_
        show own_Go p e below s _ _ _ (T3.setTop (mkF m 3 #[rv src, iv ((Int32.ofNat i) + (1 : Int32)), rv dst, iv ((Int32.ofNat i) + (1 : Int32)), iv (Int32.ofNat xs.length), iv ((Int32.ofNat i) + (1 : Int32)), iv (xs.getD i 0)] []))
        rw [own_inc i (by omega)]
        exact ih (i + 1) _ _ _ _ _ (Or.inr ⟨_, rfl⟩) (by omega) (by rw [List.length_set]; exact hl) (own_L1_set hr hl hlt hB) X3 e3 N3 Kp Vs Vd
  exact loop xs.length 0 zs _ _ _ _ (Or.inl rfl) (Nat.zero_add _) hl (fun j hj => absurd hj (Nat.not_lt_zero j)) X0 e0 N0 Kp Vs Vd
theorem own_d20_0 : decode jdk_52_method_4_code 0 = .ok (.getstatic 44, 3) := by decide +kernel
theorem own_d20_3 : decode jdk_52_method_4_code 3 = .ok (.ifCond .ne 25, 3) := by decide +kernel
theorem own_d20_28 : decode jdk_52_method_4_code 28 = .ok (.iload_n 1, 1) := by decide +kernel
theorem own_d20_29 : decode jdk_52_method_4_code 29 = .ok (.iconst 1, 1) := by decide +kernel
theorem own_d20_30 : decode jdk_52_method_4_code 30 = .ok (.ishl, 1) := by decide +kernel
theorem own_d20_31 : decode jdk_52_method_4_code 31 = .ok (.istore_n 1, 1) := by decide +kernel
theorem own_d20_32 : decode jdk_52_method_4_code 32 = .ok (.aload_n 0, 1) := by decide +kernel
theorem own_d20_33 : decode jdk_52_method_4_code 33 = .ok (.iload_n 1, 1) := by decide +kernel
theorem own_d20_34 : decode jdk_52_method_4_code 34 = .ok (.iinc 1 1, 3) := by decide +kernel
theorem own_d20_37 : decode jdk_52_method_4_code 37 = .ok (.iload_n 2, 1) := by decide +kernel
theorem own_d20_38 : decode jdk_52_method_4_code 38 = .ok (.getstatic 59, 3) := by decide +kernel
theorem own_d20_41 : decode jdk_52_method_4_code 41 = .ok (.ishr, 1) := by decide +kernel
theorem own_d20_42 : decode jdk_52_method_4_code 42 = .ok (.i2b, 1) := by decide +kernel
theorem own_d20_43 : decode jdk_52_method_4_code 43 = .ok (.bastore, 1) := by decide +kernel
theorem own_d20_44 : decode jdk_52_method_4_code 44 = .ok (.aload_n 0, 1) := by decide +kernel
theorem own_d20_45 : decode jdk_52_method_4_code 45 = .ok (.iload_n 1, 1) := by decide +kernel
theorem own_d20_46 : decode jdk_52_method_4_code 46 = .ok (.iload_n 2, 1) := by decide +kernel
theorem own_d20_47 : decode jdk_52_method_4_code 47 = .ok (.getstatic 63, 3) := by decide +kernel
theorem own_d20_50 : decode jdk_52_method_4_code 50 = .ok (.ishr, 1) := by decide +kernel
theorem own_d20_51 : decode jdk_52_method_4_code 51 = .ok (.i2b, 1) := by decide +kernel
theorem own_d20_52 : decode jdk_52_method_4_code 52 = .ok (.bastore, 1) := by decide +kernel
theorem own_d20_53 : decode jdk_52_method_4_code 53 = .ok (.return_, 1) := by decide +kernel
theorem own_ef_own_rput (m : MethodId) (dst : Addr) (cc : Int32) (i : Nat) : entryFrame m #[(.ref dst), (.int (Int32.ofNat i)), (.int cc)] 3 = mkF m 0 #[rv dst, iv (Int32.ofNat i), iv cc] [] := by first | (simp [entryFrame, mkF, argsToLocals, Value.category]; done) | rfl
def own_Q_own_rput (Z : State) (dst : Addr) (cc : Int32) (i : Nat) (kd : ClassId) (zs : List Int32) (h0 : Heap) (n0 : Nat) (v : Option Value) (h : Heap) (L : List Loc) : Prop := v = none ∧ Fr n0 L ∧ Keep h0 h [dst] ∧ Arv Z h dst kd .byte (Int32.ofNat zs.length) (((zs.set (2 * i) ((cc >>> ((0 : Int32) &&& 31)).toInt8.toInt32)).set (2 * i + 1) ((cc >>> ((8 : Int32) &&& 31)).toInt8.toInt32)).map Value.int) (.int (0 : Int32))
set_option maxRecDepth 65536 in
set_option maxHeartbeats 40000000 in
theorem own_rput (l : Launch) (Z : State) (a0 : Array Value) (hw : ∀ d ∈ tables_1, d.before a0 Z = true) (ws : List Jvm.Cond) (dst : Addr) (cc : Int32) (i : Nat) (kd : ClassId) (zs : List Int32) (h0 : Heap) (n0 : Nat) (Z0 : n0 ≤ h0.size) (O : Old Z n0 h0) (SA : Sta Z Z.heap "java/lang/StringUTF16" "$assertionsDisabled" "Z" (.int (1 : Int32))) (SH : Sta Z Z.heap "java/lang/StringUTF16" "HI_BYTE_SHIFT" "I" (.int (0 : Int32))) (SL : Sta Z Z.heap "java/lang/StringUTF16" "LO_BYTE_SHIFT" "I" (.int (8 : Int32))) (Vd : Arv Z h0 dst kd .byte (Int32.ofNat zs.length) (zs.map Value.int) (.int (0 : Int32))) (g_dst : n0 ≤ dst) (hm : 2 * i + 1 < zs.length) (h8 : zs.length ≤ 8) :
    MetFree l (⟨"java/lang/StringUTF16", "putChar", "([BII)V"⟩ : MethodName) (head1 (Jvm.Cond.code (⟨"java/lang/StringUTF16", "putChar", "([BII)V"⟩ : MethodName) jdk_52_method_4_code 3 none :: ws) ({ frames := 0, cells := 0, slots := 0, locals := 0 } : Room)) (fun a U => a = #[(.ref dst), (.int (Int32.ofNat i)), (.int cc)] ∧ Z.Warmed39 U.vm ∧ U.heap = h0) (fun _ _ _ _ _ => True) (fun _ U o U' => ∃ v L, o = .returned v ∧ own_Q_own_rput Z dst cc i kd zs h0 n0 v U'.heap L ∧ FrameEnd U o U' L ({ frames := 0, cells := 0, slots := 0, locals := 0 } : Room).cells ({ frames := 0, cells := 0, slots := 0, locals := 0 } : Room).slots) := by
  refine MetFree.of_bodySF (plainFor_of_name own_pn_java_lang_StringUTF16) hisR ?_
  intro p e s m args below meth c s₁ Bd hml0 hP hK
  obtain ⟨rfl, hZ, hh⟩ := hP
  have hx := Bd.exec
  have hby := Bd.bytes
  have hml : c.maxLocals = 3 := hml0
  have hown : s.vm.findClass "java/lang/StringUTF16" = some m.cls := findClass_of_methodNamed Bd.named
  have hnm := (name_of_methodNamed Bd.named Bd.method).1
  have X0 : Stand p l e ({ frames := 0, cells := 0, slots := 0, locals := 0 } : Room) s m #[(.ref dst), (.int (Int32.ofNat i)), (.int cc)] below meth c s₁ [] 0 0 := Stand.of_body Bd
  have e0 : s₁.heap = h0 := by rw [← hh, Bd.state]; rfl
  have N0 := Fr.nil n0
  have Kp : Keep h0 h0 [dst] := Keep.refl h0 _
  show own_Go p e below s (own_Q_own_rput Z dst cc i kd zs h0 n0) ({ frames := 0, cells := 0, slots := 0, locals := 0 } : Room).cells ({ frames := 0, cells := 0, slots := 0, locals := 0 } : Room).slots (s₁.setTop (entryFrame m #[(.ref dst), (.int (Int32.ofNat i)), (.int cc)] 3))
  refine own_go (fun zt zk => castTop (own_ef_own_rput m dst cc i) zk) ?_
  show own_Go p e below s _ _ _ (s₁.setTop (mkF m 0 #[rv dst, iv (Int32.ofNat i), iv cc] []))
  obtain ⟨T1, X1, e1, st1⟩ := getS2 X0 hx hZ hown (host := "") (Or.inl (hw _ (List.mem_of_getElem? (i := 91) rfl))) Via.refl e0 (SA.ext O.2) (g := (mkF m 0 #[rv dst, iv (Int32.ofNat i), iv cc] [])) rfl (hb hby own_d20_0)
  refine own_go st1 ?_
  show own_Go p e below s _ _ _ (T1.setTop (mkF m 3 #[rv dst, iv (Int32.ofNat i), iv cc] [(.int (1 : Int32))]))
  refine own_go (fun zt zk => (XS.ifYes X1.here hx rfl (pc0 := 3) (pc' := 28) rfl (hb hby own_d20_3) rfl ((if0 _ _).trans (feq ((by decide) : ¬ ((1 : Int32) = (0 : Int32)))).2) (by decide) (by decide) (XS.iloadN X1.here hx rfl (hb hby own_d20_28) rfl (XS.iconst X1.here hx rfl (hb hby own_d20_29) (XS.ishl X1.here hx rfl (hb hby own_d20_30) rfl zk))))) ?_
  show own_Go p e below s _ _ _ (T1.setTop (mkF m 31 #[rv dst, iv (Int32.ofNat i), iv cc] [(.int ((Int32.ofNat i) <<< ((1 : Int32) &&& 31)))]))
  rw [own_dbl i (by omega)]
  show own_Go p e below s _ _ _ (T1.setTop (mkF m 31 #[rv dst, iv (Int32.ofNat i), iv cc] [(.int (Int32.ofNat (2 * i)))]))
  refine own_go (fun zt zk => (XS.istoreN X1.here hx rfl (hb hby own_d20_31) rfl (l' := #[rv dst, iv (Int32.ofNat (2 * i)), iv cc]) rfl (XS.aloadN X1.here hx rfl (hb hby own_d20_32) rfl rfl (XS.iloadN X1.here hx rfl (hb hby own_d20_33) rfl (XS.iinc X1.here hx rfl (hb hby own_d20_34) rfl (l' := #[rv dst, iv ((Int32.ofNat (2 * i)) + (1 : Int32)), iv cc]) rfl (XS.iloadN X1.here hx rfl (hb hby own_d20_37) rfl zk)))))) ?_
  show own_Go p e below s _ _ _ (T1.setTop (mkF m 38 #[rv dst, iv ((Int32.ofNat (2 * i)) + (1 : Int32)), iv cc] [(.int cc), (.int (Int32.ofNat (2 * i))), (.ref dst)]))
  obtain ⟨T2, X2, e2, st2⟩ := getS2 X1 hx hZ hown (host := "") (Or.inl (hw _ (List.mem_of_getElem? (i := 92) rfl))) Via.refl e1 (SH.ext O.2) (g := (mkF m 38 #[rv dst, iv ((Int32.ofNat (2 * i)) + (1 : Int32)), iv cc] [(.int cc), (.int (Int32.ofNat (2 * i))), (.ref dst)])) rfl (hb hby own_d20_38)
  refine own_go st2 ?_
  show own_Go p e below s _ _ _ (T2.setTop (mkF m 41 #[rv dst, iv ((Int32.ofNat (2 * i)) + (1 : Int32)), iv cc] [(.int (0 : Int32)), (.int cc), (.int (Int32.ofNat (2 * i))), (.ref dst)]))
  refine own_go (fun zt zk => (XS.ishr X2.here hx rfl (hb hby own_d20_41) rfl (XS.i2b X2.here hx rfl (hb hby own_d20_42) rfl zk))) ?_
  show own_Go p e below s _ _ _ (T2.setTop (mkF m 43 #[rv dst, iv ((Int32.ofNat (2 * i)) + (1 : Int32)), iv cc] [(.int ((cc >>> ((0 : Int32) &&& 31)).toInt8.toInt32)), (.int (Int32.ofNat (2 * i))), (.ref dst)]))
  obtain ⟨cl3, Ar3, q3, Sz3, Nz3, Ha3, Ga3⟩ := id Vd
  have hin3 : ¬ ((Int32.ofNat (2 * i)) < 0 ∨ cl3.slots.size ≤ ((Int32.ofNat (2 * i))).toNatClampNeg) := inb_of Sz3 ⟨own_nnN (by omega), (own_ltN (by omega) (by omega)).mpr (by omega)⟩
  obtain ⟨T4, h4, X4, e4, W4, st4⟩ := stB X2 hx hZ e2 Ar3 (j := (Int32.ofNat (2 * i))) hin3 (g := (mkF m 43 #[rv dst, iv ((Int32.ofNat (2 * i)) + (1 : Int32)), iv cc] [(.int ((cc >>> ((0 : Int32) &&& 31)).toInt8.toInt32)), (.int (Int32.ofNat (2 * i))), (.ref dst)])) rfl rfl (hb hby own_d20_43)
  refine own_go st4 ?_
  rw [show nar .byte ((cc >>> ((0 : Int32) &&& 31)).toInt8.toInt32) = ((cc >>> ((0 : Int32) &&& 31)).toInt8.toInt32) from own_b8 _] at W4
  have V4 := Arv.set Ar3 q3 Sz3 Nz3 Ha3 Ga3 (fits_nar_byte _) W4 (2 * i) (own_ofNat (by omega)).2 (by rw [List.length_map]; omega)
  have N4 := Fr.snoc X4 N0 g_dst
  replace O := O.wr W4 g_dst
  replace Kp := Kp.wr W4 (Or.inl (List.mem_of_getElem? (i := 0) rfl))
  replace Vd : Arv Z h4 dst kd .byte (Int32.ofNat zs.length) ((zs.set (2 * i) ((cc >>> ((0 : Int32) &&& 31)).toInt8.toInt32)).map Value.int) (.int (0 : Int32)) := by rw [List.map_set]; exact V4
  show own_Go p e below s _ _ _ (T4.setTop (mkF m 44 #[rv dst, iv ((Int32.ofNat (2 * i)) + (1 : Int32)), iv cc] []))
  rw [own_inc (2 * i) (by omega)]
  show own_Go p e below s _ _ _ (T4.setTop (mkF m 44 #[rv dst, iv (Int32.ofNat (2 * i + 1)), iv cc] []))
  refine own_go (fun zt zk => (XS.aloadN X4.here hx rfl (hb hby own_d20_44) rfl rfl (XS.iloadN X4.here hx rfl (hb hby own_d20_45) rfl (XS.iloadN X4.here hx rfl (hb hby own_d20_46) rfl zk)))) ?_
  show own_Go p e below s _ _ _ (T4.setTop (mkF m 47 #[rv dst, iv (Int32.ofNat (2 * i + 1)), iv cc] [(.int cc), (.int (Int32.ofNat (2 * i + 1))), (.ref dst)]))
  obtain ⟨T5, X5, e5, st5⟩ := getS2 X4 hx hZ hown (host := "") (Or.inl (hw _ (List.mem_of_getElem? (i := 93) rfl))) Via.refl e4 (SL.ext O.2) (g := (mkF m 47 #[rv dst, iv (Int32.ofNat (2 * i + 1)), iv cc] [(.int cc), (.int (Int32.ofNat (2 * i + 1))), (.ref dst)])) rfl (hb hby own_d20_47)
  refine own_go st5 ?_
  show own_Go p e below s _ _ _ (T5.setTop (mkF m 50 #[rv dst, iv (Int32.ofNat (2 * i + 1)), iv cc] [(.int (8 : Int32)), (.int cc), (.int (Int32.ofNat (2 * i + 1))), (.ref dst)]))
  refine own_go (fun zt zk => (XS.ishr X5.here hx rfl (hb hby own_d20_50) rfl (XS.i2b X5.here hx rfl (hb hby own_d20_51) rfl zk))) ?_
  show own_Go p e below s _ _ _ (T5.setTop (mkF m 52 #[rv dst, iv (Int32.ofNat (2 * i + 1)), iv cc] [(.int ((cc >>> ((8 : Int32) &&& 31)).toInt8.toInt32)), (.int (Int32.ofNat (2 * i + 1))), (.ref dst)]))
  obtain ⟨cl6, Ar6, q6, Sz6, Nz6, Ha6, Ga6⟩ := id Vd
  have hin6 : ¬ ((Int32.ofNat (2 * i + 1)) < 0 ∨ cl6.slots.size ≤ ((Int32.ofNat (2 * i + 1))).toNatClampNeg) := inb_of Sz6 ⟨own_nnN (by omega), (own_ltN (by omega) (by omega)).mpr (by omega)⟩
  obtain ⟨T7, h7, X7, e7, W7, st7⟩ := stB X5 hx hZ e5 Ar6 (j := (Int32.ofNat (2 * i + 1))) hin6 (g := (mkF m 52 #[rv dst, iv (Int32.ofNat (2 * i + 1)), iv cc] [(.int ((cc >>> ((8 : Int32) &&& 31)).toInt8.toInt32)), (.int (Int32.ofNat (2 * i + 1))), (.ref dst)])) rfl rfl (hb hby own_d20_52)
  refine own_go st7 ?_
  rw [show nar .byte ((cc >>> ((8 : Int32) &&& 31)).toInt8.toInt32) = ((cc >>> ((8 : Int32) &&& 31)).toInt8.toInt32) from own_b8 _] at W7
  have V7 := Arv.set Ar6 q6 Sz6 Nz6 Ha6 Ga6 (fits_nar_byte _) W7 (2 * i + 1) (own_ofNat (by omega)).2 (by rw [List.length_map, List.length_set]; omega)
  have N7 := Fr.snoc X7 N4 g_dst
  replace O := O.wr W7 g_dst
  replace Kp := Kp.wr W7 (Or.inl (List.mem_of_getElem? (i := 0) rfl))
  replace Vd : Arv Z h7 dst kd .byte (Int32.ofNat zs.length) (((zs.set (2 * i) ((cc >>> ((0 : Int32) &&& 31)).toInt8.toInt32)).set (2 * i + 1) ((cc >>> ((8 : Int32) &&& 31)).toInt8.toInt32)).map Value.int) (.int (0 : Int32)) := by rw [List.map_set]; exact V7
  show own_Go p e below s _ _ _ (T7.setTop (mkF m 53 #[rv dst, iv (Int32.ofNat (2 * i + 1)), iv cc] []))
  exact own_fin X7 Bd.notSynchronized (fun _ => rfl) (fun fs hr => X7.returnOut hx Bd.returns (hb hby own_d20_53) hr) (by rw [e7]; exact ⟨rfl, N7, Kp, Vd⟩) (by decide) (by decide)
theorem own_d19_0 : decode jdk_52_method_3_code 0 = .ok (.iload_n 0, 1) := by decide +kernel
theorem own_d19_1 : decode jdk_52_method_3_code 1 = .ok (.ifCond .ge 11, 3) := by decide +kernel
theorem own_d19_12 : decode jdk_52_method_3_code 12 = .ok (.iload_n 0, 1) := by decide +kernel
theorem own_d19_13 : decode jdk_52_method_3_code 13 = .ok (.ldc 20, 2) := by decide +kernel
theorem own_d19_15 : decode jdk_52_method_3_code 15 = .ok (.if_icmp .lt 40, 3) := by decide +kernel
theorem own_d19_55 : decode jdk_52_method_3_code 55 = .ok (.iload_n 0, 1) := by decide +kernel
theorem own_d19_56 : decode jdk_52_method_3_code 56 = .ok (.iconst 1, 1) := by decide +kernel
theorem own_d19_57 : decode jdk_52_method_3_code 57 = .ok (.ishl, 1) := by decide +kernel
theorem own_d19_58 : decode jdk_52_method_3_code 58 = .ok (.ireturn, 1) := by decide +kernel
theorem own_ef_own_rnbl (m : MethodId) (xs : List Int32) : entryFrame m #[(.int (Int32.ofNat xs.length))] 1 = mkF m 0 #[iv (Int32.ofNat xs.length)] [] := by first | (simp [entryFrame, mkF, argsToLocals, Value.category]; done) | rfl
def own_Q_own_rnbl (Z : State) (xs : List Int32) (h0 : Heap) (n0 : Nat) (v : Option Value) (h : Heap) (L : List Loc) : Prop := v = some (.int (Int32.ofNat (2 * xs.length))) ∧ Fr n0 L ∧ h = h0
set_option maxRecDepth 65536 in
set_option maxHeartbeats 40000000 in
theorem own_rnbl (l : Launch) (Z : State) (a0 : Array Value) (hw : ∀ d ∈ tables_1, d.before a0 Z = true) (ws : List Jvm.Cond) (xs : List Int32) (h0 : Heap) (n0 : Nat) (Z0 : n0 ≤ h0.size)  (h4 : xs.length ≤ 4) :
    MetFree l (⟨"java/lang/StringUTF16", "newBytesLength", "(I)I"⟩ : MethodName) (head1 (Jvm.Cond.code (⟨"java/lang/StringUTF16", "newBytesLength", "(I)I"⟩ : MethodName) jdk_52_method_3_code 1 (some .int) :: ws) ({ frames := 0, cells := 0, slots := 0, locals := 0 } : Room)) (fun a U => a = #[(.int (Int32.ofNat xs.length))] ∧ Z.Warmed39 U.vm ∧ U.heap = h0) (fun _ _ _ _ _ => True) (fun _ U o U' => ∃ v L, o = .returned v ∧ own_Q_own_rnbl Z xs h0 n0 v U'.heap L ∧ FrameEnd U o U' L ({ frames := 0, cells := 0, slots := 0, locals := 0 } : Room).cells ({ frames := 0, cells := 0, slots := 0, locals := 0 } : Room).slots) := by
  refine MetFree.of_bodySF (plainFor_of_name own_pn_java_lang_StringUTF16) hisR ?_
  intro p e s m args below meth c s₁ Bd hml0 hP hK
  obtain ⟨rfl, hZ, hh⟩ := hP
  have hx := Bd.exec
  have hby := Bd.bytes
  have hml : c.maxLocals = 1 := hml0
  have hown : s.vm.findClass "java/lang/StringUTF16" = some m.cls := findClass_of_methodNamed Bd.named
  have hnm := (name_of_methodNamed Bd.named Bd.method).1
  have X0 : Stand p l e ({ frames := 0, cells := 0, slots := 0, locals := 0 } : Room) s m #[(.int (Int32.ofNat xs.length))] below meth c s₁ [] 0 0 := Stand.of_body Bd
  have e0 : s₁.heap = h0 := by rw [← hh, Bd.state]; rfl
  have N0 := Fr.nil n0
  show own_Go p e below s (own_Q_own_rnbl Z xs h0 n0) ({ frames := 0, cells := 0, slots := 0, locals := 0 } : Room).cells ({ frames := 0, cells := 0, slots := 0, locals := 0 } : Room).slots (s₁.setTop (entryFrame m #[(.int (Int32.ofNat xs.length))] 1))
  refine own_go (fun zt zk => castTop (own_ef_own_rnbl m xs) zk) ?_
  show own_Go p e below s _ _ _ (s₁.setTop (mkF m 0 #[iv (Int32.ofNat xs.length)] []))
  refine own_go (fun zt zk => (XS.iloadN X0.here hx rfl (hb hby own_d19_0) rfl (XS.ifYes X0.here hx rfl (pc0 := 1) (pc' := 12) rfl (hb hby own_d19_1) rfl ((if0 _ _).trans (flt ((own_nnN (by omega)) : ¬ ((Int32.ofNat xs.length) < (0 : Int32)))).2.1) (by decide) (by decide) (XS.iloadN X0.here hx rfl (hb hby own_d19_12) rfl (X0.ldcI hx hown (mvT hZ (hw _ (List.mem_of_getElem? (i := 87) rfl))) (g := (mkF m 13 #[iv (Int32.ofNat xs.length)] [(.int (Int32.ofNat xs.length))])) rfl (hb hby own_d19_13) (XS.icmpYes X0.here hx rfl (pc0 := 15) (pc' := 55) rfl (hb hby own_d19_15) rfl (tlt ((own_ltB (by omega)) : (Int32.ofNat xs.length) < (1073741823 : Int32))).1 (by decide) (by decide) (XS.iloadN X0.here hx rfl (hb hby own_d19_55) rfl (XS.iconst X0.here hx rfl (hb hby own_d19_56) (XS.ishl X0.here hx rfl (hb hby own_d19_57) rfl zk))))))))) ?_
  show own_Go p e below s _ _ _ (s₁.setTop (mkF m 58 #[iv (Int32.ofNat xs.length)] [(.int ((Int32.ofNat xs.length) <<< ((1 : Int32) &&& 31)))]))
  exact own_fin X0 Bd.notSynchronized (fun h => by rw [Bd.returns] at h; cases h) (fun fs hr => retOut X0 hx (t := .int) (w := (.int ((Int32.ofNat xs.length) <<< ((1 : Int32) &&& 31)))) Bd.returns rfl (Or.inl ⟨rfl, Or.inl rfl, _, rfl⟩) (hb hby own_d19_58) hr) (by rw [e0]; exact ⟨congrArg (fun z => some (Value.int z)) (own_dbl xs.length (by omega)), N0, rfl⟩) (by decide) (by decide)
theorem own_d18_0 : decode jdk_52_method_2_code 0 = .ok (.iload_n 0, 1) := by decide +kernel
theorem own_d18_1 : decode jdk_52_method_2_code 1 = .ok (.invokestatic 11, 3) := by decide +kernel
theorem own_pd__I_I : parseMethodDescriptor "(I)I" = some ⟨[.int], some .int⟩ := by decide +kernel
theorem own_d18_4 : decode jdk_52_method_2_code 4 = .ok (.newarray .byte, 2) := by decide +kernel
theorem own_d18_6 : decode jdk_52_method_2_code 6 = .ok (.areturn, 1) := by decide +kernel
theorem own_ef_own_rnbf (m : MethodId) (xs : List Int32) : entryFrame m #[(.int (Int32.ofNat xs.length))] 1 = mkF m 0 #[iv (Int32.ofNat xs.length)] [] := by first | (simp [entryFrame, mkF, argsToLocals, Value.category]; done) | rfl
def own_Q_own_rnbf (Z : State) (xs : List Int32) (h0 : Heap) (n0 : Nat) (v : Option Value) (h : Heap) (L : List Loc) : Prop := ∃ b k, v = some (.ref b) ∧ Fr n0 L ∧ Keep h0 h [] ∧ h0.size ≤ b ∧ Arv Z h b k .byte (Int32.ofNat (2 * xs.length)) ((List.replicate (2 * xs.length) (0 : Int32)).map Value.int) (.int (0 : Int32))
set_option maxRecDepth 65536 in
set_option maxHeartbeats 40000000 in
theorem own_rnbf (l : Launch) (Z : State) (a0 : Array Value) (hw : ∀ d ∈ tables_1, d.before a0 Z = true) (ws : List Jvm.Cond) (xs : List Int32) (h0 : Heap) (n0 : Nat) (Z0 : n0 ≤ h0.size)  (h4 : xs.length ≤ 4) :
    MetFree l (⟨"java/lang/StringUTF16", "newBytesFor", "(I)[B"⟩ : MethodName) (head1 (Jvm.Cond.code (⟨"java/lang/StringUTF16", "newBytesFor", "(I)[B"⟩ : MethodName) jdk_52_method_2_code 1 (some (.array .byte)) :: ws) ({ frames := 1, cells := 1, slots := 8, locals := 12 } : Room)) (fun a U => a = #[(.int (Int32.ofNat xs.length))] ∧ Z.Warmed39 U.vm ∧ U.heap = h0) (fun _ _ _ _ _ => True) (fun _ U o U' => ∃ v L, o = .returned v ∧ own_Q_own_rnbf Z xs h0 n0 v U'.heap L ∧ FrameEnd U o U' L ({ frames := 1, cells := 1, slots := 8, locals := 12 } : Room).cells ({ frames := 1, cells := 1, slots := 8, locals := 12 } : Room).slots) := by
  refine MetFree.of_bodySF (plainFor_of_name own_pn_java_lang_StringUTF16) hisR ?_
  intro p e s m args below meth c s₁ Bd hml0 hP hK
  obtain ⟨rfl, hZ, hh⟩ := hP
  have hx := Bd.exec
  have hby := Bd.bytes
  have hml : c.maxLocals = 1 := hml0
  have hown : s.vm.findClass "java/lang/StringUTF16" = some m.cls := findClass_of_methodNamed Bd.named
  have hnm := (name_of_methodNamed Bd.named Bd.method).1
  have X0 : Stand p l e ({ frames := 1, cells := 1, slots := 8, locals := 12 } : Room) s m #[(.int (Int32.ofNat xs.length))] below meth c s₁ [] 0 0 := Stand.of_body Bd
  have e0 : s₁.heap = h0 := by rw [← hh, Bd.state]; rfl
  have N0 := Fr.nil n0
  have Kp : Keep h0 h0 [] := Keep.refl h0 _
  show own_Go p e below s (own_Q_own_rnbf Z xs h0 n0) ({ frames := 1, cells := 1, slots := 8, locals := 12 } : Room).cells ({ frames := 1, cells := 1, slots := 8, locals := 12 } : Room).slots (s₁.setTop (entryFrame m #[(.int (Int32.ofNat xs.length))] 1))
  refine own_go (fun zt zk => castTop (own_ef_own_rnbf m xs) zk) ?_
  show own_Go p e below s _ _ _ (s₁.setTop (mkF m 0 #[iv (Int32.ofNat xs.length)] []))
  refine own_go (fun zt zk => (XS.iloadN X0.here hx rfl (hb hby own_d18_0) rfl zk)) ?_
  show own_Go p e below s _ _ _ (s₁.setTop (mkF m 1 #[iv (Int32.ofNat xs.length)] [(.int (Int32.ofNat xs.length))]))
  obtain ⟨_, _, ⟨T1, L1, k1, n1⟩, -, X1, ⟨Lc1, hQ1, l1, y1, z1⟩, st1⟩ := Jvm.LawKit.callS X0 hx (y := (⟨"java/lang/StringUTF16", "newBytesLength", "(I)I"⟩ : MethodName)) hown (mvT hZ (hw _ (List.mem_of_getElem? (i := 84) rfl))) (mvT hZ (hw _ (List.mem_of_getElem? (i := 85) rfl))) (mvT hZ (hw _ (List.mem_of_getElem? (i := 45) rfl))) (mvT hZ (hw _ (List.mem_of_getElem? (i := 86) rfl))) (by decide) (backOf (W := 0) (own_rnbl l Z a0 hw []  xs h0 n0 Z0 h4) hZ (hw _ (List.mem_of_getElem? (i := 86) rfl)) (hw _ (List.mem_of_getElem? (i := 45) rfl)) (by decide) (by decide)) (g := (mkF m 1 #[iv (Int32.ofNat xs.length)] [(.int (Int32.ofNat xs.length))])) rfl (by rw [hml]; rfl) (argsL := [(.int (Int32.ofNat xs.length))]) (rest := []) (lenOf own_pd__I_I rfl) rfl (by show 2 * 0 + _ ≤ _; exact Nat.le_of_eq rfl) (hb hby own_d18_1) (fun _ _ => ⟨rfl, e0, (by decide : 0 + 0 ≤ _), (by decide : 0 + 0 ≤ _)⟩)
  dsimp only [Pt.U, Pt.locs, Pt.cells, Pt.slots] at X1 l1 y1 z1 st1 hQ1
  subst l1 y1 z1
  obtain ⟨rfl, Nq1, e1⟩ := hQ1
  have N1 := Fr.app N0 Nq1
  refine own_go st1 ?_
  show own_Go p e below s _ _ _ (T1.setTop (mkF m 4 #[iv (Int32.ofNat xs.length)] [(.int (Int32.ofNat (2 * xs.length)))]))
  obtain ⟨T2, h2, k2, X2, e2, E2, A2, Ea2, st2⟩ := newPE X1 hx hZ (hw _ (List.mem_of_getElem? (i := 21) rfl)) e1 (g := (mkF m 4 #[iv (Int32.ofNat xs.length)] [(.int (Int32.ofNat (2 * xs.length)))])) rfl (hb hby own_d18_4) rfl (own_nnN (by omega)) (cap := 8) (by rw [(own_ofNat (q := 2 * xs.length) (by omega)).2]; omega) (by decide) (by decide) (by decide) (ad := "[B") (by decide)
  obtain ⟨b2, g2⟩ : ∃ z, z = h0.size := ⟨_, rfl⟩
  rw [← g2] at A2 Ea2 st2
  refine own_go st2 ?_
  have sz_b2 : h0.size ≤ b2 := Nat.le_trans Kp.1 (Nat.le_of_eq g2.symm)
  have g_b2 : n0 ≤ b2 := Nat.le_trans Z0 sz_b2
  replace Kp := Kp.ext E2
  have V_b2 : Arv Z h2 b2 k2 .byte (Int32.ofNat (2 * xs.length)) [] (.int (0 : Int32)) := Arv.new A2 (own_nnN (by omega))
  have Ea_b2 := Ea2
  show own_Go p e below s _ _ _ (T2.setTop (mkF m 6 #[iv (Int32.ofNat xs.length)] [(.ref b2)]))
  exact own_fin X2 Bd.notSynchronized (fun h => by rw [Bd.returns] at h; cases h) (fun fs hr => retOut X2 hx (t := (.array .byte)) (w := (.ref b2)) Bd.returns rfl (Or.inr (Or.inr (Or.inr (Or.inr ⟨rfl, rfl, rfl⟩)))) (hb hby own_d18_6) hr) (by rw [e2]; exact ⟨b2, _, rfl, N1, Kp, sz_b2, V_b2.pad (own_rep _)⟩) (by decide) (by decide)
theorem own_d17_0 : decode jdk_52_method_14_code 0 = .ok (.iload_n 2, 1) := by decide +kernel
theorem own_d17_1 : decode jdk_52_method_14_code 1 = .ok (.invokestatic 107, 3) := by decide +kernel
theorem own_pd__I__B : parseMethodDescriptor "(I)[B" = some ⟨[.int], some (.array .byte)⟩ := by decide +kernel
theorem own_d17_4 : decode jdk_52_method_14_code 4 = .ok (.astore_n 3, 1) := by decide +kernel
theorem own_d17_5 : decode jdk_52_method_14_code 5 = .ok (.iconst 0, 1) := by decide +kernel
theorem own_d17_6 : decode jdk_52_method_14_code 6 = .ok (.istore 4, 2) := by decide +kernel
theorem own_d17_8 : decode jdk_52_method_14_code 8 = .ok (.iload 4, 2) := by decide +kernel
theorem own_d17_10 : decode jdk_52_method_14_code 10 = .ok (.iload_n 2, 1) := by decide +kernel
theorem own_d17_11 : decode jdk_52_method_14_code 11 = .ok (.if_icmp .ge 21, 3) := by decide +kernel
theorem own_d17_32 : decode jdk_52_method_14_code 32 = .ok (.aload_n 3, 1) := by decide +kernel
theorem own_d17_33 : decode jdk_52_method_14_code 33 = .ok (.areturn, 1) := by decide +kernel
theorem own_d17_14 : decode jdk_52_method_14_code 14 = .ok (.aload_n 3, 1) := by decide +kernel
theorem own_d17_15 : decode jdk_52_method_14_code 15 = .ok (.iload 4, 2) := by decide +kernel
theorem own_d17_17 : decode jdk_52_method_14_code 17 = .ok (.aload_n 0, 1) := by decide +kernel
theorem own_d17_18 : decode jdk_52_method_14_code 18 = .ok (.iload_n 1, 1) := by decide +kernel
theorem own_d17_19 : decode jdk_52_method_14_code 19 = .ok (.caload, 1) := by decide +kernel
theorem own_d17_20 : decode jdk_52_method_14_code 20 = .ok (.invokestatic 111, 3) := by decide +kernel
theorem own_pd___BII_V : parseMethodDescriptor "([BII)V" = some ⟨[(.array .byte), .int, .int], none⟩ := by decide +kernel
theorem own_d17_23 : decode jdk_52_method_14_code 23 = .ok (.iinc 1 1, 3) := by decide +kernel
theorem own_d17_26 : decode jdk_52_method_14_code 26 = .ok (.iinc 4 1, 3) := by decide +kernel
theorem own_d17_29 : decode jdk_52_method_14_code 29 = .ok (.goto (-21), 3) := by decide +kernel
theorem own_ef_own_rtob (m : MethodId) (src : Addr) (xs : List Int32) : entryFrame m #[(.ref src), (.int (0 : Int32)), (.int (Int32.ofNat xs.length))] 5 = mkF m 0 #[rv src, iv (0 : Int32), iv (Int32.ofNat xs.length), .unset, .unset] [] := by first | (simp [entryFrame, mkF, argsToLocals, Value.category]; done) | rfl
def own_Q_own_rtob (Z : State) (src : Addr) (ks : ClassId) (xs : List Int32) (h0 : Heap) (n0 : Nat) (v : Option Value) (h : Heap) (L : List Loc) : Prop := ∃ b k zs, v = some (.ref b) ∧ Fr n0 L ∧ Keep h0 h [] ∧ h0.size ≤ b ∧ Arv Z h b k .byte (Int32.ofNat (2 * xs.length)) (zs.map Value.int) (.int (0 : Int32)) ∧ zs.length = 2 * xs.length ∧ own_U xs zs xs.length
set_option maxRecDepth 65536 in
set_option maxHeartbeats 40000000 in
theorem own_rtob (l : Launch) (Z : State) (a0 : Array Value) (hw : ∀ d ∈ tables_1, d.before a0 Z = true) (ws : List Jvm.Cond) (src : Addr) (ks : ClassId) (xs : List Int32) (h0 : Heap) (n0 : Nat) (Z0 : n0 ≤ h0.size) (O : Old Z n0 h0) (SA : Sta Z Z.heap "java/lang/StringUTF16" "$assertionsDisabled" "Z" (.int (1 : Int32))) (SH : Sta Z Z.heap "java/lang/StringUTF16" "HI_BYTE_SHIFT" "I" (.int (0 : Int32))) (SL : Sta Z Z.heap "java/lang/StringUTF16" "LO_BYTE_SHIFT" "I" (.int (8 : Int32))) (Vs : Arv Z h0 src ks .char (Int32.ofNat xs.length) (xs.map Value.int) (.int (0 : Int32))) (h4 : xs.length ≤ 4) :
    MetFree l (⟨"java/lang/StringUTF16", "toBytes", "([CII)[B"⟩ : MethodName) (head1 (Jvm.Cond.code (⟨"java/lang/StringUTF16", "toBytes", "([CII)[B"⟩ : MethodName) jdk_52_method_14_code 5 (some (.array .byte)) :: ws) ({ frames := 2, cells := 1, slots := 8, locals := 24 } : Room)) (fun a U => a = #[(.ref src), (.int (0 : Int32)), (.int (Int32.ofNat xs.length))] ∧ Z.Warmed39 U.vm ∧ U.heap = h0) (fun _ _ _ _ _ => True) (fun _ U o U' => ∃ v L, o = .returned v ∧ own_Q_own_rtob Z src ks xs h0 n0 v U'.heap L ∧ FrameEnd U o U' L ({ frames := 2, cells := 1, slots := 8, locals := 24 } : Room).cells ({ frames := 2, cells := 1, slots := 8, locals := 24 } : Room).slots) := by
  refine MetFree.of_bodySF (plainFor_of_name own_pn_java_lang_StringUTF16) hisR ?_
  intro p e s m args below meth c s₁ Bd hml0 hP hK
  obtain ⟨rfl, hZ, hh⟩ := hP
  have hx := Bd.exec
  have hby := Bd.bytes
  have hml : c.maxLocals = 5 := hml0
  have hown : s.vm.findClass "java/lang/StringUTF16" = some m.cls := findClass_of_methodNamed Bd.named
  have hnm := (name_of_methodNamed Bd.named Bd.method).1
  have X0 : Stand p l e ({ frames := 2, cells := 1, slots := 8, locals := 24 } : Room) s m #[(.ref src), (.int (0 : Int32)), (.int (Int32.ofNat xs.length))] below meth c s₁ [] 0 0 := Stand.of_body Bd
  have e0 : s₁.heap = h0 := by rw [← hh, Bd.state]; rfl
  have N0 := Fr.nil n0
  have Kp : Keep h0 h0 [] := Keep.refl h0 _
  show own_Go p e below s (own_Q_own_rtob Z src ks xs h0 n0) ({ frames := 2, cells := 1, slots := 8, locals := 24 } : Room).cells ({ frames := 2, cells := 1, slots := 8, locals := 24 } : Room).slots (s₁.setTop (entryFrame m #[(.ref src), (.int (0 : Int32)), (.int (Int32.ofNat xs.length))] 5))
  refine own_go (fun zt zk => castTop (own_ef_own_rtob m src xs) zk) ?_
  show own_Go p e below s _ _ _ (s₁.setTop (mkF m 0 #[rv src, iv (0 : Int32), iv (Int32.ofNat xs.length), .unset, .unset] []))
  refine own_go (fun zt zk => (XS.iloadN X0.here hx rfl (hb hby own_d17_0) rfl zk)) ?_
  show own_Go p e below s _ _ _ (s₁.setTop (mkF m 1 #[rv src, iv (0 : Int32), iv (Int32.ofNat xs.length), .unset, .unset] [(.int (Int32.ofNat xs.length))]))
  have lsrc := Vs.lt
  obtain ⟨_, _, ⟨T1, L1, k1, n1⟩, -, X1, ⟨Lc1, hQ1, l1, y1, z1⟩, st1⟩ := Jvm.LawKit.callS X0 hx (y := (⟨"java/lang/StringUTF16", "newBytesFor", "(I)[B"⟩ : MethodName)) hown (mvT hZ (hw _ (List.mem_of_getElem? (i := 81) rfl))) (mvT hZ (hw _ (List.mem_of_getElem? (i := 82) rfl))) (mvT hZ (hw _ (List.mem_of_getElem? (i := 45) rfl))) (mvT hZ (hw _ (List.mem_of_getElem? (i := 83) rfl))) (by decide) (backOf (W := 0) (own_rnbf l Z a0 hw []  xs h0 n0 Z0 h4) hZ (hw _ (List.mem_of_getElem? (i := 83) rfl)) (hw _ (List.mem_of_getElem? (i := 45) rfl)) (by decide) (by decide)) (g := (mkF m 1 #[rv src, iv (0 : Int32), iv (Int32.ofNat xs.length), .unset, .unset] [(.int (Int32.ofNat xs.length))])) rfl (by rw [hml]; rfl) (argsL := [(.int (Int32.ofNat xs.length))]) (rest := []) (lenOf own_pd__I__B rfl) rfl (by show 2 * 0 + _ ≤ _; exact Nat.le_of_eq rfl) (hb hby own_d17_1) (fun _ _ => ⟨rfl, e0, (by decide : 0 + 1 ≤ _), (by decide : 0 + 8 ≤ _)⟩)
  dsimp only [Pt.U, Pt.locs, Pt.cells, Pt.slots] at X1 l1 y1 z1 st1 hQ1
  subst l1 y1 z1
  obtain ⟨b1, kb1, rfl, Nq1, K1, sz_b1, Vb⟩ := hQ1
  have N1 := Fr.app N0 Nq1
  refine own_go st1 ?_
  replace O := O.keep K1 all0
  replace Vs := Vs.keep K1 nin0
  replace Kp := Kp.trans K1 all0
  show own_Go p e below s _ _ _ (T1.setTop (mkF m 4 #[rv src, iv (0 : Int32), iv (Int32.ofNat xs.length), .unset, .unset] [(.ref b1)]))
  have g_b1 : n0 ≤ b1 := Nat.le_trans Z0 sz_b1
  have hne : src ≠ b1 := Nat.ne_of_lt (Nat.lt_of_lt_of_le lsrc sz_b1)
  refine own_go (fun zt zk => (XS.astoreN X1.here hx rfl (hb hby own_d17_4) rfl rfl (l' := #[rv src, iv (0 : Int32), iv (Int32.ofNat xs.length), rv b1, .unset]) rfl (XS.iconst X1.here hx rfl (hb hby own_d17_5) (XS.istore X1.here hx rfl (hb hby own_d17_6) rfl (l' := #[rv src, iv (0 : Int32), iv (Int32.ofNat xs.length), rv b1, iv (0 : Int32)]) rfl zk)))) ?_
  show own_Go p e below s _ _ _ (T1.setTop (mkF m 8 #[rv src, iv (0 : Int32), iv (Int32.ofNat xs.length), rv b1, iv (0 : Int32)] []))
  have loop : ∀ (d i : Nat) (ys : List Int32) (T : State) (h : Heap) (L : List Loc), i + d = xs.length → ys.length = 2 * xs.length → own_U xs ys i → Stand p l e ({ frames := 2, cells := 1, slots := 8, locals := 24 } : Room) s m #[(.ref src), (.int (0 : Int32)), (.int (Int32.ofNat xs.length))] below meth c T L 1 8 → T.heap = h → Fr n0 L → Keep h0 h [] → Old Z n0 h → Arv Z h src ks .char (Int32.ofNat xs.length) (xs.map Value.int) (.int (0 : Int32)) → Arv Z h b1 kb1 .byte (Int32.ofNat (2 * xs.length)) (ys.map Value.int) (.int (0 : Int32)) → own_Go p e below s (own_Q_own_rtob Z src ks xs h0 n0) ({ frames := 2, cells := 1, slots := 8, locals := 24 } : Room).cells ({ frames := 2, cells := 1, slots := 8, locals := 24 } : Room).slots (T.setTop (mkF m 8 #[rv src, iv (Int32.ofNat i), iv (Int32.ofNat xs.length), rv b1, iv (Int32.ofNat i)] [])) := by
    intro d
    induction d with
    | zero =>
      intro i ys T h L hi hl hr X eT N Kp O Vs Vb
      obtain rfl : i = xs.length := by omega
      show own_Go p e below s _ _ _ (T.setTop (mkF m 8 #[rv src, iv (Int32.ofNat xs.length), iv (Int32.ofNat xs.length), rv b1, iv (Int32.ofNat xs.length)] []))
      refine own_go (fun zt zk => (XS.iload X.here hx rfl (hb hby own_d17_8) rfl (XS.iloadN X.here hx rfl (hb hby own_d17_10) rfl (XS.icmpYes X.here hx rfl (pc0 := 11) (pc' := 32) rfl (hb hby own_d17_11) rfl (flt ((own_irr _) : ¬ ((Int32.ofNat xs.length) < (Int32.ofNat xs.length)))).2.1 (by decide) (by decide) (XS.aloadN X.here hx rfl (hb hby own_d17_32) rfl rfl zk))))) ?_
      show own_Go p e below s _ _ _ (T.setTop (mkF m 33 #[rv src, iv (Int32.ofNat xs.length), iv (Int32.ofNat xs.length), rv b1, iv (Int32.ofNat xs.length)] [(.ref b1)]))
      exact own_fin X Bd.notSynchronized (fun h => by rw [Bd.returns] at h; cases h) (fun fs hr => retOut X hx (t := (.array .byte)) (w := (.ref b1)) Bd.returns rfl (Or.inr (Or.inr (Or.inr (Or.inr ⟨rfl, rfl, rfl⟩)))) (hb hby own_d17_33) hr) (by rw [eT]; exact ⟨b1, _, ys, rfl, N, Kp, sz_b1, Vb, hl, hr⟩) (by decide) (by decide)
    | succ d ih =>
      intro i ys T h L hi hl hr X eT N Kp O Vs Vb
      have hlt : i < xs.length := by omega
      show own_Go p e below s _ _ _ (T.setTop (mkF m 8 #[rv src, iv (Int32.ofNat i), iv (Int32.ofNat xs.length), rv b1, iv (Int32.ofNat i)] []))
      refine own_go (fun zt zk => (XS.iload X.here hx rfl (hb hby own_d17_8) rfl (XS.iloadN X.here hx rfl (hb hby own_d17_10) rfl (XS.icmpNo X.here hx rfl (hb hby own_d17_11) rfl (tlt (((own_ltN (by omega) (by omega)).mpr hlt) : (Int32.ofNat i) < (Int32.ofNat xs.length))).2.1 (XS.aloadN X.here hx rfl (hb hby own_d17_14) rfl rfl (XS.iload X.here hx rfl (hb hby own_d17_15) rfl (XS.aloadN X.here hx rfl (hb hby own_d17_17) rfl rfl (XS.iloadN X.here hx rfl (hb hby own_d17_18) rfl zk)))))))) ?_
      show own_Go p e below s _ _ _ (T.setTop (mkF m 19 #[rv src, iv (Int32.ofNat i), iv (Int32.ofNat xs.length), rv b1, iv (Int32.ofNat i)] [(.int (Int32.ofNat i)), (.ref src), (.int (Int32.ofNat i)), (.ref b1)]))
      obtain ⟨cl2, Ar2, q2, Sz2, Nz2, Ha2, Ga2⟩ := id Vs
      have hin2 : ¬ ((Int32.ofNat i) < 0 ∨ cl2.slots.size ≤ ((Int32.ofNat i)).toNatClampNeg) := inb_of Sz2 ⟨own_nnN (by omega), (own_ltN (by omega) (by omega)).mpr hlt⟩
      have hat2 : cl2.slots[((Int32.ofNat i)).toNatClampNeg]? = some (.int (xs.getD i 0)) := Has.at Ha2 hin2 (by rw [(own_ofNat (q := i) (by omega)).2]; exact own_mapget xs i)
      refine own_go (X.caload hx (j := (Int32.ofNat i)) (v := (.int (xs.getD i 0))) (by rw [eT]; exact Ar2.1) (State.isArrayOf_alike hZ.alike Ar2.2.1) Ar2.2.2 hin2 hat2 (g := (mkF m 19 #[rv src, iv (Int32.ofNat i), iv (Int32.ofNat xs.length), rv b1, iv (Int32.ofNat i)] [(.int (Int32.ofNat i)), (.ref src), (.int (Int32.ofNat i)), (.ref b1)])) rfl rfl (hb hby own_d17_19)) ?_
      show own_Go p e below s _ _ _ (T.setTop (mkF m 20 #[rv src, iv (Int32.ofNat i), iv (Int32.ofNat xs.length), rv b1, iv (Int32.ofNat i)] [(.int (xs.getD i 0)), (.int (Int32.ofNat i)), (.ref b1)]))
      have hVb : Arv Z h b1 kb1 .byte (Int32.ofNat ys.length) (ys.map Value.int) (.int (0 : Int32)) := by rw [hl]; exact Vb
      obtain ⟨_, _, ⟨T3, L3, k3, n3⟩, -, X3, ⟨Lc3, hQ3, l3, y3, z3⟩, st3⟩ := Jvm.LawKit.callS X hx (y := (⟨"java/lang/StringUTF16", "putChar", "([BII)V"⟩ : MethodName)) hown (mvT hZ (hw _ (List.mem_of_getElem? (i := 88) rfl))) (mvT hZ (hw _ (List.mem_of_getElem? (i := 89) rfl))) (mvT hZ (hw _ (List.mem_of_getElem? (i := 45) rfl))) (mvT hZ (hw _ (List.mem_of_getElem? (i := 90) rfl))) (by decide) (backOf (W := 0) (own_rput l Z a0 hw [] b1 (xs.getD i 0) i kb1 ys h n0 (Nat.le_trans Z0 Kp.1) O SA SH SL hVb g_b1 (by omega) (by omega)) hZ (hw _ (List.mem_of_getElem? (i := 90) rfl)) (hw _ (List.mem_of_getElem? (i := 45) rfl)) (by decide) (by decide)) (g := (mkF m 20 #[rv src, iv (Int32.ofNat i), iv (Int32.ofNat xs.length), rv b1, iv (Int32.ofNat i)] [(.int (xs.getD i 0)), (.int (Int32.ofNat i)), (.ref b1)])) rfl (by rw [hml]; rfl) (argsL := [(.ref b1), (.int (Int32.ofNat i)), (.int (xs.getD i 0))]) (rest := []) (lenOf own_pd___BII_V rfl) rfl (by show 2 * 0 + _ ≤ _; exact Nat.le_of_eq rfl) (hb hby own_d17_20) (fun _ _ => ⟨rfl, eT, (by decide : 1 + 0 ≤ _), (by decide : 8 + 0 ≤ _)⟩)
      dsimp only [Pt.U, Pt.locs, Pt.cells, Pt.slots] at X3 l3 y3 z3 st3 hQ3
      subst l3 y3 z3
      obtain ⟨rfl, Nq3, K3, Vb'⟩ := hQ3
      replace Vb' : Arv Z T3.heap b1 kb1 .byte (Int32.ofNat (2 * xs.length)) (((ys.set (2 * i) (((xs.getD i 0) >>> ((0 : Int32) &&& 31)).toInt8.toInt32)).set (2 * i + 1) (((xs.getD i 0) >>> ((8 : Int32) &&& 31)).toInt8.toInt32)).map Value.int) (.int (0 : Int32)) := by rw [hl] at Vb'; exact Vb'
      have N3 := Fr.app N Nq3
      refine own_go st3 ?_
      replace O := O.keep K3 (allS g_b1 all0)
      replace Vs := Vs.keep K3 (ninS hne nin0)
      replace Kp := Kp.trans K3 (allS (Or.inr sz_b1) all0)
      show own_Go p e below s _ _ _ (T3.setTop (mkF m 23 #[rv src, iv (Int32.ofNat i), iv (Int32.ofNat xs.length), rv b1, iv (Int32.ofNat i)] []))
      refine own_go (fun zt zk => (XS.iinc X3.here hx rfl (hb hby own_d17_23) rfl (l' := #[rv src, iv ((Int32.ofNat i) + (1 : Int32)), iv (Int32.ofNat xs.length), rv b1, iv (Int32.ofNat i)]) rfl (XS.iinc X3.here hx rfl (hb hby own_d17_26) rfl (l' := #[rv src, iv ((Int32.ofNat i) + (1 : Int32)), iv (Int32.ofNat xs.length), rv b1, iv ((Int32.ofNat i) + (1 : Int32))]) rfl (XS.goto X3.here hx rfl (pc0 := 29) (pc' := 8) rfl (hb hby own_d17_29) (by decide) (by decide) zk)))) ?_
      show own_Go p e below s _ _ _ (T3.setTop (mkF m 8 #[rv src, iv ((Int32.ofNat i) + (1 : Int32)), iv (Int32.ofNat xs.length), rv b1, iv ((Int32.ofNat i) + (1 : Int32))] []))
      rw [own_inc i (by omega)]
      exact ih (i + 1) _ _ _ _ (by omega) (by rw [List.length_set, List.length_set]; exact hl) (own_U_set hr hl hlt) X3 rfl N3 Kp O Vs Vb'
  exact loop xs.length 0 _ _ _ _ (Nat.zero_add _) List.length_replicate (fun j hj => absurd hj (Nat.not_lt_zero j)) X1 rfl N1 Kp O Vs Vb
theorem own_d21_0 : decode jdk_52_method_5_code 0 = .ok (.getstatic 44, 3) := by decide +kernel
theorem own_d21_3 : decode jdk_52_method_5_code 3 = .ok (.ifCond .ne 25, 3) := by decide +kernel
theorem own_d21_28 : decode jdk_52_method_5_code 28 = .ok (.iload_n 1, 1) := by decide +kernel
theorem own_d21_29 : decode jdk_52_method_5_code 29 = .ok (.iconst 1, 1) := by decide +kernel
theorem own_d21_30 : decode jdk_52_method_5_code 30 = .ok (.ishl, 1) := by decide +kernel
theorem own_d21_31 : decode jdk_52_method_5_code 31 = .ok (.istore_n 1, 1) := by decide +kernel
theorem own_d21_32 : decode jdk_52_method_5_code 32 = .ok (.aload_n 0, 1) := by decide +kernel
theorem own_d21_33 : decode jdk_52_method_5_code 33 = .ok (.iload_n 1, 1) := by decide +kernel
theorem own_d21_34 : decode jdk_52_method_5_code 34 = .ok (.iinc 1 1, 3) := by decide +kernel
theorem own_d21_37 : decode jdk_52_method_5_code 37 = .ok (.baload, 1) := by decide +kernel
theorem own_d21_38 : decode jdk_52_method_5_code 38 = .ok (.sipush 255, 3) := by decide +kernel
theorem own_d21_41 : decode jdk_52_method_5_code 41 = .ok (.iand, 1) := by decide +kernel
theorem own_d21_42 : decode jdk_52_method_5_code 42 = .ok (.getstatic 59, 3) := by decide +kernel
theorem own_d21_45 : decode jdk_52_method_5_code 45 = .ok (.ishl, 1) := by decide +kernel
theorem own_d21_46 : decode jdk_52_method_5_code 46 = .ok (.aload_n 0, 1) := by decide +kernel
theorem own_d21_47 : decode jdk_52_method_5_code 47 = .ok (.iload_n 1, 1) := by decide +kernel
theorem own_d21_48 : decode jdk_52_method_5_code 48 = .ok (.baload, 1) := by decide +kernel
theorem own_d21_49 : decode jdk_52_method_5_code 49 = .ok (.sipush 255, 3) := by decide +kernel
theorem own_d21_52 : decode jdk_52_method_5_code 52 = .ok (.iand, 1) := by decide +kernel
theorem own_d21_53 : decode jdk_52_method_5_code 53 = .ok (.getstatic 63, 3) := by decide +kernel
theorem own_d21_56 : decode jdk_52_method_5_code 56 = .ok (.ishl, 1) := by decide +kernel
theorem own_d21_57 : decode jdk_52_method_5_code 57 = .ok (.ior, 1) := by decide +kernel
theorem own_d21_58 : decode jdk_52_method_5_code 58 = .ok (.i2c, 1) := by decide +kernel
theorem own_d21_59 : decode jdk_52_method_5_code 59 = .ok (.ireturn, 1) := by decide +kernel
theorem own_ef_own_rgetc (m : MethodId) (t : Addr) (i : Nat) : entryFrame m #[(.ref t), (.int (Int32.ofNat i))] 2 = mkF m 0 #[rv t, iv (Int32.ofNat i)] [] := by first | (simp [entryFrame, mkF, argsToLocals, Value.category]; done) | rfl
def own_Q_own_rgetc (Z : State) (t : Addr) (i : Nat) (kb : ClassId) (xs zs : List Int32) (h0 : Heap) (n0 : Nat) (v : Option Value) (h : Heap) (L : List Loc) : Prop := v = some (.int (xs.getD i 0)) ∧ Fr n0 L ∧ h = h0
set_option maxRecDepth 65536 in
set_option maxHeartbeats 40000000 in
theorem own_rgetc (l : Launch) (Z : State) (a0 : Array Value) (hw : ∀ d ∈ tables_1, d.before a0 Z = true) (ws : List Jvm.Cond) (t : Addr) (i : Nat) (kb : ClassId) (xs zs : List Int32) (h0 : Heap) (n0 : Nat) (Z0 : n0 ≤ h0.size) (O : Old Z n0 h0) (SA : Sta Z Z.heap "java/lang/StringUTF16" "$assertionsDisabled" "Z" (.int (1 : Int32))) (SH : Sta Z Z.heap "java/lang/StringUTF16" "HI_BYTE_SHIFT" "I" (.int (0 : Int32))) (SL : Sta Z Z.heap "java/lang/StringUTF16" "LO_BYTE_SHIFT" "I" (.int (8 : Int32))) (Va : Arv Z h0 t kb .byte (Int32.ofNat zs.length) (zs.map Value.int) (.int (0 : Int32))) (hi : i < xs.length) (h4 : xs.length ≤ 4) (hl : zs.length = 2 * xs.length) (hU : own_U xs zs xs.length) (hR : own_R xs) :
    MetFree l (⟨"java/lang/StringUTF16", "getChar", "([BI)C"⟩ : MethodName) (head1 (Jvm.Cond.code (⟨"java/lang/StringUTF16", "getChar", "([BI)C"⟩ : MethodName) jdk_52_method_5_code 2 (some .char) :: ws) ({ frames := 0, cells := 0, slots := 0, locals := 0 } : Room)) (fun a U => a = #[(.ref t), (.int (Int32.ofNat i))] ∧ Z.Warmed39 U.vm ∧ U.heap = h0) (fun _ _ _ _ _ => True) (fun _ U o U' => ∃ v L, o = .returned v ∧ own_Q_own_rgetc Z t i kb xs zs h0 n0 v U'.heap L ∧ FrameEnd U o U' L ({ frames := 0, cells := 0, slots := 0, locals := 0 } : Room).cells ({ frames := 0, cells := 0, slots := 0, locals := 0 } : Room).slots) := by
  refine MetFree.of_bodySF (plainFor_of_name own_pn_java_lang_StringUTF16) hisR ?_
  intro p e s m args below meth c s₁ Bd hml0 hP hK
  obtain ⟨rfl, hZ, hh⟩ := hP
  have hx := Bd.exec
  have hby := Bd.bytes
  have hml : c.maxLocals = 2 := hml0
  have hown : s.vm.findClass "java/lang/StringUTF16" = some m.cls := findClass_of_methodNamed Bd.named
  have hnm := (name_of_methodNamed Bd.named Bd.method).1
  have X0 : Stand p l e ({ frames := 0, cells := 0, slots := 0, locals := 0 } : Room) s m #[(.ref t), (.int (Int32.ofNat i))] below meth c s₁ [] 0 0 := Stand.of_body Bd
  have e0 : s₁.heap = h0 := by rw [← hh, Bd.state]; rfl
  have N0 := Fr.nil n0
  show own_Go p e below s (own_Q_own_rgetc Z t i kb xs zs h0 n0) ({ frames := 0, cells := 0, slots := 0, locals := 0 } : Room).cells ({ frames := 0, cells := 0, slots := 0, locals := 0 } : Room).slots (s₁.setTop (entryFrame m #[(.ref t), (.int (Int32.ofNat i))] 2))
  refine own_go (fun zt zk => castTop (own_ef_own_rgetc m t i) zk) ?_
  show own_Go p e below s _ _ _ (s₁.setTop (mkF m 0 #[rv t, iv (Int32.ofNat i)] []))
  obtain ⟨T1, X1, e1, st1⟩ := getS2 X0 hx hZ hown (host := "") (Or.inl (hw _ (List.mem_of_getElem? (i := 91) rfl))) Via.refl e0 (SA.ext O.2) (g := (mkF m 0 #[rv t, iv (Int32.ofNat i)] [])) rfl (hb hby own_d21_0)
  refine own_go st1 ?_
  show own_Go p e below s _ _ _ (T1.setTop (mkF m 3 #[rv t, iv (Int32.ofNat i)] [(.int (1 : Int32))]))
  refine own_go (fun zt zk => (XS.ifYes X1.here hx rfl (pc0 := 3) (pc' := 28) rfl (hb hby own_d21_3) rfl ((if0 _ _).trans (feq ((by decide) : ¬ ((1 : Int32) = (0 : Int32)))).2) (by decide) (by decide) (XS.iloadN X1.here hx rfl (hb hby own_d21_28) rfl (XS.iconst X1.here hx rfl (hb hby own_d21_29) (XS.ishl X1.here hx rfl (hb hby own_d21_30) rfl zk))))) ?_
  show own_Go p e below s _ _ _ (T1.setTop (mkF m 31 #[rv t, iv (Int32.ofNat i)] [(.int ((Int32.ofNat i) <<< ((1 : Int32) &&& 31)))]))
  rw [own_dbl i (by omega)]
  show own_Go p e below s _ _ _ (T1.setTop (mkF m 31 #[rv t, iv (Int32.ofNat i)] [(.int (Int32.ofNat (2 * i)))]))
  refine own_go (fun zt zk => (XS.istoreN X1.here hx rfl (hb hby own_d21_31) rfl (l' := #[rv t, iv (Int32.ofNat (2 * i))]) rfl (XS.aloadN X1.here hx rfl (hb hby own_d21_32) rfl rfl (XS.iloadN X1.here hx rfl (hb hby own_d21_33) rfl (XS.iinc X1.here hx rfl (hb hby own_d21_34) rfl (l' := #[rv t, iv ((Int32.ofNat (2 * i)) + (1 : Int32))]) rfl zk))))) ?_
  show own_Go p e below s _ _ _ (T1.setTop (mkF m 37 #[rv t, iv ((Int32.ofNat (2 * i)) + (1 : Int32))] [(.int (Int32.ofNat (2 * i))), (.ref t)]))
  obtain ⟨cl2, Ar2, q2, Sz2, Nz2, Ha2, Ga2⟩ := id Va
  have hin2 : ¬ ((Int32.ofNat (2 * i)) < 0 ∨ cl2.slots.size ≤ ((Int32.ofNat (2 * i))).toNatClampNeg) := inb_of Sz2 ⟨own_nnN (by omega), (own_ltN (by omega) (by omega)).mpr (by omega)⟩
  have hat2 : cl2.slots[((Int32.ofNat (2 * i))).toNatClampNeg]? = some (.int (((xs.getD i 0) >>> ((0 : Int32) &&& 31)).toInt8.toInt32)) := Has.at Ha2 hin2 (by rw [(own_ofNat (q := 2 * i) (by omega)).2, own_mapget]; exact congrArg Value.int (hU i hi).1)
  refine own_go (X1.baloadBytes hx (j := (Int32.ofNat (2 * i))) (v := (.int (((xs.getD i 0) >>> ((0 : Int32) &&& 31)).toInt8.toInt32))) (by rw [e1]; exact Ar2.1) (State.isArrayOf_alike hZ.alike Ar2.2.1) Ar2.2.2 hin2 hat2 (g := (mkF m 37 #[rv t, iv ((Int32.ofNat (2 * i)) + (1 : Int32))] [(.int (Int32.ofNat (2 * i))), (.ref t)])) rfl rfl (hb hby own_d21_37)) ?_
  show own_Go p e below s _ _ _ (T1.setTop (mkF m 38 #[rv t, iv ((Int32.ofNat (2 * i)) + (1 : Int32))] [(.int (((xs.getD i 0) >>> ((0 : Int32) &&& 31)).toInt8.toInt32))]))
  refine own_go (fun zt zk => (XS.sipush X1.here hx rfl (hb hby own_d21_38) (XS.iand X1.here hx rfl (hb hby own_d21_41) rfl zk))) ?_
  show own_Go p e below s _ _ _ (T1.setTop (mkF m 42 #[rv t, iv ((Int32.ofNat (2 * i)) + (1 : Int32))] [(.int ((((xs.getD i 0) >>> ((0 : Int32) &&& 31)).toInt8.toInt32) &&& (255 : Int32)))]))
  obtain ⟨T3, X3, e3, st3⟩ := getS2 X1 hx hZ hown (host := "") (Or.inl (hw _ (List.mem_of_getElem? (i := 92) rfl))) Via.refl e1 (SH.ext O.2) (g := (mkF m 42 #[rv t, iv ((Int32.ofNat (2 * i)) + (1 : Int32))] [(.int ((((xs.getD i 0) >>> ((0 : Int32) &&& 31)).toInt8.toInt32) &&& (255 : Int32)))])) rfl (hb hby own_d21_42)
  refine own_go st3 ?_
  show own_Go p e below s _ _ _ (T3.setTop (mkF m 45 #[rv t, iv ((Int32.ofNat (2 * i)) + (1 : Int32))] [(.int (0 : Int32)), (.int ((((xs.getD i 0) >>> ((0 : Int32) &&& 31)).toInt8.toInt32) &&& (255 : Int32)))]))
  refine own_go (fun zt zk => (XS.ishl X3.here hx rfl (hb hby own_d21_45) rfl zk)) ?_
  show own_Go p e below s _ _ _ (T3.setTop (mkF m 46 #[rv t, iv ((Int32.ofNat (2 * i)) + (1 : Int32))] [(.int (((((xs.getD i 0) >>> ((0 : Int32) &&& 31)).toInt8.toInt32) &&& (255 : Int32)) <<< ((0 : Int32) &&& 31)))]))
  rw [own_inc (2 * i) (by omega)]
  show own_Go p e below s _ _ _ (T3.setTop (mkF m 46 #[rv t, iv (Int32.ofNat (2 * i + 1))] [(.int (((((xs.getD i 0) >>> ((0 : Int32) &&& 31)).toInt8.toInt32) &&& (255 : Int32)) <<< ((0 : Int32) &&& 31)))]))
  refine own_go (fun zt zk => (XS.aloadN X3.here hx rfl (hb hby own_d21_46) rfl rfl (XS.iloadN X3.here hx rfl (hb hby own_d21_47) rfl zk))) ?_
  show own_Go p e below s _ _ _ (T3.setTop (mkF m 48 #[rv t, iv (Int32.ofNat (2 * i + 1))] [(.int (Int32.ofNat (2 * i + 1))), (.ref t), (.int (((((xs.getD i 0) >>> ((0 : Int32) &&& 31)).toInt8.toInt32) &&& (255 : Int32)) <<< ((0 : Int32) &&& 31)))]))
  obtain ⟨cl4, Ar4, q4, Sz4, Nz4, Ha4, Ga4⟩ := id Va
  have hin4 : ¬ ((Int32.ofNat (2 * i + 1)) < 0 ∨ cl4.slots.size ≤ ((Int32.ofNat (2 * i + 1))).toNatClampNeg) := inb_of Sz4 ⟨own_nnN (by omega), (own_ltN (by omega) (by omega)).mpr (by omega)⟩
  have hat4 : cl4.slots[((Int32.ofNat (2 * i + 1))).toNatClampNeg]? = some (.int (((xs.getD i 0) >>> ((8 : Int32) &&& 31)).toInt8.toInt32)) := Has.at Ha4 hin4 (by rw [(own_ofNat (q := 2 * i + 1) (by omega)).2, own_mapget]; exact congrArg Value.int (hU i hi).2)
  refine own_go (X3.baloadBytes hx (j := (Int32.ofNat (2 * i + 1))) (v := (.int (((xs.getD i 0) >>> ((8 : Int32) &&& 31)).toInt8.toInt32))) (by rw [e3]; exact Ar4.1) (State.isArrayOf_alike hZ.alike Ar4.2.1) Ar4.2.2 hin4 hat4 (g := (mkF m 48 #[rv t, iv (Int32.ofNat (2 * i + 1))] [(.int (Int32.ofNat (2 * i + 1))), (.ref t), (.int (((((xs.getD i 0) >>> ((0 : Int32) &&& 31)).toInt8.toInt32) &&& (255 : Int32)) <<< ((0 : Int32) &&& 31)))])) rfl rfl (hb hby own_d21_48)) ?_
  show own_Go p e below s _ _ _ (T3.setTop (mkF m 49 #[rv t, iv (Int32.ofNat (2 * i + 1))] [(.int (((xs.getD i 0) >>> ((8 : Int32) &&& 31)).toInt8.toInt32)), (.int (((((xs.getD i 0) >>> ((0 : Int32) &&& 31)).toInt8.toInt32) &&& (255 : Int32)) <<< ((0 : Int32) &&& 31)))]))
  refine own_go (fun zt zk => (XS.sipush X3.here hx rfl (hb hby own_d21_49) (XS.iand X3.here hx rfl (hb hby own_d21_52) rfl zk))) ?_
  show own_Go p e below s _ _ _ (T3.setTop (mkF m 53 #[rv t, iv (Int32.ofNat (2 * i + 1))] [(.int ((((xs.getD i 0) >>> ((8 : Int32) &&& 31)).toInt8.toInt32) &&& (255 : Int32))), (.int (((((xs.getD i 0) >>> ((0 : Int32) &&& 31)).toInt8.toInt32) &&& (255 : Int32)) <<< ((0 : Int32) &&& 31)))]))
  obtain ⟨T5, X5, e5, st5⟩ := getS2 X3 hx hZ hown (host := "") (Or.inl (hw _ (List.mem_of_getElem? (i := 93) rfl))) Via.refl e3 (SL.ext O.2) (g := (mkF m 53 #[rv t, iv (Int32.ofNat (2 * i + 1))] [(.int ((((xs.getD i 0) >>> ((8 : Int32) &&& 31)).toInt8.toInt32) &&& (255 : Int32))), (.int (((((xs.getD i 0) >>> ((0 : Int32) &&& 31)).toInt8.toInt32) &&& (255 : Int32)) <<< ((0 : Int32) &&& 31)))])) rfl (hb hby own_d21_53)
  refine own_go st5 ?_
  show own_Go p e below s _ _ _ (T5.setTop (mkF m 56 #[rv t, iv (Int32.ofNat (2 * i + 1))] [(.int (8 : Int32)), (.int ((((xs.getD i 0) >>> ((8 : Int32) &&& 31)).toInt8.toInt32) &&& (255 : Int32))), (.int (((((xs.getD i 0) >>> ((0 : Int32) &&& 31)).toInt8.toInt32) &&& (255 : Int32)) <<< ((0 : Int32) &&& 31)))]))
  refine own_go (fun zt zk => (XS.ishl X5.here hx rfl (hb hby own_d21_56) rfl (XS.ior X5.here hx rfl (hb hby own_d21_57) rfl (XS.i2c X5.here hx rfl (hb hby own_d21_58) rfl zk)))) ?_
  show own_Go p e below s _ _ _ (T5.setTop (mkF m 59 #[rv t, iv (Int32.ofNat (2 * i + 1))] [(.int (((((((xs.getD i 0) >>> ((0 : Int32) &&& 31)).toInt8.toInt32) &&& (255 : Int32)) <<< ((0 : Int32) &&& 31)) ||| (((((xs.getD i 0) >>> ((8 : Int32) &&& 31)).toInt8.toInt32) &&& (255 : Int32)) <<< ((8 : Int32) &&& 31))).toUInt32.toUInt16.toUInt32.toInt32))]))
  exact own_fin X5 Bd.notSynchronized (fun h => by rw [Bd.returns] at h; cases h) (fun fs hr => retN X5 hx (t := .char) Bd.returns (by simp) (hb hby own_d21_59) hr) (by rw [e5]; exact ⟨congrArg (fun z => some (Value.int z)) (own_pair (own_R_at hR hi)), N0, rfl⟩) (by decide) (by decide)
theorem own_d8_0 : decode jdk_52_method_16_code 0 = .ok (.iload_n 2, 1) := by decide +kernel
theorem own_d8_1 : decode jdk_52_method_16_code 1 = .ok (.newarray .byte, 2) := by decide +kernel
theorem own_d8_3 : decode jdk_52_method_16_code 3 = .ok (.astore_n 3, 1) := by decide +kernel
theorem own_d8_4 : decode jdk_52_method_16_code 4 = .ok (.aload_n 0, 1) := by decide +kernel
theorem own_d8_5 : decode jdk_52_method_16_code 5 = .ok (.iload_n 1, 1) := by decide +kernel
theorem own_d8_6 : decode jdk_52_method_16_code 6 = .ok (.aload_n 3, 1) := by decide +kernel
theorem own_d8_7 : decode jdk_52_method_16_code 7 = .ok (.iconst 0, 1) := by decide +kernel
theorem own_d8_8 : decode jdk_52_method_16_code 8 = .ok (.iload_n 2, 1) := by decide +kernel
theorem own_d8_9 : decode jdk_52_method_16_code 9 = .ok (.invokestatic 115, 3) := by decide +kernel
theorem own_pd___CI_BII_I : parseMethodDescriptor "([CI[BII)I" = some ⟨[(.array .char), .int, (.array .byte), .int, .int], some .int⟩ := by decide +kernel
theorem own_d8_12 : decode jdk_52_method_16_code 12 = .ok (.istore 4, 2) := by decide +kernel
theorem own_d8_14 : decode jdk_52_method_16_code 14 = .ok (.iload 4, 2) := by decide +kernel
theorem own_d8_16 : decode jdk_52_method_16_code 16 = .ok (.iload_n 2, 1) := by decide +kernel
theorem own_d8_17 : decode jdk_52_method_16_code 17 = .ok (.if_icmp .eq 40, 3) := by decide +kernel
theorem own_d8_57 : decode jdk_52_method_16_code 57 = .ok (.aload_n 3, 1) := by decide +kernel
theorem own_d8_58 : decode jdk_52_method_16_code 58 = .ok (.areturn, 1) := by decide +kernel
theorem own_d8_20 : decode jdk_52_method_16_code 20 = .ok (.aload_n 0, 1) := by decide +kernel
theorem own_d8_21 : decode jdk_52_method_16_code 21 = .ok (.iload_n 1, 1) := by decide +kernel
theorem own_d8_22 : decode jdk_52_method_16_code 22 = .ok (.iload_n 2, 1) := by decide +kernel
theorem own_d8_23 : decode jdk_52_method_16_code 23 = .ok (.invokestatic 119, 3) := by decide +kernel
theorem own_pd___CII__B : parseMethodDescriptor "([CII)[B" = some ⟨[(.array .char), .int, .int], some (.array .byte)⟩ := by decide +kernel
theorem own_d8_26 : decode jdk_52_method_16_code 26 = .ok (.astore 5, 2) := by decide +kernel
theorem own_d8_28 : decode jdk_52_method_16_code 28 = .ok (.aload 5, 2) := by decide +kernel
theorem own_d8_30 : decode jdk_52_method_16_code 30 = .ok (.iload 4, 2) := by decide +kernel
theorem own_d8_32 : decode jdk_52_method_16_code 32 = .ok (.invokestatic 71, 3) := by decide +kernel
theorem own_d8_35 : decode jdk_52_method_16_code 35 = .ok (.sipush 255, 3) := by decide +kernel
theorem own_d8_38 : decode jdk_52_method_16_code 38 = .ok (.if_icmp .gt 16, 3) := by decide +kernel
theorem own_d8_54 : decode jdk_52_method_16_code 54 = .ok (.aload 5, 2) := by decide +kernel
theorem own_d8_56 : decode jdk_52_method_16_code 56 = .ok (.areturn, 1) := by decide +kernel
theorem own_ef_own_rc3 (m : MethodId) (src : Addr) (xs : List Int32) : entryFrame m #[(.ref src), (.int (0 : Int32)), (.int (Int32.ofNat xs.length))] 6 = mkF m 0 #[rv src, iv (0 : Int32), iv (Int32.ofNat xs.length), .unset, .unset, .unset] [] := by first | (simp [entryFrame, mkF, argsToLocals, Value.category]; done) | rfl
def own_Q_own_rc3 (Z : State) (src : Addr) (ks : ClassId) (xs : List Int32) (h0 : Heap) (n0 : Nat) (v : Option Value) (h : Heap) (L : List Loc) : Prop := ∃ b k zs, v = some (.ref b) ∧ Fr n0 L ∧ Keep h0 h [] ∧ h0.size ≤ b ∧ Arv Z h b k .byte (Int32.ofNat zs.length) (zs.map Value.int) (.int (0 : Int32)) ∧ own_C xs zs
set_option maxRecDepth 65536 in
set_option maxHeartbeats 40000000 in
theorem own_rc3 (l : Launch) (Z : State) (a0 : Array Value) (hw : ∀ d ∈ tables_1, d.before a0 Z = true) (ws : List Jvm.Cond) (src : Addr) (ks : ClassId) (xs : List Int32) (h0 : Heap) (n0 : Nat) (Z0 : n0 ≤ h0.size) (O : Old Z n0 h0) (SA : Sta Z Z.heap "java/lang/StringUTF16" "$assertionsDisabled" "Z" (.int (1 : Int32))) (SH : Sta Z Z.heap "java/lang/StringUTF16" "HI_BYTE_SHIFT" "I" (.int (0 : Int32))) (SL : Sta Z Z.heap "java/lang/StringUTF16" "LO_BYTE_SHIFT" "I" (.int (8 : Int32))) (Vs : Arv Z h0 src ks .char (Int32.ofNat xs.length) (xs.map Value.int) (.int (0 : Int32))) (h1 : 1 ≤ xs.length) (h4 : xs.length ≤ 4) (hR : own_R xs) :
    MetFree l (⟨"java/lang/StringUTF16", "compress", "([CII)[B"⟩ : MethodName) (head1 (Jvm.Cond.code (⟨"java/lang/StringUTF16", "compress", "([CII)[B"⟩ : MethodName) jdk_52_method_16_code 6 (some (.array .byte)) :: ws) ({ frames := 3, cells := 2, slots := 12, locals := 40 } : Room)) (fun a U => a = #[(.ref src), (.int (0 : Int32)), (.int (Int32.ofNat xs.length))] ∧ Z.Warmed39 U.vm ∧ U.heap = h0) (fun _ _ _ _ _ => True) (fun _ U o U' => ∃ v L, o = .returned v ∧ own_Q_own_rc3 Z src ks xs h0 n0 v U'.heap L ∧ FrameEnd U o U' L ({ frames := 3, cells := 2, slots := 12, locals := 40 } : Room).cells ({ frames := 3, cells := 2, slots := 12, locals := 40 } : Room).slots) := by
  refine MetFree.of_bodySF (plainFor_of_name own_pn_java_lang_StringUTF16) hisR ?_
  intro p e s m args below meth c s₁ Bd hml0 hP hK
  obtain ⟨rfl, hZ, hh⟩ := hP
  have hx := Bd.exec
  have hby := Bd.bytes
  have hml : c.maxLocals = 6 := hml0
  have hown : s.vm.findClass "java/lang/StringUTF16" = some m.cls := findClass_of_methodNamed Bd.named
  have hnm := (name_of_methodNamed Bd.named Bd.method).1
  have X0 : Stand p l e ({ frames := 3, cells := 2, slots := 12, locals := 40 } : Room) s m #[(.ref src), (.int (0 : Int32)), (.int (Int32.ofNat xs.length))] below meth c s₁ [] 0 0 := Stand.of_body Bd
  have e0 : s₁.heap = h0 := by rw [← hh, Bd.state]; rfl
  have N0 := Fr.nil n0
  have Kp : Keep h0 h0 [] := Keep.refl h0 _
  show own_Go p e below s (own_Q_own_rc3 Z src ks xs h0 n0) ({ frames := 3, cells := 2, slots := 12, locals := 40 } : Room).cells ({ frames := 3, cells := 2, slots := 12, locals := 40 } : Room).slots (s₁.setTop (entryFrame m #[(.ref src), (.int (0 : Int32)), (.int (Int32.ofNat xs.length))] 6))
  refine own_go (fun zt zk => castTop (own_ef_own_rc3 m src xs) zk) ?_
  show own_Go p e below s _ _ _ (s₁.setTop (mkF m 0 #[rv src, iv (0 : Int32), iv (Int32.ofNat xs.length), .unset, .unset, .unset] []))
  refine own_go (fun zt zk => (XS.iloadN X0.here hx rfl (hb hby own_d8_0) rfl zk)) ?_
  show own_Go p e below s _ _ _ (s₁.setTop (mkF m 1 #[rv src, iv (0 : Int32), iv (Int32.ofNat xs.length), .unset, .unset, .unset] [(.int (Int32.ofNat xs.length))]))
  obtain ⟨T1, h1, k1, X1, e1, E1, A1, Ea1, st1⟩ := newPE X0 hx hZ (hw _ (List.mem_of_getElem? (i := 21) rfl)) e0 (g := (mkF m 1 #[rv src, iv (0 : Int32), iv (Int32.ofNat xs.length), .unset, .unset, .unset] [(.int (Int32.ofNat xs.length))])) rfl (hb hby own_d8_1) rfl (own_nnN (by omega)) (cap := 4) (by rw [(own_ofNat (q := xs.length) (by omega)).2]; omega) (by decide) (by decide) (by decide) (ad := "[B") (by decide)
  obtain ⟨b1, g1⟩ : ∃ z, z = h0.size := ⟨_, rfl⟩
  rw [← g1] at A1 Ea1 st1
  refine own_go st1 ?_
  have ne_src_b1 : src ≠ b1 := Nat.ne_of_lt (Nat.lt_of_lt_of_le Vs.lt (Nat.le_of_eq g1.symm))
  have sz_b1 : h0.size ≤ b1 := Nat.le_trans Kp.1 (Nat.le_of_eq g1.symm)
  have g_b1 : n0 ≤ b1 := Nat.le_trans Z0 sz_b1
  replace O := O.ext E1
  replace Vs := Vs.ext E1
  replace Kp := Kp.ext E1
  have V_b1 : Arv Z h1 b1 k1 .byte (Int32.ofNat xs.length) [] (.int (0 : Int32)) := Arv.new A1 (own_nnN (by omega))
  have Ea_b1 := Ea1
  show own_Go p e below s _ _ _ (T1.setTop (mkF m 3 #[rv src, iv (0 : Int32), iv (Int32.ofNat xs.length), .unset, .unset, .unset] [(.ref b1)]))
  replace V_b1 := V_b1.pad (vs' := ((List.replicate xs.length (0 : Int32)).map Value.int)) (own_rep _)
  show own_Go p e below s _ _ _ (T1.setTop (mkF m 3 #[rv src, iv (0 : Int32), iv (Int32.ofNat xs.length), .unset, .unset, .unset] [(.ref b1)]))
  refine own_go (fun zt zk => (XS.astoreN X1.here hx rfl (hb hby own_d8_3) rfl rfl (l' := #[rv src, iv (0 : Int32), iv (Int32.ofNat xs.length), rv b1, .unset, .unset]) rfl (XS.aloadN X1.here hx rfl (hb hby own_d8_4) rfl rfl (XS.iloadN X1.here hx rfl (hb hby own_d8_5) rfl (XS.aloadN X1.here hx rfl (hb hby own_d8_6) rfl rfl (XS.iconst X1.here hx rfl (hb hby own_d8_7) (XS.iloadN X1.here hx rfl (hb hby own_d8_8) rfl zk))))))) ?_
  show own_Go p e below s _ _ _ (T1.setTop (mkF m 9 #[rv src, iv (0 : Int32), iv (Int32.ofNat xs.length), rv b1, .unset, .unset] [(.int (Int32.ofNat xs.length)), (.int (0 : Int32)), (.ref b1), (.int (0 : Int32)), (.ref src)]))
  obtain ⟨_, _, ⟨T2, L2, k2, n2⟩, -, X2, ⟨Lc2, hQ2, l2, y2, z2⟩, st2⟩ := Jvm.LawKit.callS X1 hx (y := (⟨"java/lang/StringUTF16", "compress", "([CI[BII)I"⟩ : MethodName)) hown (mvT hZ (hw _ (List.mem_of_getElem? (i := 47) rfl))) (mvT hZ (hw _ (List.mem_of_getElem? (i := 48) rfl))) (mvT hZ (hw _ (List.mem_of_getElem? (i := 45) rfl))) (mvT hZ (hw _ (List.mem_of_getElem? (i := 49) rfl))) (by decide) (backOf (W := 0) (own_rc5 l Z a0 hw [] src b1 ks k1 xs (List.replicate xs.length (0 : Int32)) h1 n0 (Nat.le_trans Z0 Kp.1) Vs V_b1 List.length_replicate h4 g_b1 ne_src_b1) hZ (hw _ (List.mem_of_getElem? (i := 49) rfl)) (hw _ (List.mem_of_getElem? (i := 45) rfl)) (by decide) (by decide)) (g := (mkF m 9 #[rv src, iv (0 : Int32), iv (Int32.ofNat xs.length), rv b1, .unset, .unset] [(.int (Int32.ofNat xs.length)), (.int (0 : Int32)), (.ref b1), (.int (0 : Int32)), (.ref src)])) rfl (by rw [hml]; rfl) (argsL := [(.ref src), (.int (0 : Int32)), (.ref b1), (.int (0 : Int32)), (.int (Int32.ofNat xs.length))]) (rest := []) (lenOf own_pd___CI_BII_I rfl) rfl (by show 2 * 0 + _ ≤ _; exact Nat.le_of_eq rfl) (hb hby own_d8_9) (fun _ _ => ⟨rfl, e1, (by decide : 1 + 0 ≤ _), (by decide : 4 + 0 ≤ _)⟩)
  dsimp only [Pt.U, Pt.locs, Pt.cells, Pt.slots] at X2 l2 y2 z2 st2 hQ2
  subst l2 y2 z2
  obtain ⟨r2, ys2, rfl, Nq2, K2, Vy2, hl2, hc2⟩ := hQ2
  have N2 := Fr.app N0 Nq2
  refine own_go st2 ?_
  replace O := O.keep K2 (allS g_b1 all0)
  replace Vs := Vs.keep K2 (ninS ne_src_b1 nin0)
  replace Kp := Kp.trans K2 (allS (Or.inr sz_b1) all0)
  replace Ea_b1 := Ea_b1.keep K2
  show own_Go p e below s _ _ _ (T2.setTop (mkF m 12 #[rv src, iv (0 : Int32), iv (Int32.ofNat xs.length), rv b1, .unset, .unset] [(.int (Int32.ofNat r2))]))
  refine own_go (fun zt zk => (XS.istore X2.here hx rfl (hb hby own_d8_12) rfl (l' := #[rv src, iv (0 : Int32), iv (Int32.ofNat xs.length), rv b1, iv (Int32.ofNat r2), .unset]) rfl zk)) ?_
  show own_Go p e below s _ _ _ (T2.setTop (mkF m 14 #[rv src, iv (0 : Int32), iv (Int32.ofNat xs.length), rv b1, iv (Int32.ofNat r2), .unset] []))
  rcases hc2 with ⟨hr, hL⟩ | ⟨hr, hL⟩
  · subst hr
    show own_Go p e below s _ _ _ (T2.setTop (mkF m 14 #[rv src, iv (0 : Int32), iv (Int32.ofNat xs.length), rv b1, iv (Int32.ofNat xs.length), .unset] []))
    refine own_go (fun zt zk => (XS.iload X2.here hx rfl (hb hby own_d8_14) rfl (XS.iloadN X2.here hx rfl (hb hby own_d8_16) rfl (XS.icmpYes X2.here hx rfl (pc0 := 17) (pc' := 57) rfl (hb hby own_d8_17) rfl (teq (rfl : (Int32.ofNat xs.length) = (Int32.ofNat xs.length))).1 (by decide) (by decide) (XS.aloadN X2.here hx rfl (hb hby own_d8_57) rfl rfl zk))))) ?_
    show own_Go p e below s _ _ _ (T2.setTop (mkF m 58 #[rv src, iv (0 : Int32), iv (Int32.ofNat xs.length), rv b1, iv (Int32.ofNat xs.length), .unset] [(.ref b1)]))
    exact own_fin X2 Bd.notSynchronized (fun h => by rw [Bd.returns] at h; cases h) (fun fs hr => retOut X2 hx (t := (.array .byte)) (w := (.ref b1)) Bd.returns rfl (Or.inr (Or.inr (Or.inr (Or.inr ⟨rfl, rfl, rfl⟩)))) (hb hby own_d8_58) hr) ⟨b1, _, ys2, rfl, N2, Kp, sz_b1, by rw [hl2]; exact Vy2, Or.inl ⟨hl2, hL⟩⟩ (by decide) (by decide)
  · show own_Go p e below s _ _ _ (T2.setTop (mkF m 14 #[rv src, iv (0 : Int32), iv (Int32.ofNat xs.length), rv b1, iv (Int32.ofNat r2), .unset] []))
    refine own_go (fun zt zk => (XS.iload X2.here hx rfl (hb hby own_d8_14) rfl (XS.iloadN X2.here hx rfl (hb hby own_d8_16) rfl (XS.icmpNo X2.here hx rfl (hb hby own_d8_17) rfl (feq ((fun q => absurd ((own_eqN (by omega) (by omega)).mp q) (by omega)) : ¬ ((Int32.ofNat r2) = (Int32.ofNat xs.length)))).1 (XS.aloadN X2.here hx rfl (hb hby own_d8_20) rfl rfl (XS.iloadN X2.here hx rfl (hb hby own_d8_21) rfl (XS.iloadN X2.here hx rfl (hb hby own_d8_22) rfl zk))))))) ?_
    show own_Go p e below s _ _ _ (T2.setTop (mkF m 23 #[rv src, iv (0 : Int32), iv (Int32.ofNat xs.length), rv b1, iv (Int32.ofNat r2), .unset] [(.int (Int32.ofNat xs.length)), (.int (0 : Int32)), (.ref src)]))
    have sq := Kp.1
    obtain ⟨_, _, ⟨T3, L3, k3, n3⟩, -, X3, ⟨Lc3, hQ3, l3, y3, z3⟩, st3⟩ := Jvm.LawKit.callS X2 hx (y := (⟨"java/lang/StringUTF16", "toBytes", "([CII)[B"⟩ : MethodName)) hown (mvT hZ (hw _ (List.mem_of_getElem? (i := 78) rfl))) (mvT hZ (hw _ (List.mem_of_getElem? (i := 79) rfl))) (mvT hZ (hw _ (List.mem_of_getElem? (i := 45) rfl))) (mvT hZ (hw _ (List.mem_of_getElem? (i := 80) rfl))) (by decide) (backOf (W := 0) (own_rtob l Z a0 hw [] src ks xs T2.heap n0 (Nat.le_trans Z0 Kp.1) O SA SH SL Vs h4) hZ (hw _ (List.mem_of_getElem? (i := 80) rfl)) (hw _ (List.mem_of_getElem? (i := 45) rfl)) (by decide) (by decide)) (g := (mkF m 23 #[rv src, iv (0 : Int32), iv (Int32.ofNat xs.length), rv b1, iv (Int32.ofNat r2), .unset] [(.int (Int32.ofNat xs.length)), (.int (0 : Int32)), (.ref src)])) rfl (by rw [hml]; rfl) (argsL := [(.ref src), (.int (0 : Int32)), (.int (Int32.ofNat xs.length))]) (rest := []) (lenOf own_pd___CII__B rfl) rfl (by show 2 * 0 + _ ≤ _; exact Nat.le_of_eq rfl) (hb hby own_d8_23) (fun _ _ => ⟨rfl, rfl, (by decide : 1 + 1 ≤ _), (by decide : 4 + 8 ≤ _)⟩)
    dsimp only [Pt.U, Pt.locs, Pt.cells, Pt.slots] at X3 l3 y3 z3 st3 hQ3
    subst l3 y3 z3
    obtain ⟨b3, kb3, zs3, rfl, Nq3, K3, sb3, Vb3, hl3, hU3⟩ := hQ3
    have N3 := Fr.app N2 Nq3
    refine own_go st3 ?_
    replace O := O.keep K3 all0
    replace Vs := Vs.keep K3 nin0
    replace Kp := Kp.trans K3 all0
    replace Ea_b1 := Ea_b1.keep K3
    replace Vy2 := Vy2.keep K3 nin0
    show own_Go p e below s _ _ _ (T3.setTop (mkF m 26 #[rv src, iv (0 : Int32), iv (Int32.ofNat xs.length), rv b1, iv (Int32.ofNat r2), .unset] [(.ref b3)]))
    replace Vb3 : Arv Z T3.heap b3 kb3 .byte (Int32.ofNat zs3.length) (zs3.map Value.int) (.int (0 : Int32)) := by rw [hl3]; exact Vb3
    refine own_go (fun zt zk => (XS.astore X3.here hx rfl (hb hby own_d8_26) rfl rfl (l' := #[rv src, iv (0 : Int32), iv (Int32.ofNat xs.length), rv b1, iv (Int32.ofNat r2), rv b3]) rfl (XS.aload X3.here hx rfl (hb hby own_d8_28) rfl rfl (XS.iload X3.here hx rfl (hb hby own_d8_30) rfl zk)))) ?_
    show own_Go p e below s _ _ _ (T3.setTop (mkF m 32 #[rv src, iv (0 : Int32), iv (Int32.ofNat xs.length), rv b1, iv (Int32.ofNat r2), rv b3] [(.int (Int32.ofNat r2)), (.ref b3)]))
    obtain ⟨_, _, ⟨T4, L4, k4, n4⟩, -, X4, ⟨Lc4, hQ4, l4, y4, z4⟩, st4⟩ := Jvm.LawKit.callS X3 hx (y := (⟨"java/lang/StringUTF16", "getChar", "([BI)C"⟩ : MethodName)) hown (mvT hZ (hw _ (List.mem_of_getElem? (i := 94) rfl))) (mvT hZ (hw _ (List.mem_of_getElem? (i := 95) rfl))) (mvT hZ (hw _ (List.mem_of_getElem? (i := 45) rfl))) (mvT hZ (hw _ (List.mem_of_getElem? (i := 96) rfl))) (by decide) (backOf (W := 0) (own_rgetc l Z a0 hw [] b3 r2 kb3 xs zs3 T3.heap n0 (Nat.le_trans Z0 Kp.1) O SA SH SL Vb3 hr h4 hl3 hU3 hR) hZ (hw _ (List.mem_of_getElem? (i := 96) rfl)) (hw _ (List.mem_of_getElem? (i := 45) rfl)) (by decide) (by decide)) (g := (mkF m 32 #[rv src, iv (0 : Int32), iv (Int32.ofNat xs.length), rv b1, iv (Int32.ofNat r2), rv b3] [(.int (Int32.ofNat r2)), (.ref b3)])) rfl (by rw [hml]; rfl) (argsL := [(.ref b3), (.int (Int32.ofNat r2))]) (rest := []) (lenOf own_pd___BI_C rfl) rfl (by show 2 * 0 + _ ≤ _; exact Nat.le_of_eq rfl) (hb hby own_d8_32) (fun _ _ => ⟨rfl, rfl, (by decide : 2 + 0 ≤ _), (by decide : 12 + 0 ≤ _)⟩)
    dsimp only [Pt.U, Pt.locs, Pt.cells, Pt.slots] at X4 l4 y4 z4 st4 hQ4
    subst l4 y4 z4
    obtain ⟨rfl, Nq4, e4⟩ := hQ4
    have N4 := Fr.app N3 Nq4
    refine own_go st4 ?_
    show own_Go p e below s _ _ _ (T4.setTop (mkF m 35 #[rv src, iv (0 : Int32), iv (Int32.ofNat xs.length), rv b1, iv (Int32.ofNat r2), rv b3] [(.int (xs.getD r2 0))]))
    refine own_go (fun zt zk => (XS.sipush X4.here hx rfl (hb hby own_d8_35) (XS.icmpYes X4.here hx rfl (pc0 := 38) (pc' := 54) rfl (hb hby own_d8_38) rfl (tlt (hL : (255 : Int32) < (xs.getD r2 0))).2.2.1 (by decide) (by decide) (XS.aload X4.here hx rfl (hb hby own_d8_54) rfl rfl zk)))) ?_
    show own_Go p e below s _ _ _ (T4.setTop (mkF m 56 #[rv src, iv (0 : Int32), iv (Int32.ofNat xs.length), rv b1, iv (Int32.ofNat r2), rv b3] [(.ref b3)]))
    exact own_fin X4 Bd.notSynchronized (fun h => by rw [Bd.returns] at h; cases h) (fun fs hr => retOut X4 hx (t := (.array .byte)) (w := (.ref b3)) Bd.returns rfl (Or.inr (Or.inr (Or.inr (Or.inr ⟨rfl, rfl, rfl⟩)))) (hb hby own_d8_56) hr) (by rw [e4]; exact ⟨b3, _, zs3, rfl, N4, Kp, Nat.le_trans sq sb3, Vb3, Or.inr ⟨hl3, hU3⟩⟩) (by decide) (by decide)
theorem own_d10_0 : decode jdk_52_method_15_code 0 = .ok (.iload_n 1, 1) := by decide +kernel
theorem own_d10_1 : decode jdk_52_method_15_code 1 = .ok (.aload_n 0, 1) := by decide +kernel
theorem own_d10_2 : decode jdk_52_method_15_code 2 = .ok (.arraylength, 1) := by decide +kernel
theorem own_d10_3 : decode jdk_52_method_15_code 3 = .ok (.isub, 1) := by decide +kernel
theorem own_d10_4 : decode jdk_52_method_15_code 4 = .ok (.bipush 31, 2) := by decide +kernel
theorem own_d10_6 : decode jdk_52_method_15_code 6 = .ok (.iushr, 1) := by decide +kernel
theorem own_d10_7 : decode jdk_52_method_15_code 7 = .ok (.i2b, 1) := by decide +kernel
theorem own_d10_8 : decode jdk_52_method_15_code 8 = .ok (.ireturn, 1) := by decide +kernel
theorem own_ef_own_rcfa (m : MethodId) (t : Addr) (xs : List Int32) : entryFrame m #[(.ref t), (.int (Int32.ofNat xs.length))] 2 = mkF m 0 #[rv t, iv (Int32.ofNat xs.length)] [] := by first | (simp [entryFrame, mkF, argsToLocals, Value.category]; done) | rfl
def own_Q_own_rcfa (Z : State) (t : Addr) (kb : ClassId) (xs zs : List Int32) (h0 : Heap) (n0 : Nat) (v : Option Value) (h : Heap) (L : List Loc) : Prop := ∃ cd, v = some (.int cd) ∧ Fr n0 L ∧ h = h0 ∧ own_D xs zs cd
set_option maxRecDepth 65536 in
set_option maxHeartbeats 40000000 in
theorem own_rcfa (l : Launch) (Z : State) (a0 : Array Value) (hw : ∀ d ∈ tables_1, d.before a0 Z = true) (ws : List Jvm.Cond) (t : Addr) (kb : ClassId) (xs zs : List Int32) (h0 : Heap) (n0 : Nat) (Z0 : n0 ≤ h0.size) (Va : Arv Z h0 t kb .byte (Int32.ofNat zs.length) (zs.map Value.int) (.int (0 : Int32))) (h1 : 1 ≤ xs.length) (h4 : xs.length ≤ 4) (hC : own_C xs zs) :
    MetFree l (⟨"java/lang/StringUTF16", "coderFromArrayLen", "([BI)B"⟩ : MethodName) (head1 (Jvm.Cond.code (⟨"java/lang/StringUTF16", "coderFromArrayLen", "([BI)B"⟩ : MethodName) jdk_52_method_15_code 2 (some .byte) :: ws) ({ frames := 0, cells := 0, slots := 0, locals := 0 } : Room)) (fun a U => a = #[(.ref t), (.int (Int32.ofNat xs.length))] ∧ Z.Warmed39 U.vm ∧ U.heap = h0) (fun _ _ _ _ _ => True) (fun _ U o U' => ∃ v L, o = .returned v ∧ own_Q_own_rcfa Z t kb xs zs h0 n0 v U'.heap L ∧ FrameEnd U o U' L ({ frames := 0, cells := 0, slots := 0, locals := 0 } : Room).cells ({ frames := 0, cells := 0, slots := 0, locals := 0 } : Room).slots) := by
  refine MetFree.of_bodySF (plainFor_of_name own_pn_java_lang_StringUTF16) hisR ?_
  intro p e s m args below meth c s₁ Bd hml0 hP hK
  obtain ⟨rfl, hZ, hh⟩ := hP
  have hx := Bd.exec
  have hby := Bd.bytes
  have hml : c.maxLocals = 2 := hml0
  have hown : s.vm.findClass "java/lang/StringUTF16" = some m.cls := findClass_of_methodNamed Bd.named
  have hnm := (name_of_methodNamed Bd.named Bd.method).1
  have X0 : Stand p l e ({ frames := 0, cells := 0, slots := 0, locals := 0 } : Room) s m #[(.ref t), (.int (Int32.ofNat xs.length))] below meth c s₁ [] 0 0 := Stand.of_body Bd
  have e0 : s₁.heap = h0 := by rw [← hh, Bd.state]; rfl
  have N0 := Fr.nil n0
  show own_Go p e below s (own_Q_own_rcfa Z t kb xs zs h0 n0) ({ frames := 0, cells := 0, slots := 0, locals := 0 } : Room).cells ({ frames := 0, cells := 0, slots := 0, locals := 0 } : Room).slots (s₁.setTop (entryFrame m #[(.ref t), (.int (Int32.ofNat xs.length))] 2))
  refine own_go (fun zt zk => castTop (own_ef_own_rcfa m t xs) zk) ?_
  show own_Go p e below s _ _ _ (s₁.setTop (mkF m 0 #[rv t, iv (Int32.ofNat xs.length)] []))
  refine own_go (fun zt zk => (XS.iloadN X0.here hx rfl (hb hby own_d10_0) rfl (XS.aloadN X0.here hx rfl (hb hby own_d10_1) rfl rfl zk))) ?_
  show own_Go p e below s _ _ _ (s₁.setTop (mkF m 2 #[rv t, iv (Int32.ofNat xs.length)] [(.ref t), (.int (Int32.ofNat xs.length))]))
  obtain ⟨cl1, Ar1, -, Sz1, Nz1, -, -⟩ := id Va
  refine own_go (X0.arraylength hx (by rw [e0]; exact Ar1.1) (State.isArrayOf_alike hZ.alike Ar1.2.1) (g := (mkF m 2 #[rv t, iv (Int32.ofNat xs.length)] [(.ref t), (.int (Int32.ofNat xs.length))])) rfl rfl (hb hby own_d10_2)) ?_
  rw [len_of Sz1 Nz1]
  show own_Go p e below s _ _ _ (s₁.setTop (mkF m 3 #[rv t, iv (Int32.ofNat xs.length)] [(.int (Int32.ofNat zs.length)), (.int (Int32.ofNat xs.length))]))
  refine own_go (fun zt zk => (XS.isub X0.here hx rfl (hb hby own_d10_3) rfl (XS.bipush X0.here hx rfl (hb hby own_d10_4) (XS.iushr X0.here hx rfl (hb hby own_d10_6) rfl (XS.i2b X0.here hx rfl (hb hby own_d10_7) rfl zk))))) ?_
  show own_Go p e below s _ _ _ (s₁.setTop (mkF m 8 #[rv t, iv (Int32.ofNat xs.length)] [(.int (((((Int32.ofNat xs.length) - (Int32.ofNat zs.length)).toUInt32 >>> ((31 : Int32) &&& 31).toUInt32).toInt32).toInt8.toInt32))]))
  rcases hC with hC | hC
  · exact own_fin X0 Bd.notSynchronized (fun h => by rw [Bd.returns] at h; cases h) (fun fs hr => retN X0 hx (t := .byte) Bd.returns (by simp) (hb hby own_d10_8) hr) (by rw [e0]; exact ⟨0, congrArg (fun z => some (Value.int z)) (by rw [hC.1]; exact own_cf0 _), N0, rfl, Or.inl ⟨rfl, hC⟩⟩) (by decide) (by decide)
  · exact own_fin X0 Bd.notSynchronized (fun h => by rw [Bd.returns] at h; cases h) (fun fs hr => retN X0 hx (t := .byte) Bd.returns (by simp) (hb hby own_d10_8) hr) (by rw [e0]; exact ⟨1, congrArg (fun z => some (Value.int z)) (by rw [hC.1]; exact own_cf1 _ (by omega) h1), N0, rfl, Or.inr ⟨rfl, hC⟩⟩) (by decide) (by decide)
theorem own_d3_27 : decode jdk_42_method_149_code 27 = .ok (.getstatic 38, 3) := by decide +kernel
theorem own_d3_30 : decode jdk_42_method_149_code 30 = .ok (.ifCond .eq 28, 3) := by decide +kernel
theorem own_d3_33 : decode jdk_42_method_149_code 33 = .ok (.aload_n 1, 1) := by decide +kernel
theorem own_d3_34 : decode jdk_42_method_149_code 34 = .ok (.iload_n 2, 1) := by decide +kernel
theorem own_d3_35 : decode jdk_42_method_149_code 35 = .ok (.iload_n 3, 1) := by decide +kernel
theorem own_d3_36 : decode jdk_42_method_149_code 36 = .ok (.invokestatic 177, 3) := by decide +kernel
theorem own_d3_39 : decode jdk_42_method_149_code 39 = .ok (.astore 5, 2) := by decide +kernel
theorem own_d3_41 : decode jdk_42_method_149_code 41 = .ok (.aload_n 0, 1) := by decide +kernel
theorem own_d3_42 : decode jdk_42_method_149_code 42 = .ok (.aload 5, 2) := by decide +kernel
theorem own_d3_44 : decode jdk_42_method_149_code 44 = .ok (.iload_n 3, 1) := by decide +kernel
theorem own_d3_45 : decode jdk_42_method_149_code 45 = .ok (.invokestatic 47, 3) := by decide +kernel
theorem own_pd___BI_B : parseMethodDescriptor "([BI)B" = some ⟨[(.array .byte), .int], some .byte⟩ := by decide +kernel
theorem own_d3_48 : decode jdk_42_method_149_code 48 = .ok (.putfield 15, 3) := by decide +kernel
theorem own_d3_51 : decode jdk_42_method_149_code 51 = .ok (.aload_n 0, 1) := by decide +kernel
theorem own_d3_52 : decode jdk_42_method_149_code 52 = .ok (.aload 5, 2) := by decide +kernel
theorem own_d3_54 : decode jdk_42_method_149_code 54 = .ok (.putfield 9, 3) := by decide +kernel
theorem own_d3_57 : decode jdk_42_method_149_code 57 = .ok (.return_, 1) := by decide +kernel
theorem own_ef_own_ri4 (m : MethodId) (a1 : Addr) (src : Addr) (xs : List Int32) : entryFrame m #[(.ref a1), (.ref src), (.int (0 : Int32)), (.int (Int32.ofNat xs.length)), .null] 6 = mkF m 0 #[rv a1, rv src, iv (0 : Int32), iv (Int32.ofNat xs.length), .val .null, .unset] [] := by first | (simp [entryFrame, mkF, argsToLocals, Value.category]; done) | rfl
def own_Q_own_ri4 (Z : State) (a1 : Addr) (src : Addr) (cz : Int32) (ks : ClassId) (xs : List Int32) (h0 : Heap) (n0 : Nat) (v : Option Value) (h : Heap) (L : List Loc) : Prop := v = none ∧ Fr n0 L ∧ Keep h0 h [a1] ∧ own_Str Z h a1 xs
set_option maxRecDepth 65536 in
set_option maxHeartbeats 40000000 in
theorem own_ri4 (l : Launch) (Z : State) (a0 : Array Value) (hw : ∀ d ∈ tables_1, d.before a0 Z = true) (ws : List Jvm.Cond) (a1 : Addr) (src : Addr) (cz : Int32) (ks : ClassId) (xs : List Int32) (h0 : Heap) (n0 : Nat) (Z0 : n0 ≤ h0.size) (O : Old Z n0 h0) (SC : Sta Z Z.heap "java/lang/String" "COMPACT_STRINGS" "Z" (.int cz)) (SA : Sta Z Z.heap "java/lang/StringUTF16" "$assertionsDisabled" "Z" (.int (1 : Int32))) (SH : Sta Z Z.heap "java/lang/StringUTF16" "HI_BYTE_SHIFT" "I" (.int (0 : Int32))) (SL : Sta Z Z.heap "java/lang/StringUTF16" "LO_BYTE_SHIFT" "I" (.int (8 : Int32))) (Ex : Exa Z h0 a1 "java/lang/String") (Fv : Fld Z h0 a1 "java/lang/String" "value" "[B" .null) (Fc : Fld Z h0 a1 "java/lang/String" "coder" "B" (.int (0 : Int32))) (Vs : Arv Z h0 src ks .char (Int32.ofNat xs.length) (xs.map Value.int) (.int (0 : Int32))) (g_a1 : n0 ≤ a1) (hz : ¬ (cz = (0 : Int32))) (h1 : 1 ≤ xs.length) (h4 : xs.length ≤ 4) (hR : own_R xs) (hne : src ≠ a1) :
    MetFree l (⟨"java/lang/String", "<init>", "([CIILjava/lang/Void;)V"⟩ : MethodName) (head1 (Jvm.Cond.code (⟨"java/lang/String", "<init>", "([CIILjava/lang/Void;)V"⟩ : MethodName) jdk_42_method_149_code 6 none :: ws) ({ frames := 4, cells := 2, slots := 12, locals := 57 } : Room)) (fun a U => a = #[(.ref a1), (.ref src), (.int (0 : Int32)), (.int (Int32.ofNat xs.length)), .null] ∧ Z.Warmed39 U.vm ∧ U.heap = h0) (fun _ _ _ _ _ => True) (fun _ U o U' => ∃ v L, o = .returned v ∧ own_Q_own_ri4 Z a1 src cz ks xs h0 n0 v U'.heap L ∧ FrameEnd U o U' L ({ frames := 4, cells := 2, slots := 12, locals := 57 } : Room).cells ({ frames := 4, cells := 2, slots := 12, locals := 57 } : Room).slots) := by
  refine MetFree.of_bodySF (plainFor_of_name own_pn_java_lang_String) hisR ?_
  intro p e s m args below meth c s₁ Bd hml0 hP hK
  obtain ⟨rfl, hZ, hh⟩ := hP
  have hx := Bd.exec
  have hby := Bd.bytes
  have hml : c.maxLocals = 6 := hml0
  have hown : s.vm.findClass "java/lang/String" = some m.cls := findClass_of_methodNamed Bd.named
  have hnm := (name_of_methodNamed Bd.named Bd.method).1
  have X0 : Stand p l e ({ frames := 4, cells := 2, slots := 12, locals := 57 } : Room) s m #[(.ref a1), (.ref src), (.int (0 : Int32)), (.int (Int32.ofNat xs.length)), .null] below meth c s₁ [] 0 0 := Stand.of_body Bd
  have e0 : s₁.heap = h0 := by rw [← hh, Bd.state]; rfl
  have N0 := Fr.nil n0
  have Kp : Keep h0 h0 [a1] := Keep.refl h0 _
  show own_Go p e below s (own_Q_own_ri4 Z a1 src cz ks xs h0 n0) ({ frames := 4, cells := 2, slots := 12, locals := 57 } : Room).cells ({ frames := 4, cells := 2, slots := 12, locals := 57 } : Room).slots (s₁.setTop (entryFrame m #[(.ref a1), (.ref src), (.int (0 : Int32)), (.int (Int32.ofNat xs.length)), .null] 6))
  refine own_go (fun zt zk => castTop (own_ef_own_ri4 m a1 src xs) zk) ?_
  show own_Go p e below s _ _ _ (s₁.setTop (mkF m 0 #[rv a1, rv src, iv (0 : Int32), iv (Int32.ofNat xs.length), .val .null, .unset] []))
  refine own_go (fun zt zk => (XS.aloadN X0.here hx rfl (hb hby own_d3_0) rfl rfl zk)) ?_
  show own_Go p e below s _ _ _ (s₁.setTop (mkF m 1 #[rv a1, rv src, iv (0 : Int32), iv (Int32.ofNat xs.length), .val .null, .unset] [(.ref a1)]))
  obtain ⟨T1, X1, e1, st1⟩ := initO X0 hx hZ hown (hw _ (List.mem_of_getElem? (i := 17) rfl)) (hw _ (List.mem_of_getElem? (i := 18) rfl)) (hw _ (List.mem_of_getElem? (i := 19) rfl)) e0 (g := (mkF m 1 #[rv a1, rv src, iv (0 : Int32), iv (Int32.ofNat xs.length), .val .null, .unset] [(.ref a1)])) rfl (by rw [hml]; rfl) rfl (hb hby own_d3_1) (by decide) (W := 0) (by show 2 * 0 + _ ≤ _; exact Nat.le_of_eq rfl) (by decide)
  refine own_go st1 ?_
  show own_Go p e below s _ _ _ (T1.setTop (mkF m 4 #[rv a1, rv src, iv (0 : Int32), iv (Int32.ofNat xs.length), .val .null, .unset] []))
  refine own_go (fun zt zk => (XS.iloadN X1.here hx rfl (hb hby own_d3_4) rfl (XS.ifYes X1.here hx rfl (pc0 := 5) (pc' := 27) rfl (hb hby own_d3_5) rfl ((if0 _ _).trans (feq ((fun q => absurd ((own_eqN (s := 0) (by omega) (by omega)).mp q) (by omega)) : ¬ ((Int32.ofNat xs.length) = (0 : Int32)))).2) (by decide) (by decide) zk))) ?_
  show own_Go p e below s _ _ _ (T1.setTop (mkF m 27 #[rv a1, rv src, iv (0 : Int32), iv (Int32.ofNat xs.length), .val .null, .unset] []))
  obtain ⟨T2, X2, e2, st2⟩ := getS2 X1 hx hZ hown (host := "") (Or.inl (hw _ (List.mem_of_getElem? (i := 42) rfl))) Via.refl e1 (SC.ext O.2) (g := (mkF m 27 #[rv a1, rv src, iv (0 : Int32), iv (Int32.ofNat xs.length), .val .null, .unset] [])) rfl (hb hby own_d3_27)
  refine own_go st2 ?_
  show own_Go p e below s _ _ _ (T2.setTop (mkF m 30 #[rv a1, rv src, iv (0 : Int32), iv (Int32.ofNat xs.length), .val .null, .unset] [(.int cz)]))
  refine own_go (fun zt zk => (XS.ifNo X2.here hx rfl (hb hby own_d3_30) rfl ((if0 _ _).trans (feq (hz : ¬ (cz = (0 : Int32)))).1) (XS.aloadN X2.here hx rfl (hb hby own_d3_33) rfl rfl (XS.iloadN X2.here hx rfl (hb hby own_d3_34) rfl (XS.iloadN X2.here hx rfl (hb hby own_d3_35) rfl zk))))) ?_
  show own_Go p e below s _ _ _ (T2.setTop (mkF m 36 #[rv a1, rv src, iv (0 : Int32), iv (Int32.ofNat xs.length), .val .null, .unset] [(.int (Int32.ofNat xs.length)), (.int (0 : Int32)), (.ref src)]))
  have la1 := Ex.lt
  obtain ⟨_, _, ⟨T3, L3, k3, n3⟩, -, X3, ⟨Lc3, hQ3, l3, y3, z3⟩, st3⟩ := Jvm.LawKit.callS X2 hx (y := (⟨"java/lang/StringUTF16", "compress", "([CII)[B"⟩ : MethodName)) hown (mvT hZ (hw _ (List.mem_of_getElem? (i := 43) rfl))) (mvT hZ (hw _ (List.mem_of_getElem? (i := 44) rfl))) (mvT hZ (hw _ (List.mem_of_getElem? (i := 45) rfl))) (mvT hZ (hw _ (List.mem_of_getElem? (i := 46) rfl))) (by decide) (backOf (W := 0) (own_rc3 l Z a0 hw [] src ks xs h0 n0 Z0 O SA SH SL Vs h1 h4 hR) hZ (hw _ (List.mem_of_getElem? (i := 46) rfl)) (hw _ (List.mem_of_getElem? (i := 45) rfl)) (by decide) (by decide)) (g := (mkF m 36 #[rv a1, rv src, iv (0 : Int32), iv (Int32.ofNat xs.length), .val .null, .unset] [(.int (Int32.ofNat xs.length)), (.int (0 : Int32)), (.ref src)])) rfl (by rw [hml]; rfl) (argsL := [(.ref src), (.int (0 : Int32)), (.int (Int32.ofNat xs.length))]) (rest := []) (lenOf own_pd___CII__B rfl) rfl (by show 2 * 0 + _ ≤ _; exact Nat.le_of_eq rfl) (hb hby own_d3_36) (fun _ _ => ⟨rfl, e2, (by decide : 0 + 2 ≤ _), (by decide : 0 + 12 ≤ _)⟩)
  dsimp only [Pt.U, Pt.locs, Pt.cells, Pt.slots] at X3 l3 y3 z3 st3 hQ3
  subst l3 y3 z3
  obtain ⟨t3, kt3, zs3, rfl, Nq3, K3, sz3, Vt3, hC3⟩ := hQ3
  have N3 := Fr.app N0 Nq3
  refine own_go st3 ?_
  replace O := O.keep K3 all0
  replace Ex := Ex.keep K3
  replace Fv := Fv.keep K3 nin0
  replace Fc := Fc.keep K3 nin0
  replace Vs := Vs.keep K3 nin0
  replace Kp := Kp.trans K3 all0
  show own_Go p e below s _ _ _ (T3.setTop (mkF m 39 #[rv a1, rv src, iv (0 : Int32), iv (Int32.ofNat xs.length), .val .null, .unset] [(.ref t3)]))
  have nt : t3 ≠ a1 := Ne.symm (Nat.ne_of_lt (Nat.lt_of_lt_of_le la1 sz3))
  refine own_go (fun zt zk => (XS.astore X3.here hx rfl (hb hby own_d3_39) rfl rfl (l' := #[rv a1, rv src, iv (0 : Int32), iv (Int32.ofNat xs.length), .val .null, rv t3]) rfl (XS.aloadN X3.here hx rfl (hb hby own_d3_41) rfl rfl (XS.aload X3.here hx rfl (hb hby own_d3_42) rfl rfl (XS.iloadN X3.here hx rfl (hb hby own_d3_44) rfl zk))))) ?_
  show own_Go p e below s _ _ _ (T3.setTop (mkF m 45 #[rv a1, rv src, iv (0 : Int32), iv (Int32.ofNat xs.length), .val .null, rv t3] [(.int (Int32.ofNat xs.length)), (.ref t3), (.ref a1)]))
  obtain ⟨_, _, ⟨T4, L4, k4, n4⟩, -, X4, ⟨Lc4, hQ4, l4, y4, z4⟩, st4⟩ := Jvm.LawKit.callS X3 hx (y := (⟨"java/lang/StringUTF16", "coderFromArrayLen", "([BI)B"⟩ : MethodName)) hown (mvT hZ (hw _ (List.mem_of_getElem? (i := 50) rfl))) (mvT hZ (hw _ (List.mem_of_getElem? (i := 51) rfl))) (mvT hZ (hw _ (List.mem_of_getElem? (i := 45) rfl))) (mvT hZ (hw _ (List.mem_of_getElem? (i := 52) rfl))) (by decide) (backOf (W := 1) (own_rcfa l Z a0 hw [] t3 kt3 xs zs3 T3.heap n0 (Nat.le_trans Z0 Kp.1) Vt3 h1 h4 hC3) hZ (hw _ (List.mem_of_getElem? (i := 52) rfl)) (hw _ (List.mem_of_getElem? (i := 45) rfl)) (by decide) (by decide)) (g := (mkF m 45 #[rv a1, rv src, iv (0 : Int32), iv (Int32.ofNat xs.length), .val .null, rv t3] [(.int (Int32.ofNat xs.length)), (.ref t3), (.ref a1)])) rfl (by rw [hml]; rfl) (argsL := [(.ref t3), (.int (Int32.ofNat xs.length))]) (rest := [(.ref a1)]) (lenOf own_pd___BI_B rfl) rfl (by show 2 * 0 + _ ≤ _; exact Nat.le_of_eq rfl) (hb hby own_d3_45) (fun _ _ => ⟨rfl, rfl, (by decide : 2 + 0 ≤ _), (by decide : 12 + 0 ≤ _)⟩)
  dsimp only [Pt.U, Pt.locs, Pt.cells, Pt.slots] at X4 l4 y4 z4 st4 hQ4
  subst l4 y4 z4
  obtain ⟨cd4, rfl, Nq4, e4, hD4⟩ := hQ4
  have N4 := Fr.app N3 Nq4
  refine own_go st4 ?_
  show own_Go p e below s _ _ _ (T4.setTop (mkF m 48 #[rv a1, rv src, iv (0 : Int32), iv (Int32.ofNat xs.length), .val .null, rv t3] [(.int cd4), (.ref a1)]))
  rcases hD4 with ⟨rfl, hD⟩ | ⟨rfl, hD⟩
  · show own_Go p e below s _ _ _ (T4.setTop (mkF m 48 #[rv a1, rv src, iv (0 : Int32), iv (Int32.ofNat xs.length), .val .null, rv t3] [(.int (0 : Int32)), (.ref a1)]))
    obtain ⟨T5, h5, X5, e5, W5, st5⟩ := putFN X4 hx hZ hown (hw _ (List.mem_of_getElem? (i := 27) rfl)) Via.refl e4 Fc Ex (Or.inr ⟨(hw _ (List.mem_of_getElem? (i := 23) rfl)), rfl, hnm⟩) (hw _ (List.mem_of_getElem? (i := 3) rfl)) (ty := .byte) (v' := (.int (0 : Int32))) (by decide) rfl (by decide) (g := (mkF m 48 #[rv a1, rv src, iv (0 : Int32), iv (Int32.ofNat xs.length), .val .null, rv t3] [(.int (0 : Int32)), (.ref a1)])) rfl rfl (hb hby own_d3_48)
    refine own_go st5 ?_
    have N5 := Fr.snoc X5 N4 g_a1
    replace O := O.wr W5 g_a1
    replace Ex := Ex.wr W5
    replace Fv := Fv.other W5 (Or.inr (slot_ne (Or.inr (hw _ (List.mem_of_getElem? (i := 22) rfl))) (Or.inr (hw _ (List.mem_of_getElem? (i := 23) rfl))) (by decide) (t := (.array .byte)) (t' := .byte) (by decide) (by decide)))
    replace Vs := Vs.other W5 hne
    replace Kp := Kp.wr W5 (Or.inl (List.mem_of_getElem? (i := 0) rfl))
    replace Vt3 := Vt3.other W5 nt
    replace Fc := Fc.same W5
    show own_Go p e below s _ _ _ (T5.setTop (mkF m 51 #[rv a1, rv src, iv (0 : Int32), iv (Int32.ofNat xs.length), .val .null, rv t3] []))
    refine own_go (fun zt zk => (XS.aloadN X5.here hx rfl (hb hby own_d3_51) rfl rfl (XS.aload X5.here hx rfl (hb hby own_d3_52) rfl rfl zk))) ?_
    show own_Go p e below s _ _ _ (T5.setTop (mkF m 54 #[rv a1, rv src, iv (0 : Int32), iv (Int32.ofNat xs.length), .val .null, rv t3] [(.ref t3), (.ref a1)]))
    obtain ⟨T6, h6, X6, e6, W6, st6⟩ := putF X5 hx hZ hown (host := "") (Or.inl (hw _ (List.mem_of_getElem? (i := 26) rfl))) Via.refl e5 Fv Ex (Or.inr ⟨(hw _ (List.mem_of_getElem? (i := 22) rfl)), rfl, hnm⟩) (hw _ (List.mem_of_getElem? (i := 3) rfl)) (ty := (.array .byte)) (by decide) rfl rfl (g := (mkF m 54 #[rv a1, rv src, iv (0 : Int32), iv (Int32.ofNat xs.length), .val .null, rv t3] [(.ref t3), (.ref a1)])) rfl rfl (hb hby own_d3_54)
    refine own_go st6 ?_
    have N6 := Fr.snoc X6 N5 g_a1
    replace O := O.wr W6 g_a1
    replace Ex := Ex.wr W6
    replace Fc := Fc.other W6 (Or.inr (slot_ne (Or.inr (hw _ (List.mem_of_getElem? (i := 23) rfl))) (Or.inr (hw _ (List.mem_of_getElem? (i := 22) rfl))) (by decide) (t := .byte) (t' := (.array .byte)) (by decide) (by decide)))
    replace Vs := Vs.other W6 hne
    replace Kp := Kp.wr W6 (Or.inl (List.mem_of_getElem? (i := 0) rfl))
    replace Vt3 := Vt3.other W6 nt
    replace Fv := Fv.same W6
    show own_Go p e below s _ _ _ (T6.setTop (mkF m 57 #[rv a1, rv src, iv (0 : Int32), iv (Int32.ofNat xs.length), .val .null, rv t3] []))
    exact own_fin X6 Bd.notSynchronized (fun _ => rfl) (fun fs hr => X6.returnOut hx Bd.returns (hb hby own_d3_57) hr) (by rw [e6]; exact ⟨rfl, N6, Kp, t3, _, zs3, _, Ex, Fv, Fc, Vt3, Or.inl ⟨rfl, hD⟩⟩) (by decide) (by decide)
  · show own_Go p e below s _ _ _ (T4.setTop (mkF m 48 #[rv a1, rv src, iv (0 : Int32), iv (Int32.ofNat xs.length), .val .null, rv t3] [(.int (1 : Int32)), (.ref a1)]))
    obtain ⟨T7, h7, X7, e7, W7, st7⟩ := putFN X4 hx hZ hown (hw _ (List.mem_of_getElem? (i := 27) rfl)) Via.refl e4 Fc Ex (Or.inr ⟨(hw _ (List.mem_of_getElem? (i := 23) rfl)), rfl, hnm⟩) (hw _ (List.mem_of_getElem? (i := 3) rfl)) (ty := .byte) (v' := (.int (1 : Int32))) (by decide) rfl (by decide) (g := (mkF m 48 #[rv a1, rv src, iv (0 : Int32), iv (Int32.ofNat xs.length), .val .null, rv t3] [(.int (1 : Int32)), (.ref a1)])) rfl rfl (hb hby own_d3_48)
    refine own_go st7 ?_
    have N7 := Fr.snoc X7 N4 g_a1
    replace O := O.wr W7 g_a1
    replace Ex := Ex.wr W7
    replace Fv := Fv.other W7 (Or.inr (slot_ne (Or.inr (hw _ (List.mem_of_getElem? (i := 22) rfl))) (Or.inr (hw _ (List.mem_of_getElem? (i := 23) rfl))) (by decide) (t := (.array .byte)) (t' := .byte) (by decide) (by decide)))
    replace Vs := Vs.other W7 hne
    replace Kp := Kp.wr W7 (Or.inl (List.mem_of_getElem? (i := 0) rfl))
    replace Vt3 := Vt3.other W7 nt
    replace Fc := Fc.same W7
    show own_Go p e below s _ _ _ (T7.setTop (mkF m 51 #[rv a1, rv src, iv (0 : Int32), iv (Int32.ofNat xs.length), .val .null, rv t3] []))
    refine own_go (fun zt zk => (XS.aloadN X7.here hx rfl (hb hby own_d3_51) rfl rfl (XS.aload X7.here hx rfl (hb hby own_d3_52) rfl rfl zk))) ?_
    show own_Go p e below s _ _ _ (T7.setTop (mkF m 54 #[rv a1, rv src, iv (0 : Int32), iv (Int32.ofNat xs.length), .val .null, rv t3] [(.ref t3), (.ref a1)]))
    obtain ⟨T8, h8, X8, e8, W8, st8⟩ := putF X7 hx hZ hown (host := "") (Or.inl (hw _ (List.mem_of_getElem? (i := 26) rfl))) Via.refl e7 Fv Ex (Or.inr ⟨(hw _ (List.mem_of_getElem? (i := 22) rfl)), rfl, hnm⟩) (hw _ (List.mem_of_getElem? (i := 3) rfl)) (ty := (.array .byte)) (by decide) rfl rfl (g := (mkF m 54 #[rv a1, rv src, iv (0 : Int32), iv (Int32.ofNat xs.length), .val .null, rv t3] [(.ref t3), (.ref a1)])) rfl rfl (hb hby own_d3_54)
    refine own_go st8 ?_
    have N8 := Fr.snoc X8 N7 g_a1
    replace O := O.wr W8 g_a1
    replace Ex := Ex.wr W8
    replace Fc := Fc.other W8 (Or.inr (slot_ne (Or.inr (hw _ (List.mem_of_getElem? (i := 23) rfl))) (Or.inr (hw _ (List.mem_of_getElem? (i := 22) rfl))) (by decide) (t := .byte) (t' := (.array .byte)) (by decide) (by decide)))
    replace Vs := Vs.other W8 hne
    replace Kp := Kp.wr W8 (Or.inl (List.mem_of_getElem? (i := 0) rfl))
    replace Vt3 := Vt3.other W8 nt
    replace Fv := Fv.same W8
    show own_Go p e below s _ _ _ (T8.setTop (mkF m 57 #[rv a1, rv src, iv (0 : Int32), iv (Int32.ofNat xs.length), .val .null, rv t3] []))
    exact own_fin X8 Bd.notSynchronized (fun _ => rfl) (fun fs hr => X8.returnOut hx Bd.returns (hb hby own_d3_57) hr) (by rw [e8]; exact ⟨rfl, N8, Kp, t3, _, zs3, _, Ex, Fv, Fc, Vt3, Or.inr ⟨rfl, hD⟩⟩) (by decide) (by decide)
theorem own_ef_own_ri1 (m : MethodId) (a1 : Addr) (src : Addr) : entryFrame m #[(.ref a1), (.ref src)] 2 = mkF m 0 #[rv a1, rv src] [] := by first | (simp [entryFrame, mkF, argsToLocals, Value.category]; done) | rfl
def own_Q_own_ri1 (Z : State) (a1 : Addr) (src : Addr) (cz : Int32) (ks : ClassId) (xs : List Int32) (h0 : Heap) (n0 : Nat) (v : Option Value) (h : Heap) (L : List Loc) : Prop := v = none ∧ Fr n0 L ∧ Keep h0 h [a1] ∧ own_Str Z h a1 xs
set_option maxRecDepth 65536 in
set_option maxHeartbeats 40000000 in
theorem own_ri1 (l : Launch) (Z : State) (a0 : Array Value) (hw : ∀ d ∈ tables_1, d.before a0 Z = true) (ws : List Jvm.Cond) (a1 : Addr) (src : Addr) (cz : Int32) (ks : ClassId) (xs : List Int32) (h0 : Heap) (n0 : Nat) (Z0 : n0 ≤ h0.size) (O : Old Z n0 h0) (SC : Sta Z Z.heap "java/lang/String" "COMPACT_STRINGS" "Z" (.int cz)) (SA : Sta Z Z.heap "java/lang/StringUTF16" "$assertionsDisabled" "Z" (.int (1 : Int32))) (SH : Sta Z Z.heap "java/lang/StringUTF16" "HI_BYTE_SHIFT" "I" (.int (0 : Int32))) (SL : Sta Z Z.heap "java/lang/StringUTF16" "LO_BYTE_SHIFT" "I" (.int (8 : Int32))) (Ex : Exa Z h0 a1 "java/lang/String") (Fv : Fld Z h0 a1 "java/lang/String" "value" "[B" .null) (Fc : Fld Z h0 a1 "java/lang/String" "coder" "B" (.int (0 : Int32))) (Vs : Arv Z h0 src ks .char (Int32.ofNat xs.length) (xs.map Value.int) (.int (0 : Int32))) (g_a1 : n0 ≤ a1) (hz : ¬ (cz = (0 : Int32))) (h1 : 1 ≤ xs.length) (h4 : xs.length ≤ 4) (hR : own_R xs) (hne : src ≠ a1) :
    MetFree l (⟨"java/lang/String", "<init>", "([C)V"⟩ : MethodName) (head1 (Jvm.Cond.code (⟨"java/lang/String", "<init>", "([C)V"⟩ : MethodName) jdk_42_method_3_code 2 none :: ws) ({ frames := 5, cells := 2, slots := 12, locals := 74 } : Room)) (fun a U => a = #[(.ref a1), (.ref src)] ∧ Z.Warmed39 U.vm ∧ U.heap = h0) (fun _ _ _ _ _ => True) (fun _ U o U' => ∃ v L, o = .returned v ∧ own_Q_own_ri1 Z a1 src cz ks xs h0 n0 v U'.heap L ∧ FrameEnd U o U' L ({ frames := 5, cells := 2, slots := 12, locals := 74 } : Room).cells ({ frames := 5, cells := 2, slots := 12, locals := 74 } : Room).slots) := by
  refine MetFree.of_bodySF (plainFor_of_name own_pn_java_lang_String) hisR ?_
  intro p e s m args below meth c s₁ Bd hml0 hP hK
  obtain ⟨rfl, hZ, hh⟩ := hP
  have hx := Bd.exec
  have hby := Bd.bytes
  have hml : c.maxLocals = 2 := hml0
  have hown : s.vm.findClass "java/lang/String" = some m.cls := findClass_of_methodNamed Bd.named
  have hnm := (name_of_methodNamed Bd.named Bd.method).1
  have X0 : Stand p l e ({ frames := 5, cells := 2, slots := 12, locals := 74 } : Room) s m #[(.ref a1), (.ref src)] below meth c s₁ [] 0 0 := Stand.of_body Bd
  have e0 : s₁.heap = h0 := by rw [← hh, Bd.state]; rfl
  have N0 := Fr.nil n0
  have Kp : Keep h0 h0 [a1] := Keep.refl h0 _
  show own_Go p e below s (own_Q_own_ri1 Z a1 src cz ks xs h0 n0) ({ frames := 5, cells := 2, slots := 12, locals := 74 } : Room).cells ({ frames := 5, cells := 2, slots := 12, locals := 74 } : Room).slots (s₁.setTop (entryFrame m #[(.ref a1), (.ref src)] 2))
  refine own_go (fun zt zk => castTop (own_ef_own_ri1 m a1 src) zk) ?_
  show own_Go p e below s _ _ _ (s₁.setTop (mkF m 0 #[rv a1, rv src] []))
  refine own_go (fun zt zk => (XS.aloadN X0.here hx rfl (hb hby own_d2_0) rfl rfl (XS.aloadN X0.here hx rfl (hb hby own_d2_1) rfl rfl (XS.iconst X0.here hx rfl (hb hby own_d2_2) (XS.aloadN X0.here hx rfl (hb hby own_d2_3) rfl rfl zk))))) ?_
  show own_Go p e below s _ _ _ (s₁.setTop (mkF m 4 #[rv a1, rv src] [(.ref src), (.int (0 : Int32)), (.ref src), (.ref a1)]))
  obtain ⟨cl1, Ar1, -, Sz1, Nz1, -, -⟩ := id Vs
  refine own_go (X0.arraylength hx (by rw [e0]; exact Ar1.1) (State.isArrayOf_alike hZ.alike Ar1.2.1) (g := (mkF m 4 #[rv a1, rv src] [(.ref src), (.int (0 : Int32)), (.ref src), (.ref a1)])) rfl rfl (hb hby own_d2_4)) ?_
  rw [len_of Sz1 Nz1]
  show own_Go p e below s _ _ _ (s₁.setTop (mkF m 5 #[rv a1, rv src] [(.int (Int32.ofNat xs.length)), (.int (0 : Int32)), (.ref src), (.ref a1)]))
  refine own_go (fun zt zk => (XS.aconstNull X0.here hx rfl (hb hby own_d2_5) zk)) ?_
  show own_Go p e below s _ _ _ (s₁.setTop (mkF m 6 #[rv a1, rv src] [.null, (.int (Int32.ofNat xs.length)), (.int (0 : Int32)), (.ref src), (.ref a1)]))
  obtain ⟨_, _, ⟨T2, L2, k2, n2⟩, -, X2, ⟨Lc2, hQ2, l2, y2, z2⟩, st2⟩ := X0.specialBack hx (y := (⟨"java/lang/String", "<init>", "([CIILjava/lang/Void;)V"⟩ : MethodName)) rfl hown (mvT hZ (hw _ (List.mem_of_getElem? (i := 13) rfl))) (mvT hZ (hw _ (List.mem_of_getElem? (i := 14) rfl))) (mvT hZ (hw _ (List.mem_of_getElem? (i := 16) rfl))) (by decide) (backOf (W := 0) (own_ri4 l Z a0 hw [] a1 src cz ks xs h0 n0 Z0 O SC SA SH SL Ex Fv Fc Vs g_a1 hz h1 h4 hR hne) hZ (hw _ (List.mem_of_getElem? (i := 16) rfl)) (hw _ (List.mem_of_getElem? (i := 4) rfl)) (by decide) (by decide)) (g := (mkF m 6 #[rv a1, rv src] [.null, (.int (Int32.ofNat xs.length)), (.int (0 : Int32)), (.ref src), (.ref a1)])) rfl (by rw [hml]; rfl) (Steps.refl _) (a := a1) (argsL := [(.ref src), (.int (0 : Int32)), (.int (Int32.ofNat xs.length)), .null]) (rest := []) (lenOf own_pd___CIILjava_lang_Void__V rfl) rfl (by show 2 * 0 + _ ≤ _; exact Nat.le_of_eq rfl) (hb hby own_d2_6) (fun _ _ => ⟨rfl, e0, (by decide : 0 + 2 ≤ _), (by decide : 0 + 12 ≤ _)⟩)
  dsimp only [Pt.U, Pt.locs, Pt.cells, Pt.slots] at X2 l2 y2 z2 st2 hQ2
  subst l2 y2 z2
  obtain ⟨rfl, Nq2, K2, St2⟩ := hQ2
  have N2 := Fr.app N0 Nq2
  refine own_go (fun zt zk => st2.trans zk) ?_
  replace O := O.keep K2 (allS g_a1 all0)
  replace Ex := Ex.keep K2
  replace Vs := Vs.keep K2 (ninS hne nin0)
  replace Kp := Kp.trans K2 (allS (Or.inl (List.mem_of_getElem? (i := 0) rfl)) all0)
  show own_Go p e below s _ _ _ (T2.setTop (mkF m 9 #[rv a1, rv src] []))
  exact own_fin X2 Bd.notSynchronized (fun _ => rfl) (fun fs hr => X2.returnOut hx Bd.returns (hb hby own_d2_9) hr) ⟨rfl, N2, Kp, St2⟩ (by decide) (by decide)
theorem own_ef_own_rcoder1 (m : MethodId) (a1 : Addr) : entryFrame m #[(.ref a1)] 1 = mkF m 0 #[rv a1] [] := by first | (simp [entryFrame, mkF, argsToLocals, Value.category]; done) | rfl
def own_Q_own_rcoder1 (Z : State) (a1 : Addr) (cz : Int32) (h0 : Heap) (n0 : Nat) (v : Option Value) (h : Heap) (L : List Loc) : Prop := v = some (.int (1 : Int32)) ∧ Fr n0 L ∧ h = h0
set_option maxRecDepth 65536 in
set_option maxHeartbeats 40000000 in
theorem own_rcoder1 (l : Launch) (Z : State) (a0 : Array Value) (hw : ∀ d ∈ tables_1, d.before a0 Z = true) (ws : List Jvm.Cond) (a1 : Addr) (cz : Int32) (h0 : Heap) (n0 : Nat) (Z0 : n0 ≤ h0.size) (O : Old Z n0 h0) (SC : Sta Z Z.heap "java/lang/String" "COMPACT_STRINGS" "Z" (.int cz)) (Fc : Fld Z h0 a1 "java/lang/String" "coder" "B" (.int (1 : Int32))) (hz : ¬ (cz = (0 : Int32))) :
    MetFree l (⟨"java/lang/String", "coder", "()B"⟩ : MethodName) (head1 (Jvm.Cond.code (⟨"java/lang/String", "coder", "()B"⟩ : MethodName) jdk_42_method_152_code 1 (some .byte) :: ws) ({ frames := 0, cells := 0, slots := 0, locals := 0 } : Room)) (fun a U => a = #[(.ref a1)] ∧ Z.Warmed39 U.vm ∧ U.heap = h0) (fun _ _ _ _ _ => True) (fun _ U o U' => ∃ v L, o = .returned v ∧ own_Q_own_rcoder1 Z a1 cz h0 n0 v U'.heap L ∧ FrameEnd U o U' L ({ frames := 0, cells := 0, slots := 0, locals := 0 } : Room).cells ({ frames := 0, cells := 0, slots := 0, locals := 0 } : Room).slots) := by
  refine MetFree.of_bodySF (plainFor_of_name own_pn_java_lang_String) hisR ?_
  intro p e s m args below meth c s₁ Bd hml0 hP hK
  obtain ⟨rfl, hZ, hh⟩ := hP
  have hx := Bd.exec
  have hby := Bd.bytes
  have hml : c.maxLocals = 1 := hml0
  have hown : s.vm.findClass "java/lang/String" = some m.cls := findClass_of_methodNamed Bd.named
  have hnm := (name_of_methodNamed Bd.named Bd.method).1
  have X0 : Stand p l e ({ frames := 0, cells := 0, slots := 0, locals := 0 } : Room) s m #[(.ref a1)] below meth c s₁ [] 0 0 := Stand.of_body Bd
  have e0 : s₁.heap = h0 := by rw [← hh, Bd.state]; rfl
  have N0 := Fr.nil n0
  show own_Go p e below s (own_Q_own_rcoder1 Z a1 cz h0 n0) ({ frames := 0, cells := 0, slots := 0, locals := 0 } : Room).cells ({ frames := 0, cells := 0, slots := 0, locals := 0 } : Room).slots (s₁.setTop (entryFrame m #[(.ref a1)] 1))
  refine own_go (fun zt zk => castTop (own_ef_own_rcoder1 m a1) zk) ?_
  show own_Go p e below s _ _ _ (s₁.setTop (mkF m 0 #[rv a1] []))
  obtain ⟨T1, X1, e1, st1⟩ := getS2 X0 hx hZ hown (host := "") (Or.inl (hw _ (List.mem_of_getElem? (i := 42) rfl))) Via.refl e0 (SC.ext O.2) (g := (mkF m 0 #[rv a1] [])) rfl (hb hby own_d7_0)
  refine own_go st1 ?_
  show own_Go p e below s _ _ _ (T1.setTop (mkF m 3 #[rv a1] [(.int cz)]))
  refine own_go (fun zt zk => (XS.ifNo X1.here hx rfl (hb hby own_d7_3) rfl ((if0 _ _).trans (feq (hz : ¬ (cz = (0 : Int32)))).1) (XS.aloadN X1.here hx rfl (hb hby own_d7_6) rfl rfl zk))) ?_
  show own_Go p e below s _ _ _ (T1.setTop (mkF m 7 #[rv a1] [(.ref a1)]))
  obtain ⟨T2, X2, e2, st2⟩ := getF X1 hx hZ hown (host := "") (Or.inl (hw _ (List.mem_of_getElem? (i := 27) rfl))) Via.refl e1 Fc (g := (mkF m 7 #[rv a1] [(.ref a1)])) rfl rfl (hb hby own_d7_7)
  refine own_go st2 ?_
  show own_Go p e below s _ _ _ (T2.setTop (mkF m 10 #[rv a1] [(.int (1 : Int32))]))
  refine own_go (fun zt zk => (XS.goto X2.here hx rfl (pc0 := 10) (pc' := 14) rfl (hb hby own_d7_10) (by decide) (by decide) zk)) ?_
  show own_Go p e below s _ _ _ (T2.setTop (mkF m 14 #[rv a1] [(.int (1 : Int32))]))
  exact own_fin X2 Bd.notSynchronized (fun h => by rw [Bd.returns] at h; cases h) (fun fs hr => retN X2 hx (t := .byte) Bd.returns (by simp) (hb hby own_d7_14) hr) (by rw [e2]; exact ⟨rfl, N0, rfl⟩) (by decide) (by decide)
theorem own_d13_17 : decode jdk_42_method_154_code 17 = .ok (.iconst 0, 1) := by decide +kernel
theorem own_ef_own_risl1 (m : MethodId) (a1 : Addr) : entryFrame m #[(.ref a1)] 1 = mkF m 0 #[rv a1] [] := by first | (simp [entryFrame, mkF, argsToLocals, Value.category]; done) | rfl
def own_Q_own_risl1 (Z : State) (a1 : Addr) (cz : Int32) (h0 : Heap) (n0 : Nat) (v : Option Value) (h : Heap) (L : List Loc) : Prop := v = some (.int (0 : Int32)) ∧ Fr n0 L ∧ h = h0
set_option maxRecDepth 65536 in
set_option maxHeartbeats 40000000 in
theorem own_risl1 (l : Launch) (Z : State) (a0 : Array Value) (hw : ∀ d ∈ tables_1, d.before a0 Z = true) (ws : List Jvm.Cond) (a1 : Addr) (cz : Int32) (h0 : Heap) (n0 : Nat) (Z0 : n0 ≤ h0.size) (O : Old Z n0 h0) (SC : Sta Z Z.heap "java/lang/String" "COMPACT_STRINGS" "Z" (.int cz)) (Fc : Fld Z h0 a1 "java/lang/String" "coder" "B" (.int (1 : Int32))) (hz : ¬ (cz = (0 : Int32))) :
    MetFree l (⟨"java/lang/String", "isLatin1", "()Z"⟩ : MethodName) (head1 (Jvm.Cond.code (⟨"java/lang/String", "isLatin1", "()Z"⟩ : MethodName) jdk_42_method_154_code 1 (some .boolean) :: ws) ({ frames := 0, cells := 0, slots := 0, locals := 0 } : Room)) (fun a U => a = #[(.ref a1)] ∧ Z.Warmed39 U.vm ∧ U.heap = h0) (fun _ _ _ _ _ => True) (fun _ U o U' => ∃ v L, o = .returned v ∧ own_Q_own_risl1 Z a1 cz h0 n0 v U'.heap L ∧ FrameEnd U o U' L ({ frames := 0, cells := 0, slots := 0, locals := 0 } : Room).cells ({ frames := 0, cells := 0, slots := 0, locals := 0 } : Room).slots) := by
  refine MetFree.of_bodySF (plainFor_of_name own_pn_java_lang_String) hisR ?_
  intro p e s m args below meth c s₁ Bd hml0 hP hK
  obtain ⟨rfl, hZ, hh⟩ := hP
  have hx := Bd.exec
  have hby := Bd.bytes
  have hml : c.maxLocals = 1 := hml0
  have hown : s.vm.findClass "java/lang/String" = some m.cls := findClass_of_methodNamed Bd.named
  have hnm := (name_of_methodNamed Bd.named Bd.method).1
  have X0 : Stand p l e ({ frames := 0, cells := 0, slots := 0, locals := 0 } : Room) s m #[(.ref a1)] below meth c s₁ [] 0 0 := Stand.of_body Bd
  have e0 : s₁.heap = h0 := by rw [← hh, Bd.state]; rfl
  have N0 := Fr.nil n0
  show own_Go p e below s (own_Q_own_risl1 Z a1 cz h0 n0) ({ frames := 0, cells := 0, slots := 0, locals := 0 } : Room).cells ({ frames := 0, cells := 0, slots := 0, locals := 0 } : Room).slots (s₁.setTop (entryFrame m #[(.ref a1)] 1))
  refine own_go (fun zt zk => castTop (own_ef_own_risl1 m a1) zk) ?_
  show own_Go p e below s _ _ _ (s₁.setTop (mkF m 0 #[rv a1] []))
  obtain ⟨T1, X1, e1, st1⟩ := getS2 X0 hx hZ hown (host := "") (Or.inl (hw _ (List.mem_of_getElem? (i := 42) rfl))) Via.refl e0 (SC.ext O.2) (g := (mkF m 0 #[rv a1] [])) rfl (hb hby own_d13_0)
  refine own_go st1 ?_
  show own_Go p e below s _ _ _ (T1.setTop (mkF m 3 #[rv a1] [(.int cz)]))
  refine own_go (fun zt zk => (XS.ifNo X1.here hx rfl (hb hby own_d13_3) rfl ((if0 _ _).trans (feq (hz : ¬ (cz = (0 : Int32)))).1) (XS.aloadN X1.here hx rfl (hb hby own_d13_6) rfl rfl zk))) ?_
  show own_Go p e below s _ _ _ (T1.setTop (mkF m 7 #[rv a1] [(.ref a1)]))
  obtain ⟨T2, X2, e2, st2⟩ := getF X1 hx hZ hown (host := "") (Or.inl (hw _ (List.mem_of_getElem? (i := 27) rfl))) Via.refl e1 Fc (g := (mkF m 7 #[rv a1] [(.ref a1)])) rfl rfl (hb hby own_d13_7)
  refine own_go st2 ?_
  show own_Go p e below s _ _ _ (T2.setTop (mkF m 10 #[rv a1] [(.int (1 : Int32))]))
  refine own_go (fun zt zk => (XS.ifYes X2.here hx rfl (pc0 := 10) (pc' := 17) rfl (hb hby own_d13_10) rfl ((if0 _ _).trans (feq ((by decide) : ¬ ((1 : Int32) = (0 : Int32)))).2) (by decide) (by decide) (XS.iconst X2.here hx rfl (hb hby own_d13_17) zk))) ?_
  show own_Go p e below s _ _ _ (T2.setTop (mkF m 18 #[rv a1] [(.int (0 : Int32))]))
  exact own_fin X2 Bd.notSynchronized (fun h => by rw [Bd.returns] at h; cases h) (fun fs hr => retN X2 hx (t := .boolean) Bd.returns (by simp) (hb hby own_d13_18) hr) (by rw [e2]; exact ⟨rfl, N0, rfl⟩) (by decide) (by decide)
theorem own_d6_0 : decode jdk_42_method_54_code 0 = .ok (.aload_n 0, 1) := by decide +kernel
theorem own_d6_1 : decode jdk_42_method_54_code 1 = .ok (.getfield 9, 3) := by decide +kernel
theorem own_d6_4 : decode jdk_42_method_54_code 4 = .ok (.arraylength, 1) := by decide +kernel
theorem own_d6_5 : decode jdk_42_method_54_code 5 = .ok (.aload_n 0, 1) := by decide +kernel
theorem own_d6_6 : decode jdk_42_method_54_code 6 = .ok (.invokevirtual 335, 3) := by decide +kernel
theorem own_pd___B : parseMethodDescriptor "()B" = some ⟨[], some .byte⟩ := by decide +kernel
theorem own_d6_9 : decode jdk_42_method_54_code 9 = .ok (.ishr, 1) := by decide +kernel
theorem own_d6_10 : decode jdk_42_method_54_code 10 = .ok (.ireturn, 1) := by decide +kernel
theorem own_ef_own_rlenS (m : MethodId) (a1 : Addr) : entryFrame m #[(.ref a1)] 1 = mkF m 0 #[rv a1] [] := by first | (simp [entryFrame, mkF, argsToLocals, Value.category]; done) | rfl
def own_Q_own_rlenS (Z : State) (a1 : Addr) (cz : Int32) (xs : List Int32) (h0 : Heap) (n0 : Nat) (v : Option Value) (h : Heap) (L : List Loc) : Prop := v = some (.int (Int32.ofNat xs.length)) ∧ Fr n0 L ∧ h = h0
set_option maxRecDepth 65536 in
set_option maxHeartbeats 40000000 in
theorem own_rlenS (l : Launch) (Z : State) (a0 : Array Value) (hw : ∀ d ∈ tables_1, d.before a0 Z = true) (ws : List Jvm.Cond) (a1 : Addr) (cz : Int32) (xs : List Int32) (h0 : Heap) (n0 : Nat) (Z0 : n0 ≤ h0.size) (O : Old Z n0 h0) (SC : Sta Z Z.heap "java/lang/String" "COMPACT_STRINGS" "Z" (.int cz)) (hz : ¬ (cz = (0 : Int32))) (St : own_Str Z h0 a1 xs) (h4 : xs.length ≤ 4) :
    MetFree l (⟨"java/lang/String", "length", "()I"⟩ : MethodName) (head1 (Jvm.Cond.code (⟨"java/lang/String", "length", "()I"⟩ : MethodName) jdk_42_method_54_code 1 (some .int) :: ws) ({ frames := 1, cells := 0, slots := 0, locals := 13 } : Room)) (fun a U => a = #[(.ref a1)] ∧ Z.Warmed39 U.vm ∧ U.heap = h0) (fun _ _ _ _ _ => True) (fun _ U o U' => ∃ v L, o = .returned v ∧ own_Q_own_rlenS Z a1 cz xs h0 n0 v U'.heap L ∧ FrameEnd U o U' L ({ frames := 1, cells := 0, slots := 0, locals := 13 } : Room).cells ({ frames := 1, cells := 0, slots := 0, locals := 13 } : Room).slots) := by
  refine MetFree.of_bodySF (plainFor_of_name own_pn_java_lang_String) hisR ?_
  intro p e s m args below meth c s₁ Bd hml0 hP hK
  obtain ⟨rfl, hZ, hh⟩ := hP
  have hx := Bd.exec
  have hby := Bd.bytes
  have hml : c.maxLocals = 1 := hml0
  have hown : s.vm.findClass "java/lang/String" = some m.cls := findClass_of_methodNamed Bd.named
  have hnm := (name_of_methodNamed Bd.named Bd.method).1
  have X0 : Stand p l e ({ frames := 1, cells := 0, slots := 0, locals := 13 } : Room) s m #[(.ref a1)] below meth c s₁ [] 0 0 := Stand.of_body Bd
  have e0 : s₁.heap = h0 := by rw [← hh, Bd.state]; rfl
  have N0 := Fr.nil n0
  show own_Go p e below s (own_Q_own_rlenS Z a1 cz xs h0 n0) ({ frames := 1, cells := 0, slots := 0, locals := 13 } : Room).cells ({ frames := 1, cells := 0, slots := 0, locals := 13 } : Room).slots (s₁.setTop (entryFrame m #[(.ref a1)] 1))
  refine own_go (fun zt zk => castTop (own_ef_own_rlenS m a1) zk) ?_
  show own_Go p e below s _ _ _ (s₁.setTop (mkF m 0 #[rv a1] []))
  obtain ⟨t, kb, zs, cd, Ex, Fv, Fc, Va, hD⟩ := St
  rcases hD with ⟨rfl, hl, hD⟩ | ⟨rfl, hl, hD⟩
  · show own_Go p e below s _ _ _ (s₁.setTop (mkF m 0 #[rv a1] []))
    refine own_go (fun zt zk => (XS.aloadN X0.here hx rfl (hb hby own_d6_0) rfl rfl zk)) ?_
    show own_Go p e below s _ _ _ (s₁.setTop (mkF m 1 #[rv a1] [(.ref a1)]))
    obtain ⟨T1, X1, e1, st1⟩ := getF X0 hx hZ hown (host := "") (Or.inl (hw _ (List.mem_of_getElem? (i := 26) rfl))) Via.refl e0 Fv (g := (mkF m 1 #[rv a1] [(.ref a1)])) rfl rfl (hb hby own_d6_1)
    refine own_go st1 ?_
    show own_Go p e below s _ _ _ (T1.setTop (mkF m 4 #[rv a1] [(.ref t)]))
    obtain ⟨cl2, Ar2, -, Sz2, Nz2, -, -⟩ := id Va
    refine own_go (X1.arraylength hx (by rw [e1]; exact Ar2.1) (State.isArrayOf_alike hZ.alike Ar2.2.1) (g := (mkF m 4 #[rv a1] [(.ref t)])) rfl rfl (hb hby own_d6_4)) ?_
    rw [len_of Sz2 Nz2]
    show own_Go p e below s _ _ _ (T1.setTop (mkF m 5 #[rv a1] [(.int (Int32.ofNat zs.length))]))
    refine own_go (fun zt zk => (XS.aloadN X1.here hx rfl (hb hby own_d6_5) rfl rfl zk)) ?_
    show own_Go p e below s _ _ _ (T1.setTop (mkF m 6 #[rv a1] [(.ref a1), (.int (Int32.ofNat zs.length))]))
    obtain ⟨cq3, kq3, qa3, qb3, qc3⟩ := isOf hZ e1 Ex
    obtain ⟨_, _, ⟨T3, L3, k3, n3⟩, -, X3, ⟨Lc3, hQ3, l3, y3, z3⟩, st3⟩ := X1.virtualBack hx (y := (⟨"java/lang/String", "coder", "()B"⟩ : MethodName)) (z := (⟨"java/lang/String", "coder", "()B"⟩ : MethodName)) hown (mvT hZ (hw _ (List.mem_of_getElem? (i := 37) rfl))) (mvT hZ (hw _ (List.mem_of_getElem? (i := 38) rfl))) (notFace_of_selects (args := #[]) (mvT hZ (hw _ (List.mem_of_getElem? (i := 40) rfl)))) (mvT hZ (hw _ (List.mem_of_getElem? (i := 40) rfl))) (mvT hZ (hw _ (List.mem_of_getElem? (i := 39) rfl))) (by decide) (backOf (W := 1) (own_rcoder l Z a0 hw [] a1 cz h0 n0 Z0 O SC Fc hz) hZ (hw _ (List.mem_of_getElem? (i := 41) rfl)) (hw _ (List.mem_of_getElem? (i := 4) rfl)) (by decide) (by decide)) qa3 qc3 (g := (mkF m 6 #[rv a1] [(.ref a1), (.int (Int32.ofNat zs.length))])) rfl (by rw [hml]; rfl) (Steps.refl _) (argsL := []) (rest := [(.int (Int32.ofNat zs.length))]) (lenOf own_pd___B rfl) rfl (by show 2 * 0 + _ ≤ _; exact Nat.le_of_eq rfl) (hb hby own_d6_6) (fun _ _ => ⟨rfl, e1, (by decide : 0 + 0 ≤ _), (by decide : 0 + 0 ≤ _)⟩)
    dsimp only [Pt.U, Pt.locs, Pt.cells, Pt.slots] at X3 l3 y3 z3 st3 hQ3
    subst l3 y3 z3
    obtain ⟨rfl, Nq3, e3⟩ := hQ3
    have N3 := Fr.app N0 Nq3
    refine own_go (fun zt zk => st3.trans zk) ?_
    show own_Go p e below s _ _ _ (T3.setTop (mkF m 9 #[rv a1] [(.int (0 : Int32)), (.int (Int32.ofNat zs.length))]))
    refine own_go (fun zt zk => (XS.ishr X3.here hx rfl (hb hby own_d6_9) rfl zk)) ?_
    show own_Go p e below s _ _ _ (T3.setTop (mkF m 10 #[rv a1] [(.int ((Int32.ofNat zs.length) >>> ((0 : Int32) &&& 31)))]))
    exact own_fin X3 Bd.notSynchronized (fun h => by rw [Bd.returns] at h; cases h) (fun fs hr => retOut X3 hx (t := .int) (w := (.int ((Int32.ofNat zs.length) >>> ((0 : Int32) &&& 31)))) Bd.returns rfl (Or.inl ⟨rfl, Or.inl rfl, _, rfl⟩) (hb hby own_d6_10) hr) (by rw [e3]; exact ⟨congrArg (fun z => some (Value.int z)) (by rw [hl]; exact own_shr0 _), N3, rfl⟩) (by decide) (by decide)
  · show own_Go p e below s _ _ _ (s₁.setTop (mkF m 0 #[rv a1] []))
    refine own_go (fun zt zk => (XS.aloadN X0.here hx rfl (hb hby own_d6_0) rfl rfl zk)) ?_
    show own_Go p e below s _ _ _ (s₁.setTop (mkF m 1 #[rv a1] [(.ref a1)]))
    obtain ⟨T4, X4, e4, st4⟩ := getF X0 hx hZ hown (host := "") (Or.inl (hw _ (List.mem_of_getElem? (i := 26) rfl))) Via.refl e0 Fv (g := (mkF m 1 #[rv a1] [(.ref a1)])) rfl rfl (hb hby own_d6_1)
    refine own_go st4 ?_
    show own_Go p e below s _ _ _ (T4.setTop (mkF m 4 #[rv a1] [(.ref t)]))
    obtain ⟨cl5, Ar5, -, Sz5, Nz5, -, -⟩ := id Va
    refine own_go (X4.arraylength hx (by rw [e4]; exact Ar5.1) (State.isArrayOf_alike hZ.alike Ar5.2.1) (g := (mkF m 4 #[rv a1] [(.ref t)])) rfl rfl (hb hby own_d6_4)) ?_
    rw [len_of Sz5 Nz5]
    show own_Go p e below s _ _ _ (T4.setTop (mkF m 5 #[rv a1] [(.int (Int32.ofNat zs.length))]))
    refine own_go (fun zt zk => (XS.aloadN X4.here hx rfl (hb hby own_d6_5) rfl rfl zk)) ?_
    show own_Go p e below s _ _ _ (T4.setTop (mkF m 6 #[rv a1] [(.ref a1), (.int (Int32.ofNat zs.length))]))
    obtain ⟨cq6, kq6, qa6, qb6, qc6⟩ := isOf hZ e4 Ex
    obtain ⟨_, _, ⟨T6, L6, k6, n6⟩, -, X6, ⟨Lc6, hQ6, l6, y6, z6⟩, st6⟩ := X4.virtualBack hx (y := (⟨"java/lang/String", "coder", "()B"⟩ : MethodName)) (z := (⟨"java/lang/String", "coder", "()B"⟩ : MethodName)) hown (mvT hZ (hw _ (List.mem_of_getElem? (i := 37) rfl))) (mvT hZ (hw _ (List.mem_of_getElem? (i := 38) rfl))) (notFace_of_selects (args := #[]) (mvT hZ (hw _ (List.mem_of_getElem? (i := 40) rfl)))) (mvT hZ (hw _ (List.mem_of_getElem? (i := 40) rfl))) (mvT hZ (hw _ (List.mem_of_getElem? (i := 39) rfl))) (by decide) (backOf (W := 1) (own_rcoder1 l Z a0 hw [] a1 cz h0 n0 Z0 O SC Fc hz) hZ (hw _ (List.mem_of_getElem? (i := 41) rfl)) (hw _ (List.mem_of_getElem? (i := 4) rfl)) (by decide) (by decide)) qa6 qc6 (g := (mkF m 6 #[rv a1] [(.ref a1), (.int (Int32.ofNat zs.length))])) rfl (by rw [hml]; rfl) (Steps.refl _) (argsL := []) (rest := [(.int (Int32.ofNat zs.length))]) (lenOf own_pd___B rfl) rfl (by show 2 * 0 + _ ≤ _; exact Nat.le_of_eq rfl) (hb hby own_d6_6) (fun _ _ => ⟨rfl, e4, (by decide : 0 + 0 ≤ _), (by decide : 0 + 0 ≤ _)⟩)
    dsimp only [Pt.U, Pt.locs, Pt.cells, Pt.slots] at X6 l6 y6 z6 st6 hQ6
    subst l6 y6 z6
    obtain ⟨rfl, Nq6, e6⟩ := hQ6
    have N6 := Fr.app N0 Nq6
    refine own_go (fun zt zk => st6.trans zk) ?_
    show own_Go p e below s _ _ _ (T6.setTop (mkF m 9 #[rv a1] [(.int (1 : Int32)), (.int (Int32.ofNat zs.length))]))
    refine own_go (fun zt zk => (XS.ishr X6.here hx rfl (hb hby own_d6_9) rfl zk)) ?_
    show own_Go p e below s _ _ _ (T6.setTop (mkF m 10 #[rv a1] [(.int ((Int32.ofNat zs.length) >>> ((1 : Int32) &&& 31)))]))
    exact own_fin X6 Bd.notSynchronized (fun h => by rw [Bd.returns] at h; cases h) (fun fs hr => retOut X6 hx (t := .int) (w := (.int ((Int32.ofNat zs.length) >>> ((1 : Int32) &&& 31)))) Bd.returns rfl (Or.inl ⟨rfl, Or.inl rfl, _, rfl⟩) (hb hby own_d6_10) hr) (by rw [e6]; exact ⟨congrArg (fun z => some (Value.int z)) (by rw [hl]; exact own_half _ (by omega)), N6, rfl⟩) (by decide) (by decide)
theorem own_d24_0 : decode jdk_52_method_6_code 0 = .ok (.aload_n 0, 1) := by decide +kernel
theorem own_d24_1 : decode jdk_52_method_6_code 1 = .ok (.arraylength, 1) := by decide +kernel
theorem own_d24_2 : decode jdk_52_method_6_code 2 = .ok (.iconst 1, 1) := by decide +kernel
theorem own_d24_3 : decode jdk_52_method_6_code 3 = .ok (.ishr, 1) := by decide +kernel
theorem own_d24_4 : decode jdk_52_method_6_code 4 = .ok (.ireturn, 1) := by decide +kernel
theorem own_ef_own_ruln (m : MethodId) (t : Addr) : entryFrame m #[(.ref t)] 1 = mkF m 0 #[rv t] [] := by first | (simp [entryFrame, mkF, argsToLocals, Value.category]; done) | rfl
def own_Q_own_ruln (Z : State) (t : Addr) (kb : ClassId) (xs zs : List Int32) (h0 : Heap) (n0 : Nat) (v : Option Value) (h : Heap) (L : List Loc) : Prop := v = some (.int (Int32.ofNat xs.length)) ∧ Fr n0 L ∧ h = h0
set_option maxRecDepth 65536 in
set_option maxHeartbeats 40000000 in
theorem own_ruln (l : Launch) (Z : State) (a0 : Array Value) (hw : ∀ d ∈ tables_1, d.before a0 Z = true) (ws : List Jvm.Cond) (t : Addr) (kb : ClassId) (xs zs : List Int32) (h0 : Heap) (n0 : Nat) (Z0 : n0 ≤ h0.size) (Va : Arv Z h0 t kb .byte (Int32.ofNat zs.length) (zs.map Value.int) (.int (0 : Int32))) (h4 : xs.length ≤ 4) (hl : zs.length = 2 * xs.length) :
    MetFree l (⟨"java/lang/StringUTF16", "length", "([B)I"⟩ : MethodName) (head1 (Jvm.Cond.code (⟨"java/lang/StringUTF16", "length", "([B)I"⟩ : MethodName) jdk_52_method_6_code 1 (some .int) :: ws) ({ frames := 0, cells := 0, slots := 0, locals := 0 } : Room)) (fun a U => a = #[(.ref t)] ∧ Z.Warmed39 U.vm ∧ U.heap = h0) (fun _ _ _ _ _ => True) (fun _ U o U' => ∃ v L, o = .returned v ∧ own_Q_own_ruln Z t kb xs zs h0 n0 v U'.heap L ∧ FrameEnd U o U' L ({ frames := 0, cells := 0, slots := 0, locals := 0 } : Room).cells ({ frames := 0, cells := 0, slots := 0, locals := 0 } : Room).slots) := by
  refine MetFree.of_bodySF (plainFor_of_name own_pn_java_lang_StringUTF16) hisR ?_
  intro p e s m args below meth c s₁ Bd hml0 hP hK
  obtain ⟨rfl, hZ, hh⟩ := hP
  have hx := Bd.exec
  have hby := Bd.bytes
  have hml : c.maxLocals = 1 := hml0
  have hown : s.vm.findClass "java/lang/StringUTF16" = some m.cls := findClass_of_methodNamed Bd.named
  have hnm := (name_of_methodNamed Bd.named Bd.method).1
  have X0 : Stand p l e ({ frames := 0, cells := 0, slots := 0, locals := 0 } : Room) s m #[(.ref t)] below meth c s₁ [] 0 0 := Stand.of_body Bd
  have e0 : s₁.heap = h0 := by rw [← hh, Bd.state]; rfl
  have N0 := Fr.nil n0
  show own_Go p e below s (own_Q_own_ruln Z t kb xs zs h0 n0) ({ frames := 0, cells := 0, slots := 0, locals := 0 } : Room).cells ({ frames := 0, cells := 0, slots := 0, locals := 0 } : Room).slots (s₁.setTop (entryFrame m #[(.ref t)] 1))
  refine own_go (fun zt zk => castTop (own_ef_own_ruln m t) zk) ?_
  show own_Go p e below s _ _ _ (s₁.setTop (mkF m 0 #[rv t] []))
  refine own_go (fun zt zk => (XS.aloadN X0.here hx rfl (hb hby own_d24_0) rfl rfl zk)) ?_
  show own_Go p e below s _ _ _ (s₁.setTop (mkF m 1 #[rv t] [(.ref t)]))
  obtain ⟨cl1, Ar1, -, Sz1, Nz1, -, -⟩ := id Va
  refine own_go (X0.arraylength hx (by rw [e0]; exact Ar1.1) (State.isArrayOf_alike hZ.alike Ar1.2.1) (g := (mkF m 1 #[rv t] [(.ref t)])) rfl rfl (hb hby own_d24_1)) ?_
  rw [len_of Sz1 Nz1]
  show own_Go p e below s _ _ _ (s₁.setTop (mkF m 2 #[rv t] [(.int (Int32.ofNat zs.length))]))
  refine own_go (fun zt zk => (XS.iconst X0.here hx rfl (hb hby own_d24_2) (XS.ishr X0.here hx rfl (hb hby own_d24_3) rfl zk))) ?_
  show own_Go p e below s _ _ _ (s₁.setTop (mkF m 4 #[rv t] [(.int ((Int32.ofNat zs.length) >>> ((1 : Int32) &&& 31)))]))
  exact own_fin X0 Bd.notSynchronized (fun h => by rw [Bd.returns] at h; cases h) (fun fs hr => retOut X0 hx (t := .int) (w := (.int ((Int32.ofNat zs.length) >>> ((1 : Int32) &&& 31)))) Bd.returns rfl (Or.inl ⟨rfl, Or.inl rfl, _, rfl⟩) (hb hby own_d24_4) hr) (by rw [e0]; exact ⟨congrArg (fun z => some (Value.int z)) (by rw [hl]; exact own_half _ (by omega)), N0, rfl⟩) (by decide) (by decide)
theorem own_d23_0 : decode jdk_52_method_91_code 0 = .ok (.iload_n 0, 1) := by decide +kernel
theorem own_d23_1 : decode jdk_52_method_91_code 1 = .ok (.aload_n 1, 1) := by decide +kernel
theorem own_d23_2 : decode jdk_52_method_91_code 2 = .ok (.invokestatic 48, 3) := by decide +kernel
theorem own_pd___B_I : parseMethodDescriptor "([B)I" = some ⟨[(.array .byte)], some .int⟩ := by decide +kernel
theorem own_d23_5 : decode jdk_52_method_91_code 5 = .ok (.invokestatic 414, 3) := by decide +kernel
theorem own_d23_8 : decode jdk_52_method_91_code 8 = .ok (.return_, 1) := by decide +kernel
theorem own_ef_own_ruck (m : MethodId) (t : Addr) (i : Nat) : entryFrame m #[(.int (Int32.ofNat i)), (.ref t)] 2 = mkF m 0 #[iv (Int32.ofNat i), rv t] [] := by first | (simp [entryFrame, mkF, argsToLocals, Value.category]; done) | rfl
def own_Q_own_ruck (Z : State) (t : Addr) (i : Nat) (fm : Value) (kb : ClassId) (xs zs : List Int32) (h0 : Heap) (n0 : Nat) (v : Option Value) (h : Heap) (L : List Loc) : Prop := v = none ∧ Fr n0 L ∧ h = h0
set_option maxRecDepth 65536 in
set_option maxHeartbeats 40000000 in
theorem own_ruck (l : Launch) (Z : State) (a0 : Array Value) (hw : ∀ d ∈ tables_1, d.before a0 Z = true) (ws : List Jvm.Cond) (t : Addr) (i : Nat) (fm : Value) (kb : ClassId) (xs zs : List Int32) (h0 : Heap) (n0 : Nat) (Z0 : n0 ≤ h0.size) (O : Old Z n0 h0) (SF : Sta Z Z.heap "jdk/internal/util/Preconditions" "SIOOBE_FORMATTER" "Ljava/util/function/BiFunction;" fm) (Va : Arv Z h0 t kb .byte (Int32.ofNat zs.length) (zs.map Value.int) (.int (0 : Int32))) (rfm : fm.isRef = true) (hi : i < xs.length) (h4 : xs.length ≤ 4) (hl : zs.length = 2 * xs.length) :
    MetFree l (⟨"java/lang/StringUTF16", "checkIndex", "(I[B)V"⟩ : MethodName) (head1 (Jvm.Cond.code (⟨"java/lang/StringUTF16", "checkIndex", "(I[B)V"⟩ : MethodName) jdk_52_method_91_code 2 none :: ws) ({ frames := 2, cells := 0, slots := 0, locals := 27 } : Room)) (fun a U => a = #[(.int (Int32.ofNat i)), (.ref t)] ∧ Z.Warmed39 U.vm ∧ U.heap = h0) (fun _ _ _ _ _ => True) (fun _ U o U' => ∃ v L, o = .returned v ∧ own_Q_own_ruck Z t i fm kb xs zs h0 n0 v U'.heap L ∧ FrameEnd U o U' L ({ frames := 2, cells := 0, slots := 0, locals := 27 } : Room).cells ({ frames := 2, cells := 0, slots := 0, locals := 27 } : Room).slots) := by
  refine MetFree.of_bodySF (plainFor_of_name own_pn_java_lang_StringUTF16) hisR ?_
  intro p e s m args below meth c s₁ Bd hml0 hP hK
  obtain ⟨rfl, hZ, hh⟩ := hP
  have hx := Bd.exec
  have hby := Bd.bytes
  have hml : c.maxLocals = 2 := hml0
  have hown : s.vm.findClass "java/lang/StringUTF16" = some m.cls := findClass_of_methodNamed Bd.named
  have hnm := (name_of_methodNamed Bd.named Bd.method).1
  have X0 : Stand p l e ({ frames := 2, cells := 0, slots := 0, locals := 27 } : Room) s m #[(.int (Int32.ofNat i)), (.ref t)] below meth c s₁ [] 0 0 := Stand.of_body Bd
  have e0 : s₁.heap = h0 := by rw [← hh, Bd.state]; rfl
  have N0 := Fr.nil n0
  show own_Go p e below s (own_Q_own_ruck Z t i fm kb xs zs h0 n0) ({ frames := 2, cells := 0, slots := 0, locals := 27 } : Room).cells ({ frames := 2, cells := 0, slots := 0, locals := 27 } : Room).slots (s₁.setTop (entryFrame m #[(.int (Int32.ofNat i)), (.ref t)] 2))
  refine own_go (fun zt zk => castTop (own_ef_own_ruck m t i) zk) ?_
  show own_Go p e below s _ _ _ (s₁.setTop (mkF m 0 #[iv (Int32.ofNat i), rv t] []))
  refine own_go (fun zt zk => (XS.iloadN X0.here hx rfl (hb hby own_d23_0) rfl (XS.aloadN X0.here hx rfl (hb hby own_d23_1) rfl rfl zk))) ?_
  show own_Go p e below s _ _ _ (s₁.setTop (mkF m 2 #[iv (Int32.ofNat i), rv t] [(.ref t), (.int (Int32.ofNat i))]))
  obtain ⟨_, _, ⟨T1, L1, k1, n1⟩, -, X1, ⟨Lc1, hQ1, l1, y1, z1⟩, st1⟩ := Jvm.LawKit.callS X0 hx (y := (⟨"java/lang/StringUTF16", "length", "([B)I"⟩ : MethodName)) hown (mvT hZ (hw _ (List.mem_of_getElem? (i := 103) rfl))) (mvT hZ (hw _ (List.mem_of_getElem? (i := 104) rfl))) (mvT hZ (hw _ (List.mem_of_getElem? (i := 45) rfl))) (mvT hZ (hw _ (List.mem_of_getElem? (i := 105) rfl))) (by decide) (backOf (W := 1) (own_ruln l Z a0 hw [] t kb xs zs h0 n0 Z0 Va h4 hl) hZ (hw _ (List.mem_of_getElem? (i := 105) rfl)) (hw _ (List.mem_of_getElem? (i := 45) rfl)) (by decide) (by decide)) (g := (mkF m 2 #[iv (Int32.ofNat i), rv t] [(.ref t), (.int (Int32.ofNat i))])) rfl (by rw [hml]; rfl) (argsL := [(.ref t)]) (rest := [(.int (Int32.ofNat i))]) (lenOf own_pd___B_I rfl) rfl (by show 2 * 0 + _ ≤ _; exact Nat.le_of_eq rfl) (hb hby own_d23_2) (fun _ _ => ⟨rfl, e0, (by decide : 0 + 0 ≤ _), (by decide : 0 + 0 ≤ _)⟩)
  dsimp only [Pt.U, Pt.locs, Pt.cells, Pt.slots] at X1 l1 y1 z1 st1 hQ1
  subst l1 y1 z1
  obtain ⟨rfl, Nq1, e1⟩ := hQ1
  have N1 := Fr.app N0 Nq1
  refine own_go st1 ?_
  show own_Go p e below s _ _ _ (T1.setTop (mkF m 5 #[iv (Int32.ofNat i), rv t] [(.int (Int32.ofNat xs.length)), (.int (Int32.ofNat i))]))
  obtain ⟨_, _, ⟨T2, L2, k2, n2⟩, -, X2, ⟨Lc2, hQ2, l2, y2, z2⟩, st2⟩ := Jvm.LawKit.callS X1 hx (y := (⟨"java/lang/String", "checkIndex", "(II)V"⟩ : MethodName)) hown (mvT hZ (hw _ (List.mem_of_getElem? (i := 106) rfl))) (mvT hZ (hw _ (List.mem_of_getElem? (i := 71) rfl))) (mvT hZ (hw _ (List.mem_of_getElem? (i := 4) rfl))) (mvT hZ (hw _ (List.mem_of_getElem? (i := 72) rfl))) (by decide) (backOf (W := 0) (own_rchk l Z a0 hw [] (Int32.ofNat i) (Int32.ofNat xs.length) fm h0 n0 Z0 O SF rfm ⟨own_nnN (by omega), (own_ltN (by omega) (by omega)).mpr hi⟩) hZ (hw _ (List.mem_of_getElem? (i := 72) rfl)) (hw _ (List.mem_of_getElem? (i := 4) rfl)) (by decide) (by decide)) (g := (mkF m 5 #[iv (Int32.ofNat i), rv t] [(.int (Int32.ofNat xs.length)), (.int (Int32.ofNat i))])) rfl (by rw [hml]; rfl) (argsL := [(.int (Int32.ofNat i)), (.int (Int32.ofNat xs.length))]) (rest := []) (lenOf own_pd__II_V rfl) rfl (by show 2 * 0 + _ ≤ _; exact Nat.le_of_eq rfl) (hb hby own_d23_5) (fun _ _ => ⟨rfl, e1, (by decide : 0 + 0 ≤ _), (by decide : 0 + 0 ≤ _)⟩)
  dsimp only [Pt.U, Pt.locs, Pt.cells, Pt.slots] at X2 l2 y2 z2 st2 hQ2
  subst l2 y2 z2
  obtain ⟨rfl, Nq2, e2⟩ := hQ2
  have N2 := Fr.app N1 Nq2
  refine own_go st2 ?_
  show own_Go p e below s _ _ _ (T2.setTop (mkF m 8 #[iv (Int32.ofNat i), rv t] []))
  exact own_fin X2 Bd.notSynchronized (fun _ => rfl) (fun fs hr => X2.returnOut hx Bd.returns (hb hby own_d23_8) hr) (by rw [e2]; exact ⟨rfl, N2, rfl⟩) (by decide) (by decide)
theorem own_d22_0 : decode jdk_52_method_83_code 0 = .ok (.iload_n 1, 1) := by decide +kernel
theorem own_d22_1 : decode jdk_52_method_83_code 1 = .ok (.aload_n 0, 1) := by decide +kernel
theorem own_d22_2 : decode jdk_52_method_83_code 2 = .ok (.invokestatic 67, 3) := by decide +kernel
theorem own_pd__I_B_V : parseMethodDescriptor "(I[B)V" = some ⟨[.int, (.array .byte)], none⟩ := by decide +kernel
theorem own_d22_5 : decode jdk_52_method_83_code 5 = .ok (.aload_n 0, 1) := by decide +kernel
theorem own_d22_6 : decode jdk_52_method_83_code 6 = .ok (.iload_n 1, 1) := by decide +kernel
theorem own_d22_7 : decode jdk_52_method_83_code 7 = .ok (.invokestatic 71, 3) := by decide +kernel
theorem own_d22_10 : decode jdk_52_method_83_code 10 = .ok (.ireturn, 1) := by decide +kernel
theorem own_ef_own_ruch (m : MethodId) (t : Addr) (i : Nat) : entryFrame m #[(.ref t), (.int (Int32.ofNat i))] 2 = mkF m 0 #[rv t, iv (Int32.ofNat i)] [] := by first | (simp [entryFrame, mkF, argsToLocals, Value.category]; done) | rfl
def own_Q_own_ruch (Z : State) (t : Addr) (i : Nat) (fm : Value) (kb : ClassId) (xs zs : List Int32) (h0 : Heap) (n0 : Nat) (v : Option Value) (h : Heap) (L : List Loc) : Prop := v = some (.int (xs.getD i 0)) ∧ Fr n0 L ∧ h = h0
set_option maxRecDepth 65536 in
set_option maxHeartbeats 40000000 in
theorem own_ruch (l : Launch) (Z : State) (a0 : Array Value) (hw : ∀ d ∈ tables_1, d.before a0 Z = true) (ws : List Jvm.Cond) (t : Addr) (i : Nat) (fm : Value) (kb : ClassId) (xs zs : List Int32) (h0 : Heap) (n0 : Nat) (Z0 : n0 ≤ h0.size) (O : Old Z n0 h0) (SF : Sta Z Z.heap "jdk/internal/util/Preconditions" "SIOOBE_FORMATTER" "Ljava/util/function/BiFunction;" fm) (SA : Sta Z Z.heap "java/lang/StringUTF16" "$assertionsDisabled" "Z" (.int (1 : Int32))) (SH : Sta Z Z.heap "java/lang/StringUTF16" "HI_BYTE_SHIFT" "I" (.int (0 : Int32))) (SL : Sta Z Z.heap "java/lang/StringUTF16" "LO_BYTE_SHIFT" "I" (.int (8 : Int32))) (Va : Arv Z h0 t kb .byte (Int32.ofNat zs.length) (zs.map Value.int) (.int (0 : Int32))) (rfm : fm.isRef = true) (hi : i < xs.length) (h4 : xs.length ≤ 4) (hl : zs.length = 2 * xs.length) (hU : own_U xs zs xs.length) (hR : own_R xs) :
    MetFree l (⟨"java/lang/StringUTF16", "charAt", "([BI)C"⟩ : MethodName) (head1 (Jvm.Cond.code (⟨"java/lang/StringUTF16", "charAt", "([BI)C"⟩ : MethodName) jdk_52_method_83_code 2 (some .char) :: ws) ({ frames := 3, cells := 0, slots := 0, locals := 40 } : Room)) (fun a U => a = #[(.ref t), (.int (Int32.ofNat i))] ∧ Z.Warmed39 U.vm ∧ U.heap = h0) (fun _ _ _ _ _ => True) (fun _ U o U' => ∃ v L, o = .returned v ∧ own_Q_own_ruch Z t i fm kb xs zs h0 n0 v U'.heap L ∧ FrameEnd U o U' L ({ frames := 3, cells := 0, slots := 0, locals := 40 } : Room).cells ({ frames := 3, cells := 0, slots := 0, locals := 40 } : Room).slots) := by
  refine MetFree.of_bodySF (plainFor_of_name own_pn_java_lang_StringUTF16) hisR ?_
  intro p e s m args below meth c s₁ Bd hml0 hP hK
  obtain ⟨rfl, hZ, hh⟩ := hP
  have hx := Bd.exec
  have hby := Bd.bytes
  have hml : c.maxLocals = 2 := hml0
  have hown : s.vm.findClass "java/lang/StringUTF16" = some m.cls := findClass_of_methodNamed Bd.named
  have hnm := (name_of_methodNamed Bd.named Bd.method).1
  have X0 : Stand p l e ({ frames := 3, cells := 0, slots := 0, locals := 40 } : Room) s m #[(.ref t), (.int (Int32.ofNat i))] below meth c s₁ [] 0 0 := Stand.of_body Bd
  have e0 : s₁.heap = h0 := by rw [← hh, Bd.state]; rfl
  have N0 := Fr.nil n0
  show own_Go p e below s (own_Q_own_ruch Z t i fm kb xs zs h0 n0) ({ frames := 3, cells := 0, slots := 0, locals := 40 } : Room).cells ({ frames := 3, cells := 0, slots := 0, locals := 40 } : Room).slots (s₁.setTop (entryFrame m #[(.ref t), (.int (Int32.ofNat i))] 2))
  refine own_go (fun zt zk => castTop (own_ef_own_ruch m t i) zk) ?_
  show own_Go p e below s _ _ _ (s₁.setTop (mkF m 0 #[rv t, iv (Int32.ofNat i)] []))
  refine own_go (fun zt zk => (XS.iloadN X0.here hx rfl (hb hby own_d22_0) rfl (XS.aloadN X0.here hx rfl (hb hby own_d22_1) rfl rfl zk))) ?_
  show own_Go p e below s _ _ _ (s₁.setTop (mkF m 2 #[rv t, iv (Int32.ofNat i)] [(.ref t), (.int (Int32.ofNat i))]))
  obtain ⟨_, _, ⟨T1, L1, k1, n1⟩, -, X1, ⟨Lc1, hQ1, l1, y1, z1⟩, st1⟩ := Jvm.LawKit.callS X0 hx (y := (⟨"java/lang/StringUTF16", "checkIndex", "(I[B)V"⟩ : MethodName)) hown (mvT hZ (hw _ (List.mem_of_getElem? (i := 100) rfl))) (mvT hZ (hw _ (List.mem_of_getElem? (i := 101) rfl))) (mvT hZ (hw _ (List.mem_of_getElem? (i := 45) rfl))) (mvT hZ (hw _ (List.mem_of_getElem? (i := 102) rfl))) (by decide) (backOf (W := 0) (own_ruck l Z a0 hw [] t i fm kb xs zs h0 n0 Z0 O SF Va rfm hi h4 hl) hZ (hw _ (List.mem_of_getElem? (i := 102) rfl)) (hw _ (List.mem_of_getElem? (i := 45) rfl)) (by decide) (by decide)) (g := (mkF m 2 #[rv t, iv (Int32.ofNat i)] [(.ref t), (.int (Int32.ofNat i))])) rfl (by rw [hml]; rfl) (argsL := [(.int (Int32.ofNat i)), (.ref t)]) (rest := []) (lenOf own_pd__I_B_V rfl) rfl (by show 2 * 0 + _ ≤ _; exact Nat.le_of_eq rfl) (hb hby own_d22_2) (fun _ _ => ⟨rfl, e0, (by decide : 0 + 0 ≤ _), (by decide : 0 + 0 ≤ _)⟩)
  dsimp only [Pt.U, Pt.locs, Pt.cells, Pt.slots] at X1 l1 y1 z1 st1 hQ1
  subst l1 y1 z1
  obtain ⟨rfl, Nq1, e1⟩ := hQ1
  have N1 := Fr.app N0 Nq1
  refine own_go st1 ?_
  show own_Go p e below s _ _ _ (T1.setTop (mkF m 5 #[rv t, iv (Int32.ofNat i)] []))
  refine own_go (fun zt zk => (XS.aloadN X1.here hx rfl (hb hby own_d22_5) rfl rfl (XS.iloadN X1.here hx rfl (hb hby own_d22_6) rfl zk))) ?_
  show own_Go p e below s _ _ _ (T1.setTop (mkF m 7 #[rv t, iv (Int32.ofNat i)] [(.int (Int32.ofNat i)), (.ref t)]))
  obtain ⟨_, _, ⟨T2, L2, k2, n2⟩, -, X2, ⟨Lc2, hQ2, l2, y2, z2⟩, st2⟩ := Jvm.LawKit.callS X1 hx (y := (⟨"java/lang/StringUTF16", "getChar", "([BI)C"⟩ : MethodName)) hown (mvT hZ (hw _ (List.mem_of_getElem? (i := 94) rfl))) (mvT hZ (hw _ (List.mem_of_getElem? (i := 95) rfl))) (mvT hZ (hw _ (List.mem_of_getElem? (i := 45) rfl))) (mvT hZ (hw _ (List.mem_of_getElem? (i := 96) rfl))) (by decide) (backOf (W := 0) (own_rgetc l Z a0 hw [] t i kb xs zs h0 n0 Z0 O SA SH SL Va hi h4 hl hU hR) hZ (hw _ (List.mem_of_getElem? (i := 96) rfl)) (hw _ (List.mem_of_getElem? (i := 45) rfl)) (by decide) (by decide)) (g := (mkF m 7 #[rv t, iv (Int32.ofNat i)] [(.int (Int32.ofNat i)), (.ref t)])) rfl (by rw [hml]; rfl) (argsL := [(.ref t), (.int (Int32.ofNat i))]) (rest := []) (lenOf own_pd___BI_C rfl) rfl (by show 2 * 0 + _ ≤ _; exact Nat.le_of_eq rfl) (hb hby own_d22_7) (fun _ _ => ⟨rfl, e1, (by decide : 0 + 0 ≤ _), (by decide : 0 + 0 ≤ _)⟩)
  dsimp only [Pt.U, Pt.locs, Pt.cells, Pt.slots] at X2 l2 y2 z2 st2 hQ2
  subst l2 y2 z2
  obtain ⟨rfl, Nq2, e2⟩ := hQ2
  have N2 := Fr.app N1 Nq2
  refine own_go st2 ?_
  show own_Go p e below s _ _ _ (T2.setTop (mkF m 10 #[rv t, iv (Int32.ofNat i)] [(.int (xs.getD i 0))]))
  exact own_fin X2 Bd.notSynchronized (fun h => by rw [Bd.returns] at h; cases h) (fun fs hr => retN X2 hx (t := .char) Bd.returns (by simp) (hb hby own_d22_10) hr) (by rw [e2]; exact ⟨congrArg (fun z => some (Value.int z)) (own_narc16 (own_R_at hR hi)), N2, rfl⟩) (by decide) (by decide)
theorem own_d12_16 : decode jdk_42_method_56_code 16 = .ok (.aload_n 0, 1) := by decide +kernel
theorem own_d12_17 : decode jdk_42_method_56_code 17 = .ok (.getfield 9, 3) := by decide +kernel
theorem own_d12_20 : decode jdk_42_method_56_code 20 = .ok (.iload_n 1, 1) := by decide +kernel
theorem own_d12_21 : decode jdk_42_method_56_code 21 = .ok (.invokestatic 498, 3) := by decide +kernel
theorem own_d12_24 : decode jdk_42_method_56_code 24 = .ok (.ireturn, 1) := by decide +kernel
theorem own_ef_own_rcha (m : MethodId) (a1 : Addr) (i : Nat) : entryFrame m #[(.ref a1), (.int (Int32.ofNat i))] 2 = mkF m 0 #[rv a1, iv (Int32.ofNat i)] [] := by first | (simp [entryFrame, mkF, argsToLocals, Value.category]; done) | rfl
def own_Q_own_rcha (Z : State) (a1 : Addr) (i : Nat) (cz : Int32) (fm : Value) (xs : List Int32) (h0 : Heap) (n0 : Nat) (v : Option Value) (h : Heap) (L : List Loc) : Prop := v = some (.int (xs.getD i 0)) ∧ Fr n0 L ∧ h = h0
set_option maxRecDepth 65536 in
set_option maxHeartbeats 40000000 in
theorem own_rcha (l : Launch) (Z : State) (a0 : Array Value) (hw : ∀ d ∈ tables_1, d.before a0 Z = true) (ws : List Jvm.Cond) (a1 : Addr) (i : Nat) (cz : Int32) (fm : Value) (xs : List Int32) (h0 : Heap) (n0 : Nat) (Z0 : n0 ≤ h0.size) (O : Old Z n0 h0) (SC : Sta Z Z.heap "java/lang/String" "COMPACT_STRINGS" "Z" (.int cz)) (SF : Sta Z Z.heap "jdk/internal/util/Preconditions" "SIOOBE_FORMATTER" "Ljava/util/function/BiFunction;" fm) (SA : Sta Z Z.heap "java/lang/StringUTF16" "$assertionsDisabled" "Z" (.int (1 : Int32))) (SH : Sta Z Z.heap "java/lang/StringUTF16" "HI_BYTE_SHIFT" "I" (.int (0 : Int32))) (SL : Sta Z Z.heap "java/lang/StringUTF16" "LO_BYTE_SHIFT" "I" (.int (8 : Int32))) (hz : ¬ (cz = (0 : Int32))) (St : own_Str Z h0 a1 xs) (h4 : xs.length ≤ 4) (rfm : fm.isRef = true) (hi : i < xs.length) (hR : own_R xs) :
    MetFree l (⟨"java/lang/String", "charAt", "(I)C"⟩ : MethodName) (head1 (Jvm.Cond.code (⟨"java/lang/String", "charAt", "(I)C"⟩ : MethodName) jdk_42_method_56_code 2 (some .char) :: ws) ({ frames := 4, cells := 0, slots := 0, locals := 53 } : Room)) (fun a U => a = #[(.ref a1), (.int (Int32.ofNat i))] ∧ Z.Warmed39 U.vm ∧ U.heap = h0) (fun _ _ _ _ _ => True) (fun _ U o U' => ∃ v L, o = .returned v ∧ own_Q_own_rcha Z a1 i cz fm xs h0 n0 v U'.heap L ∧ FrameEnd U o U' L ({ frames := 4, cells := 0, slots := 0, locals := 53 } : Room).cells ({ frames := 4, cells := 0, slots := 0, locals := 53 } : Room).slots) := by
  refine MetFree.of_bodySF (plainFor_of_name own_pn_java_lang_String) hisR ?_
  intro p e s m args below meth c s₁ Bd hml0 hP hK
  obtain ⟨rfl, hZ, hh⟩ := hP
  have hx := Bd.exec
  have hby := Bd.bytes
  have hml : c.maxLocals = 2 := hml0
  have hown : s.vm.findClass "java/lang/String" = some m.cls := findClass_of_methodNamed Bd.named
  have hnm := (name_of_methodNamed Bd.named Bd.method).1
  have X0 : Stand p l e ({ frames := 4, cells := 0, slots := 0, locals := 53 } : Room) s m #[(.ref a1), (.int (Int32.ofNat i))] below meth c s₁ [] 0 0 := Stand.of_body Bd
  have e0 : s₁.heap = h0 := by rw [← hh, Bd.state]; rfl
  have N0 := Fr.nil n0
  show own_Go p e below s (own_Q_own_rcha Z a1 i cz fm xs h0 n0) ({ frames := 4, cells := 0, slots := 0, locals := 53 } : Room).cells ({ frames := 4, cells := 0, slots := 0, locals := 53 } : Room).slots (s₁.setTop (entryFrame m #[(.ref a1), (.int (Int32.ofNat i))] 2))
  refine own_go (fun zt zk => castTop (own_ef_own_rcha m a1 i) zk) ?_
  show own_Go p e below s _ _ _ (s₁.setTop (mkF m 0 #[rv a1, iv (Int32.ofNat i)] []))
  obtain ⟨t, kb, zs, cd, Ex, Fv, Fc, Va, hD⟩ := St
  rcases hD with ⟨rfl, hl, hD⟩ | ⟨rfl, hl, hD⟩
  · show own_Go p e below s _ _ _ (s₁.setTop (mkF m 0 #[rv a1, iv (Int32.ofNat i)] []))
    refine own_go (fun zt zk => (XS.aloadN X0.here hx rfl (hb hby own_d12_0) rfl rfl zk)) ?_
    show own_Go p e below s _ _ _ (s₁.setTop (mkF m 1 #[rv a1, iv (Int32.ofNat i)] [(.ref a1)]))
    obtain ⟨cq1, kq1, qa1, qb1, qc1⟩ := isOf hZ e0 Ex
    obtain ⟨_, _, ⟨T1, L1, k1, n1⟩, -, X1, ⟨Lc1, hQ1, l1, y1, z1⟩, st1⟩ := X0.virtualBack hx (y := (⟨"java/lang/String", "isLatin1", "()Z"⟩ : MethodName)) (z := (⟨"java/lang/String", "isLatin1", "()Z"⟩ : MethodName)) hown (mvT hZ (hw _ (List.mem_of_getElem? (i := 61) rfl))) (mvT hZ (hw _ (List.mem_of_getElem? (i := 62) rfl))) (notFace_of_selects (args := #[]) (mvT hZ (hw _ (List.mem_of_getElem? (i := 64) rfl)))) (mvT hZ (hw _ (List.mem_of_getElem? (i := 64) rfl))) (mvT hZ (hw _ (List.mem_of_getElem? (i := 63) rfl))) (by decide) (backOf (W := 0) (own_risl l Z a0 hw [] a1 cz h0 n0 Z0 O SC Fc hz) hZ (hw _ (List.mem_of_getElem? (i := 65) rfl)) (hw _ (List.mem_of_getElem? (i := 4) rfl)) (by decide) (by decide)) qa1 qc1 (g := (mkF m 1 #[rv a1, iv (Int32.ofNat i)] [(.ref a1)])) rfl (by rw [hml]; rfl) (Steps.refl _) (argsL := []) (rest := []) (lenOf own_pd___Z rfl) rfl (by show 2 * 0 + _ ≤ _; exact Nat.le_of_eq rfl) (hb hby own_d12_1) (fun _ _ => ⟨rfl, e0, (by decide : 0 + 0 ≤ _), (by decide : 0 + 0 ≤ _)⟩)
    dsimp only [Pt.U, Pt.locs, Pt.cells, Pt.slots] at X1 l1 y1 z1 st1 hQ1
    subst l1 y1 z1
    obtain ⟨rfl, Nq1, e1⟩ := hQ1
    have N1 := Fr.app N0 Nq1
    refine own_go (fun zt zk => st1.trans zk) ?_
    show own_Go p e below s _ _ _ (T1.setTop (mkF m 4 #[rv a1, iv (Int32.ofNat i)] [(.int (1 : Int32))]))
    refine own_go (fun zt zk => (XS.ifNo X1.here hx rfl (hb hby own_d12_4) rfl ((if0 _ _).trans (feq ((by decide) : ¬ ((1 : Int32) = (0 : Int32)))).1) (XS.aloadN X1.here hx rfl (hb hby own_d12_7) rfl rfl zk))) ?_
    show own_Go p e below s _ _ _ (T1.setTop (mkF m 8 #[rv a1, iv (Int32.ofNat i)] [(.ref a1)]))
    obtain ⟨T2, X2, e2, st2⟩ := getF X1 hx hZ hown (host := "") (Or.inl (hw _ (List.mem_of_getElem? (i := 26) rfl))) Via.refl e1 Fv (g := (mkF m 8 #[rv a1, iv (Int32.ofNat i)] [(.ref a1)])) rfl rfl (hb hby own_d12_8)
    refine own_go st2 ?_
    show own_Go p e below s _ _ _ (T2.setTop (mkF m 11 #[rv a1, iv (Int32.ofNat i)] [(.ref t)]))
    refine own_go (fun zt zk => (XS.iloadN X2.here hx rfl (hb hby own_d12_11) rfl zk)) ?_
    show own_Go p e below s _ _ _ (T2.setTop (mkF m 12 #[rv a1, iv (Int32.ofNat i)] [(.int (Int32.ofNat i)), (.ref t)]))
    obtain ⟨_, _, ⟨T3, L3, k3, n3⟩, -, X3, ⟨Lc3, hQ3, l3, y3, z3⟩, st3⟩ := Jvm.LawKit.callS X2 hx (y := (⟨"java/lang/StringLatin1", "charAt", "([BI)C"⟩ : MethodName)) hown (mvT hZ (hw _ (List.mem_of_getElem? (i := 66) rfl))) (mvT hZ (hw _ (List.mem_of_getElem? (i := 67) rfl))) (mvT hZ (hw _ (List.mem_of_getElem? (i := 68) rfl))) (mvT hZ (hw _ (List.mem_of_getElem? (i := 69) rfl))) (by decide) (backOf (W := 0) (own_rlch l Z a0 hw [] t (Int32.ofNat i) fm kb (Int32.ofNat zs.length) (zs.map Value.int) ((xs.getD i 0).toInt8.toInt32) h0 n0 Z0 O SF Va rfm ⟨own_nnN (by omega), (own_ltN (by omega) (by omega)).mpr (by omega)⟩ (by rw [(own_ofNat (q := i) (by omega)).2, own_mapget]; exact congrArg Value.int (hD i hi).1)) hZ (hw _ (List.mem_of_getElem? (i := 69) rfl)) (hw _ (List.mem_of_getElem? (i := 68) rfl)) (by decide) (by decide)) (g := (mkF m 12 #[rv a1, iv (Int32.ofNat i)] [(.int (Int32.ofNat i)), (.ref t)])) rfl (by rw [hml]; rfl) (argsL := [(.ref t), (.int (Int32.ofNat i))]) (rest := []) (lenOf own_pd___BI_C rfl) rfl (by show 2 * 0 + _ ≤ _; exact Nat.le_of_eq rfl) (hb hby own_d12_12) (fun _ _ => ⟨rfl, e2, (by decide : 0 + 0 ≤ _), (by decide : 0 + 0 ≤ _)⟩)
    dsimp only [Pt.U, Pt.locs, Pt.cells, Pt.slots] at X3 l3 y3 z3 st3 hQ3
    subst l3 y3 z3
    obtain ⟨rfl, Nq3, e3⟩ := hQ3
    have N3 := Fr.app N1 Nq3
    refine own_go st3 ?_
    show own_Go p e below s _ _ _ (T3.setTop (mkF m 15 #[rv a1, iv (Int32.ofNat i)] [(.int (((xs.getD i 0).toInt8.toInt32) &&& (255 : Int32)))]))
    exact own_fin X3 Bd.notSynchronized (fun h => by rw [Bd.returns] at h; cases h) (fun fs hr => retN X3 hx (t := .char) Bd.returns (by simp) (hb hby own_d12_15) hr) (by rw [e3]; exact ⟨congrArg (fun z => some (Value.int z)) (own_l8 (own_R_at hR hi) (hD i hi).2), N3, rfl⟩) (by decide) (by decide)
  · show own_Go p e below s _ _ _ (s₁.setTop (mkF m 0 #[rv a1, iv (Int32.ofNat i)] []))
    refine own_go (fun zt zk => (XS.aloadN X0.here hx rfl (hb hby own_d12_0) rfl rfl zk)) ?_
    show own_Go p e below s _ _ _ (s₁.setTop (mkF m 1 #[rv a1, iv (Int32.ofNat i)] [(.ref a1)]))
    obtain ⟨cq4, kq4, qa4, qb4, qc4⟩ := isOf hZ e0 Ex
    obtain ⟨_, _, ⟨T4, L4, k4, n4⟩, -, X4, ⟨Lc4, hQ4, l4, y4, z4⟩, st4⟩ := X0.virtualBack hx (y := (⟨"java/lang/String", "isLatin1", "()Z"⟩ : MethodName)) (z := (⟨"java/lang/String", "isLatin1", "()Z"⟩ : MethodName)) hown (mvT hZ (hw _ (List.mem_of_getElem? (i := 61) rfl))) (mvT hZ (hw _ (List.mem_of_getElem? (i := 62) rfl))) (notFace_of_selects (args := #[]) (mvT hZ (hw _ (List.mem_of_getElem? (i := 64) rfl)))) (mvT hZ (hw _ (List.mem_of_getElem? (i := 64) rfl))) (mvT hZ (hw _ (List.mem_of_getElem? (i := 63) rfl))) (by decide) (backOf (W := 0) (own_risl1 l Z a0 hw [] a1 cz h0 n0 Z0 O SC Fc hz) hZ (hw _ (List.mem_of_getElem? (i := 65) rfl)) (hw _ (List.mem_of_getElem? (i := 4) rfl)) (by decide) (by decide)) qa4 qc4 (g := (mkF m 1 #[rv a1, iv (Int32.ofNat i)] [(.ref a1)])) rfl (by rw [hml]; rfl) (Steps.refl _) (argsL := []) (rest := []) (lenOf own_pd___Z rfl) rfl (by show 2 * 0 + _ ≤ _; exact Nat.le_of_eq rfl) (hb hby own_d12_1) (fun _ _ => ⟨rfl, e0, (by decide : 0 + 0 ≤ _), (by decide : 0 + 0 ≤ _)⟩)
    dsimp only [Pt.U, Pt.locs, Pt.cells, Pt.slots] at X4 l4 y4 z4 st4 hQ4
    subst l4 y4 z4
    obtain ⟨rfl, Nq4, e4⟩ := hQ4
    have N4 := Fr.app N0 Nq4
    refine own_go (fun zt zk => st4.trans zk) ?_
    show own_Go p e below s _ _ _ (T4.setTop (mkF m 4 #[rv a1, iv (Int32.ofNat i)] [(.int (0 : Int32))]))
    refine own_go (fun zt zk => (XS.ifYes X4.here hx rfl (pc0 := 4) (pc' := 16) rfl (hb hby own_d12_4) rfl ((if0 _ _).trans (teq (rfl : (0 : Int32) = (0 : Int32))).1) (by decide) (by decide) (XS.aloadN X4.here hx rfl (hb hby own_d12_16) rfl rfl zk))) ?_
    show own_Go p e below s _ _ _ (T4.setTop (mkF m 17 #[rv a1, iv (Int32.ofNat i)] [(.ref a1)]))
    obtain ⟨T5, X5, e5, st5⟩ := getF X4 hx hZ hown (host := "") (Or.inl (hw _ (List.mem_of_getElem? (i := 26) rfl))) Via.refl e4 Fv (g := (mkF m 17 #[rv a1, iv (Int32.ofNat i)] [(.ref a1)])) rfl rfl (hb hby own_d12_17)
    refine own_go st5 ?_
    show own_Go p e below s _ _ _ (T5.setTop (mkF m 20 #[rv a1, iv (Int32.ofNat i)] [(.ref t)]))
    refine own_go (fun zt zk => (XS.iloadN X5.here hx rfl (hb hby own_d12_20) rfl zk)) ?_
    show own_Go p e below s _ _ _ (T5.setTop (mkF m 21 #[rv a1, iv (Int32.ofNat i)] [(.int (Int32.ofNat i)), (.ref t)]))
    obtain ⟨_, _, ⟨T6, L6, k6, n6⟩, -, X6, ⟨Lc6, hQ6, l6, y6, z6⟩, st6⟩ := Jvm.LawKit.callS X5 hx (y := (⟨"java/lang/StringUTF16", "charAt", "([BI)C"⟩ : MethodName)) hown (mvT hZ (hw _ (List.mem_of_getElem? (i := 97) rfl))) (mvT hZ (hw _ (List.mem_of_getElem? (i := 98) rfl))) (mvT hZ (hw _ (List.mem_of_getElem? (i := 45) rfl))) (mvT hZ (hw _ (List.mem_of_getElem? (i := 99) rfl))) (by decide) (backOf (W := 0) (own_ruch l Z a0 hw [] t i fm kb xs zs h0 n0 Z0 O SF SA SH SL Va rfm hi h4 hl hD hR) hZ (hw _ (List.mem_of_getElem? (i := 99) rfl)) (hw _ (List.mem_of_getElem? (i := 45) rfl)) (by decide) (by decide)) (g := (mkF m 21 #[rv a1, iv (Int32.ofNat i)] [(.int (Int32.ofNat i)), (.ref t)])) rfl (by rw [hml]; rfl) (argsL := [(.ref t), (.int (Int32.ofNat i))]) (rest := []) (lenOf own_pd___BI_C rfl) rfl (by show 2 * 0 + _ ≤ _; exact Nat.le_of_eq rfl) (hb hby own_d12_21) (fun _ _ => ⟨rfl, e5, (by decide : 0 + 0 ≤ _), (by decide : 0 + 0 ≤ _)⟩)
    dsimp only [Pt.U, Pt.locs, Pt.cells, Pt.slots] at X6 l6 y6 z6 st6 hQ6
    subst l6 y6 z6
    obtain ⟨rfl, Nq6, e6⟩ := hQ6
    have N6 := Fr.app N4 Nq6
    refine own_go st6 ?_
    show own_Go p e below s _ _ _ (T6.setTop (mkF m 24 #[rv a1, iv (Int32.ofNat i)] [(.int (xs.getD i 0))]))
    exact own_fin X6 Bd.notSynchronized (fun h => by rw [Bd.returns] at h; cases h) (fun fs hr => retN X6 hx (t := .char) Bd.returns (by simp) (hb hby own_d12_24) hr) (by rw [e6]; exact ⟨congrArg (fun z => some (Value.int z)) (own_narc16 (own_R_at hR hi)), N6, rfl⟩) (by decide) (by decide)
theorem own_d5_0 : decode prog_12_method_12_code 0 = .ok (.iconst 1, 1) := by decide +kernel
theorem own_d5_1 : decode prog_12_method_12_code 1 = .ok (.istore_n 1, 1) := by decide +kernel
theorem own_d5_2 : decode prog_12_method_12_code 2 = .ok (.iconst 0, 1) := by decide +kernel
theorem own_d5_3 : decode prog_12_method_12_code 3 = .ok (.istore_n 2, 1) := by decide +kernel
theorem own_d5_4 : decode prog_12_method_12_code 4 = .ok (.iload_n 2, 1) := by decide +kernel
theorem own_d5_5 : decode prog_12_method_12_code 5 = .ok (.aload_n 0, 1) := by decide +kernel
theorem own_d5_6 : decode prog_12_method_12_code 6 = .ok (.invokevirtual 79, 3) := by decide +kernel
theorem own_pd___I : parseMethodDescriptor "()I" = some ⟨[], some .int⟩ := by decide +kernel
theorem own_d5_9 : decode prog_12_method_12_code 9 = .ok (.if_icmp .ge 50, 3) := by decide +kernel
theorem own_d5_59 : decode prog_12_method_12_code 59 = .ok (.iload_n 1, 1) := by decide +kernel
theorem own_d5_60 : decode prog_12_method_12_code 60 = .ok (.ireturn, 1) := by decide +kernel
theorem own_d5_12 : decode prog_12_method_12_code 12 = .ok (.iload_n 1, 1) := by decide +kernel
theorem own_d5_13 : decode prog_12_method_12_code 13 = .ok (.ifCond .eq 46, 3) := by decide +kernel
theorem own_d5_16 : decode prog_12_method_12_code 16 = .ok (.aload_n 0, 1) := by decide +kernel
theorem own_d5_17 : decode prog_12_method_12_code 17 = .ok (.iload_n 2, 1) := by decide +kernel
theorem own_d5_18 : decode prog_12_method_12_code 18 = .ok (.invokevirtual 82, 3) := by decide +kernel
theorem own_pd__I_C : parseMethodDescriptor "(I)C" = some ⟨[.int], some .char⟩ := by decide +kernel
theorem own_d5_21 : decode prog_12_method_12_code 21 = .ok (.istore_n 3, 1) := by decide +kernel
theorem own_d5_22 : decode prog_12_method_12_code 22 = .ok (.iload_n 3, 1) := by decide +kernel
theorem own_d5_23 : decode prog_12_method_12_code 23 = .ok (.bipush 9, 2) := by decide +kernel
theorem own_d5_25 : decode prog_12_method_12_code 25 = .ok (.if_icmp .eq 22, 3) := by decide +kernel
theorem own_d5_47 : decode prog_12_method_12_code 47 = .ok (.iconst 1, 1) := by decide +kernel
theorem own_d5_48 : decode prog_12_method_12_code 48 = .ok (.goto 4, 3) := by decide +kernel
theorem own_d5_52 : decode prog_12_method_12_code 52 = .ok (.istore_n 1, 1) := by decide +kernel
theorem own_d5_53 : decode prog_12_method_12_code 53 = .ok (.iinc 2 1, 3) := by decide +kernel
theorem own_d5_56 : decode prog_12_method_12_code 56 = .ok (.goto (-52), 3) := by decide +kernel
theorem own_d5_28 : decode prog_12_method_12_code 28 = .ok (.iload_n 3, 1) := by decide +kernel
theorem own_d5_29 : decode prog_12_method_12_code 29 = .ok (.bipush 32, 2) := by decide +kernel
theorem own_d5_31 : decode prog_12_method_12_code 31 = .ok (.if_icmp .lt 20, 3) := by decide +kernel
theorem own_d5_51 : decode prog_12_method_12_code 51 = .ok (.iconst 0, 1) := by decide +kernel
theorem own_d5_34 : decode prog_12_method_12_code 34 = .ok (.iload_n 3, 1) := by decide +kernel
theorem own_d5_35 : decode prog_12_method_12_code 35 = .ok (.bipush 127, 2) := by decide +kernel
theorem own_d5_37 : decode prog_12_method_12_code 37 = .ok (.if_icmp .eq 14, 3) := by decide +kernel
theorem own_d5_40 : decode prog_12_method_12_code 40 = .ok (.iload_n 3, 1) := by decide +kernel
theorem own_d5_41 : decode prog_12_method_12_code 41 = .ok (.sipush 255, 3) := by decide +kernel
theorem own_d5_44 : decode prog_12_method_12_code 44 = .ok (.if_icmp .gt 7, 3) := by decide +kernel
theorem own_pn_com_example_mortise_mortise_http_Headers : plainName "com/example/mortise/mortise/http/Headers" = true := by first | (simp [plainName, overriddenIn]; done) | decide +kernel
theorem own_ef_own_risv (m : MethodId) (a1 : Addr) : entryFrame m #[(.ref a1)] 4 = mkF m 0 #[rv a1, .unset, .unset, .unset] [] := by first | (simp [entryFrame, mkF, argsToLocals, Value.category]; done) | rfl
def own_Q_own_risv (Z : State) (a1 : Addr) (cz : Int32) (fm : Value) (xs : List Int32) (h0 : Heap) (n0 : Nat) (v : Option Value) (h : Heap) (L : List Loc) : Prop := v = some (.int (own_all xs)) ∧ Fr n0 L ∧ h = h0
set_option maxRecDepth 65536 in
set_option maxHeartbeats 40000000 in
theorem own_risv (l : Launch) (Z : State) (a0 : Array Value) (hw : ∀ d ∈ tables_1, d.before a0 Z = true) (ws : List Jvm.Cond) (a1 : Addr) (cz : Int32) (fm : Value) (xs : List Int32) (h0 : Heap) (n0 : Nat) (Z0 : n0 ≤ h0.size) (O : Old Z n0 h0) (SC : Sta Z Z.heap "java/lang/String" "COMPACT_STRINGS" "Z" (.int cz)) (SF : Sta Z Z.heap "jdk/internal/util/Preconditions" "SIOOBE_FORMATTER" "Ljava/util/function/BiFunction;" fm) (SA : Sta Z Z.heap "java/lang/StringUTF16" "$assertionsDisabled" "Z" (.int (1 : Int32))) (SH : Sta Z Z.heap "java/lang/StringUTF16" "HI_BYTE_SHIFT" "I" (.int (0 : Int32))) (SL : Sta Z Z.heap "java/lang/StringUTF16" "LO_BYTE_SHIFT" "I" (.int (8 : Int32))) (hz : ¬ (cz = (0 : Int32))) (St : own_Str Z h0 a1 xs) (h4 : xs.length ≤ 4) (rfm : fm.isRef = true) (hR : own_R xs) :
    MetFree l (⟨"com/example/mortise/mortise/http/Headers", "isValue", "(Ljava/lang/String;)Z"⟩ : MethodName) (head1 (Jvm.Cond.code (⟨"com/example/mortise/mortise/http/Headers", "isValue", "(Ljava/lang/String;)Z"⟩ : MethodName) prog_12_method_12_code 4 (some .boolean) :: ws) ({ frames := 5, cells := 0, slots := 0, locals := 66 } : Room)) (fun a U => a = #[(.ref a1)] ∧ Z.Warmed39 U.vm ∧ U.heap = h0) (fun _ _ _ _ _ => True) (fun _ U o U' => ∃ v L, o = .returned v ∧ own_Q_own_risv Z a1 cz fm xs h0 n0 v U'.heap L ∧ FrameEnd U o U' L ({ frames := 5, cells := 0, slots := 0, locals := 66 } : Room).cells ({ frames := 5, cells := 0, slots := 0, locals := 66 } : Room).slots) := by
  refine MetFree.of_bodySF (plainFor_of_name own_pn_com_example_mortise_mortise_http_Headers) hisR ?_
  intro p e s m args below meth c s₁ Bd hml0 hP hK
  obtain ⟨rfl, hZ, hh⟩ := hP
  have hx := Bd.exec
  have hby := Bd.bytes
  have hml : c.maxLocals = 4 := hml0
  have hown : s.vm.findClass "com/example/mortise/mortise/http/Headers" = some m.cls := findClass_of_methodNamed Bd.named
  have hnm := (name_of_methodNamed Bd.named Bd.method).1
  have X0 : Stand p l e ({ frames := 5, cells := 0, slots := 0, locals := 66 } : Room) s m #[(.ref a1)] below meth c s₁ [] 0 0 := Stand.of_body Bd
  have e0 : s₁.heap = h0 := by rw [← hh, Bd.state]; rfl
  have N0 := Fr.nil n0
  show own_Go p e below s (own_Q_own_risv Z a1 cz fm xs h0 n0) ({ frames := 5, cells := 0, slots := 0, locals := 66 } : Room).cells ({ frames := 5, cells := 0, slots := 0, locals := 66 } : Room).slots (s₁.setTop (entryFrame m #[(.ref a1)] 4))
  refine own_go (fun zt zk => castTop (own_ef_own_risv m a1) zk) ?_
  show own_Go p e below s _ _ _ (s₁.setTop (mkF m 0 #[rv a1, .unset, .unset, .unset] []))
  refine own_go (fun zt zk => (XS.iconst X0.here hx rfl (hb hby own_d5_0) (XS.istoreN X0.here hx rfl (hb hby own_d5_1) rfl (l' := #[rv a1, iv (1 : Int32), .unset, .unset]) rfl (XS.iconst X0.here hx rfl (hb hby own_d5_2) (XS.istoreN X0.here hx rfl (hb hby own_d5_3) rfl (l' := #[rv a1, iv (1 : Int32), iv (0 : Int32), .unset]) rfl zk))))) ?_
  show own_Go p e below s _ _ _ (s₁.setTop (mkF m 4 #[rv a1, iv (1 : Int32), iv (0 : Int32), .unset] []))
  have Ex := own_Str_ex St
  have loop : ∀ (d i : Nat) (T : State) (L : List Loc) (z : Slot), (z = .unset ∨ ∃ x : Int32, z = iv x) → i + d = xs.length → (∀ j, j < i → ¬ (own_fc (xs.getD j 0) = 0)) → Stand p l e ({ frames := 5, cells := 0, slots := 0, locals := 66 } : Room) s m #[(.ref a1)] below meth c T L 0 0 → T.heap = h0 → Fr n0 L → own_Go p e below s (own_Q_own_risv Z a1 cz fm xs h0 n0) ({ frames := 5, cells := 0, slots := 0, locals := 66 } : Room).cells ({ frames := 5, cells := 0, slots := 0, locals := 66 } : Room).slots (T.setTop (mkF m 4 #[rv a1, iv (1 : Int32), iv (Int32.ofNat i), z] [])) := by
    intro d
    induction d with
    | zero =>
      intro i T L z hs_z hi hr X eT N
      obtain rfl : i = xs.length := by omega
      show own_Go p e below s _ _ _ (T.setTop (mkF m 4 #[rv a1, iv (1 : Int32), iv (Int32.ofNat xs.length), z] []))
      refine own_go (fun zt zk => (XS.iloadN X.here hx rfl (hb hby own_d5_4) rfl (XS.aloadN X.here hx rfl (hb hby own_d5_5) rfl rfl zk))) ?_
      show own_Go p e below s _ _ _ (T.setTop (mkF m 6 #[rv a1, iv (1 : Int32), iv (Int32.ofNat xs.length), z] [(.ref a1), (.int (Int32.ofNat xs.length))]))
      obtain ⟨cq1, kq1, qa1, qb1, qc1⟩ := isOf hZ eT Ex
      obtain ⟨_, _, ⟨T1, L1, k1, n1⟩, -, X1, ⟨Lc1, hQ1, l1, y1, z1⟩, st1⟩ := X.virtualBack hx (y := (⟨"java/lang/String", "length", "()I"⟩ : MethodName)) (z := (⟨"java/lang/String", "length", "()I"⟩ : MethodName)) hown (mvT hZ (hw _ (List.mem_of_getElem? (i := 32) rfl))) (mvT hZ (hw _ (List.mem_of_getElem? (i := 33) rfl))) (notFace_of_selects (args := #[]) (mvT hZ (hw _ (List.mem_of_getElem? (i := 35) rfl)))) (mvT hZ (hw _ (List.mem_of_getElem? (i := 35) rfl))) (mvT hZ (hw _ (List.mem_of_getElem? (i := 34) rfl))) (by decide) (backOf (W := 1) (own_rlenS l Z a0 hw [] a1 cz xs h0 n0 Z0 O SC hz St h4) hZ (hw _ (List.mem_of_getElem? (i := 36) rfl)) (hw _ (List.mem_of_getElem? (i := 4) rfl)) (by decide) (by decide)) qa1 qc1 (g := (mkF m 6 #[rv a1, iv (1 : Int32), iv (Int32.ofNat xs.length), z] [(.ref a1), (.int (Int32.ofNat xs.length))])) rfl (by rw [hml]; rfl) (Steps.refl _) (argsL := []) (rest := [(.int (Int32.ofNat xs.length))]) (lenOf own_pd___I rfl) rfl (by show 2 * 0 + _ ≤ _; exact Nat.le_of_eq rfl) (hb hby own_d5_6) (fun _ _ => ⟨rfl, eT, (by decide : 0 + 0 ≤ _), (by decide : 0 + 0 ≤ _)⟩)
      dsimp only [Pt.U, Pt.locs, Pt.cells, Pt.slots] at X1 l1 y1 z1 st1 hQ1
      subst l1 y1 z1
      obtain ⟨rfl, Nq1, e1⟩ := hQ1
      have N1 := Fr.app N Nq1
      refine own_go (fun zt zk => st1.trans zk) ?_
      show own_Go p e below s _ _ _ (T1.setTop (mkF m 9 #[rv a1, iv (1 : Int32), iv (Int32.ofNat xs.length), z] [(.int (Int32.ofNat xs.length)), (.int (Int32.ofNat xs.length))]))
      refine own_go (fun zt zk => (XS.icmpYes X1.here hx rfl (pc0 := 9) (pc' := 59) rfl (hb hby own_d5_9) rfl (flt ((own_irr _) : ¬ ((Int32.ofNat xs.length) < (Int32.ofNat xs.length)))).2.1 (by decide) (by decide) (XS.iloadN X1.here hx rfl (hb hby own_d5_59) rfl zk))) ?_
      show own_Go p e below s _ _ _ (T1.setTop (mkF m 60 #[rv a1, iv (1 : Int32), iv (Int32.ofNat xs.length), z] [(.int (1 : Int32))]))
      exact own_fin X1 Bd.notSynchronized (fun h => by rw [Bd.returns] at h; cases h) (fun fs hr => retN X1 hx (t := .boolean) Bd.returns (by simp) (hb hby own_d5_60) hr) (by rw [e1]; exact ⟨by rw [own_all1 hr]; rfl, N1, rfl⟩) (by decide) (by decide)
    | succ d ih =>
      intro i T L z hs_z hi hr X eT N
      have hlt : i < xs.length := by omega
      show own_Go p e below s _ _ _ (T.setTop (mkF m 4 #[rv a1, iv (1 : Int32), iv (Int32.ofNat i), z] []))
      refine own_go (fun zt zk => (XS.iloadN X.here hx rfl (hb hby own_d5_4) rfl (XS.aloadN X.here hx rfl (hb hby own_d5_5) rfl rfl zk))) ?_
      show own_Go p e below s _ _ _ (T.setTop (mkF m 6 #[rv a1, iv (1 : Int32), iv (Int32.ofNat i), z] [(.ref a1), (.int (Int32.ofNat i))]))
      obtain ⟨cq2, kq2, qa2, qb2, qc2⟩ := isOf hZ eT Ex
      obtain ⟨_, _, ⟨T2, L2, k2, n2⟩, -, X2, ⟨Lc2, hQ2, l2, y2, z2⟩, st2⟩ := X.virtualBack hx (y := (⟨"java/lang/String", "length", "()I"⟩ : MethodName)) (z := (⟨"java/lang/String", "length", "()I"⟩ : MethodName)) hown (mvT hZ (hw _ (List.mem_of_getElem? (i := 32) rfl))) (mvT hZ (hw _ (List.mem_of_getElem? (i := 33) rfl))) (notFace_of_selects (args := #[]) (mvT hZ (hw _ (List.mem_of_getElem? (i := 35) rfl)))) (mvT hZ (hw _ (List.mem_of_getElem? (i := 35) rfl))) (mvT hZ (hw _ (List.mem_of_getElem? (i := 34) rfl))) (by decide) (backOf (W := 1) (own_rlenS l Z a0 hw [] a1 cz xs h0 n0 Z0 O SC hz St h4) hZ (hw _ (List.mem_of_getElem? (i := 36) rfl)) (hw _ (List.mem_of_getElem? (i := 4) rfl)) (by decide) (by decide)) qa2 qc2 (g := (mkF m 6 #[rv a1, iv (1 : Int32), iv (Int32.ofNat i), z] [(.ref a1), (.int (Int32.ofNat i))])) rfl (by rw [hml]; rfl) (Steps.refl _) (argsL := []) (rest := [(.int (Int32.ofNat i))]) (lenOf own_pd___I rfl) rfl (by show 2 * 0 + _ ≤ _; exact Nat.le_of_eq rfl) (hb hby own_d5_6) (fun _ _ => ⟨rfl, eT, (by decide : 0 + 0 ≤ _), (by decide : 0 + 0 ≤ _)⟩)
      dsimp only [Pt.U, Pt.locs, Pt.cells, Pt.slots] at X2 l2 y2 z2 st2 hQ2
      subst l2 y2 z2
      obtain ⟨rfl, Nq2, e2⟩ := hQ2
      have N2 := Fr.app N Nq2
      refine own_go (fun zt zk => st2.trans zk) ?_
      show own_Go p e below s _ _ _ (T2.setTop (mkF m 9 #[rv a1, iv (1 : Int32), iv (Int32.ofNat i), z] [(.int (Int32.ofNat xs.length)), (.int (Int32.ofNat i))]))
      refine own_go (fun zt zk => (XS.icmpNo X2.here hx rfl (hb hby own_d5_9) rfl (tlt (((own_ltN (by omega) (by omega)).mpr hlt) : (Int32.ofNat i) < (Int32.ofNat xs.length))).2.1 (XS.iloadN X2.here hx rfl (hb hby own_d5_12) rfl (XS.ifNo X2.here hx rfl (hb hby own_d5_13) rfl ((if0 _ _).trans (feq ((by decide) : ¬ ((1 : Int32) = (0 : Int32)))).1) (XS.aloadN X2.here hx rfl (hb hby own_d5_16) rfl rfl (XS.iloadN X2.here hx rfl (hb hby own_d5_17) rfl zk)))))) ?_
      show own_Go p e below s _ _ _ (T2.setTop (mkF m 18 #[rv a1, iv (1 : Int32), iv (Int32.ofNat i), z] [(.int (Int32.ofNat i)), (.ref a1)]))
      obtain ⟨cq3, kq3, qa3, qb3, qc3⟩ := isOf hZ e2 Ex
      obtain ⟨_, _, ⟨T3, L3, k3, n3⟩, -, X3, ⟨Lc3, hQ3, l3, y3, z3⟩, st3⟩ := X2.virtualBack hx (y := (⟨"java/lang/String", "charAt", "(I)C"⟩ : MethodName)) (z := (⟨"java/lang/String", "charAt", "(I)C"⟩ : MethodName)) hown (mvT hZ (hw _ (List.mem_of_getElem? (i := 56) rfl))) (mvT hZ (hw _ (List.mem_of_getElem? (i := 57) rfl))) (notFace_of_selects (args := #[]) (mvT hZ (hw _ (List.mem_of_getElem? (i := 59) rfl)))) (mvT hZ (hw _ (List.mem_of_getElem? (i := 59) rfl))) (mvT hZ (hw _ (List.mem_of_getElem? (i := 58) rfl))) (by decide) (backOf (W := 0) (own_rcha l Z a0 hw [] a1 i cz fm xs h0 n0 Z0 O SC SF SA SH SL hz St h4 rfm hlt hR) hZ (hw _ (List.mem_of_getElem? (i := 60) rfl)) (hw _ (List.mem_of_getElem? (i := 4) rfl)) (by decide) (by decide)) qa3 qc3 (g := (mkF m 18 #[rv a1, iv (1 : Int32), iv (Int32.ofNat i), z] [(.int (Int32.ofNat i)), (.ref a1)])) rfl (by rw [hml]; rfl) (Steps.refl _) (argsL := [(.int (Int32.ofNat i))]) (rest := []) (lenOf own_pd__I_C rfl) rfl (by show 2 * 0 + _ ≤ _; exact Nat.le_of_eq rfl) (hb hby own_d5_18) (fun _ _ => ⟨rfl, e2, (by decide : 0 + 0 ≤ _), (by decide : 0 + 0 ≤ _)⟩)
      dsimp only [Pt.U, Pt.locs, Pt.cells, Pt.slots] at X3 l3 y3 z3 st3 hQ3
      subst l3 y3 z3
      obtain ⟨rfl, Nq3, e3⟩ := hQ3
      have N3 := Fr.app N2 Nq3
      refine own_go (fun zt zk => st3.trans zk) ?_
      show own_Go p e below s _ _ _ (T3.setTop (mkF m 21 #[rv a1, iv (1 : Int32), iv (Int32.ofNat i), z] [(.int (xs.getD i 0))]))
      refine own_go (fun zt zk => (XS.istoreN X3.here hx rfl (hb hby own_d5_21) rfl (l' := #[rv a1, iv (1 : Int32), iv (Int32.ofNat i), iv (xs.getD i 0)]) (by rcases hs_z with rfl | ⟨_, rfl⟩ <;> rfl) (XS.iloadN X3.here hx rfl (hb hby own_d5_22) rfl (XS.bipush X3.here hx rfl (hb hby own_d5_23) zk)))) ?_
      show own_Go p e below s _ _ _ (T3.setTop (mkF m 25 #[rv a1, iv (1 : Int32), iv (Int32.ofNat i), iv (xs.getD i 0)] [(.int (9 : Int32)), (.int (xs.getD i 0))]))
      by_cases h1 : (xs.getD i 0) = (9 : Int32)
      · refine own_go (fun zt zk => (XS.icmpYes X3.here hx rfl (pc0 := 25) (pc' := 47) rfl (hb hby own_d5_25) rfl (teq (h1 : (xs.getD i 0) = (9 : Int32))).1 (by decide) (by decide) (XS.iconst X3.here hx rfl (hb hby own_d5_47) (XS.goto X3.here hx rfl (pc0 := 48) (pc' := 52) rfl (hb hby own_d5_48) (by decide) (by decide) (XS.istoreN X3.here hx rfl (hb hby own_d5_52) rfl (l' := #[rv a1, iv (1 : Int32), iv (Int32.ofNat i), iv (xs.getD i 0)]) rfl (XS.iinc X3.here hx rfl (hb hby own_d5_53) rfl (l' := #[rv a1, iv (1 : Int32), iv ((Int32.ofNat i) + (1 : Int32)), iv (xs.getD i 0)]) rfl (XS.goto X3.here hx rfl (pc0 := 56) (pc' := 4) rfl (hb hby own_d5_56) (by decide) (by decide) zk))))))) ?_
        show own_Go p e below s _ _ _ (T3.setTop (mkF m 4 #[rv a1, iv (1 : Int32), iv ((Int32.ofNat i) + (1 : Int32)), iv (xs.getD i 0)] []))
        rw [own_inc i (by omega)]
        exact ih (i + 1) _ _ _ (Or.inr ⟨_, rfl⟩) (by omega) (own_pre hr (own_p1 h1)) X3 e3 N3
      · refine own_go (fun zt zk => (XS.icmpNo X3.here hx rfl (hb hby own_d5_25) rfl (feq (h1 : ¬ ((xs.getD i 0) = (9 : Int32)))).1 (XS.iloadN X3.here hx rfl (hb hby own_d5_28) rfl (XS.bipush X3.here hx rfl (hb hby own_d5_29) zk)))) ?_
        show own_Go p e below s _ _ _ (T3.setTop (mkF m 31 #[rv a1, iv (1 : Int32), iv (Int32.ofNat i), iv (xs.getD i 0)] [(.int (32 : Int32)), (.int (xs.getD i 0))]))
        by_cases h2 : (xs.getD i 0) < (32 : Int32)
        · refine own_go (fun zt zk => (XS.icmpYes X3.here hx rfl (pc0 := 31) (pc' := 51) rfl (hb hby own_d5_31) rfl (tlt (h2 : (xs.getD i 0) < (32 : Int32))).1 (by decide) (by decide) (XS.iconst X3.here hx rfl (hb hby own_d5_51) (XS.istoreN X3.here hx rfl (hb hby own_d5_52) rfl (l' := #[rv a1, iv (0 : Int32), iv (Int32.ofNat i), iv (xs.getD i 0)]) rfl (XS.iinc X3.here hx rfl (hb hby own_d5_53) rfl (l' := #[rv a1, iv (0 : Int32), iv ((Int32.ofNat i) + (1 : Int32)), iv (xs.getD i 0)]) rfl (XS.goto X3.here hx rfl (pc0 := 56) (pc' := 4) rfl (hb hby own_d5_56) (by decide) (by decide) (XS.iloadN X3.here hx rfl (hb hby own_d5_4) rfl (XS.aloadN X3.here hx rfl (hb hby own_d5_5) rfl rfl zk)))))))) ?_
          show own_Go p e below s _ _ _ (T3.setTop (mkF m 6 #[rv a1, iv (0 : Int32), iv ((Int32.ofNat i) + (1 : Int32)), iv (xs.getD i 0)] [(.ref a1), (.int ((Int32.ofNat i) + (1 : Int32)))]))
          obtain ⟨cq4, kq4, qa4, qb4, qc4⟩ := isOf hZ e3 Ex
          obtain ⟨_, _, ⟨T4, L4, k4, n4⟩, -, X4, ⟨Lc4, hQ4, l4, y4, z4⟩, st4⟩ := X3.virtualBack hx (y := (⟨"java/lang/String", "length", "()I"⟩ : MethodName)) (z := (⟨"java/lang/String", "length", "()I"⟩ : MethodName)) hown (mvT hZ (hw _ (List.mem_of_getElem? (i := 32) rfl))) (mvT hZ (hw _ (List.mem_of_getElem? (i := 33) rfl))) (notFace_of_selects (args := #[]) (mvT hZ (hw _ (List.mem_of_getElem? (i := 35) rfl)))) (mvT hZ (hw _ (List.mem_of_getElem? (i := 35) rfl))) (mvT hZ (hw _ (List.mem_of_getElem? (i := 34) rfl))) (by decide) (backOf (W := 1) (own_rlenS l Z a0 hw [] a1 cz xs h0 n0 Z0 O SC hz St h4) hZ (hw _ (List.mem_of_getElem? (i := 36) rfl)) (hw _ (List.mem_of_getElem? (i := 4) rfl)) (by decide) (by decide)) qa4 qc4 (g := (mkF m 6 #[rv a1, iv (0 : Int32), iv ((Int32.ofNat i) + (1 : Int32)), iv (xs.getD i 0)] [(.ref a1), (.int ((Int32.ofNat i) + (1 : Int32)))])) rfl (by rw [hml]; rfl) (Steps.refl _) (argsL := []) (rest := [(.int ((Int32.ofNat i) + (1 : Int32)))]) (lenOf own_pd___I rfl) rfl (by show 2 * 0 + _ ≤ _; exact Nat.le_of_eq rfl) (hb hby own_d5_6) (fun _ _ => ⟨rfl, e3, (by decide : 0 + 0 ≤ _), (by decide : 0 + 0 ≤ _)⟩)
          dsimp only [Pt.U, Pt.locs, Pt.cells, Pt.slots] at X4 l4 y4 z4 st4 hQ4
          subst l4 y4 z4
          obtain ⟨rfl, Nq4, e4⟩ := hQ4
          have N4 := Fr.app N3 Nq4
          refine own_go (fun zt zk => st4.trans zk) ?_
          show own_Go p e below s _ _ _ (T4.setTop (mkF m 9 #[rv a1, iv (0 : Int32), iv ((Int32.ofNat i) + (1 : Int32)), iv (xs.getD i 0)] [(.int (Int32.ofNat xs.length)), (.int ((Int32.ofNat i) + (1 : Int32)))]))
          by_cases hq : ((Int32.ofNat i) + (1 : Int32)) < (Int32.ofNat xs.length)
          · refine own_go (fun zt zk => (XS.icmpNo X4.here hx rfl (hb hby own_d5_9) rfl (tlt (hq : ((Int32.ofNat i) + (1 : Int32)) < (Int32.ofNat xs.length))).2.1 (XS.iloadN X4.here hx rfl (hb hby own_d5_12) rfl (XS.ifYes X4.here hx rfl (pc0 := 13) (pc' := 59) rfl (hb hby own_d5_13) rfl ((if0 _ _).trans (teq (rfl : (0 : Int32) = (0 : Int32))).1) (by decide) (by decide) (XS.iloadN X4.here hx rfl (hb hby own_d5_59) rfl zk))))) ?_
            show own_Go p e below s _ _ _ (T4.setTop (mkF m 60 #[rv a1, iv (0 : Int32), iv ((Int32.ofNat i) + (1 : Int32)), iv (xs.getD i 0)] [(.int (0 : Int32))]))
            exact own_fin X4 Bd.notSynchronized (fun h => by rw [Bd.returns] at h; cases h) (fun fs hr => retN X4 hx (t := .boolean) Bd.returns (by simp) (hb hby own_d5_60) hr) (by rw [e4]; exact ⟨by rw [own_all0 ⟨i, hlt, own_p2 h1 h2⟩]; rfl, N4, rfl⟩) (by decide) (by decide)
          · refine own_go (fun zt zk => (XS.icmpYes X4.here hx rfl (pc0 := 9) (pc' := 59) rfl (hb hby own_d5_9) rfl (flt (hq : ¬ (((Int32.ofNat i) + (1 : Int32)) < (Int32.ofNat xs.length)))).2.1 (by decide) (by decide) (XS.iloadN X4.here hx rfl (hb hby own_d5_59) rfl zk))) ?_
            show own_Go p e below s _ _ _ (T4.setTop (mkF m 60 #[rv a1, iv (0 : Int32), iv ((Int32.ofNat i) + (1 : Int32)), iv (xs.getD i 0)] [(.int (0 : Int32))]))
            exact own_fin X4 Bd.notSynchronized (fun h => by rw [Bd.returns] at h; cases h) (fun fs hr => retN X4 hx (t := .boolean) Bd.returns (by simp) (hb hby own_d5_60) hr) (by rw [e4]; exact ⟨by rw [own_all0 ⟨i, hlt, own_p2 h1 h2⟩]; rfl, N4, rfl⟩) (by decide) (by decide)
        · refine own_go (fun zt zk => (XS.icmpNo X3.here hx rfl (hb hby own_d5_31) rfl (flt (h2 : ¬ ((xs.getD i 0) < (32 : Int32)))).1 (XS.iloadN X3.here hx rfl (hb hby own_d5_34) rfl (XS.bipush X3.here hx rfl (hb hby own_d5_35) zk)))) ?_
          show own_Go p e below s _ _ _ (T3.setTop (mkF m 37 #[rv a1, iv (1 : Int32), iv (Int32.ofNat i), iv (xs.getD i 0)] [(.int (127 : Int32)), (.int (xs.getD i 0))]))
          by_cases h3 : (xs.getD i 0) = (127 : Int32)
          · refine own_go (fun zt zk => (XS.icmpYes X3.here hx rfl (pc0 := 37) (pc' := 51) rfl (hb hby own_d5_37) rfl (teq (h3 : (xs.getD i 0) = (127 : Int32))).1 (by decide) (by decide) (XS.iconst X3.here hx rfl (hb hby own_d5_51) (XS.istoreN X3.here hx rfl (hb hby own_d5_52) rfl (l' := #[rv a1, iv (0 : Int32), iv (Int32.ofNat i), iv (xs.getD i 0)]) rfl (XS.iinc X3.here hx rfl (hb hby own_d5_53) rfl (l' := #[rv a1, iv (0 : Int32), iv ((Int32.ofNat i) + (1 : Int32)), iv (xs.getD i 0)]) rfl (XS.goto X3.here hx rfl (pc0 := 56) (pc' := 4) rfl (hb hby own_d5_56) (by decide) (by decide) (XS.iloadN X3.here hx rfl (hb hby own_d5_4) rfl (XS.aloadN X3.here hx rfl (hb hby own_d5_5) rfl rfl zk)))))))) ?_
            show own_Go p e below s _ _ _ (T3.setTop (mkF m 6 #[rv a1, iv (0 : Int32), iv ((Int32.ofNat i) + (1 : Int32)), iv (xs.getD i 0)] [(.ref a1), (.int ((Int32.ofNat i) + (1 : Int32)))]))
            obtain ⟨cq5, kq5, qa5, qb5, qc5⟩ := isOf hZ e3 Ex
            obtain ⟨_, _, ⟨T5, L5, k5, n5⟩, -, X5, ⟨Lc5, hQ5, l5, y5, z5⟩, st5⟩ := X3.virtualBack hx (y := (⟨"java/lang/String", "length", "()I"⟩ : MethodName)) (z := (⟨"java/lang/String", "length", "()I"⟩ : MethodName)) hown (mvT hZ (hw _ (List.mem_of_getElem? (i := 32) rfl))) (mvT hZ (hw _ (List.mem_of_getElem? (i := 33) rfl))) (notFace_of_selects (args := #[]) (mvT hZ (hw _ (List.mem_of_getElem? (i := 35) rfl)))) (mvT hZ (hw _ (List.mem_of_getElem? (i := 35) rfl))) (mvT hZ (hw _ (List.mem_of_getElem? (i := 34) rfl))) (by decide) (backOf (W := 1) (own_rlenS l Z a0 hw [] a1 cz xs h0 n0 Z0 O SC hz St h4) hZ (hw _ (List.mem_of_getElem? (i := 36) rfl)) (hw _ (List.mem_of_getElem? (i := 4) rfl)) (by decide) (by decide)) qa5 qc5 (g := (mkF m 6 #[rv a1, iv (0 : Int32), iv ((Int32.ofNat i) + (1 : Int32)), iv (xs.getD i 0)] [(.ref a1), (.int ((Int32.ofNat i) + (1 : Int32)))])) rfl (by rw [hml]; rfl) (Steps.refl _) (argsL := []) (rest := [(.int ((Int32.ofNat i) + (1 : Int32)))]) (lenOf own_pd___I rfl) rfl (by show 2 * 0 + _ ≤ _; exact Nat.le_of_eq rfl) (hb hby own_d5_6) (fun _ _ => ⟨rfl, e3, (by decide : 0 + 0 ≤ _), (by decide : 0 + 0 ≤ _)⟩)
            dsimp only [Pt.U, Pt.locs, Pt.cells, Pt.slots] at X5 l5 y5 z5 st5 hQ5
            subst l5 y5 z5
            obtain ⟨rfl, Nq5, e5⟩ := hQ5
            have N5 := Fr.app N3 Nq5
            refine own_go (fun zt zk => st5.trans zk) ?_
            show own_Go p e below s _ _ _ (T5.setTop (mkF m 9 #[rv a1, iv (0 : Int32), iv ((Int32.ofNat i) + (1 : Int32)), iv (xs.getD i 0)] [(.int (Int32.ofNat xs.length)), (.int ((Int32.ofNat i) + (1 : Int32)))]))
            by_cases hq : ((Int32.ofNat i) + (1 : Int32)) < (Int32.ofNat xs.length)
            · refine own_go (fun zt zk => (XS.icmpNo X5.here hx rfl (hb hby own_d5_9) rfl (tlt (hq : ((Int32.ofNat i) + (1 : Int32)) < (Int32.ofNat xs.length))).2.1 (XS.iloadN X5.here hx rfl (hb hby own_d5_12) rfl (XS.ifYes X5.here hx rfl (pc0 := 13) (pc' := 59) rfl (hb hby own_d5_13) rfl ((if0 _ _).trans (teq (rfl : (0 : Int32) = (0 : Int32))).1) (by decide) (by decide) (XS.iloadN X5.here hx rfl (hb hby own_d5_59) rfl zk))))) ?_
              show own_Go p e below s _ _ _ (T5.setTop (mkF m 60 #[rv a1, iv (0 : Int32), iv ((Int32.ofNat i) + (1 : Int32)), iv (xs.getD i 0)] [(.int (0 : Int32))]))
              exact own_fin X5 Bd.notSynchronized (fun h => by rw [Bd.returns] at h; cases h) (fun fs hr => retN X5 hx (t := .boolean) Bd.returns (by simp) (hb hby own_d5_60) hr) (by rw [e5]; exact ⟨by rw [own_all0 ⟨i, hlt, own_p3 h3⟩]; rfl, N5, rfl⟩) (by decide) (by decide)
            · refine own_go (fun zt zk => (XS.icmpYes X5.here hx rfl (pc0 := 9) (pc' := 59) rfl (hb hby own_d5_9) rfl (flt (hq : ¬ (((Int32.ofNat i) + (1 : Int32)) < (Int32.ofNat xs.length)))).2.1 (by decide) (by decide) (XS.iloadN X5.here hx rfl (hb hby own_d5_59) rfl zk))) ?_
              show own_Go p e below s _ _ _ (T5.setTop (mkF m 60 #[rv a1, iv (0 : Int32), iv ((Int32.ofNat i) + (1 : Int32)), iv (xs.getD i 0)] [(.int (0 : Int32))]))
              exact own_fin X5 Bd.notSynchronized (fun h => by rw [Bd.returns] at h; cases h) (fun fs hr => retN X5 hx (t := .boolean) Bd.returns (by simp) (hb hby own_d5_60) hr) (by rw [e5]; exact ⟨by rw [own_all0 ⟨i, hlt, own_p3 h3⟩]; rfl, N5, rfl⟩) (by decide) (by decide)
          · refine own_go (fun zt zk => (XS.icmpNo X3.here hx rfl (hb hby own_d5_37) rfl (feq (h3 : ¬ ((xs.getD i 0) = (127 : Int32)))).1 (XS.iloadN X3.here hx rfl (hb hby own_d5_40) rfl (XS.sipush X3.here hx rfl (hb hby own_d5_41) zk)))) ?_
            show own_Go p e below s _ _ _ (T3.setTop (mkF m 44 #[rv a1, iv (1 : Int32), iv (Int32.ofNat i), iv (xs.getD i 0)] [(.int (255 : Int32)), (.int (xs.getD i 0))]))
            by_cases h4' : (255 : Int32) < (xs.getD i 0)
            · refine own_go (fun zt zk => (XS.icmpYes X3.here hx rfl (pc0 := 44) (pc' := 51) rfl (hb hby own_d5_44) rfl (tlt (h4' : (255 : Int32) < (xs.getD i 0))).2.2.1 (by decide) (by decide) (XS.iconst X3.here hx rfl (hb hby own_d5_51) (XS.istoreN X3.here hx rfl (hb hby own_d5_52) rfl (l' := #[rv a1, iv (0 : Int32), iv (Int32.ofNat i), iv (xs.getD i 0)]) rfl (XS.iinc X3.here hx rfl (hb hby own_d5_53) rfl (l' := #[rv a1, iv (0 : Int32), iv ((Int32.ofNat i) + (1 : Int32)), iv (xs.getD i 0)]) rfl (XS.goto X3.here hx rfl (pc0 := 56) (pc' := 4) rfl (hb hby own_d5_56) (by decide) (by decide) (XS.iloadN X3.here hx rfl (hb hby own_d5_4) rfl (XS.aloadN X3.here hx rfl (hb hby own_d5_5) rfl rfl zk)))))))) ?_
              show own_Go p e below s _ _ _ (T3.setTop (mkF m 6 #[rv a1, iv (0 : Int32), iv ((Int32.ofNat i) + (1 : Int32)), iv (xs.getD i 0)] [(.ref a1), (.int ((Int32.ofNat i) + (1 : Int32)))]))
              obtain ⟨cq6, kq6, qa6, qb6, qc6⟩ := isOf hZ e3 Ex
              obtain ⟨_, _, ⟨T6, L6, k6, n6⟩, -, X6, ⟨Lc6, hQ6, l6, y6, z6⟩, st6⟩ := X3.virtualBack hx (y := (⟨"java/lang/String", "length", "()I"⟩ : MethodName)) (z := (⟨"java/lang/String", "length", "()I"⟩ : MethodName)) hown (mvT hZ (hw _ (List.mem_of_getElem? (i := 32) rfl))) (mvT hZ (hw _ (List.mem_of_getElem? (i := 33) rfl))) (notFace_of_selects (args := #[]) (mvT hZ (hw _ (List.mem_of_getElem? (i := 35) rfl)))) (mvT hZ (hw _ (List.mem_of_getElem? (i := 35) rfl))) (mvT hZ (hw _ (List.mem_of_getElem? (i := 34) rfl))) (by decide) (backOf (W := 1) (own_rlenS l Z a0 hw [] a1 cz xs h0 n0 Z0 O SC hz St h4) hZ (hw _ (List.mem_of_getElem? (i := 36) rfl)) (hw _ (List.mem_of_getElem? (i := 4) rfl)) (by decide) (by decide)) qa6 qc6 (g := (mkF m 6 #[rv a1, iv (0 : Int32), iv ((Int32.ofNat i) + (1 : Int32)), iv (xs.getD i 0)] [(.ref a1), (.int ((Int32.ofNat i) + (1 : Int32)))])) rfl (by rw [hml]; rfl) (Steps.refl _) (argsL := []) (rest := [(.int ((Int32.ofNat i) + (1 : Int32)))]) (lenOf own_pd___I rfl) rfl (by show 2 * 0 + _ ≤ _; exact Nat.le_of_eq rfl) (hb hby own_d5_6) (fun _ _ => ⟨rfl, e3, (by decide : 0 + 0 ≤ _), (by decide : 0 + 0 ≤ _)⟩)
              dsimp only [Pt.U, Pt.locs, Pt.cells, Pt.slots] at X6 l6 y6 z6 st6 hQ6
              subst l6 y6 z6
              obtain ⟨rfl, Nq6, e6⟩ := hQ6
              have N6 := Fr.app N3 Nq6
              refine own_go (fun zt zk => st6.trans zk) ?_
              show own_Go p e below s _ _ _ (T6.setTop (mkF m 9 #[rv a1, iv (0 : Int32), iv ((Int32.ofNat i) + (1 : Int32)), iv (xs.getD i 0)] [(.int (Int32.ofNat xs.length)), (.int ((Int32.ofNat i) + (1 : Int32)))]))
              by_cases hq : ((Int32.ofNat i) + (1 : Int32)) < (Int32.ofNat xs.length)
              · refine own_go (fun zt zk => (XS.icmpNo X6.here hx rfl (hb hby own_d5_9) rfl (tlt (hq : ((Int32.ofNat i) + (1 : Int32)) < (Int32.ofNat xs.length))).2.1 (XS.iloadN X6.here hx rfl (hb hby own_d5_12) rfl (XS.ifYes X6.here hx rfl (pc0 := 13) (pc' := 59) rfl (hb hby own_d5_13) rfl ((if0 _ _).trans (teq (rfl : (0 : Int32) = (0 : Int32))).1) (by decide) (by decide) (XS.iloadN X6.here hx rfl (hb hby own_d5_59) rfl zk))))) ?_
                show own_Go p e below s _ _ _ (T6.setTop (mkF m 60 #[rv a1, iv (0 : Int32), iv ((Int32.ofNat i) + (1 : Int32)), iv (xs.getD i 0)] [(.int (0 : Int32))]))
                exact own_fin X6 Bd.notSynchronized (fun h => by rw [Bd.returns] at h; cases h) (fun fs hr => retN X6 hx (t := .boolean) Bd.returns (by simp) (hb hby own_d5_60) hr) (by rw [e6]; exact ⟨by rw [own_all0 ⟨i, hlt, own_p4 h4'⟩]; rfl, N6, rfl⟩) (by decide) (by decide)
              · refine own_go (fun zt zk => (XS.icmpYes X6.here hx rfl (pc0 := 9) (pc' := 59) rfl (hb hby own_d5_9) rfl (flt (hq : ¬ (((Int32.ofNat i) + (1 : Int32)) < (Int32.ofNat xs.length)))).2.1 (by decide) (by decide) (XS.iloadN X6.here hx rfl (hb hby own_d5_59) rfl zk))) ?_
                show own_Go p e below s _ _ _ (T6.setTop (mkF m 60 #[rv a1, iv (0 : Int32), iv ((Int32.ofNat i) + (1 : Int32)), iv (xs.getD i 0)] [(.int (0 : Int32))]))
                exact own_fin X6 Bd.notSynchronized (fun h => by rw [Bd.returns] at h; cases h) (fun fs hr => retN X6 hx (t := .boolean) Bd.returns (by simp) (hb hby own_d5_60) hr) (by rw [e6]; exact ⟨by rw [own_all0 ⟨i, hlt, own_p4 h4'⟩]; rfl, N6, rfl⟩) (by decide) (by decide)
            · refine own_go (fun zt zk => (XS.icmpNo X3.here hx rfl (hb hby own_d5_44) rfl (flt (h4' : ¬ ((255 : Int32) < (xs.getD i 0)))).2.2.1 (XS.iconst X3.here hx rfl (hb hby own_d5_47) (XS.goto X3.here hx rfl (pc0 := 48) (pc' := 52) rfl (hb hby own_d5_48) (by decide) (by decide) (XS.istoreN X3.here hx rfl (hb hby own_d5_52) rfl (l' := #[rv a1, iv (1 : Int32), iv (Int32.ofNat i), iv (xs.getD i 0)]) rfl (XS.iinc X3.here hx rfl (hb hby own_d5_53) rfl (l' := #[rv a1, iv (1 : Int32), iv ((Int32.ofNat i) + (1 : Int32)), iv (xs.getD i 0)]) rfl (XS.goto X3.here hx rfl (pc0 := 56) (pc' := 4) rfl (hb hby own_d5_56) (by decide) (by decide) zk))))))) ?_
              show own_Go p e below s _ _ _ (T3.setTop (mkF m 4 #[rv a1, iv (1 : Int32), iv ((Int32.ofNat i) + (1 : Int32)), iv (xs.getD i 0)] []))
              rw [own_inc i (by omega)]
              exact ih (i + 1) _ _ _ (Or.inr ⟨_, rfl⟩) (by omega) (own_pre hr (own_p5 h2 h3 h4')) X3 e3 N3
  exact loop xs.length 0 _ _ _ (Or.inl rfl) (Nat.zero_add _) (fun j hj => absurd hj (Nat.not_lt_zero j)) X0 e0 N0
theorem own_d11_0 : decode method_2_code 0 = .ok (.iload_n 0, 1) := by decide +kernel
theorem own_d11_1 : decode method_2_code 1 = .ok (.bipush 9, 2) := by decide +kernel
theorem own_d11_3 : decode method_2_code 3 = .ok (.if_icmp .ne 5, 3) := by decide +kernel
theorem own_d11_6 : decode method_2_code 6 = .ok (.iconst 1, 1) := by decide +kernel
theorem own_d11_7 : decode method_2_code 7 = .ok (.ireturn, 1) := by decide +kernel
theorem own_d11_8 : decode method_2_code 8 = .ok (.iload_n 0, 1) := by decide +kernel
theorem own_d11_9 : decode method_2_code 9 = .ok (.bipush 32, 2) := by decide +kernel
theorem own_d11_11 : decode method_2_code 11 = .ok (.if_icmp .ne 5, 3) := by decide +kernel
theorem own_d11_14 : decode method_2_code 14 = .ok (.iconst 1, 1) := by decide +kernel
theorem own_d11_15 : decode method_2_code 15 = .ok (.ireturn, 1) := by decide +kernel
theorem own_d11_16 : decode method_2_code 16 = .ok (.iload_n 0, 1) := by decide +kernel
theorem own_d11_17 : decode method_2_code 17 = .ok (.bipush 33, 2) := by decide +kernel
theorem own_d11_19 : decode method_2_code 19 = .ok (.if_icmp .lt 11, 3) := by decide +kernel
theorem own_d11_30 : decode method_2_code 30 = .ok (.iload_n 0, 1) := by decide +kernel
theorem own_d11_31 : decode method_2_code 31 = .ok (.sipush 128, 3) := by decide +kernel
theorem own_d11_34 : decode method_2_code 34 = .ok (.if_icmp .lt 12, 3) := by decide +kernel
theorem own_d11_46 : decode method_2_code 46 = .ok (.iconst 0, 1) := by decide +kernel
theorem own_d11_47 : decode method_2_code 47 = .ok (.ireturn, 1) := by decide +kernel
theorem own_d11_37 : decode method_2_code 37 = .ok (.iload_n 0, 1) := by decide +kernel
theorem own_d11_38 : decode method_2_code 38 = .ok (.sipush 255, 3) := by decide +kernel
theorem own_d11_41 : decode method_2_code 41 = .ok (.if_icmp .gt 5, 3) := by decide +kernel
theorem own_d11_44 : decode method_2_code 44 = .ok (.iconst 1, 1) := by decide +kernel
theorem own_d11_45 : decode method_2_code 45 = .ok (.ireturn, 1) := by decide +kernel
theorem own_d11_22 : decode method_2_code 22 = .ok (.iload_n 0, 1) := by decide +kernel
theorem own_d11_23 : decode method_2_code 23 = .ok (.bipush 126, 2) := by decide +kernel
theorem own_d11_25 : decode method_2_code 25 = .ok (.if_icmp .gt 5, 3) := by decide +kernel
theorem own_d11_28 : decode method_2_code 28 = .ok (.iconst 1, 1) := by decide +kernel
theorem own_d11_29 : decode method_2_code 29 = .ok (.ireturn, 1) := by decide +kernel
theorem own_pn_com_example_mortise_mortise_http_HeadersIsValuePinLaw : plainName "com/example/mortise/mortise/http/HeadersIsValuePinLaw" = true := by first | (simp [plainName, overriddenIn]; done) | decide +kernel
theorem own_ef_own_rfc (m : MethodId) (p1 : Int32) : entryFrame m #[(.int p1)] 1 = mkF m 0 #[iv p1] [] := by first | (simp [entryFrame, mkF, argsToLocals, Value.category]; done) | rfl
def own_Q_own_rfc (Z : State) (p1 : Int32) (h0 : Heap) (n0 : Nat) (v : Option Value) (h : Heap) (L : List Loc) : Prop := v = some (.int (own_fc p1)) ∧ Fr n0 L ∧ h = h0
set_option maxRecDepth 65536 in
set_option maxHeartbeats 40000000 in
theorem own_rfc (l : Launch) (Z : State) (a0 : Array Value) (hw : ∀ d ∈ tables_1, d.before a0 Z = true) (ws : List Jvm.Cond) (p1 : Int32) (h0 : Heap) (n0 : Nat) (Z0 : n0 ≤ h0.size)   :
    MetFree l (⟨"com/example/mortise/mortise/http/HeadersIsValuePinLaw", "fieldChar", "(C)Z"⟩ : MethodName) (head1 (Jvm.Cond.code (⟨"com/example/mortise/mortise/http/HeadersIsValuePinLaw", "fieldChar", "(C)Z"⟩ : MethodName) method_2_code 1 (some .boolean) :: ws) ({ frames := 0, cells := 0, slots := 0, locals := 0 } : Room)) (fun a U => a = #[(.int p1)] ∧ Z.Warmed39 U.vm ∧ U.heap = h0) (fun _ _ _ _ _ => True) (fun _ U o U' => ∃ v L, o = .returned v ∧ own_Q_own_rfc Z p1 h0 n0 v U'.heap L ∧ FrameEnd U o U' L ({ frames := 0, cells := 0, slots := 0, locals := 0 } : Room).cells ({ frames := 0, cells := 0, slots := 0, locals := 0 } : Room).slots) := by
  refine MetFree.of_bodySF (plainFor_of_name own_pn_com_example_mortise_mortise_http_HeadersIsValuePinLaw) hisR ?_
  intro p e s m args below meth c s₁ Bd hml0 hP hK
  obtain ⟨rfl, hZ, hh⟩ := hP
  have hx := Bd.exec
  have hby := Bd.bytes
  have hml : c.maxLocals = 1 := hml0
  have hown : s.vm.findClass "com/example/mortise/mortise/http/HeadersIsValuePinLaw" = some m.cls := findClass_of_methodNamed Bd.named
  have hnm := (name_of_methodNamed Bd.named Bd.method).1
  have X0 : Stand p l e ({ frames := 0, cells := 0, slots := 0, locals := 0 } : Room) s m #[(.int p1)] below meth c s₁ [] 0 0 := Stand.of_body Bd
  have e0 : s₁.heap = h0 := by rw [← hh, Bd.state]; rfl
  have N0 := Fr.nil n0
  show own_Go p e below s (own_Q_own_rfc Z p1 h0 n0) ({ frames := 0, cells := 0, slots := 0, locals := 0 } : Room).cells ({ frames := 0, cells := 0, slots := 0, locals := 0 } : Room).slots (s₁.setTop (entryFrame m #[(.int p1)] 1))
  refine own_go (fun zt zk => castTop (own_ef_own_rfc m p1) zk) ?_
  show own_Go p e below s _ _ _ (s₁.setTop (mkF m 0 #[iv p1] []))
  refine own_go (fun zt zk => (XS.iloadN X0.here hx rfl (hb hby own_d11_0) rfl (XS.bipush X0.here hx rfl (hb hby own_d11_1) zk))) ?_
  show own_Go p e below s _ _ _ (s₁.setTop (mkF m 3 #[iv p1] [(.int (9 : Int32)), (.int p1)]))
  by_cases q3 : p1 = (9 : Int32)
  · refine own_go (fun zt zk => (XS.icmpNo X0.here hx rfl (hb hby own_d11_3) rfl (teq (q3 : p1 = (9 : Int32))).2 (XS.iconst X0.here hx rfl (hb hby own_d11_6) zk))) ?_
    show own_Go p e below s _ _ _ (s₁.setTop (mkF m 7 #[iv p1] [(.int (1 : Int32))]))
    exact own_fin X0 Bd.notSynchronized (fun h => by rw [Bd.returns] at h; cases h) (fun fs hr => retN X0 hx (t := .boolean) Bd.returns (by simp) (hb hby own_d11_7) hr) (by rw [e0]; exact ⟨by rw [own_fcv1 (by simp only [Int32.lt_iff_toInt_lt, ← Int32.toInt_inj, own_c9, own_c32, own_c33, own_c126, own_c128, own_c255] at q3; omega)]; rfl, N0, rfl⟩) (by decide) (by decide)
  · refine own_go (fun zt zk => (XS.icmpYes X0.here hx rfl (pc0 := 3) (pc' := 8) rfl (hb hby own_d11_3) rfl (feq (q3 : ¬ (p1 = (9 : Int32)))).2 (by decide) (by decide) (XS.iloadN X0.here hx rfl (hb hby own_d11_8) rfl (XS.bipush X0.here hx rfl (hb hby own_d11_9) zk)))) ?_
    show own_Go p e below s _ _ _ (s₁.setTop (mkF m 11 #[iv p1] [(.int (32 : Int32)), (.int p1)]))
    by_cases q11 : p1 = (32 : Int32)
    · refine own_go (fun zt zk => (XS.icmpNo X0.here hx rfl (hb hby own_d11_11) rfl (teq (q11 : p1 = (32 : Int32))).2 (XS.iconst X0.here hx rfl (hb hby own_d11_14) zk))) ?_
      show own_Go p e below s _ _ _ (s₁.setTop (mkF m 15 #[iv p1] [(.int (1 : Int32))]))
      exact own_fin X0 Bd.notSynchronized (fun h => by rw [Bd.returns] at h; cases h) (fun fs hr => retN X0 hx (t := .boolean) Bd.returns (by simp) (hb hby own_d11_15) hr) (by rw [e0]; exact ⟨by rw [own_fcv1 (by simp only [Int32.lt_iff_toInt_lt, ← Int32.toInt_inj, own_c9, own_c32, own_c33, own_c126, own_c128, own_c255] at q3 q11; omega)]; rfl, N0, rfl⟩) (by decide) (by decide)
    · refine own_go (fun zt zk => (XS.icmpYes X0.here hx rfl (pc0 := 11) (pc' := 16) rfl (hb hby own_d11_11) rfl (feq (q11 : ¬ (p1 = (32 : Int32)))).2 (by decide) (by decide) (XS.iloadN X0.here hx rfl (hb hby own_d11_16) rfl (XS.bipush X0.here hx rfl (hb hby own_d11_17) zk)))) ?_
      show own_Go p e below s _ _ _ (s₁.setTop (mkF m 19 #[iv p1] [(.int (33 : Int32)), (.int p1)]))
      by_cases q19 : p1 < (33 : Int32)
      · refine own_go (fun zt zk => (XS.icmpYes X0.here hx rfl (pc0 := 19) (pc' := 30) rfl (hb hby own_d11_19) rfl (tlt (q19 : p1 < (33 : Int32))).1 (by decide) (by decide) (XS.iloadN X0.here hx rfl (hb hby own_d11_30) rfl (XS.sipush X0.here hx rfl (hb hby own_d11_31) zk)))) ?_
        show own_Go p e below s _ _ _ (s₁.setTop (mkF m 34 #[iv p1] [(.int (128 : Int32)), (.int p1)]))
        by_cases q34 : p1 < (128 : Int32)
        · refine own_go (fun zt zk => (XS.icmpYes X0.here hx rfl (pc0 := 34) (pc' := 46) rfl (hb hby own_d11_34) rfl (tlt (q34 : p1 < (128 : Int32))).1 (by decide) (by decide) (XS.iconst X0.here hx rfl (hb hby own_d11_46) zk))) ?_
          show own_Go p e below s _ _ _ (s₁.setTop (mkF m 47 #[iv p1] [(.int (0 : Int32))]))
          exact own_fin X0 Bd.notSynchronized (fun h => by rw [Bd.returns] at h; cases h) (fun fs hr => retN X0 hx (t := .boolean) Bd.returns (by simp) (hb hby own_d11_47) hr) (by rw [e0]; exact ⟨by rw [own_fcv0 (by simp only [Int32.lt_iff_toInt_lt, ← Int32.toInt_inj, own_c9, own_c32, own_c33, own_c126, own_c128, own_c255] at q3 q11 q19 q34; omega)]; rfl, N0, rfl⟩) (by decide) (by decide)
        · refine own_go (fun zt zk => (XS.icmpNo X0.here hx rfl (hb hby own_d11_34) rfl (flt (q34 : ¬ (p1 < (128 : Int32)))).1 (XS.iloadN X0.here hx rfl (hb hby own_d11_37) rfl (XS.sipush X0.here hx rfl (hb hby own_d11_38) zk)))) ?_
          show own_Go p e below s _ _ _ (s₁.setTop (mkF m 41 #[iv p1] [(.int (255 : Int32)), (.int p1)]))
          by_cases q41 : (255 : Int32) < p1
          · refine own_go (fun zt zk => (XS.icmpYes X0.here hx rfl (pc0 := 41) (pc' := 46) rfl (hb hby own_d11_41) rfl (tlt (q41 : (255 : Int32) < p1)).2.2.1 (by decide) (by decide) (XS.iconst X0.here hx rfl (hb hby own_d11_46) zk))) ?_
            show own_Go p e below s _ _ _ (s₁.setTop (mkF m 47 #[iv p1] [(.int (0 : Int32))]))
            exact own_fin X0 Bd.notSynchronized (fun h => by rw [Bd.returns] at h; cases h) (fun fs hr => retN X0 hx (t := .boolean) Bd.returns (by simp) (hb hby own_d11_47) hr) (by rw [e0]; exact ⟨by rw [own_fcv0 (by simp only [Int32.lt_iff_toInt_lt, ← Int32.toInt_inj, own_c9, own_c32, own_c33, own_c126, own_c128, own_c255] at q3 q11 q19 q34 q41; omega)]; rfl, N0, rfl⟩) (by decide) (by decide)
          · refine own_go (fun zt zk => (XS.icmpNo X0.here hx rfl (hb hby own_d11_41) rfl (flt (q41 : ¬ ((255 : Int32) < p1))).2.2.1 (XS.iconst X0.here hx rfl (hb hby own_d11_44) zk))) ?_
            show own_Go p e below s _ _ _ (s₁.setTop (mkF m 45 #[iv p1] [(.int (1 : Int32))]))
            exact own_fin X0 Bd.notSynchronized (fun h => by rw [Bd.returns] at h; cases h) (fun fs hr => retN X0 hx (t := .boolean) Bd.returns (by simp) (hb hby own_d11_45) hr) (by rw [e0]; exact ⟨by rw [own_fcv1 (by simp only [Int32.lt_iff_toInt_lt, ← Int32.toInt_inj, own_c9, own_c32, own_c33, own_c126, own_c128, own_c255] at q3 q11 q19 q34 q41; omega)]; rfl, N0, rfl⟩) (by decide) (by decide)
      · refine own_go (fun zt zk => (XS.icmpNo X0.here hx rfl (hb hby own_d11_19) rfl (flt (q19 : ¬ (p1 < (33 : Int32)))).1 (XS.iloadN X0.here hx rfl (hb hby own_d11_22) rfl (XS.bipush X0.here hx rfl (hb hby own_d11_23) zk)))) ?_
        show own_Go p e below s _ _ _ (s₁.setTop (mkF m 25 #[iv p1] [(.int (126 : Int32)), (.int p1)]))
        by_cases q25 : (126 : Int32) < p1
        · refine own_go (fun zt zk => (XS.icmpYes X0.here hx rfl (pc0 := 25) (pc' := 30) rfl (hb hby own_d11_25) rfl (tlt (q25 : (126 : Int32) < p1)).2.2.1 (by decide) (by decide) (XS.iloadN X0.here hx rfl (hb hby own_d11_30) rfl (XS.sipush X0.here hx rfl (hb hby own_d11_31) zk)))) ?_
          show own_Go p e below s _ _ _ (s₁.setTop (mkF m 34 #[iv p1] [(.int (128 : Int32)), (.int p1)]))
          by_cases q34 : p1 < (128 : Int32)
          · refine own_go (fun zt zk => (XS.icmpYes X0.here hx rfl (pc0 := 34) (pc' := 46) rfl (hb hby own_d11_34) rfl (tlt (q34 : p1 < (128 : Int32))).1 (by decide) (by decide) (XS.iconst X0.here hx rfl (hb hby own_d11_46) zk))) ?_
            show own_Go p e below s _ _ _ (s₁.setTop (mkF m 47 #[iv p1] [(.int (0 : Int32))]))
            exact own_fin X0 Bd.notSynchronized (fun h => by rw [Bd.returns] at h; cases h) (fun fs hr => retN X0 hx (t := .boolean) Bd.returns (by simp) (hb hby own_d11_47) hr) (by rw [e0]; exact ⟨by rw [own_fcv0 (by simp only [Int32.lt_iff_toInt_lt, ← Int32.toInt_inj, own_c9, own_c32, own_c33, own_c126, own_c128, own_c255] at q3 q11 q19 q25 q34; omega)]; rfl, N0, rfl⟩) (by decide) (by decide)
          · refine own_go (fun zt zk => (XS.icmpNo X0.here hx rfl (hb hby own_d11_34) rfl (flt (q34 : ¬ (p1 < (128 : Int32)))).1 (XS.iloadN X0.here hx rfl (hb hby own_d11_37) rfl (XS.sipush X0.here hx rfl (hb hby own_d11_38) zk)))) ?_
            show own_Go p e below s _ _ _ (s₁.setTop (mkF m 41 #[iv p1] [(.int (255 : Int32)), (.int p1)]))
            by_cases q41 : (255 : Int32) < p1
            · refine own_go (fun zt zk => (XS.icmpYes X0.here hx rfl (pc0 := 41) (pc' := 46) rfl (hb hby own_d11_41) rfl (tlt (q41 : (255 : Int32) < p1)).2.2.1 (by decide) (by decide) (XS.iconst X0.here hx rfl (hb hby own_d11_46) zk))) ?_
              show own_Go p e below s _ _ _ (s₁.setTop (mkF m 47 #[iv p1] [(.int (0 : Int32))]))
              exact own_fin X0 Bd.notSynchronized (fun h => by rw [Bd.returns] at h; cases h) (fun fs hr => retN X0 hx (t := .boolean) Bd.returns (by simp) (hb hby own_d11_47) hr) (by rw [e0]; exact ⟨by rw [own_fcv0 (by simp only [Int32.lt_iff_toInt_lt, ← Int32.toInt_inj, own_c9, own_c32, own_c33, own_c126, own_c128, own_c255] at q3 q11 q19 q25 q34 q41; omega)]; rfl, N0, rfl⟩) (by decide) (by decide)
            · refine own_go (fun zt zk => (XS.icmpNo X0.here hx rfl (hb hby own_d11_41) rfl (flt (q41 : ¬ ((255 : Int32) < p1))).2.2.1 (XS.iconst X0.here hx rfl (hb hby own_d11_44) zk))) ?_
              show own_Go p e below s _ _ _ (s₁.setTop (mkF m 45 #[iv p1] [(.int (1 : Int32))]))
              exact own_fin X0 Bd.notSynchronized (fun h => by rw [Bd.returns] at h; cases h) (fun fs hr => retN X0 hx (t := .boolean) Bd.returns (by simp) (hb hby own_d11_45) hr) (by rw [e0]; exact ⟨by rw [own_fcv1 (by simp only [Int32.lt_iff_toInt_lt, ← Int32.toInt_inj, own_c9, own_c32, own_c33, own_c126, own_c128, own_c255] at q3 q11 q19 q25 q34 q41; omega)]; rfl, N0, rfl⟩) (by decide) (by decide)
        · refine own_go (fun zt zk => (XS.icmpNo X0.here hx rfl (hb hby own_d11_25) rfl (flt (q25 : ¬ ((126 : Int32) < p1))).2.2.1 (XS.iconst X0.here hx rfl (hb hby own_d11_28) zk))) ?_
          show own_Go p e below s _ _ _ (s₁.setTop (mkF m 29 #[iv p1] [(.int (1 : Int32))]))
          exact own_fin X0 Bd.notSynchronized (fun h => by rw [Bd.returns] at h; cases h) (fun fs hr => retN X0 hx (t := .boolean) Bd.returns (by simp) (hb hby own_d11_29) hr) (by rw [e0]; exact ⟨by rw [own_fcv1 (by simp only [Int32.lt_iff_toInt_lt, ← Int32.toInt_inj, own_c9, own_c32, own_c33, own_c126, own_c128, own_c255] at q3 q11 q19 q25; omega)]; rfl, N0, rfl⟩) (by decide) (by decide)
theorem own_d1_0 : decode method_3_code 0 = .ok (.iload_n 0, 1) := by decide +kernel
theorem own_d1_1 : decode method_3_code 1 = .ok (.ifCond .ne 7, 3) := by decide +kernel
theorem own_d1_4 : decode method_3_code 4 = .ok (.iconst 0, 1) := by decide +kernel
theorem own_d1_5 : decode method_3_code 5 = .ok (.newarray .char, 2) := by decide +kernel
theorem own_d1_7 : decode method_3_code 7 = .ok (.areturn, 1) := by decide +kernel
theorem own_ef_own_rchars0 (m : MethodId) (ca : Int32) (cb : Int32) (cc : Int32) (cd : Int32) : entryFrame m #[(.int (0 : Int32)), (.int ca), (.int cb), (.int cc), (.int cd)] 5 = mkF m 0 #[iv (0 : Int32), iv ca, iv cb, iv cc, iv cd] [] := by first | (simp [entryFrame, mkF, argsToLocals, Value.category]; done) | rfl
def own_Q_own_rchars0 (Z : State) (ca : Int32) (cb : Int32) (cc : Int32) (cd : Int32) (h0 : Heap) (n0 : Nat) (v : Option Value) (h : Heap) (L : List Loc) : Prop := ∃ b k, v = some (.ref b) ∧ Fr n0 L ∧ Keep h0 h [] ∧ h0.size ≤ b ∧ Arv Z h b k .char (0 : Int32) [] (.int (0 : Int32))
set_option maxRecDepth 65536 in
set_option maxHeartbeats 40000000 in
theorem own_rchars0 (l : Launch) (Z : State) (a0 : Array Value) (hw : ∀ d ∈ tables_1, d.before a0 Z = true) (ws : List Jvm.Cond) (ca : Int32) (cb : Int32) (cc : Int32) (cd : Int32) (h0 : Heap) (n0 : Nat) (Z0 : n0 ≤ h0.size)  (hr_ca : ¬ (ca < (0 : Int32)) ∧ ¬ ((65535 : Int32) < ca)) (hr_cb : ¬ (cb < (0 : Int32)) ∧ ¬ ((65535 : Int32) < cb)) (hr_cc : ¬ (cc < (0 : Int32)) ∧ ¬ ((65535 : Int32) < cc)) (hr_cd : ¬ (cd < (0 : Int32)) ∧ ¬ ((65535 : Int32) < cd)) :
    MetFree l (⟨"com/example/mortise/mortise/http/HeadersIsValuePinLaw", "chars", "(ICCCC)[C"⟩ : MethodName) (head1 (Jvm.Cond.code (⟨"com/example/mortise/mortise/http/HeadersIsValuePinLaw", "chars", "(ICCCC)[C"⟩ : MethodName) method_3_code 5 (some (.array .char)) :: ws) ({ frames := 0, cells := 1, slots := 0, locals := 0 } : Room)) (fun a U => a = #[(.int (0 : Int32)), (.int ca), (.int cb), (.int cc), (.int cd)] ∧ Z.Warmed39 U.vm ∧ U.heap = h0) (fun _ _ _ _ _ => True) (fun _ U o U' => ∃ v L, o = .returned v ∧ own_Q_own_rchars0 Z ca cb cc cd h0 n0 v U'.heap L ∧ FrameEnd U o U' L ({ frames := 0, cells := 1, slots := 0, locals := 0 } : Room).cells ({ frames := 0, cells := 1, slots := 0, locals := 0 } : Room).slots) := by
  refine MetFree.of_bodySF (plainFor_of_name own_pn_com_example_mortise_mortise_http_HeadersIsValuePinLaw) hisR ?_
  intro p e s m args below meth c s₁ Bd hml0 hP hK
  obtain ⟨rfl, hZ, hh⟩ := hP
  have hx := Bd.exec
  have hby := Bd.bytes
  have hml : c.maxLocals = 5 := hml0
  have hown : s.vm.findClass "com/example/mortise/mortise/http/HeadersIsValuePinLaw" = some m.cls := findClass_of_methodNamed Bd.named
  have hnm := (name_of_methodNamed Bd.named Bd.method).1
  have X0 : Stand p l e ({ frames := 0, cells := 1, slots := 0, locals := 0 } : Room) s m #[(.int (0 : Int32)), (.int ca), (.int cb), (.int cc), (.int cd)] below meth c s₁ [] 0 0 := Stand.of_body Bd
  have e0 : s₁.heap = h0 := by rw [← hh, Bd.state]; rfl
  have N0 := Fr.nil n0
  have Kp : Keep h0 h0 [] := Keep.refl h0 _
  show own_Go p e below s (own_Q_own_rchars0 Z ca cb cc cd h0 n0) ({ frames := 0, cells := 1, slots := 0, locals := 0 } : Room).cells ({ frames := 0, cells := 1, slots := 0, locals := 0 } : Room).slots (s₁.setTop (entryFrame m #[(.int (0 : Int32)), (.int ca), (.int cb), (.int cc), (.int cd)] 5))
  refine own_go (fun zt zk => castTop (own_ef_own_rchars0 m ca cb cc cd) zk) ?_
  show own_Go p e below s _ _ _ (s₁.setTop (mkF m 0 #[iv (0 : Int32), iv ca, iv cb, iv cc, iv cd] []))
  refine own_go (fun zt zk => (XS.iloadN X0.here hx rfl (hb hby own_d1_0) rfl (XS.ifNo X0.here hx rfl (hb hby own_d1_1) rfl ((if0 _ _).trans (teq (rfl : (0 : Int32) = (0 : Int32))).2) (XS.iconst X0.here hx rfl (hb hby own_d1_4) zk)))) ?_
  show own_Go p e below s _ _ _ (s₁.setTop (mkF m 5 #[iv (0 : Int32), iv ca, iv cb, iv cc, iv cd] [(.int (0 : Int32))]))
  obtain ⟨T1, h1, k1, X1, e1, E1, A1, Ea1, st1⟩ := newPE X0 hx hZ (hw _ (List.mem_of_getElem? (i := 9) rfl)) e0 (g := (mkF m 5 #[iv (0 : Int32), iv ca, iv cb, iv cc, iv cd] [(.int (0 : Int32))])) rfl (hb hby own_d1_5) rfl (by decide) (cap := 0) (by decide) (by decide) (by decide) (by decide) (ad := "[C") (by decide)
  obtain ⟨b1, g1⟩ : ∃ z, z = h0.size := ⟨_, rfl⟩
  rw [← g1] at A1 Ea1 st1
  refine own_go st1 ?_
  have sz_b1 : h0.size ≤ b1 := Nat.le_trans Kp.1 (Nat.le_of_eq g1.symm)
  have g_b1 : n0 ≤ b1 := Nat.le_trans Z0 sz_b1
  replace Kp := Kp.ext E1
  have V_b1 : Arv Z h1 b1 k1 .char (0 : Int32) [] (.int (0 : Int32)) := (Arv.new A1 (by decide)).pad (pad_rep [] (.int (0 : Int32)) 0)
  have Ea_b1 := Ea1
  show own_Go p e below s _ _ _ (T1.setTop (mkF m 7 #[iv (0 : Int32), iv ca, iv cb, iv cc, iv cd] [(.ref b1)]))
  exact own_fin X1 Bd.notSynchronized (fun h => by rw [Bd.returns] at h; cases h) (fun fs hr => retOut X1 hx (t := (.array .char)) (w := (.ref b1)) Bd.returns rfl (Or.inr (Or.inr (Or.inr (Or.inr ⟨rfl, rfl, rfl⟩)))) (hb hby own_d1_7) hr) (by rw [e1]; exact ⟨b1, _, rfl, N0, Kp, sz_b1, V_b1⟩) (by decide) (by decide)
theorem own_d1_8 : decode method_3_code 8 = .ok (.iload_n 0, 1) := by decide +kernel
theorem own_d1_9 : decode method_3_code 9 = .ok (.iconst 1, 1) := by decide +kernel
theorem own_d1_10 : decode method_3_code 10 = .ok (.if_icmp .ne 11, 3) := by decide +kernel
theorem own_d1_13 : decode method_3_code 13 = .ok (.iconst 1, 1) := by decide +kernel
theorem own_d1_14 : decode method_3_code 14 = .ok (.newarray .char, 2) := by decide +kernel
theorem own_d1_16 : decode method_3_code 16 = .ok (.dup, 1) := by decide +kernel
theorem own_d1_17 : decode method_3_code 17 = .ok (.iconst 0, 1) := by decide +kernel
theorem own_d1_18 : decode method_3_code 18 = .ok (.iload_n 1, 1) := by decide +kernel
theorem own_d1_19 : decode method_3_code 19 = .ok (.castore, 1) := by decide +kernel
theorem own_d1_20 : decode method_3_code 20 = .ok (.areturn, 1) := by decide +kernel
theorem own_ef_own_rchars1 (m : MethodId) (ca : Int32) (cb : Int32) (cc : Int32) (cd : Int32) : entryFrame m #[(.int (1 : Int32)), (.int ca), (.int cb), (.int cc), (.int cd)] 5 = mkF m 0 #[iv (1 : Int32), iv ca, iv cb, iv cc, iv cd] [] := by first | (simp [entryFrame, mkF, argsToLocals, Value.category]; done) | rfl
def own_Q_own_rchars1 (Z : State) (ca : Int32) (cb : Int32) (cc : Int32) (cd : Int32) (h0 : Heap) (n0 : Nat) (v : Option Value) (h : Heap) (L : List Loc) : Prop := ∃ b k, v = some (.ref b) ∧ Fr n0 L ∧ Keep h0 h [] ∧ h0.size ≤ b ∧ Arv Z h b k .char (1 : Int32) [(.int ca)] (.int (0 : Int32))
set_option maxRecDepth 65536 in
set_option maxHeartbeats 40000000 in
theorem own_rchars1 (l : Launch) (Z : State) (a0 : Array Value) (hw : ∀ d ∈ tables_1, d.before a0 Z = true) (ws : List Jvm.Cond) (ca : Int32) (cb : Int32) (cc : Int32) (cd : Int32) (h0 : Heap) (n0 : Nat) (Z0 : n0 ≤ h0.size)  (hr_ca : ¬ (ca < (0 : Int32)) ∧ ¬ ((65535 : Int32) < ca)) (hr_cb : ¬ (cb < (0 : Int32)) ∧ ¬ ((65535 : Int32) < cb)) (hr_cc : ¬ (cc < (0 : Int32)) ∧ ¬ ((65535 : Int32) < cc)) (hr_cd : ¬ (cd < (0 : Int32)) ∧ ¬ ((65535 : Int32) < cd)) :
    MetFree l (⟨"com/example/mortise/mortise/http/HeadersIsValuePinLaw", "chars", "(ICCCC)[C"⟩ : MethodName) (head1 (Jvm.Cond.code (⟨"com/example/mortise/mortise/http/HeadersIsValuePinLaw", "chars", "(ICCCC)[C"⟩ : MethodName) method_3_code 5 (some (.array .char)) :: ws) ({ frames := 0, cells := 1, slots := 1, locals := 0 } : Room)) (fun a U => a = #[(.int (1 : Int32)), (.int ca), (.int cb), (.int cc), (.int cd)] ∧ Z.Warmed39 U.vm ∧ U.heap = h0) (fun _ _ _ _ _ => True) (fun _ U o U' => ∃ v L, o = .returned v ∧ own_Q_own_rchars1 Z ca cb cc cd h0 n0 v U'.heap L ∧ FrameEnd U o U' L ({ frames := 0, cells := 1, slots := 1, locals := 0 } : Room).cells ({ frames := 0, cells := 1, slots := 1, locals := 0 } : Room).slots) := by
  refine MetFree.of_bodySF (plainFor_of_name own_pn_com_example_mortise_mortise_http_HeadersIsValuePinLaw) hisR ?_
  intro p e s m args below meth c s₁ Bd hml0 hP hK
  obtain ⟨rfl, hZ, hh⟩ := hP
  have hx := Bd.exec
  have hby := Bd.bytes
  have hml : c.maxLocals = 5 := hml0
  have hown : s.vm.findClass "com/example/mortise/mortise/http/HeadersIsValuePinLaw" = some m.cls := findClass_of_methodNamed Bd.named
  have hnm := (name_of_methodNamed Bd.named Bd.method).1
  have X0 : Stand p l e ({ frames := 0, cells := 1, slots := 1, locals := 0 } : Room) s m #[(.int (1 : Int32)), (.int ca), (.int cb), (.int cc), (.int cd)] below meth c s₁ [] 0 0 := Stand.of_body Bd
  have e0 : s₁.heap = h0 := by rw [← hh, Bd.state]; rfl
  have N0 := Fr.nil n0
  have Kp : Keep h0 h0 [] := Keep.refl h0 _
  show own_Go p e below s (own_Q_own_rchars1 Z ca cb cc cd h0 n0) ({ frames := 0, cells := 1, slots := 1, locals := 0 } : Room).cells ({ frames := 0, cells := 1, slots := 1, locals := 0 } : Room).slots (s₁.setTop (entryFrame m #[(.int (1 : Int32)), (.int ca), (.int cb), (.int cc), (.int cd)] 5))
  refine own_go (fun zt zk => castTop (own_ef_own_rchars1 m ca cb cc cd) zk) ?_
  show own_Go p e below s _ _ _ (s₁.setTop (mkF m 0 #[iv (1 : Int32), iv ca, iv cb, iv cc, iv cd] []))
  refine own_go (fun zt zk => (XS.iloadN X0.here hx rfl (hb hby own_d1_0) rfl (XS.ifYes X0.here hx rfl (pc0 := 1) (pc' := 8) rfl (hb hby own_d1_1) rfl ((if0 _ _).trans (feq ((by decide) : ¬ ((1 : Int32) = (0 : Int32)))).2) (by decide) (by decide) (XS.iloadN X0.here hx rfl (hb hby own_d1_8) rfl (XS.iconst X0.here hx rfl (hb hby own_d1_9) (XS.icmpNo X0.here hx rfl (hb hby own_d1_10) rfl (teq (rfl : (1 : Int32) = (1 : Int32))).2 (XS.iconst X0.here hx rfl (hb hby own_d1_13) zk))))))) ?_
  show own_Go p e below s _ _ _ (s₁.setTop (mkF m 14 #[iv (1 : Int32), iv ca, iv cb, iv cc, iv cd] [(.int (1 : Int32))]))
  obtain ⟨T1, h1, k1, X1, e1, E1, A1, Ea1, st1⟩ := newPE X0 hx hZ (hw _ (List.mem_of_getElem? (i := 9) rfl)) e0 (g := (mkF m 14 #[iv (1 : Int32), iv ca, iv cb, iv cc, iv cd] [(.int (1 : Int32))])) rfl (hb hby own_d1_14) rfl (by decide) (cap := 1) (by decide) (by decide) (by decide) (by decide) (ad := "[C") (by decide)
  obtain ⟨b1, g1⟩ : ∃ z, z = h0.size := ⟨_, rfl⟩
  rw [← g1] at A1 Ea1 st1
  refine own_go st1 ?_
  have sz_b1 : h0.size ≤ b1 := Nat.le_trans Kp.1 (Nat.le_of_eq g1.symm)
  have g_b1 : n0 ≤ b1 := Nat.le_trans Z0 sz_b1
  replace Kp := Kp.ext E1
  have V_b1 : Arv Z h1 b1 k1 .char (1 : Int32) [(.int (0 : Int32))] (.int (0 : Int32)) := (Arv.new A1 (by decide)).pad (pad_rep [] (.int (0 : Int32)) 1)
  have Ea_b1 := Ea1
  show own_Go p e below s _ _ _ (T1.setTop (mkF m 16 #[iv (1 : Int32), iv ca, iv cb, iv cc, iv cd] [(.ref b1)]))
  refine own_go (fun zt zk => (XS.dup X1.here hx rfl (hb hby own_d1_16) rfl rfl (XS.iconst X1.here hx rfl (hb hby own_d1_17) (XS.iloadN X1.here hx rfl (hb hby own_d1_18) rfl zk)))) ?_
  show own_Go p e below s _ _ _ (T1.setTop (mkF m 19 #[iv (1 : Int32), iv ca, iv cb, iv cc, iv cd] [(.int ca), (.int (0 : Int32)), (.ref b1), (.ref b1)]))
  obtain ⟨cl2, Ar2, q2, Sz2, Nz2, Ha2, Ga2⟩ := id V_b1
  have hin2 : ¬ ((0 : Int32) < 0 ∨ cl2.slots.size ≤ ((0 : Int32)).toNatClampNeg) := inb_of Sz2 ⟨by decide, by decide⟩
  obtain ⟨T3, h3, X3, e3, W3, st3⟩ := stC X1 hx hZ e1 Ar2 (j := (0 : Int32)) hin2 (g := (mkF m 19 #[iv (1 : Int32), iv ca, iv cb, iv cc, iv cd] [(.int ca), (.int (0 : Int32)), (.ref b1), (.ref b1)])) rfl rfl (hb hby own_d1_19)
  refine own_go st3 ?_
  rw [show nar .char ca = ca from own_narc16 hr_ca] at W3
  have V3 := Arv.set Ar2 q2 Sz2 Nz2 Ha2 Ga2 (own_fitc16 hr_ca) W3 0 rfl (Nat.le_of_ble_eq_true rfl)
  have N3 := Fr.snoc X3 N0 g_b1
  replace Kp := Kp.wr W3 (Or.inr sz_b1)
  replace Ea_b1 := Ea_b1.wr W3
  replace V_b1 : Arv Z h3 b1 k1 .char (1 : Int32) [(.int ca)] (.int (0 : Int32)) := V3
  show own_Go p e below s _ _ _ (T3.setTop (mkF m 20 #[iv (1 : Int32), iv ca, iv cb, iv cc, iv cd] [(.ref b1)]))
  exact own_fin X3 Bd.notSynchronized (fun h => by rw [Bd.returns] at h; cases h) (fun fs hr => retOut X3 hx (t := (.array .char)) (w := (.ref b1)) Bd.returns rfl (Or.inr (Or.inr (Or.inr (Or.inr ⟨rfl, rfl, rfl⟩)))) (hb hby own_d1_20) hr) (by rw [e3]; exact ⟨b1, _, rfl, N3, Kp, sz_b1, V_b1⟩) (by decide) (by decide)
theorem own_d1_21 : decode method_3_code 21 = .ok (.iload_n 0, 1) := by decide +kernel
theorem own_d1_22 : decode method_3_code 22 = .ok (.iconst 2, 1) := by decide +kernel
theorem own_d1_23 : decode method_3_code 23 = .ok (.if_icmp .ne 15, 3) := by decide +kernel
theorem own_d1_26 : decode method_3_code 26 = .ok (.iconst 2, 1) := by decide +kernel
theorem own_d1_27 : decode method_3_code 27 = .ok (.newarray .char, 2) := by decide +kernel
theorem own_d1_29 : decode method_3_code 29 = .ok (.dup, 1) := by decide +kernel
theorem own_d1_30 : decode method_3_code 30 = .ok (.iconst 0, 1) := by decide +kernel
theorem own_d1_31 : decode method_3_code 31 = .ok (.iload_n 1, 1) := by decide +kernel
theorem own_d1_32 : decode method_3_code 32 = .ok (.castore, 1) := by decide +kernel
theorem own_d1_33 : decode method_3_code 33 = .ok (.dup, 1) := by decide +kernel
theorem own_d1_34 : decode method_3_code 34 = .ok (.iconst 1, 1) := by decide +kernel
theorem own_d1_35 : decode method_3_code 35 = .ok (.iload_n 2, 1) := by decide +kernel
theorem own_d1_36 : decode method_3_code 36 = .ok (.castore, 1) := by decide +kernel
theorem own_d1_37 : decode method_3_code 37 = .ok (.areturn, 1) := by decide +kernel
theorem own_ef_own_rchars2 (m : MethodId) (ca : Int32) (cb : Int32) (cc : Int32) (cd : Int32) : entryFrame m #[(.int (2 : Int32)), (.int ca), (.int cb), (.int cc), (.int cd)] 5 = mkF m 0 #[iv (2 : Int32), iv ca, iv cb, iv cc, iv cd] [] := by first | (simp [entryFrame, mkF, argsToLocals, Value.category]; done) | rfl
def own_Q_own_rchars2 (Z : State) (ca : Int32) (cb : Int32) (cc : Int32) (cd : Int32) (h0 : Heap) (n0 : Nat) (v : Option Value) (h : Heap) (L : List Loc) : Prop := ∃ b k, v = some (.ref b) ∧ Fr n0 L ∧ Keep h0 h [] ∧ h0.size ≤ b ∧ Arv Z h b k .char (2 : Int32) [(.int ca), (.int cb)] (.int (0 : Int32))
set_option maxRecDepth 65536 in
set_option maxHeartbeats 40000000 in
theorem own_rchars2 (l : Launch) (Z : State) (a0 : Array Value) (hw : ∀ d ∈ tables_1, d.before a0 Z = true) (ws : List Jvm.Cond) (ca : Int32) (cb : Int32) (cc : Int32) (cd : Int32) (h0 : Heap) (n0 : Nat) (Z0 : n0 ≤ h0.size)  (hr_ca : ¬ (ca < (0 : Int32)) ∧ ¬ ((65535 : Int32) < ca)) (hr_cb : ¬ (cb < (0 : Int32)) ∧ ¬ ((65535 : Int32) < cb)) (hr_cc : ¬ (cc < (0 : Int32)) ∧ ¬ ((65535 : Int32) < cc)) (hr_cd : ¬ (cd < (0 : Int32)) ∧ ¬ ((65535 : Int32) < cd)) :
    MetFree l (⟨"com/example/mortise/mortise/http/HeadersIsValuePinLaw", "chars", "(ICCCC)[C"⟩ : MethodName) (head1 (Jvm.Cond.code (⟨"com/example/mortise/mortise/http/HeadersIsValuePinLaw", "chars", "(ICCCC)[C"⟩ : MethodName) method_3_code 5 (some (.array .char)) :: ws) ({ frames := 0, cells := 1, slots := 2, locals := 0 } : Room)) (fun a U => a = #[(.int (2 : Int32)), (.int ca), (.int cb), (.int cc), (.int cd)] ∧ Z.Warmed39 U.vm ∧ U.heap = h0) (fun _ _ _ _ _ => True) (fun _ U o U' => ∃ v L, o = .returned v ∧ own_Q_own_rchars2 Z ca cb cc cd h0 n0 v U'.heap L ∧ FrameEnd U o U' L ({ frames := 0, cells := 1, slots := 2, locals := 0 } : Room).cells ({ frames := 0, cells := 1, slots := 2, locals := 0 } : Room).slots) := by
  refine MetFree.of_bodySF (plainFor_of_name own_pn_com_example_mortise_mortise_http_HeadersIsValuePinLaw) hisR ?_
  intro p e s m args below meth c s₁ Bd hml0 hP hK
  obtain ⟨rfl, hZ, hh⟩ := hP
  have hx := Bd.exec
  have hby := Bd.bytes
  have hml : c.maxLocals = 5 := hml0
  have hown : s.vm.findClass "com/example/mortise/mortise/http/HeadersIsValuePinLaw" = some m.cls := findClass_of_methodNamed Bd.named
  have hnm := (name_of_methodNamed Bd.named Bd.method).1
  have X0 : Stand p l e ({ frames := 0, cells := 1, slots := 2, locals := 0 } : Room) s m #[(.int (2 : Int32)), (.int ca), (.int cb), (.int cc), (.int cd)] below meth c s₁ [] 0 0 := Stand.of_body Bd
  have e0 : s₁.heap = h0 := by rw [← hh, Bd.state]; rfl
  have N0 := Fr.nil n0
  have Kp : Keep h0 h0 [] := Keep.refl h0 _
  show own_Go p e below s (own_Q_own_rchars2 Z ca cb cc cd h0 n0) ({ frames := 0, cells := 1, slots := 2, locals := 0 } : Room).cells ({ frames := 0, cells := 1, slots := 2, locals := 0 } : Room).slots (s₁.setTop (entryFrame m #[(.int (2 : Int32)), (.int ca), (.int cb), (.int cc), (.int cd)] 5))
  refine own_go (fun zt zk => castTop (own_ef_own_rchars2 m ca cb cc cd) zk) ?_
  show own_Go p e below s _ _ _ (s₁.setTop (mkF m 0 #[iv (2 : Int32), iv ca, iv cb, iv cc, iv cd] []))
  refine own_go (fun zt zk => (XS.iloadN X0.here hx rfl (hb hby own_d1_0) rfl (XS.ifYes X0.here hx rfl (pc0 := 1) (pc' := 8) rfl (hb hby own_d1_1) rfl ((if0 _ _).trans (feq ((by decide) : ¬ ((2 : Int32) = (0 : Int32)))).2) (by decide) (by decide) (XS.iloadN X0.here hx rfl (hb hby own_d1_8) rfl (XS.iconst X0.here hx rfl (hb hby own_d1_9) (XS.icmpYes X0.here hx rfl (pc0 := 10) (pc' := 21) rfl (hb hby own_d1_10) rfl (feq ((by decide) : ¬ ((2 : Int32) = (1 : Int32)))).2 (by decide) (by decide) (XS.iloadN X0.here hx rfl (hb hby own_d1_21) rfl (XS.iconst X0.here hx rfl (hb hby own_d1_22) (XS.icmpNo X0.here hx rfl (hb hby own_d1_23) rfl (teq (rfl : (2 : Int32) = (2 : Int32))).2 (XS.iconst X0.here hx rfl (hb hby own_d1_26) zk)))))))))) ?_
  show own_Go p e below s _ _ _ (s₁.setTop (mkF m 27 #[iv (2 : Int32), iv ca, iv cb, iv cc, iv cd] [(.int (2 : Int32))]))
  obtain ⟨T1, h1, k1, X1, e1, E1, A1, Ea1, st1⟩ := newPE X0 hx hZ (hw _ (List.mem_of_getElem? (i := 9) rfl)) e0 (g := (mkF m 27 #[iv (2 : Int32), iv ca, iv cb, iv cc, iv cd] [(.int (2 : Int32))])) rfl (hb hby own_d1_27) rfl (by decide) (cap := 2) (by decide) (by decide) (by decide) (by decide) (ad := "[C") (by decide)
  obtain ⟨b1, g1⟩ : ∃ z, z = h0.size := ⟨_, rfl⟩
  rw [← g1] at A1 Ea1 st1
  refine own_go st1 ?_
  have sz_b1 : h0.size ≤ b1 := Nat.le_trans Kp.1 (Nat.le_of_eq g1.symm)
  have g_b1 : n0 ≤ b1 := Nat.le_trans Z0 sz_b1
  replace Kp := Kp.ext E1
  have V_b1 : Arv Z h1 b1 k1 .char (2 : Int32) [(.int (0 : Int32)), (.int (0 : Int32))] (.int (0 : Int32)) := (Arv.new A1 (by decide)).pad (pad_rep [] (.int (0 : Int32)) 2)
  have Ea_b1 := Ea1
  show own_Go p e below s _ _ _ (T1.setTop (mkF m 29 #[iv (2 : Int32), iv ca, iv cb, iv cc, iv cd] [(.ref b1)]))
  refine own_go (fun zt zk => (XS.dup X1.here hx rfl (hb hby own_d1_29) rfl rfl (XS.iconst X1.here hx rfl (hb hby own_d1_30) (XS.iloadN X1.here hx rfl (hb hby own_d1_31) rfl zk)))) ?_
  show own_Go p e below s _ _ _ (T1.setTop (mkF m 32 #[iv (2 : Int32), iv ca, iv cb, iv cc, iv cd] [(.int ca), (.int (0 : Int32)), (.ref b1), (.ref b1)]))
  obtain ⟨cl2, Ar2, q2, Sz2, Nz2, Ha2, Ga2⟩ := id V_b1
  have hin2 : ¬ ((0 : Int32) < 0 ∨ cl2.slots.size ≤ ((0 : Int32)).toNatClampNeg) := inb_of Sz2 ⟨by decide, by decide⟩
  obtain ⟨T3, h3, X3, e3, W3, st3⟩ := stC X1 hx hZ e1 Ar2 (j := (0 : Int32)) hin2 (g := (mkF m 32 #[iv (2 : Int32), iv ca, iv cb, iv cc, iv cd] [(.int ca), (.int (0 : Int32)), (.ref b1), (.ref b1)])) rfl rfl (hb hby own_d1_32)
  refine own_go st3 ?_
  rw [show nar .char ca = ca from own_narc16 hr_ca] at W3
  have V3 := Arv.set Ar2 q2 Sz2 Nz2 Ha2 Ga2 (own_fitc16 hr_ca) W3 0 rfl (Nat.le_of_ble_eq_true rfl)
  have N3 := Fr.snoc X3 N0 g_b1
  replace Kp := Kp.wr W3 (Or.inr sz_b1)
  replace Ea_b1 := Ea_b1.wr W3
  replace V_b1 : Arv Z h3 b1 k1 .char (2 : Int32) [(.int ca), (.int (0 : Int32))] (.int (0 : Int32)) := V3
  show own_Go p e below s _ _ _ (T3.setTop (mkF m 33 #[iv (2 : Int32), iv ca, iv cb, iv cc, iv cd] [(.ref b1)]))
  refine own_go (fun zt zk => (XS.dup X3.here hx rfl (hb hby own_d1_33) rfl rfl (XS.iconst X3.here hx rfl (hb hby own_d1_34) (XS.iloadN X3.here hx rfl (hb hby own_d1_35) rfl zk)))) ?_
  show own_Go p e below s _ _ _ (T3.setTop (mkF m 36 #[iv (2 : Int32), iv ca, iv cb, iv cc, iv cd] [(.int cb), (.int (1 : Int32)), (.ref b1), (.ref b1)]))
  obtain ⟨cl4, Ar4, q4, Sz4, Nz4, Ha4, Ga4⟩ := id V_b1
  have hin4 : ¬ ((1 : Int32) < 0 ∨ cl4.slots.size ≤ ((1 : Int32)).toNatClampNeg) := inb_of Sz4 ⟨by decide, by decide⟩
  obtain ⟨T5, h5, X5, e5, W5, st5⟩ := stC X3 hx hZ e3 Ar4 (j := (1 : Int32)) hin4 (g := (mkF m 36 #[iv (2 : Int32), iv ca, iv cb, iv cc, iv cd] [(.int cb), (.int (1 : Int32)), (.ref b1), (.ref b1)])) rfl rfl (hb hby own_d1_36)
  refine own_go st5 ?_
  rw [show nar .char cb = cb from own_narc16 hr_cb] at W5
  have V5 := Arv.set Ar4 q4 Sz4 Nz4 Ha4 Ga4 (own_fitc16 hr_cb) W5 1 rfl (Nat.le_of_ble_eq_true rfl)
  have N5 := Fr.snoc X5 N3 g_b1
  replace Kp := Kp.wr W5 (Or.inr sz_b1)
  replace Ea_b1 := Ea_b1.wr W5
  replace V_b1 : Arv Z h5 b1 k1 .char (2 : Int32) [(.int ca), (.int cb)] (.int (0 : Int32)) := V5
  show own_Go p e below s _ _ _ (T5.setTop (mkF m 37 #[iv (2 : Int32), iv ca, iv cb, iv cc, iv cd] [(.ref b1)]))
  exact own_fin X5 Bd.notSynchronized (fun h => by rw [Bd.returns] at h; cases h) (fun fs hr => retOut X5 hx (t := (.array .char)) (w := (.ref b1)) Bd.returns rfl (Or.inr (Or.inr (Or.inr (Or.inr ⟨rfl, rfl, rfl⟩)))) (hb hby own_d1_37) hr) (by rw [e5]; exact ⟨b1, _, rfl, N5, Kp, sz_b1, V_b1⟩) (by decide) (by decide)
theorem own_d1_38 : decode method_3_code 38 = .ok (.iload_n 0, 1) := by decide +kernel
theorem own_d1_39 : decode method_3_code 39 = .ok (.iconst 3, 1) := by decide +kernel
theorem own_d1_40 : decode method_3_code 40 = .ok (.if_icmp .ne 19, 3) := by decide +kernel
theorem own_d1_43 : decode method_3_code 43 = .ok (.iconst 3, 1) := by decide +kernel
theorem own_d1_44 : decode method_3_code 44 = .ok (.newarray .char, 2) := by decide +kernel
theorem own_d1_46 : decode method_3_code 46 = .ok (.dup, 1) := by decide +kernel
theorem own_d1_47 : decode method_3_code 47 = .ok (.iconst 0, 1) := by decide +kernel
theorem own_d1_48 : decode method_3_code 48 = .ok (.iload_n 1, 1) := by decide +kernel
theorem own_d1_49 : decode method_3_code 49 = .ok (.castore, 1) := by decide +kernel
theorem own_d1_50 : decode method_3_code 50 = .ok (.dup, 1) := by decide +kernel
theorem own_d1_51 : decode method_3_code 51 = .ok (.iconst 1, 1) := by decide +kernel
theorem own_d1_52 : decode method_3_code 52 = .ok (.iload_n 2, 1) := by decide +kernel
theorem own_d1_53 : decode method_3_code 53 = .ok (.castore, 1) := by decide +kernel
theorem own_d1_54 : decode method_3_code 54 = .ok (.dup, 1) := by decide +kernel
theorem own_d1_55 : decode method_3_code 55 = .ok (.iconst 2, 1) := by decide +kernel
theorem own_d1_56 : decode method_3_code 56 = .ok (.iload_n 3, 1) := by decide +kernel
theorem own_d1_57 : decode method_3_code 57 = .ok (.castore, 1) := by decide +kernel
theorem own_d1_58 : decode method_3_code 58 = .ok (.areturn, 1) := by decide +kernel
theorem own_ef_own_rchars3 (m : MethodId) (ca : Int32) (cb : Int32) (cc : Int32) (cd : Int32) : entryFrame m #[(.int (3 : Int32)), (.int ca), (.int cb), (.int cc), (.int cd)] 5 = mkF m 0 #[iv (3 : Int32), iv ca, iv cb, iv cc, iv cd] [] := by first | (simp [entryFrame, mkF, argsToLocals, Value.category]; done) | rfl
def own_Q_own_rchars3 (Z : State) (ca : Int32) (cb : Int32) (cc : Int32) (cd : Int32) (h0 : Heap) (n0 : Nat) (v : Option Value) (h : Heap) (L : List Loc) : Prop := ∃ b k, v = some (.ref b) ∧ Fr n0 L ∧ Keep h0 h [] ∧ h0.size ≤ b ∧ Arv Z h b k .char (3 : Int32) [(.int ca), (.int cb), (.int cc)] (.int (0 : Int32))
set_option maxRecDepth 65536 in
set_option maxHeartbeats 40000000 in
theorem own_rchars3 (l : Launch) (Z : State) (a0 : Array Value) (hw : ∀ d ∈ tables_1, d.before a0 Z = true) (ws : List Jvm.Cond) (ca : Int32) (cb : Int32) (cc : Int32) (cd : Int32) (h0 : Heap) (n0 : Nat) (Z0 : n0 ≤ h0.size)  (hr_ca : ¬ (ca < (0 : Int32)) ∧ ¬ ((65535 : Int32) < ca)) (hr_cb : ¬ (cb < (0 : Int32)) ∧ ¬ ((65535 : Int32) < cb)) (hr_cc : ¬ (cc < (0 : Int32)) ∧ ¬ ((65535 : Int32) < cc)) (hr_cd : ¬ (cd < (0 : Int32)) ∧ ¬ ((65535 : Int32) < cd)) :
    MetFree l (⟨"com/example/mortise/mortise/http/HeadersIsValuePinLaw", "chars", "(ICCCC)[C"⟩ : MethodName) (head1 (Jvm.Cond.code (⟨"com/example/mortise/mortise/http/HeadersIsValuePinLaw", "chars", "(ICCCC)[C"⟩ : MethodName) method_3_code 5 (some (.array .char)) :: ws) ({ frames := 0, cells := 1, slots := 3, locals := 0 } : Room)) (fun a U => a = #[(.int (3 : Int32)), (.int ca), (.int cb), (.int cc), (.int cd)] ∧ Z.Warmed39 U.vm ∧ U.heap = h0) (fun _ _ _ _ _ => True) (fun _ U o U' => ∃ v L, o = .returned v ∧ own_Q_own_rchars3 Z ca cb cc cd h0 n0 v U'.heap L ∧ FrameEnd U o U' L ({ frames := 0, cells := 1, slots := 3, locals := 0 } : Room).cells ({ frames := 0, cells := 1, slots := 3, locals := 0 } : Room).slots) := by
  refine MetFree.of_bodySF (plainFor_of_name own_pn_com_example_mortise_mortise_http_HeadersIsValuePinLaw) hisR ?_
  intro p e s m args below meth c s₁ Bd hml0 hP hK
  obtain ⟨rfl, hZ, hh⟩ := hP
  have hx := Bd.exec
  have hby := Bd.bytes
  have hml : c.maxLocals = 5 := hml0
  have hown : s.vm.findClass "com/example/mortise/mortise/http/HeadersIsValuePinLaw" = some m.cls := findClass_of_methodNamed Bd.named
  have hnm := (name_of_methodNamed Bd.named Bd.method).1
  have X0 : Stand p l e ({ frames := 0, cells := 1, slots := 3, locals := 0 } : Room) s m #[(.int (3 : Int32)), (.int ca), (.int cb), (.int cc), (.int cd)] below meth c s₁ [] 0 0 := Stand.of_body Bd
  have e0 : s₁.heap = h0 := by rw [← hh, Bd.state]; rfl
  have N0 := Fr.nil n0
  have Kp : Keep h0 h0 [] := Keep.refl h0 _
  show own_Go p e below s (own_Q_own_rchars3 Z ca cb cc cd h0 n0) ({ frames := 0, cells := 1, slots := 3, locals := 0 } : Room).cells ({ frames := 0, cells := 1, slots := 3, locals := 0 } : Room).slots (s₁.setTop (entryFrame m #[(.int (3 : Int32)), (.int ca), (.int cb), (.int cc), (.int cd)] 5))
  refine own_go (fun zt zk => castTop (own_ef_own_rchars3 m ca cb cc cd) zk) ?_
  show own_Go p e below s _ _ _ (s₁.setTop (mkF m 0 #[iv (3 : Int32), iv ca, iv cb, iv cc, iv cd] []))
  refine own_go (fun zt zk => (XS.iloadN X0.here hx rfl (hb hby own_d1_0) rfl (XS.ifYes X0.here hx rfl (pc0 := 1) (pc' := 8) rfl (hb hby own_d1_1) rfl ((if0 _ _).trans (feq ((by decide) : ¬ ((3 : Int32) = (0 : Int32)))).2) (by decide) (by decide) (XS.iloadN X0.here hx rfl (hb hby own_d1_8) rfl (XS.iconst X0.here hx rfl (hb hby own_d1_9) (XS.icmpYes X0.here hx rfl (pc0 := 10) (pc' := 21) rfl (hb hby own_d1_10) rfl (feq ((by decide) : ¬ ((3 : Int32) = (1 : Int32)))).2 (by decide) (by decide) (XS.iloadN X0.here hx rfl (hb hby own_d1_21) rfl (XS.iconst X0.here hx rfl (hb hby own_d1_22) (XS.icmpYes X0.here hx rfl (pc0 := 23) (pc' := 38) rfl (hb hby own_d1_23) rfl (feq ((by decide) : ¬ ((3 : Int32) = (2 : Int32)))).2 (by decide) (by decide) (XS.iloadN X0.here hx rfl (hb hby own_d1_38) rfl (XS.iconst X0.here hx rfl (hb hby own_d1_39) (XS.icmpNo X0.here hx rfl (hb hby own_d1_40) rfl (teq (rfl : (3 : Int32) = (3 : Int32))).2 (XS.iconst X0.here hx rfl (hb hby own_d1_43) zk))))))))))))) ?_
  show own_Go p e below s _ _ _ (s₁.setTop (mkF m 44 #[iv (3 : Int32), iv ca, iv cb, iv cc, iv cd] [(.int (3 : Int32))]))
  obtain ⟨T1, h1, k1, X1, e1, E1, A1, Ea1, st1⟩ := newPE X0 hx hZ (hw _ (List.mem_of_getElem? (i := 9) rfl)) e0 (g := (mkF m 44 #[iv (3 : Int32), iv ca, iv cb, iv cc, iv cd] [(.int (3 : Int32))])) rfl (hb hby own_d1_44) rfl (by decide) (cap := 3) (by decide) (by decide) (by decide) (by decide) (ad := "[C") (by decide)
  obtain ⟨b1, g1⟩ : ∃ z, z = h0.size := ⟨_, rfl⟩
  rw [← g1] at A1 Ea1 st1
  refine own_go st1 ?_
  have sz_b1 : h0.size ≤ b1 := Nat.le_trans Kp.1 (Nat.le_of_eq g1.symm)
  have g_b1 : n0 ≤ b1 := Nat.le_trans Z0 sz_b1
  replace Kp := Kp.ext E1
  have V_b1 : Arv Z h1 b1 k1 .char (3 : Int32) [(.int (0 : Int32)), (.int (0 : Int32)), (.int (0 : Int32))] (.int (0 : Int32)) := (Arv.new A1 (by decide)).pad (pad_rep [] (.int (0 : Int32)) 3)
  have Ea_b1 := Ea1
  show own_Go p e below s _ _ _ (T1.setTop (mkF m 46 #[iv (3 : Int32), iv ca, iv cb, iv cc, iv cd] [(.ref b1)]))
  refine own_go (fun zt zk => (XS.dup X1.here hx rfl (hb hby own_d1_46) rfl rfl (XS.iconst X1.here hx rfl (hb hby own_d1_47) (XS.iloadN X1.here hx rfl (hb hby own_d1_48) rfl zk)))) ?_
  show own_Go p e below s _ _ _ (T1.setTop (mkF m 49 #[iv (3 : Int32), iv ca, iv cb, iv cc, iv cd] [(.int ca), (.int (0 : Int32)), (.ref b1), (.ref b1)]))
  obtain ⟨cl2, Ar2, q2, Sz2, Nz2, Ha2, Ga2⟩ := id V_b1
  have hin2 : ¬ ((0 : Int32) < 0 ∨ cl2.slots.size ≤ ((0 : Int32)).toNatClampNeg) := inb_of Sz2 ⟨by decide, by decide⟩
  obtain ⟨T3, h3, X3, e3, W3, st3⟩ := stC X1 hx hZ e1 Ar2 (j := (0 : Int32)) hin2 (g := (mkF m 49 #[iv (3 : Int32), iv ca, iv cb, iv cc, iv cd] [(.int ca), (.int (0 : Int32)), (.ref b1), (.ref b1)])) rfl rfl (hb hby own_d1_49)
  refine own_go st3 ?_
  rw [show nar .char ca = ca from own_narc16 hr_ca] at W3
  have V3 := Arv.set Ar2 q2 Sz2 Nz2 Ha2 Ga2 (own_fitc16 hr_ca) W3 0 rfl (Nat.le_of_ble_eq_true rfl)
  have N3 := Fr.snoc X3 N0 g_b1
  replace Kp := Kp.wr W3 (Or.inr sz_b1)
  replace Ea_b1 := Ea_b1.wr W3
  replace V_b1 : Arv Z h3 b1 k1 .char (3 : Int32) [(.int ca), (.int (0 : Int32)), (.int (0 : Int32))] (.int (0 : Int32)) := V3
  show own_Go p e below s _ _ _ (T3.setTop (mkF m 50 #[iv (3 : Int32), iv ca, iv cb, iv cc, iv cd] [(.ref b1)]))
  refine own_go (fun zt zk => (XS.dup X3.here hx rfl (hb hby own_d1_50) rfl rfl (XS.iconst X3.here hx rfl (hb hby own_d1_51) (XS.iloadN X3.here hx rfl (hb hby own_d1_52) rfl zk)))) ?_
  show own_Go p e below s _ _ _ (T3.setTop (mkF m 53 #[iv (3 : Int32), iv ca, iv cb, iv cc, iv cd] [(.int cb), (.int (1 : Int32)), (.ref b1), (.ref b1)]))
  obtain ⟨cl4, Ar4, q4, Sz4, Nz4, Ha4, Ga4⟩ := id V_b1
  have hin4 : ¬ ((1 : Int32) < 0 ∨ cl4.slots.size ≤ ((1 : Int32)).toNatClampNeg) := inb_of Sz4 ⟨by decide, by decide⟩
  obtain ⟨T5, h5, X5, e5, W5, st5⟩ := stC X3 hx hZ e3 Ar4 (j := (1 : Int32)) hin4 (g := (mkF m 53 #[iv (3 : Int32), iv ca, iv cb, iv cc, iv cd] [(.int cb), (.int (1 : Int32)), (.ref b1), (.ref b1)])) rfl rfl (hb hby own_d1_53)
  refine own_go st5 ?_
  rw [show nar .char cb = cb from own_narc16 hr_cb] at W5
  have V5 := Arv.set Ar4 q4 Sz4 Nz4 Ha4 Ga4 (own_fitc16 hr_cb) W5 1 rfl (Nat.le_of_ble_eq_true rfl)
  have N5 := Fr.snoc X5 N3 g_b1
  replace Kp := Kp.wr W5 (Or.inr sz_b1)
  replace Ea_b1 := Ea_b1.wr W5
  replace V_b1 : Arv Z h5 b1 k1 .char (3 : Int32) [(.int ca), (.int cb), (.int (0 : Int32))] (.int (0 : Int32)) := V5
  show own_Go p e below s _ _ _ (T5.setTop (mkF m 54 #[iv (3 : Int32), iv ca, iv cb, iv cc, iv cd] [(.ref b1)]))
  refine own_go (fun zt zk => (XS.dup X5.here hx rfl (hb hby own_d1_54) rfl rfl (XS.iconst X5.here hx rfl (hb hby own_d1_55) (XS.iloadN X5.here hx rfl (hb hby own_d1_56) rfl zk)))) ?_
  show own_Go p e below s _ _ _ (T5.setTop (mkF m 57 #[iv (3 : Int32), iv ca, iv cb, iv cc, iv cd] [(.int cc), (.int (2 : Int32)), (.ref b1), (.ref b1)]))
  obtain ⟨cl6, Ar6, q6, Sz6, Nz6, Ha6, Ga6⟩ := id V_b1
  have hin6 : ¬ ((2 : Int32) < 0 ∨ cl6.slots.size ≤ ((2 : Int32)).toNatClampNeg) := inb_of Sz6 ⟨by decide, by decide⟩
  obtain ⟨T7, h7, X7, e7, W7, st7⟩ := stC X5 hx hZ e5 Ar6 (j := (2 : Int32)) hin6 (g := (mkF m 57 #[iv (3 : Int32), iv ca, iv cb, iv cc, iv cd] [(.int cc), (.int (2 : Int32)), (.ref b1), (.ref b1)])) rfl rfl (hb hby own_d1_57)
  refine own_go st7 ?_
  rw [show nar .char cc = cc from own_narc16 hr_cc] at W7
  have V7 := Arv.set Ar6 q6 Sz6 Nz6 Ha6 Ga6 (own_fitc16 hr_cc) W7 2 rfl (Nat.le_of_ble_eq_true rfl)
  have N7 := Fr.snoc X7 N5 g_b1
  replace Kp := Kp.wr W7 (Or.inr sz_b1)
  replace Ea_b1 := Ea_b1.wr W7
  replace V_b1 : Arv Z h7 b1 k1 .char (3 : Int32) [(.int ca), (.int cb), (.int cc)] (.int (0 : Int32)) := V7
  show own_Go p e below s _ _ _ (T7.setTop (mkF m 58 #[iv (3 : Int32), iv ca, iv cb, iv cc, iv cd] [(.ref b1)]))
  exact own_fin X7 Bd.notSynchronized (fun h => by rw [Bd.returns] at h; cases h) (fun fs hr => retOut X7 hx (t := (.array .char)) (w := (.ref b1)) Bd.returns rfl (Or.inr (Or.inr (Or.inr (Or.inr ⟨rfl, rfl, rfl⟩)))) (hb hby own_d1_58) hr) (by rw [e7]; exact ⟨b1, _, rfl, N7, Kp, sz_b1, V_b1⟩) (by decide) (by decide)
theorem own_d1_59 : decode method_3_code 59 = .ok (.iconst 4, 1) := by decide +kernel
theorem own_d1_60 : decode method_3_code 60 = .ok (.newarray .char, 2) := by decide +kernel
theorem own_d1_62 : decode method_3_code 62 = .ok (.dup, 1) := by decide +kernel
theorem own_d1_63 : decode method_3_code 63 = .ok (.iconst 0, 1) := by decide +kernel
theorem own_d1_64 : decode method_3_code 64 = .ok (.iload_n 1, 1) := by decide +kernel
theorem own_d1_65 : decode method_3_code 65 = .ok (.castore, 1) := by decide +kernel
theorem own_d1_66 : decode method_3_code 66 = .ok (.dup, 1) := by decide +kernel
theorem own_d1_67 : decode method_3_code 67 = .ok (.iconst 1, 1) := by decide +kernel
theorem own_d1_68 : decode method_3_code 68 = .ok (.iload_n 2, 1) := by decide +kernel
theorem own_d1_69 : decode method_3_code 69 = .ok (.castore, 1) := by decide +kernel
theorem own_d1_70 : decode method_3_code 70 = .ok (.dup, 1) := by decide +kernel
theorem own_d1_71 : decode method_3_code 71 = .ok (.iconst 2, 1) := by decide +kernel
theorem own_d1_72 : decode method_3_code 72 = .ok (.iload_n 3, 1) := by decide +kernel
theorem own_d1_73 : decode method_3_code 73 = .ok (.castore, 1) := by decide +kernel
theorem own_d1_74 : decode method_3_code 74 = .ok (.dup, 1) := by decide +kernel
theorem own_d1_75 : decode method_3_code 75 = .ok (.iconst 3, 1) := by decide +kernel
theorem own_d1_76 : decode method_3_code 76 = .ok (.iload 4, 2) := by decide +kernel
theorem own_d1_78 : decode method_3_code 78 = .ok (.castore, 1) := by decide +kernel
theorem own_d1_79 : decode method_3_code 79 = .ok (.areturn, 1) := by decide +kernel
theorem own_ef_own_rchars4 (m : MethodId) (p1 : Int32) (ca : Int32) (cb : Int32) (cc : Int32) (cd : Int32) : entryFrame m #[(.int p1), (.int ca), (.int cb), (.int cc), (.int cd)] 5 = mkF m 0 #[iv p1, iv ca, iv cb, iv cc, iv cd] [] := by first | (simp [entryFrame, mkF, argsToLocals, Value.category]; done) | rfl
def own_Q_own_rchars4 (Z : State) (p1 : Int32) (ca : Int32) (cb : Int32) (cc : Int32) (cd : Int32) (h0 : Heap) (n0 : Nat) (v : Option Value) (h : Heap) (L : List Loc) : Prop := ∃ b k, v = some (.ref b) ∧ Fr n0 L ∧ Keep h0 h [] ∧ h0.size ≤ b ∧ Arv Z h b k .char (4 : Int32) [(.int ca), (.int cb), (.int cc), (.int cd)] (.int (0 : Int32))
set_option maxRecDepth 65536 in
set_option maxHeartbeats 40000000 in
theorem own_rchars4 (l : Launch) (Z : State) (a0 : Array Value) (hw : ∀ d ∈ tables_1, d.before a0 Z = true) (ws : List Jvm.Cond) (p1 : Int32) (ca : Int32) (cb : Int32) (cc : Int32) (cd : Int32) (h0 : Heap) (n0 : Nat) (Z0 : n0 ≤ h0.size)  (hr_ca : ¬ (ca < (0 : Int32)) ∧ ¬ ((65535 : Int32) < ca)) (hr_cb : ¬ (cb < (0 : Int32)) ∧ ¬ ((65535 : Int32) < cb)) (hr_cc : ¬ (cc < (0 : Int32)) ∧ ¬ ((65535 : Int32) < cc)) (hr_cd : ¬ (cd < (0 : Int32)) ∧ ¬ ((65535 : Int32) < cd)) (hk0 : ¬ (p1 = (0 : Int32))) (hk1 : ¬ (p1 = (1 : Int32))) (hk2 : ¬ (p1 = (2 : Int32))) (hk3 : ¬ (p1 = (3 : Int32))) :
    MetFree l (⟨"com/example/mortise/mortise/http/HeadersIsValuePinLaw", "chars", "(ICCCC)[C"⟩ : MethodName) (head1 (Jvm.Cond.code (⟨"com/example/mortise/mortise/http/HeadersIsValuePinLaw", "chars", "(ICCCC)[C"⟩ : MethodName) method_3_code 5 (some (.array .char)) :: ws) ({ frames := 0, cells := 1, slots := 4, locals := 0 } : Room)) (fun a U => a = #[(.int p1), (.int ca), (.int cb), (.int cc), (.int cd)] ∧ Z.Warmed39 U.vm ∧ U.heap = h0) (fun _ _ _ _ _ => True) (fun _ U o U' => ∃ v L, o = .returned v ∧ own_Q_own_rchars4 Z p1 ca cb cc cd h0 n0 v U'.heap L ∧ FrameEnd U o U' L ({ frames := 0, cells := 1, slots := 4, locals := 0 } : Room).cells ({ frames := 0, cells := 1, slots := 4, locals := 0 } : Room).slots) := by
  refine MetFree.of_bodySF (plainFor_of_name own_pn_com_example_mortise_mortise_http_HeadersIsValuePinLaw) hisR ?_
  intro p e s m args below meth c s₁ Bd hml0 hP hK
  obtain ⟨rfl, hZ, hh⟩ := hP
  have hx := Bd.exec
  have hby := Bd.bytes
  have hml : c.maxLocals = 5 := hml0
  have hown : s.vm.findClass "com/example/mortise/mortise/http/HeadersIsValuePinLaw" = some m.cls := findClass_of_methodNamed Bd.named
  have hnm := (name_of_methodNamed Bd.named Bd.method).1
  have X0 : Stand p l e ({ frames := 0, cells := 1, slots := 4, locals := 0 } : Room) s m #[(.int p1), (.int ca), (.int cb), (.int cc), (.int cd)] below meth c s₁ [] 0 0 := Stand.of_body Bd
  have e0 : s₁.heap = h0 := by rw [← hh, Bd.state]; rfl
  have N0 := Fr.nil n0
  have Kp : Keep h0 h0 [] := Keep.refl h0 _
  show own_Go p e below s (own_Q_own_rchars4 Z p1 ca cb cc cd h0 n0) ({ frames := 0, cells := 1, slots := 4, locals := 0 } : Room).cells ({ frames := 0, cells := 1, slots := 4, locals := 0 } : Room).slots (s₁.setTop (entryFrame m #[(.int p1), (.int ca), (.int cb), (.int cc), (.int cd)] 5))
  refine own_go (fun zt zk => castTop (own_ef_own_rchars4 m p1 ca cb cc cd) zk) ?_
  show own_Go p e below s _ _ _ (s₁.setTop (mkF m 0 #[iv p1, iv ca, iv cb, iv cc, iv cd] []))
  refine own_go (fun zt zk => (XS.iloadN X0.here hx rfl (hb hby own_d1_0) rfl (XS.ifYes X0.here hx rfl (pc0 := 1) (pc' := 8) rfl (hb hby own_d1_1) rfl ((if0 _ _).trans (feq (hk0 : ¬ (p1 = (0 : Int32)))).2) (by decide) (by decide) (XS.iloadN X0.here hx rfl (hb hby own_d1_8) rfl (XS.iconst X0.here hx rfl (hb hby own_d1_9) (XS.icmpYes X0.here hx rfl (pc0 := 10) (pc' := 21) rfl (hb hby own_d1_10) rfl (feq (hk1 : ¬ (p1 = (1 : Int32)))).2 (by decide) (by decide) (XS.iloadN X0.here hx rfl (hb hby own_d1_21) rfl (XS.iconst X0.here hx rfl (hb hby own_d1_22) (XS.icmpYes X0.here hx rfl (pc0 := 23) (pc' := 38) rfl (hb hby own_d1_23) rfl (feq (hk2 : ¬ (p1 = (2 : Int32)))).2 (by decide) (by decide) (XS.iloadN X0.here hx rfl (hb hby own_d1_38) rfl (XS.iconst X0.here hx rfl (hb hby own_d1_39) (XS.icmpYes X0.here hx rfl (pc0 := 40) (pc' := 59) rfl (hb hby own_d1_40) rfl (feq (hk3 : ¬ (p1 = (3 : Int32)))).2 (by decide) (by decide) (XS.iconst X0.here hx rfl (hb hby own_d1_59) zk))))))))))))) ?_
  show own_Go p e below s _ _ _ (s₁.setTop (mkF m 60 #[iv p1, iv ca, iv cb, iv cc, iv cd] [(.int (4 : Int32))]))
  obtain ⟨T1, h1, k1, X1, e1, E1, A1, Ea1, st1⟩ := newPE X0 hx hZ (hw _ (List.mem_of_getElem? (i := 9) rfl)) e0 (g := (mkF m 60 #[iv p1, iv ca, iv cb, iv cc, iv cd] [(.int (4 : Int32))])) rfl (hb hby own_d1_60) rfl (by decide) (cap := 4) (by decide) (by decide) (by decide) (by decide) (ad := "[C") (by decide)
  obtain ⟨b1, g1⟩ : ∃ z, z = h0.size := ⟨_, rfl⟩
  rw [← g1] at A1 Ea1 st1
  refine own_go st1 ?_
  have sz_b1 : h0.size ≤ b1 := Nat.le_trans Kp.1 (Nat.le_of_eq g1.symm)
  have g_b1 : n0 ≤ b1 := Nat.le_trans Z0 sz_b1
  replace Kp := Kp.ext E1
  have V_b1 : Arv Z h1 b1 k1 .char (4 : Int32) [(.int (0 : Int32)), (.int (0 : Int32)), (.int (0 : Int32)), (.int (0 : Int32))] (.int (0 : Int32)) := (Arv.new A1 (by decide)).pad (pad_rep [] (.int (0 : Int32)) 4)
  have Ea_b1 := Ea1
  show own_Go p e below s _ _ _ (T1.setTop (mkF m 62 #[iv p1, iv ca, iv cb, iv cc, iv cd] [(.ref b1)]))
  refine own_go (fun zt zk => (XS.dup X1.here hx rfl (hb hby own_d1_62) rfl rfl (XS.iconst X1.here hx rfl (hb hby own_d1_63) (XS.iloadN X1.here hx rfl (hb hby own_d1_64) rfl zk)))) ?_
  show own_Go p e below s _ _ _ (T1.setTop (mkF m 65 #[iv p1, iv ca, iv cb, iv cc, iv cd] [(.int ca), (.int (0 : Int32)), (.ref b1), (.ref b1)]))
  obtain ⟨cl2, Ar2, q2, Sz2, Nz2, Ha2, Ga2⟩ := id V_b1
  have hin2 : ¬ ((0 : Int32) < 0 ∨ cl2.slots.size ≤ ((0 : Int32)).toNatClampNeg) := inb_of Sz2 ⟨by decide, by decide⟩
  obtain ⟨T3, h3, X3, e3, W3, st3⟩ := stC X1 hx hZ e1 Ar2 (j := (0 : Int32)) hin2 (g := (mkF m 65 #[iv p1, iv ca, iv cb, iv cc, iv cd] [(.int ca), (.int (0 : Int32)), (.ref b1), (.ref b1)])) rfl rfl (hb hby own_d1_65)
  refine own_go st3 ?_
  rw [show nar .char ca = ca from own_narc16 hr_ca] at W3
  have V3 := Arv.set Ar2 q2 Sz2 Nz2 Ha2 Ga2 (own_fitc16 hr_ca) W3 0 rfl (Nat.le_of_ble_eq_true rfl)
  have N3 := Fr.snoc X3 N0 g_b1
  replace Kp := Kp.wr W3 (Or.inr sz_b1)
  replace Ea_b1 := Ea_b1.wr W3
  replace V_b1 : Arv Z h3 b1 k1 .char (4 : Int32) [(.int ca), (.int (0 : Int32)), (.int (0 : Int32)), (.int (0 : Int32))] (.int (0 : Int32)) := V3
  show own_Go p e below s _ _ _ (T3.setTop (mkF m 66 #[iv p1, iv ca, iv cb, iv cc, iv cd] [(.ref b1)]))
  refine own_go (fun zt zk => (XS.dup X3.here hx rfl (hb hby own_d1_66) rfl rfl (XS.iconst X3.here hx rfl (hb hby own_d1_67) (XS.iloadN X3.here hx rfl (hb hby own_d1_68) rfl zk)))) ?_
  show own_Go p e below s _ _ _ (T3.setTop (mkF m 69 #[iv p1, iv ca, iv cb, iv cc, iv cd] [(.int cb), (.int (1 : Int32)), (.ref b1), (.ref b1)]))
  obtain ⟨cl4, Ar4, q4, Sz4, Nz4, Ha4, Ga4⟩ := id V_b1
  have hin4 : ¬ ((1 : Int32) < 0 ∨ cl4.slots.size ≤ ((1 : Int32)).toNatClampNeg) := inb_of Sz4 ⟨by decide, by decide⟩
  obtain ⟨T5, h5, X5, e5, W5, st5⟩ := stC X3 hx hZ e3 Ar4 (j := (1 : Int32)) hin4 (g := (mkF m 69 #[iv p1, iv ca, iv cb, iv cc, iv cd] [(.int cb), (.int (1 : Int32)), (.ref b1), (.ref b1)])) rfl rfl (hb hby own_d1_69)
  refine own_go st5 ?_
  rw [show nar .char cb = cb from own_narc16 hr_cb] at W5
  have V5 := Arv.set Ar4 q4 Sz4 Nz4 Ha4 Ga4 (own_fitc16 hr_cb) W5 1 rfl (Nat.le_of_ble_eq_true rfl)
  have N5 := Fr.snoc X5 N3 g_b1
  replace Kp := Kp.wr W5 (Or.inr sz_b1)
  replace Ea_b1 := Ea_b1.wr W5
  replace V_b1 : Arv Z h5 b1 k1 .char (4 : Int32) [(.int ca), (.int cb), (.int (0 : Int32)), (.int (0 : Int32))] (.int (0 : Int32)) := V5
  show own_Go p e below s _ _ _ (T5.setTop (mkF m 70 #[iv p1, iv ca, iv cb, iv cc, iv cd] [(.ref b1)]))
  refine own_go (fun zt zk => (XS.dup X5.here hx rfl (hb hby own_d1_70) rfl rfl (XS.iconst X5.here hx rfl (hb hby own_d1_71) (XS.iloadN X5.here hx rfl (hb hby own_d1_72) rfl zk)))) ?_
  show own_Go p e below s _ _ _ (T5.setTop (mkF m 73 #[iv p1, iv ca, iv cb, iv cc, iv cd] [(.int cc), (.int (2 : Int32)), (.ref b1), (.ref b1)]))
  obtain ⟨cl6, Ar6, q6, Sz6, Nz6, Ha6, Ga6⟩ := id V_b1
  have hin6 : ¬ ((2 : Int32) < 0 ∨ cl6.slots.size ≤ ((2 : Int32)).toNatClampNeg) := inb_of Sz6 ⟨by decide, by decide⟩
  obtain ⟨T7, h7, X7, e7, W7, st7⟩ := stC X5 hx hZ e5 Ar6 (j := (2 : Int32)) hin6 (g := (mkF m 73 #[iv p1, iv ca, iv cb, iv cc, iv cd] [(.int cc), (.int (2 : Int32)), (.ref b1), (.ref b1)])) rfl rfl (hb hby own_d1_73)
  refine own_go st7 ?_
  rw [show nar .char cc = cc from own_narc16 hr_cc] at W7
  have V7 := Arv.set Ar6 q6 Sz6 Nz6 Ha6 Ga6 (own_fitc16 hr_cc) W7 2 rfl (Nat.le_of_ble_eq_true rfl)
  have N7 := Fr.snoc X7 N5 g_b1
  replace Kp := Kp.wr W7 (Or.inr sz_b1)
  replace Ea_b1 := Ea_b1.wr W7
  replace V_b1 : Arv Z h7 b1 k1 .char (4 : Int32) [(.int ca), (.int cb), (.int cc), (.int (0 : Int32))] (.int (0 : Int32)) := V7
  show own_Go p e below s _ _ _ (T7.setTop (mkF m 74 #[iv p1, iv ca, iv cb, iv cc, iv cd] [(.ref b1)]))
  refine own_go (fun zt zk => (XS.dup X7.here hx rfl (hb hby own_d1_74) rfl rfl (XS.iconst X7.here hx rfl (hb hby own_d1_75) (XS.iload X7.here hx rfl (hb hby own_d1_76) rfl zk)))) ?_
  show own_Go p e below s _ _ _ (T7.setTop (mkF m 78 #[iv p1, iv ca, iv cb, iv cc, iv cd] [(.int cd), (.int (3 : Int32)), (.ref b1), (.ref b1)]))
  obtain ⟨cl8, Ar8, q8, Sz8, Nz8, Ha8, Ga8⟩ := id V_b1
  have hin8 : ¬ ((3 : Int32) < 0 ∨ cl8.slots.size ≤ ((3 : Int32)).toNatClampNeg) := inb_of Sz8 ⟨by decide, by decide⟩
  obtain ⟨T9, h9, X9, e9, W9, st9⟩ := stC X7 hx hZ e7 Ar8 (j := (3 : Int32)) hin8 (g := (mkF m 78 #[iv p1, iv ca, iv cb, iv cc, iv cd] [(.int cd), (.int (3 : Int32)), (.ref b1), (.ref b1)])) rfl rfl (hb hby own_d1_78)
  refine own_go st9 ?_
  rw [show nar .char cd = cd from own_narc16 hr_cd] at W9
  have V9 := Arv.set Ar8 q8 Sz8 Nz8 Ha8 Ga8 (own_fitc16 hr_cd) W9 3 rfl (Nat.le_of_ble_eq_true rfl)
  have N9 := Fr.snoc X9 N7 g_b1
  replace Kp := Kp.wr W9 (Or.inr sz_b1)
  replace Ea_b1 := Ea_b1.wr W9
  replace V_b1 : Arv Z h9 b1 k1 .char (4 : Int32) [(.int ca), (.int cb), (.int cc), (.int cd)] (.int (0 : Int32)) := V9
  show own_Go p e below s _ _ _ (T9.setTop (mkF m 79 #[iv p1, iv ca, iv cb, iv cc, iv cd] [(.ref b1)]))
  exact own_fin X9 Bd.notSynchronized (fun h => by rw [Bd.returns] at h; cases h) (fun fs hr => retOut X9 hx (t := (.array .char)) (w := (.ref b1)) Bd.returns rfl (Or.inr (Or.inr (Or.inr (Or.inr ⟨rfl, rfl, rfl⟩)))) (hb hby own_d1_79) hr) (by rw [e9]; exact ⟨b1, _, rfl, N9, Kp, sz_b1, V_b1⟩) (by decide) (by decide)
theorem own_pd__ICCCC__C : parseMethodDescriptor "(ICCCC)[C" = some ⟨[.int, .char, .char, .char, .char], some (.array .char)⟩ := by decide +kernel
theorem own_pd___C_V : parseMethodDescriptor "([C)V" = some ⟨[(.array .char)], none⟩ := by decide +kernel
theorem own_pd__Ljava_lang_String__Z : parseMethodDescriptor "(Ljava/lang/String;)Z" = some ⟨[(.object "java/lang/String")], some .boolean⟩ := by decide +kernel
theorem own_pd__C_Z : parseMethodDescriptor "(C)Z" = some ⟨[.char], some .boolean⟩ := by decide +kernel
theorem own_ef_own_law (m : MethodId) (p1 : Int32) (p2 : Int32) (p3 : Int32) (p4 : Int32) (p5 : Int32) : entryFrame m #[(.int p1), (.int p2), (.int p3), (.int p4), (.int p5)] maxLocals = mkF m 0 #[iv p1, iv p2, iv p3, iv p4, iv p5, .unset, .unset, .unset, .unset, .unset, .unset, .unset] [] := by first | (simp [entryFrame, mkF, argsToLocals, Value.category, maxLocals]; done) | rfl
def own_Q_own_law (Z : State) (p1 : Int32) (p2 : Int32) (p3 : Int32) (p4 : Int32) (p5 : Int32) (o_COMPACT_STRINGS : Int32) (o_SIOOBE_FORMATTER : Value) (h0 : Heap) (n0 : Nat) (v : Option Value) (h : Heap) (L : List Loc) : Prop := v = some (.int 1) ∧ Fr n0 L
set_option maxRecDepth 65536 in
set_option maxHeartbeats 40000000 in
theorem own_law (l : Launch) (Z : State) (a0 : Array Value) (hw : ∀ d ∈ tables_1, d.before a0 Z = true) (ws : List Jvm.Cond) (p1 : Int32) (p2 : Int32) (p3 : Int32) (p4 : Int32) (p5 : Int32) (o_COMPACT_STRINGS : Int32) (o_SIOOBE_FORMATTER : Value) (vm0 : Vm) (h0 : Heap) (n0 : Nat) (Z0 : n0 ≤ h0.size) (O : Old Z n0 h0) (S_o_COMPACT_STRINGS : Sta Z Z.heap "java/lang/String" "COMPACT_STRINGS" "Z" (.int o_COMPACT_STRINGS)) (S_o_SIOOBE_FORMATTER : Sta Z Z.heap "jdk/internal/util/Preconditions" "SIOOBE_FORMATTER" "Ljava/util/function/BiFunction;" o_SIOOBE_FORMATTER) (S_o__assertionsDisabled : Sta Z Z.heap "java/lang/StringUTF16" "$assertionsDisabled" "Z" (.int (1 : Int32))) (S_o_HI_BYTE_SHIFT : Sta Z Z.heap "java/lang/StringUTF16" "HI_BYTE_SHIFT" "I" (.int (0 : Int32))) (S_o_LO_BYTE_SHIFT : Sta Z Z.heap "java/lang/StringUTF16" "LO_BYTE_SHIFT" "I" (.int (8 : Int32))) (nz_o_COMPACT_STRINGS : ¬ (o_COMPACT_STRINGS = (0 : Int32))) (r_o_SIOOBE_FORMATTER : o_SIOOBE_FORMATTER.isRef = true) :
    MetFree l x (head1 (Jvm.Cond.code x code maxLocals ret :: ws) room_1) (fun a U => a = #[(.int p1), (.int p2), (.int p3), (.int p4), (.int p5)] ∧ Z.Warmed39 U.vm ∧ U.heap = h0 ∧ CHr Z own_EL vm0 h0 U.vm h0) (fun _ _ _ _ _ => True) (fun _ U o U' => ∃ v L, o = .returned v ∧ own_Q_own_law Z p1 p2 p3 p4 p5 o_COMPACT_STRINGS o_SIOOBE_FORMATTER h0 n0 v U'.heap L ∧ CHr Z own_EL U.vm U.heap U'.vm U'.heap ∧ ReturnedEndW U o U' L room_1.cells room_1.slots) := by
  refine MetFree.of_bodySF (plainFor_of_name own_pn_com_example_mortise_mortise_http_HeadersIsValuePinLaw) hisR ?_
  intro p e s m args below meth c s₁ Bd hml0 hP hK
  obtain ⟨rfl, hZ, hh, hCH⟩ := hP
  have hx := Bd.exec
  have hby := Bd.bytes
  have hml : c.maxLocals = 12 := hml0
  have hown : s.vm.findClass "com/example/mortise/mortise/http/HeadersIsValuePinLaw" = some m.cls := findClass_of_methodNamed Bd.named
  have hnm := (name_of_methodNamed Bd.named Bd.method).1
  have X0 : Stand p l e room_1 (s.setVm s.vm) m #[(.int p1), (.int p2), (.int p3), (.int p4), (.int p5)] below meth c s₁ [] 0 0 := Stand.of_body Bd
  have e0 : s₁.heap = h0 := by rw [← hh, Bd.state]; rfl
  have N0 := Fr.nil n0
  have hEL := own_EW Z a0 hw
  have wS := own_wS Z a0 hw
  have hS : s.Since s.vm 0 := (State.WarmedH.refl s).since 0
  have hk : 0 ≤ h0.size := Nat.zero_le _
  have Rc : CHr Z own_EL s.vm h0 s.vm h0 := CHr.refl hCH.1
  have Kp : Keep h0 h0 [] := Keep.refl h0 _
  show own_GoW p e below s Z (own_Q_own_law Z p1 p2 p3 p4 p5 o_COMPACT_STRINGS o_SIOOBE_FORMATTER h0 n0) room_1.cells room_1.slots (s₁.setTop (entryFrame m #[(.int p1), (.int p2), (.int p3), (.int p4), (.int p5)] maxLocals))
  refine own_goW (fun zt zk => castTop (own_ef_own_law m p1 p2 p3 p4 p5) zk) ?_
  show own_GoW p e below s _ _ _ _ (s₁.setTop (mkF m 0 #[iv p1, iv p2, iv p3, iv p4, iv p5, .unset, .unset, .unset, .unset, .unset, .unset, .unset] []))
  refine own_goW (fun zt zk => (XS.iloadN X0.here hx rfl (hb hby at_0) rfl (X0.ldcI hx hown (mvT hZ (hw _ (List.mem_of_getElem? (i := 0) rfl))) (g := (mkF m 1 #[iv p1, iv p2, iv p3, iv p4, iv p5, .unset, .unset, .unset, .unset, .unset, .unset, .unset] [(.int p1)])) rfl (hb hby at_1) (XS.iand X0.here hx rfl (hb hby at_3) rfl (XS.iconst X0.here hx rfl (hb hby at_4) (iremM X0 hx rfl (hb hby at_5) rfl (by decide) (XS.istore X0.here hx rfl (hb hby at_6) rfl (l' := #[iv p1, iv p2, iv p3, iv p4, iv p5, iv ((p1 &&& (2147483647 : Int32)) % (5 : Int32)), .unset, .unset, .unset, .unset, .unset, .unset]) rfl zk))))))) ?_
  show own_GoW p e below s _ _ _ _ (s₁.setTop (mkF m 8 #[iv p1, iv p2, iv p3, iv p4, iv p5, iv ((p1 &&& (2147483647 : Int32)) % (5 : Int32)), .unset, .unset, .unset, .unset, .unset, .unset] []))
  generalize hv_k : ((p1 &&& (2147483647 : Int32)) % (5 : Int32)) = k
  show own_GoW p e below s _ _ _ _ (s₁.setTop (mkF m 8 #[iv p1, iv p2, iv p3, iv p4, iv p5, iv k, .unset, .unset, .unset, .unset, .unset, .unset] []))
  refine own_goW (fun zt zk => (XS.iloadN X0.here hx rfl (hb hby at_8) rfl (X0.ldcI hx hown (mvT hZ (hw _ (List.mem_of_getElem? (i := 1) rfl))) (g := (mkF m 9 #[iv p1, iv p2, iv p3, iv p4, iv p5, iv k, .unset, .unset, .unset, .unset, .unset, .unset] [(.int p2)])) rfl (hb hby at_9) (XS.iand X0.here hx rfl (hb hby at_11) rfl (XS.i2c X0.here hx rfl (hb hby at_12) rfl zk))))) ?_
  show own_GoW p e below s _ _ _ _ (s₁.setTop (mkF m 13 #[iv p1, iv p2, iv p3, iv p4, iv p5, iv k, .unset, .unset, .unset, .unset, .unset, .unset] [(.int ((p2 &&& (65535 : Int32)).toUInt32.toUInt16.toUInt32.toInt32))]))
  generalize hv_c1 : ((p2 &&& (65535 : Int32)).toUInt32.toUInt16.toUInt32.toInt32) = c1
  have hr_c1 := own_r16 hv_c1
  show own_GoW p e below s _ _ _ _ (s₁.setTop (mkF m 13 #[iv p1, iv p2, iv p3, iv p4, iv p5, iv k, .unset, .unset, .unset, .unset, .unset, .unset] [(.int c1)]))
  refine own_goW (fun zt zk => (XS.istore X0.here hx rfl (hb hby at_13) rfl (l' := #[iv p1, iv p2, iv p3, iv p4, iv p5, iv k, iv c1, .unset, .unset, .unset, .unset, .unset]) rfl (XS.iloadN X0.here hx rfl (hb hby at_15) rfl (X0.ldcI hx hown (mvT hZ (hw _ (List.mem_of_getElem? (i := 1) rfl))) (g := (mkF m 16 #[iv p1, iv p2, iv p3, iv p4, iv p5, iv k, iv c1, .unset, .unset, .unset, .unset, .unset] [(.int p3)])) rfl (hb hby at_16) (XS.iand X0.here hx rfl (hb hby at_18) rfl (XS.i2c X0.here hx rfl (hb hby at_19) rfl zk)))))) ?_
  show own_GoW p e below s _ _ _ _ (s₁.setTop (mkF m 20 #[iv p1, iv p2, iv p3, iv p4, iv p5, iv k, iv c1, .unset, .unset, .unset, .unset, .unset] [(.int ((p3 &&& (65535 : Int32)).toUInt32.toUInt16.toUInt32.toInt32))]))
  generalize hv_c2 : ((p3 &&& (65535 : Int32)).toUInt32.toUInt16.toUInt32.toInt32) = c2
  have hr_c2 := own_r16 hv_c2
  show own_GoW p e below s _ _ _ _ (s₁.setTop (mkF m 20 #[iv p1, iv p2, iv p3, iv p4, iv p5, iv k, iv c1, .unset, .unset, .unset, .unset, .unset] [(.int c2)]))
  refine own_goW (fun zt zk => (XS.istore X0.here hx rfl (hb hby at_20) rfl (l' := #[iv p1, iv p2, iv p3, iv p4, iv p5, iv k, iv c1, iv c2, .unset, .unset, .unset, .unset]) rfl (XS.iloadN X0.here hx rfl (hb hby at_22) rfl (X0.ldcI hx hown (mvT hZ (hw _ (List.mem_of_getElem? (i := 1) rfl))) (g := (mkF m 23 #[iv p1, iv p2, iv p3, iv p4, iv p5, iv k, iv c1, iv c2, .unset, .unset, .unset, .unset] [(.int p4)])) rfl (hb hby at_23) (XS.iand X0.here hx rfl (hb hby at_25) rfl (XS.i2c X0.here hx rfl (hb hby at_26) rfl zk)))))) ?_
  show own_GoW p e below s _ _ _ _ (s₁.setTop (mkF m 27 #[iv p1, iv p2, iv p3, iv p4, iv p5, iv k, iv c1, iv c2, .unset, .unset, .unset, .unset] [(.int ((p4 &&& (65535 : Int32)).toUInt32.toUInt16.toUInt32.toInt32))]))
  generalize hv_c3 : ((p4 &&& (65535 : Int32)).toUInt32.toUInt16.toUInt32.toInt32) = c3
  have hr_c3 := own_r16 hv_c3
  show own_GoW p e below s _ _ _ _ (s₁.setTop (mkF m 27 #[iv p1, iv p2, iv p3, iv p4, iv p5, iv k, iv c1, iv c2, .unset, .unset, .unset, .unset] [(.int c3)]))
  refine own_goW (fun zt zk => (XS.istore X0.here hx rfl (hb hby at_27) rfl (l' := #[iv p1, iv p2, iv p3, iv p4, iv p5, iv k, iv c1, iv c2, iv c3, .unset, .unset, .unset]) rfl (XS.iload X0.here hx rfl (hb hby at_29) rfl (X0.ldcI hx hown (mvT hZ (hw _ (List.mem_of_getElem? (i := 1) rfl))) (g := (mkF m 31 #[iv p1, iv p2, iv p3, iv p4, iv p5, iv k, iv c1, iv c2, iv c3, .unset, .unset, .unset] [(.int p5)])) rfl (hb hby at_31) (XS.iand X0.here hx rfl (hb hby at_33) rfl (XS.i2c X0.here hx rfl (hb hby at_34) rfl zk)))))) ?_
  show own_GoW p e below s _ _ _ _ (s₁.setTop (mkF m 35 #[iv p1, iv p2, iv p3, iv p4, iv p5, iv k, iv c1, iv c2, iv c3, .unset, .unset, .unset] [(.int ((p5 &&& (65535 : Int32)).toUInt32.toUInt16.toUInt32.toInt32))]))
  generalize hv_c4 : ((p5 &&& (65535 : Int32)).toUInt32.toUInt16.toUInt32.toInt32) = c4
  have hr_c4 := own_r16 hv_c4
  show own_GoW p e below s _ _ _ _ (s₁.setTop (mkF m 35 #[iv p1, iv p2, iv p3, iv p4, iv p5, iv k, iv c1, iv c2, iv c3, .unset, .unset, .unset] [(.int c4)]))
  refine own_goW (fun zt zk => (XS.istore X0.here hx rfl (hb hby at_35) rfl (l' := #[iv p1, iv p2, iv p3, iv p4, iv p5, iv k, iv c1, iv c2, iv c3, iv c4, .unset, .unset]) rfl zk)) ?_
  show own_GoW p e below s _ _ _ _ (s₁.setTop (mkF m 37 #[iv p1, iv p2, iv p3, iv p4, iv p5, iv k, iv c1, iv c2, iv c3, iv c4, .unset, .unset] []))
  obtain ⟨T1, h1, X1, e1, E1, A1, D1, -, st1⟩ := newO X0 hx hZ hown (hw _ (List.mem_of_getElem? (i := 2) rfl)) (hw _ (List.mem_of_getElem? (i := 3) rfl)) (hw _ (List.mem_of_getElem? (i := 4) rfl)) e0 (g := (mkF m 37 #[iv p1, iv p2, iv p3, iv p4, iv p5, iv k, iv c1, iv c2, iv c3, iv c4, .unset, .unset] [])) rfl (hb hby at_37) (by decide) (by decide)
  obtain ⟨b1, g1⟩ : ∃ z, z = h0.size := ⟨_, rfl⟩
  rw [← g1] at A1 D1 st1
  refine own_goW st1 ?_
  have sz_b1 : h0.size ≤ b1 := Nat.le_trans Kp.1 (Nat.le_of_eq g1.symm)
  have g_b1 : n0 ≤ b1 := Nat.le_trans Z0 sz_b1
  have Sf_b1 : Safe Z own_EL s.vm h0 b1 := Safe.new (Nat.le_of_eq g1.symm)
  replace O := O.ext E1
  replace Kp := Kp.ext E1
  replace Sf_b1 := Safe.ext E1 Rc.1 Sf_b1
  replace Rc := Rc.trans (CHr.ext E1 Rc.1)
  replace hk := Nat.le_trans hk E1.1
  have Ex_b1 := A1
  have F_value_b1 : Fld Z h1 b1 "java/lang/String" "value" "[B" .null := D1 (Or.inr (hw _ (List.mem_of_getElem? (i := 22) rfl))) (ty := (.array .byte)) (by decide)
  have F_coder_b1 : Fld Z h1 b1 "java/lang/String" "coder" "B" (.int (0 : Int32)) := D1 (Or.inr (hw _ (List.mem_of_getElem? (i := 23) rfl))) (ty := .byte) (by decide)
  show own_GoW p e below s _ _ _ _ (T1.setTop (mkF m 40 #[iv p1, iv p2, iv p3, iv p4, iv p5, iv k, iv c1, iv c2, iv c3, iv c4, .unset, .unset] [(.ref b1)]))
  refine own_goW (fun zt zk => (XS.dup X1.here hx rfl (hb hby at_40) rfl rfl (XS.iload X1.here hx rfl (hb hby at_41) rfl (XS.iload X1.here hx rfl (hb hby at_43) rfl (XS.iload X1.here hx rfl (hb hby at_45) rfl (XS.iload X1.here hx rfl (hb hby at_47) rfl (XS.iload X1.here hx rfl (hb hby at_49) rfl zk))))))) ?_
  show own_GoW p e below s _ _ _ _ (T1.setTop (mkF m 51 #[iv p1, iv p2, iv p3, iv p4, iv p5, iv k, iv c1, iv c2, iv c3, iv c4, .unset, .unset] [(.int c4), (.int c3), (.int c2), (.int c1), (.int k), (.ref b1), (.ref b1)]))
  by_cases hk0_k : k = (0 : Int32)
  · subst hk0_k
    show own_GoW p e below s _ _ _ _ (T1.setTop (mkF m 51 #[iv p1, iv p2, iv p3, iv p4, iv p5, iv (0 : Int32), iv c1, iv c2, iv c3, iv c4, .unset, .unset] [(.int c4), (.int c3), (.int c2), (.int c1), (.int (0 : Int32)), (.ref b1), (.ref b1)]))
    have lo_ := Ex_b1.lt
    obtain ⟨_, _, ⟨T2, L2, k2, n2⟩, -, X2, ⟨Lc2, hQ2, l2, y2, z2⟩, st2⟩ := Jvm.LawKit.callS X1 hx (y := (⟨"com/example/mortise/mortise/http/HeadersIsValuePinLaw", "chars", "(ICCCC)[C"⟩ : MethodName)) hown (mvT hZ (hw _ (List.mem_of_getElem? (i := 5) rfl))) (mvT hZ (hw _ (List.mem_of_getElem? (i := 6) rfl))) (mvT hZ (hw _ (List.mem_of_getElem? (i := 7) rfl))) (mvT hZ (hw _ (List.mem_of_getElem? (i := 8) rfl))) (by decide) (backOf (W := 2) (own_rchars0 l Z a0 hw [] c1 c2 c3 c4  h1 n0 (Nat.le_trans Z0 Kp.1) hr_c1 hr_c2 hr_c3 hr_c4) hZ (hw _ (List.mem_of_getElem? (i := 8) rfl)) (hw _ (List.mem_of_getElem? (i := 7) rfl)) (by decide) (by decide)) (g := (mkF m 51 #[iv p1, iv p2, iv p3, iv p4, iv p5, iv (0 : Int32), iv c1, iv c2, iv c3, iv c4, .unset, .unset] [(.int c4), (.int c3), (.int c2), (.int c1), (.int (0 : Int32)), (.ref b1), (.ref b1)])) rfl (by rw [hml]; rfl) (argsL := [(.int (0 : Int32)), (.int c1), (.int c2), (.int c3), (.int c4)]) (rest := [(.ref b1), (.ref b1)]) (lenOf own_pd__ICCCC__C rfl) rfl (by show 2 * 0 + _ ≤ _; exact Nat.le_of_eq rfl) (hb hby at_51) (fun _ _ => ⟨rfl, e1, (by decide : 1 + 1 ≤ _), (by decide : 4 + 0 ≤ _)⟩)
    dsimp only [Pt.U, Pt.locs, Pt.cells, Pt.slots] at X2 l2 y2 z2 st2 hQ2
    subst l2 y2 z2
    obtain ⟨b2, kb2, rfl, Nq2, K2, sz_b2, V_b2⟩ := hQ2
    have N2 := Fr.app N0 Nq2
    refine own_goW st2 ?_
    have Sf_b1' := Safe.keep K2 all0 Rc.1 Sf_b1
    replace Rc := Rc.trans (CHr.keep K2 all0 Rc.1)
    replace hk := Nat.le_trans hk K2.1
    replace Sf_b1 := Sf_b1'
    replace O := O.keep K2 all0
    replace Kp := Kp.trans K2 all0
    replace Ex_b1 := Ex_b1.keep K2
    replace F_value_b1 := F_value_b1.keep K2 nin0
    replace F_coder_b1 := F_coder_b1.keep K2 nin0
    show own_GoW p e below s _ _ _ _ (T2.setTop (mkF m 54 #[iv p1, iv p2, iv p3, iv p4, iv p5, iv (0 : Int32), iv c1, iv c2, iv c3, iv c4, .unset, .unset] [(.ref b2), (.ref b1), (.ref b1)]))
    have ne_b2_b1 : b2 ≠ b1 := Ne.symm (Nat.ne_of_lt (Nat.lt_of_lt_of_le lo_ sz_b2))
    have hR : own_R [] := own_an
    obtain ⟨_, _, ⟨T3, L3, k3, n3⟩, -, X3, hSq3, hgq3, ⟨Lc3, hQ3, l3, y3, z3, A3⟩, st3⟩ := X2.specialBackS hx (y := (⟨"java/lang/String", "<init>", "([C)V"⟩ : MethodName)) rfl hown (mvT hZ (hw _ (List.mem_of_getElem? (i := 10) rfl))) (mvT hZ (hw _ (List.mem_of_getElem? (i := 11) rfl))) (mvT hZ (hw _ (List.mem_of_getElem? (i := 12) rfl))) (by decide) (own_backW (s := s) (W := 1) (own_rn1e l Z a0 hw [] b1 b2 kb2 s.vm T2.heap n0 (Nat.le_trans Z0 Kp.1) Ex_b1 F_value_b1 F_coder_b1 Sf_b1 V_b2 g_b1 ne_b2_b1) hZ (hw _ (List.mem_of_getElem? (i := 12) rfl)) (hw _ (List.mem_of_getElem? (i := 4) rfl)) (by decide) (by decide) hEL Rc.1) (g := (mkF m 54 #[iv p1, iv p2, iv p3, iv p4, iv p5, iv (0 : Int32), iv c1, iv c2, iv c3, iv c4, .unset, .unset] [(.ref b2), (.ref b1), (.ref b1)])) rfl (by rw [hml]; rfl) (Steps.refl _) (a := b1) (argsL := [(.ref b2)]) (rest := [(.ref b1)]) (lenOf own_pd___C_V rfl) rfl (by show 2 * 0 + _ ≤ _; exact Nat.le_of_eq rfl) (hb hby at_54) (fun _ _ => ⟨rfl, rfl, (by decide : 2 + 4 ≤ _), (by decide : 4 + 8 ≤ _)⟩)
    dsimp only [Pt.U, Pt.locs, Pt.cells, Pt.slots] at X3 l3 y3 z3 st3 hQ3 hSq3 hgq3 A3
    subst l3 y3 z3
    obtain ⟨X3, hS3, hZ3, hown3⟩ := rebS hS (hk) X3 hSq3 hgq3 hZ hown
    replace Sf_b1 := CHr.safe A3 Ex_b1.lt Sf_b1
    replace Rc := Rc.trans A3
    replace hS := hS3
    replace hZ := hZ3
    replace hown := hown3
    have hk : T3.heap.size ≤ T3.heap.size := Nat.le_refl _
    obtain ⟨t3, kb3, rfl, Nq3, K3, -, F_value_b1, F_coder_b1, Va3⟩ := hQ3
    have N3 := Fr.app N2 Nq3
    refine own_goW (fun zt zk => st3.trans zk) ?_
    replace O := O.keep K3 (allS g_b1 all0)
    replace Kp := Kp.trans K3 (allS (Or.inr sz_b1) all0)
    replace Ex_b1 := Ex_b1.keep K3
    replace V_b2 := V_b2.keep K3 (ninS ne_b2_b1 nin0)
    show own_GoW p e below s _ _ _ _ (T3.setTop (mkF m 57 #[iv p1, iv p2, iv p3, iv p4, iv p5, iv (0 : Int32), iv c1, iv c2, iv c3, iv c4, .unset, .unset] [(.ref b1)]))
    have St : own_Str Z T3.heap b1 [] := ⟨t3, kb3, [], 0, Ex_b1, F_value_b1, F_coder_b1, Va3, Or.inl ⟨rfl, rfl, fun j hj => absurd hj (Nat.not_lt_zero j)⟩⟩
    refine own_goW (fun zt zk => (XS.astore X3.here hx rfl (hb hby at_57) rfl rfl (l' := #[iv p1, iv p2, iv p3, iv p4, iv p5, iv (0 : Int32), iv c1, iv c2, iv c3, iv c4, rv b1, .unset]) rfl (XS.iconst X3.here hx rfl (hb hby at_59) (XS.istore X3.here hx rfl (hb hby at_60) rfl (l' := #[iv p1, iv p2, iv p3, iv p4, iv p5, iv (0 : Int32), iv c1, iv c2, iv c3, iv c4, rv b1, iv (1 : Int32)]) rfl (XS.iload X3.here hx rfl (hb hby at_62) rfl (XS.ifYes X3.here hx rfl (pc0 := 64) (pc' := 78) rfl (hb hby at_64) rfl ((if0 _ _).trans (flt ((own_irr _) : ¬ ((0 : Int32) < (0 : Int32)))).2.2.2) (by decide) (by decide) (XS.iload X3.here hx rfl (hb hby at_78) rfl (XS.iconst X3.here hx rfl (hb hby at_80) (XS.icmpYes X3.here hx rfl (pc0 := 81) (pc' := 95) rfl (hb hby at_81) rfl (flt ((by decide) : ¬ ((1 : Int32) < (0 : Int32)))).2.2.2 (by decide) (by decide) (XS.iload X3.here hx rfl (hb hby at_95) rfl (XS.iconst X3.here hx rfl (hb hby at_97) (XS.icmpYes X3.here hx rfl (pc0 := 98) (pc' := 112) rfl (hb hby at_98) rfl (flt ((by decide) : ¬ ((2 : Int32) < (0 : Int32)))).2.2.2 (by decide) (by decide) (XS.iload X3.here hx rfl (hb hby at_112) rfl zk))))))))))))) ?_
    show own_GoW p e below s _ _ _ _ (T3.setTop (mkF m 114 #[iv p1, iv p2, iv p3, iv p4, iv p5, iv (0 : Int32), iv c1, iv c2, iv c3, iv c4, rv b1, iv (1 : Int32)] [(.int (0 : Int32))]))
    refine own_goW (fun zt zk => (XS.iconst X3.here hx rfl (hb hby at_114) (XS.icmpYes X3.here hx rfl (pc0 := 115) (pc' := 129) rfl (hb hby at_115) rfl (flt ((by decide) : ¬ ((3 : Int32) < (0 : Int32)))).2.2.2 (by decide) (by decide) (XS.aload X3.here hx rfl (hb hby at_129) rfl rfl zk)))) ?_
    show own_GoW p e below s _ _ _ _ (T3.setTop (mkF m 131 #[iv p1, iv p2, iv p3, iv p4, iv p5, iv (0 : Int32), iv c1, iv c2, iv c3, iv c4, rv b1, iv (1 : Int32)] [(.ref b1)]))
    obtain ⟨_, _, ⟨T4, L4, k4, n4⟩, -, X4, ⟨Lc4, hQ4, l4, y4, z4⟩, st4⟩ := Jvm.LawKit.callS X3 hx (y := (⟨"com/example/mortise/mortise/http/Headers", "isValue", "(Ljava/lang/String;)Z"⟩ : MethodName)) hown (mvT hZ (hw _ (List.mem_of_getElem? (i := 28) rfl))) (mvT hZ (hw _ (List.mem_of_getElem? (i := 29) rfl))) (mvT hZ (hw _ (List.mem_of_getElem? (i := 30) rfl))) (mvT hZ (hw _ (List.mem_of_getElem? (i := 31) rfl))) (by decide) (backOf (W := 0) (own_risv l Z a0 hw [] b1 o_COMPACT_STRINGS o_SIOOBE_FORMATTER [] T3.heap n0 (Nat.le_trans Z0 Kp.1) O S_o_COMPACT_STRINGS S_o_SIOOBE_FORMATTER S_o__assertionsDisabled S_o_HI_BYTE_SHIFT S_o_LO_BYTE_SHIFT nz_o_COMPACT_STRINGS St (Nat.le_of_ble_eq_true rfl) r_o_SIOOBE_FORMATTER hR) hZ (hw _ (List.mem_of_getElem? (i := 31) rfl)) (hw _ (List.mem_of_getElem? (i := 30) rfl)) (by decide) (by decide)) (g := (mkF m 131 #[iv p1, iv p2, iv p3, iv p4, iv p5, iv (0 : Int32), iv c1, iv c2, iv c3, iv c4, rv b1, iv (1 : Int32)] [(.ref b1)])) rfl (by rw [hml]; rfl) (argsL := [(.ref b1)]) (rest := []) (lenOf own_pd__Ljava_lang_String__Z rfl) rfl (by show 2 * 0 + _ ≤ _; exact Nat.le_of_eq rfl) (hb hby at_131) (fun _ _ => ⟨rfl, rfl, (by decide : 6 + 0 ≤ _), (by decide : 12 + 0 ≤ _)⟩)
    dsimp only [Pt.U, Pt.locs, Pt.cells, Pt.slots] at X4 l4 y4 z4 st4 hQ4
    subst l4 y4 z4
    obtain ⟨hv4, Nq4, e4⟩ := hQ4
    rw [show own_all [] = (1 : Int32) from by simp [own_all]] at hv4
    subst hv4
    have N4 := Fr.app N3 Nq4
    refine own_goW st4 ?_
    show own_GoW p e below s _ _ _ _ (T4.setTop (mkF m 134 #[iv p1, iv p2, iv p3, iv p4, iv p5, iv (0 : Int32), iv c1, iv c2, iv c3, iv c4, rv b1, iv (1 : Int32)] [(.int (1 : Int32))]))
    refine own_goW (fun zt zk => (XS.iload X4.here hx rfl (hb hby at_134) rfl (XS.icmpNo X4.here hx rfl (hb hby at_136) rfl (teq (rfl : (1 : Int32) = (1 : Int32))).2 (XS.iconst X4.here hx rfl (hb hby at_139) (XS.goto X4.here hx rfl (pc0 := 140) (pc' := 144) rfl (hb hby at_140) (by decide) (by decide) zk))))) ?_
    show own_GoW p e below s _ _ _ _ (T4.setTop (mkF m 144 #[iv p1, iv p2, iv p3, iv p4, iv p5, iv (0 : Int32), iv c1, iv c2, iv c3, iv c4, rv b1, iv (1 : Int32)] [(.int (1 : Int32))]))
    have Re := Rc.trans (CHv.at X4 hZ hEL Rc.1)
    exact own_finW X4 hS (by rw [e4]; exact hk) (by rw [e4, hh]; exact Re) Bd.notSynchronized (fun h => by rw [Bd.returns] at h; cases h) (fun fs hr => retN X4 hx (t := .boolean) Bd.returns (by simp) (hb hby at_144) hr) (by rw [e4]; exact ⟨rfl, N4⟩) (by decide) (by decide)
  · by_cases hk1_k : k = (1 : Int32)
    · subst hk1_k
      show own_GoW p e below s _ _ _ _ (T1.setTop (mkF m 51 #[iv p1, iv p2, iv p3, iv p4, iv p5, iv (1 : Int32), iv c1, iv c2, iv c3, iv c4, .unset, .unset] [(.int c4), (.int c3), (.int c2), (.int c1), (.int (1 : Int32)), (.ref b1), (.ref b1)]))
      have lo_ := Ex_b1.lt
      obtain ⟨_, _, ⟨T5, L5, k5, n5⟩, -, X5, ⟨Lc5, hQ5, l5, y5, z5⟩, st5⟩ := Jvm.LawKit.callS X1 hx (y := (⟨"com/example/mortise/mortise/http/HeadersIsValuePinLaw", "chars", "(ICCCC)[C"⟩ : MethodName)) hown (mvT hZ (hw _ (List.mem_of_getElem? (i := 5) rfl))) (mvT hZ (hw _ (List.mem_of_getElem? (i := 6) rfl))) (mvT hZ (hw _ (List.mem_of_getElem? (i := 7) rfl))) (mvT hZ (hw _ (List.mem_of_getElem? (i := 8) rfl))) (by decide) (backOf (W := 2) (own_rchars1 l Z a0 hw [] c1 c2 c3 c4  h1 n0 (Nat.le_trans Z0 Kp.1) hr_c1 hr_c2 hr_c3 hr_c4) hZ (hw _ (List.mem_of_getElem? (i := 8) rfl)) (hw _ (List.mem_of_getElem? (i := 7) rfl)) (by decide) (by decide)) (g := (mkF m 51 #[iv p1, iv p2, iv p3, iv p4, iv p5, iv (1 : Int32), iv c1, iv c2, iv c3, iv c4, .unset, .unset] [(.int c4), (.int c3), (.int c2), (.int c1), (.int (1 : Int32)), (.ref b1), (.ref b1)])) rfl (by rw [hml]; rfl) (argsL := [(.int (1 : Int32)), (.int c1), (.int c2), (.int c3), (.int c4)]) (rest := [(.ref b1), (.ref b1)]) (lenOf own_pd__ICCCC__C rfl) rfl (by show 2 * 0 + _ ≤ _; exact Nat.le_of_eq rfl) (hb hby at_51) (fun _ _ => ⟨rfl, e1, (by decide : 1 + 1 ≤ _), (by decide : 4 + 1 ≤ _)⟩)
      dsimp only [Pt.U, Pt.locs, Pt.cells, Pt.slots] at X5 l5 y5 z5 st5 hQ5
      subst l5 y5 z5
      obtain ⟨b5, kb5, rfl, Nq5, K5, sz_b5, V_b5⟩ := hQ5
      have N5 := Fr.app N0 Nq5
      refine own_goW st5 ?_
      have Sf_b1' := Safe.keep K5 all0 Rc.1 Sf_b1
      replace Rc := Rc.trans (CHr.keep K5 all0 Rc.1)
      replace hk := Nat.le_trans hk K5.1
      replace Sf_b1 := Sf_b1'
      replace O := O.keep K5 all0
      replace Kp := Kp.trans K5 all0
      replace Ex_b1 := Ex_b1.keep K5
      replace F_value_b1 := F_value_b1.keep K5 nin0
      replace F_coder_b1 := F_coder_b1.keep K5 nin0
      show own_GoW p e below s _ _ _ _ (T5.setTop (mkF m 54 #[iv p1, iv p2, iv p3, iv p4, iv p5, iv (1 : Int32), iv c1, iv c2, iv c3, iv c4, .unset, .unset] [(.ref b5), (.ref b1), (.ref b1)]))
      have ne_b5_b1 : b5 ≠ b1 := Ne.symm (Nat.ne_of_lt (Nat.lt_of_lt_of_le lo_ sz_b5))
      have hR : own_R [c1] := (own_ac hr_c1 own_an)
      obtain ⟨_, _, ⟨T6, L6, k6, n6⟩, -, X6, ⟨Lc6, hQ6, l6, y6, z6⟩, st6⟩ := X5.specialBack hx (y := (⟨"java/lang/String", "<init>", "([C)V"⟩ : MethodName)) rfl hown (mvT hZ (hw _ (List.mem_of_getElem? (i := 10) rfl))) (mvT hZ (hw _ (List.mem_of_getElem? (i := 11) rfl))) (mvT hZ (hw _ (List.mem_of_getElem? (i := 12) rfl))) (by decide) (backOf (W := 1) (own_ri1 l Z a0 hw [] b1 b5 o_COMPACT_STRINGS kb5 [c1] T5.heap n0 (Nat.le_trans Z0 Kp.1) O S_o_COMPACT_STRINGS S_o__assertionsDisabled S_o_HI_BYTE_SHIFT S_o_LO_BYTE_SHIFT Ex_b1 F_value_b1 F_coder_b1 V_b5 g_b1 nz_o_COMPACT_STRINGS (Nat.le_of_ble_eq_true rfl) (Nat.le_of_ble_eq_true rfl) hR ne_b5_b1) hZ (hw _ (List.mem_of_getElem? (i := 12) rfl)) (hw _ (List.mem_of_getElem? (i := 4) rfl)) (by decide) (by decide)) (g := (mkF m 54 #[iv p1, iv p2, iv p3, iv p4, iv p5, iv (1 : Int32), iv c1, iv c2, iv c3, iv c4, .unset, .unset] [(.ref b5), (.ref b1), (.ref b1)])) rfl (by rw [hml]; rfl) (Steps.refl _) (a := b1) (argsL := [(.ref b5)]) (rest := [(.ref b1)]) (lenOf own_pd___C_V rfl) rfl (by show 2 * 0 + _ ≤ _; exact Nat.le_of_eq rfl) (hb hby at_54) (fun _ _ => ⟨rfl, rfl, (by decide : 2 + 2 ≤ _), (by decide : 5 + 12 ≤ _)⟩)
      dsimp only [Pt.U, Pt.locs, Pt.cells, Pt.slots] at X6 l6 y6 z6 st6 hQ6
      subst l6 y6 z6
      obtain ⟨rfl, Nq6, K6, St⟩ := hQ6
      have N6 := Fr.app N5 Nq6
      refine own_goW (fun zt zk => st6.trans zk) ?_
      have Sf_b1' := Safe.keep K6 (allS Sf_b1 all0) Rc.1 Sf_b1
      replace Rc := Rc.trans (CHr.keep K6 (allS Sf_b1 all0) Rc.1)
      replace hk := Nat.le_trans hk K6.1
      replace Sf_b1 := Sf_b1'
      replace O := O.keep K6 (allS g_b1 all0)
      replace Kp := Kp.trans K6 (allS (Or.inr sz_b1) all0)
      replace Ex_b1 := Ex_b1.keep K6
      replace V_b5 := V_b5.keep K6 (ninS ne_b5_b1 nin0)
      show own_GoW p e below s _ _ _ _ (T6.setTop (mkF m 57 #[iv p1, iv p2, iv p3, iv p4, iv p5, iv (1 : Int32), iv c1, iv c2, iv c3, iv c4, .unset, .unset] [(.ref b1)]))
      refine own_goW (fun zt zk => (XS.astore X6.here hx rfl (hb hby at_57) rfl rfl (l' := #[iv p1, iv p2, iv p3, iv p4, iv p5, iv (1 : Int32), iv c1, iv c2, iv c3, iv c4, rv b1, .unset]) rfl (XS.iconst X6.here hx rfl (hb hby at_59) (XS.istore X6.here hx rfl (hb hby at_60) rfl (l' := #[iv p1, iv p2, iv p3, iv p4, iv p5, iv (1 : Int32), iv c1, iv c2, iv c3, iv c4, rv b1, iv (1 : Int32)]) rfl (XS.iload X6.here hx rfl (hb hby at_62) rfl (XS.ifNo X6.here hx rfl (hb hby at_64) rfl ((if0 _ _).trans (tlt ((by decide) : (0 : Int32) < (1 : Int32))).2.2.2) (XS.iload X6.here hx rfl (hb hby at_67) rfl zk))))))) ?_
      show own_GoW p e below s _ _ _ _ (T6.setTop (mkF m 69 #[iv p1, iv p2, iv p3, iv p4, iv p5, iv (1 : Int32), iv c1, iv c2, iv c3, iv c4, rv b1, iv (1 : Int32)] [(.int c1)]))
      obtain ⟨_, _, ⟨T7, L7, k7, n7⟩, -, X7, ⟨Lc7, hQ7, l7, y7, z7⟩, st7⟩ := Jvm.LawKit.callS X6 hx (y := (⟨"com/example/mortise/mortise/http/HeadersIsValuePinLaw", "fieldChar", "(C)Z"⟩ : MethodName)) hown (mvT hZ (hw _ (List.mem_of_getElem? (i := 53) rfl))) (mvT hZ (hw _ (List.mem_of_getElem? (i := 54) rfl))) (mvT hZ (hw _ (List.mem_of_getElem? (i := 7) rfl))) (mvT hZ (hw _ (List.mem_of_getElem? (i := 55) rfl))) (by decide) (backOf (W := 0) (own_rfc l Z a0 hw [] c1  T6.heap n0 (Nat.le_trans Z0 Kp.1) ) hZ (hw _ (List.mem_of_getElem? (i := 55) rfl)) (hw _ (List.mem_of_getElem? (i := 7) rfl)) (by decide) (by decide)) (g := (mkF m 69 #[iv p1, iv p2, iv p3, iv p4, iv p5, iv (1 : Int32), iv c1, iv c2, iv c3, iv c4, rv b1, iv (1 : Int32)] [(.int c1)])) rfl (by rw [hml]; rfl) (argsL := [(.int c1)]) (rest := []) (lenOf own_pd__C_Z rfl) rfl (by show 2 * 0 + _ ≤ _; exact Nat.le_of_eq rfl) (hb hby at_69) (fun _ _ => ⟨rfl, rfl, (by decide : 4 + 0 ≤ _), (by decide : 17 + 0 ≤ _)⟩)
      dsimp only [Pt.U, Pt.locs, Pt.cells, Pt.slots] at X7 l7 y7 z7 st7 hQ7
      subst l7 y7 z7
      obtain ⟨rfl, Nq7, e7⟩ := hQ7
      have N7 := Fr.app N6 Nq7
      refine own_goW st7 ?_
      show own_GoW p e below s _ _ _ _ (T7.setTop (mkF m 72 #[iv p1, iv p2, iv p3, iv p4, iv p5, iv (1 : Int32), iv c1, iv c2, iv c3, iv c4, rv b1, iv (1 : Int32)] [(.int (own_fc c1))]))
      by_cases hf0 : (own_fc c1) = (0 : Int32)
      · refine own_goW (fun zt zk => (XS.ifNo X7.here hx rfl (hb hby at_72) rfl ((if0 _ _).trans (teq (hf0 : (own_fc c1) = (0 : Int32))).2) (XS.iconst X7.here hx rfl (hb hby at_75) (XS.istore X7.here hx rfl (hb hby at_76) rfl (l' := #[iv p1, iv p2, iv p3, iv p4, iv p5, iv (1 : Int32), iv c1, iv c2, iv c3, iv c4, rv b1, iv (0 : Int32)]) rfl (XS.iload X7.here hx rfl (hb hby at_78) rfl (XS.iconst X7.here hx rfl (hb hby at_80) (XS.icmpYes X7.here hx rfl (pc0 := 81) (pc' := 95) rfl (hb hby at_81) rfl (flt ((own_irr _) : ¬ ((1 : Int32) < (1 : Int32)))).2.2.2 (by decide) (by decide) (XS.iload X7.here hx rfl (hb hby at_95) rfl (XS.iconst X7.here hx rfl (hb hby at_97) (XS.icmpYes X7.here hx rfl (pc0 := 98) (pc' := 112) rfl (hb hby at_98) rfl (flt ((by decide) : ¬ ((2 : Int32) < (1 : Int32)))).2.2.2 (by decide) (by decide) (XS.iload X7.here hx rfl (hb hby at_112) rfl (XS.iconst X7.here hx rfl (hb hby at_114) (XS.icmpYes X7.here hx rfl (pc0 := 115) (pc' := 129) rfl (hb hby at_115) rfl (flt ((by decide) : ¬ ((3 : Int32) < (1 : Int32)))).2.2.2 (by decide) (by decide) zk))))))))))))) ?_
        show own_GoW p e below s _ _ _ _ (T7.setTop (mkF m 129 #[iv p1, iv p2, iv p3, iv p4, iv p5, iv (1 : Int32), iv c1, iv c2, iv c3, iv c4, rv b1, iv (0 : Int32)] []))
        refine own_goW (fun zt zk => (XS.aload X7.here hx rfl (hb hby at_129) rfl rfl zk)) ?_
        show own_GoW p e below s _ _ _ _ (T7.setTop (mkF m 131 #[iv p1, iv p2, iv p3, iv p4, iv p5, iv (1 : Int32), iv c1, iv c2, iv c3, iv c4, rv b1, iv (0 : Int32)] [(.ref b1)]))
        obtain ⟨_, _, ⟨T8, L8, k8, n8⟩, -, X8, ⟨Lc8, hQ8, l8, y8, z8⟩, st8⟩ := Jvm.LawKit.callS X7 hx (y := (⟨"com/example/mortise/mortise/http/Headers", "isValue", "(Ljava/lang/String;)Z"⟩ : MethodName)) hown (mvT hZ (hw _ (List.mem_of_getElem? (i := 28) rfl))) (mvT hZ (hw _ (List.mem_of_getElem? (i := 29) rfl))) (mvT hZ (hw _ (List.mem_of_getElem? (i := 30) rfl))) (mvT hZ (hw _ (List.mem_of_getElem? (i := 31) rfl))) (by decide) (backOf (W := 0) (own_risv l Z a0 hw [] b1 o_COMPACT_STRINGS o_SIOOBE_FORMATTER [c1] T6.heap n0 (Nat.le_trans Z0 Kp.1) O S_o_COMPACT_STRINGS S_o_SIOOBE_FORMATTER S_o__assertionsDisabled S_o_HI_BYTE_SHIFT S_o_LO_BYTE_SHIFT nz_o_COMPACT_STRINGS St (Nat.le_of_ble_eq_true rfl) r_o_SIOOBE_FORMATTER hR) hZ (hw _ (List.mem_of_getElem? (i := 31) rfl)) (hw _ (List.mem_of_getElem? (i := 30) rfl)) (by decide) (by decide)) (g := (mkF m 131 #[iv p1, iv p2, iv p3, iv p4, iv p5, iv (1 : Int32), iv c1, iv c2, iv c3, iv c4, rv b1, iv (0 : Int32)] [(.ref b1)])) rfl (by rw [hml]; rfl) (argsL := [(.ref b1)]) (rest := []) (lenOf own_pd__Ljava_lang_String__Z rfl) rfl (by show 2 * 0 + _ ≤ _; exact Nat.le_of_eq rfl) (hb hby at_131) (fun _ _ => ⟨rfl, e7, (by decide : 4 + 0 ≤ _), (by decide : 17 + 0 ≤ _)⟩)
        dsimp only [Pt.U, Pt.locs, Pt.cells, Pt.slots] at X8 l8 y8 z8 st8 hQ8
        subst l8 y8 z8
        obtain ⟨hv8, Nq8, e8⟩ := hQ8
        rw [show own_all [c1] = (0 : Int32) from by simp [own_all, hf0]] at hv8
        subst hv8
        have N8 := Fr.app N7 Nq8
        refine own_goW st8 ?_
        show own_GoW p e below s _ _ _ _ (T8.setTop (mkF m 134 #[iv p1, iv p2, iv p3, iv p4, iv p5, iv (1 : Int32), iv c1, iv c2, iv c3, iv c4, rv b1, iv (0 : Int32)] [(.int (0 : Int32))]))
        refine own_goW (fun zt zk => (XS.iload X8.here hx rfl (hb hby at_134) rfl (XS.icmpNo X8.here hx rfl (hb hby at_136) rfl (teq (rfl : (0 : Int32) = (0 : Int32))).2 (XS.iconst X8.here hx rfl (hb hby at_139) (XS.goto X8.here hx rfl (pc0 := 140) (pc' := 144) rfl (hb hby at_140) (by decide) (by decide) zk))))) ?_
        show own_GoW p e below s _ _ _ _ (T8.setTop (mkF m 144 #[iv p1, iv p2, iv p3, iv p4, iv p5, iv (1 : Int32), iv c1, iv c2, iv c3, iv c4, rv b1, iv (0 : Int32)] [(.int (1 : Int32))]))
        have Re := Rc.trans (CHv.at X8 hZ hEL Rc.1)
        exact own_finW X8 hS (by rw [e8]; exact hk) (by rw [e8, hh]; exact Re) Bd.notSynchronized (fun h => by rw [Bd.returns] at h; cases h) (fun fs hr => retN X8 hx (t := .boolean) Bd.returns (by simp) (hb hby at_144) hr) (by rw [e8]; exact ⟨rfl, N8⟩) (by decide) (by decide)
      · refine own_goW (fun zt zk => (XS.ifYes X7.here hx rfl (pc0 := 72) (pc' := 78) rfl (hb hby at_72) rfl ((if0 _ _).trans (feq (hf0 : ¬ ((own_fc c1) = (0 : Int32)))).2) (by decide) (by decide) (XS.iload X7.here hx rfl (hb hby at_78) rfl (XS.iconst X7.here hx rfl (hb hby at_80) (XS.icmpYes X7.here hx rfl (pc0 := 81) (pc' := 95) rfl (hb hby at_81) rfl (flt ((own_irr _) : ¬ ((1 : Int32) < (1 : Int32)))).2.2.2 (by decide) (by decide) (XS.iload X7.here hx rfl (hb hby at_95) rfl (XS.iconst X7.here hx rfl (hb hby at_97) (XS.icmpYes X7.here hx rfl (pc0 := 98) (pc' := 112) rfl (hb hby at_98) rfl (flt ((by decide) : ¬ ((2 : Int32) < (1 : Int32)))).2.2.2 (by decide) (by decide) (XS.iload X7.here hx rfl (hb hby at_112) rfl (XS.iconst X7.here hx rfl (hb hby at_114) (XS.icmpYes X7.here hx rfl (pc0 := 115) (pc' := 129) rfl (hb hby at_115) rfl (flt ((by decide) : ¬ ((3 : Int32) < (1 : Int32)))).2.2.2 (by decide) (by decide) (XS.aload X7.here hx rfl (hb hby at_129) rfl rfl zk)))))))))))) ?_
        show own_GoW p e below s _ _ _ _ (T7.setTop (mkF m 131 #[iv p1, iv p2, iv p3, iv p4, iv p5, iv (1 : Int32), iv c1, iv c2, iv c3, iv c4, rv b1, iv (1 : Int32)] [(.ref b1)]))
        obtain ⟨_, _, ⟨T9, L9, k9, n9⟩, -, X9, ⟨Lc9, hQ9, l9, y9, z9⟩, st9⟩ := Jvm.LawKit.callS X7 hx (y := (⟨"com/example/mortise/mortise/http/Headers", "isValue", "(Ljava/lang/String;)Z"⟩ : MethodName)) hown (mvT hZ (hw _ (List.mem_of_getElem? (i := 28) rfl))) (mvT hZ (hw _ (List.mem_of_getElem? (i := 29) rfl))) (mvT hZ (hw _ (List.mem_of_getElem? (i := 30) rfl))) (mvT hZ (hw _ (List.mem_of_getElem? (i := 31) rfl))) (by decide) (backOf (W := 0) (own_risv l Z a0 hw [] b1 o_COMPACT_STRINGS o_SIOOBE_FORMATTER [c1] T6.heap n0 (Nat.le_trans Z0 Kp.1) O S_o_COMPACT_STRINGS S_o_SIOOBE_FORMATTER S_o__assertionsDisabled S_o_HI_BYTE_SHIFT S_o_LO_BYTE_SHIFT nz_o_COMPACT_STRINGS St (Nat.le_of_ble_eq_true rfl) r_o_SIOOBE_FORMATTER hR) hZ (hw _ (List.mem_of_getElem? (i := 31) rfl)) (hw _ (List.mem_of_getElem? (i := 30) rfl)) (by decide) (by decide)) (g := (mkF m 131 #[iv p1, iv p2, iv p3, iv p4, iv p5, iv (1 : Int32), iv c1, iv c2, iv c3, iv c4, rv b1, iv (1 : Int32)] [(.ref b1)])) rfl (by rw [hml]; rfl) (argsL := [(.ref b1)]) (rest := []) (lenOf own_pd__Ljava_lang_String__Z rfl) rfl (by show 2 * 0 + _ ≤ _; exact Nat.le_of_eq rfl) (hb hby at_131) (fun _ _ => ⟨rfl, e7, (by decide : 4 + 0 ≤ _), (by decide : 17 + 0 ≤ _)⟩)
        dsimp only [Pt.U, Pt.locs, Pt.cells, Pt.slots] at X9 l9 y9 z9 st9 hQ9
        subst l9 y9 z9
        obtain ⟨hv9, Nq9, e9⟩ := hQ9
        rw [show own_all [c1] = (1 : Int32) from by simp [own_all, hf0]] at hv9
        subst hv9
        have N9 := Fr.app N7 Nq9
        refine own_goW st9 ?_
        show own_GoW p e below s _ _ _ _ (T9.setTop (mkF m 134 #[iv p1, iv p2, iv p3, iv p4, iv p5, iv (1 : Int32), iv c1, iv c2, iv c3, iv c4, rv b1, iv (1 : Int32)] [(.int (1 : Int32))]))
        refine own_goW (fun zt zk => (XS.iload X9.here hx rfl (hb hby at_134) rfl (XS.icmpNo X9.here hx rfl (hb hby at_136) rfl (teq (rfl : (1 : Int32) = (1 : Int32))).2 (XS.iconst X9.here hx rfl (hb hby at_139) (XS.goto X9.here hx rfl (pc0 := 140) (pc' := 144) rfl (hb hby at_140) (by decide) (by decide) zk))))) ?_
        show own_GoW p e below s _ _ _ _ (T9.setTop (mkF m 144 #[iv p1, iv p2, iv p3, iv p4, iv p5, iv (1 : Int32), iv c1, iv c2, iv c3, iv c4, rv b1, iv (1 : Int32)] [(.int (1 : Int32))]))
        have Re := Rc.trans (CHv.at X9 hZ hEL Rc.1)
        exact own_finW X9 hS (by rw [e9]; exact hk) (by rw [e9, hh]; exact Re) Bd.notSynchronized (fun h => by rw [Bd.returns] at h; cases h) (fun fs hr => retN X9 hx (t := .boolean) Bd.returns (by simp) (hb hby at_144) hr) (by rw [e9]; exact ⟨rfl, N9⟩) (by decide) (by decide)
    · by_cases hk2_k : k = (2 : Int32)
      · subst hk2_k
        show own_GoW p e below s _ _ _ _ (T1.setTop (mkF m 51 #[iv p1, iv p2, iv p3, iv p4, iv p5, iv (2 : Int32), iv c1, iv c2, iv c3, iv c4, .unset, .unset] [(.int c4), (.int c3), (.int c2), (.int c1), (.int (2 : Int32)), (.ref b1), (.ref b1)]))
        have lo_ := Ex_b1.lt
        obtain ⟨_, _, ⟨T10, L10, k10, n10⟩, -, X10, ⟨Lc10, hQ10, l10, y10, z10⟩, st10⟩ := Jvm.LawKit.callS X1 hx (y := (⟨"com/example/mortise/mortise/http/HeadersIsValuePinLaw", "chars", "(ICCCC)[C"⟩ : MethodName)) hown (mvT hZ (hw _ (List.mem_of_getElem? (i := 5) rfl))) (mvT hZ (hw _ (List.mem_of_getElem? (i := 6) rfl))) (mvT hZ (hw _ (List.mem_of_getElem? (i := 7) rfl))) (mvT hZ (hw _ (List.mem_of_getElem? (i := 8) rfl))) (by decide) (backOf (W := 2) (own_rchars2 l Z a0 hw [] c1 c2 c3 c4  h1 n0 (Nat.le_trans Z0 Kp.1) hr_c1 hr_c2 hr_c3 hr_c4) hZ (hw _ (List.mem_of_getElem? (i := 8) rfl)) (hw _ (List.mem_of_getElem? (i := 7) rfl)) (by decide) (by decide)) (g := (mkF m 51 #[iv p1, iv p2, iv p3, iv p4, iv p5, iv (2 : Int32), iv c1, iv c2, iv c3, iv c4, .unset, .unset] [(.int c4), (.int c3), (.int c2), (.int c1), (.int (2 : Int32)), (.ref b1), (.ref b1)])) rfl (by rw [hml]; rfl) (argsL := [(.int (2 : Int32)), (.int c1), (.int c2), (.int c3), (.int c4)]) (rest := [(.ref b1), (.ref b1)]) (lenOf own_pd__ICCCC__C rfl) rfl (by show 2 * 0 + _ ≤ _; exact Nat.le_of_eq rfl) (hb hby at_51) (fun _ _ => ⟨rfl, e1, (by decide : 1 + 1 ≤ _), (by decide : 4 + 2 ≤ _)⟩)
        dsimp only [Pt.U, Pt.locs, Pt.cells, Pt.slots] at X10 l10 y10 z10 st10 hQ10
        subst l10 y10 z10
        obtain ⟨b10, kb10, rfl, Nq10, K10, sz_b10, V_b10⟩ := hQ10
        have N10 := Fr.app N0 Nq10
        refine own_goW st10 ?_
        have Sf_b1' := Safe.keep K10 all0 Rc.1 Sf_b1
        replace Rc := Rc.trans (CHr.keep K10 all0 Rc.1)
        replace hk := Nat.le_trans hk K10.1
        replace Sf_b1 := Sf_b1'
        replace O := O.keep K10 all0
        replace Kp := Kp.trans K10 all0
        replace Ex_b1 := Ex_b1.keep K10
        replace F_value_b1 := F_value_b1.keep K10 nin0
        replace F_coder_b1 := F_coder_b1.keep K10 nin0
        show own_GoW p e below s _ _ _ _ (T10.setTop (mkF m 54 #[iv p1, iv p2, iv p3, iv p4, iv p5, iv (2 : Int32), iv c1, iv c2, iv c3, iv c4, .unset, .unset] [(.ref b10), (.ref b1), (.ref b1)]))
        have ne_b10_b1 : b10 ≠ b1 := Ne.symm (Nat.ne_of_lt (Nat.lt_of_lt_of_le lo_ sz_b10))
        have hR : own_R [c1, c2] := (own_ac hr_c1 (own_ac hr_c2 own_an))
        obtain ⟨_, _, ⟨T11, L11, k11, n11⟩, -, X11, ⟨Lc11, hQ11, l11, y11, z11⟩, st11⟩ := X10.specialBack hx (y := (⟨"java/lang/String", "<init>", "([C)V"⟩ : MethodName)) rfl hown (mvT hZ (hw _ (List.mem_of_getElem? (i := 10) rfl))) (mvT hZ (hw _ (List.mem_of_getElem? (i := 11) rfl))) (mvT hZ (hw _ (List.mem_of_getElem? (i := 12) rfl))) (by decide) (backOf (W := 1) (own_ri1 l Z a0 hw [] b1 b10 o_COMPACT_STRINGS kb10 [c1, c2] T10.heap n0 (Nat.le_trans Z0 Kp.1) O S_o_COMPACT_STRINGS S_o__assertionsDisabled S_o_HI_BYTE_SHIFT S_o_LO_BYTE_SHIFT Ex_b1 F_value_b1 F_coder_b1 V_b10 g_b1 nz_o_COMPACT_STRINGS (Nat.le_of_ble_eq_true rfl) (Nat.le_of_ble_eq_true rfl) hR ne_b10_b1) hZ (hw _ (List.mem_of_getElem? (i := 12) rfl)) (hw _ (List.mem_of_getElem? (i := 4) rfl)) (by decide) (by decide)) (g := (mkF m 54 #[iv p1, iv p2, iv p3, iv p4, iv p5, iv (2 : Int32), iv c1, iv c2, iv c3, iv c4, .unset, .unset] [(.ref b10), (.ref b1), (.ref b1)])) rfl (by rw [hml]; rfl) (Steps.refl _) (a := b1) (argsL := [(.ref b10)]) (rest := [(.ref b1)]) (lenOf own_pd___C_V rfl) rfl (by show 2 * 0 + _ ≤ _; exact Nat.le_of_eq rfl) (hb hby at_54) (fun _ _ => ⟨rfl, rfl, (by decide : 2 + 2 ≤ _), (by decide : 6 + 12 ≤ _)⟩)
        dsimp only [Pt.U, Pt.locs, Pt.cells, Pt.slots] at X11 l11 y11 z11 st11 hQ11
        subst l11 y11 z11
        obtain ⟨rfl, Nq11, K11, St⟩ := hQ11
        have N11 := Fr.app N10 Nq11
        refine own_goW (fun zt zk => st11.trans zk) ?_
        have Sf_b1' := Safe.keep K11 (allS Sf_b1 all0) Rc.1 Sf_b1
        replace Rc := Rc.trans (CHr.keep K11 (allS Sf_b1 all0) Rc.1)
        replace hk := Nat.le_trans hk K11.1
        replace Sf_b1 := Sf_b1'
        replace O := O.keep K11 (allS g_b1 all0)
        replace Kp := Kp.trans K11 (allS (Or.inr sz_b1) all0)
        replace Ex_b1 := Ex_b1.keep K11
        replace V_b10 := V_b10.keep K11 (ninS ne_b10_b1 nin0)
        show own_GoW p e below s _ _ _ _ (T11.setTop (mkF m 57 #[iv p1, iv p2, iv p3, iv p4, iv p5, iv (2 : Int32), iv c1, iv c2, iv c3, iv c4, .unset, .unset] [(.ref b1)]))
        refine own_goW (fun zt zk => (XS.astore X11.here hx rfl (hb hby at_57) rfl rfl (l' := #[iv p1, iv p2, iv p3, iv p4, iv p5, iv (2 : Int32), iv c1, iv c2, iv c3, iv c4, rv b1, .unset]) rfl (XS.iconst X11.here hx rfl (hb hby at_59) (XS.istore X11.here hx rfl (hb hby at_60) rfl (l' := #[iv p1, iv p2, iv p3, iv p4, iv p5, iv (2 : Int32), iv c1, iv c2, iv c3, iv c4, rv b1, iv (1 : Int32)]) rfl (XS.iload X11.here hx rfl (hb hby at_62) rfl (XS.ifNo X11.here hx rfl (hb hby at_64) rfl ((if0 _ _).trans (tlt ((by decide) : (0 : Int32) < (2 : Int32))).2.2.2) (XS.iload X11.here hx rfl (hb hby at_67) rfl zk))))))) ?_
        show own_GoW p e below s _ _ _ _ (T11.setTop (mkF m 69 #[iv p1, iv p2, iv p3, iv p4, iv p5, iv (2 : Int32), iv c1, iv c2, iv c3, iv c4, rv b1, iv (1 : Int32)] [(.int c1)]))
        obtain ⟨_, _, ⟨T12, L12, k12, n12⟩, -, X12, ⟨Lc12, hQ12, l12, y12, z12⟩, st12⟩ := Jvm.LawKit.callS X11 hx (y := (⟨"com/example/mortise/mortise/http/HeadersIsValuePinLaw", "fieldChar", "(C)Z"⟩ : MethodName)) hown (mvT hZ (hw _ (List.mem_of_getElem? (i := 53) rfl))) (mvT hZ (hw _ (List.mem_of_getElem? (i := 54) rfl))) (mvT hZ (hw _ (List.mem_of_getElem? (i := 7) rfl))) (mvT hZ (hw _ (List.mem_of_getElem? (i := 55) rfl))) (by decide) (backOf (W := 0) (own_rfc l Z a0 hw [] c1  T11.heap n0 (Nat.le_trans Z0 Kp.1) ) hZ (hw _ (List.mem_of_getElem? (i := 55) rfl)) (hw _ (List.mem_of_getElem? (i := 7) rfl)) (by decide) (by decide)) (g := (mkF m 69 #[iv p1, iv p2, iv p3, iv p4, iv p5, iv (2 : Int32), iv c1, iv c2, iv c3, iv c4, rv b1, iv (1 : Int32)] [(.int c1)])) rfl (by rw [hml]; rfl) (argsL := [(.int c1)]) (rest := []) (lenOf own_pd__C_Z rfl) rfl (by show 2 * 0 + _ ≤ _; exact Nat.le_of_eq rfl) (hb hby at_69) (fun _ _ => ⟨rfl, rfl, (by decide : 4 + 0 ≤ _), (by decide : 18 + 0 ≤ _)⟩)
        dsimp only [Pt.U, Pt.locs, Pt.cells, Pt.slots] at X12 l12 y12 z12 st12 hQ12
        subst l12 y12 z12
        obtain ⟨rfl, Nq12, e12⟩ := hQ12
        have N12 := Fr.app N11 Nq12
        refine own_goW st12 ?_
        show own_GoW p e below s _ _ _ _ (T12.setTop (mkF m 72 #[iv p1, iv p2, iv p3, iv p4, iv p5, iv (2 : Int32), iv c1, iv c2, iv c3, iv c4, rv b1, iv (1 : Int32)] [(.int (own_fc c1))]))
        by_cases hf0 : (own_fc c1) = (0 : Int32)
        · refine own_goW (fun zt zk => (XS.ifNo X12.here hx rfl (hb hby at_72) rfl ((if0 _ _).trans (teq (hf0 : (own_fc c1) = (0 : Int32))).2) (XS.iconst X12.here hx rfl (hb hby at_75) (XS.istore X12.here hx rfl (hb hby at_76) rfl (l' := #[iv p1, iv p2, iv p3, iv p4, iv p5, iv (2 : Int32), iv c1, iv c2, iv c3, iv c4, rv b1, iv (0 : Int32)]) rfl (XS.iload X12.here hx rfl (hb hby at_78) rfl (XS.iconst X12.here hx rfl (hb hby at_80) (XS.icmpNo X12.here hx rfl (hb hby at_81) rfl (tlt ((by decide) : (1 : Int32) < (2 : Int32))).2.2.2 (XS.iload X12.here hx rfl (hb hby at_84) rfl zk)))))))) ?_
          show own_GoW p e below s _ _ _ _ (T12.setTop (mkF m 86 #[iv p1, iv p2, iv p3, iv p4, iv p5, iv (2 : Int32), iv c1, iv c2, iv c3, iv c4, rv b1, iv (0 : Int32)] [(.int c2)]))
          obtain ⟨_, _, ⟨T13, L13, k13, n13⟩, -, X13, ⟨Lc13, hQ13, l13, y13, z13⟩, st13⟩ := Jvm.LawKit.callS X12 hx (y := (⟨"com/example/mortise/mortise/http/HeadersIsValuePinLaw", "fieldChar", "(C)Z"⟩ : MethodName)) hown (mvT hZ (hw _ (List.mem_of_getElem? (i := 53) rfl))) (mvT hZ (hw _ (List.mem_of_getElem? (i := 54) rfl))) (mvT hZ (hw _ (List.mem_of_getElem? (i := 7) rfl))) (mvT hZ (hw _ (List.mem_of_getElem? (i := 55) rfl))) (by decide) (backOf (W := 0) (own_rfc l Z a0 hw [] c2  T11.heap n0 (Nat.le_trans Z0 Kp.1) ) hZ (hw _ (List.mem_of_getElem? (i := 55) rfl)) (hw _ (List.mem_of_getElem? (i := 7) rfl)) (by decide) (by decide)) (g := (mkF m 86 #[iv p1, iv p2, iv p3, iv p4, iv p5, iv (2 : Int32), iv c1, iv c2, iv c3, iv c4, rv b1, iv (0 : Int32)] [(.int c2)])) rfl (by rw [hml]; rfl) (argsL := [(.int c2)]) (rest := []) (lenOf own_pd__C_Z rfl) rfl (by show 2 * 0 + _ ≤ _; exact Nat.le_of_eq rfl) (hb hby at_86) (fun _ _ => ⟨rfl, e12, (by decide : 4 + 0 ≤ _), (by decide : 18 + 0 ≤ _)⟩)
          dsimp only [Pt.U, Pt.locs, Pt.cells, Pt.slots] at X13 l13 y13 z13 st13 hQ13
          subst l13 y13 z13
          obtain ⟨rfl, Nq13, e13⟩ := hQ13
          have N13 := Fr.app N12 Nq13
          refine own_goW st13 ?_
          show own_GoW p e below s _ _ _ _ (T13.setTop (mkF m 89 #[iv p1, iv p2, iv p3, iv p4, iv p5, iv (2 : Int32), iv c1, iv c2, iv c3, iv c4, rv b1, iv (0 : Int32)] [(.int (own_fc c2))]))
          by_cases hf1 : (own_fc c2) = (0 : Int32)
          · refine own_goW (fun zt zk => (XS.ifNo X13.here hx rfl (hb hby at_89) rfl ((if0 _ _).trans (teq (hf1 : (own_fc c2) = (0 : Int32))).2) (XS.iconst X13.here hx rfl (hb hby at_92) (XS.istore X13.here hx rfl (hb hby at_93) rfl (l' := #[iv p1, iv p2, iv p3, iv p4, iv p5, iv (2 : Int32), iv c1, iv c2, iv c3, iv c4, rv b1, iv (0 : Int32)]) rfl (XS.iload X13.here hx rfl (hb hby at_95) rfl (XS.iconst X13.here hx rfl (hb hby at_97) (XS.icmpYes X13.here hx rfl (pc0 := 98) (pc' := 112) rfl (hb hby at_98) rfl (flt ((own_irr _) : ¬ ((2 : Int32) < (2 : Int32)))).2.2.2 (by decide) (by decide) (XS.iload X13.here hx rfl (hb hby at_112) rfl (XS.iconst X13.here hx rfl (hb hby at_114) (XS.icmpYes X13.here hx rfl (pc0 := 115) (pc' := 129) rfl (hb hby at_115) rfl (flt ((by decide) : ¬ ((3 : Int32) < (2 : Int32)))).2.2.2 (by decide) (by decide) (XS.aload X13.here hx rfl (hb hby at_129) rfl rfl zk))))))))))) ?_
            show own_GoW p e below s _ _ _ _ (T13.setTop (mkF m 131 #[iv p1, iv p2, iv p3, iv p4, iv p5, iv (2 : Int32), iv c1, iv c2, iv c3, iv c4, rv b1, iv (0 : Int32)] [(.ref b1)]))
            obtain ⟨_, _, ⟨T14, L14, k14, n14⟩, -, X14, ⟨Lc14, hQ14, l14, y14, z14⟩, st14⟩ := Jvm.LawKit.callS X13 hx (y := (⟨"com/example/mortise/mortise/http/Headers", "isValue", "(Ljava/lang/String;)Z"⟩ : MethodName)) hown (mvT hZ (hw _ (List.mem_of_getElem? (i := 28) rfl))) (mvT hZ (hw _ (List.mem_of_getElem? (i := 29) rfl))) (mvT hZ (hw _ (List.mem_of_getElem? (i := 30) rfl))) (mvT hZ (hw _ (List.mem_of_getElem? (i := 31) rfl))) (by decide) (backOf (W := 0) (own_risv l Z a0 hw [] b1 o_COMPACT_STRINGS o_SIOOBE_FORMATTER [c1, c2] T11.heap n0 (Nat.le_trans Z0 Kp.1) O S_o_COMPACT_STRINGS S_o_SIOOBE_FORMATTER S_o__assertionsDisabled S_o_HI_BYTE_SHIFT S_o_LO_BYTE_SHIFT nz_o_COMPACT_STRINGS St (Nat.le_of_ble_eq_true rfl) r_o_SIOOBE_FORMATTER hR) hZ (hw _ (List.mem_of_getElem? (i := 31) rfl)) (hw _ (List.mem_of_getElem? (i := 30) rfl)) (by decide) (by decide)) (g := (mkF m 131 #[iv p1, iv p2, iv p3, iv p4, iv p5, iv (2 : Int32), iv c1, iv c2, iv c3, iv c4, rv b1, iv (0 : Int32)] [(.ref b1)])) rfl (by rw [hml]; rfl) (argsL := [(.ref b1)]) (rest := []) (lenOf own_pd__Ljava_lang_String__Z rfl) rfl (by show 2 * 0 + _ ≤ _; exact Nat.le_of_eq rfl) (hb hby at_131) (fun _ _ => ⟨rfl, e13, (by decide : 4 + 0 ≤ _), (by decide : 18 + 0 ≤ _)⟩)
            dsimp only [Pt.U, Pt.locs, Pt.cells, Pt.slots] at X14 l14 y14 z14 st14 hQ14
            subst l14 y14 z14
            obtain ⟨hv14, Nq14, e14⟩ := hQ14
            rw [show own_all [c1, c2] = (0 : Int32) from by simp [own_all, hf0, hf1]] at hv14
            subst hv14
            have N14 := Fr.app N13 Nq14
            refine own_goW st14 ?_
            show own_GoW p e below s _ _ _ _ (T14.setTop (mkF m 134 #[iv p1, iv p2, iv p3, iv p4, iv p5, iv (2 : Int32), iv c1, iv c2, iv c3, iv c4, rv b1, iv (0 : Int32)] [(.int (0 : Int32))]))
            refine own_goW (fun zt zk => (XS.iload X14.here hx rfl (hb hby at_134) rfl (XS.icmpNo X14.here hx rfl (hb hby at_136) rfl (teq (rfl : (0 : Int32) = (0 : Int32))).2 (XS.iconst X14.here hx rfl (hb hby at_139) (XS.goto X14.here hx rfl (pc0 := 140) (pc' := 144) rfl (hb hby at_140) (by decide) (by decide) zk))))) ?_
            show own_GoW p e below s _ _ _ _ (T14.setTop (mkF m 144 #[iv p1, iv p2, iv p3, iv p4, iv p5, iv (2 : Int32), iv c1, iv c2, iv c3, iv c4, rv b1, iv (0 : Int32)] [(.int (1 : Int32))]))
            have Re := Rc.trans (CHv.at X14 hZ hEL Rc.1)
            exact own_finW X14 hS (by rw [e14]; exact hk) (by rw [e14, hh]; exact Re) Bd.notSynchronized (fun h => by rw [Bd.returns] at h; cases h) (fun fs hr => retN X14 hx (t := .boolean) Bd.returns (by simp) (hb hby at_144) hr) (by rw [e14]; exact ⟨rfl, N14⟩) (by decide) (by decide)
          · refine own_goW (fun zt zk => (XS.ifYes X13.here hx rfl (pc0 := 89) (pc' := 95) rfl (hb hby at_89) rfl ((if0 _ _).trans (feq (hf1 : ¬ ((own_fc c2) = (0 : Int32)))).2) (by decide) (by decide) (XS.iload X13.here hx rfl (hb hby at_95) rfl (XS.iconst X13.here hx rfl (hb hby at_97) (XS.icmpYes X13.here hx rfl (pc0 := 98) (pc' := 112) rfl (hb hby at_98) rfl (flt ((own_irr _) : ¬ ((2 : Int32) < (2 : Int32)))).2.2.2 (by decide) (by decide) (XS.iload X13.here hx rfl (hb hby at_112) rfl (XS.iconst X13.here hx rfl (hb hby at_114) (XS.icmpYes X13.here hx rfl (pc0 := 115) (pc' := 129) rfl (hb hby at_115) rfl (flt ((by decide) : ¬ ((3 : Int32) < (2 : Int32)))).2.2.2 (by decide) (by decide) (XS.aload X13.here hx rfl (hb hby at_129) rfl rfl zk))))))))) ?_
            show own_GoW p e below s _ _ _ _ (T13.setTop (mkF m 131 #[iv p1, iv p2, iv p3, iv p4, iv p5, iv (2 : Int32), iv c1, iv c2, iv c3, iv c4, rv b1, iv (0 : Int32)] [(.ref b1)]))
            obtain ⟨_, _, ⟨T15, L15, k15, n15⟩, -, X15, ⟨Lc15, hQ15, l15, y15, z15⟩, st15⟩ := Jvm.LawKit.callS X13 hx (y := (⟨"com/example/mortise/mortise/http/Headers", "isValue", "(Ljava/lang/String;)Z"⟩ : MethodName)) hown (mvT hZ (hw _ (List.mem_of_getElem? (i := 28) rfl))) (mvT hZ (hw _ (List.mem_of_getElem? (i := 29) rfl))) (mvT hZ (hw _ (List.mem_of_getElem? (i := 30) rfl))) (mvT hZ (hw _ (List.mem_of_getElem? (i := 31) rfl))) (by decide) (backOf (W := 0) (own_risv l Z a0 hw [] b1 o_COMPACT_STRINGS o_SIOOBE_FORMATTER [c1, c2] T11.heap n0 (Nat.le_trans Z0 Kp.1) O S_o_COMPACT_STRINGS S_o_SIOOBE_FORMATTER S_o__assertionsDisabled S_o_HI_BYTE_SHIFT S_o_LO_BYTE_SHIFT nz_o_COMPACT_STRINGS St (Nat.le_of_ble_eq_true rfl) r_o_SIOOBE_FORMATTER hR) hZ (hw _ (List.mem_of_getElem? (i := 31) rfl)) (hw _ (List.mem_of_getElem? (i := 30) rfl)) (by decide) (by decide)) (g := (mkF m 131 #[iv p1, iv p2, iv p3, iv p4, iv p5, iv (2 : Int32), iv c1, iv c2, iv c3, iv c4, rv b1, iv (0 : Int32)] [(.ref b1)])) rfl (by rw [hml]; rfl) (argsL := [(.ref b1)]) (rest := []) (lenOf own_pd__Ljava_lang_String__Z rfl) rfl (by show 2 * 0 + _ ≤ _; exact Nat.le_of_eq rfl) (hb hby at_131) (fun _ _ => ⟨rfl, e13, (by decide : 4 + 0 ≤ _), (by decide : 18 + 0 ≤ _)⟩)
            dsimp only [Pt.U, Pt.locs, Pt.cells, Pt.slots] at X15 l15 y15 z15 st15 hQ15
            subst l15 y15 z15
            obtain ⟨hv15, Nq15, e15⟩ := hQ15
            rw [show own_all [c1, c2] = (0 : Int32) from by simp [own_all, hf0, hf1]] at hv15
            subst hv15
            have N15 := Fr.app N13 Nq15
            refine own_goW st15 ?_
            show own_GoW p e below s _ _ _ _ (T15.setTop (mkF m 134 #[iv p1, iv p2, iv p3, iv p4, iv p5, iv (2 : Int32), iv c1, iv c2, iv c3, iv c4, rv b1, iv (0 : Int32)] [(.int (0 : Int32))]))
            refine own_goW (fun zt zk => (XS.iload X15.here hx rfl (hb hby at_134) rfl (XS.icmpNo X15.here hx rfl (hb hby at_136) rfl (teq (rfl : (0 : Int32) = (0 : Int32))).2 (XS.iconst X15.here hx rfl (hb hby at_139) (XS.goto X15.here hx rfl (pc0 := 140) (pc' := 144) rfl (hb hby at_140) (by decide) (by decide) zk))))) ?_
            show own_GoW p e below s _ _ _ _ (T15.setTop (mkF m 144 #[iv p1, iv p2, iv p3, iv p4, iv p5, iv (2 : Int32), iv c1, iv c2, iv c3, iv c4, rv b1, iv (0 : Int32)] [(.int (1 : Int32))]))
            have Re := Rc.trans (CHv.at X15 hZ hEL Rc.1)
            exact own_finW X15 hS (by rw [e15]; exact hk) (by rw [e15, hh]; exact Re) Bd.notSynchronized (fun h => by rw [Bd.returns] at h; cases h) (fun fs hr => retN X15 hx (t := .boolean) Bd.returns (by simp) (hb hby at_144) hr) (by rw [e15]; exact ⟨rfl, N15⟩) (by decide) (by decide)
        · refine own_goW (fun zt zk => (XS.ifYes X12.here hx rfl (pc0 := 72) (pc' := 78) rfl (hb hby at_72) rfl ((if0 _ _).trans (feq (hf0 : ¬ ((own_fc c1) = (0 : Int32)))).2) (by decide) (by decide) (XS.iload X12.here hx rfl (hb hby at_78) rfl (XS.iconst X12.here hx rfl (hb hby at_80) (XS.icmpNo X12.here hx rfl (hb hby at_81) rfl (tlt ((by decide) : (1 : Int32) < (2 : Int32))).2.2.2 (XS.iload X12.here hx rfl (hb hby at_84) rfl zk)))))) ?_
          show own_GoW p e below s _ _ _ _ (T12.setTop (mkF m 86 #[iv p1, iv p2, iv p3, iv p4, iv p5, iv (2 : Int32), iv c1, iv c2, iv c3, iv c4, rv b1, iv (1 : Int32)] [(.int c2)]))
          obtain ⟨_, _, ⟨T16, L16, k16, n16⟩, -, X16, ⟨Lc16, hQ16, l16, y16, z16⟩, st16⟩ := Jvm.LawKit.callS X12 hx (y := (⟨"com/example/mortise/mortise/http/HeadersIsValuePinLaw", "fieldChar", "(C)Z"⟩ : MethodName)) hown (mvT hZ (hw _ (List.mem_of_getElem? (i := 53) rfl))) (mvT hZ (hw _ (List.mem_of_getElem? (i := 54) rfl))) (mvT hZ (hw _ (List.mem_of_getElem? (i := 7) rfl))) (mvT hZ (hw _ (List.mem_of_getElem? (i := 55) rfl))) (by decide) (backOf (W := 0) (own_rfc l Z a0 hw [] c2  T11.heap n0 (Nat.le_trans Z0 Kp.1) ) hZ (hw _ (List.mem_of_getElem? (i := 55) rfl)) (hw _ (List.mem_of_getElem? (i := 7) rfl)) (by decide) (by decide)) (g := (mkF m 86 #[iv p1, iv p2, iv p3, iv p4, iv p5, iv (2 : Int32), iv c1, iv c2, iv c3, iv c4, rv b1, iv (1 : Int32)] [(.int c2)])) rfl (by rw [hml]; rfl) (argsL := [(.int c2)]) (rest := []) (lenOf own_pd__C_Z rfl) rfl (by show 2 * 0 + _ ≤ _; exact Nat.le_of_eq rfl) (hb hby at_86) (fun _ _ => ⟨rfl, e12, (by decide : 4 + 0 ≤ _), (by decide : 18 + 0 ≤ _)⟩)
          dsimp only [Pt.U, Pt.locs, Pt.cells, Pt.slots] at X16 l16 y16 z16 st16 hQ16
          subst l16 y16 z16
          obtain ⟨rfl, Nq16, e16⟩ := hQ16
          have N16 := Fr.app N12 Nq16
          refine own_goW st16 ?_
          show own_GoW p e below s _ _ _ _ (T16.setTop (mkF m 89 #[iv p1, iv p2, iv p3, iv p4, iv p5, iv (2 : Int32), iv c1, iv c2, iv c3, iv c4, rv b1, iv (1 : Int32)] [(.int (own_fc c2))]))
          by_cases hf1 : (own_fc c2) = (0 : Int32)
          · refine own_goW (fun zt zk => (XS.ifNo X16.here hx rfl (hb hby at_89) rfl ((if0 _ _).trans (teq (hf1 : (own_fc c2) = (0 : Int32))).2) (XS.iconst X16.here hx rfl (hb hby at_92) (XS.istore X16.here hx rfl (hb hby at_93) rfl (l' := #[iv p1, iv p2, iv p3, iv p4, iv p5, iv (2 : Int32), iv c1, iv c2, iv c3, iv c4, rv b1, iv (0 : Int32)]) rfl (XS.iload X16.here hx rfl (hb hby at_95) rfl (XS.iconst X16.here hx rfl (hb hby at_97) (XS.icmpYes X16.here hx rfl (pc0 := 98) (pc' := 112) rfl (hb hby at_98) rfl (flt ((own_irr _) : ¬ ((2 : Int32) < (2 : Int32)))).2.2.2 (by decide) (by decide) (XS.iload X16.here hx rfl (hb hby at_112) rfl (XS.iconst X16.here hx rfl (hb hby at_114) (XS.icmpYes X16.here hx rfl (pc0 := 115) (pc' := 129) rfl (hb hby at_115) rfl (flt ((by decide) : ¬ ((3 : Int32) < (2 : Int32)))).2.2.2 (by decide) (by decide) (XS.aload X16.here hx rfl (hb hby at_129) rfl rfl zk))))))))))) ?_
            show own_GoW p e below s _ _ _ _ (T16.setTop (mkF m 131 #[iv p1, iv p2, iv p3, iv p4, iv p5, iv (2 : Int32), iv c1, iv c2, iv c3, iv c4, rv b1, iv (0 : Int32)] [(.ref b1)]))
            obtain ⟨_, _, ⟨T17, L17, k17, n17⟩, -, X17, ⟨Lc17, hQ17, l17, y17, z17⟩, st17⟩ := Jvm.LawKit.callS X16 hx (y := (⟨"com/example/mortise/mortise/http/Headers", "isValue", "(Ljava/lang/String;)Z"⟩ : MethodName)) hown (mvT hZ (hw _ (List.mem_of_getElem? (i := 28) rfl))) (mvT hZ (hw _ (List.mem_of_getElem? (i := 29) rfl))) (mvT hZ (hw _ (List.mem_of_getElem? (i := 30) rfl))) (mvT hZ (hw _ (List.mem_of_getElem? (i := 31) rfl))) (by decide) (backOf (W := 0) (own_risv l Z a0 hw [] b1 o_COMPACT_STRINGS o_SIOOBE_FORMATTER [c1, c2] T11.heap n0 (Nat.le_trans Z0 Kp.1) O S_o_COMPACT_STRINGS S_o_SIOOBE_FORMATTER S_o__assertionsDisabled S_o_HI_BYTE_SHIFT S_o_LO_BYTE_SHIFT nz_o_COMPACT_STRINGS St (Nat.le_of_ble_eq_true rfl) r_o_SIOOBE_FORMATTER hR) hZ (hw _ (List.mem_of_getElem? (i := 31) rfl)) (hw _ (List.mem_of_getElem? (i := 30) rfl)) (by decide) (by decide)) (g := (mkF m 131 #[iv p1, iv p2, iv p3, iv p4, iv p5, iv (2 : Int32), iv c1, iv c2, iv c3, iv c4, rv b1, iv (0 : Int32)] [(.ref b1)])) rfl (by rw [hml]; rfl) (argsL := [(.ref b1)]) (rest := []) (lenOf own_pd__Ljava_lang_String__Z rfl) rfl (by show 2 * 0 + _ ≤ _; exact Nat.le_of_eq rfl) (hb hby at_131) (fun _ _ => ⟨rfl, e16, (by decide : 4 + 0 ≤ _), (by decide : 18 + 0 ≤ _)⟩)
            dsimp only [Pt.U, Pt.locs, Pt.cells, Pt.slots] at X17 l17 y17 z17 st17 hQ17
            subst l17 y17 z17
            obtain ⟨hv17, Nq17, e17⟩ := hQ17
            rw [show own_all [c1, c2] = (0 : Int32) from by simp [own_all, hf0, hf1]] at hv17
            subst hv17
            have N17 := Fr.app N16 Nq17
            refine own_goW st17 ?_
            show own_GoW p e below s _ _ _ _ (T17.setTop (mkF m 134 #[iv p1, iv p2, iv p3, iv p4, iv p5, iv (2 : Int32), iv c1, iv c2, iv c3, iv c4, rv b1, iv (0 : Int32)] [(.int (0 : Int32))]))
            refine own_goW (fun zt zk => (XS.iload X17.here hx rfl (hb hby at_134) rfl (XS.icmpNo X17.here hx rfl (hb hby at_136) rfl (teq (rfl : (0 : Int32) = (0 : Int32))).2 (XS.iconst X17.here hx rfl (hb hby at_139) (XS.goto X17.here hx rfl (pc0 := 140) (pc' := 144) rfl (hb hby at_140) (by decide) (by decide) zk))))) ?_
            show own_GoW p e below s _ _ _ _ (T17.setTop (mkF m 144 #[iv p1, iv p2, iv p3, iv p4, iv p5, iv (2 : Int32), iv c1, iv c2, iv c3, iv c4, rv b1, iv (0 : Int32)] [(.int (1 : Int32))]))
            have Re := Rc.trans (CHv.at X17 hZ hEL Rc.1)
            exact own_finW X17 hS (by rw [e17]; exact hk) (by rw [e17, hh]; exact Re) Bd.notSynchronized (fun h => by rw [Bd.returns] at h; cases h) (fun fs hr => retN X17 hx (t := .boolean) Bd.returns (by simp) (hb hby at_144) hr) (by rw [e17]; exact ⟨rfl, N17⟩) (by decide) (by decide)
          · refine own_goW (fun zt zk => (XS.ifYes X16.here hx rfl (pc0 := 89) (pc' := 95) rfl (hb hby at_89) rfl ((if0 _ _).trans (feq (hf1 : ¬ ((own_fc c2) = (0 : Int32)))).2) (by decide) (by decide) (XS.iload X16.here hx rfl (hb hby at_95) rfl (XS.iconst X16.here hx rfl (hb hby at_97) (XS.icmpYes X16.here hx rfl (pc0 := 98) (pc' := 112) rfl (hb hby at_98) rfl (flt ((own_irr _) : ¬ ((2 : Int32) < (2 : Int32)))).2.2.2 (by decide) (by decide) (XS.iload X16.here hx rfl (hb hby at_112) rfl (XS.iconst X16.here hx rfl (hb hby at_114) (XS.icmpYes X16.here hx rfl (pc0 := 115) (pc' := 129) rfl (hb hby at_115) rfl (flt ((by decide) : ¬ ((3 : Int32) < (2 : Int32)))).2.2.2 (by decide) (by decide) (XS.aload X16.here hx rfl (hb hby at_129) rfl rfl zk))))))))) ?_
            show own_GoW p e below s _ _ _ _ (T16.setTop (mkF m 131 #[iv p1, iv p2, iv p3, iv p4, iv p5, iv (2 : Int32), iv c1, iv c2, iv c3, iv c4, rv b1, iv (1 : Int32)] [(.ref b1)]))
            obtain ⟨_, _, ⟨T18, L18, k18, n18⟩, -, X18, ⟨Lc18, hQ18, l18, y18, z18⟩, st18⟩ := Jvm.LawKit.callS X16 hx (y := (⟨"com/example/mortise/mortise/http/Headers", "isValue", "(Ljava/lang/String;)Z"⟩ : MethodName)) hown (mvT hZ (hw _ (List.mem_of_getElem? (i := 28) rfl))) (mvT hZ (hw _ (List.mem_of_getElem? (i := 29) rfl))) (mvT hZ (hw _ (List.mem_of_getElem? (i := 30) rfl))) (mvT hZ (hw _ (List.mem_of_getElem? (i := 31) rfl))) (by decide) (backOf (W := 0) (own_risv l Z a0 hw [] b1 o_COMPACT_STRINGS o_SIOOBE_FORMATTER [c1, c2] T11.heap n0 (Nat.le_trans Z0 Kp.1) O S_o_COMPACT_STRINGS S_o_SIOOBE_FORMATTER S_o__assertionsDisabled S_o_HI_BYTE_SHIFT S_o_LO_BYTE_SHIFT nz_o_COMPACT_STRINGS St (Nat.le_of_ble_eq_true rfl) r_o_SIOOBE_FORMATTER hR) hZ (hw _ (List.mem_of_getElem? (i := 31) rfl)) (hw _ (List.mem_of_getElem? (i := 30) rfl)) (by decide) (by decide)) (g := (mkF m 131 #[iv p1, iv p2, iv p3, iv p4, iv p5, iv (2 : Int32), iv c1, iv c2, iv c3, iv c4, rv b1, iv (1 : Int32)] [(.ref b1)])) rfl (by rw [hml]; rfl) (argsL := [(.ref b1)]) (rest := []) (lenOf own_pd__Ljava_lang_String__Z rfl) rfl (by show 2 * 0 + _ ≤ _; exact Nat.le_of_eq rfl) (hb hby at_131) (fun _ _ => ⟨rfl, e16, (by decide : 4 + 0 ≤ _), (by decide : 18 + 0 ≤ _)⟩)
            dsimp only [Pt.U, Pt.locs, Pt.cells, Pt.slots] at X18 l18 y18 z18 st18 hQ18
            subst l18 y18 z18
            obtain ⟨hv18, Nq18, e18⟩ := hQ18
            rw [show own_all [c1, c2] = (1 : Int32) from by simp [own_all, hf0, hf1]] at hv18
            subst hv18
            have N18 := Fr.app N16 Nq18
            refine own_goW st18 ?_
            show own_GoW p e below s _ _ _ _ (T18.setTop (mkF m 134 #[iv p1, iv p2, iv p3, iv p4, iv p5, iv (2 : Int32), iv c1, iv c2, iv c3, iv c4, rv b1, iv (1 : Int32)] [(.int (1 : Int32))]))
            refine own_goW (fun zt zk => (XS.iload X18.here hx rfl (hb hby at_134) rfl (XS.icmpNo X18.here hx rfl (hb hby at_136) rfl (teq (rfl : (1 : Int32) = (1 : Int32))).2 (XS.iconst X18.here hx rfl (hb hby at_139) (XS.goto X18.here hx rfl (pc0 := 140) (pc' := 144) rfl (hb hby at_140) (by decide) (by decide) zk))))) ?_
            show own_GoW p e below s _ _ _ _ (T18.setTop (mkF m 144 #[iv p1, iv p2, iv p3, iv p4, iv p5, iv (2 : Int32), iv c1, iv c2, iv c3, iv c4, rv b1, iv (1 : Int32)] [(.int (1 : Int32))]))
            have Re := Rc.trans (CHv.at X18 hZ hEL Rc.1)
            exact own_finW X18 hS (by rw [e18]; exact hk) (by rw [e18, hh]; exact Re) Bd.notSynchronized (fun h => by rw [Bd.returns] at h; cases h) (fun fs hr => retN X18 hx (t := .boolean) Bd.returns (by simp) (hb hby at_144) hr) (by rw [e18]; exact ⟨rfl, N18⟩) (by decide) (by decide)
      · by_cases hk3_k : k = (3 : Int32)
        · subst hk3_k
          show own_GoW p e below s _ _ _ _ (T1.setTop (mkF m 51 #[iv p1, iv p2, iv p3, iv p4, iv p5, iv (3 : Int32), iv c1, iv c2, iv c3, iv c4, .unset, .unset] [(.int c4), (.int c3), (.int c2), (.int c1), (.int (3 : Int32)), (.ref b1), (.ref b1)]))
          have lo_ := Ex_b1.lt
          obtain ⟨_, _, ⟨T19, L19, k19, n19⟩, -, X19, ⟨Lc19, hQ19, l19, y19, z19⟩, st19⟩ := Jvm.LawKit.callS X1 hx (y := (⟨"com/example/mortise/mortise/http/HeadersIsValuePinLaw", "chars", "(ICCCC)[C"⟩ : MethodName)) hown (mvT hZ (hw _ (List.mem_of_getElem? (i := 5) rfl))) (mvT hZ (hw _ (List.mem_of_getElem? (i := 6) rfl))) (mvT hZ (hw _ (List.mem_of_getElem? (i := 7) rfl))) (mvT hZ (hw _ (List.mem_of_getElem? (i := 8) rfl))) (by decide) (backOf (W := 2) (own_rchars3 l Z a0 hw [] c1 c2 c3 c4  h1 n0 (Nat.le_trans Z0 Kp.1) hr_c1 hr_c2 hr_c3 hr_c4) hZ (hw _ (List.mem_of_getElem? (i := 8) rfl)) (hw _ (List.mem_of_getElem? (i := 7) rfl)) (by decide) (by decide)) (g := (mkF m 51 #[iv p1, iv p2, iv p3, iv p4, iv p5, iv (3 : Int32), iv c1, iv c2, iv c3, iv c4, .unset, .unset] [(.int c4), (.int c3), (.int c2), (.int c1), (.int (3 : Int32)), (.ref b1), (.ref b1)])) rfl (by rw [hml]; rfl) (argsL := [(.int (3 : Int32)), (.int c1), (.int c2), (.int c3), (.int c4)]) (rest := [(.ref b1), (.ref b1)]) (lenOf own_pd__ICCCC__C rfl) rfl (by show 2 * 0 + _ ≤ _; exact Nat.le_of_eq rfl) (hb hby at_51) (fun _ _ => ⟨rfl, e1, (by decide : 1 + 1 ≤ _), (by decide : 4 + 3 ≤ _)⟩)
          dsimp only [Pt.U, Pt.locs, Pt.cells, Pt.slots] at X19 l19 y19 z19 st19 hQ19
          subst l19 y19 z19
          obtain ⟨b19, kb19, rfl, Nq19, K19, sz_b19, V_b19⟩ := hQ19
          have N19 := Fr.app N0 Nq19
          refine own_goW st19 ?_
          have Sf_b1' := Safe.keep K19 all0 Rc.1 Sf_b1
          replace Rc := Rc.trans (CHr.keep K19 all0 Rc.1)
          replace hk := Nat.le_trans hk K19.1
          replace Sf_b1 := Sf_b1'
          replace O := O.keep K19 all0
          replace Kp := Kp.trans K19 all0
          replace Ex_b1 := Ex_b1.keep K19
          replace F_value_b1 := F_value_b1.keep K19 nin0
          replace F_coder_b1 := F_coder_b1.keep K19 nin0
          show own_GoW p e below s _ _ _ _ (T19.setTop (mkF m 54 #[iv p1, iv p2, iv p3, iv p4, iv p5, iv (3 : Int32), iv c1, iv c2, iv c3, iv c4, .unset, .unset] [(.ref b19), (.ref b1), (.ref b1)]))
          have ne_b19_b1 : b19 ≠ b1 := Ne.symm (Nat.ne_of_lt (Nat.lt_of_lt_of_le lo_ sz_b19))
          have hR : own_R [c1, c2, c3] := (own_ac hr_c1 (own_ac hr_c2 (own_ac hr_c3 own_an)))
          obtain ⟨_, _, ⟨T20, L20, k20, n20⟩, -, X20, ⟨Lc20, hQ20, l20, y20, z20⟩, st20⟩ := X19.specialBack hx (y := (⟨"java/lang/String", "<init>", "([C)V"⟩ : MethodName)) rfl hown (mvT hZ (hw _ (List.mem_of_getElem? (i := 10) rfl))) (mvT hZ (hw _ (List.mem_of_getElem? (i := 11) rfl))) (mvT hZ (hw _ (List.mem_of_getElem? (i := 12) rfl))) (by decide) (backOf (W := 1) (own_ri1 l Z a0 hw [] b1 b19 o_COMPACT_STRINGS kb19 [c1, c2, c3] T19.heap n0 (Nat.le_trans Z0 Kp.1) O S_o_COMPACT_STRINGS S_o__assertionsDisabled S_o_HI_BYTE_SHIFT S_o_LO_BYTE_SHIFT Ex_b1 F_value_b1 F_coder_b1 V_b19 g_b1 nz_o_COMPACT_STRINGS (Nat.le_of_ble_eq_true rfl) (Nat.le_of_ble_eq_true rfl) hR ne_b19_b1) hZ (hw _ (List.mem_of_getElem? (i := 12) rfl)) (hw _ (List.mem_of_getElem? (i := 4) rfl)) (by decide) (by decide)) (g := (mkF m 54 #[iv p1, iv p2, iv p3, iv p4, iv p5, iv (3 : Int32), iv c1, iv c2, iv c3, iv c4, .unset, .unset] [(.ref b19), (.ref b1), (.ref b1)])) rfl (by rw [hml]; rfl) (Steps.refl _) (a := b1) (argsL := [(.ref b19)]) (rest := [(.ref b1)]) (lenOf own_pd___C_V rfl) rfl (by show 2 * 0 + _ ≤ _; exact Nat.le_of_eq rfl) (hb hby at_54) (fun _ _ => ⟨rfl, rfl, (by decide : 2 + 2 ≤ _), (by decide : 7 + 12 ≤ _)⟩)
          dsimp only [Pt.U, Pt.locs, Pt.cells, Pt.slots] at X20 l20 y20 z20 st20 hQ20
          subst l20 y20 z20
          obtain ⟨rfl, Nq20, K20, St⟩ := hQ20
          have N20 := Fr.app N19 Nq20
          refine own_goW (fun zt zk => st20.trans zk) ?_
          have Sf_b1' := Safe.keep K20 (allS Sf_b1 all0) Rc.1 Sf_b1
          replace Rc := Rc.trans (CHr.keep K20 (allS Sf_b1 all0) Rc.1)
          replace hk := Nat.le_trans hk K20.1
          replace Sf_b1 := Sf_b1'
          replace O := O.keep K20 (allS g_b1 all0)
          replace Kp := Kp.trans K20 (allS (Or.inr sz_b1) all0)
          replace Ex_b1 := Ex_b1.keep K20
          replace V_b19 := V_b19.keep K20 (ninS ne_b19_b1 nin0)
          show own_GoW p e below s _ _ _ _ (T20.setTop (mkF m 57 #[iv p1, iv p2, iv p3, iv p4, iv p5, iv (3 : Int32), iv c1, iv c2, iv c3, iv c4, .unset, .unset] [(.ref b1)]))
          refine own_goW (fun zt zk => (XS.astore X20.here hx rfl (hb hby at_57) rfl rfl (l' := #[iv p1, iv p2, iv p3, iv p4, iv p5, iv (3 : Int32), iv c1, iv c2, iv c3, iv c4, rv b1, .unset]) rfl (XS.iconst X20.here hx rfl (hb hby at_59) (XS.istore X20.here hx rfl (hb hby at_60) rfl (l' := #[iv p1, iv p2, iv p3, iv p4, iv p5, iv (3 : Int32), iv c1, iv c2, iv c3, iv c4, rv b1, iv (1 : Int32)]) rfl (XS.iload X20.here hx rfl (hb hby at_62) rfl (XS.ifNo X20.here hx rfl (hb hby at_64) rfl ((if0 _ _).trans (tlt ((by decide) : (0 : Int32) < (3 : Int32))).2.2.2) (XS.iload X20.here hx rfl (hb hby at_67) rfl zk))))))) ?_
          show own_GoW p e below s _ _ _ _ (T20.setTop (mkF m 69 #[iv p1, iv p2, iv p3, iv p4, iv p5, iv (3 : Int32), iv c1, iv c2, iv c3, iv c4, rv b1, iv (1 : Int32)] [(.int c1)]))
          obtain ⟨_, _, ⟨T21, L21, k21, n21⟩, -, X21, ⟨Lc21, hQ21, l21, y21, z21⟩, st21⟩ := Jvm.LawKit.callS X20 hx (y := (⟨"com/example/mortise/mortise/http/HeadersIsValuePinLaw", "fieldChar", "(C)Z"⟩ : MethodName)) hown (mvT hZ (hw _ (List.mem_of_getElem? (i := 53) rfl))) (mvT hZ (hw _ (List.mem_of_getElem? (i := 54) rfl))) (mvT hZ (hw _ (List.mem_of_getElem? (i := 7) rfl))) (mvT hZ (hw _ (List.mem_of_getElem? (i := 55) rfl))) (by decide) (backOf (W := 0) (own_rfc l Z a0 hw [] c1  T20.heap n0 (Nat.le_trans Z0 Kp.1) ) hZ (hw _ (List.mem_of_getElem? (i := 55) rfl)) (hw _ (List.mem_of_getElem? (i := 7) rfl)) (by decide) (by decide)) (g := (mkF m 69 #[iv p1, iv p2, iv p3, iv p4, iv p5, iv (3 : Int32), iv c1, iv c2, iv c3, iv c4, rv b1, iv (1 : Int32)] [(.int c1)])) rfl (by rw [hml]; rfl) (argsL := [(.int c1)]) (rest := []) (lenOf own_pd__C_Z rfl) rfl (by show 2 * 0 + _ ≤ _; exact Nat.le_of_eq rfl) (hb hby at_69) (fun _ _ => ⟨rfl, rfl, (by decide : 4 + 0 ≤ _), (by decide : 19 + 0 ≤ _)⟩)
          dsimp only [Pt.U, Pt.locs, Pt.cells, Pt.slots] at X21 l21 y21 z21 st21 hQ21
          subst l21 y21 z21
          obtain ⟨rfl, Nq21, e21⟩ := hQ21
          have N21 := Fr.app N20 Nq21
          refine own_goW st21 ?_
          show own_GoW p e below s _ _ _ _ (T21.setTop (mkF m 72 #[iv p1, iv p2, iv p3, iv p4, iv p5, iv (3 : Int32), iv c1, iv c2, iv c3, iv c4, rv b1, iv (1 : Int32)] [(.int (own_fc c1))]))
          by_cases hf0 : (own_fc c1) = (0 : Int32)
          · refine own_goW (fun zt zk => (XS.ifNo X21.here hx rfl (hb hby at_72) rfl ((if0 _ _).trans (teq (hf0 : (own_fc c1) = (0 : Int32))).2) (XS.iconst X21.here hx rfl (hb hby at_75) (XS.istore X21.here hx rfl (hb hby at_76) rfl (l' := #[iv p1, iv p2, iv p3, iv p4, iv p5, iv (3 : Int32), iv c1, iv c2, iv c3, iv c4, rv b1, iv (0 : Int32)]) rfl (XS.iload X21.here hx rfl (hb hby at_78) rfl (XS.iconst X21.here hx rfl (hb hby at_80) (XS.icmpNo X21.here hx rfl (hb hby at_81) rfl (tlt ((by decide) : (1 : Int32) < (3 : Int32))).2.2.2 (XS.iload X21.here hx rfl (hb hby at_84) rfl zk)))))))) ?_
            show own_GoW p e below s _ _ _ _ (T21.setTop (mkF m 86 #[iv p1, iv p2, iv p3, iv p4, iv p5, iv (3 : Int32), iv c1, iv c2, iv c3, iv c4, rv b1, iv (0 : Int32)] [(.int c2)]))
            obtain ⟨_, _, ⟨T22, L22, k22, n22⟩, -, X22, ⟨Lc22, hQ22, l22, y22, z22⟩, st22⟩ := Jvm.LawKit.callS X21 hx (y := (⟨"com/example/mortise/mortise/http/HeadersIsValuePinLaw", "fieldChar", "(C)Z"⟩ : MethodName)) hown (mvT hZ (hw _ (List.mem_of_getElem? (i := 53) rfl))) (mvT hZ (hw _ (List.mem_of_getElem? (i := 54) rfl))) (mvT hZ (hw _ (List.mem_of_getElem? (i := 7) rfl))) (mvT hZ (hw _ (List.mem_of_getElem? (i := 55) rfl))) (by decide) (backOf (W := 0) (own_rfc l Z a0 hw [] c2  T20.heap n0 (Nat.le_trans Z0 Kp.1) ) hZ (hw _ (List.mem_of_getElem? (i := 55) rfl)) (hw _ (List.mem_of_getElem? (i := 7) rfl)) (by decide) (by decide)) (g := (mkF m 86 #[iv p1, iv p2, iv p3, iv p4, iv p5, iv (3 : Int32), iv c1, iv c2, iv c3, iv c4, rv b1, iv (0 : Int32)] [(.int c2)])) rfl (by rw [hml]; rfl) (argsL := [(.int c2)]) (rest := []) (lenOf own_pd__C_Z rfl) rfl (by show 2 * 0 + _ ≤ _; exact Nat.le_of_eq rfl) (hb hby at_86) (fun _ _ => ⟨rfl, e21, (by decide : 4 + 0 ≤ _), (by decide : 19 + 0 ≤ _)⟩)
            dsimp only [Pt.U, Pt.locs, Pt.cells, Pt.slots] at X22 l22 y22 z22 st22 hQ22
            subst l22 y22 z22
            obtain ⟨rfl, Nq22, e22⟩ := hQ22
            have N22 := Fr.app N21 Nq22
            refine own_goW st22 ?_
            show own_GoW p e below s _ _ _ _ (T22.setTop (mkF m 89 #[iv p1, iv p2, iv p3, iv p4, iv p5, iv (3 : Int32), iv c1, iv c2, iv c3, iv c4, rv b1, iv (0 : Int32)] [(.int (own_fc c2))]))
            by_cases hf1 : (own_fc c2) = (0 : Int32)
            · refine own_goW (fun zt zk => (XS.ifNo X22.here hx rfl (hb hby at_89) rfl ((if0 _ _).trans (teq (hf1 : (own_fc c2) = (0 : Int32))).2) (XS.iconst X22.here hx rfl (hb hby at_92) (XS.istore X22.here hx rfl (hb hby at_93) rfl (l' := #[iv p1, iv p2, iv p3, iv p4, iv p5, iv (3 : Int32), iv c1, iv c2, iv c3, iv c4, rv b1, iv (0 : Int32)]) rfl (XS.iload X22.here hx rfl (hb hby at_95) rfl (XS.iconst X22.here hx rfl (hb hby at_97) (XS.icmpNo X22.here hx rfl (hb hby at_98) rfl (tlt ((by decide) : (2 : Int32) < (3 : Int32))).2.2.2 (XS.iload X22.here hx rfl (hb hby at_101) rfl zk)))))))) ?_
              show own_GoW p e below s _ _ _ _ (T22.setTop (mkF m 103 #[iv p1, iv p2, iv p3, iv p4, iv p5, iv (3 : Int32), iv c1, iv c2, iv c3, iv c4, rv b1, iv (0 : Int32)] [(.int c3)]))
              obtain ⟨_, _, ⟨T23, L23, k23, n23⟩, -, X23, ⟨Lc23, hQ23, l23, y23, z23⟩, st23⟩ := Jvm.LawKit.callS X22 hx (y := (⟨"com/example/mortise/mortise/http/HeadersIsValuePinLaw", "fieldChar", "(C)Z"⟩ : MethodName)) hown (mvT hZ (hw _ (List.mem_of_getElem? (i := 53) rfl))) (mvT hZ (hw _ (List.mem_of_getElem? (i := 54) rfl))) (mvT hZ (hw _ (List.mem_of_getElem? (i := 7) rfl))) (mvT hZ (hw _ (List.mem_of_getElem? (i := 55) rfl))) (by decide) (backOf (W := 0) (own_rfc l Z a0 hw [] c3  T20.heap n0 (Nat.le_trans Z0 Kp.1) ) hZ (hw _ (List.mem_of_getElem? (i := 55) rfl)) (hw _ (List.mem_of_getElem? (i := 7) rfl)) (by decide) (by decide)) (g := (mkF m 103 #[iv p1, iv p2, iv p3, iv p4, iv p5, iv (3 : Int32), iv c1, iv c2, iv c3, iv c4, rv b1, iv (0 : Int32)] [(.int c3)])) rfl (by rw [hml]; rfl) (argsL := [(.int c3)]) (rest := []) (lenOf own_pd__C_Z rfl) rfl (by show 2 * 0 + _ ≤ _; exact Nat.le_of_eq rfl) (hb hby at_103) (fun _ _ => ⟨rfl, e22, (by decide : 4 + 0 ≤ _), (by decide : 19 + 0 ≤ _)⟩)
              dsimp only [Pt.U, Pt.locs, Pt.cells, Pt.slots] at X23 l23 y23 z23 st23 hQ23
              subst l23 y23 z23
              obtain ⟨rfl, Nq23, e23⟩ := hQ23
              have N23 := Fr.app N22 Nq23
              refine own_goW st23 ?_
              show own_GoW p e below s _ _ _ _ (T23.setTop (mkF m 106 #[iv p1, iv p2, iv p3, iv p4, iv p5, iv (3 : Int32), iv c1, iv c2, iv c3, iv c4, rv b1, iv (0 : Int32)] [(.int (own_fc c3))]))
              by_cases hf2 : (own_fc c3) = (0 : Int32)
              · refine own_goW (fun zt zk => (XS.ifNo X23.here hx rfl (hb hby at_106) rfl ((if0 _ _).trans (teq (hf2 : (own_fc c3) = (0 : Int32))).2) (XS.iconst X23.here hx rfl (hb hby at_109) (XS.istore X23.here hx rfl (hb hby at_110) rfl (l' := #[iv p1, iv p2, iv p3, iv p4, iv p5, iv (3 : Int32), iv c1, iv c2, iv c3, iv c4, rv b1, iv (0 : Int32)]) rfl (XS.iload X23.here hx rfl (hb hby at_112) rfl (XS.iconst X23.here hx rfl (hb hby at_114) (XS.icmpYes X23.here hx rfl (pc0 := 115) (pc' := 129) rfl (hb hby at_115) rfl (flt ((own_irr _) : ¬ ((3 : Int32) < (3 : Int32)))).2.2.2 (by decide) (by decide) (XS.aload X23.here hx rfl (hb hby at_129) rfl rfl zk)))))))) ?_
                show own_GoW p e below s _ _ _ _ (T23.setTop (mkF m 131 #[iv p1, iv p2, iv p3, iv p4, iv p5, iv (3 : Int32), iv c1, iv c2, iv c3, iv c4, rv b1, iv (0 : Int32)] [(.ref b1)]))
                obtain ⟨_, _, ⟨T24, L24, k24, n24⟩, -, X24, ⟨Lc24, hQ24, l24, y24, z24⟩, st24⟩ := Jvm.LawKit.callS X23 hx (y := (⟨"com/example/mortise/mortise/http/Headers", "isValue", "(Ljava/lang/String;)Z"⟩ : MethodName)) hown (mvT hZ (hw _ (List.mem_of_getElem? (i := 28) rfl))) (mvT hZ (hw _ (List.mem_of_getElem? (i := 29) rfl))) (mvT hZ (hw _ (List.mem_of_getElem? (i := 30) rfl))) (mvT hZ (hw _ (List.mem_of_getElem? (i := 31) rfl))) (by decide) (backOf (W := 0) (own_risv l Z a0 hw [] b1 o_COMPACT_STRINGS o_SIOOBE_FORMATTER [c1, c2, c3] T20.heap n0 (Nat.le_trans Z0 Kp.1) O S_o_COMPACT_STRINGS S_o_SIOOBE_FORMATTER S_o__assertionsDisabled S_o_HI_BYTE_SHIFT S_o_LO_BYTE_SHIFT nz_o_COMPACT_STRINGS St (Nat.le_of_ble_eq_true rfl) r_o_SIOOBE_FORMATTER hR) hZ (hw _ (List.mem_of_getElem? (i := 31) rfl)) (hw _ (List.mem_of_getElem? (i := 30) rfl)) (by decide) (by decide)) (g := (mkF m 131 #[iv p1, iv p2, iv p3, iv p4, iv p5, iv (3 : Int32), iv c1, iv c2, iv c3, iv c4, rv b1, iv (0 : Int32)] [(.ref b1)])) rfl (by rw [hml]; rfl) (argsL := [(.ref b1)]) (rest := []) (lenOf own_pd__Ljava_lang_String__Z rfl) rfl (by show 2 * 0 + _ ≤ _; exact Nat.le_of_eq rfl) (hb hby at_131) (fun _ _ => ⟨rfl, e23, (by decide : 4 + 0 ≤ _), (by decide : 19 + 0 ≤ _)⟩)
                dsimp only [Pt.U, Pt.locs, Pt.cells, Pt.slots] at X24 l24 y24 z24 st24 hQ24
                subst l24 y24 z24
                obtain ⟨hv24, Nq24, e24⟩ := hQ24
                rw [show own_all [c1, c2, c3] = (0 : Int32) from by simp [own_all, hf0, hf1, hf2]] at hv24
                subst hv24
                have N24 := Fr.app N23 Nq24
                refine own_goW st24 ?_
                show own_GoW p e below s _ _ _ _ (T24.setTop (mkF m 134 #[iv p1, iv p2, iv p3, iv p4, iv p5, iv (3 : Int32), iv c1, iv c2, iv c3, iv c4, rv b1, iv (0 : Int32)] [(.int (0 : Int32))]))
                refine own_goW (fun zt zk => (XS.iload X24.here hx rfl (hb hby at_134) rfl (XS.icmpNo X24.here hx rfl (hb hby at_136) rfl (teq (rfl : (0 : Int32) = (0 : Int32))).2 (XS.iconst X24.here hx rfl (hb hby at_139) (XS.goto X24.here hx rfl (pc0 := 140) (pc' := 144) rfl (hb hby at_140) (by decide) (by decide) zk))))) ?_
                show own_GoW p e below s _ _ _ _ (T24.setTop (mkF m 144 #[iv p1, iv p2, iv p3, iv p4, iv p5, iv (3 : Int32), iv c1, iv c2, iv c3, iv c4, rv b1, iv (0 : Int32)] [(.int (1 : Int32))]))
                have Re := Rc.trans (CHv.at X24 hZ hEL Rc.1)
                exact own_finW X24 hS (by rw [e24]; exact hk) (by rw [e24, hh]; exact Re) Bd.notSynchronized (fun h => by rw [Bd.returns] at h; cases h) (fun fs hr => retN X24 hx (t := .boolean) Bd.returns (by simp) (hb hby at_144) hr) (by rw [e24]; exact ⟨rfl, N24⟩) (by decide) (by decide)
              · refine own_goW (fun zt zk => (XS.ifYes X23.here hx rfl (pc0 := 106) (pc' := 112) rfl (hb hby at_106) rfl ((if0 _ _).trans (feq (hf2 : ¬ ((own_fc c3) = (0 : Int32)))).2) (by decide) (by decide) (XS.iload X23.here hx rfl (hb hby at_112) rfl (XS.iconst X23.here hx rfl (hb hby at_114) (XS.icmpYes X23.here hx rfl (pc0 := 115) (pc' := 129) rfl (hb hby at_115) rfl (flt ((own_irr _) : ¬ ((3 : Int32) < (3 : Int32)))).2.2.2 (by decide) (by decide) (XS.aload X23.here hx rfl (hb hby at_129) rfl rfl zk)))))) ?_
                show own_GoW p e below s _ _ _ _ (T23.setTop (mkF m 131 #[iv p1, iv p2, iv p3, iv p4, iv p5, iv (3 : Int32), iv c1, iv c2, iv c3, iv c4, rv b1, iv (0 : Int32)] [(.ref b1)]))
                obtain ⟨_, _, ⟨T25, L25, k25, n25⟩, -, X25, ⟨Lc25, hQ25, l25, y25, z25⟩, st25⟩ := Jvm.LawKit.callS X23 hx (y := (⟨"com/example/mortise/mortise/http/Headers", "isValue", "(Ljava/lang/String;)Z"⟩ : MethodName)) hown (mvT hZ (hw _ (List.mem_of_getElem? (i := 28) rfl))) (mvT hZ (hw _ (List.mem_of_getElem? (i := 29) rfl))) (mvT hZ (hw _ (List.mem_of_getElem? (i := 30) rfl))) (mvT hZ (hw _ (List.mem_of_getElem? (i := 31) rfl))) (by decide) (backOf (W := 0) (own_risv l Z a0 hw [] b1 o_COMPACT_STRINGS o_SIOOBE_FORMATTER [c1, c2, c3] T20.heap n0 (Nat.le_trans Z0 Kp.1) O S_o_COMPACT_STRINGS S_o_SIOOBE_FORMATTER S_o__assertionsDisabled S_o_HI_BYTE_SHIFT S_o_LO_BYTE_SHIFT nz_o_COMPACT_STRINGS St (Nat.le_of_ble_eq_true rfl) r_o_SIOOBE_FORMATTER hR) hZ (hw _ (List.mem_of_getElem? (i := 31) rfl)) (hw _ (List.mem_of_getElem? (i := 30) rfl)) (by decide) (by decide)) (g := (mkF m 131 #[iv p1, iv p2, iv p3, iv p4, iv p5, iv (3 : Int32), iv c1, iv c2, iv c3, iv c4, rv b1, iv (0 : Int32)] [(.ref b1)])) rfl (by rw [hml]; rfl) (argsL := [(.ref b1)]) (rest := []) (lenOf own_pd__Ljava_lang_String__Z rfl) rfl (by show 2 * 0 + _ ≤ _; exact Nat.le_of_eq rfl) (hb hby at_131) (fun _ _ => ⟨rfl, e23, (by decide : 4 + 0 ≤ _), (by decide : 19 + 0 ≤ _)⟩)
                dsimp only [Pt.U, Pt.locs, Pt.cells, Pt.slots] at X25 l25 y25 z25 st25 hQ25
                subst l25 y25 z25
                obtain ⟨hv25, Nq25, e25⟩ := hQ25
                rw [show own_all [c1, c2, c3] = (0 : Int32) from by simp [own_all, hf0, hf1, hf2]] at hv25
                subst hv25
                have N25 := Fr.app N23 Nq25
                refine own_goW st25 ?_
                show own_GoW p e below s _ _ _ _ (T25.setTop (mkF m 134 #[iv p1, iv p2, iv p3, iv p4, iv p5, iv (3 : Int32), iv c1, iv c2, iv c3, iv c4, rv b1, iv (0 : Int32)] [(.int (0 : Int32))]))
                refine own_goW (fun zt zk => (XS.iload X25.here hx rfl (hb hby at_134) rfl (XS.icmpNo X25.here hx rfl (hb hby at_136) rfl (teq (rfl : (0 : Int32) = (0 : Int32))).2 (XS.iconst X25.here hx rfl (hb hby at_139) (XS.goto X25.here hx rfl (pc0 := 140) (pc' := 144) rfl (hb hby at_140) (by decide) (by decide) zk))))) ?_
                show own_GoW p e below s _ _ _ _ (T25.setTop (mkF m 144 #[iv p1, iv p2, iv p3, iv p4, iv p5, iv (3 : Int32), iv c1, iv c2, iv c3, iv c4, rv b1, iv (0 : Int32)] [(.int (1 : Int32))]))
                have Re := Rc.trans (CHv.at X25 hZ hEL Rc.1)
                exact own_finW X25 hS (by rw [e25]; exact hk) (by rw [e25, hh]; exact Re) Bd.notSynchronized (fun h => by rw [Bd.returns] at h; cases h) (fun fs hr => retN X25 hx (t := .boolean) Bd.returns (by simp) (hb hby at_144) hr) (by rw [e25]; exact ⟨rfl, N25⟩) (by decide) (by decide)
            · refine own_goW (fun zt zk => (XS.ifYes X22.here hx rfl (pc0 := 89) (pc' := 95) rfl (hb hby at_89) rfl ((if0 _ _).trans (feq (hf1 : ¬ ((own_fc c2) = (0 : Int32)))).2) (by decide) (by decide) (XS.iload X22.here hx rfl (hb hby at_95) rfl (XS.iconst X22.here hx rfl (hb hby at_97) (XS.icmpNo X22.here hx rfl (hb hby at_98) rfl (tlt ((by decide) : (2 : Int32) < (3 : Int32))).2.2.2 (XS.iload X22.here hx rfl (hb hby at_101) rfl zk)))))) ?_
              show own_GoW p e below s _ _ _ _ (T22.setTop (mkF m 103 #[iv p1, iv p2, iv p3, iv p4, iv p5, iv (3 : Int32), iv c1, iv c2, iv c3, iv c4, rv b1, iv (0 : Int32)] [(.int c3)]))
              obtain ⟨_, _, ⟨T26, L26, k26, n26⟩, -, X26, ⟨Lc26, hQ26, l26, y26, z26⟩, st26⟩ := Jvm.LawKit.callS X22 hx (y := (⟨"com/example/mortise/mortise/http/HeadersIsValuePinLaw", "fieldChar", "(C)Z"⟩ : MethodName)) hown (mvT hZ (hw _ (List.mem_of_getElem? (i := 53) rfl))) (mvT hZ (hw _ (List.mem_of_getElem? (i := 54) rfl))) (mvT hZ (hw _ (List.mem_of_getElem? (i := 7) rfl))) (mvT hZ (hw _ (List.mem_of_getElem? (i := 55) rfl))) (by decide) (backOf (W := 0) (own_rfc l Z a0 hw [] c3  T20.heap n0 (Nat.le_trans Z0 Kp.1) ) hZ (hw _ (List.mem_of_getElem? (i := 55) rfl)) (hw _ (List.mem_of_getElem? (i := 7) rfl)) (by decide) (by decide)) (g := (mkF m 103 #[iv p1, iv p2, iv p3, iv p4, iv p5, iv (3 : Int32), iv c1, iv c2, iv c3, iv c4, rv b1, iv (0 : Int32)] [(.int c3)])) rfl (by rw [hml]; rfl) (argsL := [(.int c3)]) (rest := []) (lenOf own_pd__C_Z rfl) rfl (by show 2 * 0 + _ ≤ _; exact Nat.le_of_eq rfl) (hb hby at_103) (fun _ _ => ⟨rfl, e22, (by decide : 4 + 0 ≤ _), (by decide : 19 + 0 ≤ _)⟩)
              dsimp only [Pt.U, Pt.locs, Pt.cells, Pt.slots] at X26 l26 y26 z26 st26 hQ26
              subst l26 y26 z26
              obtain ⟨rfl, Nq26, e26⟩ := hQ26
              have N26 := Fr.app N22 Nq26
              refine own_goW st26 ?_
              show own_GoW p e below s _ _ _ _ (T26.setTop (mkF m 106 #[iv p1, iv p2, iv p3, iv p4, iv p5, iv (3 : Int32), iv c1, iv c2, iv c3, iv c4, rv b1, iv (0 : Int32)] [(.int (own_fc c3))]))
              by_cases hf2 : (own_fc c3) = (0 : Int32)
              · refine own_goW (fun zt zk => (XS.ifNo X26.here hx rfl (hb hby at_106) rfl ((if0 _ _).trans (teq (hf2 : (own_fc c3) = (0 : Int32))).2) (XS.iconst X26.here hx rfl (hb hby at_109) (XS.istore X26.here hx rfl (hb hby at_110) rfl (l' := #[iv p1, iv p2, iv p3, iv p4, iv p5, iv (3 : Int32), iv c1, iv c2, iv c3, iv c4, rv b1, iv (0 : Int32)]) rfl (XS.iload X26.here hx rfl (hb hby at_112) rfl (XS.iconst X26.here hx rfl (hb hby at_114) (XS.icmpYes X26.here hx rfl (pc0 := 115) (pc' := 129) rfl (hb hby at_115) rfl (flt ((own_irr _) : ¬ ((3 : Int32) < (3 : Int32)))).2.2.2 (by decide) (by decide) (XS.aload X26.here hx rfl (hb hby at_129) rfl rfl zk)))))))) ?_
                show own_GoW p e below s _ _ _ _ (T26.setTop (mkF m 131 #[iv p1, iv p2, iv p3, iv p4, iv p5, iv (3 : Int32), iv c1, iv c2, iv c3, iv c4, rv b1, iv (0 : Int32)] [(.ref b1)]))
                obtain ⟨_, _, ⟨T27, L27, k27, n27⟩, -, X27, ⟨Lc27, hQ27, l27, y27, z27⟩, st27⟩ := Jvm.LawKit.callS X26 hx (y := (⟨"com/example/mortise/mortise/http/Headers", "isValue", "(Ljava/lang/String;)Z"⟩ : MethodName)) hown (mvT hZ (hw _ (List.mem_of_getElem? (i := 28) rfl))) (mvT hZ (hw _ (List.mem_of_getElem? (i := 29) rfl))) (mvT hZ (hw _ (List.mem_of_getElem? (i := 30) rfl))) (mvT hZ (hw _ (List.mem_of_getElem? (i := 31) rfl))) (by decide) (backOf (W := 0) (own_risv l Z a0 hw [] b1 o_COMPACT_STRINGS o_SIOOBE_FORMATTER [c1, c2, c3] T20.heap n0 (Nat.le_trans Z0 Kp.1) O S_o_COMPACT_STRINGS S_o_SIOOBE_FORMATTER S_o__assertionsDisabled S_o_HI_BYTE_SHIFT S_o_LO_BYTE_SHIFT nz_o_COMPACT_STRINGS St (Nat.le_of_ble_eq_true rfl) r_o_SIOOBE_FORMATTER hR) hZ (hw _ (List.mem_of_getElem? (i := 31) rfl)) (hw _ (List.mem_of_getElem? (i := 30) rfl)) (by decide) (by decide)) (g := (mkF m 131 #[iv p1, iv p2, iv p3, iv p4, iv p5, iv (3 : Int32), iv c1, iv c2, iv c3, iv c4, rv b1, iv (0 : Int32)] [(.ref b1)])) rfl (by rw [hml]; rfl) (argsL := [(.ref b1)]) (rest := []) (lenOf own_pd__Ljava_lang_String__Z rfl) rfl (by show 2 * 0 + _ ≤ _; exact Nat.le_of_eq rfl) (hb hby at_131) (fun _ _ => ⟨rfl, e26, (by decide : 4 + 0 ≤ _), (by decide : 19 + 0 ≤ _)⟩)
                dsimp only [Pt.U, Pt.locs, Pt.cells, Pt.slots] at X27 l27 y27 z27 st27 hQ27
                subst l27 y27 z27
                obtain ⟨hv27, Nq27, e27⟩ := hQ27
                rw [show own_all [c1, c2, c3] = (0 : Int32) from by simp [own_all, hf0, hf1, hf2]] at hv27
                subst hv27
                have N27 := Fr.app N26 Nq27
                refine own_goW st27 ?_
                show own_GoW p e below s _ _ _ _ (T27.setTop (mkF m 134 #[iv p1, iv p2, iv p3, iv p4, iv p5, iv (3 : Int32), iv c1, iv c2, iv c3, iv c4, rv b1, iv (0 : Int32)] [(.int (0 : Int32))]))
                refine own_goW (fun zt zk => (XS.iload X27.here hx rfl (hb hby at_134) rfl (XS.icmpNo X27.here hx rfl (hb hby at_136) rfl (teq (rfl : (0 : Int32) = (0 : Int32))).2 (XS.iconst X27.here hx rfl (hb hby at_139) (XS.goto X27.here hx rfl (pc0 := 140) (pc' := 144) rfl (hb hby at_140) (by decide) (by decide) zk))))) ?_
                show own_GoW p e below s _ _ _ _ (T27.setTop (mkF m 144 #[iv p1, iv p2, iv p3, iv p4, iv p5, iv (3 : Int32), iv c1, iv c2, iv c3, iv c4, rv b1, iv (0 : Int32)] [(.int (1 : Int32))]))
                have Re := Rc.trans (CHv.at X27 hZ hEL Rc.1)
                exact own_finW X27 hS (by rw [e27]; exact hk) (by rw [e27, hh]; exact Re) Bd.notSynchronized (fun h => by rw [Bd.returns] at h; cases h) (fun fs hr => retN X27 hx (t := .boolean) Bd.returns (by simp) (hb hby at_144) hr) (by rw [e27]; exact ⟨rfl, N27⟩) (by decide) (by decide)
              · refine own_goW (fun zt zk => (XS.ifYes X26.here hx rfl (pc0 := 106) (pc' := 112) rfl (hb hby at_106) rfl ((if0 _ _).trans (feq (hf2 : ¬ ((own_fc c3) = (0 : Int32)))).2) (by decide) (by decide) (XS.iload X26.here hx rfl (hb hby at_112) rfl (XS.iconst X26.here hx rfl (hb hby at_114) (XS.icmpYes X26.here hx rfl (pc0 := 115) (pc' := 129) rfl (hb hby at_115) rfl (flt ((own_irr _) : ¬ ((3 : Int32) < (3 : Int32)))).2.2.2 (by decide) (by decide) (XS.aload X26.here hx rfl (hb hby at_129) rfl rfl zk)))))) ?_
                show own_GoW p e below s _ _ _ _ (T26.setTop (mkF m 131 #[iv p1, iv p2, iv p3, iv p4, iv p5, iv (3 : Int32), iv c1, iv c2, iv c3, iv c4, rv b1, iv (0 : Int32)] [(.ref b1)]))
                obtain ⟨_, _, ⟨T28, L28, k28, n28⟩, -, X28, ⟨Lc28, hQ28, l28, y28, z28⟩, st28⟩ := Jvm.LawKit.callS X26 hx (y := (⟨"com/example/mortise/mortise/http/Headers", "isValue", "(Ljava/lang/String;)Z"⟩ : MethodName)) hown (mvT hZ (hw _ (List.mem_of_getElem? (i := 28) rfl))) (mvT hZ (hw _ (List.mem_of_getElem? (i := 29) rfl))) (mvT hZ (hw _ (List.mem_of_getElem? (i := 30) rfl))) (mvT hZ (hw _ (List.mem_of_getElem? (i := 31) rfl))) (by decide) (backOf (W := 0) (own_risv l Z a0 hw [] b1 o_COMPACT_STRINGS o_SIOOBE_FORMATTER [c1, c2, c3] T20.heap n0 (Nat.le_trans Z0 Kp.1) O S_o_COMPACT_STRINGS S_o_SIOOBE_FORMATTER S_o__assertionsDisabled S_o_HI_BYTE_SHIFT S_o_LO_BYTE_SHIFT nz_o_COMPACT_STRINGS St (Nat.le_of_ble_eq_true rfl) r_o_SIOOBE_FORMATTER hR) hZ (hw _ (List.mem_of_getElem? (i := 31) rfl)) (hw _ (List.mem_of_getElem? (i := 30) rfl)) (by decide) (by decide)) (g := (mkF m 131 #[iv p1, iv p2, iv p3, iv p4, iv p5, iv (3 : Int32), iv c1, iv c2, iv c3, iv c4, rv b1, iv (0 : Int32)] [(.ref b1)])) rfl (by rw [hml]; rfl) (argsL := [(.ref b1)]) (rest := []) (lenOf own_pd__Ljava_lang_String__Z rfl) rfl (by show 2 * 0 + _ ≤ _; exact Nat.le_of_eq rfl) (hb hby at_131) (fun _ _ => ⟨rfl, e26, (by decide : 4 + 0 ≤ _), (by decide : 19 + 0 ≤ _)⟩)
                dsimp only [Pt.U, Pt.locs, Pt.cells, Pt.slots] at X28 l28 y28 z28 st28 hQ28
                subst l28 y28 z28
                obtain ⟨hv28, Nq28, e28⟩ := hQ28
                rw [show own_all [c1, c2, c3] = (0 : Int32) from by simp [own_all, hf0, hf1, hf2]] at hv28
                subst hv28
                have N28 := Fr.app N26 Nq28
                refine own_goW st28 ?_
                show own_GoW p e below s _ _ _ _ (T28.setTop (mkF m 134 #[iv p1, iv p2, iv p3, iv p4, iv p5, iv (3 : Int32), iv c1, iv c2, iv c3, iv c4, rv b1, iv (0 : Int32)] [(.int (0 : Int32))]))
                refine own_goW (fun zt zk => (XS.iload X28.here hx rfl (hb hby at_134) rfl (XS.icmpNo X28.here hx rfl (hb hby at_136) rfl (teq (rfl : (0 : Int32) = (0 : Int32))).2 (XS.iconst X28.here hx rfl (hb hby at_139) (XS.goto X28.here hx rfl (pc0 := 140) (pc' := 144) rfl (hb hby at_140) (by decide) (by decide) zk))))) ?_
                show own_GoW p e below s _ _ _ _ (T28.setTop (mkF m 144 #[iv p1, iv p2, iv p3, iv p4, iv p5, iv (3 : Int32), iv c1, iv c2, iv c3, iv c4, rv b1, iv (0 : Int32)] [(.int (1 : Int32))]))
                have Re := Rc.trans (CHv.at X28 hZ hEL Rc.1)
                exact own_finW X28 hS (by rw [e28]; exact hk) (by rw [e28, hh]; exact Re) Bd.notSynchronized (fun h => by rw [Bd.returns] at h; cases h) (fun fs hr => retN X28 hx (t := .boolean) Bd.returns (by simp) (hb hby at_144) hr) (by rw [e28]; exact ⟨rfl, N28⟩) (by decide) (by decide)
          · refine own_goW (fun zt zk => (XS.ifYes X21.here hx rfl (pc0 := 72) (pc' := 78) rfl (hb hby at_72) rfl ((if0 _ _).trans (feq (hf0 : ¬ ((own_fc c1) = (0 : Int32)))).2) (by decide) (by decide) (XS.iload X21.here hx rfl (hb hby at_78) rfl (XS.iconst X21.here hx rfl (hb hby at_80) (XS.icmpNo X21.here hx rfl (hb hby at_81) rfl (tlt ((by decide) : (1 : Int32) < (3 : Int32))).2.2.2 (XS.iload X21.here hx rfl (hb hby at_84) rfl zk)))))) ?_
            show own_GoW p e below s _ _ _ _ (T21.setTop (mkF m 86 #[iv p1, iv p2, iv p3, iv p4, iv p5, iv (3 : Int32), iv c1, iv c2, iv c3, iv c4, rv b1, iv (1 : Int32)] [(.int c2)]))
            obtain ⟨_, _, ⟨T29, L29, k29, n29⟩, -, X29, ⟨Lc29, hQ29, l29, y29, z29⟩, st29⟩ := Jvm.LawKit.callS X21 hx (y := (⟨"com/example/mortise/mortise/http/HeadersIsValuePinLaw", "fieldChar", "(C)Z"⟩ : MethodName)) hown (mvT hZ (hw _ (List.mem_of_getElem? (i := 53) rfl))) (mvT hZ (hw _ (List.mem_of_getElem? (i := 54) rfl))) (mvT hZ (hw _ (List.mem_of_getElem? (i := 7) rfl))) (mvT hZ (hw _ (List.mem_of_getElem? (i := 55) rfl))) (by decide) (backOf (W := 0) (own_rfc l Z a0 hw [] c2  T20.heap n0 (Nat.le_trans Z0 Kp.1) ) hZ (hw _ (List.mem_of_getElem? (i := 55) rfl)) (hw _ (List.mem_of_getElem? (i := 7) rfl)) (by decide) (by decide)) (g := (mkF m 86 #[iv p1, iv p2, iv p3, iv p4, iv p5, iv (3 : Int32), iv c1, iv c2, iv c3, iv c4, rv b1, iv (1 : Int32)] [(.int c2)])) rfl (by rw [hml]; rfl) (argsL := [(.int c2)]) (rest := []) (lenOf own_pd__C_Z rfl) rfl (by show 2 * 0 + _ ≤ _; exact Nat.le_of_eq rfl) (hb hby at_86) (fun _ _ => ⟨rfl, e21, (by decide : 4 + 0 ≤ _), (by decide : 19 + 0 ≤ _)⟩)
            dsimp only [Pt.U, Pt.locs, Pt.cells, Pt.slots] at X29 l29 y29 z29 st29 hQ29
            subst l29 y29 z29
            obtain ⟨rfl, Nq29, e29⟩ := hQ29
            have N29 := Fr.app N21 Nq29
            refine own_goW st29 ?_
            show own_GoW p e below s _ _ _ _ (T29.setTop (mkF m 89 #[iv p1, iv p2, iv p3, iv p4, iv p5, iv (3 : Int32), iv c1, iv c2, iv c3, iv c4, rv b1, iv (1 : Int32)] [(.int (own_fc c2))]))
            by_cases hf1 : (own_fc c2) = (0 : Int32)
            · refine own_goW (fun zt zk => (XS.ifNo X29.here hx rfl (hb hby at_89) rfl ((if0 _ _).trans (teq (hf1 : (own_fc c2) = (0 : Int32))).2) (XS.iconst X29.here hx rfl (hb hby at_92) (XS.istore X29.here hx rfl (hb hby at_93) rfl (l' := #[iv p1, iv p2, iv p3, iv p4, iv p5, iv (3 : Int32), iv c1, iv c2, iv c3, iv c4, rv b1, iv (0 : Int32)]) rfl (XS.iload X29.here hx rfl (hb hby at_95) rfl (XS.iconst X29.here hx rfl (hb hby at_97) (XS.icmpNo X29.here hx rfl (hb hby at_98) rfl (tlt ((by decide) : (2 : Int32) < (3 : Int32))).2.2.2 (XS.iload X29.here hx rfl (hb hby at_101) rfl zk)))))))) ?_
              show own_GoW p e below s _ _ _ _ (T29.setTop (mkF m 103 #[iv p1, iv p2, iv p3, iv p4, iv p5, iv (3 : Int32), iv c1, iv c2, iv c3, iv c4, rv b1, iv (0 : Int32)] [(.int c3)]))
              obtain ⟨_, _, ⟨T30, L30, k30, n30⟩, -, X30, ⟨Lc30, hQ30, l30, y30, z30⟩, st30⟩ := Jvm.LawKit.callS X29 hx (y := (⟨"com/example/mortise/mortise/http/HeadersIsValuePinLaw", "fieldChar", "(C)Z"⟩ : MethodName)) hown (mvT hZ (hw _ (List.mem_of_getElem? (i := 53) rfl))) (mvT hZ (hw _ (List.mem_of_getElem? (i := 54) rfl))) (mvT hZ (hw _ (List.mem_of_getElem? (i := 7) rfl))) (mvT hZ (hw _ (List.mem_of_getElem? (i := 55) rfl))) (by decide) (backOf (W := 0) (own_rfc l Z a0 hw [] c3  T20.heap n0 (Nat.le_trans Z0 Kp.1) ) hZ (hw _ (List.mem_of_getElem? (i := 55) rfl)) (hw _ (List.mem_of_getElem? (i := 7) rfl)) (by decide) (by decide)) (g := (mkF m 103 #[iv p1, iv p2, iv p3, iv p4, iv p5, iv (3 : Int32), iv c1, iv c2, iv c3, iv c4, rv b1, iv (0 : Int32)] [(.int c3)])) rfl (by rw [hml]; rfl) (argsL := [(.int c3)]) (rest := []) (lenOf own_pd__C_Z rfl) rfl (by show 2 * 0 + _ ≤ _; exact Nat.le_of_eq rfl) (hb hby at_103) (fun _ _ => ⟨rfl, e29, (by decide : 4 + 0 ≤ _), (by decide : 19 + 0 ≤ _)⟩)
              dsimp only [Pt.U, Pt.locs, Pt.cells, Pt.slots] at X30 l30 y30 z30 st30 hQ30
              subst l30 y30 z30
              obtain ⟨rfl, Nq30, e30⟩ := hQ30
              have N30 := Fr.app N29 Nq30
              refine own_goW st30 ?_
              show own_GoW p e below s _ _ _ _ (T30.setTop (mkF m 106 #[iv p1, iv p2, iv p3, iv p4, iv p5, iv (3 : Int32), iv c1, iv c2, iv c3, iv c4, rv b1, iv (0 : Int32)] [(.int (own_fc c3))]))
              by_cases hf2 : (own_fc c3) = (0 : Int32)
              · refine own_goW (fun zt zk => (XS.ifNo X30.here hx rfl (hb hby at_106) rfl ((if0 _ _).trans (teq (hf2 : (own_fc c3) = (0 : Int32))).2) (XS.iconst X30.here hx rfl (hb hby at_109) (XS.istore X30.here hx rfl (hb hby at_110) rfl (l' := #[iv p1, iv p2, iv p3, iv p4, iv p5, iv (3 : Int32), iv c1, iv c2, iv c3, iv c4, rv b1, iv (0 : Int32)]) rfl (XS.iload X30.here hx rfl (hb hby at_112) rfl (XS.iconst X30.here hx rfl (hb hby at_114) (XS.icmpYes X30.here hx rfl (pc0 := 115) (pc' := 129) rfl (hb hby at_115) rfl (flt ((own_irr _) : ¬ ((3 : Int32) < (3 : Int32)))).2.2.2 (by decide) (by decide) (XS.aload X30.here hx rfl (hb hby at_129) rfl rfl zk)))))))) ?_
                show own_GoW p e below s _ _ _ _ (T30.setTop (mkF m 131 #[iv p1, iv p2, iv p3, iv p4, iv p5, iv (3 : Int32), iv c1, iv c2, iv c3, iv c4, rv b1, iv (0 : Int32)] [(.ref b1)]))
                obtain ⟨_, _, ⟨T31, L31, k31, n31⟩, -, X31, ⟨Lc31, hQ31, l31, y31, z31⟩, st31⟩ := Jvm.LawKit.callS X30 hx (y := (⟨"com/example/mortise/mortise/http/Headers", "isValue", "(Ljava/lang/String;)Z"⟩ : MethodName)) hown (mvT hZ (hw _ (List.mem_of_getElem? (i := 28) rfl))) (mvT hZ (hw _ (List.mem_of_getElem? (i := 29) rfl))) (mvT hZ (hw _ (List.mem_of_getElem? (i := 30) rfl))) (mvT hZ (hw _ (List.mem_of_getElem? (i := 31) rfl))) (by decide) (backOf (W := 0) (own_risv l Z a0 hw [] b1 o_COMPACT_STRINGS o_SIOOBE_FORMATTER [c1, c2, c3] T20.heap n0 (Nat.le_trans Z0 Kp.1) O S_o_COMPACT_STRINGS S_o_SIOOBE_FORMATTER S_o__assertionsDisabled S_o_HI_BYTE_SHIFT S_o_LO_BYTE_SHIFT nz_o_COMPACT_STRINGS St (Nat.le_of_ble_eq_true rfl) r_o_SIOOBE_FORMATTER hR) hZ (hw _ (List.mem_of_getElem? (i := 31) rfl)) (hw _ (List.mem_of_getElem? (i := 30) rfl)) (by decide) (by decide)) (g := (mkF m 131 #[iv p1, iv p2, iv p3, iv p4, iv p5, iv (3 : Int32), iv c1, iv c2, iv c3, iv c4, rv b1, iv (0 : Int32)] [(.ref b1)])) rfl (by rw [hml]; rfl) (argsL := [(.ref b1)]) (rest := []) (lenOf own_pd__Ljava_lang_String__Z rfl) rfl (by show 2 * 0 + _ ≤ _; exact Nat.le_of_eq rfl) (hb hby at_131) (fun _ _ => ⟨rfl, e30, (by decide : 4 + 0 ≤ _), (by decide : 19 + 0 ≤ _)⟩)
                dsimp only [Pt.U, Pt.locs, Pt.cells, Pt.slots] at X31 l31 y31 z31 st31 hQ31
                subst l31 y31 z31
                obtain ⟨hv31, Nq31, e31⟩ := hQ31
                rw [show own_all [c1, c2, c3] = (0 : Int32) from by simp [own_all, hf0, hf1, hf2]] at hv31
                subst hv31
                have N31 := Fr.app N30 Nq31
                refine own_goW st31 ?_
                show own_GoW p e below s _ _ _ _ (T31.setTop (mkF m 134 #[iv p1, iv p2, iv p3, iv p4, iv p5, iv (3 : Int32), iv c1, iv c2, iv c3, iv c4, rv b1, iv (0 : Int32)] [(.int (0 : Int32))]))
                refine own_goW (fun zt zk => (XS.iload X31.here hx rfl (hb hby at_134) rfl (XS.icmpNo X31.here hx rfl (hb hby at_136) rfl (teq (rfl : (0 : Int32) = (0 : Int32))).2 (XS.iconst X31.here hx rfl (hb hby at_139) (XS.goto X31.here hx rfl (pc0 := 140) (pc' := 144) rfl (hb hby at_140) (by decide) (by decide) zk))))) ?_
                show own_GoW p e below s _ _ _ _ (T31.setTop (mkF m 144 #[iv p1, iv p2, iv p3, iv p4, iv p5, iv (3 : Int32), iv c1, iv c2, iv c3, iv c4, rv b1, iv (0 : Int32)] [(.int (1 : Int32))]))
                have Re := Rc.trans (CHv.at X31 hZ hEL Rc.1)
                exact own_finW X31 hS (by rw [e31]; exact hk) (by rw [e31, hh]; exact Re) Bd.notSynchronized (fun h => by rw [Bd.returns] at h; cases h) (fun fs hr => retN X31 hx (t := .boolean) Bd.returns (by simp) (hb hby at_144) hr) (by rw [e31]; exact ⟨rfl, N31⟩) (by decide) (by decide)
              · refine own_goW (fun zt zk => (XS.ifYes X30.here hx rfl (pc0 := 106) (pc' := 112) rfl (hb hby at_106) rfl ((if0 _ _).trans (feq (hf2 : ¬ ((own_fc c3) = (0 : Int32)))).2) (by decide) (by decide) (XS.iload X30.here hx rfl (hb hby at_112) rfl (XS.iconst X30.here hx rfl (hb hby at_114) (XS.icmpYes X30.here hx rfl (pc0 := 115) (pc' := 129) rfl (hb hby at_115) rfl (flt ((own_irr _) : ¬ ((3 : Int32) < (3 : Int32)))).2.2.2 (by decide) (by decide) (XS.aload X30.here hx rfl (hb hby at_129) rfl rfl zk)))))) ?_
                show own_GoW p e below s _ _ _ _ (T30.setTop (mkF m 131 #[iv p1, iv p2, iv p3, iv p4, iv p5, iv (3 : Int32), iv c1, iv c2, iv c3, iv c4, rv b1, iv (0 : Int32)] [(.ref b1)]))
                obtain ⟨_, _, ⟨T32, L32, k32, n32⟩, -, X32, ⟨Lc32, hQ32, l32, y32, z32⟩, st32⟩ := Jvm.LawKit.callS X30 hx (y := (⟨"com/example/mortise/mortise/http/Headers", "isValue", "(Ljava/lang/String;)Z"⟩ : MethodName)) hown (mvT hZ (hw _ (List.mem_of_getElem? (i := 28) rfl))) (mvT hZ (hw _ (List.mem_of_getElem? (i := 29) rfl))) (mvT hZ (hw _ (List.mem_of_getElem? (i := 30) rfl))) (mvT hZ (hw _ (List.mem_of_getElem? (i := 31) rfl))) (by decide) (backOf (W := 0) (own_risv l Z a0 hw [] b1 o_COMPACT_STRINGS o_SIOOBE_FORMATTER [c1, c2, c3] T20.heap n0 (Nat.le_trans Z0 Kp.1) O S_o_COMPACT_STRINGS S_o_SIOOBE_FORMATTER S_o__assertionsDisabled S_o_HI_BYTE_SHIFT S_o_LO_BYTE_SHIFT nz_o_COMPACT_STRINGS St (Nat.le_of_ble_eq_true rfl) r_o_SIOOBE_FORMATTER hR) hZ (hw _ (List.mem_of_getElem? (i := 31) rfl)) (hw _ (List.mem_of_getElem? (i := 30) rfl)) (by decide) (by decide)) (g := (mkF m 131 #[iv p1, iv p2, iv p3, iv p4, iv p5, iv (3 : Int32), iv c1, iv c2, iv c3, iv c4, rv b1, iv (0 : Int32)] [(.ref b1)])) rfl (by rw [hml]; rfl) (argsL := [(.ref b1)]) (rest := []) (lenOf own_pd__Ljava_lang_String__Z rfl) rfl (by show 2 * 0 + _ ≤ _; exact Nat.le_of_eq rfl) (hb hby at_131) (fun _ _ => ⟨rfl, e30, (by decide : 4 + 0 ≤ _), (by decide : 19 + 0 ≤ _)⟩)
                dsimp only [Pt.U, Pt.locs, Pt.cells, Pt.slots] at X32 l32 y32 z32 st32 hQ32
                subst l32 y32 z32
                obtain ⟨hv32, Nq32, e32⟩ := hQ32
                rw [show own_all [c1, c2, c3] = (0 : Int32) from by simp [own_all, hf0, hf1, hf2]] at hv32
                subst hv32
                have N32 := Fr.app N30 Nq32
                refine own_goW st32 ?_
                show own_GoW p e below s _ _ _ _ (T32.setTop (mkF m 134 #[iv p1, iv p2, iv p3, iv p4, iv p5, iv (3 : Int32), iv c1, iv c2, iv c3, iv c4, rv b1, iv (0 : Int32)] [(.int (0 : Int32))]))
                refine own_goW (fun zt zk => (XS.iload X32.here hx rfl (hb hby at_134) rfl (XS.icmpNo X32.here hx rfl (hb hby at_136) rfl (teq (rfl : (0 : Int32) = (0 : Int32))).2 (XS.iconst X32.here hx rfl (hb hby at_139) (XS.goto X32.here hx rfl (pc0 := 140) (pc' := 144) rfl (hb hby at_140) (by decide) (by decide) zk))))) ?_
                show own_GoW p e below s _ _ _ _ (T32.setTop (mkF m 144 #[iv p1, iv p2, iv p3, iv p4, iv p5, iv (3 : Int32), iv c1, iv c2, iv c3, iv c4, rv b1, iv (0 : Int32)] [(.int (1 : Int32))]))
                have Re := Rc.trans (CHv.at X32 hZ hEL Rc.1)
                exact own_finW X32 hS (by rw [e32]; exact hk) (by rw [e32, hh]; exact Re) Bd.notSynchronized (fun h => by rw [Bd.returns] at h; cases h) (fun fs hr => retN X32 hx (t := .boolean) Bd.returns (by simp) (hb hby at_144) hr) (by rw [e32]; exact ⟨rfl, N32⟩) (by decide) (by decide)
            · refine own_goW (fun zt zk => (XS.ifYes X29.here hx rfl (pc0 := 89) (pc' := 95) rfl (hb hby at_89) rfl ((if0 _ _).trans (feq (hf1 : ¬ ((own_fc c2) = (0 : Int32)))).2) (by decide) (by decide) (XS.iload X29.here hx rfl (hb hby at_95) rfl (XS.iconst X29.here hx rfl (hb hby at_97) (XS.icmpNo X29.here hx rfl (hb hby at_98) rfl (tlt ((by decide) : (2 : Int32) < (3 : Int32))).2.2.2 (XS.iload X29.here hx rfl (hb hby at_101) rfl zk)))))) ?_
              show own_GoW p e below s _ _ _ _ (T29.setTop (mkF m 103 #[iv p1, iv p2, iv p3, iv p4, iv p5, iv (3 : Int32), iv c1, iv c2, iv c3, iv c4, rv b1, iv (1 : Int32)] [(.int c3)]))
              obtain ⟨_, _, ⟨T33, L33, k33, n33⟩, -, X33, ⟨Lc33, hQ33, l33, y33, z33⟩, st33⟩ := Jvm.LawKit.callS X29 hx (y := (⟨"com/example/mortise/mortise/http/HeadersIsValuePinLaw", "fieldChar", "(C)Z"⟩ : MethodName)) hown (mvT hZ (hw _ (List.mem_of_getElem? (i := 53) rfl))) (mvT hZ (hw _ (List.mem_of_getElem? (i := 54) rfl))) (mvT hZ (hw _ (List.mem_of_getElem? (i := 7) rfl))) (mvT hZ (hw _ (List.mem_of_getElem? (i := 55) rfl))) (by decide) (backOf (W := 0) (own_rfc l Z a0 hw [] c3  T20.heap n0 (Nat.le_trans Z0 Kp.1) ) hZ (hw _ (List.mem_of_getElem? (i := 55) rfl)) (hw _ (List.mem_of_getElem? (i := 7) rfl)) (by decide) (by decide)) (g := (mkF m 103 #[iv p1, iv p2, iv p3, iv p4, iv p5, iv (3 : Int32), iv c1, iv c2, iv c3, iv c4, rv b1, iv (1 : Int32)] [(.int c3)])) rfl (by rw [hml]; rfl) (argsL := [(.int c3)]) (rest := []) (lenOf own_pd__C_Z rfl) rfl (by show 2 * 0 + _ ≤ _; exact Nat.le_of_eq rfl) (hb hby at_103) (fun _ _ => ⟨rfl, e29, (by decide : 4 + 0 ≤ _), (by decide : 19 + 0 ≤ _)⟩)
              dsimp only [Pt.U, Pt.locs, Pt.cells, Pt.slots] at X33 l33 y33 z33 st33 hQ33
              subst l33 y33 z33
              obtain ⟨rfl, Nq33, e33⟩ := hQ33
              have N33 := Fr.app N29 Nq33
              refine own_goW st33 ?_
              show own_GoW p e below s _ _ _ _ (T33.setTop (mkF m 106 #[iv p1, iv p2, iv p3, iv p4, iv p5, iv (3 : Int32), iv c1, iv c2, iv c3, iv c4, rv b1, iv (1 : Int32)] [(.int (own_fc c3))]))
              by_cases hf2 : (own_fc c3) = (0 : Int32)
              · refine own_goW (fun zt zk => (XS.ifNo X33.here hx rfl (hb hby at_106) rfl ((if0 _ _).trans (teq (hf2 : (own_fc c3) = (0 : Int32))).2) (XS.iconst X33.here hx rfl (hb hby at_109) (XS.istore X33.here hx rfl (hb hby at_110) rfl (l' := #[iv p1, iv p2, iv p3, iv p4, iv p5, iv (3 : Int32), iv c1, iv c2, iv c3, iv c4, rv b1, iv (0 : Int32)]) rfl (XS.iload X33.here hx rfl (hb hby at_112) rfl (XS.iconst X33.here hx rfl (hb hby at_114) (XS.icmpYes X33.here hx rfl (pc0 := 115) (pc' := 129) rfl (hb hby at_115) rfl (flt ((own_irr _) : ¬ ((3 : Int32) < (3 : Int32)))).2.2.2 (by decide) (by decide) (XS.aload X33.here hx rfl (hb hby at_129) rfl rfl zk)))))))) ?_
                show own_GoW p e below s _ _ _ _ (T33.setTop (mkF m 131 #[iv p1, iv p2, iv p3, iv p4, iv p5, iv (3 : Int32), iv c1, iv c2, iv c3, iv c4, rv b1, iv (0 : Int32)] [(.ref b1)]))
                obtain ⟨_, _, ⟨T34, L34, k34, n34⟩, -, X34, ⟨Lc34, hQ34, l34, y34, z34⟩, st34⟩ := Jvm.LawKit.callS X33 hx (y := (⟨"com/example/mortise/mortise/http/Headers", "isValue", "(Ljava/lang/String;)Z"⟩ : MethodName)) hown (mvT hZ (hw _ (List.mem_of_getElem? (i := 28) rfl))) (mvT hZ (hw _ (List.mem_of_getElem? (i := 29) rfl))) (mvT hZ (hw _ (List.mem_of_getElem? (i := 30) rfl))) (mvT hZ (hw _ (List.mem_of_getElem? (i := 31) rfl))) (by decide) (backOf (W := 0) (own_risv l Z a0 hw [] b1 o_COMPACT_STRINGS o_SIOOBE_FORMATTER [c1, c2, c3] T20.heap n0 (Nat.le_trans Z0 Kp.1) O S_o_COMPACT_STRINGS S_o_SIOOBE_FORMATTER S_o__assertionsDisabled S_o_HI_BYTE_SHIFT S_o_LO_BYTE_SHIFT nz_o_COMPACT_STRINGS St (Nat.le_of_ble_eq_true rfl) r_o_SIOOBE_FORMATTER hR) hZ (hw _ (List.mem_of_getElem? (i := 31) rfl)) (hw _ (List.mem_of_getElem? (i := 30) rfl)) (by decide) (by decide)) (g := (mkF m 131 #[iv p1, iv p2, iv p3, iv p4, iv p5, iv (3 : Int32), iv c1, iv c2, iv c3, iv c4, rv b1, iv (0 : Int32)] [(.ref b1)])) rfl (by rw [hml]; rfl) (argsL := [(.ref b1)]) (rest := []) (lenOf own_pd__Ljava_lang_String__Z rfl) rfl (by show 2 * 0 + _ ≤ _; exact Nat.le_of_eq rfl) (hb hby at_131) (fun _ _ => ⟨rfl, e33, (by decide : 4 + 0 ≤ _), (by decide : 19 + 0 ≤ _)⟩)
                dsimp only [Pt.U, Pt.locs, Pt.cells, Pt.slots] at X34 l34 y34 z34 st34 hQ34
                subst l34 y34 z34
                obtain ⟨hv34, Nq34, e34⟩ := hQ34
                rw [show own_all [c1, c2, c3] = (0 : Int32) from by simp [own_all, hf0, hf1, hf2]] at hv34
                subst hv34
                have N34 := Fr.app N33 Nq34
                refine own_goW st34 ?_
                show own_GoW p e below s _ _ _ _ (T34.setTop (mkF m 134 #[iv p1, iv p2, iv p3, iv p4, iv p5, iv (3 : Int32), iv c1, iv c2, iv c3, iv c4, rv b1, iv (0 : Int32)] [(.int (0 : Int32))]))
                refine own_goW (fun zt zk => (XS.iload X34.here hx rfl (hb hby at_134) rfl (XS.icmpNo X34.here hx rfl (hb hby at_136) rfl (teq (rfl : (0 : Int32) = (0 : Int32))).2 (XS.iconst X34.here hx rfl (hb hby at_139) (XS.goto X34.here hx rfl (pc0 := 140) (pc' := 144) rfl (hb hby at_140) (by decide) (by decide) zk))))) ?_
                show own_GoW p e below s _ _ _ _ (T34.setTop (mkF m 144 #[iv p1, iv p2, iv p3, iv p4, iv p5, iv (3 : Int32), iv c1, iv c2, iv c3, iv c4, rv b1, iv (0 : Int32)] [(.int (1 : Int32))]))
                have Re := Rc.trans (CHv.at X34 hZ hEL Rc.1)
                exact own_finW X34 hS (by rw [e34]; exact hk) (by rw [e34, hh]; exact Re) Bd.notSynchronized (fun h => by rw [Bd.returns] at h; cases h) (fun fs hr => retN X34 hx (t := .boolean) Bd.returns (by simp) (hb hby at_144) hr) (by rw [e34]; exact ⟨rfl, N34⟩) (by decide) (by decide)
              · refine own_goW (fun zt zk => (XS.ifYes X33.here hx rfl (pc0 := 106) (pc' := 112) rfl (hb hby at_106) rfl ((if0 _ _).trans (feq (hf2 : ¬ ((own_fc c3) = (0 : Int32)))).2) (by decide) (by decide) (XS.iload X33.here hx rfl (hb hby at_112) rfl (XS.iconst X33.here hx rfl (hb hby at_114) (XS.icmpYes X33.here hx rfl (pc0 := 115) (pc' := 129) rfl (hb hby at_115) rfl (flt ((own_irr _) : ¬ ((3 : Int32) < (3 : Int32)))).2.2.2 (by decide) (by decide) (XS.aload X33.here hx rfl (hb hby at_129) rfl rfl zk)))))) ?_
                show own_GoW p e below s _ _ _ _ (T33.setTop (mkF m 131 #[iv p1, iv p2, iv p3, iv p4, iv p5, iv (3 : Int32), iv c1, iv c2, iv c3, iv c4, rv b1, iv (1 : Int32)] [(.ref b1)]))
                obtain ⟨_, _, ⟨T35, L35, k35, n35⟩, -, X35, ⟨Lc35, hQ35, l35, y35, z35⟩, st35⟩ := Jvm.LawKit.callS X33 hx (y := (⟨"com/example/mortise/mortise/http/Headers", "isValue", "(Ljava/lang/String;)Z"⟩ : MethodName)) hown (mvT hZ (hw _ (List.mem_of_getElem? (i := 28) rfl))) (mvT hZ (hw _ (List.mem_of_getElem? (i := 29) rfl))) (mvT hZ (hw _ (List.mem_of_getElem? (i := 30) rfl))) (mvT hZ (hw _ (List.mem_of_getElem? (i := 31) rfl))) (by decide) (backOf (W := 0) (own_risv l Z a0 hw [] b1 o_COMPACT_STRINGS o_SIOOBE_FORMATTER [c1, c2, c3] T20.heap n0 (Nat.le_trans Z0 Kp.1) O S_o_COMPACT_STRINGS S_o_SIOOBE_FORMATTER S_o__assertionsDisabled S_o_HI_BYTE_SHIFT S_o_LO_BYTE_SHIFT nz_o_COMPACT_STRINGS St (Nat.le_of_ble_eq_true rfl) r_o_SIOOBE_FORMATTER hR) hZ (hw _ (List.mem_of_getElem? (i := 31) rfl)) (hw _ (List.mem_of_getElem? (i := 30) rfl)) (by decide) (by decide)) (g := (mkF m 131 #[iv p1, iv p2, iv p3, iv p4, iv p5, iv (3 : Int32), iv c1, iv c2, iv c3, iv c4, rv b1, iv (1 : Int32)] [(.ref b1)])) rfl (by rw [hml]; rfl) (argsL := [(.ref b1)]) (rest := []) (lenOf own_pd__Ljava_lang_String__Z rfl) rfl (by show 2 * 0 + _ ≤ _; exact Nat.le_of_eq rfl) (hb hby at_131) (fun _ _ => ⟨rfl, e33, (by decide : 4 + 0 ≤ _), (by decide : 19 + 0 ≤ _)⟩)
                dsimp only [Pt.U, Pt.locs, Pt.cells, Pt.slots] at X35 l35 y35 z35 st35 hQ35
                subst l35 y35 z35
                obtain ⟨hv35, Nq35, e35⟩ := hQ35
                rw [show own_all [c1, c2, c3] = (1 : Int32) from by simp [own_all, hf0, hf1, hf2]] at hv35
                subst hv35
                have N35 := Fr.app N33 Nq35
                refine own_goW st35 ?_
                show own_GoW p e below s _ _ _ _ (T35.setTop (mkF m 134 #[iv p1, iv p2, iv p3, iv p4, iv p5, iv (3 : Int32), iv c1, iv c2, iv c3, iv c4, rv b1, iv (1 : Int32)] [(.int (1 : Int32))]))
                refine own_goW (fun zt zk => (XS.iload X35.here hx rfl (hb hby at_134) rfl (XS.icmpNo X35.here hx rfl (hb hby at_136) rfl (teq (rfl : (1 : Int32) = (1 : Int32))).2 (XS.iconst X35.here hx rfl (hb hby at_139) (XS.goto X35.here hx rfl (pc0 := 140) (pc' := 144) rfl (hb hby at_140) (by decide) (by decide) zk))))) ?_
                show own_GoW p e below s _ _ _ _ (T35.setTop (mkF m 144 #[iv p1, iv p2, iv p3, iv p4, iv p5, iv (3 : Int32), iv c1, iv c2, iv c3, iv c4, rv b1, iv (1 : Int32)] [(.int (1 : Int32))]))
                have Re := Rc.trans (CHv.at X35 hZ hEL Rc.1)
                exact own_finW X35 hS (by rw [e35]; exact hk) (by rw [e35, hh]; exact Re) Bd.notSynchronized (fun h => by rw [Bd.returns] at h; cases h) (fun fs hr => retN X35 hx (t := .boolean) Bd.returns (by simp) (hb hby at_144) hr) (by rw [e35]; exact ⟨rfl, N35⟩) (by decide) (by decide)
        · have lo_ := Ex_b1.lt
          obtain ⟨_, _, ⟨T36, L36, k36, n36⟩, -, X36, ⟨Lc36, hQ36, l36, y36, z36⟩, st36⟩ := Jvm.LawKit.callS X1 hx (y := (⟨"com/example/mortise/mortise/http/HeadersIsValuePinLaw", "chars", "(ICCCC)[C"⟩ : MethodName)) hown (mvT hZ (hw _ (List.mem_of_getElem? (i := 5) rfl))) (mvT hZ (hw _ (List.mem_of_getElem? (i := 6) rfl))) (mvT hZ (hw _ (List.mem_of_getElem? (i := 7) rfl))) (mvT hZ (hw _ (List.mem_of_getElem? (i := 8) rfl))) (by decide) (backOf (W := 2) (own_rchars4 l Z a0 hw [] k c1 c2 c3 c4  h1 n0 (Nat.le_trans Z0 Kp.1) hr_c1 hr_c2 hr_c3 hr_c4 hk0_k hk1_k hk2_k hk3_k) hZ (hw _ (List.mem_of_getElem? (i := 8) rfl)) (hw _ (List.mem_of_getElem? (i := 7) rfl)) (by decide) (by decide)) (g := (mkF m 51 #[iv p1, iv p2, iv p3, iv p4, iv p5, iv k, iv c1, iv c2, iv c3, iv c4, .unset, .unset] [(.int c4), (.int c3), (.int c2), (.int c1), (.int k), (.ref b1), (.ref b1)])) rfl (by rw [hml]; rfl) (argsL := [(.int k), (.int c1), (.int c2), (.int c3), (.int c4)]) (rest := [(.ref b1), (.ref b1)]) (lenOf own_pd__ICCCC__C rfl) rfl (by show 2 * 0 + _ ≤ _; exact Nat.le_of_eq rfl) (hb hby at_51) (fun _ _ => ⟨rfl, e1, (by decide : 1 + 1 ≤ _), (by decide : 4 + 4 ≤ _)⟩)
          dsimp only [Pt.U, Pt.locs, Pt.cells, Pt.slots] at X36 l36 y36 z36 st36 hQ36
          subst l36 y36 z36
          obtain ⟨b36, kb36, rfl, Nq36, K36, sz_b36, V_b36⟩ := hQ36
          have N36 := Fr.app N0 Nq36
          refine own_goW st36 ?_
          have Sf_b1' := Safe.keep K36 all0 Rc.1 Sf_b1
          replace Rc := Rc.trans (CHr.keep K36 all0 Rc.1)
          replace hk := Nat.le_trans hk K36.1
          replace Sf_b1 := Sf_b1'
          replace O := O.keep K36 all0
          replace Kp := Kp.trans K36 all0
          replace Ex_b1 := Ex_b1.keep K36
          replace F_value_b1 := F_value_b1.keep K36 nin0
          replace F_coder_b1 := F_coder_b1.keep K36 nin0
          show own_GoW p e below s _ _ _ _ (T36.setTop (mkF m 54 #[iv p1, iv p2, iv p3, iv p4, iv p5, iv k, iv c1, iv c2, iv c3, iv c4, .unset, .unset] [(.ref b36), (.ref b1), (.ref b1)]))
          have ne_b36_b1 : b36 ≠ b1 := Ne.symm (Nat.ne_of_lt (Nat.lt_of_lt_of_le lo_ sz_b36))
          have hk4_k : k = (4 : Int32) := Int32.toInt_inj.mp (by have a := own_mod (D := 5) rfl (by decide) hv_k; have b0 := own_ne 0 rfl hk0_k; have b1 := own_ne 1 rfl hk1_k; have b2 := own_ne 2 rfl hk2_k; have b3 := own_ne 3 rfl hk3_k; show k.toInt = 4; omega)
          subst hk4_k
          show own_GoW p e below s _ _ _ _ (T36.setTop (mkF m 54 #[iv p1, iv p2, iv p3, iv p4, iv p5, iv (4 : Int32), iv c1, iv c2, iv c3, iv c4, .unset, .unset] [(.ref b36), (.ref b1), (.ref b1)]))
          have hR : own_R [c1, c2, c3, c4] := (own_ac hr_c1 (own_ac hr_c2 (own_ac hr_c3 (own_ac hr_c4 own_an))))
          obtain ⟨_, _, ⟨T37, L37, k37, n37⟩, -, X37, ⟨Lc37, hQ37, l37, y37, z37⟩, st37⟩ := X36.specialBack hx (y := (⟨"java/lang/String", "<init>", "([C)V"⟩ : MethodName)) rfl hown (mvT hZ (hw _ (List.mem_of_getElem? (i := 10) rfl))) (mvT hZ (hw _ (List.mem_of_getElem? (i := 11) rfl))) (mvT hZ (hw _ (List.mem_of_getElem? (i := 12) rfl))) (by decide) (backOf (W := 1) (own_ri1 l Z a0 hw [] b1 b36 o_COMPACT_STRINGS kb36 [c1, c2, c3, c4] T36.heap n0 (Nat.le_trans Z0 Kp.1) O S_o_COMPACT_STRINGS S_o__assertionsDisabled S_o_HI_BYTE_SHIFT S_o_LO_BYTE_SHIFT Ex_b1 F_value_b1 F_coder_b1 V_b36 g_b1 nz_o_COMPACT_STRINGS (Nat.le_of_ble_eq_true rfl) (Nat.le_of_ble_eq_true rfl) hR ne_b36_b1) hZ (hw _ (List.mem_of_getElem? (i := 12) rfl)) (hw _ (List.mem_of_getElem? (i := 4) rfl)) (by decide) (by decide)) (g := (mkF m 54 #[iv p1, iv p2, iv p3, iv p4, iv p5, iv (4 : Int32), iv c1, iv c2, iv c3, iv c4, .unset, .unset] [(.ref b36), (.ref b1), (.ref b1)])) rfl (by rw [hml]; rfl) (Steps.refl _) (a := b1) (argsL := [(.ref b36)]) (rest := [(.ref b1)]) (lenOf own_pd___C_V rfl) rfl (by show 2 * 0 + _ ≤ _; exact Nat.le_of_eq rfl) (hb hby at_54) (fun _ _ => ⟨rfl, rfl, (by decide : 2 + 2 ≤ _), (by decide : 8 + 12 ≤ _)⟩)
          dsimp only [Pt.U, Pt.locs, Pt.cells, Pt.slots] at X37 l37 y37 z37 st37 hQ37
          subst l37 y37 z37
          obtain ⟨rfl, Nq37, K37, St⟩ := hQ37
          have N37 := Fr.app N36 Nq37
          refine own_goW (fun zt zk => st37.trans zk) ?_
          have Sf_b1' := Safe.keep K37 (allS Sf_b1 all0) Rc.1 Sf_b1
          replace Rc := Rc.trans (CHr.keep K37 (allS Sf_b1 all0) Rc.1)
          replace hk := Nat.le_trans hk K37.1
          replace Sf_b1 := Sf_b1'
          replace O := O.keep K37 (allS g_b1 all0)
          replace Kp := Kp.trans K37 (allS (Or.inr sz_b1) all0)
          replace Ex_b1 := Ex_b1.keep K37
          replace V_b36 := V_b36.keep K37 (ninS ne_b36_b1 nin0)
          show own_GoW p e below s _ _ _ _ (T37.setTop (mkF m 57 #[iv p1, iv p2, iv p3, iv p4, iv p5, iv (4 : Int32), iv c1, iv c2, iv c3, iv c4, .unset, .unset] [(.ref b1)]))
          refine own_goW (fun zt zk => (XS.astore X37.here hx rfl (hb hby at_57) rfl rfl (l' := #[iv p1, iv p2, iv p3, iv p4, iv p5, iv (4 : Int32), iv c1, iv c2, iv c3, iv c4, rv b1, .unset]) rfl (XS.iconst X37.here hx rfl (hb hby at_59) (XS.istore X37.here hx rfl (hb hby at_60) rfl (l' := #[iv p1, iv p2, iv p3, iv p4, iv p5, iv (4 : Int32), iv c1, iv c2, iv c3, iv c4, rv b1, iv (1 : Int32)]) rfl (XS.iload X37.here hx rfl (hb hby at_62) rfl (XS.ifNo X37.here hx rfl (hb hby at_64) rfl ((if0 _ _).trans (tlt ((by decide) : (0 : Int32) < (4 : Int32))).2.2.2) (XS.iload X37.here hx rfl (hb hby at_67) rfl zk))))))) ?_
          show own_GoW p e below s _ _ _ _ (T37.setTop (mkF m 69 #[iv p1, iv p2, iv p3, iv p4, iv p5, iv (4 : Int32), iv c1, iv c2, iv c3, iv c4, rv b1, iv (1 : Int32)] [(.int c1)]))
          obtain ⟨_, _, ⟨T38, L38, k38, n38⟩, -, X38, ⟨Lc38, hQ38, l38, y38, z38⟩, st38⟩ := Jvm.LawKit.callS X37 hx (y := (⟨"com/example/mortise/mortise/http/HeadersIsValuePinLaw", "fieldChar", "(C)Z"⟩ : MethodName)) hown (mvT hZ (hw _ (List.mem_of_getElem? (i := 53) rfl))) (mvT hZ (hw _ (List.mem_of_getElem? (i := 54) rfl))) (mvT hZ (hw _ (List.mem_of_getElem? (i := 7) rfl))) (mvT hZ (hw _ (List.mem_of_getElem? (i := 55) rfl))) (by decide) (backOf (W := 0) (own_rfc l Z a0 hw [] c1  T37.heap n0 (Nat.le_trans Z0 Kp.1) ) hZ (hw _ (List.mem_of_getElem? (i := 55) rfl)) (hw _ (List.mem_of_getElem? (i := 7) rfl)) (by decide) (by decide)) (g := (mkF m 69 #[iv p1, iv p2, iv p3, iv p4, iv p5, iv (4 : Int32), iv c1, iv c2, iv c3, iv c4, rv b1, iv (1 : Int32)] [(.int c1)])) rfl (by rw [hml]; rfl) (argsL := [(.int c1)]) (rest := []) (lenOf own_pd__C_Z rfl) rfl (by show 2 * 0 + _ ≤ _; exact Nat.le_of_eq rfl) (hb hby at_69) (fun _ _ => ⟨rfl, rfl, (by decide : 4 + 0 ≤ _), (by decide : 20 + 0 ≤ _)⟩)
          dsimp only [Pt.U, Pt.locs, Pt.cells, Pt.slots] at X38 l38 y38 z38 st38 hQ38
          subst l38 y38 z38
          obtain ⟨rfl, Nq38, e38⟩ := hQ38
          have N38 := Fr.app N37 Nq38
          refine own_goW st38 ?_
          show own_GoW p e below s _ _ _ _ (T38.setTop (mkF m 72 #[iv p1, iv p2, iv p3, iv p4, iv p5, iv (4 : Int32), iv c1, iv c2, iv c3, iv c4, rv b1, iv (1 : Int32)] [(.int (own_fc c1))]))
          by_cases hf0 : (own_fc c1) = (0 : Int32)
          · refine own_goW (fun zt zk => (XS.ifNo X38.here hx rfl (hb hby at_72) rfl ((if0 _ _).trans (teq (hf0 : (own_fc c1) = (0 : Int32))).2) (XS.iconst X38.here hx rfl (hb hby at_75) (XS.istore X38.here hx rfl (hb hby at_76) rfl (l' := #[iv p1, iv p2, iv p3, iv p4, iv p5, iv (4 : Int32), iv c1, iv c2, iv c3, iv c4, rv b1, iv (0 : Int32)]) rfl (XS.iload X38.here hx rfl (hb hby at_78) rfl (XS.iconst X38.here hx rfl (hb hby at_80) (XS.icmpNo X38.here hx rfl (hb hby at_81) rfl (tlt ((by decide) : (1 : Int32) < (4 : Int32))).2.2.2 (XS.iload X38.here hx rfl (hb hby at_84) rfl zk)))))))) ?_
            show own_GoW p e below s _ _ _ _ (T38.setTop (mkF m 86 #[iv p1, iv p2, iv p3, iv p4, iv p5, iv (4 : Int32), iv c1, iv c2, iv c3, iv c4, rv b1, iv (0 : Int32)] [(.int c2)]))
            obtain ⟨_, _, ⟨T39, L39, k39, n39⟩, -, X39, ⟨Lc39, hQ39, l39, y39, z39⟩, st39⟩ := Jvm.LawKit.callS X38 hx (y := (⟨"com/example/mortise/mortise/http/HeadersIsValuePinLaw", "fieldChar", "(C)Z"⟩ : MethodName)) hown (mvT hZ (hw _ (List.mem_of_getElem? (i := 53) rfl))) (mvT hZ (hw _ (List.mem_of_getElem? (i := 54) rfl))) (mvT hZ (hw _ (List.mem_of_getElem? (i := 7) rfl))) (mvT hZ (hw _ (List.mem_of_getElem? (i := 55) rfl))) (by decide) (backOf (W := 0) (own_rfc l Z a0 hw [] c2  T37.heap n0 (Nat.le_trans Z0 Kp.1) ) hZ (hw _ (List.mem_of_getElem? (i := 55) rfl)) (hw _ (List.mem_of_getElem? (i := 7) rfl)) (by decide) (by decide)) (g := (mkF m 86 #[iv p1, iv p2, iv p3, iv p4, iv p5, iv (4 : Int32), iv c1, iv c2, iv c3, iv c4, rv b1, iv (0 : Int32)] [(.int c2)])) rfl (by rw [hml]; rfl) (argsL := [(.int c2)]) (rest := []) (lenOf own_pd__C_Z rfl) rfl (by show 2 * 0 + _ ≤ _; exact Nat.le_of_eq rfl) (hb hby at_86) (fun _ _ => ⟨rfl, e38, (by decide : 4 + 0 ≤ _), (by decide : 20 + 0 ≤ _)⟩)
            dsimp only [Pt.U, Pt.locs, Pt.cells, Pt.slots] at X39 l39 y39 z39 st39 hQ39
            subst l39 y39 z39
            obtain ⟨rfl, Nq39, e39⟩ := hQ39
            have N39 := Fr.app N38 Nq39
            refine own_goW st39 ?_
            show own_GoW p e below s _ _ _ _ (T39.setTop (mkF m 89 #[iv p1, iv p2, iv p3, iv p4, iv p5, iv (4 : Int32), iv c1, iv c2, iv c3, iv c4, rv b1, iv (0 : Int32)] [(.int (own_fc c2))]))
            by_cases hf1 : (own_fc c2) = (0 : Int32)
            · refine own_goW (fun zt zk => (XS.ifNo X39.here hx rfl (hb hby at_89) rfl ((if0 _ _).trans (teq (hf1 : (own_fc c2) = (0 : Int32))).2) (XS.iconst X39.here hx rfl (hb hby at_92) (XS.istore X39.here hx rfl (hb hby at_93) rfl (l' := #[iv p1, iv p2, iv p3, iv p4, iv p5, iv (4 : Int32), iv c1, iv c2, iv c3, iv c4, rv b1, iv (0 : Int32)]) rfl (XS.iload X39.here hx rfl (hb hby at_95) rfl (XS.iconst X39.here hx rfl (hb hby at_97) (XS.icmpNo X39.here hx rfl (hb hby at_98) rfl (tlt ((by decide) : (2 : Int32) < (4 : Int32))).2.2.2 (XS.iload X39.here hx rfl (hb hby at_101) rfl zk)))))))) ?_
              show own_GoW p e below s _ _ _ _ (T39.setTop (mkF m 103 #[iv p1, iv p2, iv p3, iv p4, iv p5, iv (4 : Int32), iv c1, iv c2, iv c3, iv c4, rv b1, iv (0 : Int32)] [(.int c3)]))
              obtain ⟨_, _, ⟨T40, L40, k40, n40⟩, -, X40, ⟨Lc40, hQ40, l40, y40, z40⟩, st40⟩ := Jvm.LawKit.callS X39 hx (y := (⟨"com/example/mortise/mortise/http/HeadersIsValuePinLaw", "fieldChar", "(C)Z"⟩ : MethodName)) hown (mvT hZ (hw _ (List.mem_of_getElem? (i := 53) rfl))) (mvT hZ (hw _ (List.mem_of_getElem? (i := 54) rfl))) (mvT hZ (hw _ (List.mem_of_getElem? (i := 7) rfl))) (mvT hZ (hw _ (List.mem_of_getElem? (i := 55) rfl))) (by decide) (backOf (W := 0) (own_rfc l Z a0 hw [] c3  T37.heap n0 (Nat.le_trans Z0 Kp.1) ) hZ (hw _ (List.mem_of_getElem? (i := 55) rfl)) (hw _ (List.mem_of_getElem? (i := 7) rfl)) (by decide) (by decide)) (g := (mkF m 103 #[iv p1, iv p2, iv p3, iv p4, iv p5, iv (4 : Int32), iv c1, iv c2, iv c3, iv c4, rv b1, iv (0 : Int32)] [(.int c3)])) rfl (by rw [hml]; rfl) (argsL := [(.int c3)]) (rest := []) (lenOf own_pd__C_Z rfl) rfl (by show 2 * 0 + _ ≤ _; exact Nat.le_of_eq rfl) (hb hby at_103) (fun _ _ => ⟨rfl, e39, (by decide : 4 + 0 ≤ _), (by decide : 20 + 0 ≤ _)⟩)
              dsimp only [Pt.U, Pt.locs, Pt.cells, Pt.slots] at X40 l40 y40 z40 st40 hQ40
              subst l40 y40 z40
              obtain ⟨rfl, Nq40, e40⟩ := hQ40
              have N40 := Fr.app N39 Nq40
              refine own_goW st40 ?_
              show own_GoW p e below s _ _ _ _ (T40.setTop (mkF m 106 #[iv p1, iv p2, iv p3, iv p4, iv p5, iv (4 : Int32), iv c1, iv c2, iv c3, iv c4, rv b1, iv (0 : Int32)] [(.int (own_fc c3))]))
              by_cases hf2 : (own_fc c3) = (0 : Int32)
              · refine own_goW (fun zt zk => (XS.ifNo X40.here hx rfl (hb hby at_106) rfl ((if0 _ _).trans (teq (hf2 : (own_fc c3) = (0 : Int32))).2) (XS.iconst X40.here hx rfl (hb hby at_109) (XS.istore X40.here hx rfl (hb hby at_110) rfl (l' := #[iv p1, iv p2, iv p3, iv p4, iv p5, iv (4 : Int32), iv c1, iv c2, iv c3, iv c4, rv b1, iv (0 : Int32)]) rfl (XS.iload X40.here hx rfl (hb hby at_112) rfl (XS.iconst X40.here hx rfl (hb hby at_114) (XS.icmpNo X40.here hx rfl (hb hby at_115) rfl (tlt ((by decide) : (3 : Int32) < (4 : Int32))).2.2.2 (XS.iload X40.here hx rfl (hb hby at_118) rfl zk)))))))) ?_
                show own_GoW p e below s _ _ _ _ (T40.setTop (mkF m 120 #[iv p1, iv p2, iv p3, iv p4, iv p5, iv (4 : Int32), iv c1, iv c2, iv c3, iv c4, rv b1, iv (0 : Int32)] [(.int c4)]))
                obtain ⟨_, _, ⟨T41, L41, k41, n41⟩, -, X41, ⟨Lc41, hQ41, l41, y41, z41⟩, st41⟩ := Jvm.LawKit.callS X40 hx (y := (⟨"com/example/mortise/mortise/http/HeadersIsValuePinLaw", "fieldChar", "(C)Z"⟩ : MethodName)) hown (mvT hZ (hw _ (List.mem_of_getElem? (i := 53) rfl))) (mvT hZ (hw _ (List.mem_of_getElem? (i := 54) rfl))) (mvT hZ (hw _ (List.mem_of_getElem? (i := 7) rfl))) (mvT hZ (hw _ (List.mem_of_getElem? (i := 55) rfl))) (by decide) (backOf (W := 0) (own_rfc l Z a0 hw [] c4  T37.heap n0 (Nat.le_trans Z0 Kp.1) ) hZ (hw _ (List.mem_of_getElem? (i := 55) rfl)) (hw _ (List.mem_of_getElem? (i := 7) rfl)) (by decide) (by decide)) (g := (mkF m 120 #[iv p1, iv p2, iv p3, iv p4, iv p5, iv (4 : Int32), iv c1, iv c2, iv c3, iv c4, rv b1, iv (0 : Int32)] [(.int c4)])) rfl (by rw [hml]; rfl) (argsL := [(.int c4)]) (rest := []) (lenOf own_pd__C_Z rfl) rfl (by show 2 * 0 + _ ≤ _; exact Nat.le_of_eq rfl) (hb hby at_120) (fun _ _ => ⟨rfl, e40, (by decide : 4 + 0 ≤ _), (by decide : 20 + 0 ≤ _)⟩)
                dsimp only [Pt.U, Pt.locs, Pt.cells, Pt.slots] at X41 l41 y41 z41 st41 hQ41
                subst l41 y41 z41
                obtain ⟨rfl, Nq41, e41⟩ := hQ41
                have N41 := Fr.app N40 Nq41
                refine own_goW st41 ?_
                show own_GoW p e below s _ _ _ _ (T41.setTop (mkF m 123 #[iv p1, iv p2, iv p3, iv p4, iv p5, iv (4 : Int32), iv c1, iv c2, iv c3, iv c4, rv b1, iv (0 : Int32)] [(.int (own_fc c4))]))
                by_cases hf3 : (own_fc c4) = (0 : Int32)
                · refine own_goW (fun zt zk => (XS.ifNo X41.here hx rfl (hb hby at_123) rfl ((if0 _ _).trans (teq (hf3 : (own_fc c4) = (0 : Int32))).2) (XS.iconst X41.here hx rfl (hb hby at_126) (XS.istore X41.here hx rfl (hb hby at_127) rfl (l' := #[iv p1, iv p2, iv p3, iv p4, iv p5, iv (4 : Int32), iv c1, iv c2, iv c3, iv c4, rv b1, iv (0 : Int32)]) rfl (XS.aload X41.here hx rfl (hb hby at_129) rfl rfl zk))))) ?_
                  show own_GoW p e below s _ _ _ _ (T41.setTop (mkF m 131 #[iv p1, iv p2, iv p3, iv p4, iv p5, iv (4 : Int32), iv c1, iv c2, iv c3, iv c4, rv b1, iv (0 : Int32)] [(.ref b1)]))
                  obtain ⟨_, _, ⟨T42, L42, k42, n42⟩, -, X42, ⟨Lc42, hQ42, l42, y42, z42⟩, st42⟩ := Jvm.LawKit.callS X41 hx (y := (⟨"com/example/mortise/mortise/http/Headers", "isValue", "(Ljava/lang/String;)Z"⟩ : MethodName)) hown (mvT hZ (hw _ (List.mem_of_getElem? (i := 28) rfl))) (mvT hZ (hw _ (List.mem_of_getElem? (i := 29) rfl))) (mvT hZ (hw _ (List.mem_of_getElem? (i := 30) rfl))) (mvT hZ (hw _ (List.mem_of_getElem? (i := 31) rfl))) (by decide) (backOf (W := 0) (own_risv l Z a0 hw [] b1 o_COMPACT_STRINGS o_SIOOBE_FORMATTER [c1, c2, c3, c4] T37.heap n0 (Nat.le_trans Z0 Kp.1) O S_o_COMPACT_STRINGS S_o_SIOOBE_FORMATTER S_o__assertionsDisabled S_o_HI_BYTE_SHIFT S_o_LO_BYTE_SHIFT nz_o_COMPACT_STRINGS St (Nat.le_of_ble_eq_true rfl) r_o_SIOOBE_FORMATTER hR) hZ (hw _ (List.mem_of_getElem? (i := 31) rfl)) (hw _ (List.mem_of_getElem? (i := 30) rfl)) (by decide) (by decide)) (g := (mkF m 131 #[iv p1, iv p2, iv p3, iv p4, iv p5, iv (4 : Int32), iv c1, iv c2, iv c3, iv c4, rv b1, iv (0 : Int32)] [(.ref b1)])) rfl (by rw [hml]; rfl) (argsL := [(.ref b1)]) (rest := []) (lenOf own_pd__Ljava_lang_String__Z rfl) rfl (by show 2 * 0 + _ ≤ _; exact Nat.le_of_eq rfl) (hb hby at_131) (fun _ _ => ⟨rfl, e41, (by decide : 4 + 0 ≤ _), (by decide : 20 + 0 ≤ _)⟩)
                  dsimp only [Pt.U, Pt.locs, Pt.cells, Pt.slots] at X42 l42 y42 z42 st42 hQ42
                  subst l42 y42 z42
                  obtain ⟨hv42, Nq42, e42⟩ := hQ42
                  rw [show own_all [c1, c2, c3, c4] = (0 : Int32) from by simp [own_all, hf0, hf1, hf2, hf3]] at hv42
                  subst hv42
                  have N42 := Fr.app N41 Nq42
                  refine own_goW st42 ?_
                  show own_GoW p e below s _ _ _ _ (T42.setTop (mkF m 134 #[iv p1, iv p2, iv p3, iv p4, iv p5, iv (4 : Int32), iv c1, iv c2, iv c3, iv c4, rv b1, iv (0 : Int32)] [(.int (0 : Int32))]))
                  refine own_goW (fun zt zk => (XS.iload X42.here hx rfl (hb hby at_134) rfl (XS.icmpNo X42.here hx rfl (hb hby at_136) rfl (teq (rfl : (0 : Int32) = (0 : Int32))).2 (XS.iconst X42.here hx rfl (hb hby at_139) (XS.goto X42.here hx rfl (pc0 := 140) (pc' := 144) rfl (hb hby at_140) (by decide) (by decide) zk))))) ?_
                  show own_GoW p e below s _ _ _ _ (T42.setTop (mkF m 144 #[iv p1, iv p2, iv p3, iv p4, iv p5, iv (4 : Int32), iv c1, iv c2, iv c3, iv c4, rv b1, iv (0 : Int32)] [(.int (1 : Int32))]))
                  have Re := Rc.trans (CHv.at X42 hZ hEL Rc.1)
                  exact own_finW X42 hS (by rw [e42]; exact hk) (by rw [e42, hh]; exact Re) Bd.notSynchronized (fun h => by rw [Bd.returns] at h; cases h) (fun fs hr => retN X42 hx (t := .boolean) Bd.returns (by simp) (hb hby at_144) hr) (by rw [e42]; exact ⟨rfl, N42⟩) (by decide) (by decide)
                · refine own_goW (fun zt zk => (XS.ifYes X41.here hx rfl (pc0 := 123) (pc' := 129) rfl (hb hby at_123) rfl ((if0 _ _).trans (feq (hf3 : ¬ ((own_fc c4) = (0 : Int32)))).2) (by decide) (by decide) (XS.aload X41.here hx rfl (hb hby at_129) rfl rfl zk))) ?_
                  show own_GoW p e below s _ _ _ _ (T41.setTop (mkF m 131 #[iv p1, iv p2, iv p3, iv p4, iv p5, iv (4 : Int32), iv c1, iv c2, iv c3, iv c4, rv b1, iv (0 : Int32)] [(.ref b1)]))
                  obtain ⟨_, _, ⟨T43, L43, k43, n43⟩, -, X43, ⟨Lc43, hQ43, l43, y43, z43⟩, st43⟩ := Jvm.LawKit.callS X41 hx (y := (⟨"com/example/mortise/mortise/http/Headers", "isValue", "(Ljava/lang/String;)Z"⟩ : MethodName)) hown (mvT hZ (hw _ (List.mem_of_getElem? (i := 28) rfl))) (mvT hZ (hw _ (List.mem_of_getElem? (i := 29) rfl))) (mvT hZ (hw _ (List.mem_of_getElem? (i := 30) rfl))) (mvT hZ (hw _ (List.mem_of_getElem? (i := 31) rfl))) (by decide) (backOf (W := 0) (own_risv l Z a0 hw [] b1 o_COMPACT_STRINGS o_SIOOBE_FORMATTER [c1, c2, c3, c4] T37.heap n0 (Nat.le_trans Z0 Kp.1) O S_o_COMPACT_STRINGS S_o_SIOOBE_FORMATTER S_o__assertionsDisabled S_o_HI_BYTE_SHIFT S_o_LO_BYTE_SHIFT nz_o_COMPACT_STRINGS St (Nat.le_of_ble_eq_true rfl) r_o_SIOOBE_FORMATTER hR) hZ (hw _ (List.mem_of_getElem? (i := 31) rfl)) (hw _ (List.mem_of_getElem? (i := 30) rfl)) (by decide) (by decide)) (g := (mkF m 131 #[iv p1, iv p2, iv p3, iv p4, iv p5, iv (4 : Int32), iv c1, iv c2, iv c3, iv c4, rv b1, iv (0 : Int32)] [(.ref b1)])) rfl (by rw [hml]; rfl) (argsL := [(.ref b1)]) (rest := []) (lenOf own_pd__Ljava_lang_String__Z rfl) rfl (by show 2 * 0 + _ ≤ _; exact Nat.le_of_eq rfl) (hb hby at_131) (fun _ _ => ⟨rfl, e41, (by decide : 4 + 0 ≤ _), (by decide : 20 + 0 ≤ _)⟩)
                  dsimp only [Pt.U, Pt.locs, Pt.cells, Pt.slots] at X43 l43 y43 z43 st43 hQ43
                  subst l43 y43 z43
                  obtain ⟨hv43, Nq43, e43⟩ := hQ43
                  rw [show own_all [c1, c2, c3, c4] = (0 : Int32) from by simp [own_all, hf0, hf1, hf2, hf3]] at hv43
                  subst hv43
                  have N43 := Fr.app N41 Nq43
                  refine own_goW st43 ?_
                  show own_GoW p e below s _ _ _ _ (T43.setTop (mkF m 134 #[iv p1, iv p2, iv p3, iv p4, iv p5, iv (4 : Int32), iv c1, iv c2, iv c3, iv c4, rv b1, iv (0 : Int32)] [(.int (0 : Int32))]))
                  refine own_goW (fun zt zk => (XS.iload X43.here hx rfl (hb hby at_134) rfl (XS.icmpNo X43.here hx rfl (hb hby at_136) rfl (teq (rfl : (0 : Int32) = (0 : Int32))).2 (XS.iconst X43.here hx rfl (hb hby at_139) (XS.goto X43.here hx rfl (pc0 := 140) (pc' := 144) rfl (hb hby at_140) (by decide) (by decide) zk))))) ?_
                  show own_GoW p e below s _ _ _ _ (T43.setTop (mkF m 144 #[iv p1, iv p2, iv p3, iv p4, iv p5, iv (4 : Int32), iv c1, iv c2, iv c3, iv c4, rv b1, iv (0 : Int32)] [(.int (1 : Int32))]))
                  have Re := Rc.trans (CHv.at X43 hZ hEL Rc.1)
                  exact own_finW X43 hS (by rw [e43]; exact hk) (by rw [e43, hh]; exact Re) Bd.notSynchronized (fun h => by rw [Bd.returns] at h; cases h) (fun fs hr => retN X43 hx (t := .boolean) Bd.returns (by simp) (hb hby at_144) hr) (by rw [e43]; exact ⟨rfl, N43⟩) (by decide) (by decide)
              · refine own_goW (fun zt zk => (XS.ifYes X40.here hx rfl (pc0 := 106) (pc' := 112) rfl (hb hby at_106) rfl ((if0 _ _).trans (feq (hf2 : ¬ ((own_fc c3) = (0 : Int32)))).2) (by decide) (by decide) (XS.iload X40.here hx rfl (hb hby at_112) rfl (XS.iconst X40.here hx rfl (hb hby at_114) (XS.icmpNo X40.here hx rfl (hb hby at_115) rfl (tlt ((by decide) : (3 : Int32) < (4 : Int32))).2.2.2 (XS.iload X40.here hx rfl (hb hby at_118) rfl zk)))))) ?_
                show own_GoW p e below s _ _ _ _ (T40.setTop (mkF m 120 #[iv p1, iv p2, iv p3, iv p4, iv p5, iv (4 : Int32), iv c1, iv c2, iv c3, iv c4, rv b1, iv (0 : Int32)] [(.int c4)]))
                obtain ⟨_, _, ⟨T44, L44, k44, n44⟩, -, X44, ⟨Lc44, hQ44, l44, y44, z44⟩, st44⟩ := Jvm.LawKit.callS X40 hx (y := (⟨"com/example/mortise/mortise/http/HeadersIsValuePinLaw", "fieldChar", "(C)Z"⟩ : MethodName)) hown (mvT hZ (hw _ (List.mem_of_getElem? (i := 53) rfl))) (mvT hZ (hw _ (List.mem_of_getElem? (i := 54) rfl))) (mvT hZ (hw _ (List.mem_of_getElem? (i := 7) rfl))) (mvT hZ (hw _ (List.mem_of_getElem? (i := 55) rfl))) (by decide) (backOf (W := 0) (own_rfc l Z a0 hw [] c4  T37.heap n0 (Nat.le_trans Z0 Kp.1) ) hZ (hw _ (List.mem_of_getElem? (i := 55) rfl)) (hw _ (List.mem_of_getElem? (i := 7) rfl)) (by decide) (by decide)) (g := (mkF m 120 #[iv p1, iv p2, iv p3, iv p4, iv p5, iv (4 : Int32), iv c1, iv c2, iv c3, iv c4, rv b1, iv (0 : Int32)] [(.int c4)])) rfl (by rw [hml]; rfl) (argsL := [(.int c4)]) (rest := []) (lenOf own_pd__C_Z rfl) rfl (by show 2 * 0 + _ ≤ _; exact Nat.le_of_eq rfl) (hb hby at_120) (fun _ _ => ⟨rfl, e40, (by decide : 4 + 0 ≤ _), (by decide : 20 + 0 ≤ _)⟩)
                dsimp only [Pt.U, Pt.locs, Pt.cells, Pt.slots] at X44 l44 y44 z44 st44 hQ44
                subst l44 y44 z44
                obtain ⟨rfl, Nq44, e44⟩ := hQ44
                have N44 := Fr.app N40 Nq44
                refine own_goW st44 ?_
                show own_GoW p e below s _ _ _ _ (T44.setTop (mkF m 123 #[iv p1, iv p2, iv p3, iv p4, iv p5, iv (4 : Int32), iv c1, iv c2, iv c3, iv c4, rv b1, iv (0 : Int32)] [(.int (own_fc c4))]))
                by_cases hf3 : (own_fc c4) = (0 : Int32)
                · refine own_goW (fun zt zk => (XS.ifNo X44.here hx rfl (hb hby at_123) rfl ((if0 _ _).trans (teq (hf3 : (own_fc c4) = (0 : Int32))).2) (XS.iconst X44.here hx rfl (hb hby at_126) (XS.istore X44.here hx rfl (hb hby at_127) rfl (l' := #[iv p1, iv p2, iv p3, iv p4, iv p5, iv (4 : Int32), iv c1, iv c2, iv c3, iv c4, rv b1, iv (0 : Int32)]) rfl (XS.aload X44.here hx rfl (hb hby at_129) rfl rfl zk))))) ?_
                  show own_GoW p e below s _ _ _ _ (T44.setTop (mkF m 131 #[iv p1, iv p2, iv p3, iv p4, iv p5, iv (4 : Int32), iv c1, iv c2, iv c3, iv c4, rv b1, iv (0 : Int32)] [(.ref b1)]))
                  obtain ⟨_, _, ⟨T45, L45, k45, n45⟩, -, X45, ⟨Lc45, hQ45, l45, y45, z45⟩, st45⟩ := Jvm.LawKit.callS X44 hx (y := (⟨"com/example/mortise/mortise/http/Headers", "isValue", "(Ljava/lang/String;)Z"⟩ : MethodName)) hown (mvT hZ (hw _ (List.mem_of_getElem? (i := 28) rfl))) (mvT hZ (hw _ (List.mem_of_getElem? (i := 29) rfl))) (mvT hZ (hw _ (List.mem_of_getElem? (i := 30) rfl))) (mvT hZ (hw _ (List.mem_of_getElem? (i := 31) rfl))) (by decide) (backOf (W := 0) (own_risv l Z a0 hw [] b1 o_COMPACT_STRINGS o_SIOOBE_FORMATTER [c1, c2, c3, c4] T37.heap n0 (Nat.le_trans Z0 Kp.1) O S_o_COMPACT_STRINGS S_o_SIOOBE_FORMATTER S_o__assertionsDisabled S_o_HI_BYTE_SHIFT S_o_LO_BYTE_SHIFT nz_o_COMPACT_STRINGS St (Nat.le_of_ble_eq_true rfl) r_o_SIOOBE_FORMATTER hR) hZ (hw _ (List.mem_of_getElem? (i := 31) rfl)) (hw _ (List.mem_of_getElem? (i := 30) rfl)) (by decide) (by decide)) (g := (mkF m 131 #[iv p1, iv p2, iv p3, iv p4, iv p5, iv (4 : Int32), iv c1, iv c2, iv c3, iv c4, rv b1, iv (0 : Int32)] [(.ref b1)])) rfl (by rw [hml]; rfl) (argsL := [(.ref b1)]) (rest := []) (lenOf own_pd__Ljava_lang_String__Z rfl) rfl (by show 2 * 0 + _ ≤ _; exact Nat.le_of_eq rfl) (hb hby at_131) (fun _ _ => ⟨rfl, e44, (by decide : 4 + 0 ≤ _), (by decide : 20 + 0 ≤ _)⟩)
                  dsimp only [Pt.U, Pt.locs, Pt.cells, Pt.slots] at X45 l45 y45 z45 st45 hQ45
                  subst l45 y45 z45
                  obtain ⟨hv45, Nq45, e45⟩ := hQ45
                  rw [show own_all [c1, c2, c3, c4] = (0 : Int32) from by simp [own_all, hf0, hf1, hf2, hf3]] at hv45
                  subst hv45
                  have N45 := Fr.app N44 Nq45
                  refine own_goW st45 ?_
                  show own_GoW p e below s _ _ _ _ (T45.setTop (mkF m 134 #[iv p1, iv p2, iv p3, iv p4, iv p5, iv (4 : Int32), iv c1, iv c2, iv c3, iv c4, rv b1, iv (0 : Int32)] [(.int (0 : Int32))]))
                  refine own_goW (fun zt zk => (XS.iload X45.here hx rfl (hb hby at_134) rfl (XS.icmpNo X45.here hx rfl (hb hby at_136) rfl (teq (rfl : (0 : Int32) = (0 : Int32))).2 (XS.iconst X45.here hx rfl (hb hby at_139) (XS.goto X45.here hx rfl (pc0 := 140) (pc' := 144) rfl (hb hby at_140) (by decide) (by decide) zk))))) ?_
                  show own_GoW p e below s _ _ _ _ (T45.setTop (mkF m 144 #[iv p1, iv p2, iv p3, iv p4, iv p5, iv (4 : Int32), iv c1, iv c2, iv c3, iv c4, rv b1, iv (0 : Int32)] [(.int (1 : Int32))]))
                  have Re := Rc.trans (CHv.at X45 hZ hEL Rc.1)
                  exact own_finW X45 hS (by rw [e45]; exact hk) (by rw [e45, hh]; exact Re) Bd.notSynchronized (fun h => by rw [Bd.returns] at h; cases h) (fun fs hr => retN X45 hx (t := .boolean) Bd.returns (by simp) (hb hby at_144) hr) (by rw [e45]; exact ⟨rfl, N45⟩) (by decide) (by decide)
                · refine own_goW (fun zt zk => (XS.ifYes X44.here hx rfl (pc0 := 123) (pc' := 129) rfl (hb hby at_123) rfl ((if0 _ _).trans (feq (hf3 : ¬ ((own_fc c4) = (0 : Int32)))).2) (by decide) (by decide) (XS.aload X44.here hx rfl (hb hby at_129) rfl rfl zk))) ?_
                  show own_GoW p e below s _ _ _ _ (T44.setTop (mkF m 131 #[iv p1, iv p2, iv p3, iv p4, iv p5, iv (4 : Int32), iv c1, iv c2, iv c3, iv c4, rv b1, iv (0 : Int32)] [(.ref b1)]))
                  obtain ⟨_, _, ⟨T46, L46, k46, n46⟩, -, X46, ⟨Lc46, hQ46, l46, y46, z46⟩, st46⟩ := Jvm.LawKit.callS X44 hx (y := (⟨"com/example/mortise/mortise/http/Headers", "isValue", "(Ljava/lang/String;)Z"⟩ : MethodName)) hown (mvT hZ (hw _ (List.mem_of_getElem? (i := 28) rfl))) (mvT hZ (hw _ (List.mem_of_getElem? (i := 29) rfl))) (mvT hZ (hw _ (List.mem_of_getElem? (i := 30) rfl))) (mvT hZ (hw _ (List.mem_of_getElem? (i := 31) rfl))) (by decide) (backOf (W := 0) (own_risv l Z a0 hw [] b1 o_COMPACT_STRINGS o_SIOOBE_FORMATTER [c1, c2, c3, c4] T37.heap n0 (Nat.le_trans Z0 Kp.1) O S_o_COMPACT_STRINGS S_o_SIOOBE_FORMATTER S_o__assertionsDisabled S_o_HI_BYTE_SHIFT S_o_LO_BYTE_SHIFT nz_o_COMPACT_STRINGS St (Nat.le_of_ble_eq_true rfl) r_o_SIOOBE_FORMATTER hR) hZ (hw _ (List.mem_of_getElem? (i := 31) rfl)) (hw _ (List.mem_of_getElem? (i := 30) rfl)) (by decide) (by decide)) (g := (mkF m 131 #[iv p1, iv p2, iv p3, iv p4, iv p5, iv (4 : Int32), iv c1, iv c2, iv c3, iv c4, rv b1, iv (0 : Int32)] [(.ref b1)])) rfl (by rw [hml]; rfl) (argsL := [(.ref b1)]) (rest := []) (lenOf own_pd__Ljava_lang_String__Z rfl) rfl (by show 2 * 0 + _ ≤ _; exact Nat.le_of_eq rfl) (hb hby at_131) (fun _ _ => ⟨rfl, e44, (by decide : 4 + 0 ≤ _), (by decide : 20 + 0 ≤ _)⟩)
                  dsimp only [Pt.U, Pt.locs, Pt.cells, Pt.slots] at X46 l46 y46 z46 st46 hQ46
                  subst l46 y46 z46
                  obtain ⟨hv46, Nq46, e46⟩ := hQ46
                  rw [show own_all [c1, c2, c3, c4] = (0 : Int32) from by simp [own_all, hf0, hf1, hf2, hf3]] at hv46
                  subst hv46
                  have N46 := Fr.app N44 Nq46
                  refine own_goW st46 ?_
                  show own_GoW p e below s _ _ _ _ (T46.setTop (mkF m 134 #[iv p1, iv p2, iv p3, iv p4, iv p5, iv (4 : Int32), iv c1, iv c2, iv c3, iv c4, rv b1, iv (0 : Int32)] [(.int (0 : Int32))]))
                  refine own_goW (fun zt zk => (XS.iload X46.here hx rfl (hb hby at_134) rfl (XS.icmpNo X46.here hx rfl (hb hby at_136) rfl (teq (rfl : (0 : Int32) = (0 : Int32))).2 (XS.iconst X46.here hx rfl (hb hby at_139) (XS.goto X46.here hx rfl (pc0 := 140) (pc' := 144) rfl (hb hby at_140) (by decide) (by decide) zk))))) ?_
                  show own_GoW p e below s _ _ _ _ (T46.setTop (mkF m 144 #[iv p1, iv p2, iv p3, iv p4, iv p5, iv (4 : Int32), iv c1, iv c2, iv c3, iv c4, rv b1, iv (0 : Int32)] [(.int (1 : Int32))]))
                  have Re := Rc.trans (CHv.at X46 hZ hEL Rc.1)
                  exact own_finW X46 hS (by rw [e46]; exact hk) (by rw [e46, hh]; exact Re) Bd.notSynchronized (fun h => by rw [Bd.returns] at h; cases h) (fun fs hr => retN X46 hx (t := .boolean) Bd.returns (by simp) (hb hby at_144) hr) (by rw [e46]; exact ⟨rfl, N46⟩) (by decide) (by decide)
            · refine own_goW (fun zt zk => (XS.ifYes X39.here hx rfl (pc0 := 89) (pc' := 95) rfl (hb hby at_89) rfl ((if0 _ _).trans (feq (hf1 : ¬ ((own_fc c2) = (0 : Int32)))).2) (by decide) (by decide) (XS.iload X39.here hx rfl (hb hby at_95) rfl (XS.iconst X39.here hx rfl (hb hby at_97) (XS.icmpNo X39.here hx rfl (hb hby at_98) rfl (tlt ((by decide) : (2 : Int32) < (4 : Int32))).2.2.2 (XS.iload X39.here hx rfl (hb hby at_101) rfl zk)))))) ?_
              show own_GoW p e below s _ _ _ _ (T39.setTop (mkF m 103 #[iv p1, iv p2, iv p3, iv p4, iv p5, iv (4 : Int32), iv c1, iv c2, iv c3, iv c4, rv b1, iv (0 : Int32)] [(.int c3)]))
              obtain ⟨_, _, ⟨T47, L47, k47, n47⟩, -, X47, ⟨Lc47, hQ47, l47, y47, z47⟩, st47⟩ := Jvm.LawKit.callS X39 hx (y := (⟨"com/example/mortise/mortise/http/HeadersIsValuePinLaw", "fieldChar", "(C)Z"⟩ : MethodName)) hown (mvT hZ (hw _ (List.mem_of_getElem? (i := 53) rfl))) (mvT hZ (hw _ (List.mem_of_getElem? (i := 54) rfl))) (mvT hZ (hw _ (List.mem_of_getElem? (i := 7) rfl))) (mvT hZ (hw _ (List.mem_of_getElem? (i := 55) rfl))) (by decide) (backOf (W := 0) (own_rfc l Z a0 hw [] c3  T37.heap n0 (Nat.le_trans Z0 Kp.1) ) hZ (hw _ (List.mem_of_getElem? (i := 55) rfl)) (hw _ (List.mem_of_getElem? (i := 7) rfl)) (by decide) (by decide)) (g := (mkF m 103 #[iv p1, iv p2, iv p3, iv p4, iv p5, iv (4 : Int32), iv c1, iv c2, iv c3, iv c4, rv b1, iv (0 : Int32)] [(.int c3)])) rfl (by rw [hml]; rfl) (argsL := [(.int c3)]) (rest := []) (lenOf own_pd__C_Z rfl) rfl (by show 2 * 0 + _ ≤ _; exact Nat.le_of_eq rfl) (hb hby at_103) (fun _ _ => ⟨rfl, e39, (by decide : 4 + 0 ≤ _), (by decide : 20 + 0 ≤ _)⟩)
              dsimp only [Pt.U, Pt.locs, Pt.cells, Pt.slots] at X47 l47 y47 z47 st47 hQ47
              subst l47 y47 z47
              obtain ⟨rfl, Nq47, e47⟩ := hQ47
              have N47 := Fr.app N39 Nq47
              refine own_goW st47 ?_
              show own_GoW p e below s _ _ _ _ (T47.setTop (mkF m 106 #[iv p1, iv p2, iv p3, iv p4, iv p5, iv (4 : Int32), iv c1, iv c2, iv c3, iv c4, rv b1, iv (0 : Int32)] [(.int (own_fc c3))]))
              by_cases hf2 : (own_fc c3) = (0 : Int32)
              · refine own_goW (fun zt zk => (XS.ifNo X47.here hx rfl (hb hby at_106) rfl ((if0 _ _).trans (teq (hf2 : (own_fc c3) = (0 : Int32))).2) (XS.iconst X47.here hx rfl (hb hby at_109) (XS.istore X47.here hx rfl (hb hby at_110) rfl (l' := #[iv p1, iv p2, iv p3, iv p4, iv p5, iv (4 : Int32), iv c1, iv c2, iv c3, iv c4, rv b1, iv (0 : Int32)]) rfl (XS.iload X47.here hx rfl (hb hby at_112) rfl (XS.iconst X47.here hx rfl (hb hby at_114) (XS.icmpNo X47.here hx rfl (hb hby at_115) rfl (tlt ((by decide) : (3 : Int32) < (4 : Int32))).2.2.2 (XS.iload X47.here hx rfl (hb hby at_118) rfl zk)))))))) ?_
                show own_GoW p e below s _ _ _ _ (T47.setTop (mkF m 120 #[iv p1, iv p2, iv p3, iv p4, iv p5, iv (4 : Int32), iv c1, iv c2, iv c3, iv c4, rv b1, iv (0 : Int32)] [(.int c4)]))
                obtain ⟨_, _, ⟨T48, L48, k48, n48⟩, -, X48, ⟨Lc48, hQ48, l48, y48, z48⟩, st48⟩ := Jvm.LawKit.callS X47 hx (y := (⟨"com/example/mortise/mortise/http/HeadersIsValuePinLaw", "fieldChar", "(C)Z"⟩ : MethodName)) hown (mvT hZ (hw _ (List.mem_of_getElem? (i := 53) rfl))) (mvT hZ (hw _ (List.mem_of_getElem? (i := 54) rfl))) (mvT hZ (hw _ (List.mem_of_getElem? (i := 7) rfl))) (mvT hZ (hw _ (List.mem_of_getElem? (i := 55) rfl))) (by decide) (backOf (W := 0) (own_rfc l Z a0 hw [] c4  T37.heap n0 (Nat.le_trans Z0 Kp.1) ) hZ (hw _ (List.mem_of_getElem? (i := 55) rfl)) (hw _ (List.mem_of_getElem? (i := 7) rfl)) (by decide) (by decide)) (g := (mkF m 120 #[iv p1, iv p2, iv p3, iv p4, iv p5, iv (4 : Int32), iv c1, iv c2, iv c3, iv c4, rv b1, iv (0 : Int32)] [(.int c4)])) rfl (by rw [hml]; rfl) (argsL := [(.int c4)]) (rest := []) (lenOf own_pd__C_Z rfl) rfl (by show 2 * 0 + _ ≤ _; exact Nat.le_of_eq rfl) (hb hby at_120) (fun _ _ => ⟨rfl, e47, (by decide : 4 + 0 ≤ _), (by decide : 20 + 0 ≤ _)⟩)
                dsimp only [Pt.U, Pt.locs, Pt.cells, Pt.slots] at X48 l48 y48 z48 st48 hQ48
                subst l48 y48 z48
                obtain ⟨rfl, Nq48, e48⟩ := hQ48
                have N48 := Fr.app N47 Nq48
                refine own_goW st48 ?_
                show own_GoW p e below s _ _ _ _ (T48.setTop (mkF m 123 #[iv p1, iv p2, iv p3, iv p4, iv p5, iv (4 : Int32), iv c1, iv c2, iv c3, iv c4, rv b1, iv (0 : Int32)] [(.int (own_fc c4))]))
                by_cases hf3 : (own_fc c4) = (0 : Int32)
                · refine own_goW (fun zt zk => (XS.ifNo X48.here hx rfl (hb hby at_123) rfl ((if0 _ _).trans (teq (hf3 : (own_fc c4) = (0 : Int32))).2) (XS.iconst X48.here hx rfl (hb hby at_126) (XS.istore X48.here hx rfl (hb hby at_127) rfl (l' := #[iv p1, iv p2, iv p3, iv p4, iv p5, iv (4 : Int32), iv c1, iv c2, iv c3, iv c4, rv b1, iv (0 : Int32)]) rfl (XS.aload X48.here hx rfl (hb hby at_129) rfl rfl zk))))) ?_
                  show own_GoW p e below s _ _ _ _ (T48.setTop (mkF m 131 #[iv p1, iv p2, iv p3, iv p4, iv p5, iv (4 : Int32), iv c1, iv c2, iv c3, iv c4, rv b1, iv (0 : Int32)] [(.ref b1)]))
                  obtain ⟨_, _, ⟨T49, L49, k49, n49⟩, -, X49, ⟨Lc49, hQ49, l49, y49, z49⟩, st49⟩ := Jvm.LawKit.callS X48 hx (y := (⟨"com/example/mortise/mortise/http/Headers", "isValue", "(Ljava/lang/String;)Z"⟩ : MethodName)) hown (mvT hZ (hw _ (List.mem_of_getElem? (i := 28) rfl))) (mvT hZ (hw _ (List.mem_of_getElem? (i := 29) rfl))) (mvT hZ (hw _ (List.mem_of_getElem? (i := 30) rfl))) (mvT hZ (hw _ (List.mem_of_getElem? (i := 31) rfl))) (by decide) (backOf (W := 0) (own_risv l Z a0 hw [] b1 o_COMPACT_STRINGS o_SIOOBE_FORMATTER [c1, c2, c3, c4] T37.heap n0 (Nat.le_trans Z0 Kp.1) O S_o_COMPACT_STRINGS S_o_SIOOBE_FORMATTER S_o__assertionsDisabled S_o_HI_BYTE_SHIFT S_o_LO_BYTE_SHIFT nz_o_COMPACT_STRINGS St (Nat.le_of_ble_eq_true rfl) r_o_SIOOBE_FORMATTER hR) hZ (hw _ (List.mem_of_getElem? (i := 31) rfl)) (hw _ (List.mem_of_getElem? (i := 30) rfl)) (by decide) (by decide)) (g := (mkF m 131 #[iv p1, iv p2, iv p3, iv p4, iv p5, iv (4 : Int32), iv c1, iv c2, iv c3, iv c4, rv b1, iv (0 : Int32)] [(.ref b1)])) rfl (by rw [hml]; rfl) (argsL := [(.ref b1)]) (rest := []) (lenOf own_pd__Ljava_lang_String__Z rfl) rfl (by show 2 * 0 + _ ≤ _; exact Nat.le_of_eq rfl) (hb hby at_131) (fun _ _ => ⟨rfl, e48, (by decide : 4 + 0 ≤ _), (by decide : 20 + 0 ≤ _)⟩)
                  dsimp only [Pt.U, Pt.locs, Pt.cells, Pt.slots] at X49 l49 y49 z49 st49 hQ49
                  subst l49 y49 z49
                  obtain ⟨hv49, Nq49, e49⟩ := hQ49
                  rw [show own_all [c1, c2, c3, c4] = (0 : Int32) from by simp [own_all, hf0, hf1, hf2, hf3]] at hv49
                  subst hv49
                  have N49 := Fr.app N48 Nq49
                  refine own_goW st49 ?_
                  show own_GoW p e below s _ _ _ _ (T49.setTop (mkF m 134 #[iv p1, iv p2, iv p3, iv p4, iv p5, iv (4 : Int32), iv c1, iv c2, iv c3, iv c4, rv b1, iv (0 : Int32)] [(.int (0 : Int32))]))
                  refine own_goW (fun zt zk => (XS.iload X49.here hx rfl (hb hby at_134) rfl (XS.icmpNo X49.here hx rfl (hb hby at_136) rfl (teq (rfl : (0 : Int32) = (0 : Int32))).2 (XS.iconst X49.here hx rfl (hb hby at_139) (XS.goto X49.here hx rfl (pc0 := 140) (pc' := 144) rfl (hb hby at_140) (by decide) (by decide) zk))))) ?_
                  show own_GoW p e below s _ _ _ _ (T49.setTop (mkF m 144 #[iv p1, iv p2, iv p3, iv p4, iv p5, iv (4 : Int32), iv c1, iv c2, iv c3, iv c4, rv b1, iv (0 : Int32)] [(.int (1 : Int32))]))
                  have Re := Rc.trans (CHv.at X49 hZ hEL Rc.1)
                  exact own_finW X49 hS (by rw [e49]; exact hk) (by rw [e49, hh]; exact Re) Bd.notSynchronized (fun h => by rw [Bd.returns] at h; cases h) (fun fs hr => retN X49 hx (t := .boolean) Bd.returns (by simp) (hb hby at_144) hr) (by rw [e49]; exact ⟨rfl, N49⟩) (by decide) (by decide)
                · refine own_goW (fun zt zk => (XS.ifYes X48.here hx rfl (pc0 := 123) (pc' := 129) rfl (hb hby at_123) rfl ((if0 _ _).trans (feq (hf3 : ¬ ((own_fc c4) = (0 : Int32)))).2) (by decide) (by decide) (XS.aload X48.here hx rfl (hb hby at_129) rfl rfl zk))) ?_
                  show own_GoW p e below s _ _ _ _ (T48.setTop (mkF m 131 #[iv p1, iv p2, iv p3, iv p4, iv p5, iv (4 : Int32), iv c1, iv c2, iv c3, iv c4, rv b1, iv (0 : Int32)] [(.ref b1)]))
                  obtain ⟨_, _, ⟨T50, L50, k50, n50⟩, -, X50, ⟨Lc50, hQ50, l50, y50, z50⟩, st50⟩ := Jvm.LawKit.callS X48 hx (y := (⟨"com/example/mortise/mortise/http/Headers", "isValue", "(Ljava/lang/String;)Z"⟩ : MethodName)) hown (mvT hZ (hw _ (List.mem_of_getElem? (i := 28) rfl))) (mvT hZ (hw _ (List.mem_of_getElem? (i := 29) rfl))) (mvT hZ (hw _ (List.mem_of_getElem? (i := 30) rfl))) (mvT hZ (hw _ (List.mem_of_getElem? (i := 31) rfl))) (by decide) (backOf (W := 0) (own_risv l Z a0 hw [] b1 o_COMPACT_STRINGS o_SIOOBE_FORMATTER [c1, c2, c3, c4] T37.heap n0 (Nat.le_trans Z0 Kp.1) O S_o_COMPACT_STRINGS S_o_SIOOBE_FORMATTER S_o__assertionsDisabled S_o_HI_BYTE_SHIFT S_o_LO_BYTE_SHIFT nz_o_COMPACT_STRINGS St (Nat.le_of_ble_eq_true rfl) r_o_SIOOBE_FORMATTER hR) hZ (hw _ (List.mem_of_getElem? (i := 31) rfl)) (hw _ (List.mem_of_getElem? (i := 30) rfl)) (by decide) (by decide)) (g := (mkF m 131 #[iv p1, iv p2, iv p3, iv p4, iv p5, iv (4 : Int32), iv c1, iv c2, iv c3, iv c4, rv b1, iv (0 : Int32)] [(.ref b1)])) rfl (by rw [hml]; rfl) (argsL := [(.ref b1)]) (rest := []) (lenOf own_pd__Ljava_lang_String__Z rfl) rfl (by show 2 * 0 + _ ≤ _; exact Nat.le_of_eq rfl) (hb hby at_131) (fun _ _ => ⟨rfl, e48, (by decide : 4 + 0 ≤ _), (by decide : 20 + 0 ≤ _)⟩)
                  dsimp only [Pt.U, Pt.locs, Pt.cells, Pt.slots] at X50 l50 y50 z50 st50 hQ50
                  subst l50 y50 z50
                  obtain ⟨hv50, Nq50, e50⟩ := hQ50
                  rw [show own_all [c1, c2, c3, c4] = (0 : Int32) from by simp [own_all, hf0, hf1, hf2, hf3]] at hv50
                  subst hv50
                  have N50 := Fr.app N48 Nq50
                  refine own_goW st50 ?_
                  show own_GoW p e below s _ _ _ _ (T50.setTop (mkF m 134 #[iv p1, iv p2, iv p3, iv p4, iv p5, iv (4 : Int32), iv c1, iv c2, iv c3, iv c4, rv b1, iv (0 : Int32)] [(.int (0 : Int32))]))
                  refine own_goW (fun zt zk => (XS.iload X50.here hx rfl (hb hby at_134) rfl (XS.icmpNo X50.here hx rfl (hb hby at_136) rfl (teq (rfl : (0 : Int32) = (0 : Int32))).2 (XS.iconst X50.here hx rfl (hb hby at_139) (XS.goto X50.here hx rfl (pc0 := 140) (pc' := 144) rfl (hb hby at_140) (by decide) (by decide) zk))))) ?_
                  show own_GoW p e below s _ _ _ _ (T50.setTop (mkF m 144 #[iv p1, iv p2, iv p3, iv p4, iv p5, iv (4 : Int32), iv c1, iv c2, iv c3, iv c4, rv b1, iv (0 : Int32)] [(.int (1 : Int32))]))
                  have Re := Rc.trans (CHv.at X50 hZ hEL Rc.1)
                  exact own_finW X50 hS (by rw [e50]; exact hk) (by rw [e50, hh]; exact Re) Bd.notSynchronized (fun h => by rw [Bd.returns] at h; cases h) (fun fs hr => retN X50 hx (t := .boolean) Bd.returns (by simp) (hb hby at_144) hr) (by rw [e50]; exact ⟨rfl, N50⟩) (by decide) (by decide)
              · refine own_goW (fun zt zk => (XS.ifYes X47.here hx rfl (pc0 := 106) (pc' := 112) rfl (hb hby at_106) rfl ((if0 _ _).trans (feq (hf2 : ¬ ((own_fc c3) = (0 : Int32)))).2) (by decide) (by decide) (XS.iload X47.here hx rfl (hb hby at_112) rfl (XS.iconst X47.here hx rfl (hb hby at_114) (XS.icmpNo X47.here hx rfl (hb hby at_115) rfl (tlt ((by decide) : (3 : Int32) < (4 : Int32))).2.2.2 (XS.iload X47.here hx rfl (hb hby at_118) rfl zk)))))) ?_
                show own_GoW p e below s _ _ _ _ (T47.setTop (mkF m 120 #[iv p1, iv p2, iv p3, iv p4, iv p5, iv (4 : Int32), iv c1, iv c2, iv c3, iv c4, rv b1, iv (0 : Int32)] [(.int c4)]))
                obtain ⟨_, _, ⟨T51, L51, k51, n51⟩, -, X51, ⟨Lc51, hQ51, l51, y51, z51⟩, st51⟩ := Jvm.LawKit.callS X47 hx (y := (⟨"com/example/mortise/mortise/http/HeadersIsValuePinLaw", "fieldChar", "(C)Z"⟩ : MethodName)) hown (mvT hZ (hw _ (List.mem_of_getElem? (i := 53) rfl))) (mvT hZ (hw _ (List.mem_of_getElem? (i := 54) rfl))) (mvT hZ (hw _ (List.mem_of_getElem? (i := 7) rfl))) (mvT hZ (hw _ (List.mem_of_getElem? (i := 55) rfl))) (by decide) (backOf (W := 0) (own_rfc l Z a0 hw [] c4  T37.heap n0 (Nat.le_trans Z0 Kp.1) ) hZ (hw _ (List.mem_of_getElem? (i := 55) rfl)) (hw _ (List.mem_of_getElem? (i := 7) rfl)) (by decide) (by decide)) (g := (mkF m 120 #[iv p1, iv p2, iv p3, iv p4, iv p5, iv (4 : Int32), iv c1, iv c2, iv c3, iv c4, rv b1, iv (0 : Int32)] [(.int c4)])) rfl (by rw [hml]; rfl) (argsL := [(.int c4)]) (rest := []) (lenOf own_pd__C_Z rfl) rfl (by show 2 * 0 + _ ≤ _; exact Nat.le_of_eq rfl) (hb hby at_120) (fun _ _ => ⟨rfl, e47, (by decide : 4 + 0 ≤ _), (by decide : 20 + 0 ≤ _)⟩)
                dsimp only [Pt.U, Pt.locs, Pt.cells, Pt.slots] at X51 l51 y51 z51 st51 hQ51
                subst l51 y51 z51
                obtain ⟨rfl, Nq51, e51⟩ := hQ51
                have N51 := Fr.app N47 Nq51
                refine own_goW st51 ?_
                show own_GoW p e below s _ _ _ _ (T51.setTop (mkF m 123 #[iv p1, iv p2, iv p3, iv p4, iv p5, iv (4 : Int32), iv c1, iv c2, iv c3, iv c4, rv b1, iv (0 : Int32)] [(.int (own_fc c4))]))
                by_cases hf3 : (own_fc c4) = (0 : Int32)
                · refine own_goW (fun zt zk => (XS.ifNo X51.here hx rfl (hb hby at_123) rfl ((if0 _ _).trans (teq (hf3 : (own_fc c4) = (0 : Int32))).2) (XS.iconst X51.here hx rfl (hb hby at_126) (XS.istore X51.here hx rfl (hb hby at_127) rfl (l' := #[iv p1, iv p2, iv p3, iv p4, iv p5, iv (4 : Int32), iv c1, iv c2, iv c3, iv c4, rv b1, iv (0 : Int32)]) rfl (XS.aload X51.here hx rfl (hb hby at_129) rfl rfl zk))))) ?_
                  show own_GoW p e below s _ _ _ _ (T51.setTop (mkF m 131 #[iv p1, iv p2, iv p3, iv p4, iv p5, iv (4 : Int32), iv c1, iv c2, iv c3, iv c4, rv b1, iv (0 : Int32)] [(.ref b1)]))
                  obtain ⟨_, _, ⟨T52, L52, k52, n52⟩, -, X52, ⟨Lc52, hQ52, l52, y52, z52⟩, st52⟩ := Jvm.LawKit.callS X51 hx (y := (⟨"com/example/mortise/mortise/http/Headers", "isValue", "(Ljava/lang/String;)Z"⟩ : MethodName)) hown (mvT hZ (hw _ (List.mem_of_getElem? (i := 28) rfl))) (mvT hZ (hw _ (List.mem_of_getElem? (i := 29) rfl))) (mvT hZ (hw _ (List.mem_of_getElem? (i := 30) rfl))) (mvT hZ (hw _ (List.mem_of_getElem? (i := 31) rfl))) (by decide) (backOf (W := 0) (own_risv l Z a0 hw [] b1 o_COMPACT_STRINGS o_SIOOBE_FORMATTER [c1, c2, c3, c4] T37.heap n0 (Nat.le_trans Z0 Kp.1) O S_o_COMPACT_STRINGS S_o_SIOOBE_FORMATTER S_o__assertionsDisabled S_o_HI_BYTE_SHIFT S_o_LO_BYTE_SHIFT nz_o_COMPACT_STRINGS St (Nat.le_of_ble_eq_true rfl) r_o_SIOOBE_FORMATTER hR) hZ (hw _ (List.mem_of_getElem? (i := 31) rfl)) (hw _ (List.mem_of_getElem? (i := 30) rfl)) (by decide) (by decide)) (g := (mkF m 131 #[iv p1, iv p2, iv p3, iv p4, iv p5, iv (4 : Int32), iv c1, iv c2, iv c3, iv c4, rv b1, iv (0 : Int32)] [(.ref b1)])) rfl (by rw [hml]; rfl) (argsL := [(.ref b1)]) (rest := []) (lenOf own_pd__Ljava_lang_String__Z rfl) rfl (by show 2 * 0 + _ ≤ _; exact Nat.le_of_eq rfl) (hb hby at_131) (fun _ _ => ⟨rfl, e51, (by decide : 4 + 0 ≤ _), (by decide : 20 + 0 ≤ _)⟩)
                  dsimp only [Pt.U, Pt.locs, Pt.cells, Pt.slots] at X52 l52 y52 z52 st52 hQ52
                  subst l52 y52 z52
                  obtain ⟨hv52, Nq52, e52⟩ := hQ52
                  rw [show own_all [c1, c2, c3, c4] = (0 : Int32) from by simp [own_all, hf0, hf1, hf2, hf3]] at hv52
                  subst hv52
                  have N52 := Fr.app N51 Nq52
                  refine own_goW st52 ?_
                  show own_GoW p e below s _ _ _ _ (T52.setTop (mkF m 134 #[iv p1, iv p2, iv p3, iv p4, iv p5, iv (4 : Int32), iv c1, iv c2, iv c3, iv c4, rv b1, iv (0 : Int32)] [(.int (0 : Int32))]))
                  refine own_goW (fun zt zk => (XS.iload X52.here hx rfl (hb hby at_134) rfl (XS.icmpNo X52.here hx rfl (hb hby at_136) rfl (teq (rfl : (0 : Int32) = (0 : Int32))).2 (XS.iconst X52.here hx rfl (hb hby at_139) (XS.goto X52.here hx rfl (pc0 := 140) (pc' := 144) rfl (hb hby at_140) (by decide) (by decide) zk))))) ?_
                  show own_GoW p e below s _ _ _ _ (T52.setTop (mkF m 144 #[iv p1, iv p2, iv p3, iv p4, iv p5, iv (4 : Int32), iv c1, iv c2, iv c3, iv c4, rv b1, iv (0 : Int32)] [(.int (1 : Int32))]))
                  have Re := Rc.trans (CHv.at X52 hZ hEL Rc.1)
                  exact own_finW X52 hS (by rw [e52]; exact hk) (by rw [e52, hh]; exact Re) Bd.notSynchronized (fun h => by rw [Bd.returns] at h; cases h) (fun fs hr => retN X52 hx (t := .boolean) Bd.returns (by simp) (hb hby at_144) hr) (by rw [e52]; exact ⟨rfl, N52⟩) (by decide) (by decide)
                · refine own_goW (fun zt zk => (XS.ifYes X51.here hx rfl (pc0 := 123) (pc' := 129) rfl (hb hby at_123) rfl ((if0 _ _).trans (feq (hf3 : ¬ ((own_fc c4) = (0 : Int32)))).2) (by decide) (by decide) (XS.aload X51.here hx rfl (hb hby at_129) rfl rfl zk))) ?_
                  show own_GoW p e below s _ _ _ _ (T51.setTop (mkF m 131 #[iv p1, iv p2, iv p3, iv p4, iv p5, iv (4 : Int32), iv c1, iv c2, iv c3, iv c4, rv b1, iv (0 : Int32)] [(.ref b1)]))
                  obtain ⟨_, _, ⟨T53, L53, k53, n53⟩, -, X53, ⟨Lc53, hQ53, l53, y53, z53⟩, st53⟩ := Jvm.LawKit.callS X51 hx (y := (⟨"com/example/mortise/mortise/http/Headers", "isValue", "(Ljava/lang/String;)Z"⟩ : MethodName)) hown (mvT hZ (hw _ (List.mem_of_getElem? (i := 28) rfl))) (mvT hZ (hw _ (List.mem_of_getElem? (i := 29) rfl))) (mvT hZ (hw _ (List.mem_of_getElem? (i := 30) rfl))) (mvT hZ (hw _ (List.mem_of_getElem? (i := 31) rfl))) (by decide) (backOf (W := 0) (own_risv l Z a0 hw [] b1 o_COMPACT_STRINGS o_SIOOBE_FORMATTER [c1, c2, c3, c4] T37.heap n0 (Nat.le_trans Z0 Kp.1) O S_o_COMPACT_STRINGS S_o_SIOOBE_FORMATTER S_o__assertionsDisabled S_o_HI_BYTE_SHIFT S_o_LO_BYTE_SHIFT nz_o_COMPACT_STRINGS St (Nat.le_of_ble_eq_true rfl) r_o_SIOOBE_FORMATTER hR) hZ (hw _ (List.mem_of_getElem? (i := 31) rfl)) (hw _ (List.mem_of_getElem? (i := 30) rfl)) (by decide) (by decide)) (g := (mkF m 131 #[iv p1, iv p2, iv p3, iv p4, iv p5, iv (4 : Int32), iv c1, iv c2, iv c3, iv c4, rv b1, iv (0 : Int32)] [(.ref b1)])) rfl (by rw [hml]; rfl) (argsL := [(.ref b1)]) (rest := []) (lenOf own_pd__Ljava_lang_String__Z rfl) rfl (by show 2 * 0 + _ ≤ _; exact Nat.le_of_eq rfl) (hb hby at_131) (fun _ _ => ⟨rfl, e51, (by decide : 4 + 0 ≤ _), (by decide : 20 + 0 ≤ _)⟩)
                  dsimp only [Pt.U, Pt.locs, Pt.cells, Pt.slots] at X53 l53 y53 z53 st53 hQ53
                  subst l53 y53 z53
                  obtain ⟨hv53, Nq53, e53⟩ := hQ53
                  rw [show own_all [c1, c2, c3, c4] = (0 : Int32) from by simp [own_all, hf0, hf1, hf2, hf3]] at hv53
                  subst hv53
                  have N53 := Fr.app N51 Nq53
                  refine own_goW st53 ?_
                  show own_GoW p e below s _ _ _ _ (T53.setTop (mkF m 134 #[iv p1, iv p2, iv p3, iv p4, iv p5, iv (4 : Int32), iv c1, iv c2, iv c3, iv c4, rv b1, iv (0 : Int32)] [(.int (0 : Int32))]))
                  refine own_goW (fun zt zk => (XS.iload X53.here hx rfl (hb hby at_134) rfl (XS.icmpNo X53.here hx rfl (hb hby at_136) rfl (teq (rfl : (0 : Int32) = (0 : Int32))).2 (XS.iconst X53.here hx rfl (hb hby at_139) (XS.goto X53.here hx rfl (pc0 := 140) (pc' := 144) rfl (hb hby at_140) (by decide) (by decide) zk))))) ?_
                  show own_GoW p e below s _ _ _ _ (T53.setTop (mkF m 144 #[iv p1, iv p2, iv p3, iv p4, iv p5, iv (4 : Int32), iv c1, iv c2, iv c3, iv c4, rv b1, iv (0 : Int32)] [(.int (1 : Int32))]))
                  have Re := Rc.trans (CHv.at X53 hZ hEL Rc.1)
                  exact own_finW X53 hS (by rw [e53]; exact hk) (by rw [e53, hh]; exact Re) Bd.notSynchronized (fun h => by rw [Bd.returns] at h; cases h) (fun fs hr => retN X53 hx (t := .boolean) Bd.returns (by simp) (hb hby at_144) hr) (by rw [e53]; exact ⟨rfl, N53⟩) (by decide) (by decide)
          · refine own_goW (fun zt zk => (XS.ifYes X38.here hx rfl (pc0 := 72) (pc' := 78) rfl (hb hby at_72) rfl ((if0 _ _).trans (feq (hf0 : ¬ ((own_fc c1) = (0 : Int32)))).2) (by decide) (by decide) (XS.iload X38.here hx rfl (hb hby at_78) rfl (XS.iconst X38.here hx rfl (hb hby at_80) (XS.icmpNo X38.here hx rfl (hb hby at_81) rfl (tlt ((by decide) : (1 : Int32) < (4 : Int32))).2.2.2 (XS.iload X38.here hx rfl (hb hby at_84) rfl zk)))))) ?_
            show own_GoW p e below s _ _ _ _ (T38.setTop (mkF m 86 #[iv p1, iv p2, iv p3, iv p4, iv p5, iv (4 : Int32), iv c1, iv c2, iv c3, iv c4, rv b1, iv (1 : Int32)] [(.int c2)]))
            obtain ⟨_, _, ⟨T54, L54, k54, n54⟩, -, X54, ⟨Lc54, hQ54, l54, y54, z54⟩, st54⟩ := Jvm.LawKit.callS X38 hx (y := (⟨"com/example/mortise/mortise/http/HeadersIsValuePinLaw", "fieldChar", "(C)Z"⟩ : MethodName)) hown (mvT hZ (hw _ (List.mem_of_getElem? (i := 53) rfl))) (mvT hZ (hw _ (List.mem_of_getElem? (i := 54) rfl))) (mvT hZ (hw _ (List.mem_of_getElem? (i := 7) rfl))) (mvT hZ (hw _ (List.mem_of_getElem? (i := 55) rfl))) (by decide) (backOf (W := 0) (own_rfc l Z a0 hw [] c2  T37.heap n0 (Nat.le_trans Z0 Kp.1) ) hZ (hw _ (List.mem_of_getElem? (i := 55) rfl)) (hw _ (List.mem_of_getElem? (i := 7) rfl)) (by decide) (by decide)) (g := (mkF m 86 #[iv p1, iv p2, iv p3, iv p4, iv p5, iv (4 : Int32), iv c1, iv c2, iv c3, iv c4, rv b1, iv (1 : Int32)] [(.int c2)])) rfl (by rw [hml]; rfl) (argsL := [(.int c2)]) (rest := []) (lenOf own_pd__C_Z rfl) rfl (by show 2 * 0 + _ ≤ _; exact Nat.le_of_eq rfl) (hb hby at_86) (fun _ _ => ⟨rfl, e38, (by decide : 4 + 0 ≤ _), (by decide : 20 + 0 ≤ _)⟩)
            dsimp only [Pt.U, Pt.locs, Pt.cells, Pt.slots] at X54 l54 y54 z54 st54 hQ54
            subst l54 y54 z54
            obtain ⟨rfl, Nq54, e54⟩ := hQ54
            have N54 := Fr.app N38 Nq54
            refine own_goW st54 ?_
            show own_GoW p e below s _ _ _ _ (T54.setTop (mkF m 89 #[iv p1, iv p2, iv p3, iv p4, iv p5, iv (4 : Int32), iv c1, iv c2, iv c3, iv c4, rv b1, iv (1 : Int32)] [(.int (own_fc c2))]))
            by_cases hf1 : (own_fc c2) = (0 : Int32)
            · refine own_goW (fun zt zk => (XS.ifNo X54.here hx rfl (hb hby at_89) rfl ((if0 _ _).trans (teq (hf1 : (own_fc c2) = (0 : Int32))).2) (XS.iconst X54.here hx rfl (hb hby at_92) (XS.istore X54.here hx rfl (hb hby at_93) rfl (l' := #[iv p1, iv p2, iv p3, iv p4, iv p5, iv (4 : Int32), iv c1, iv c2, iv c3, iv c4, rv b1, iv (0 : Int32)]) rfl (XS.iload X54.here hx rfl (hb hby at_95) rfl (XS.iconst X54.here hx rfl (hb hby at_97) (XS.icmpNo X54.here hx rfl (hb hby at_98) rfl (tlt ((by decide) : (2 : Int32) < (4 : Int32))).2.2.2 (XS.iload X54.here hx rfl (hb hby at_101) rfl zk)))))))) ?_
              show own_GoW p e below s _ _ _ _ (T54.setTop (mkF m 103 #[iv p1, iv p2, iv p3, iv p4, iv p5, iv (4 : Int32), iv c1, iv c2, iv c3, iv c4, rv b1, iv (0 : Int32)] [(.int c3)]))
              obtain ⟨_, _, ⟨T55, L55, k55, n55⟩, -, X55, ⟨Lc55, hQ55, l55, y55, z55⟩, st55⟩ := Jvm.LawKit.callS X54 hx (y := (⟨"com/example/mortise/mortise/http/HeadersIsValuePinLaw", "fieldChar", "(C)Z"⟩ : MethodName)) hown (mvT hZ (hw _ (List.mem_of_getElem? (i := 53) rfl))) (mvT hZ (hw _ (List.mem_of_getElem? (i := 54) rfl))) (mvT hZ (hw _ (List.mem_of_getElem? (i := 7) rfl))) (mvT hZ (hw _ (List.mem_of_getElem? (i := 55) rfl))) (by decide) (backOf (W := 0) (own_rfc l Z a0 hw [] c3  T37.heap n0 (Nat.le_trans Z0 Kp.1) ) hZ (hw _ (List.mem_of_getElem? (i := 55) rfl)) (hw _ (List.mem_of_getElem? (i := 7) rfl)) (by decide) (by decide)) (g := (mkF m 103 #[iv p1, iv p2, iv p3, iv p4, iv p5, iv (4 : Int32), iv c1, iv c2, iv c3, iv c4, rv b1, iv (0 : Int32)] [(.int c3)])) rfl (by rw [hml]; rfl) (argsL := [(.int c3)]) (rest := []) (lenOf own_pd__C_Z rfl) rfl (by show 2 * 0 + _ ≤ _; exact Nat.le_of_eq rfl) (hb hby at_103) (fun _ _ => ⟨rfl, e54, (by decide : 4 + 0 ≤ _), (by decide : 20 + 0 ≤ _)⟩)
              dsimp only [Pt.U, Pt.locs, Pt.cells, Pt.slots] at X55 l55 y55 z55 st55 hQ55
              subst l55 y55 z55
              obtain ⟨rfl, Nq55, e55⟩ := hQ55
              have N55 := Fr.app N54 Nq55
              refine own_goW st55 ?_
              show own_GoW p e below s _ _ _ _ (T55.setTop (mkF m 106 #[iv p1, iv p2, iv p3, iv p4, iv p5, iv (4 : Int32), iv c1, iv c2, iv c3, iv c4, rv b1, iv (0 : Int32)] [(.int (own_fc c3))]))
              by_cases hf2 : (own_fc c3) = (0 : Int32)
              · refine own_goW (fun zt zk => (XS.ifNo X55.here hx rfl (hb hby at_106) rfl ((if0 _ _).trans (teq (hf2 : (own_fc c3) = (0 : Int32))).2) (XS.iconst X55.here hx rfl (hb hby at_109) (XS.istore X55.here hx rfl (hb hby at_110) rfl (l' := #[iv p1, iv p2, iv p3, iv p4, iv p5, iv (4 : Int32), iv c1, iv c2, iv c3, iv c4, rv b1, iv (0 : Int32)]) rfl (XS.iload X55.here hx rfl (hb hby at_112) rfl (XS.iconst X55.here hx rfl (hb hby at_114) (XS.icmpNo X55.here hx rfl (hb hby at_115) rfl (tlt ((by decide) : (3 : Int32) < (4 : Int32))).2.2.2 (XS.iload X55.here hx rfl (hb hby at_118) rfl zk)))))))) ?_
                show own_GoW p e below s _ _ _ _ (T55.setTop (mkF m 120 #[iv p1, iv p2, iv p3, iv p4, iv p5, iv (4 : Int32), iv c1, iv c2, iv c3, iv c4, rv b1, iv (0 : Int32)] [(.int c4)]))
                obtain ⟨_, _, ⟨T56, L56, k56, n56⟩, -, X56, ⟨Lc56, hQ56, l56, y56, z56⟩, st56⟩ := Jvm.LawKit.callS X55 hx (y := (⟨"com/example/mortise/mortise/http/HeadersIsValuePinLaw", "fieldChar", "(C)Z"⟩ : MethodName)) hown (mvT hZ (hw _ (List.mem_of_getElem? (i := 53) rfl))) (mvT hZ (hw _ (List.mem_of_getElem? (i := 54) rfl))) (mvT hZ (hw _ (List.mem_of_getElem? (i := 7) rfl))) (mvT hZ (hw _ (List.mem_of_getElem? (i := 55) rfl))) (by decide) (backOf (W := 0) (own_rfc l Z a0 hw [] c4  T37.heap n0 (Nat.le_trans Z0 Kp.1) ) hZ (hw _ (List.mem_of_getElem? (i := 55) rfl)) (hw _ (List.mem_of_getElem? (i := 7) rfl)) (by decide) (by decide)) (g := (mkF m 120 #[iv p1, iv p2, iv p3, iv p4, iv p5, iv (4 : Int32), iv c1, iv c2, iv c3, iv c4, rv b1, iv (0 : Int32)] [(.int c4)])) rfl (by rw [hml]; rfl) (argsL := [(.int c4)]) (rest := []) (lenOf own_pd__C_Z rfl) rfl (by show 2 * 0 + _ ≤ _; exact Nat.le_of_eq rfl) (hb hby at_120) (fun _ _ => ⟨rfl, e55, (by decide : 4 + 0 ≤ _), (by decide : 20 + 0 ≤ _)⟩)
                dsimp only [Pt.U, Pt.locs, Pt.cells, Pt.slots] at X56 l56 y56 z56 st56 hQ56
                subst l56 y56 z56
                obtain ⟨rfl, Nq56, e56⟩ := hQ56
                have N56 := Fr.app N55 Nq56
                refine own_goW st56 ?_
                show own_GoW p e below s _ _ _ _ (T56.setTop (mkF m 123 #[iv p1, iv p2, iv p3, iv p4, iv p5, iv (4 : Int32), iv c1, iv c2, iv c3, iv c4, rv b1, iv (0 : Int32)] [(.int (own_fc c4))]))
                by_cases hf3 : (own_fc c4) = (0 : Int32)
                · refine own_goW (fun zt zk => (XS.ifNo X56.here hx rfl (hb hby at_123) rfl ((if0 _ _).trans (teq (hf3 : (own_fc c4) = (0 : Int32))).2) (XS.iconst X56.here hx rfl (hb hby at_126) (XS.istore X56.here hx rfl (hb hby at_127) rfl (l' := #[iv p1, iv p2, iv p3, iv p4, iv p5, iv (4 : Int32), iv c1, iv c2, iv c3, iv c4, rv b1, iv (0 : Int32)]) rfl (XS.aload X56.here hx rfl (hb hby at_129) rfl rfl zk))))) ?_
                  show own_GoW p e below s _ _ _ _ (T56.setTop (mkF m 131 #[iv p1, iv p2, iv p3, iv p4, iv p5, iv (4 : Int32), iv c1, iv c2, iv c3, iv c4, rv b1, iv (0 : Int32)] [(.ref b1)]))
                  obtain ⟨_, _, ⟨T57, L57, k57, n57⟩, -, X57, ⟨Lc57, hQ57, l57, y57, z57⟩, st57⟩ := Jvm.LawKit.callS X56 hx (y := (⟨"com/example/mortise/mortise/http/Headers", "isValue", "(Ljava/lang/String;)Z"⟩ : MethodName)) hown (mvT hZ (hw _ (List.mem_of_getElem? (i := 28) rfl))) (mvT hZ (hw _ (List.mem_of_getElem? (i := 29) rfl))) (mvT hZ (hw _ (List.mem_of_getElem? (i := 30) rfl))) (mvT hZ (hw _ (List.mem_of_getElem? (i := 31) rfl))) (by decide) (backOf (W := 0) (own_risv l Z a0 hw [] b1 o_COMPACT_STRINGS o_SIOOBE_FORMATTER [c1, c2, c3, c4] T37.heap n0 (Nat.le_trans Z0 Kp.1) O S_o_COMPACT_STRINGS S_o_SIOOBE_FORMATTER S_o__assertionsDisabled S_o_HI_BYTE_SHIFT S_o_LO_BYTE_SHIFT nz_o_COMPACT_STRINGS St (Nat.le_of_ble_eq_true rfl) r_o_SIOOBE_FORMATTER hR) hZ (hw _ (List.mem_of_getElem? (i := 31) rfl)) (hw _ (List.mem_of_getElem? (i := 30) rfl)) (by decide) (by decide)) (g := (mkF m 131 #[iv p1, iv p2, iv p3, iv p4, iv p5, iv (4 : Int32), iv c1, iv c2, iv c3, iv c4, rv b1, iv (0 : Int32)] [(.ref b1)])) rfl (by rw [hml]; rfl) (argsL := [(.ref b1)]) (rest := []) (lenOf own_pd__Ljava_lang_String__Z rfl) rfl (by show 2 * 0 + _ ≤ _; exact Nat.le_of_eq rfl) (hb hby at_131) (fun _ _ => ⟨rfl, e56, (by decide : 4 + 0 ≤ _), (by decide : 20 + 0 ≤ _)⟩)
                  dsimp only [Pt.U, Pt.locs, Pt.cells, Pt.slots] at X57 l57 y57 z57 st57 hQ57
                  subst l57 y57 z57
                  obtain ⟨hv57, Nq57, e57⟩ := hQ57
                  rw [show own_all [c1, c2, c3, c4] = (0 : Int32) from by simp [own_all, hf0, hf1, hf2, hf3]] at hv57
                  subst hv57
                  have N57 := Fr.app N56 Nq57
                  refine own_goW st57 ?_
                  show own_GoW p e below s _ _ _ _ (T57.setTop (mkF m 134 #[iv p1, iv p2, iv p3, iv p4, iv p5, iv (4 : Int32), iv c1, iv c2, iv c3, iv c4, rv b1, iv (0 : Int32)] [(.int (0 : Int32))]))
                  refine own_goW (fun zt zk => (XS.iload X57.here hx rfl (hb hby at_134) rfl (XS.icmpNo X57.here hx rfl (hb hby at_136) rfl (teq (rfl : (0 : Int32) = (0 : Int32))).2 (XS.iconst X57.here hx rfl (hb hby at_139) (XS.goto X57.here hx rfl (pc0 := 140) (pc' := 144) rfl (hb hby at_140) (by decide) (by decide) zk))))) ?_
                  show own_GoW p e below s _ _ _ _ (T57.setTop (mkF m 144 #[iv p1, iv p2, iv p3, iv p4, iv p5, iv (4 : Int32), iv c1, iv c2, iv c3, iv c4, rv b1, iv (0 : Int32)] [(.int (1 : Int32))]))
                  have Re := Rc.trans (CHv.at X57 hZ hEL Rc.1)
                  exact own_finW X57 hS (by rw [e57]; exact hk) (by rw [e57, hh]; exact Re) Bd.notSynchronized (fun h => by rw [Bd.returns] at h; cases h) (fun fs hr => retN X57 hx (t := .boolean) Bd.returns (by simp) (hb hby at_144) hr) (by rw [e57]; exact ⟨rfl, N57⟩) (by decide) (by decide)
                · refine own_goW (fun zt zk => (XS.ifYes X56.here hx rfl (pc0 := 123) (pc' := 129) rfl (hb hby at_123) rfl ((if0 _ _).trans (feq (hf3 : ¬ ((own_fc c4) = (0 : Int32)))).2) (by decide) (by decide) (XS.aload X56.here hx rfl (hb hby at_129) rfl rfl zk))) ?_
                  show own_GoW p e below s _ _ _ _ (T56.setTop (mkF m 131 #[iv p1, iv p2, iv p3, iv p4, iv p5, iv (4 : Int32), iv c1, iv c2, iv c3, iv c4, rv b1, iv (0 : Int32)] [(.ref b1)]))
                  obtain ⟨_, _, ⟨T58, L58, k58, n58⟩, -, X58, ⟨Lc58, hQ58, l58, y58, z58⟩, st58⟩ := Jvm.LawKit.callS X56 hx (y := (⟨"com/example/mortise/mortise/http/Headers", "isValue", "(Ljava/lang/String;)Z"⟩ : MethodName)) hown (mvT hZ (hw _ (List.mem_of_getElem? (i := 28) rfl))) (mvT hZ (hw _ (List.mem_of_getElem? (i := 29) rfl))) (mvT hZ (hw _ (List.mem_of_getElem? (i := 30) rfl))) (mvT hZ (hw _ (List.mem_of_getElem? (i := 31) rfl))) (by decide) (backOf (W := 0) (own_risv l Z a0 hw [] b1 o_COMPACT_STRINGS o_SIOOBE_FORMATTER [c1, c2, c3, c4] T37.heap n0 (Nat.le_trans Z0 Kp.1) O S_o_COMPACT_STRINGS S_o_SIOOBE_FORMATTER S_o__assertionsDisabled S_o_HI_BYTE_SHIFT S_o_LO_BYTE_SHIFT nz_o_COMPACT_STRINGS St (Nat.le_of_ble_eq_true rfl) r_o_SIOOBE_FORMATTER hR) hZ (hw _ (List.mem_of_getElem? (i := 31) rfl)) (hw _ (List.mem_of_getElem? (i := 30) rfl)) (by decide) (by decide)) (g := (mkF m 131 #[iv p1, iv p2, iv p3, iv p4, iv p5, iv (4 : Int32), iv c1, iv c2, iv c3, iv c4, rv b1, iv (0 : Int32)] [(.ref b1)])) rfl (by rw [hml]; rfl) (argsL := [(.ref b1)]) (rest := []) (lenOf own_pd__Ljava_lang_String__Z rfl) rfl (by show 2 * 0 + _ ≤ _; exact Nat.le_of_eq rfl) (hb hby at_131) (fun _ _ => ⟨rfl, e56, (by decide : 4 + 0 ≤ _), (by decide : 20 + 0 ≤ _)⟩)
                  dsimp only [Pt.U, Pt.locs, Pt.cells, Pt.slots] at X58 l58 y58 z58 st58 hQ58
                  subst l58 y58 z58
                  obtain ⟨hv58, Nq58, e58⟩ := hQ58
                  rw [show own_all [c1, c2, c3, c4] = (0 : Int32) from by simp [own_all, hf0, hf1, hf2, hf3]] at hv58
                  subst hv58
                  have N58 := Fr.app N56 Nq58
                  refine own_goW st58 ?_
                  show own_GoW p e below s _ _ _ _ (T58.setTop (mkF m 134 #[iv p1, iv p2, iv p3, iv p4, iv p5, iv (4 : Int32), iv c1, iv c2, iv c3, iv c4, rv b1, iv (0 : Int32)] [(.int (0 : Int32))]))
                  refine own_goW (fun zt zk => (XS.iload X58.here hx rfl (hb hby at_134) rfl (XS.icmpNo X58.here hx rfl (hb hby at_136) rfl (teq (rfl : (0 : Int32) = (0 : Int32))).2 (XS.iconst X58.here hx rfl (hb hby at_139) (XS.goto X58.here hx rfl (pc0 := 140) (pc' := 144) rfl (hb hby at_140) (by decide) (by decide) zk))))) ?_
                  show own_GoW p e below s _ _ _ _ (T58.setTop (mkF m 144 #[iv p1, iv p2, iv p3, iv p4, iv p5, iv (4 : Int32), iv c1, iv c2, iv c3, iv c4, rv b1, iv (0 : Int32)] [(.int (1 : Int32))]))
                  have Re := Rc.trans (CHv.at X58 hZ hEL Rc.1)
                  exact own_finW X58 hS (by rw [e58]; exact hk) (by rw [e58, hh]; exact Re) Bd.notSynchronized (fun h => by rw [Bd.returns] at h; cases h) (fun fs hr => retN X58 hx (t := .boolean) Bd.returns (by simp) (hb hby at_144) hr) (by rw [e58]; exact ⟨rfl, N58⟩) (by decide) (by decide)
              · refine own_goW (fun zt zk => (XS.ifYes X55.here hx rfl (pc0 := 106) (pc' := 112) rfl (hb hby at_106) rfl ((if0 _ _).trans (feq (hf2 : ¬ ((own_fc c3) = (0 : Int32)))).2) (by decide) (by decide) (XS.iload X55.here hx rfl (hb hby at_112) rfl (XS.iconst X55.here hx rfl (hb hby at_114) (XS.icmpNo X55.here hx rfl (hb hby at_115) rfl (tlt ((by decide) : (3 : Int32) < (4 : Int32))).2.2.2 (XS.iload X55.here hx rfl (hb hby at_118) rfl zk)))))) ?_
                show own_GoW p e below s _ _ _ _ (T55.setTop (mkF m 120 #[iv p1, iv p2, iv p3, iv p4, iv p5, iv (4 : Int32), iv c1, iv c2, iv c3, iv c4, rv b1, iv (0 : Int32)] [(.int c4)]))
                obtain ⟨_, _, ⟨T59, L59, k59, n59⟩, -, X59, ⟨Lc59, hQ59, l59, y59, z59⟩, st59⟩ := Jvm.LawKit.callS X55 hx (y := (⟨"com/example/mortise/mortise/http/HeadersIsValuePinLaw", "fieldChar", "(C)Z"⟩ : MethodName)) hown (mvT hZ (hw _ (List.mem_of_getElem? (i := 53) rfl))) (mvT hZ (hw _ (List.mem_of_getElem? (i := 54) rfl))) (mvT hZ (hw _ (List.mem_of_getElem? (i := 7) rfl))) (mvT hZ (hw _ (List.mem_of_getElem? (i := 55) rfl))) (by decide) (backOf (W := 0) (own_rfc l Z a0 hw [] c4  T37.heap n0 (Nat.le_trans Z0 Kp.1) ) hZ (hw _ (List.mem_of_getElem? (i := 55) rfl)) (hw _ (List.mem_of_getElem? (i := 7) rfl)) (by decide) (by decide)) (g := (mkF m 120 #[iv p1, iv p2, iv p3, iv p4, iv p5, iv (4 : Int32), iv c1, iv c2, iv c3, iv c4, rv b1, iv (0 : Int32)] [(.int c4)])) rfl (by rw [hml]; rfl) (argsL := [(.int c4)]) (rest := []) (lenOf own_pd__C_Z rfl) rfl (by show 2 * 0 + _ ≤ _; exact Nat.le_of_eq rfl) (hb hby at_120) (fun _ _ => ⟨rfl, e55, (by decide : 4 + 0 ≤ _), (by decide : 20 + 0 ≤ _)⟩)
                dsimp only [Pt.U, Pt.locs, Pt.cells, Pt.slots] at X59 l59 y59 z59 st59 hQ59
                subst l59 y59 z59
                obtain ⟨rfl, Nq59, e59⟩ := hQ59
                have N59 := Fr.app N55 Nq59
                refine own_goW st59 ?_
                show own_GoW p e below s _ _ _ _ (T59.setTop (mkF m 123 #[iv p1, iv p2, iv p3, iv p4, iv p5, iv (4 : Int32), iv c1, iv c2, iv c3, iv c4, rv b1, iv (0 : Int32)] [(.int (own_fc c4))]))
                by_cases hf3 : (own_fc c4) = (0 : Int32)
                · refine own_goW (fun zt zk => (XS.ifNo X59.here hx rfl (hb hby at_123) rfl ((if0 _ _).trans (teq (hf3 : (own_fc c4) = (0 : Int32))).2) (XS.iconst X59.here hx rfl (hb hby at_126) (XS.istore X59.here hx rfl (hb hby at_127) rfl (l' := #[iv p1, iv p2, iv p3, iv p4, iv p5, iv (4 : Int32), iv c1, iv c2, iv c3, iv c4, rv b1, iv (0 : Int32)]) rfl (XS.aload X59.here hx rfl (hb hby at_129) rfl rfl zk))))) ?_
                  show own_GoW p e below s _ _ _ _ (T59.setTop (mkF m 131 #[iv p1, iv p2, iv p3, iv p4, iv p5, iv (4 : Int32), iv c1, iv c2, iv c3, iv c4, rv b1, iv (0 : Int32)] [(.ref b1)]))
                  obtain ⟨_, _, ⟨T60, L60, k60, n60⟩, -, X60, ⟨Lc60, hQ60, l60, y60, z60⟩, st60⟩ := Jvm.LawKit.callS X59 hx (y := (⟨"com/example/mortise/mortise/http/Headers", "isValue", "(Ljava/lang/String;)Z"⟩ : MethodName)) hown (mvT hZ (hw _ (List.mem_of_getElem? (i := 28) rfl))) (mvT hZ (hw _ (List.mem_of_getElem? (i := 29) rfl))) (mvT hZ (hw _ (List.mem_of_getElem? (i := 30) rfl))) (mvT hZ (hw _ (List.mem_of_getElem? (i := 31) rfl))) (by decide) (backOf (W := 0) (own_risv l Z a0 hw [] b1 o_COMPACT_STRINGS o_SIOOBE_FORMATTER [c1, c2, c3, c4] T37.heap n0 (Nat.le_trans Z0 Kp.1) O S_o_COMPACT_STRINGS S_o_SIOOBE_FORMATTER S_o__assertionsDisabled S_o_HI_BYTE_SHIFT S_o_LO_BYTE_SHIFT nz_o_COMPACT_STRINGS St (Nat.le_of_ble_eq_true rfl) r_o_SIOOBE_FORMATTER hR) hZ (hw _ (List.mem_of_getElem? (i := 31) rfl)) (hw _ (List.mem_of_getElem? (i := 30) rfl)) (by decide) (by decide)) (g := (mkF m 131 #[iv p1, iv p2, iv p3, iv p4, iv p5, iv (4 : Int32), iv c1, iv c2, iv c3, iv c4, rv b1, iv (0 : Int32)] [(.ref b1)])) rfl (by rw [hml]; rfl) (argsL := [(.ref b1)]) (rest := []) (lenOf own_pd__Ljava_lang_String__Z rfl) rfl (by show 2 * 0 + _ ≤ _; exact Nat.le_of_eq rfl) (hb hby at_131) (fun _ _ => ⟨rfl, e59, (by decide : 4 + 0 ≤ _), (by decide : 20 + 0 ≤ _)⟩)
                  dsimp only [Pt.U, Pt.locs, Pt.cells, Pt.slots] at X60 l60 y60 z60 st60 hQ60
                  subst l60 y60 z60
                  obtain ⟨hv60, Nq60, e60⟩ := hQ60
                  rw [show own_all [c1, c2, c3, c4] = (0 : Int32) from by simp [own_all, hf0, hf1, hf2, hf3]] at hv60
                  subst hv60
                  have N60 := Fr.app N59 Nq60
                  refine own_goW st60 ?_
                  show own_GoW p e below s _ _ _ _ (T60.setTop (mkF m 134 #[iv p1, iv p2, iv p3, iv p4, iv p5, iv (4 : Int32), iv c1, iv c2, iv c3, iv c4, rv b1, iv (0 : Int32)] [(.int (0 : Int32))]))
                  refine own_goW (fun zt zk => (XS.iload X60.here hx rfl (hb hby at_134) rfl (XS.icmpNo X60.here hx rfl (hb hby at_136) rfl (teq (rfl : (0 : Int32) = (0 : Int32))).2 (XS.iconst X60.here hx rfl (hb hby at_139) (XS.goto X60.here hx rfl (pc0 := 140) (pc' := 144) rfl (hb hby at_140) (by decide) (by decide) zk))))) ?_
                  show own_GoW p e below s _ _ _ _ (T60.setTop (mkF m 144 #[iv p1, iv p2, iv p3, iv p4, iv p5, iv (4 : Int32), iv c1, iv c2, iv c3, iv c4, rv b1, iv (0 : Int32)] [(.int (1 : Int32))]))
                  have Re := Rc.trans (CHv.at X60 hZ hEL Rc.1)
                  exact own_finW X60 hS (by rw [e60]; exact hk) (by rw [e60, hh]; exact Re) Bd.notSynchronized (fun h => by rw [Bd.returns] at h; cases h) (fun fs hr => retN X60 hx (t := .boolean) Bd.returns (by simp) (hb hby at_144) hr) (by rw [e60]; exact ⟨rfl, N60⟩) (by decide) (by decide)
                · refine own_goW (fun zt zk => (XS.ifYes X59.here hx rfl (pc0 := 123) (pc' := 129) rfl (hb hby at_123) rfl ((if0 _ _).trans (feq (hf3 : ¬ ((own_fc c4) = (0 : Int32)))).2) (by decide) (by decide) (XS.aload X59.here hx rfl (hb hby at_129) rfl rfl zk))) ?_
                  show own_GoW p e below s _ _ _ _ (T59.setTop (mkF m 131 #[iv p1, iv p2, iv p3, iv p4, iv p5, iv (4 : Int32), iv c1, iv c2, iv c3, iv c4, rv b1, iv (0 : Int32)] [(.ref b1)]))
                  obtain ⟨_, _, ⟨T61, L61, k61, n61⟩, -, X61, ⟨Lc61, hQ61, l61, y61, z61⟩, st61⟩ := Jvm.LawKit.callS X59 hx (y := (⟨"com/example/mortise/mortise/http/Headers", "isValue", "(Ljava/lang/String;)Z"⟩ : MethodName)) hown (mvT hZ (hw _ (List.mem_of_getElem? (i := 28) rfl))) (mvT hZ (hw _ (List.mem_of_getElem? (i := 29) rfl))) (mvT hZ (hw _ (List.mem_of_getElem? (i := 30) rfl))) (mvT hZ (hw _ (List.mem_of_getElem? (i := 31) rfl))) (by decide) (backOf (W := 0) (own_risv l Z a0 hw [] b1 o_COMPACT_STRINGS o_SIOOBE_FORMATTER [c1, c2, c3, c4] T37.heap n0 (Nat.le_trans Z0 Kp.1) O S_o_COMPACT_STRINGS S_o_SIOOBE_FORMATTER S_o__assertionsDisabled S_o_HI_BYTE_SHIFT S_o_LO_BYTE_SHIFT nz_o_COMPACT_STRINGS St (Nat.le_of_ble_eq_true rfl) r_o_SIOOBE_FORMATTER hR) hZ (hw _ (List.mem_of_getElem? (i := 31) rfl)) (hw _ (List.mem_of_getElem? (i := 30) rfl)) (by decide) (by decide)) (g := (mkF m 131 #[iv p1, iv p2, iv p3, iv p4, iv p5, iv (4 : Int32), iv c1, iv c2, iv c3, iv c4, rv b1, iv (0 : Int32)] [(.ref b1)])) rfl (by rw [hml]; rfl) (argsL := [(.ref b1)]) (rest := []) (lenOf own_pd__Ljava_lang_String__Z rfl) rfl (by show 2 * 0 + _ ≤ _; exact Nat.le_of_eq rfl) (hb hby at_131) (fun _ _ => ⟨rfl, e59, (by decide : 4 + 0 ≤ _), (by decide : 20 + 0 ≤ _)⟩)
                  dsimp only [Pt.U, Pt.locs, Pt.cells, Pt.slots] at X61 l61 y61 z61 st61 hQ61
                  subst l61 y61 z61
                  obtain ⟨hv61, Nq61, e61⟩ := hQ61
                  rw [show own_all [c1, c2, c3, c4] = (0 : Int32) from by simp [own_all, hf0, hf1, hf2, hf3]] at hv61
                  subst hv61
                  have N61 := Fr.app N59 Nq61
                  refine own_goW st61 ?_
                  show own_GoW p e below s _ _ _ _ (T61.setTop (mkF m 134 #[iv p1, iv p2, iv p3, iv p4, iv p5, iv (4 : Int32), iv c1, iv c2, iv c3, iv c4, rv b1, iv (0 : Int32)] [(.int (0 : Int32))]))
                  refine own_goW (fun zt zk => (XS.iload X61.here hx rfl (hb hby at_134) rfl (XS.icmpNo X61.here hx rfl (hb hby at_136) rfl (teq (rfl : (0 : Int32) = (0 : Int32))).2 (XS.iconst X61.here hx rfl (hb hby at_139) (XS.goto X61.here hx rfl (pc0 := 140) (pc' := 144) rfl (hb hby at_140) (by decide) (by decide) zk))))) ?_
                  show own_GoW p e below s _ _ _ _ (T61.setTop (mkF m 144 #[iv p1, iv p2, iv p3, iv p4, iv p5, iv (4 : Int32), iv c1, iv c2, iv c3, iv c4, rv b1, iv (0 : Int32)] [(.int (1 : Int32))]))
                  have Re := Rc.trans (CHv.at X61 hZ hEL Rc.1)
                  exact own_finW X61 hS (by rw [e61]; exact hk) (by rw [e61, hh]; exact Re) Bd.notSynchronized (fun h => by rw [Bd.returns] at h; cases h) (fun fs hr => retN X61 hx (t := .boolean) Bd.returns (by simp) (hb hby at_144) hr) (by rw [e61]; exact ⟨rfl, N61⟩) (by decide) (by decide)
            · refine own_goW (fun zt zk => (XS.ifYes X54.here hx rfl (pc0 := 89) (pc' := 95) rfl (hb hby at_89) rfl ((if0 _ _).trans (feq (hf1 : ¬ ((own_fc c2) = (0 : Int32)))).2) (by decide) (by decide) (XS.iload X54.here hx rfl (hb hby at_95) rfl (XS.iconst X54.here hx rfl (hb hby at_97) (XS.icmpNo X54.here hx rfl (hb hby at_98) rfl (tlt ((by decide) : (2 : Int32) < (4 : Int32))).2.2.2 (XS.iload X54.here hx rfl (hb hby at_101) rfl zk)))))) ?_
              show own_GoW p e below s _ _ _ _ (T54.setTop (mkF m 103 #[iv p1, iv p2, iv p3, iv p4, iv p5, iv (4 : Int32), iv c1, iv c2, iv c3, iv c4, rv b1, iv (1 : Int32)] [(.int c3)]))
              obtain ⟨_, _, ⟨T62, L62, k62, n62⟩, -, X62, ⟨Lc62, hQ62, l62, y62, z62⟩, st62⟩ := Jvm.LawKit.callS X54 hx (y := (⟨"com/example/mortise/mortise/http/HeadersIsValuePinLaw", "fieldChar", "(C)Z"⟩ : MethodName)) hown (mvT hZ (hw _ (List.mem_of_getElem? (i := 53) rfl))) (mvT hZ (hw _ (List.mem_of_getElem? (i := 54) rfl))) (mvT hZ (hw _ (List.mem_of_getElem? (i := 7) rfl))) (mvT hZ (hw _ (List.mem_of_getElem? (i := 55) rfl))) (by decide) (backOf (W := 0) (own_rfc l Z a0 hw [] c3  T37.heap n0 (Nat.le_trans Z0 Kp.1) ) hZ (hw _ (List.mem_of_getElem? (i := 55) rfl)) (hw _ (List.mem_of_getElem? (i := 7) rfl)) (by decide) (by decide)) (g := (mkF m 103 #[iv p1, iv p2, iv p3, iv p4, iv p5, iv (4 : Int32), iv c1, iv c2, iv c3, iv c4, rv b1, iv (1 : Int32)] [(.int c3)])) rfl (by rw [hml]; rfl) (argsL := [(.int c3)]) (rest := []) (lenOf own_pd__C_Z rfl) rfl (by show 2 * 0 + _ ≤ _; exact Nat.le_of_eq rfl) (hb hby at_103) (fun _ _ => ⟨rfl, e54, (by decide : 4 + 0 ≤ _), (by decide : 20 + 0 ≤ _)⟩)
              dsimp only [Pt.U, Pt.locs, Pt.cells, Pt.slots] at X62 l62 y62 z62 st62 hQ62
              subst l62 y62 z62
              obtain ⟨rfl, Nq62, e62⟩ := hQ62
              have N62 := Fr.app N54 Nq62
              refine own_goW st62 ?_
              show own_GoW p e below s _ _ _ _ (T62.setTop (mkF m 106 #[iv p1, iv p2, iv p3, iv p4, iv p5, iv (4 : Int32), iv c1, iv c2, iv c3, iv c4, rv b1, iv (1 : Int32)] [(.int (own_fc c3))]))
              by_cases hf2 : (own_fc c3) = (0 : Int32)
              · refine own_goW (fun zt zk => (XS.ifNo X62.here hx rfl (hb hby at_106) rfl ((if0 _ _).trans (teq (hf2 : (own_fc c3) = (0 : Int32))).2) (XS.iconst X62.here hx rfl (hb hby at_109) (XS.istore X62.here hx rfl (hb hby at_110) rfl (l' := #[iv p1, iv p2, iv p3, iv p4, iv p5, iv (4 : Int32), iv c1, iv c2, iv c3, iv c4, rv b1, iv (0 : Int32)]) rfl (XS.iload X62.here hx rfl (hb hby at_112) rfl (XS.iconst X62.here hx rfl (hb hby at_114) (XS.icmpNo X62.here hx rfl (hb hby at_115) rfl (tlt ((by decide) : (3 : Int32) < (4 : Int32))).2.2.2 (XS.iload X62.here hx rfl (hb hby at_118) rfl zk)))))))) ?_
                show own_GoW p e below s _ _ _ _ (T62.setTop (mkF m 120 #[iv p1, iv p2, iv p3, iv p4, iv p5, iv (4 : Int32), iv c1, iv c2, iv c3, iv c4, rv b1, iv (0 : Int32)] [(.int c4)]))
                obtain ⟨_, _, ⟨T63, L63, k63, n63⟩, -, X63, ⟨Lc63, hQ63, l63, y63, z63⟩, st63⟩ := Jvm.LawKit.callS X62 hx (y := (⟨"com/example/mortise/mortise/http/HeadersIsValuePinLaw", "fieldChar", "(C)Z"⟩ : MethodName)) hown (mvT hZ (hw _ (List.mem_of_getElem? (i := 53) rfl))) (mvT hZ (hw _ (List.mem_of_getElem? (i := 54) rfl))) (mvT hZ (hw _ (List.mem_of_getElem? (i := 7) rfl))) (mvT hZ (hw _ (List.mem_of_getElem? (i := 55) rfl))) (by decide) (backOf (W := 0) (own_rfc l Z a0 hw [] c4  T37.heap n0 (Nat.le_trans Z0 Kp.1) ) hZ (hw _ (List.mem_of_getElem? (i := 55) rfl)) (hw _ (List.mem_of_getElem? (i := 7) rfl)) (by decide) (by decide)) (g := (mkF m 120 #[iv p1, iv p2, iv p3, iv p4, iv p5, iv (4 : Int32), iv c1, iv c2, iv c3, iv c4, rv b1, iv (0 : Int32)] [(.int c4)])) rfl (by rw [hml]; rfl) (argsL := [(.int c4)]) (rest := []) (lenOf own_pd__C_Z rfl) rfl (by show 2 * 0 + _ ≤ _; exact Nat.le_of_eq rfl) (hb hby at_120) (fun _ _ => ⟨rfl, e62, (by decide : 4 + 0 ≤ _), (by decide : 20 + 0 ≤ _)⟩)
                dsimp only [Pt.U, Pt.locs, Pt.cells, Pt.slots] at X63 l63 y63 z63 st63 hQ63
                subst l63 y63 z63
                obtain ⟨rfl, Nq63, e63⟩ := hQ63
                have N63 := Fr.app N62 Nq63
                refine own_goW st63 ?_
                show own_GoW p e below s _ _ _ _ (T63.setTop (mkF m 123 #[iv p1, iv p2, iv p3, iv p4, iv p5, iv (4 : Int32), iv c1, iv c2, iv c3, iv c4, rv b1, iv (0 : Int32)] [(.int (own_fc c4))]))
                by_cases hf3 : (own_fc c4) = (0 : Int32)
                · refine own_goW (fun zt zk => (XS.ifNo X63.here hx rfl (hb hby at_123) rfl ((if0 _ _).trans (teq (hf3 : (own_fc c4) = (0 : Int32))).2) (XS.iconst X63.here hx rfl (hb hby at_126) (XS.istore X63.here hx rfl (hb hby at_127) rfl (l' := #[iv p1, iv p2, iv p3, iv p4, iv p5, iv (4 : Int32), iv c1, iv c2, iv c3, iv c4, rv b1, iv (0 : Int32)]) rfl (XS.aload X63.here hx rfl (hb hby at_129) rfl rfl zk))))) ?_
                  show own_GoW p e below s _ _ _ _ (T63.setTop (mkF m 131 #[iv p1, iv p2, iv p3, iv p4, iv p5, iv (4 : Int32), iv c1, iv c2, iv c3, iv c4, rv b1, iv (0 : Int32)] [(.ref b1)]))
                  obtain ⟨_, _, ⟨T64, L64, k64, n64⟩, -, X64, ⟨Lc64, hQ64, l64, y64, z64⟩, st64⟩ := Jvm.LawKit.callS X63 hx (y := (⟨"com/example/mortise/mortise/http/Headers", "isValue", "(Ljava/lang/String;)Z"⟩ : MethodName)) hown (mvT hZ (hw _ (List.mem_of_getElem? (i := 28) rfl))) (mvT hZ (hw _ (List.mem_of_getElem? (i := 29) rfl))) (mvT hZ (hw _ (List.mem_of_getElem? (i := 30) rfl))) (mvT hZ (hw _ (List.mem_of_getElem? (i := 31) rfl))) (by decide) (backOf (W := 0) (own_risv l Z a0 hw [] b1 o_COMPACT_STRINGS o_SIOOBE_FORMATTER [c1, c2, c3, c4] T37.heap n0 (Nat.le_trans Z0 Kp.1) O S_o_COMPACT_STRINGS S_o_SIOOBE_FORMATTER S_o__assertionsDisabled S_o_HI_BYTE_SHIFT S_o_LO_BYTE_SHIFT nz_o_COMPACT_STRINGS St (Nat.le_of_ble_eq_true rfl) r_o_SIOOBE_FORMATTER hR) hZ (hw _ (List.mem_of_getElem? (i := 31) rfl)) (hw _ (List.mem_of_getElem? (i := 30) rfl)) (by decide) (by decide)) (g := (mkF m 131 #[iv p1, iv p2, iv p3, iv p4, iv p5, iv (4 : Int32), iv c1, iv c2, iv c3, iv c4, rv b1, iv (0 : Int32)] [(.ref b1)])) rfl (by rw [hml]; rfl) (argsL := [(.ref b1)]) (rest := []) (lenOf own_pd__Ljava_lang_String__Z rfl) rfl (by show 2 * 0 + _ ≤ _; exact Nat.le_of_eq rfl) (hb hby at_131) (fun _ _ => ⟨rfl, e63, (by decide : 4 + 0 ≤ _), (by decide : 20 + 0 ≤ _)⟩)
                  dsimp only [Pt.U, Pt.locs, Pt.cells, Pt.slots] at X64 l64 y64 z64 st64 hQ64
                  subst l64 y64 z64
                  obtain ⟨hv64, Nq64, e64⟩ := hQ64
                  rw [show own_all [c1, c2, c3, c4] = (0 : Int32) from by simp [own_all, hf0, hf1, hf2, hf3]] at hv64
                  subst hv64
                  have N64 := Fr.app N63 Nq64
                  refine own_goW st64 ?_
                  show own_GoW p e below s _ _ _ _ (T64.setTop (mkF m 134 #[iv p1, iv p2, iv p3, iv p4, iv p5, iv (4 : Int32), iv c1, iv c2, iv c3, iv c4, rv b1, iv (0 : Int32)] [(.int (0 : Int32))]))
                  refine own_goW (fun zt zk => (XS.iload X64.here hx rfl (hb hby at_134) rfl (XS.icmpNo X64.here hx rfl (hb hby at_136) rfl (teq (rfl : (0 : Int32) = (0 : Int32))).2 (XS.iconst X64.here hx rfl (hb hby at_139) (XS.goto X64.here hx rfl (pc0 := 140) (pc' := 144) rfl (hb hby at_140) (by decide) (by decide) zk))))) ?_
                  show own_GoW p e below s _ _ _ _ (T64.setTop (mkF m 144 #[iv p1, iv p2, iv p3, iv p4, iv p5, iv (4 : Int32), iv c1, iv c2, iv c3, iv c4, rv b1, iv (0 : Int32)] [(.int (1 : Int32))]))
                  have Re := Rc.trans (CHv.at X64 hZ hEL Rc.1)
                  exact own_finW X64 hS (by rw [e64]; exact hk) (by rw [e64, hh]; exact Re) Bd.notSynchronized (fun h => by rw [Bd.returns] at h; cases h) (fun fs hr => retN X64 hx (t := .boolean) Bd.returns (by simp) (hb hby at_144) hr) (by rw [e64]; exact ⟨rfl, N64⟩) (by decide) (by decide)
                · refine own_goW (fun zt zk => (XS.ifYes X63.here hx rfl (pc0 := 123) (pc' := 129) rfl (hb hby at_123) rfl ((if0 _ _).trans (feq (hf3 : ¬ ((own_fc c4) = (0 : Int32)))).2) (by decide) (by decide) (XS.aload X63.here hx rfl (hb hby at_129) rfl rfl zk))) ?_
                  show own_GoW p e below s _ _ _ _ (T63.setTop (mkF m 131 #[iv p1, iv p2, iv p3, iv p4, iv p5, iv (4 : Int32), iv c1, iv c2, iv c3, iv c4, rv b1, iv (0 : Int32)] [(.ref b1)]))
                  obtain ⟨_, _, ⟨T65, L65, k65, n65⟩, -, X65, ⟨Lc65, hQ65, l65, y65, z65⟩, st65⟩ := Jvm.LawKit.callS X63 hx (y := (⟨"com/example/mortise/mortise/http/Headers", "isValue", "(Ljava/lang/String;)Z"⟩ : MethodName)) hown (mvT hZ (hw _ (List.mem_of_getElem? (i := 28) rfl))) (mvT hZ (hw _ (List.mem_of_getElem? (i := 29) rfl))) (mvT hZ (hw _ (List.mem_of_getElem? (i := 30) rfl))) (mvT hZ (hw _ (List.mem_of_getElem? (i := 31) rfl))) (by decide) (backOf (W := 0) (own_risv l Z a0 hw [] b1 o_COMPACT_STRINGS o_SIOOBE_FORMATTER [c1, c2, c3, c4] T37.heap n0 (Nat.le_trans Z0 Kp.1) O S_o_COMPACT_STRINGS S_o_SIOOBE_FORMATTER S_o__assertionsDisabled S_o_HI_BYTE_SHIFT S_o_LO_BYTE_SHIFT nz_o_COMPACT_STRINGS St (Nat.le_of_ble_eq_true rfl) r_o_SIOOBE_FORMATTER hR) hZ (hw _ (List.mem_of_getElem? (i := 31) rfl)) (hw _ (List.mem_of_getElem? (i := 30) rfl)) (by decide) (by decide)) (g := (mkF m 131 #[iv p1, iv p2, iv p3, iv p4, iv p5, iv (4 : Int32), iv c1, iv c2, iv c3, iv c4, rv b1, iv (0 : Int32)] [(.ref b1)])) rfl (by rw [hml]; rfl) (argsL := [(.ref b1)]) (rest := []) (lenOf own_pd__Ljava_lang_String__Z rfl) rfl (by show 2 * 0 + _ ≤ _; exact Nat.le_of_eq rfl) (hb hby at_131) (fun _ _ => ⟨rfl, e63, (by decide : 4 + 0 ≤ _), (by decide : 20 + 0 ≤ _)⟩)
                  dsimp only [Pt.U, Pt.locs, Pt.cells, Pt.slots] at X65 l65 y65 z65 st65 hQ65
                  subst l65 y65 z65
                  obtain ⟨hv65, Nq65, e65⟩ := hQ65
                  rw [show own_all [c1, c2, c3, c4] = (0 : Int32) from by simp [own_all, hf0, hf1, hf2, hf3]] at hv65
                  subst hv65
                  have N65 := Fr.app N63 Nq65
                  refine own_goW st65 ?_
                  show own_GoW p e below s _ _ _ _ (T65.setTop (mkF m 134 #[iv p1, iv p2, iv p3, iv p4, iv p5, iv (4 : Int32), iv c1, iv c2, iv c3, iv c4, rv b1, iv (0 : Int32)] [(.int (0 : Int32))]))
                  refine own_goW (fun zt zk => (XS.iload X65.here hx rfl (hb hby at_134) rfl (XS.icmpNo X65.here hx rfl (hb hby at_136) rfl (teq (rfl : (0 : Int32) = (0 : Int32))).2 (XS.iconst X65.here hx rfl (hb hby at_139) (XS.goto X65.here hx rfl (pc0 := 140) (pc' := 144) rfl (hb hby at_140) (by decide) (by decide) zk))))) ?_
                  show own_GoW p e below s _ _ _ _ (T65.setTop (mkF m 144 #[iv p1, iv p2, iv p3, iv p4, iv p5, iv (4 : Int32), iv c1, iv c2, iv c3, iv c4, rv b1, iv (0 : Int32)] [(.int (1 : Int32))]))
                  have Re := Rc.trans (CHv.at X65 hZ hEL Rc.1)
                  exact own_finW X65 hS (by rw [e65]; exact hk) (by rw [e65, hh]; exact Re) Bd.notSynchronized (fun h => by rw [Bd.returns] at h; cases h) (fun fs hr => retN X65 hx (t := .boolean) Bd.returns (by simp) (hb hby at_144) hr) (by rw [e65]; exact ⟨rfl, N65⟩) (by decide) (by decide)
              · refine own_goW (fun zt zk => (XS.ifYes X62.here hx rfl (pc0 := 106) (pc' := 112) rfl (hb hby at_106) rfl ((if0 _ _).trans (feq (hf2 : ¬ ((own_fc c3) = (0 : Int32)))).2) (by decide) (by decide) (XS.iload X62.here hx rfl (hb hby at_112) rfl (XS.iconst X62.here hx rfl (hb hby at_114) (XS.icmpNo X62.here hx rfl (hb hby at_115) rfl (tlt ((by decide) : (3 : Int32) < (4 : Int32))).2.2.2 (XS.iload X62.here hx rfl (hb hby at_118) rfl zk)))))) ?_
                show own_GoW p e below s _ _ _ _ (T62.setTop (mkF m 120 #[iv p1, iv p2, iv p3, iv p4, iv p5, iv (4 : Int32), iv c1, iv c2, iv c3, iv c4, rv b1, iv (1 : Int32)] [(.int c4)]))
                obtain ⟨_, _, ⟨T66, L66, k66, n66⟩, -, X66, ⟨Lc66, hQ66, l66, y66, z66⟩, st66⟩ := Jvm.LawKit.callS X62 hx (y := (⟨"com/example/mortise/mortise/http/HeadersIsValuePinLaw", "fieldChar", "(C)Z"⟩ : MethodName)) hown (mvT hZ (hw _ (List.mem_of_getElem? (i := 53) rfl))) (mvT hZ (hw _ (List.mem_of_getElem? (i := 54) rfl))) (mvT hZ (hw _ (List.mem_of_getElem? (i := 7) rfl))) (mvT hZ (hw _ (List.mem_of_getElem? (i := 55) rfl))) (by decide) (backOf (W := 0) (own_rfc l Z a0 hw [] c4  T37.heap n0 (Nat.le_trans Z0 Kp.1) ) hZ (hw _ (List.mem_of_getElem? (i := 55) rfl)) (hw _ (List.mem_of_getElem? (i := 7) rfl)) (by decide) (by decide)) (g := (mkF m 120 #[iv p1, iv p2, iv p3, iv p4, iv p5, iv (4 : Int32), iv c1, iv c2, iv c3, iv c4, rv b1, iv (1 : Int32)] [(.int c4)])) rfl (by rw [hml]; rfl) (argsL := [(.int c4)]) (rest := []) (lenOf own_pd__C_Z rfl) rfl (by show 2 * 0 + _ ≤ _; exact Nat.le_of_eq rfl) (hb hby at_120) (fun _ _ => ⟨rfl, e62, (by decide : 4 + 0 ≤ _), (by decide : 20 + 0 ≤ _)⟩)
                dsimp only [Pt.U, Pt.locs, Pt.cells, Pt.slots] at X66 l66 y66 z66 st66 hQ66
                subst l66 y66 z66
                obtain ⟨rfl, Nq66, e66⟩ := hQ66
                have N66 := Fr.app N62 Nq66
                refine own_goW st66 ?_
                show own_GoW p e below s _ _ _ _ (T66.setTop (mkF m 123 #[iv p1, iv p2, iv p3, iv p4, iv p5, iv (4 : Int32), iv c1, iv c2, iv c3, iv c4, rv b1, iv (1 : Int32)] [(.int (own_fc c4))]))
                by_cases hf3 : (own_fc c4) = (0 : Int32)
                · refine own_goW (fun zt zk => (XS.ifNo X66.here hx rfl (hb hby at_123) rfl ((if0 _ _).trans (teq (hf3 : (own_fc c4) = (0 : Int32))).2) (XS.iconst X66.here hx rfl (hb hby at_126) (XS.istore X66.here hx rfl (hb hby at_127) rfl (l' := #[iv p1, iv p2, iv p3, iv p4, iv p5, iv (4 : Int32), iv c1, iv c2, iv c3, iv c4, rv b1, iv (0 : Int32)]) rfl (XS.aload X66.here hx rfl (hb hby at_129) rfl rfl zk))))) ?_
                  show own_GoW p e below s _ _ _ _ (T66.setTop (mkF m 131 #[iv p1, iv p2, iv p3, iv p4, iv p5, iv (4 : Int32), iv c1, iv c2, iv c3, iv c4, rv b1, iv (0 : Int32)] [(.ref b1)]))
                  obtain ⟨_, _, ⟨T67, L67, k67, n67⟩, -, X67, ⟨Lc67, hQ67, l67, y67, z67⟩, st67⟩ := Jvm.LawKit.callS X66 hx (y := (⟨"com/example/mortise/mortise/http/Headers", "isValue", "(Ljava/lang/String;)Z"⟩ : MethodName)) hown (mvT hZ (hw _ (List.mem_of_getElem? (i := 28) rfl))) (mvT hZ (hw _ (List.mem_of_getElem? (i := 29) rfl))) (mvT hZ (hw _ (List.mem_of_getElem? (i := 30) rfl))) (mvT hZ (hw _ (List.mem_of_getElem? (i := 31) rfl))) (by decide) (backOf (W := 0) (own_risv l Z a0 hw [] b1 o_COMPACT_STRINGS o_SIOOBE_FORMATTER [c1, c2, c3, c4] T37.heap n0 (Nat.le_trans Z0 Kp.1) O S_o_COMPACT_STRINGS S_o_SIOOBE_FORMATTER S_o__assertionsDisabled S_o_HI_BYTE_SHIFT S_o_LO_BYTE_SHIFT nz_o_COMPACT_STRINGS St (Nat.le_of_ble_eq_true rfl) r_o_SIOOBE_FORMATTER hR) hZ (hw _ (List.mem_of_getElem? (i := 31) rfl)) (hw _ (List.mem_of_getElem? (i := 30) rfl)) (by decide) (by decide)) (g := (mkF m 131 #[iv p1, iv p2, iv p3, iv p4, iv p5, iv (4 : Int32), iv c1, iv c2, iv c3, iv c4, rv b1, iv (0 : Int32)] [(.ref b1)])) rfl (by rw [hml]; rfl) (argsL := [(.ref b1)]) (rest := []) (lenOf own_pd__Ljava_lang_String__Z rfl) rfl (by show 2 * 0 + _ ≤ _; exact Nat.le_of_eq rfl) (hb hby at_131) (fun _ _ => ⟨rfl, e66, (by decide : 4 + 0 ≤ _), (by decide : 20 + 0 ≤ _)⟩)
                  dsimp only [Pt.U, Pt.locs, Pt.cells, Pt.slots] at X67 l67 y67 z67 st67 hQ67
                  subst l67 y67 z67
                  obtain ⟨hv67, Nq67, e67⟩ := hQ67
                  rw [show own_all [c1, c2, c3, c4] = (0 : Int32) from by simp [own_all, hf0, hf1, hf2, hf3]] at hv67
                  subst hv67
                  have N67 := Fr.app N66 Nq67
                  refine own_goW st67 ?_
                  show own_GoW p e below s _ _ _ _ (T67.setTop (mkF m 134 #[iv p1, iv p2, iv p3, iv p4, iv p5, iv (4 : Int32), iv c1, iv c2, iv c3, iv c4, rv b1, iv (0 : Int32)] [(.int (0 : Int32))]))
                  refine own_goW (fun zt zk => (XS.iload X67.here hx rfl (hb hby at_134) rfl (XS.icmpNo X67.here hx rfl (hb hby at_136) rfl (teq (rfl : (0 : Int32) = (0 : Int32))).2 (XS.iconst X67.here hx rfl (hb hby at_139) (XS.goto X67.here hx rfl (pc0 := 140) (pc' := 144) rfl (hb hby at_140) (by decide) (by decide) zk))))) ?_
                  show own_GoW p e below s _ _ _ _ (T67.setTop (mkF m 144 #[iv p1, iv p2, iv p3, iv p4, iv p5, iv (4 : Int32), iv c1, iv c2, iv c3, iv c4, rv b1, iv (0 : Int32)] [(.int (1 : Int32))]))
                  have Re := Rc.trans (CHv.at X67 hZ hEL Rc.1)
                  exact own_finW X67 hS (by rw [e67]; exact hk) (by rw [e67, hh]; exact Re) Bd.notSynchronized (fun h => by rw [Bd.returns] at h; cases h) (fun fs hr => retN X67 hx (t := .boolean) Bd.returns (by simp) (hb hby at_144) hr) (by rw [e67]; exact ⟨rfl, N67⟩) (by decide) (by decide)
                · refine own_goW (fun zt zk => (XS.ifYes X66.here hx rfl (pc0 := 123) (pc' := 129) rfl (hb hby at_123) rfl ((if0 _ _).trans (feq (hf3 : ¬ ((own_fc c4) = (0 : Int32)))).2) (by decide) (by decide) (XS.aload X66.here hx rfl (hb hby at_129) rfl rfl zk))) ?_
                  show own_GoW p e below s _ _ _ _ (T66.setTop (mkF m 131 #[iv p1, iv p2, iv p3, iv p4, iv p5, iv (4 : Int32), iv c1, iv c2, iv c3, iv c4, rv b1, iv (1 : Int32)] [(.ref b1)]))
                  obtain ⟨_, _, ⟨T68, L68, k68, n68⟩, -, X68, ⟨Lc68, hQ68, l68, y68, z68⟩, st68⟩ := Jvm.LawKit.callS X66 hx (y := (⟨"com/example/mortise/mortise/http/Headers", "isValue", "(Ljava/lang/String;)Z"⟩ : MethodName)) hown (mvT hZ (hw _ (List.mem_of_getElem? (i := 28) rfl))) (mvT hZ (hw _ (List.mem_of_getElem? (i := 29) rfl))) (mvT hZ (hw _ (List.mem_of_getElem? (i := 30) rfl))) (mvT hZ (hw _ (List.mem_of_getElem? (i := 31) rfl))) (by decide) (backOf (W := 0) (own_risv l Z a0 hw [] b1 o_COMPACT_STRINGS o_SIOOBE_FORMATTER [c1, c2, c3, c4] T37.heap n0 (Nat.le_trans Z0 Kp.1) O S_o_COMPACT_STRINGS S_o_SIOOBE_FORMATTER S_o__assertionsDisabled S_o_HI_BYTE_SHIFT S_o_LO_BYTE_SHIFT nz_o_COMPACT_STRINGS St (Nat.le_of_ble_eq_true rfl) r_o_SIOOBE_FORMATTER hR) hZ (hw _ (List.mem_of_getElem? (i := 31) rfl)) (hw _ (List.mem_of_getElem? (i := 30) rfl)) (by decide) (by decide)) (g := (mkF m 131 #[iv p1, iv p2, iv p3, iv p4, iv p5, iv (4 : Int32), iv c1, iv c2, iv c3, iv c4, rv b1, iv (1 : Int32)] [(.ref b1)])) rfl (by rw [hml]; rfl) (argsL := [(.ref b1)]) (rest := []) (lenOf own_pd__Ljava_lang_String__Z rfl) rfl (by show 2 * 0 + _ ≤ _; exact Nat.le_of_eq rfl) (hb hby at_131) (fun _ _ => ⟨rfl, e66, (by decide : 4 + 0 ≤ _), (by decide : 20 + 0 ≤ _)⟩)
                  dsimp only [Pt.U, Pt.locs, Pt.cells, Pt.slots] at X68 l68 y68 z68 st68 hQ68
                  subst l68 y68 z68
                  obtain ⟨hv68, Nq68, e68⟩ := hQ68
                  rw [show own_all [c1, c2, c3, c4] = (1 : Int32) from by simp [own_all, hf0, hf1, hf2, hf3]] at hv68
                  subst hv68
                  have N68 := Fr.app N66 Nq68
                  refine own_goW st68 ?_
                  show own_GoW p e below s _ _ _ _ (T68.setTop (mkF m 134 #[iv p1, iv p2, iv p3, iv p4, iv p5, iv (4 : Int32), iv c1, iv c2, iv c3, iv c4, rv b1, iv (1 : Int32)] [(.int (1 : Int32))]))
                  refine own_goW (fun zt zk => (XS.iload X68.here hx rfl (hb hby at_134) rfl (XS.icmpNo X68.here hx rfl (hb hby at_136) rfl (teq (rfl : (1 : Int32) = (1 : Int32))).2 (XS.iconst X68.here hx rfl (hb hby at_139) (XS.goto X68.here hx rfl (pc0 := 140) (pc' := 144) rfl (hb hby at_140) (by decide) (by decide) zk))))) ?_
                  show own_GoW p e below s _ _ _ _ (T68.setTop (mkF m 144 #[iv p1, iv p2, iv p3, iv p4, iv p5, iv (4 : Int32), iv c1, iv c2, iv c3, iv c4, rv b1, iv (1 : Int32)] [(.int (1 : Int32))]))
                  have Re := Rc.trans (CHv.at X68 hZ hEL Rc.1)
                  exact own_finW X68 hS (by rw [e68]; exact hk) (by rw [e68, hh]; exact Re) Bd.notSynchronized (fun h => by rw [Bd.returns] at h; cases h) (fun fs hr => retN X68 hx (t := .boolean) Bd.returns (by simp) (hb hby at_144) hr) (by rw [e68]; exact ⟨rfl, N68⟩) (by decide) (by decide)
set_option maxRecDepth 65536 in
set_option maxHeartbeats 40000000 in
theorem comes_1 {Post : Tables → Env → Array Value → State → Outcome → State → Prop} (hpost : ∀ tb e args s v u, (limb_1_1.after args s (.returned v) u = true ∧ limb_1_2.after args s (.returned v) u = true ∧ True) → ReturnedEndW s (.returned v) u (Jvm.fieldLocs frame_1_writes args s ++ Jvm.arrayLocs frame_1_arrays args s ++ Jvm.staticLocs frame_1_statics s) 24 1152 → Post tb e args s (.returned v) u) :
    ArmFor flags0 classFile x code maxLocals ret World_1 tables_1 room_1 Calls_1 rest_1 Pre_1 Post := by
  intro l hfl _ _ p e ha hc hk s m args below hf hA hF happ hP
  obtain ⟨hcalls, hrest, hpre⟩ := hP
  obtain ⟨-, -, -, hnamed, -, -, -, hat⟩ := (Spec.applies_iff hf).mp happ
  obtain ⟨hg, hn⟩ := and_e (Cond.before_iff.mp (show (Jvm.Cond.and given_1 narrow_1).before args s = true from hpre))
  obtain ⟨g0, r0⟩ := and_e hg
  obtain ⟨g1, r1⟩ := and_e r0
  obtain ⟨g2, r2⟩ := and_e r1
  obtain ⟨g3, r3⟩ := and_e r2
  obtain ⟨g4, r4⟩ := and_e r3
  have g5 := r4
  obtain ⟨w0, w1, w2, w3, w4, rfl⟩ : ∃ w0 w1 w2 w3 w4 : Value, args = #[w0, w1, w2, w3, w4] := by
    have hs : args.size = 5 := by simpa [Cond.value, given_1] using g0
    obtain ⟨L⟩ := args
    match L, hs with
    | [w0, w1, w2, w3, w4], _ => exact ⟨w0, w1, w2, w3, w4, rfl⟩
  have hw := fun d (hd : d ∈ tables_1) => atoms_spec (ws := Jvm.Cond.code x code maxLocals ret :: tables_1) hat d (List.mem_cons_of_mem _ hd)
  have hfit : Fit s := fun {y c} hc i hi => by
    obtain ⟨ha, rfl⟩ := Array.getElem?_eq_some_iff.mp hc
    have q := List.all_eq_true.mp ((Array.all_eq_true_iff_forall_mem.mp hF) _ (Array.getElem_mem ha)) i (List.mem_range.mpr hi)
    simpa [Array.getElem?_eq_getElem hi] using q
  obtain ⟨hsets, hown0⟩ := atoms_of _ (rest_1_c_eq ▸ (show rest_1_c.before _ s = true from hrest))
  obtain ⟨i0, ei0⟩ := is_v g1
  obtain rfl : w0 = (.int i0) := Option.some.inj ei0
  obtain ⟨i1, ei1⟩ := is_v g2
  obtain rfl : w1 = (.int i1) := Option.some.inj ei1
  obtain ⟨i2, ei2⟩ := is_v g3
  obtain rfl : w2 = (.int i2) := Option.some.inj ei2
  obtain ⟨i3, ei3⟩ := is_v g4
  obtain rfl : w3 = (.int i3) := Option.some.inj ei3
  obtain ⟨i4, ei4⟩ := is_v g5
  obtain rfl : w4 = (.int i4) := Option.some.inj ei4
  obtain ⟨o_COMPACT_STRINGS, e_o_COMPACT_STRINGS⟩ := is_v (Cond.before_iff.mp (hsets _ (List.mem_of_getElem? (i := 1) rfl)))
  have S_o_COMPACT_STRINGS := Sta.start e_o_COMPACT_STRINGS (Or.inl (hsets _ (List.mem_of_getElem? (i := 0) rfl)))
  have nz_o_COMPACT_STRINGS : ¬ (o_COMPACT_STRINGS = (0 : Int32)) := gotF (Cond.eq_ints e_o_COMPACT_STRINGS (Term.int_eval 0)) (not_v (Cond.before_iff.mp (hsets _ (List.mem_of_getElem? (i := 2) rfl))))
  obtain ⟨o_SIOOBE_FORMATTER, e_o_SIOOBE_FORMATTER, r_o_SIOOBE_FORMATTER⟩ := isR_v (Cond.before_iff.mp (hsets _ (List.mem_of_getElem? (i := 8) rfl)))
  have S_o_SIOOBE_FORMATTER := Sta.start e_o_SIOOBE_FORMATTER (Or.inl (hsets _ (List.mem_of_getElem? (i := 7) rfl)))
  have S_o__assertionsDisabled := Sta.start (own_eqI (Cond.before_iff.mp (hsets _ (List.mem_of_getElem? (i := 12) rfl)))) (Or.inl (hsets _ (List.mem_of_getElem? (i := 11) rfl)))
  have S_o_HI_BYTE_SHIFT := Sta.start (own_eqI (Cond.before_iff.mp (hsets _ (List.mem_of_getElem? (i := 15) rfl)))) (Or.inl (hsets _ (List.mem_of_getElem? (i := 14) rfl)))
  have S_o_LO_BYTE_SHIFT := Sta.start (own_eqI (Cond.before_iff.mp (hsets _ (List.mem_of_getElem? (i := 18) rfl)))) (Or.inl (hsets _ (List.mem_of_getElem? (i := 17) rfl)))
  have hcw : Jvm.Lit.compactW.before #[(.int i0), (.int i1), (.int i2), (.int i3), (.int i4)] s = true := hsets _ (List.mem_of_getElem? (i := 2) rfl)
  have hCH : CHv s own_EL s.vm s.heap := CHv.start (own_EW s _ hw) hcalls.1 hcw (hw _ (List.mem_of_getElem? (i := 21) rfl)) (hw _ (List.mem_of_getElem? (i := 3) rfl))
  obtain ⟨n, o, h1, h2, h3, _, L, rfl, ⟨rfl, N⟩, -, hq⟩ := own_law l s _ hw tables_1 i0 i1 i2 i3 i4 o_COMPACT_STRINGS o_SIOOBE_FORMATTER s.vm s.heap s.heap.size (Nat.le_refl _) (Old.start s) S_o_COMPACT_STRINGS S_o_SIOOBE_FORMATTER S_o__assertionsDisabled S_o_HI_BYTE_SHIFT S_o_LO_BYTE_SHIFT nz_o_COMPACT_STRINGS r_o_SIOOBE_FORMATTER p e ha hc hk s m _ below hf ((Spec.applies_iff_loose hf).mp happ).1 ⟨rfl, State.Warmed39.refl s, rfl, CHr.refl hCH⟩ trivial
  refine ⟨n, _, h1, h2, h3, hpost _ _ _ _ _ _ ⟨Cond.after_iff.mpr rfl, Cond.after_iff.mpr (eq_i res_at (Term.int_eval (1)) rfl), trivial⟩ ⟨hq.1, hq.2.1, hq.2.2.1, (hq.2.2.2.sift fun y hy => Or.inr (N y hy)).mono (by decide) (by decide)⟩⟩
theorem main_1_1 : Claimed_1_1 := comes_1 fun _ _ _ _ _ _ h hF => ⟨h.1, hF⟩
theorem main_1_2 : Claimed_1_2 := comes_1 fun _ _ _ _ _ _ h hF => ⟨h.2.1, hF⟩
end Jvm.Pilot.@@N@@
namespace Jvm.Pilot.@@N@@
open Jvm Jvm.ClassFile Sem Op Lib Jvm.Free Jvm.Stand Jvm.Pilot.@@N@@.Jvm.D
/-! MADE BY PROGRAM (witnessworld.py) out of the Statement's table words and the real class files: 18 classes; the members and pool entries that the words name. The judged class is class 1, her method 3. -/
namespace start1
open Jvm.ClassFile
def u (s : String) : CpInfo := .utf8 (stringToUtf16 s)
/-- a pool by its gaps: so many unusable entries, then the entry; so many at the end -/
def gap : Nat → List CpInfo → List CpInfo
  | 0, r => r
  | n + 1, r => .unusable :: gap n r
def poolList (es : List (Nat × CpInfo)) (last : Nat) : List CpInfo := es.foldr (fun e r => gap e.1 (e.2 :: r)) (gap last [])
def pool (es : List (Nat × CpInfo)) (last : Nat) : Array CpInfo := ⟨poolList es last⟩
def fileOf (pool : Array CpInfo) (this : Nat) (attrs : Array Attribute := #[]) (ms : Array MethodInfo := #[]) (fl : Nat := 33) (sup : Nat := 0) (ifs : Array Nat := #[]) (fds : Array FieldInfo := #[]) : ClassFile where
  minorVersion := 0
  majorVersion := 65
  constantPool := pool
  accessFlags := fl
  thisClass := this
  superClass := sup
  interfaces := ifs
  fields := fds
  methods := ms
  attributes := attrs
def plain (name : String) (sup : Option ClassId) : Class where
  name := name
  kind := .ordinary
  loader := none
  accessFlags := 33
  super := sup
  interfaces := #[]
  cf := none
  fields := #[]
  methods := #[]
  instanceTypes := #[]
  staticTypes := #[]
  resolved := #[]
  callSites := []
  init := .initialized
  statics := none
  mirror := none

def pool0 : Array CpInfo := pool [(5, u "<init>"), (0, u "()V"), (1, .class_ 10), (1, u "java/lang/Object")] 113

def k0c0 : Code := { maxStack := 0, maxLocals := 1, code := object_method_1_code, exceptionTable := #[], attributes := #[] }
def k0m0 : Method := { name := "<init>", desc := "()V", sig := { parameters := [], returnType := none }, accessFlags := 1, code := some k0c0 }
/-- java/lang/Object -/
def k0 : Class := { plain "java/lang/Object" none with
  accessFlags := 33
  interfaces := #[]
  cf := some (fileOf pool0 8 #[] #[{ accessFlags := 1, nameIndex := 5, descriptorIndex := 6, attributes := #[] }] 33 0 #[] #[])
  fields := #[]
  methods := #[k0m0]
  instanceTypes := #[]
  staticTypes := #[]
  resolved := Array.replicate 124 none
  statics := none }

def pool1 : Array CpInfo := pool [(2, .class_ 4), (1, u "java/lang/Object"), (0, u "<init>"), (0, u "()V"), (0, .integer 2147483647), (0, .integer 65535), (0, .class_ 10), (0, u "java/lang/String"), (0, .methodref 12 13), (0, .class_ 14), (0, .nameAndType 15 16), (0, u "com/example/mortise/mortise/http/HeadersIsValuePinLaw"), (0, u "chars"), (0, u "(ICCCC)[C"), (0, .methodref 9 18), (0, .nameAndType 5 19), (0, u "([C)V"), (0, .methodref 12 21), (0, .nameAndType 22 23), (0, u "fieldChar"), (0, u "(C)Z"), (0, .methodref 25 26), (0, .class_ 27), (0, .nameAndType 28 29), (0, u "com/example/mortise/mortise/http/Headers"), (0, u "isValue"), (0, u "(Ljava/lang/String;)Z"), (3, u "law"), (0, u "(IIIII)Z")] 2

def k1m0 : Method := { name := "<init>", desc := "()V", sig := { parameters := [], returnType := none }, accessFlags := 1, code := none }
def k1c1 : Code := { maxStack := 2, maxLocals := 1, code := method_2_code, exceptionTable := #[], attributes := #[] }
def k1m1 : Method := { name := "fieldChar", desc := "(C)Z", sig := { parameters := [.char], returnType := some .boolean }, accessFlags := 10, code := some k1c1 }
def k1c2 : Code := { maxStack := 4, maxLocals := 5, code := method_3_code, exceptionTable := #[], attributes := #[] }
def k1m2 : Method := { name := "chars", desc := "(ICCCC)[C", sig := { parameters := [.int, .char, .char, .char, .char], returnType := some (.array .char) }, accessFlags := 10, code := some k1c2 }
def k1c3 : Code := { maxStack := 7, maxLocals := 12, code := code, exceptionTable := #[], attributes := #[] }
def k1m3 : Method := { name := "law", desc := "(IIIII)Z", sig := { parameters := [.int, .int, .int, .int, .int], returnType := some .boolean }, accessFlags := 9, code := some k1c3 }
/-- com/example/mortise/mortise/http/HeadersIsValuePinLaw -/
def k1 : Class := { plain "com/example/mortise/mortise/http/HeadersIsValuePinLaw" (some 0) with
  accessFlags := 49
  interfaces := #[]
  cf := some (fileOf pool1 12 #[] #[{ accessFlags := 1, nameIndex := 5, descriptorIndex := 6, attributes := #[] }, { accessFlags := 10, nameIndex := 22, descriptorIndex := 23, attributes := #[] }, { accessFlags := 10, nameIndex := 15, descriptorIndex := 16, attributes := #[] }, { accessFlags := 9, nameIndex := 33, descriptorIndex := 34, attributes := #[] }] 49 2 #[] #[])
  fields := #[]
  methods := #[k1m0, k1m1, k1m2, k1m3]
  instanceTypes := #[]
  staticTypes := #[]
  resolved := Array.replicate 37 none
  statics := none }

def pool2 : Array CpInfo := pool [(1, .class_ 2), (0, u "java/io/Serializable"), (0, .class_ 4), (0, u "java/lang/Object")] 2

/-- java/io/Serializable -/
def k2 : Class := { plain "java/io/Serializable" (some 0) with
  accessFlags := 1537
  interfaces := #[]
  cf := some (fileOf pool2 1 #[] #[] 1537 3 #[] #[])
  fields := #[]
  methods := #[]
  instanceTypes := #[]
  staticTypes := #[]
  resolved := Array.replicate 7 none
  statics := none }

def pool3 : Array CpInfo := pool [(1, .class_ 2), (0, u "java/lang/Comparable"), (0, .class_ 4), (0, u "java/lang/Object")] 7

/-- java/lang/Comparable -/
def k3 : Class := { plain "java/lang/Comparable" (some 0) with
  accessFlags := 1537
  interfaces := #[]
  cf := some (fileOf pool3 1 #[] #[] 1537 3 #[] #[])
  fields := #[]
  methods := #[]
  instanceTypes := #[]
  staticTypes := #[]
  resolved := Array.replicate 12 none
  statics := none }

def pool4 : Array CpInfo := pool [(2, .class_ 4), (1, u "java/lang/CharSequence"), (42, .class_ 48), (0, u "java/lang/CharSequence$1CodePointIterator"), (10, .class_ 60), (0, u "java/lang/CharSequence$1CharIterator"), (5, .class_ 67), (0, u "java/lang/Object")] 63

/-- java/lang/CharSequence -/
def k4 : Class := { plain "java/lang/CharSequence" (some 0) with
  accessFlags := 1537
  interfaces := #[]
  cf := some (fileOf pool4 2 #[.nestMembers #[47, 59]] #[] 1537 66 #[] #[])
  fields := #[]
  methods := #[]
  instanceTypes := #[]
  staticTypes := #[]
  resolved := Array.replicate 131 none
  statics := none }

def pool5 : Array CpInfo := pool [(1, .class_ 2), (0, u "java/lang/constant/Constable"), (0, .class_ 4), (0, u "java/lang/Object")] 6

/-- java/lang/constant/Constable -/
def k5 : Class := { plain "java/lang/constant/Constable" (some 0) with
  accessFlags := 1537
  interfaces := #[]
  cf := some (fileOf pool5 1 #[] #[] 1537 3 #[] #[])
  fields := #[]
  methods := #[]
  instanceTypes := #[]
  staticTypes := #[]
  resolved := Array.replicate 11 none
  statics := none }

def pool6 : Array CpInfo := pool [(1, .class_ 2), (0, u "java/lang/constant/ConstantDesc"), (0, .class_ 4), (0, u "java/lang/Object")] 32

/-- java/lang/constant/ConstantDesc -/
def k6 : Class := { plain "java/lang/constant/ConstantDesc" (some 0) with
  accessFlags := 1537
  interfaces := #[]
  cf := some (fileOf pool6 1 #[] #[] 1537 3 #[] #[])
  fields := #[]
  methods := #[]
  instanceTypes := #[]
  staticTypes := #[]
  resolved := Array.replicate 37 none
  statics := none }

def pool7 : Array CpInfo := pool [(1, .methodref 2 3), (0, .class_ 4), (0, .nameAndType 5 6), (0, u "java/lang/Object"), (0, u "<init>"), (0, u "()V"), (0, .string 8), (0, u ""), (0, .fieldref 10 11), (0, .class_ 12), (0, .nameAndType 13 14), (0, u "java/lang/String"), (0, u "value"), (0, u "[B"), (0, .fieldref 10 16), (0, .nameAndType 17 18), (0, u "coder"), (0, u "B"), (2, u "hash"), (0, u "I"), (2, u "hashIsZero"), (0, u "Z"), (0, .methodref 10 28), (0, .nameAndType 5 29), (0, u "([CIILjava/lang/Void;)V"), (8, .fieldref 10 39), (0, .nameAndType 40 26), (0, u "COMPACT_STRINGS"), (1, .class_ 44), (1, u "java/lang/StringUTF16"), (0, u "compress"), (1, .methodref 42 48), (0, .nameAndType 49 50), (0, u "coderFromArrayLen"), (0, u "([BI)B"), (56, .class_ 109), (1, u "java/lang/StringLatin1"), (32, u "()Z"), (34, .methodref 42 178), (0, .nameAndType 45 179), (0, u "([CII)[B"), (154, u "()I"), (0, .methodref 10 336), (0, .nameAndType 17 337), (0, u "()B"), (25, u "([BI)C"), (27, u "(II)V"), (35, u "(I)C"), (64, .methodref 10 493), (0, .nameAndType 494 142), (0, u "isLatin1"), (0, .methodref 107 496), (0, .nameAndType 497 363), (0, u "charAt"), (0, .methodref 42 496), (2, u "checkIndex"), (5, u "length"), (67, .class_ 576), (0, u "java/lang/CharSequence"), (22, u "CASE_INSENSITIVE_ORDER"), (0, u "Ljava/util/Comparator;"), (409, u "([C)V"), (42, .fieldref 1054 1055), (0, .class_ 1056), (0, .nameAndType 1057 1058), (0, u "jdk/internal/util/Preconditions"), (0, u "SIOOBE_FORMATTER"), (0, u "Ljava/util/function/BiFunction;"), (0, .methodref 1054 1060), (0, .nameAndType 501 1061), (0, u "(IILjava/util/function/BiFunction;)I"), (39, u "serialPersistentFields"), (0, u "[Ljava/io/ObjectStreamField;"), (0, .class_ 1104), (0, u "java/lang/String$CaseInsensitiveComparator"), (1, .class_ 1107), (0, u "java/io/Serializable"), (0, .class_ 1109), (0, u "java/lang/Comparable"), (0, .class_ 1111), (0, u "java/lang/constant/Constable"), (0, .class_ 1113), (0, u "java/lang/constant/ConstantDesc"), (2, u "serialVersionUID"), (0, u "J"), (3, u "REPL"), (0, u "C"), (2, u "LATIN1"), (1, u "UTF16")] 323

def k7m0 : Method := { name := "<init>", desc := "()V", sig := { parameters := [], returnType := none }, accessFlags := 1, code := none }
def k7c1 : Code := { maxStack := 5, maxLocals := 2, code := jdk_42_method_3_code, exceptionTable := #[], attributes := #[] }
def k7m1 : Method := { name := "<init>", desc := "([C)V", sig := { parameters := [(.array .char)], returnType := none }, accessFlags := 1, code := some k7c1 }
def k7c2 : Code := { maxStack := 2, maxLocals := 1, code := jdk_42_method_54_code, exceptionTable := #[], attributes := #[] }
def k7m2 : Method := { name := "length", desc := "()I", sig := { parameters := [], returnType := some .int }, accessFlags := 1, code := some k7c2 }
def k7c3 : Code := { maxStack := 2, maxLocals := 2, code := jdk_42_method_56_code, exceptionTable := #[], attributes := #[] }
def k7m3 : Method := { name := "charAt", desc := "(I)C", sig := { parameters := [.int], returnType := some .char }, accessFlags := 1, code := some k7c3 }
def k7c4 : Code := { maxStack := 4, maxLocals := 6, code := jdk_42_method_149_code, exceptionTable := #[], attributes := #[] }
def k7m4 : Method := { name := "<init>", desc := "([CIILjava/lang/Void;)V", sig := { parameters := [(.array .char), .int, .int, (.object "java/lang/Void")], returnType := none }, accessFlags := 2, code := some k7c4 }
def k7c5 : Code := { maxStack := 1, maxLocals := 1, code := jdk_42_method_152_code, exceptionTable := #[], attributes := #[] }
def k7m5 : Method := { name := "coder", desc := "()B", sig := { parameters := [], returnType := some .byte }, accessFlags := 0, code := some k7c5 }
def k7c6 : Code := { maxStack := 1, maxLocals := 1, code := jdk_42_method_154_code, exceptionTable := #[], attributes := #[] }
def k7m6 : Method := { name := "isLatin1", desc := "()Z", sig := { parameters := [], returnType := some .boolean }, accessFlags := 0, code := some k7c6 }
def k7c7 : Code := { maxStack := 3, maxLocals := 2, code := jdk_42_method_155_code, exceptionTable := #[], attributes := #[] }
def k7m7 : Method := { name := "checkIndex", desc := "(II)V", sig := { parameters := [.int, .int], returnType := none }, accessFlags := 8, code := some k7c7 }
/-- java/lang/String -/
def k7 : Class := { plain "java/lang/String" (some 0) with
  accessFlags := 49
  interfaces := #[2, 3, 4, 5, 6]
  cf := some (fileOf pool7 10 #[.nestMembers #[1103]] #[{ accessFlags := 1, nameIndex := 5, descriptorIndex := 6, attributes := #[] }, { accessFlags := 1, nameIndex := 5, descriptorIndex := 1010, attributes := #[] }, { accessFlags := 1, nameIndex := 507, descriptorIndex := 334, attributes := #[] }, { accessFlags := 1, nameIndex := 497, descriptorIndex := 427, attributes := #[] }, { accessFlags := 2, nameIndex := 5, descriptorIndex := 29, attributes := #[] }, { accessFlags := 0, nameIndex := 17, descriptorIndex := 337, attributes := #[] }, { accessFlags := 0, nameIndex := 494, descriptorIndex := 142, attributes := #[] }, { accessFlags := 8, nameIndex := 501, descriptorIndex := 391, attributes := #[] }] 49 2 #[1106, 1108, 575, 1110, 1112] #[{ accessFlags := 18, nameIndex := 13, descriptorIndex := 14, attributes := #[] }, { accessFlags := 18, nameIndex := 17, descriptorIndex := 18, attributes := #[] }, { accessFlags := 2, nameIndex := 21, descriptorIndex := 22, attributes := #[] }, { accessFlags := 2, nameIndex := 25, descriptorIndex := 26, attributes := #[] }, { accessFlags := 26, nameIndex := 1116, descriptorIndex := 1117, attributes := #[] }, { accessFlags := 24, nameIndex := 40, descriptorIndex := 26, attributes := #[] }, { accessFlags := 26, nameIndex := 1101, descriptorIndex := 1102, attributes := #[] }, { accessFlags := 26, nameIndex := 1121, descriptorIndex := 1122, attributes := #[] }, { accessFlags := 25, nameIndex := 599, descriptorIndex := 600, attributes := #[] }, { accessFlags := 24, nameIndex := 1125, descriptorIndex := 18, attributes := #[] }, { accessFlags := 24, nameIndex := 1127, descriptorIndex := 18, attributes := #[] }])
  fields := #[{ name := "value", type := (.array .byte), accessFlags := 18, slot := 0, constantValue := 0 }, { name := "coder", type := .byte, accessFlags := 18, slot := 1, constantValue := 0 }, { name := "hash", type := .int, accessFlags := 2, slot := 2, constantValue := 0 }, { name := "hashIsZero", type := .boolean, accessFlags := 2, slot := 3, constantValue := 0 }, { name := "serialVersionUID", type := .long, accessFlags := 26, slot := 0, constantValue := 0 }, { name := "COMPACT_STRINGS", type := .boolean, accessFlags := 24, slot := 1, constantValue := 0 }, { name := "serialPersistentFields", type := (.array (.object "java/io/ObjectStreamField")), accessFlags := 26, slot := 2, constantValue := 0 }, { name := "REPL", type := .char, accessFlags := 26, slot := 3, constantValue := 0 }, { name := "CASE_INSENSITIVE_ORDER", type := (.object "java/util/Comparator"), accessFlags := 25, slot := 4, constantValue := 0 }, { name := "LATIN1", type := .byte, accessFlags := 24, slot := 5, constantValue := 0 }, { name := "UTF16", type := .byte, accessFlags := 24, slot := 6, constantValue := 0 }]
  methods := #[k7m0, k7m1, k7m2, k7m3, k7m4, k7m5, k7m6, k7m7]
  instanceTypes := #[(.array .byte), .byte, .int, .boolean]
  staticTypes := #[.long, .boolean, (.array (.object "java/io/ObjectStreamField")), .char, (.object "java/util/Comparator"), .byte, .byte]
  resolved := Array.replicate 1451 none
  statics := some 0 }

def pool8 : Array CpInfo := pool [(2, .class_ 4), (1, u "java/lang/Object"), (0, u "<init>"), (0, u "()V"), (6, .class_ 15), (1, u "com/example/mortise/mortise/http/Headers"), (0, u "names"), (0, u "Ljava/util/List;"), (2, u "values"), (10, .class_ 32), (0, u "java/lang/String"), (15, u "()I"), (3, u "(Ljava/lang/String;)Z"), (4, u "HTTP_DATE"), (0, u "Ljava/time/format/DateTimeFormatter;"), (20, .methodref 31 80), (0, .nameAndType 81 48), (0, u "length"), (0, .methodref 31 83), (0, .nameAndType 84 85), (0, u "charAt"), (0, u "(I)C"), (2, u "TOKEN"), (0, u "[Z"), (13, u "isValue")] 64

def k8m0 : Method := { name := "<init>", desc := "()V", sig := { parameters := [], returnType := none }, accessFlags := 1, code := none }
def k8c1 : Code := { maxStack := 2, maxLocals := 4, code := prog_12_method_12_code, exceptionTable := #[], attributes := #[] }
def k8m1 : Method := { name := "isValue", desc := "(Ljava/lang/String;)Z", sig := { parameters := [(.object "java/lang/String")], returnType := some .boolean }, accessFlags := 8, code := some k8c1 }
/-- com/example/mortise/mortise/http/Headers -/
def k8 : Class := { plain "com/example/mortise/mortise/http/Headers" (some 0) with
  accessFlags := 49
  interfaces := #[]
  cf := some (fileOf pool8 13 #[] #[{ accessFlags := 1, nameIndex := 5, descriptorIndex := 6, attributes := #[] }, { accessFlags := 8, nameIndex := 103, descriptorIndex := 52, attributes := #[] }] 49 2 #[] #[{ accessFlags := 26, nameIndex := 57, descriptorIndex := 58, attributes := #[] }, { accessFlags := 26, nameIndex := 88, descriptorIndex := 89, attributes := #[] }, { accessFlags := 18, nameIndex := 16, descriptorIndex := 17, attributes := #[] }, { accessFlags := 18, nameIndex := 20, descriptorIndex := 17, attributes := #[] }])
  fields := #[{ name := "HTTP_DATE", type := (.object "java/time/format/DateTimeFormatter"), accessFlags := 26, slot := 0, constantValue := 0 }, { name := "TOKEN", type := (.array .boolean), accessFlags := 26, slot := 1, constantValue := 0 }, { name := "names", type := (.object "java/util/List"), accessFlags := 18, slot := 0, constantValue := 0 }, { name := "values", type := (.object "java/util/List"), accessFlags := 18, slot := 1, constantValue := 0 }]
  methods := #[k8m0, k8m1]
  instanceTypes := #[(.object "java/util/List"), (.object "java/util/List")]
  staticTypes := #[(.object "java/time/format/DateTimeFormatter"), (.array .boolean)]
  resolved := Array.replicate 168 none
  statics := none }

def pool9 : Array CpInfo := pool [(3, .class_ 4), (0, u "java/lang/String"), (1, .class_ 8), (1, u "java/lang/Object"), (0, u "<init>"), (0, u "()V"), (0, .methodref 12 13), (0, .class_ 14), (0, .nameAndType 15 16), (0, u "java/lang/StringUTF16"), (0, u "newBytesLength"), (0, u "(I)I"), (3, .integer 1073741823), (23, .fieldref 12 45), (0, .nameAndType 46 47), (0, u "$assertionsDisabled"), (0, u "Z"), (0, .methodref 12 49), (0, .nameAndType 50 51), (0, u "length"), (0, u "([B)I"), (7, .fieldref 12 60), (0, .nameAndType 61 62), (0, u "HI_BYTE_SHIFT"), (0, u "I"), (0, .fieldref 12 64), (0, .nameAndType 65 62), (0, u "LO_BYTE_SHIFT"), (1, .methodref 12 68), (0, .nameAndType 69 70), (0, u "checkIndex"), (0, u "(I[B)V"), (0, .methodref 12 72), (0, .nameAndType 73 74), (0, u "getChar"), (0, u "([BI)C"), (32, .methodref 12 108), (0, .nameAndType 109 110), (0, u "newBytesFor"), (0, u "(I)[B"), (0, .methodref 12 112), (0, .nameAndType 113 114), (0, u "putChar"), (0, u "([BII)V"), (0, .methodref 12 116), (0, .nameAndType 117 118), (0, u "compress"), (0, u "([CI[BII)I"), (0, .methodref 12 120), (0, .nameAndType 121 122), (0, u "toBytes"), (0, u "([CII)[B"), (138, u "coderFromArrayLen"), (0, u "([BI)B"), (106, .class_ 371), (1, u "java/lang/StringUTF16$LinesSpliterator"), (20, u "charAt"), (21, .methodref 3 415), (0, .nameAndType 69 416), (0, u "(II)V"), (13, u "MAX_LENGTH"), (196, .class_ 628), (0, u "java/lang/StringUTF16$CodePointsSpliterator"), (0, .class_ 630), (0, u "java/lang/StringUTF16$CharsSpliterator")] 4

def k9m0 : Method := { name := "<init>", desc := "()V", sig := { parameters := [], returnType := none }, accessFlags := 0, code := none }
def k9c1 : Code := { maxStack := 1, maxLocals := 1, code := jdk_52_method_2_code, exceptionTable := #[], attributes := #[] }
def k9m1 : Method := { name := "newBytesFor", desc := "(I)[B", sig := { parameters := [.int], returnType := some (.array .byte) }, accessFlags := 9, code := some k9c1 }
def k9c2 : Code := { maxStack := 4, maxLocals := 1, code := jdk_52_method_3_code, exceptionTable := #[], attributes := #[] }
def k9m2 : Method := { name := "newBytesLength", desc := "(I)I", sig := { parameters := [.int], returnType := some .int }, accessFlags := 9, code := some k9c2 }
def k9c3 : Code := { maxStack := 4, maxLocals := 3, code := jdk_52_method_4_code, exceptionTable := #[], attributes := #[] }
def k9m3 : Method := { name := "putChar", desc := "([BII)V", sig := { parameters := [(.array .byte), .int, .int], returnType := none }, accessFlags := 8, code := some k9c3 }
def k9c4 : Code := { maxStack := 3, maxLocals := 2, code := jdk_52_method_5_code, exceptionTable := #[], attributes := #[] }
def k9m4 : Method := { name := "getChar", desc := "([BI)C", sig := { parameters := [(.array .byte), .int], returnType := some .char }, accessFlags := 8, code := some k9c4 }
def k9c5 : Code := { maxStack := 2, maxLocals := 1, code := jdk_52_method_6_code, exceptionTable := #[], attributes := #[] }
def k9m5 : Method := { name := "length", desc := "([B)I", sig := { parameters := [(.array .byte)], returnType := some .int }, accessFlags := 9, code := some k9c5 }
def k9c6 : Code := { maxStack := 4, maxLocals := 5, code := jdk_52_method_14_code, exceptionTable := #[], attributes := #[] }
def k9m6 : Method := { name := "toBytes", desc := "([CII)[B", sig := { parameters := [(.array .char), .int, .int], returnType := some (.array .byte) }, accessFlags := 9, code := some k9c6 }
def k9c7 : Code := { maxStack := 2, maxLocals := 2, code := jdk_52_method_15_code, exceptionTable := #[], attributes := #[] }
def k9m7 : Method := { name := "coderFromArrayLen", desc := "([BI)B", sig := { parameters := [(.array .byte), .int], returnType := some .byte }, accessFlags := 8, code := some k9c7 }
def k9c8 : Code := { maxStack := 5, maxLocals := 6, code := jdk_52_method_16_code, exceptionTable := #[], attributes := #[] }
def k9m8 : Method := { name := "compress", desc := "([CII)[B", sig := { parameters := [(.array .char), .int, .int], returnType := some (.array .byte) }, accessFlags := 9, code := some k9c8 }
def k9c9 : Code := { maxStack := 3, maxLocals := 7, code := jdk_52_method_21_code, exceptionTable := #[], attributes := #[] }
def k9m9 : Method := { name := "compress", desc := "([CI[BII)I", sig := { parameters := [(.array .char), .int, (.array .byte), .int, .int], returnType := some .int }, accessFlags := 9, code := some k9c9 }
def k9c10 : Code := { maxStack := 2, maxLocals := 2, code := jdk_52_method_83_code, exceptionTable := #[], attributes := #[] }
def k9m10 : Method := { name := "charAt", desc := "([BI)C", sig := { parameters := [(.array .byte), .int], returnType := some .char }, accessFlags := 9, code := some k9c10 }
def k9c11 : Code := { maxStack := 2, maxLocals := 2, code := jdk_52_method_91_code, exceptionTable := #[], attributes := #[] }
def k9m11 : Method := { name := "checkIndex", desc := "(I[B)V", sig := { parameters := [.int, (.array .byte)], returnType := none }, accessFlags := 9, code := some k9c11 }
/-- java/lang/StringUTF16 -/
def k9 : Class := { plain "java/lang/StringUTF16" (some 0) with
  accessFlags := 48
  interfaces := #[]
  cf := some (fileOf pool9 12 #[.nestMembers #[627, 629, 369]] #[{ accessFlags := 0, nameIndex := 9, descriptorIndex := 10, attributes := #[] }, { accessFlags := 9, nameIndex := 109, descriptorIndex := 110, attributes := #[] }, { accessFlags := 9, nameIndex := 15, descriptorIndex := 16, attributes := #[] }, { accessFlags := 8, nameIndex := 113, descriptorIndex := 114, attributes := #[] }, { accessFlags := 8, nameIndex := 73, descriptorIndex := 74, attributes := #[] }, { accessFlags := 9, nameIndex := 50, descriptorIndex := 51, attributes := #[] }, { accessFlags := 9, nameIndex := 121, descriptorIndex := 122, attributes := #[] }, { accessFlags := 8, nameIndex := 261, descriptorIndex := 262, attributes := #[] }, { accessFlags := 9, nameIndex := 117, descriptorIndex := 122, attributes := #[] }, { accessFlags := 9, nameIndex := 117, descriptorIndex := 118, attributes := #[] }, { accessFlags := 9, nameIndex := 392, descriptorIndex := 74, attributes := #[] }, { accessFlags := 9, nameIndex := 69, descriptorIndex := 70, attributes := #[] }] 48 6 #[] #[{ accessFlags := 26, nameIndex := 61, descriptorIndex := 62, attributes := #[] }, { accessFlags := 26, nameIndex := 65, descriptorIndex := 62, attributes := #[] }, { accessFlags := 24, nameIndex := 430, descriptorIndex := 62, attributes := #[] }, { accessFlags := 4120, nameIndex := 46, descriptorIndex := 47, attributes := #[] }])
  fields := #[{ name := "HI_BYTE_SHIFT", type := .int, accessFlags := 26, slot := 0, constantValue := 0 }, { name := "LO_BYTE_SHIFT", type := .int, accessFlags := 26, slot := 1, constantValue := 0 }, { name := "MAX_LENGTH", type := .int, accessFlags := 24, slot := 2, constantValue := 0 }, { name := "$assertionsDisabled", type := .boolean, accessFlags := 4120, slot := 3, constantValue := 0 }]
  methods := #[k9m0, k9m1, k9m2, k9m3, k9m4, k9m5, k9m6, k9m7, k9m8, k9m9, k9m10, k9m11]
  instanceTypes := #[]
  staticTypes := #[.int, .int, .int, .boolean]
  resolved := Array.replicate 635 none
  statics := some 1 }

def pool10 : Array CpInfo := pool [(1, .class_ 2), (0, u "java/lang/String"), (1, .class_ 6), (1, u "java/lang/Object"), (0, u "<init>"), (0, u "()V"), (0, .methodref 1 10), (0, .nameAndType 11 12), (0, u "checkIndex"), (0, u "(II)V"), (1, .class_ 16), (1, u "java/lang/StringLatin1"), (36, u "([BI)C"), (67, u "$assertionsDisabled"), (0, u "Z"), (98, .class_ 223), (1, u "java/lang/StringLatin1$LinesSpliterator"), (28, u "charAt"), (137, .class_ 391), (0, u "java/lang/StringLatin1$CharsSpliterator")] 3

def k10m0 : Method := { name := "<init>", desc := "()V", sig := { parameters := [], returnType := none }, accessFlags := 0, code := none }
def k10c1 : Code := { maxStack := 2, maxLocals := 2, code := jdk_43_method_2_code, exceptionTable := #[], attributes := #[] }
def k10m1 : Method := { name := "charAt", desc := "([BI)C", sig := { parameters := [(.array .byte), .int], returnType := some .char }, accessFlags := 9, code := some k10c1 }
/-- java/lang/StringLatin1 -/
def k10 : Class := { plain "java/lang/StringLatin1" (some 0) with
  accessFlags := 48
  interfaces := #[]
  cf := some (fileOf pool10 14 #[.nestMembers #[390, 221]] #[{ accessFlags := 0, nameIndex := 7, descriptorIndex := 8, attributes := #[] }, { accessFlags := 9, nameIndex := 252, descriptorIndex := 53, attributes := #[] }] 48 4 #[] #[{ accessFlags := 4120, nameIndex := 121, descriptorIndex := 122, attributes := #[] }])
  fields := #[{ name := "$assertionsDisabled", type := .boolean, accessFlags := 4120, slot := 0, constantValue := 0 }]
  methods := #[k10m0, k10m1]
  instanceTypes := #[]
  staticTypes := #[.boolean]
  resolved := Array.replicate 395 none
  statics := none }

def pool11 : Array CpInfo := pool [(2, .class_ 4), (1, u "java/lang/Object"), (0, u "<init>"), (0, u "()V"), (17, .class_ 26), (1, u "jdk/internal/util/Preconditions"), (6, u "checkIndex"), (21, .class_ 56), (0, u "jdk/internal/util/Preconditions$4"), (57, .class_ 115), (0, u "jdk/internal/util/Preconditions$1"), (7, u "SIOOBE_FORMATTER"), (0, u "Ljava/util/function/BiFunction;"), (0, .class_ 126), (0, u "jdk/internal/util/Preconditions$2"), (3, u "AIOOBE_FORMATTER"), (0, .class_ 132), (0, u "jdk/internal/util/Preconditions$3"), (3, u "IOOBE_FORMATTER"), (41, u "(IILjava/util/function/BiFunction;)I")] 15

def k11m0 : Method := { name := "<init>", desc := "()V", sig := { parameters := [], returnType := none }, accessFlags := 1, code := none }
def k11c1 : Code := { maxStack := 3, maxLocals := 3, code := jdk_41_method_11_code, exceptionTable := #[], attributes := #[] }
def k11m1 : Method := { name := "checkIndex", desc := "(IILjava/util/function/BiFunction;)I", sig := { parameters := [.int, .int, (.object "java/util/function/BiFunction")], returnType := some .int }, accessFlags := 9, code := some k11c1 }
/-- jdk/internal/util/Preconditions -/
def k11 : Class := { plain "jdk/internal/util/Preconditions" (some 0) with
  accessFlags := 33
  interfaces := #[]
  cf := some (fileOf pool11 24 #[.nestMembers #[55, 131, 125, 114]] #[{ accessFlags := 1, nameIndex := 5, descriptorIndex := 6, attributes := #[] }, { accessFlags := 9, nameIndex := 33, descriptorIndex := 178, attributes := #[] }] 33 2 #[] #[{ accessFlags := 25, nameIndex := 123, descriptorIndex := 124, attributes := #[] }, { accessFlags := 25, nameIndex := 130, descriptorIndex := 124, attributes := #[] }, { accessFlags := 25, nameIndex := 136, descriptorIndex := 124, attributes := #[] }])
  fields := #[{ name := "SIOOBE_FORMATTER", type := (.object "java/util/function/BiFunction"), accessFlags := 25, slot := 0, constantValue := 0 }, { name := "AIOOBE_FORMATTER", type := (.object "java/util/function/BiFunction"), accessFlags := 25, slot := 1, constantValue := 0 }, { name := "IOOBE_FORMATTER", type := (.object "java/util/function/BiFunction"), accessFlags := 25, slot := 2, constantValue := 0 }]
  methods := #[k11m0, k11m1]
  instanceTypes := #[]
  staticTypes := #[(.object "java/util/function/BiFunction"), (.object "java/util/function/BiFunction"), (.object "java/util/function/BiFunction")]
  resolved := Array.replicate 194 none
  statics := some 2 }

def pool12 : Array CpInfo := pool [(9, u "<init>"), (6, .class_ 18), (1, u "java/lang/Object"), (0, u "()V"), (1, .class_ 23), (1, u "jdk/internal/util/ArraysSupport"), (0, u "LOG2_ARRAY_LONG_INDEX_SCALE"), (0, u "I"), (2, u "U"), (0, u "Ljdk/internal/misc/Unsafe;"), (8, u "BIG_ENDIAN"), (0, u "Z"), (8, u "LOG2_BYTE_BIT_SIZE"), (4, u "LOG2_ARRAY_INT_INDEX_SCALE"), (54, u "JLA"), (0, u "Ljdk/internal/access/JavaLangAccess;"), (11, u "LOG2_ARRAY_BOOLEAN_INDEX_SCALE"), (9, u "LOG2_ARRAY_BYTE_INDEX_SCALE"), (5, u "LOG2_ARRAY_CHAR_INDEX_SCALE"), (5, u "LOG2_ARRAY_SHORT_INDEX_SCALE"), (18, u "LOG2_ARRAY_FLOAT_INDEX_SCALE"), (24, u "LOG2_ARRAY_DOUBLE_INDEX_SCALE"), (89, u "T_BOOLEAN"), (2, u "T_CHAR"), (1, u "T_FLOAT"), (1, u "T_DOUBLE"), (1, u "T_BYTE"), (1, u "T_SHORT"), (1, u "T_INT"), (1, u "T_LONG"), (1, u "SOFT_MAX_ARRAY_LENGTH")] 83

def k12m0 : Method := { name := "<init>", desc := "()V", sig := { parameters := [], returnType := none }, accessFlags := 2, code := none }
/-- jdk/internal/util/ArraysSupport -/
def k12 : Class := { plain "jdk/internal/util/ArraysSupport" (some 0) with
  accessFlags := 33
  interfaces := #[]
  cf := some (fileOf pool12 21 #[] #[{ accessFlags := 2, nameIndex := 9, descriptorIndex := 19, attributes := #[] }] 33 16 #[] #[{ accessFlags := 24, nameIndex := 28, descriptorIndex := 29, attributes := #[] }, { accessFlags := 26, nameIndex := 38, descriptorIndex := 39, attributes := #[] }, { accessFlags := 25, nameIndex := 121, descriptorIndex := 25, attributes := #[] }, { accessFlags := 25, nameIndex := 131, descriptorIndex := 25, attributes := #[] }, { accessFlags := 25, nameIndex := 137, descriptorIndex := 25, attributes := #[] }, { accessFlags := 25, nameIndex := 143, descriptorIndex := 25, attributes := #[] }, { accessFlags := 25, nameIndex := 53, descriptorIndex := 25, attributes := #[] }, { accessFlags := 25, nameIndex := 24, descriptorIndex := 25, attributes := #[] }, { accessFlags := 25, nameIndex := 162, descriptorIndex := 25, attributes := #[] }, { accessFlags := 25, nameIndex := 187, descriptorIndex := 25, attributes := #[] }, { accessFlags := 26, nameIndex := 48, descriptorIndex := 25, attributes := #[] }, { accessFlags := 25, nameIndex := 277, descriptorIndex := 25, attributes := #[] }, { accessFlags := 25, nameIndex := 280, descriptorIndex := 25, attributes := #[] }, { accessFlags := 25, nameIndex := 282, descriptorIndex := 25, attributes := #[] }, { accessFlags := 25, nameIndex := 284, descriptorIndex := 25, attributes := #[] }, { accessFlags := 25, nameIndex := 286, descriptorIndex := 25, attributes := #[] }, { accessFlags := 25, nameIndex := 288, descriptorIndex := 25, attributes := #[] }, { accessFlags := 25, nameIndex := 290, descriptorIndex := 25, attributes := #[] }, { accessFlags := 25, nameIndex := 292, descriptorIndex := 25, attributes := #[] }, { accessFlags := 26, nameIndex := 108, descriptorIndex := 109, attributes := #[] }, { accessFlags := 25, nameIndex := 294, descriptorIndex := 25, attributes := #[] }])
  fields := #[{ name := "U", type := (.object "jdk/internal/misc/Unsafe"), accessFlags := 24, slot := 0, constantValue := 0 }, { name := "BIG_ENDIAN", type := .boolean, accessFlags := 26, slot := 1, constantValue := 0 }, { name := "LOG2_ARRAY_BOOLEAN_INDEX_SCALE", type := .int, accessFlags := 25, slot := 2, constantValue := 0 }, { name := "LOG2_ARRAY_BYTE_INDEX_SCALE", type := .int, accessFlags := 25, slot := 3, constantValue := 0 }, { name := "LOG2_ARRAY_CHAR_INDEX_SCALE", type := .int, accessFlags := 25, slot := 4, constantValue := 0 }, { name := "LOG2_ARRAY_SHORT_INDEX_SCALE", type := .int, accessFlags := 25, slot := 5, constantValue := 0 }, { name := "LOG2_ARRAY_INT_INDEX_SCALE", type := .int, accessFlags := 25, slot := 6, constantValue := 0 }, { name := "LOG2_ARRAY_LONG_INDEX_SCALE", type := .int, accessFlags := 25, slot := 7, constantValue := 0 }, { name := "LOG2_ARRAY_FLOAT_INDEX_SCALE", type := .int, accessFlags := 25, slot := 8, constantValue := 0 }, { name := "LOG2_ARRAY_DOUBLE_INDEX_SCALE", type := .int, accessFlags := 25, slot := 9, constantValue := 0 }, { name := "LOG2_BYTE_BIT_SIZE", type := .int, accessFlags := 26, slot := 10, constantValue := 0 }, { name := "T_BOOLEAN", type := .int, accessFlags := 25, slot := 11, constantValue := 0 }, { name := "T_CHAR", type := .int, accessFlags := 25, slot := 12, constantValue := 0 }, { name := "T_FLOAT", type := .int, accessFlags := 25, slot := 13, constantValue := 0 }, { name := "T_DOUBLE", type := .int, accessFlags := 25, slot := 14, constantValue := 0 }, { name := "T_BYTE", type := .int, accessFlags := 25, slot := 15, constantValue := 0 }, { name := "T_SHORT", type := .int, accessFlags := 25, slot := 16, constantValue := 0 }, { name := "T_INT", type := .int, accessFlags := 25, slot := 17, constantValue := 0 }, { name := "T_LONG", type := .int, accessFlags := 25, slot := 18, constantValue := 0 }, { name := "JLA", type := (.object "jdk/internal/access/JavaLangAccess"), accessFlags := 26, slot := 19, constantValue := 0 }, { name := "SOFT_MAX_ARRAY_LENGTH", type := .int, accessFlags := 25, slot := 20, constantValue := 0 }]
  methods := #[k12m0]
  instanceTypes := #[]
  staticTypes := #[(.object "jdk/internal/misc/Unsafe"), .boolean, .int, .int, .int, .int, .int, .int, .int, .int, .int, .int, .int, .int, .int, .int, .int, .int, .int, (.object "jdk/internal/access/JavaLangAccess"), .int]
  resolved := Array.replicate 378 none
  statics := none }

def pool13 : Array CpInfo := pool [(1, u "java/lang/Cloneable"), (0, .class_ 1), (0, u "java/lang/Object"), (0, .class_ 3)] 3

/-- java/lang/Cloneable -/
def k13 : Class := { plain "java/lang/Cloneable" (some 0) with
  accessFlags := 1537
  interfaces := #[]
  cf := some (fileOf pool13 2 #[] #[] 1537 4 #[] #[])
  fields := #[]
  methods := #[]
  instanceTypes := #[]
  staticTypes := #[]
  resolved := Array.replicate 8 none
  statics := none }

/-- the primitive byte -/
def k14 : Class := { plain "byte" none with kind := .primitive 'B', accessFlags := 0x411 }
/-- [B -/
def k15 : Class := { plain "[B" (some 0) with kind := .array 14 .byte, interfaces := #[13, 2], accessFlags := 1041 }

/-- the primitive char -/
def k16 : Class := { plain "char" none with kind := .primitive 'C', accessFlags := 0x411 }
/-- [C -/
def k17 : Class := { plain "[C" (some 0) with kind := .array 16 .char, interfaces := #[13, 2], accessFlags := 1041 }

def heap : Heap := #[{ cls := 7, slots := #[.long 0, .int 1, .null, .int 0, .null, .int 0, .int 0], vm := .statics 7 },
  { cls := 9, slots := #[.int 0, .int 8, .int 0, .int 1], vm := .statics 9 },
  { cls := 11, slots := #[.null, .null, .null], vm := .statics 11 }]
def classes : Array Class := #[k0, k1, k2, k3, k4, k5, k6, k7, k8, k9, k10, k11, k12, k13, k14, k15, k16, k17]
def interned : List (Array UInt16 × Addr) := []
def slotsUsed : Nat := 14
def theMethod : MethodId := ⟨1, 3⟩
def args0 : Array Value := #[.int 3, .int 2, .int 3, .int 4, .int 5]
def aboutOver (below : List Frame) : State where
  vm := { classes := classes, interned := interned.toArray }
  heap := heap
  slotsUsed := slotsUsed
  threads := #[{ frames := .invoking theMethod args0 :: below }]
def below0 : List Frame := [.native { method := ⟨0, 0⟩, args := #[] }]
def about1 : State := aboutOver below0
def p0 : Program := .bare "" "" ""
def e0 : Env := launch0.env 0 0 0
theorem w_frames : about1.frames = Frame.invoking theMethod args0 :: below0 := rfl
set_option maxRecDepth 65536 in
theorem w_args : argsFit about1.vm theMethod args0 = true := by decide +kernel
set_option maxRecDepth 65536 in
theorem w_heap : heapFits about1 = true := by decide +kernel
set_option maxRecDepth 65536 in
theorem w_runnable : about1.curStatus? = some .runnable := by decide +kernel
set_option maxRecDepth 65536 in
theorem w_alone : about1.alone = true := by decide +kernel
set_option maxRecDepth 65536 in
theorem w_named : about1.methodNamed? x = some theMethod := by decide +kernel
set_option maxRecDepth 65536 in
theorem w_hears : about1.hears theMethod below0 = true := by decide +kernel
set_option maxRecDepth 65536 in
theorem w_ripe : about1.ripe theMethod args0 below0 = true := by decide +kernel
theorem w_running : about1.status = .running := rfl
set_option maxRecDepth 65536 in
theorem w_room : about1.hasRoom e0.platform room_1 = true :=
  launch0.hasRoom_least _ room_1 (by decide +kernel) (by decide +kernel) (by decide +kernel) (by decide +kernel) (by decide +kernel) (by decide +kernel)
theorem allAtoms_all (ts : List Jvm.Cond) (a : Array Jvm.Value) (st : Jvm.State) : (allAtoms ts).before a st = ts.all (fun c => c.before a st) := by
  induction ts with
  | nil => rfl
  | cons c t ih =>
    show (Jvm.Cond.and c (allAtoms t)).before a st = _
    rw [Jvm.Cond.before_and, ih, List.all_cons]
def words1 : List Jvm.Cond := Jvm.Cond.code x code maxLocals ret :: tables_1
/-- a 'code' word, met by the world's own term for the bytes: nothing is compared byte by byte -/
theorem code_word {y : MethodName} {bytes : ByteArray} {mx : Nat} {rt : Option FieldType} {a : Array Value} {s : State} {m : MethodId} {meth : Method} {c : Code} (h1 : s.methodNamed? y = some m) (h2 : s.vm.method? m = some meth) (h3 : meth.code = some c) (h4 : c.code = bytes)
    (h5 : (c.maxLocals == mx && c.exceptionTable.isEmpty && decide (c.maxStack ≤ mostOperands) && decide (meth.sig.returnType = rt) && !meth.locks && decide (parseMethodDescriptor y.desc = some meth.sig)) = true) : (Jvm.Cond.code y bytes mx rt).before a s = true := by
  simp only [Bool.and_eq_true, beq_iff_eq, Bool.not_eq_true', decide_eq_true_eq] at h5
  obtain ⟨⟨⟨⟨⟨g1, g2⟩, g3⟩, g4⟩, g5⟩, g6⟩ := h5
  simp [Cond.before, Cond.holds, Cond.value, h1, h2, h3, h4, g1, g2, g3, g4, g5, g6]
def isCode : Jvm.Cond → Bool
  | .code _ _ _ _ => true
  | _ => false
theorem all_split {L : List Jvm.Cond} {P : Jvm.Cond → Bool} (h1 : L.all (fun c => isCode c || P c) = true) (h2 : ∀ c ∈ L.filter isCode, P c = true) : L.all P = true := by
  refine List.all_eq_true.mpr fun c hc => ?_
  have h := List.all_eq_true.mp h1 c hc
  rcases Bool.eq_false_or_eq_true (isCode c) with hi | hi
  · exact h2 c (List.mem_filter.mpr ⟨hc, hi⟩)
  · simpa [hi] using h
set_option maxRecDepth 65536 in
theorem w_c0 : (Jvm.Cond.code x code maxLocals ret).before args0 about1 = true := code_word (m := ⟨1, 3⟩) (meth := k1m3) (c := k1c3) (by decide +kernel) rfl rfl rfl (by decide +kernel)
set_option maxRecDepth 65536 in
theorem w_c1 : (Jvm.Cond.code ({ cls := "com/example/mortise/mortise/http/HeadersIsValuePinLaw", name := "chars", desc := "(ICCCC)[C" } : Jvm.MethodName) method_3_code (5 : Nat) (Option.some (Jvm.ClassFile.FieldType.array Jvm.ClassFile.FieldType.char))).before args0 about1 = true := code_word (m := ⟨1, 2⟩) (meth := k1m2) (c := k1c2) (by decide +kernel) rfl rfl rfl (by decide +kernel)
set_option maxRecDepth 65536 in
theorem w_c2 : (Jvm.Cond.code ({ cls := "java/lang/String", name := "<init>", desc := "([C)V" } : Jvm.MethodName) jdk_42_method_3_code (2 : Nat) (Option.none : Option Jvm.ClassFile.FieldType)).before args0 about1 = true := code_word (m := ⟨7, 1⟩) (meth := k7m1) (c := k7c1) (by decide +kernel) rfl rfl rfl (by decide +kernel)
set_option maxRecDepth 65536 in
theorem w_c3 : (Jvm.Cond.code ({ cls := "java/lang/String", name := "<init>", desc := "([CIILjava/lang/Void;)V" } : Jvm.MethodName) jdk_42_method_149_code (6 : Nat) (Option.none : Option Jvm.ClassFile.FieldType)).before args0 about1 = true := code_word (m := ⟨7, 4⟩) (meth := k7m4) (c := k7c4) (by decide +kernel) rfl rfl rfl (by decide +kernel)
set_option maxRecDepth 65536 in
theorem w_c4 : (Jvm.Cond.code ({ cls := "java/lang/Object", name := "<init>", desc := "()V" } : Jvm.MethodName) object_method_1_code (1 : Nat) (Option.none : Option Jvm.ClassFile.FieldType)).before args0 about1 = true := code_word (m := ⟨0, 0⟩) (meth := k0m0) (c := k0c0) (by decide +kernel) rfl rfl rfl (by decide +kernel)
set_option maxRecDepth 65536 in
theorem w_c5 : (Jvm.Cond.code ({ cls := "com/example/mortise/mortise/http/Headers", name := "isValue", desc := "(Ljava/lang/String;)Z" } : Jvm.MethodName) prog_12_method_12_code (4 : Nat) (Option.some Jvm.ClassFile.FieldType.boolean)).before args0 about1 = true := code_word (m := ⟨8, 1⟩) (meth := k8m1) (c := k8c1) (by decide +kernel) rfl rfl rfl (by decide +kernel)
set_option maxRecDepth 65536 in
theorem w_c6 : (Jvm.Cond.code ({ cls := "java/lang/String", name := "length", desc := "()I" } : Jvm.MethodName) jdk_42_method_54_code (1 : Nat) (Option.some Jvm.ClassFile.FieldType.int)).before args0 about1 = true := code_word (m := ⟨7, 2⟩) (meth := k7m2) (c := k7c2) (by decide +kernel) rfl rfl rfl (by decide +kernel)
set_option maxRecDepth 65536 in
theorem w_c7 : (Jvm.Cond.code ({ cls := "java/lang/String", name := "coder", desc := "()B" } : Jvm.MethodName) jdk_42_method_152_code (1 : Nat) (Option.some Jvm.ClassFile.FieldType.byte)).before args0 about1 = true := code_word (m := ⟨7, 5⟩) (meth := k7m5) (c := k7c5) (by decide +kernel) rfl rfl rfl (by decide +kernel)
set_option maxRecDepth 65536 in
theorem w_c8 : (Jvm.Cond.code ({ cls := "java/lang/StringUTF16", name := "compress", desc := "([CII)[B" } : Jvm.MethodName) jdk_52_method_16_code (6 : Nat) (Option.some (Jvm.ClassFile.FieldType.array Jvm.ClassFile.FieldType.byte))).before args0 about1 = true := code_word (m := ⟨9, 8⟩) (meth := k9m8) (c := k9c8) (by decide +kernel) rfl rfl rfl (by decide +kernel)
set_option maxRecDepth 65536 in
theorem w_c9 : (Jvm.Cond.code ({ cls := "java/lang/StringUTF16", name := "compress", desc := "([CI[BII)I" } : Jvm.MethodName) jdk_52_method_21_code (7 : Nat) (Option.some Jvm.ClassFile.FieldType.int)).before args0 about1 = true := code_word (m := ⟨9, 9⟩) (meth := k9m9) (c := k9c9) (by decide +kernel) rfl rfl rfl (by decide +kernel)
set_option maxRecDepth 65536 in
theorem w_c10 : (Jvm.Cond.code ({ cls := "java/lang/StringUTF16", name := "coderFromArrayLen", desc := "([BI)B" } : Jvm.MethodName) jdk_52_method_15_code (2 : Nat) (Option.some Jvm.ClassFile.FieldType.byte)).before args0 about1 = true := code_word (m := ⟨9, 7⟩) (meth := k9m7) (c := k9c7) (by decide +kernel) rfl rfl rfl (by decide +kernel)
set_option maxRecDepth 65536 in
theorem w_c11 : (Jvm.Cond.code ({ cls := "com/example/mortise/mortise/http/HeadersIsValuePinLaw", name := "fieldChar", desc := "(C)Z" } : Jvm.MethodName) method_2_code (1 : Nat) (Option.some Jvm.ClassFile.FieldType.boolean)).before args0 about1 = true := code_word (m := ⟨1, 1⟩) (meth := k1m1) (c := k1c1) (by decide +kernel) rfl rfl rfl (by decide +kernel)
set_option maxRecDepth 65536 in
theorem w_c12 : (Jvm.Cond.code ({ cls := "java/lang/String", name := "charAt", desc := "(I)C" } : Jvm.MethodName) jdk_42_method_56_code (2 : Nat) (Option.some Jvm.ClassFile.FieldType.char)).before args0 about1 = true := code_word (m := ⟨7, 3⟩) (meth := k7m3) (c := k7c3) (by decide +kernel) rfl rfl rfl (by decide +kernel)
set_option maxRecDepth 65536 in
theorem w_c13 : (Jvm.Cond.code ({ cls := "java/lang/String", name := "isLatin1", desc := "()Z" } : Jvm.MethodName) jdk_42_method_154_code (1 : Nat) (Option.some Jvm.ClassFile.FieldType.boolean)).before args0 about1 = true := code_word (m := ⟨7, 6⟩) (meth := k7m6) (c := k7c6) (by decide +kernel) rfl rfl rfl (by decide +kernel)
set_option maxRecDepth 65536 in
theorem w_c14 : (Jvm.Cond.code ({ cls := "java/lang/StringLatin1", name := "charAt", desc := "([BI)C" } : Jvm.MethodName) jdk_43_method_2_code (2 : Nat) (Option.some Jvm.ClassFile.FieldType.char)).before args0 about1 = true := code_word (m := ⟨10, 1⟩) (meth := k10m1) (c := k10c1) (by decide +kernel) rfl rfl rfl (by decide +kernel)
set_option maxRecDepth 65536 in
theorem w_c15 : (Jvm.Cond.code ({ cls := "java/lang/String", name := "checkIndex", desc := "(II)V" } : Jvm.MethodName) jdk_42_method_155_code (2 : Nat) (Option.none : Option Jvm.ClassFile.FieldType)).before args0 about1 = true := code_word (m := ⟨7, 7⟩) (meth := k7m7) (c := k7c7) (by decide +kernel) rfl rfl rfl (by decide +kernel)
set_option maxRecDepth 65536 in
theorem w_c16 : (Jvm.Cond.code ({ cls := "jdk/internal/util/Preconditions", name := "checkIndex", desc := "(IILjava/util/function/BiFunction;)I" } : Jvm.MethodName) jdk_41_method_11_code (3 : Nat) (Option.some Jvm.ClassFile.FieldType.int)).before args0 about1 = true := code_word (m := ⟨11, 1⟩) (meth := k11m1) (c := k11c1) (by decide +kernel) rfl rfl rfl (by decide +kernel)
set_option maxRecDepth 65536 in
theorem w_c17 : (Jvm.Cond.code ({ cls := "java/lang/StringUTF16", name := "toBytes", desc := "([CII)[B" } : Jvm.MethodName) jdk_52_method_14_code (5 : Nat) (Option.some (Jvm.ClassFile.FieldType.array Jvm.ClassFile.FieldType.byte))).before args0 about1 = true := code_word (m := ⟨9, 6⟩) (meth := k9m6) (c := k9c6) (by decide +kernel) rfl rfl rfl (by decide +kernel)
set_option maxRecDepth 65536 in
theorem w_c18 : (Jvm.Cond.code ({ cls := "java/lang/StringUTF16", name := "newBytesFor", desc := "(I)[B" } : Jvm.MethodName) jdk_52_method_2_code (1 : Nat) (Option.some (Jvm.ClassFile.FieldType.array Jvm.ClassFile.FieldType.byte))).before args0 about1 = true := code_word (m := ⟨9, 1⟩) (meth := k9m1) (c := k9c1) (by decide +kernel) rfl rfl rfl (by decide +kernel)
set_option maxRecDepth 65536 in
theorem w_c19 : (Jvm.Cond.code ({ cls := "java/lang/StringUTF16", name := "newBytesLength", desc := "(I)I" } : Jvm.MethodName) jdk_52_method_3_code (1 : Nat) (Option.some Jvm.ClassFile.FieldType.int)).before args0 about1 = true := code_word (m := ⟨9, 2⟩) (meth := k9m2) (c := k9c2) (by decide +kernel) rfl rfl rfl (by decide +kernel)
set_option maxRecDepth 65536 in
theorem w_c20 : (Jvm.Cond.code ({ cls := "java/lang/StringUTF16", name := "putChar", desc := "([BII)V" } : Jvm.MethodName) jdk_52_method_4_code (3 : Nat) (Option.none : Option Jvm.ClassFile.FieldType)).before args0 about1 = true := code_word (m := ⟨9, 3⟩) (meth := k9m3) (c := k9c3) (by decide +kernel) rfl rfl rfl (by decide +kernel)
set_option maxRecDepth 65536 in
theorem w_c21 : (Jvm.Cond.code ({ cls := "java/lang/StringUTF16", name := "getChar", desc := "([BI)C" } : Jvm.MethodName) jdk_52_method_5_code (2 : Nat) (Option.some Jvm.ClassFile.FieldType.char)).before args0 about1 = true := code_word (m := ⟨9, 4⟩) (meth := k9m4) (c := k9c4) (by decide +kernel) rfl rfl rfl (by decide +kernel)
set_option maxRecDepth 65536 in
theorem w_c22 : (Jvm.Cond.code ({ cls := "java/lang/StringUTF16", name := "charAt", desc := "([BI)C" } : Jvm.MethodName) jdk_52_method_83_code (2 : Nat) (Option.some Jvm.ClassFile.FieldType.char)).before args0 about1 = true := code_word (m := ⟨9, 10⟩) (meth := k9m10) (c := k9c10) (by decide +kernel) rfl rfl rfl (by decide +kernel)
set_option maxRecDepth 65536 in
theorem w_c23 : (Jvm.Cond.code ({ cls := "java/lang/StringUTF16", name := "checkIndex", desc := "(I[B)V" } : Jvm.MethodName) jdk_52_method_91_code (2 : Nat) (Option.none : Option Jvm.ClassFile.FieldType)).before args0 about1 = true := code_word (m := ⟨9, 11⟩) (meth := k9m11) (c := k9c11) (by decide +kernel) rfl rfl rfl (by decide +kernel)
set_option maxRecDepth 65536 in
theorem w_c24 : (Jvm.Cond.code ({ cls := "java/lang/StringUTF16", name := "length", desc := "([B)I" } : Jvm.MethodName) jdk_52_method_6_code (1 : Nat) (Option.some Jvm.ClassFile.FieldType.int)).before args0 about1 = true := code_word (m := ⟨9, 5⟩) (meth := k9m5) (c := k9c5) (by decide +kernel) rfl rfl rfl (by decide +kernel)
def codes1 : List Jvm.Cond := [Jvm.Cond.code x code maxLocals ret, Jvm.Cond.code ({ cls := "com/example/mortise/mortise/http/HeadersIsValuePinLaw", name := "chars", desc := "(ICCCC)[C" } : Jvm.MethodName) method_3_code (5 : Nat) (Option.some (Jvm.ClassFile.FieldType.array Jvm.ClassFile.FieldType.char)), Jvm.Cond.code ({ cls := "java/lang/String", name := "<init>", desc := "([C)V" } : Jvm.MethodName) jdk_42_method_3_code (2 : Nat) (Option.none : Option Jvm.ClassFile.FieldType), Jvm.Cond.code ({ cls := "java/lang/String", name := "<init>", desc := "([CIILjava/lang/Void;)V" } : Jvm.MethodName) jdk_42_method_149_code (6 : Nat) (Option.none : Option Jvm.ClassFile.FieldType), Jvm.Cond.code ({ cls := "java/lang/Object", name := "<init>", desc := "()V" } : Jvm.MethodName) object_method_1_code (1 : Nat) (Option.none : Option Jvm.ClassFile.FieldType), Jvm.Cond.code ({ cls := "com/example/mortise/mortise/http/Headers", name := "isValue", desc := "(Ljava/lang/String;)Z" } : Jvm.MethodName) prog_12_method_12_code (4 : Nat) (Option.some Jvm.ClassFile.FieldType.boolean), Jvm.Cond.code ({ cls := "java/lang/String", name := "length", desc := "()I" } : Jvm.MethodName) jdk_42_method_54_code (1 : Nat) (Option.some Jvm.ClassFile.FieldType.int), Jvm.Cond.code ({ cls := "java/lang/String", name := "coder", desc := "()B" } : Jvm.MethodName) jdk_42_method_152_code (1 : Nat) (Option.some Jvm.ClassFile.FieldType.byte), Jvm.Cond.code ({ cls := "java/lang/StringUTF16", name := "compress", desc := "([CII)[B" } : Jvm.MethodName) jdk_52_method_16_code (6 : Nat) (Option.some (Jvm.ClassFile.FieldType.array Jvm.ClassFile.FieldType.byte)), Jvm.Cond.code ({ cls := "java/lang/StringUTF16", name := "compress", desc := "([CI[BII)I" } : Jvm.MethodName) jdk_52_method_21_code (7 : Nat) (Option.some Jvm.ClassFile.FieldType.int), Jvm.Cond.code ({ cls := "java/lang/StringUTF16", name := "coderFromArrayLen", desc := "([BI)B" } : Jvm.MethodName) jdk_52_method_15_code (2 : Nat) (Option.some Jvm.ClassFile.FieldType.byte), Jvm.Cond.code ({ cls := "com/example/mortise/mortise/http/HeadersIsValuePinLaw", name := "fieldChar", desc := "(C)Z" } : Jvm.MethodName) method_2_code (1 : Nat) (Option.some Jvm.ClassFile.FieldType.boolean), Jvm.Cond.code ({ cls := "java/lang/String", name := "charAt", desc := "(I)C" } : Jvm.MethodName) jdk_42_method_56_code (2 : Nat) (Option.some Jvm.ClassFile.FieldType.char), Jvm.Cond.code ({ cls := "java/lang/String", name := "isLatin1", desc := "()Z" } : Jvm.MethodName) jdk_42_method_154_code (1 : Nat) (Option.some Jvm.ClassFile.FieldType.boolean), Jvm.Cond.code ({ cls := "java/lang/StringLatin1", name := "charAt", desc := "([BI)C" } : Jvm.MethodName) jdk_43_method_2_code (2 : Nat) (Option.some Jvm.ClassFile.FieldType.char), Jvm.Cond.code ({ cls := "java/lang/String", name := "checkIndex", desc := "(II)V" } : Jvm.MethodName) jdk_42_method_155_code (2 : Nat) (Option.none : Option Jvm.ClassFile.FieldType), Jvm.Cond.code ({ cls := "jdk/internal/util/Preconditions", name := "checkIndex", desc := "(IILjava/util/function/BiFunction;)I" } : Jvm.MethodName) jdk_41_method_11_code (3 : Nat) (Option.some Jvm.ClassFile.FieldType.int), Jvm.Cond.code ({ cls := "java/lang/StringUTF16", name := "toBytes", desc := "([CII)[B" } : Jvm.MethodName) jdk_52_method_14_code (5 : Nat) (Option.some (Jvm.ClassFile.FieldType.array Jvm.ClassFile.FieldType.byte)), Jvm.Cond.code ({ cls := "java/lang/StringUTF16", name := "newBytesFor", desc := "(I)[B" } : Jvm.MethodName) jdk_52_method_2_code (1 : Nat) (Option.some (Jvm.ClassFile.FieldType.array Jvm.ClassFile.FieldType.byte)), Jvm.Cond.code ({ cls := "java/lang/StringUTF16", name := "newBytesLength", desc := "(I)I" } : Jvm.MethodName) jdk_52_method_3_code (1 : Nat) (Option.some Jvm.ClassFile.FieldType.int), Jvm.Cond.code ({ cls := "java/lang/StringUTF16", name := "putChar", desc := "([BII)V" } : Jvm.MethodName) jdk_52_method_4_code (3 : Nat) (Option.none : Option Jvm.ClassFile.FieldType), Jvm.Cond.code ({ cls := "java/lang/StringUTF16", name := "getChar", desc := "([BI)C" } : Jvm.MethodName) jdk_52_method_5_code (2 : Nat) (Option.some Jvm.ClassFile.FieldType.char), Jvm.Cond.code ({ cls := "java/lang/StringUTF16", name := "charAt", desc := "([BI)C" } : Jvm.MethodName) jdk_52_method_83_code (2 : Nat) (Option.some Jvm.ClassFile.FieldType.char), Jvm.Cond.code ({ cls := "java/lang/StringUTF16", name := "checkIndex", desc := "(I[B)V" } : Jvm.MethodName) jdk_52_method_91_code (2 : Nat) (Option.none : Option Jvm.ClassFile.FieldType), Jvm.Cond.code ({ cls := "java/lang/StringUTF16", name := "length", desc := "([B)I" } : Jvm.MethodName) jdk_52_method_6_code (1 : Nat) (Option.some Jvm.ClassFile.FieldType.int)]
set_option maxRecDepth 65536 in
theorem codes_eq : words1.filter isCode = codes1 := rfl
theorem w_codes : ∀ c ∈ words1.filter isCode, c.before args0 about1 = true := by
  rw [codes_eq]
  intro c hc
  simp only [codes1, List.mem_cons, List.not_mem_nil, or_false] at hc
  rcases hc with rfl | rfl | rfl | rfl | rfl | rfl | rfl | rfl | rfl | rfl | rfl | rfl | rfl | rfl | rfl | rfl | rfl | rfl | rfl | rfl | rfl | rfl | rfl | rfl | rfl
  · exact w_c0
  · exact w_c1
  · exact w_c2
  · exact w_c3
  · exact w_c4
  · exact w_c5
  · exact w_c6
  · exact w_c7
  · exact w_c8
  · exact w_c9
  · exact w_c10
  · exact w_c11
  · exact w_c12
  · exact w_c13
  · exact w_c14
  · exact w_c15
  · exact w_c16
  · exact w_c17
  · exact w_c18
  · exact w_c19
  · exact w_c20
  · exact w_c21
  · exact w_c22
  · exact w_c23
  · exact w_c24
set_option maxRecDepth 65536 in
theorem w_t1 : (words1.take 24).all (fun c => isCode c || c.before args0 about1) = true := by decide +kernel
set_option maxRecDepth 65536 in
theorem w_t2 : ((words1.drop 24).take 24).all (fun c => isCode c || c.before args0 about1) = true := by decide +kernel
set_option maxRecDepth 65536 in
theorem w_t3 : (((words1.drop 24).drop 24).take 24).all (fun c => isCode c || c.before args0 about1) = true := by decide +kernel
set_option maxRecDepth 65536 in
theorem w_t4 : ((((words1.drop 24).drop 24).drop 24).take 24).all (fun c => isCode c || c.before args0 about1) = true := by decide +kernel
set_option maxRecDepth 65536 in
theorem w_t5 : ((((words1.drop 24).drop 24).drop 24).drop 24).all (fun c => isCode c || c.before args0 about1) = true := by decide +kernel
theorem w_tables : (allAtoms (Jvm.Cond.code x code maxLocals ret :: tables_1)).before args0 about1 = true := by
  rw [allAtoms_all]
  show words1.all (fun c => c.before args0 about1) = true
  refine all_split ?_ w_codes
  rw [← List.take_append_drop 24 words1, List.all_append, w_t1, ← List.take_append_drop 24 (words1.drop 24), List.all_append, w_t2, ← List.take_append_drop 24 ((words1.drop 24).drop 24), List.all_append, w_t3, ← List.take_append_drop 24 (((words1.drop 24).drop 24).drop 24), List.all_append, w_t4, w_t5]
  rfl
set_option maxRecDepth 65536 in
theorem w_rest : rest_1_c.before args0 about1 = true := by decide +kernel
set_option maxRecDepth 65536 in
theorem w_case : (Jvm.Cond.and given_1 narrow_1).before args0 about1 = true := by decide +kernel
set_option maxRecDepth 65536 in
theorem w_consts : constsHeld consts_1 about1 := Jvm.Lit.constsHeldB_iff.mp (by decide +kernel)
theorem w_applies : (headSpec (Jvm.Cond.code x code maxLocals ret :: tables_1) room_1).applies x e0.platform about1 = true :=
  (Spec.applies_iff w_frames).mpr ⟨w_running, w_runnable, w_alone, w_named, w_hears, w_ripe, w_room, w_tables⟩
theorem atStart : AtStart classFile x code maxLocals ret World_1 tables_1 room_1 Calls_1 rest_1 Pre_1 launch0 p0 e0 about1 theMethod args0 below0 :=
  ⟨lists_1, trivial, launch0.admits_env _ _ _, launch0.least_env, fairChoices_fair.cas, fairChoices_fair.clock, w_frames, w_args, w_heap, w_applies, ⟨w_consts, trivial⟩, w_rest, w_case⟩
end start1
theorem witness_1 : WitnessClaimed_1 := ⟨start1.p0, start1.e0, start1.about1, start1.theMethod, start1.args0, start1.below0, start1.atStart⟩
end Jvm.Pilot.@@N@@
