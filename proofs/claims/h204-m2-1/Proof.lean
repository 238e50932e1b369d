import JvmDerived
import JvmDerived.Pilot.@@N@@Statement
import JvmDerived.Pilot.@@N@@Code
set_option linter.unusedVariables false
set_option linter.unusedSimpArgs false
namespace Jvm.Pilot.@@N@@
open Jvm Jvm.ClassFile Sem Op Lib Jvm.Free Jvm.Stand Jvm.LawKit Jvm.RoadKit Bundle Jvm.Pilot.@@N@@.Jvm.D
theorem own_irr (x : Int32) : ¬ x < x := fun h => absurd (Int32.lt_iff_toInt_lt.mp h) (by omega)
theorem own_nn (x : Int32) : ¬ ((x &&& (2147483647 : Int32)) < (0 : Int32)) := fun h => by
  have h1 := Int32.lt_iff_toInt_lt.mp h
  have h2 := (c_and x 2147483647 (by decide)).1
  have h3 : (0 : Int32).toInt = 0 := rfl
  omega
def own_min (a b : Int32) : Int32 := if b < a then b else a
def own_max (a b : Int32) : Int32 := if a < b then b else a
theorem own_mm (a b : Int32) : ¬ (own_max a b < own_min a b) := fun h => by
  have h := Int32.lt_iff_toInt_lt.mp h
  unfold own_max own_min at h
  split at h <;> split at h <;> (simp only [Int32.lt_iff_toInt_lt] at *; omega)
theorem own_min_nn {a b : Int32} (ha : ¬ a < (0 : Int32)) (hb : ¬ b < (0 : Int32)) : ¬ (own_min a b < (0 : Int32)) := by unfold own_min; split <;> assumption
theorem own_max_nn {a b : Int32} (ha : ¬ a < (0 : Int32)) (hb : ¬ b < (0 : Int32)) : ¬ (own_max a b < (0 : Int32)) := by unfold own_max; split <;> assumption
theorem own_mod {x d k : Int32} {D : Int} (hd : d.toInt = D) (hD : 0 < D) (h : (x &&& (2147483647 : Int32)) % d = k) : 0 ≤ k.toInt ∧ k.toInt < D := by
  have h1 := (c_and x 2147483647 (by decide)).1
  have h2 := (c_irem (x &&& 2147483647) d D hd).1 h1
  rw [h] at h2
  rw [h2]
  exact ⟨Int.emod_nonneg _ (by omega), Int.emod_lt_of_pos _ hD⟩
theorem own_ne {k : Int32} (n : Nat) (hc : (Int32.ofNat n).toInt = (n : Int)) (h : ¬ k = Int32.ofNat n) : k.toInt ≠ (n : Int) := fun q => h (Int32.toInt_inj.mp (q.trans hc.symm))
theorem own_r255 {x c : Int32} (h : (x &&& (255 : Int32)) = c) : ¬ (c < (0 : Int32)) ∧ ¬ ((255 : Int32) < c) := by
  have h1 := c_and x 255 (by decide)
  rw [h] at h1
  have e1 : (255 : Int32).toInt = 255 := rfl
  have e0 : (0 : Int32).toInt = 0 := rfl
  simp only [Int32.lt_iff_toInt_lt]
  omega
theorem own_narc {c : Int32} (h : ¬ (c < (0 : Int32)) ∧ ¬ ((255 : Int32) < c)) : nar .char c = c := by
  have e1 : (255 : Int32).toInt = 255 := rfl
  have e0 : (0 : Int32).toInt = 0 := rfl
  have h1 := h.1
  have h2 := h.2
  simp only [Int32.lt_iff_toInt_lt] at h1 h2
  have h3 := c_i2c c
  apply Int32.toInt_inj.mp
  show c.toUInt32.toUInt16.toUInt32.toInt32.toInt = c.toInt
  omega
theorem own_fitc {c : Int32} (h : ¬ (c < (0 : Int32)) ∧ ¬ ((255 : Int32) < c)) : fits .char (.int c) = true := by
  have q := fits_nar_char c
  rw [own_narc h] at q
  exact q
theorem own_b8 (x : Int32) : x.toInt8.toInt32.toInt8.toInt32 = x.toInt8.toInt32 := Int32.toInt_inj.mp (by have a := c_i2b x; have b := c_i2b x.toInt8.toInt32; omega)
theorem own_shr0 (x : Int32) : x >>> ((0 : Int32) &&& 31) = x := Int32.toInt_inj.mp (by rw [c_ishr x 0 0 (by decide)]; simp)
theorem own_nar255 (x : Int32) : nar .char ((x &&& (255 : Int32)).toUInt32.toUInt16.toUInt32.toInt32) = x &&& (255 : Int32) := by rw [i2c_mask]; exact i2c_mask x
/-- from here the run comes to an end at which Q holds, at most so many cells and slots made -/
def own_Go (p : Program) (e : Env) (below : List Frame) (s : State) (Q : Option Value → Heap → List Loc → Prop) (C S : Nat) (A : State) : Prop :=
  ∃ s₂ o, Steps p.tables e below A s₂ ∧ s₂.status = .running ∧ Ended s₂ below o ∧ ∃ v L, o = .returned v ∧ Q v s₂.heap L ∧ FrameEnd s o s₂ L C S
theorem own_go {p : Program} {e : Env} {below : List Frame} {s : State} {Q : Option Value → Heap → List Loc → Prop} {C S : Nat} {A B : State} (k : ∀ t, Steps p.tables e below B t → Steps p.tables e below A t) (h : own_Go p e below s Q C S B) : own_Go p e below s Q C S A := by
  obtain ⟨s₂, o, h1, h2⟩ := h
  exact ⟨s₂, o, k _ h1, h2⟩
theorem own_fin {p : Program} {l : Launch} {e : Env} {R : Room} {s : State} {m : MethodId} {args : Array Value} {below : List Frame} {meth : Method} {c : Code} {T : State} {locs : List Loc} {cells slots : Nat} {Q : Option Value → Heap → List Loc → Prop} {C S : Nat} {A : State} {v : Option Value}
    (X : Stand p l e R s m args below meth c T locs cells slots) (hlocks : meth.locks = false) (hv : meth.sig.returnType = none → v = none)
    (st : ∀ fs, (∀ (f : JFrame) (acts : List Action), f.method = m → f.locked = none → f.entered = [] → (doReturn e (T.setTop f) acts v).1 = T.setFrames fs) → Steps p.tables e below A (T.setFrames fs))
    (hQ : Q v T.heap locs) (hc : cells ≤ C) (hs : slots ≤ S) : own_Go p e below s Q C S A := by
  obtain ⟨fs, hr, hrun, hended, hW, hsame⟩ := X.leave (v := v) hv hlocks
  exact ⟨_, _, st fs hr, hrun, hended, _, _, rfl, hQ, ⟨_, rfl⟩, hW, hsame.mono hc hs⟩
def own_HV (i : Int) (x : UInt64) : Prop := FP.Core.DFin x ∧ FP.Core.zval FP.Core.b64 (FP.Core.val64 x) = i * ((2 ^ 1073 : Nat) : Int)
theorem own_up : (0 : Int) < ((2 ^ 1073 : Nat) : Int) := Int.natCast_pos.mpr (Nat.two_pow_pos 1073)
theorem own_p2 (k : Nat) : (2 : Nat) ^ (k + 1) = 2 * 2 ^ k := by rw [Nat.pow_succ, Nat.mul_comm]
theorem own_one : ((FP.Core.one64 : Nat) : Int) = 2 * ((2 ^ 1073 : Nat) : Int) := by
  have e : FP.Core.one64 = 2 ^ (1073 + 1) := rfl
  rw [e, own_p2]
  exact Int.natCast_mul 2 _
theorem own_hv_int (a : Int32) : own_HV (2 * a.toInt) (FP.i2d a) := by
  show own_HV (2 * a.toInt) (FP.Core.i2d a)
  refine ⟨by rw [FP.Core.i2d_l2d]; exact FP.Core.l2d_fin _, ?_⟩
  rw [FP.Core.DInt_zval (FP.Core.i2d_int a), own_one, ← Int.mul_assoc, Int.mul_comm a.toInt 2]
theorem own_cmpU {U : Int} (h : 0 < U) (i j : Int) : compare (i * U) (j * U) = compare i j := by
  rw [FP.Core.compare_ite, FP.Core.compare_ite]
  by_cases q : i < j
  · rw [if_pos q, if_pos (Int.mul_lt_mul_of_pos_right q h)]
  · by_cases q2 : i = j
    · subst q2; simp
    · have q3 : j < i := by omega
      have q4 := Int.mul_lt_mul_of_pos_right q3 h
      rw [if_neg q, if_neg q2, if_neg (by omega), if_neg (by omega)]
theorem own_hv_cmp {i j : Int} {x y : UInt64} (hx : own_HV i x) (hy : own_HV j y) : FP.dcmp x y = some (compare i j) := by
  have e : FP.Core.dcmp x y = some (compare i j) := by
    rw [FP.Core.dcmp_zval hx.1.ne_nan hy.1.ne_nan, hx.2, hy.2, own_cmpU own_up]
  exact e
theorem own_sg (s : Bool) (c k : Nat) : FP.Core.signed s (c * k) = FP.Core.signed s c * (k : Int) := by
  cases s <;> simp [FP.Core.signed, Int.neg_mul]
theorem own_sabs (s : Bool) (c : Nat) : (FP.Core.signed s c).natAbs = c := by cases s <;> simp [FP.Core.signed]
theorem own_ex (i : Int) (h : i.natAbs ≤ 2 ^ 53) : ∃ V, FP.Core.fits FP.Core.b64 V ∧ V ≠ .nan ∧ FP.Core.zval FP.Core.b64 V = i * ((2 ^ 1073 : Nat) : Int) := by
  have e53 : (2 : Nat) ^ 53 = 9007199254740992 := by decide
  have hi : (Int64.ofInt i).toInt = i := Int64.toInt_ofInt_of_le (by omega) (by omega)
  by_cases h0 : i = 0
  · subst h0
    refine ⟨.fin false 0 FP.Core.b64.qmin, ⟨by decide +kernel, Int.le_refl _, by decide +kernel, Or.inl rfl⟩, FP.Core.Datum.noConfusion, ?_⟩
    rw [Int.zero_mul]
    decide +kernel
  · have w : FP.Core.DInt i (FP.Core.l2d (Int64.ofInt i)) := by
      have := FP.Core.l2d_int (a := Int64.ofInt i) (by rw [hi]; exact h)
      rw [hi] at this
      exact this
    have z := FP.Core.DInt_zval w
    have f := FP.Core.val64_fits (FP.Core.l2d (Int64.ofInt i))
    obtain ⟨s, c, q, e⟩ := FP.Core.l2d_fin (Int64.ofInt i)
    rw [e] at z f
    obtain ⟨f1, f2, f3, f4⟩ := f
    have z' : FP.Core.signed s (c * 2 ^ (q - FP.Core.b64.qmin).toNat) = i * (FP.Core.one64 : Int) := z
    have hq : q ≠ FP.Core.b64.qmin := by
      intro hq
      rw [hq, Int.sub_self] at z'
      have z2 : FP.Core.signed s c = i * (FP.Core.one64 : Int) := by simpa using z'
      have z3 : c = i.natAbs * FP.Core.one64 := by
        have := congrArg Int.natAbs z2
        rw [Int.natAbs_mul, Int.natAbs_natCast] at this
        rw [← this]
        cases s <;> simp [FP.Core.signed]
      have z4 : 1 * FP.Core.one64 ≤ i.natAbs * FP.Core.one64 := Nat.mul_le_mul_right _ (by omega)
      have z5 : (2 : Nat) ^ FP.Core.b64.p ≤ FP.Core.one64 := by decide +kernel
      omega
    refine ⟨.fin s c (q - 1), ⟨f1, by omega, by omega, Or.inr (f4.resolve_left hq)⟩, FP.Core.Datum.noConfusion, ?_⟩
    show FP.Core.signed s (c * 2 ^ (q - 1 - FP.Core.b64.qmin).toNat) = _
    have e1 : (q - FP.Core.b64.qmin).toNat = (q - 1 - FP.Core.b64.qmin).toNat + 1 := by omega
    rw [e1, Nat.pow_succ, ← Nat.mul_assoc, own_sg, own_one] at z'
    have e2 : i * (2 * ((2 ^ 1073 : Nat) : Int)) = 2 * (i * ((2 ^ 1073 : Nat) : Int)) := by rw [← Int.mul_assoc, Int.mul_comm i 2, Int.mul_assoc]
    rw [e2] at z'
    have e3 : ((2 : Nat) : Int) = 2 := rfl
    rw [e3] at z'
    omega
theorem own_dfin {r : UInt64} (hn : FP.Core.val64 r ≠ .nan) {i : Int} (hz : FP.Core.zval FP.Core.b64 (FP.Core.val64 r) = i * ((2 ^ 1073 : Nat) : Int)) (hi : i.natAbs ≤ 2 ^ 53) : own_HV i r := by
  refine ⟨?_, hz⟩
  cases e : FP.Core.val64 r with
  | nan => exact absurd e hn
  | fin s c q => exact ⟨s, c, q, e⟩
  | inf s =>
    exfalso
    rw [e] at hz
    have h1 := congrArg Int.natAbs hz
    rw [Int.natAbs_mul, Int.natAbs_natCast] at h1
    have h2 : (FP.Core.zval FP.Core.b64 (.inf s)).natAbs = FP.Core.b64.tails * 2 ^ (FP.Core.b64.exps - 2) := by
      show (FP.Core.signed s (FP.Core.b64.tails * 2 ^ (FP.Core.b64.exps - 2))).natAbs = _
      exact own_sabs s _
    rw [h2] at h1
    have h3 : i.natAbs * 2 ^ 1073 ≤ 2 ^ 53 * 2 ^ 1073 := Nat.mul_le_mul_right _ hi
    have h4 : (2 : Nat) ^ 53 * 2 ^ 1073 < FP.Core.b64.tails * 2 ^ (FP.Core.b64.exps - 2) := by
      rw [show FP.Core.b64.tails = 2 ^ 52 from by decide +kernel, show FP.Core.b64.exps - 2 = 2046 from by decide +kernel, ← Nat.pow_add, ← Nat.pow_add]
      exact Nat.pow_lt_pow_right (by decide) (by decide)
    rw [h1] at h4
    exact absurd h3 (Nat.not_le.mpr h4)
theorem own_sum {r : UInt64} {x y : FP.Core.Datum} {i j : Int} (hr : FP.Core.val64 r = FP.Core.round FP.Core.b64 (FP.Core.exactSum x y)) (hx : ∃ s c q, x = .fin s c q) (hy : ∃ s c q, y = .fin s c q) (fx : FP.Core.fits FP.Core.b64 x) (fy : FP.Core.fits FP.Core.b64 y) (zx : FP.Core.zval FP.Core.b64 x = i * ((2 ^ 1073 : Nat) : Int)) (zy : FP.Core.zval FP.Core.b64 y = j * ((2 ^ 1073 : Nat) : Int)) (h : (i + j).natAbs ≤ 2 ^ 53) : own_HV (i + j) r := by
  obtain ⟨V, v1, v2, v3⟩ := own_ex (i + j) h
  have e : FP.Core.zval FP.Core.b64 x + FP.Core.zval FP.Core.b64 y = FP.Core.zval FP.Core.b64 V := by rw [zx, zy, v3, Int.add_mul]
  have a := FP.Core.sum_le FP.Core.good_b64 hx hy fx fy v1 v2 (Int.le_of_eq e)
  have b := FP.Core.sum_ge FP.Core.good_b64 hx hy fx fy v1 v2 (Int.le_of_eq e.symm)
  refine own_dfin ?_ ?_ h
  · rw [hr]
    intro q
    obtain ⟨s, c, q1, rfl⟩ := hx
    obtain ⟨t, d, q2, rfl⟩ := hy
    exact absurd (FP.Core.round_nan.mp q) FP.Core.Datum.noConfusion
  · rw [hr, ← v3]
    exact Int.le_antisymm a b
theorem own_half64 : FP.Core.val64 4602678819172646912 = .fin false 4503599627370496 (-53) := by decide +kernel
theorem own_hv_half : own_HV 1 4602678819172646912 := by
  refine own_dfin (by rw [own_half64]; exact FP.Core.Datum.noConfusion) ?_ (by decide)
  decide +kernel
theorem own_hv_add {i : Int} {x : UInt64} (hx : own_HV i x) (h : (i + 1).natAbs ≤ 2 ^ 53) : own_HV (i + 1) (FP.dadd x 4602678819172646912) :=
  own_sum (FP.Core.val64_dadd x 4602678819172646912) hx.1 own_hv_half.1 (FP.Core.val64_fits _) (FP.Core.val64_fits _) hx.2 own_hv_half.2 h
theorem own_hv_sub {i : Int} {x : UInt64} (hx : own_HV i x) (h : (i + -1).natAbs ≤ 2 ^ 53) : own_HV (i + -1) (FP.dsub x 4602678819172646912) := by
  refine own_sum (FP.Core.val64_dsub x 4602678819172646912) hx.1 ?_ (FP.Core.val64_fits _) (FP.Core.negate_fits (FP.Core.val64_fits _)) hx.2 ?_ h
  · rw [own_half64]; exact ⟨_, _, _, rfl⟩
  · rw [FP.Core.zval_negate, own_hv_half.2, Int.neg_mul]
theorem own_hv_mul {i : Int} {x : UInt64} (hx : own_HV (2 * i) x) (h : i.natAbs ≤ 2 ^ 53) : own_HV i (FP.dmul x 4602678819172646912) := by
  obtain ⟨V, v1, v2, v3⟩ := own_ex i h
  obtain ⟨⟨s, c, q, e⟩, z⟩ := hx
  have f := FP.Core.val64_fits x
  rw [e] at z f
  have hr := FP.Core.val64_dmul x 4602678819172646912
  rw [own_half64, e] at hr
  have hr' : FP.Core.val64 (FP.dmul x 4602678819172646912) = FP.Core.round FP.Core.b64 (.fin (s != false) (c * 4503599627370496) (q + -53)) := hr
  have hs : (s != false) = s := by cases s <;> rfl
  rw [hs] at hr'
  have z' : FP.Core.signed s (c * 2 ^ (q - FP.Core.b64.qmin).toNat) = 2 * i * ((2 ^ 1073 : Nat) : Int) := z
  have f2 : FP.Core.b64.qmin ≤ q := f.2.1
  have u : FP.Core.zval FP.Core.b64 V * ((2 ^ (FP.Core.b64.qmin - (FP.Core.b64.qmin - 53)).toNat : Nat) : Int) = FP.Core.signed s (FP.Core.inUnits (c * 4503599627370496) (q + -53) (FP.Core.b64.qmin - 53)) := by
    unfold FP.Core.inUnits
    rw [show (q + -53 - (FP.Core.b64.qmin - 53)).toNat = (q - FP.Core.b64.qmin).toNat by omega, Nat.mul_right_comm, own_sg, z', v3, show (FP.Core.b64.qmin - (FP.Core.b64.qmin - 53)).toNat = 53 by omega]
    rw [show ((2 ^ 53 : Nat) : Int) = 2 * ((4503599627370496 : Nat) : Int) from by decide]
    generalize ((2 ^ 1073 : Nat) : Int) = U
    generalize ((4503599627370496 : Nat) : Int) = W
    rw [Int.mul_assoc, Int.mul_assoc, Int.mul_assoc, ← Int.mul_assoc U 2 W, Int.mul_comm U 2, Int.mul_assoc 2 U W, ← Int.mul_assoc i 2, Int.mul_comm i 2, Int.mul_assoc]
  have a := FP.Core.zval_round_le FP.Core.good_b64 v1 v2 (show FP.Core.b64.qmin - 53 ≤ FP.Core.b64.qmin by omega) (show FP.Core.b64.qmin - 53 ≤ q + -53 by omega) (Int.le_of_eq u.symm)
  have b := FP.Core.zval_round_ge FP.Core.good_b64 v1 v2 (show FP.Core.b64.qmin - 53 ≤ FP.Core.b64.qmin by omega) (show FP.Core.b64.qmin - 53 ≤ q + -53 by omega) (Int.le_of_eq u)
  refine own_dfin ?_ ?_ h
  · rw [hr']
    intro q
    exact absurd (FP.Core.round_nan.mp q) FP.Core.Datum.noConfusion
  · rw [hr', ← v3]
    exact Int.le_antisymm a b
theorem own_nn64 {x : UInt64} (h : FP.Core.DFin x) : Jvm.Free.Fl.NoNaN64 x := (Jvm.Free.Fl.fin64_core.mpr h).noNaN
theorem own_cgt {i j : Int} {x y : UInt64} (hx : own_HV i x) (hy : own_HV j y) (o : CmpOp) : (0 : Int32) < cmpValue (FP.dcmp x y) o ↔ j < i := by
  rw [own_hv_cmp hx hy, FP.Core.compare_ite]
  by_cases q : i < j
  · rw [if_pos q]
    exact ⟨fun h => absurd h (by cases o <;> decide), fun h => by omega⟩
  · by_cases q2 : i = j
    · rw [if_neg q, if_pos q2]
      exact ⟨fun h => absurd h (by cases o <;> decide), fun h => by omega⟩
    · rw [if_neg q, if_neg q2]
      exact ⟨fun _ => by omega, fun _ => by cases o <;> decide⟩
theorem own_clt {i j : Int} {x y : UInt64} (hx : own_HV i x) (hy : own_HV j y) (o : CmpOp) : cmpValue (FP.dcmp x y) o < (0 : Int32) ↔ i < j := by
  rw [own_hv_cmp hx hy, FP.Core.compare_ite]
  by_cases q : i < j
  · rw [if_pos q]
    exact ⟨fun _ => q, fun _ => by cases o <;> decide⟩
  · by_cases q2 : i = j
    · rw [if_neg q, if_pos q2]
      exact ⟨fun h => absurd h (by cases o <;> decide), fun h => by omega⟩
    · rw [if_neg q, if_neg q2]
      exact ⟨fun h => absurd h (by cases o <;> decide), fun h => by omega⟩
theorem own_cinf {x : UInt64} (h : FP.Core.DFin x) (o : CmpOp) : cmpValue (FP.dcmp x (9218868437227405312 : UInt64)) o < (0 : Int32) := by
  rw [dcmp_pinf (Jvm.Free.Fl.fin64_core.mpr h) o]
  decide
theorem own_cmax {x : UInt64} (h : FP.Core.DFin x) (o : CmpOp) : ¬ ((0 : Int32) < cmpValue (FP.dcmp (x &&& 0x7fffffffffffffff) (9218868437227405311 : UInt64)) o) := by
  have q : FP.dcmp (x &&& 0x7fffffffffffffff) (9218868437227405311 : UInt64) = some .lt ∨ FP.dcmp (x &&& 0x7fffffffffffffff) (9218868437227405311 : UInt64) = some .eq := (FP.Core.le_max h.notNaN).mpr h
  rcases q with q | q <;> rw [q] <;> cases o <;> decide
theorem own_lc (a b : Int32) : (0 : Int32) < lcmpW b.toInt64 ((2 : Int64) * a.toInt64) ↔ 2 * a.toInt < b.toInt := by
  rw [lw_gt, Int64.lt_iff_toInt_lt]
  have h2 := c_lmul 2 a.toInt64
  have r1 := rng32 a
  have s2 := rng64 ((2 : Int64) * a.toInt64)
  have e2 : (2 : Int64).toInt = 2 := rfl
  rw [e2, Int32.toInt_toInt64] at h2
  rw [Int32.toInt_toInt64]
  omega
theorem own_d5_0 : decode jdk_117_method_8_code 0 = .ok (.dload_n 0, 1) := by decide +kernel
theorem own_d5_1 : decode jdk_117_method_8_code 1 = .ok (.invokestatic 38, 3) := by decide +kernel
theorem own_pd__D_D : parseMethodDescriptor "(D)D" = some ⟨[.double], some .double⟩ := by decide +kernel
theorem own_d5_4 : decode jdk_117_method_8_code 4 = .ok (.ldc2_w 111, 3) := by decide +kernel
theorem own_d5_7 : decode jdk_117_method_8_code 7 = .ok (.dcmp .g, 1) := by decide +kernel
theorem own_d5_8 : decode jdk_117_method_8_code 8 = .ok (.ifCond .gt 7, 3) := by decide +kernel
theorem own_d5_11 : decode jdk_117_method_8_code 11 = .ok (.iconst 1, 1) := by decide +kernel
theorem own_d5_12 : decode jdk_117_method_8_code 12 = .ok (.goto 4, 3) := by decide +kernel
theorem own_d5_16 : decode jdk_117_method_8_code 16 = .ok (.ireturn, 1) := by decide +kernel
theorem own_ef_own_risf (m : MethodId) (x : UInt64) : entryFrame m #[(.double x)] 2 = mkF m 0 #[.val (.double x), .second] [] := by first | (simp [entryFrame, mkF, argsToLocals, Value.category]; done) | rfl
def own_Q_own_risf (Z : State) (x : UInt64) (h0 : Heap) (n0 : Nat) (v : Option Value) (h : Heap) (L : List Loc) : Prop := v = some (.int (1 : Int32)) ∧ Fr n0 L ∧ h = h0
set_option maxRecDepth 65536 in
set_option maxHeartbeats 40000000 in
theorem own_risf (l : Launch) (Z : State) (a0 : Array Value) (hw : ∀ d ∈ tables_1, d.before a0 Z = true) (ws : List Jvm.Cond) (x : UInt64) (h0 : Heap) (n0 : Nat) (Z0 : n0 ≤ h0.size)  (hf : FP.Core.DFin x) :
    MetFree l (⟨"java/lang/Double", "isFinite", "(D)Z"⟩ : MethodName) (head1 (Jvm.Cond.code (⟨"java/lang/Double", "isFinite", "(D)Z"⟩ : MethodName) jdk_117_method_8_code 2 (some .boolean) :: ws) ({ frames := 1, cells := 0, slots := 0, locals := 13 } : Room)) (fun a U => a = #[(.double x)] ∧ Z.Warmed39 U.vm ∧ U.heap = h0) (fun _ _ _ _ _ => True) (fun _ U o U' => ∃ v L, o = .returned v ∧ own_Q_own_risf Z x h0 n0 v U'.heap L ∧ FrameEnd U o U' L ({ frames := 1, cells := 0, slots := 0, locals := 13 } : Room).cells ({ frames := 1, cells := 0, slots := 0, locals := 13 } : Room).slots) := by
  refine MetFree.of_bodySF (by decide +kernel) hisR ?_
  intro p e s m args below meth c s₁ Bd hml0 hP hK
  obtain ⟨rfl, hZ, hh⟩ := hP
  have hx := Bd.exec
  have hby := Bd.bytes
  have hml : c.maxLocals = 2 := hml0
  have hown : s.vm.findClass "java/lang/Double" = some m.cls := findClass_of_methodNamed Bd.named
  have hnm := (name_of_methodNamed Bd.named Bd.method).1
  have X0 : Stand p l e ({ frames := 1, cells := 0, slots := 0, locals := 13 } : Room) s m #[(.double x)] below meth c s₁ [] 0 0 := Stand.of_body Bd
  have e0 : s₁.heap = h0 := by rw [← hh, Bd.state]; rfl
  have N0 := Fr.nil n0
  show own_Go p e below s (own_Q_own_risf Z x h0 n0) ({ frames := 1, cells := 0, slots := 0, locals := 13 } : Room).cells ({ frames := 1, cells := 0, slots := 0, locals := 13 } : Room).slots (s₁.setTop (entryFrame m #[(.double x)] 2))
  refine own_go (fun zt zk => castTop (own_ef_own_risf m x) zk) ?_
  show own_Go p e below s _ _ _ (s₁.setTop (mkF m 0 #[.val (.double x), .second] []))
  refine own_go (fun zt zk => (XS.dloadN X0.here hx rfl (hb hby own_d5_0) rfl zk)) ?_
  show own_Go p e below s _ _ _ (s₁.setTop (mkF m 1 #[.val (.double x), .second] [(.double x)]))
  obtain ⟨T1, X1, e1, st1⟩ := natS X0 hx hZ (y := Jvm.Free.Fl.Abs.absDN) hown (hw _ (List.mem_of_getElem? (i := 32) rfl)) (hw _ (List.mem_of_getElem? (i := 33) rfl)) (hw _ (List.mem_of_getElem? (i := 34) rfl)) (hw _ (List.mem_of_getElem? (i := 35) rfl)) (by decide) e0 (W := 0) (fun hc => Jvm.Free.Fl.Abs.absD_pays (W := 0) x hc (by decide) (by decide)) (g := (mkF m 1 #[.val (.double x), .second] [(.double x)])) rfl (by rw [hml]; rfl) (argsL := [(.double x)]) (rest := []) (lenOf own_pd__D_D rfl) rfl (by show 2 * 0 + _ ≤ _; exact Nat.le_of_eq rfl) (hb hby own_d5_1) (by decide) (by decide) ⟨rfl, own_nn64 hf⟩ rfl
  refine own_go st1 ?_
  show own_Go p e below s _ _ _ (T1.setTop (mkF m 4 #[.val (.double x), .second] [(.double (x &&& 0x7fffffffffffffff))]))
  refine own_go (fun zt zk => (X1.ldc2DoubleC hx hown (mvT hZ (hw _ (List.mem_of_getElem? (i := 36) rfl))) (g := (mkF m 4 #[.val (.double x), .second] [(.double (x &&& 0x7fffffffffffffff))])) rfl (hb hby own_d5_4) _ (XS.dcmpS X1.here hx rfl (hb hby own_d5_7) rfl rfl (XS.ifNo X1.here hx rfl (hb hby own_d5_8) rfl ((if0 _ _).trans (flt ((own_cmax hf _) : ¬ ((0 : Int32) < (cmpValue (FP.dcmp (x &&& 0x7fffffffffffffff) (9218868437227405311 : UInt64)) .g)))).2.2.1) (XS.iconst X1.here hx rfl (hb hby own_d5_11) (XS.goto X1.here hx rfl (pc0 := 12) (pc' := 16) rfl (hb hby own_d5_12) (by decide) (by decide) zk)))))) ?_
  show own_Go p e below s _ _ _ (T1.setTop (mkF m 16 #[.val (.double x), .second] [(.int (1 : Int32))]))
  exact own_fin X1 Bd.notSynchronized (fun h => by rw [Bd.returns] at h; cases h) (fun fs hr => retN X1 hx (t := .boolean) Bd.returns (by simp) (hb hby own_d5_16) hr) (by rw [e1]; exact ⟨rfl, N0, rfl⟩) (by decide) (by decide)
theorem own_d2_0 : decode prog_27_method_1_code 0 = .ok (.aload_n 0, 1) := by decide +kernel
theorem own_d2_1 : decode prog_27_method_1_code 1 = .ok (.invokespecial 1, 3) := by decide +kernel
theorem own_d2_4 : decode prog_27_method_1_code 4 = .ok (.aload_n 0, 1) := by decide +kernel
theorem own_d2_5 : decode prog_27_method_1_code 5 = .ok (.dload_n 1, 1) := by decide +kernel
theorem own_d2_6 : decode prog_27_method_1_code 6 = .ok (.putfield 7, 3) := by decide +kernel
theorem own_d2_9 : decode prog_27_method_1_code 9 = .ok (.aload_n 0, 1) := by decide +kernel
theorem own_d2_10 : decode prog_27_method_1_code 10 = .ok (.iload_n 3, 1) := by decide +kernel
theorem own_d2_11 : decode prog_27_method_1_code 11 = .ok (.putfield 13, 3) := by decide +kernel
theorem own_d2_14 : decode prog_27_method_1_code 14 = .ok (.aload_n 0, 1) := by decide +kernel
theorem own_d2_15 : decode prog_27_method_1_code 15 = .ok (.dload 4, 2) := by decide +kernel
theorem own_d2_17 : decode prog_27_method_1_code 17 = .ok (.putfield 17, 3) := by decide +kernel
theorem own_d2_20 : decode prog_27_method_1_code 20 = .ok (.aload_n 0, 1) := by decide +kernel
theorem own_d2_21 : decode prog_27_method_1_code 21 = .ok (.iload 6, 2) := by decide +kernel
theorem own_d2_23 : decode prog_27_method_1_code 23 = .ok (.putfield 20, 3) := by decide +kernel
theorem own_d2_26 : decode prog_27_method_1_code 26 = .ok (.return_, 1) := by decide +kernel
theorem own_pn_com_example_corank_corank_cli_Interval : plainName "com/example/corank/corank/cli/Interval" = true := by first | (simp [plainName, overriddenIn]; done) | decide +kernel
theorem own_ef_own_rnew (m : MethodId) (a1 : Addr) (x : UInt64) : entryFrame m #[(.ref a1), (.double x), (.int (0 : Int32)), (.double (9218868437227405312 : UInt64)), (.int (0 : Int32))] 7 = mkF m 0 #[rv a1, .val (.double x), .second, iv (0 : Int32), .val (.double (9218868437227405312 : UInt64)), .second, iv (0 : Int32)] [] := by first | (simp [entryFrame, mkF, argsToLocals, Value.category]; done) | rfl
def own_Q_own_rnew (Z : State) (a1 : Addr) (x : UInt64) (h0 : Heap) (n0 : Nat) (v : Option Value) (h : Heap) (L : List Loc) : Prop := v = none ∧ Fr n0 L ∧ Keep h0 h [a1] ∧ Exa Z h a1 "com/example/corank/corank/cli/Interval" ∧ Fld Z h a1 "com/example/corank/corank/cli/Interval" "minimum" "D" (.double x) ∧ Fld Z h a1 "com/example/corank/corank/cli/Interval" "minimumTaken" "Z" (.int (0 : Int32)) ∧ Fld Z h a1 "com/example/corank/corank/cli/Interval" "maximum" "D" (.double (9218868437227405312 : UInt64)) ∧ Fld Z h a1 "com/example/corank/corank/cli/Interval" "maximumTaken" "Z" (.int (0 : Int32))
set_option maxRecDepth 65536 in
set_option maxHeartbeats 40000000 in
theorem own_rnew (l : Launch) (Z : State) (a0 : Array Value) (hw : ∀ d ∈ tables_1, d.before a0 Z = true) (ws : List Jvm.Cond) (a1 : Addr) (x : UInt64) (h0 : Heap) (n0 : Nat) (Z0 : n0 ≤ h0.size) (Ex : Exa Z h0 a1 "com/example/corank/corank/cli/Interval") (Fm : Fld Z h0 a1 "com/example/corank/corank/cli/Interval" "minimum" "D" (.double (0 : UInt64))) (Ft : Fld Z h0 a1 "com/example/corank/corank/cli/Interval" "minimumTaken" "Z" (.int (0 : Int32))) (Fx : Fld Z h0 a1 "com/example/corank/corank/cli/Interval" "maximum" "D" (.double (0 : UInt64))) (Fk : Fld Z h0 a1 "com/example/corank/corank/cli/Interval" "maximumTaken" "Z" (.int (0 : Int32))) (g_a1 : n0 ≤ a1) :
    MetFree l (⟨"com/example/corank/corank/cli/Interval", "<init>", "(DZDZ)V"⟩ : MethodName) (head1 (Jvm.Cond.code (⟨"com/example/corank/corank/cli/Interval", "<init>", "(DZDZ)V"⟩ : MethodName) prog_27_method_1_code 7 none :: ws) ({ frames := 1, cells := 0, slots := 0, locals := 12 } : Room)) (fun a U => a = #[(.ref a1), (.double x), (.int (0 : Int32)), (.double (9218868437227405312 : UInt64)), (.int (0 : Int32))] ∧ Z.Warmed39 U.vm ∧ U.heap = h0) (fun _ _ _ _ _ => True) (fun _ U o U' => ∃ v L, o = .returned v ∧ own_Q_own_rnew Z a1 x h0 n0 v U'.heap L ∧ FrameEnd U o U' L ({ frames := 1, cells := 0, slots := 0, locals := 12 } : Room).cells ({ frames := 1, cells := 0, slots := 0, locals := 12 } : Room).slots) := by
  refine MetFree.of_bodySF (plainFor_of_name own_pn_com_example_corank_corank_cli_Interval) hisR ?_
  intro p e s m args below meth c s₁ Bd hml0 hP hK
  obtain ⟨rfl, hZ, hh⟩ := hP
  have hx := Bd.exec
  have hby := Bd.bytes
  have hml : c.maxLocals = 7 := hml0
  have hown : s.vm.findClass "com/example/corank/corank/cli/Interval" = some m.cls := findClass_of_methodNamed Bd.named
  have hnm := (name_of_methodNamed Bd.named Bd.method).1
  have X0 : Stand p l e ({ frames := 1, cells := 0, slots := 0, locals := 12 } : Room) s m #[(.ref a1), (.double x), (.int (0 : Int32)), (.double (9218868437227405312 : UInt64)), (.int (0 : Int32))] below meth c s₁ [] 0 0 := Stand.of_body Bd
  have e0 : s₁.heap = h0 := by rw [← hh, Bd.state]; rfl
  have N0 := Fr.nil n0
  have Kp : Keep h0 h0 [a1] := Keep.refl h0 _
  show own_Go p e below s (own_Q_own_rnew Z a1 x h0 n0) ({ frames := 1, cells := 0, slots := 0, locals := 12 } : Room).cells ({ frames := 1, cells := 0, slots := 0, locals := 12 } : Room).slots (s₁.setTop (entryFrame m #[(.ref a1), (.double x), (.int (0 : Int32)), (.double (9218868437227405312 : UInt64)), (.int (0 : Int32))] 7))
  refine own_go (fun zt zk => castTop (own_ef_own_rnew m a1 x) zk) ?_
  show own_Go p e below s _ _ _ (s₁.setTop (mkF m 0 #[rv a1, .val (.double x), .second, iv (0 : Int32), .val (.double (9218868437227405312 : UInt64)), .second, iv (0 : Int32)] []))
  refine own_go (fun zt zk => (XS.aloadN X0.here hx rfl (hb hby own_d2_0) rfl rfl zk)) ?_
  show own_Go p e below s _ _ _ (s₁.setTop (mkF m 1 #[rv a1, .val (.double x), .second, iv (0 : Int32), .val (.double (9218868437227405312 : UInt64)), .second, iv (0 : Int32)] [(.ref a1)]))
  obtain ⟨T1, X1, e1, st1⟩ := initO X0 hx hZ hown (hw _ (List.mem_of_getElem? (i := 10) rfl)) (hw _ (List.mem_of_getElem? (i := 11) rfl)) (hw _ (List.mem_of_getElem? (i := 12) rfl)) e0 (g := (mkF m 1 #[rv a1, .val (.double x), .second, iv (0 : Int32), .val (.double (9218868437227405312 : UInt64)), .second, iv (0 : Int32)] [(.ref a1)])) rfl (by rw [hml]; rfl) rfl (hb hby own_d2_1) (by decide) (W := 0) (by show 2 * 0 + _ ≤ _; exact Nat.le_of_eq rfl) (by decide)
  refine own_go st1 ?_
  show own_Go p e below s _ _ _ (T1.setTop (mkF m 4 #[rv a1, .val (.double x), .second, iv (0 : Int32), .val (.double (9218868437227405312 : UInt64)), .second, iv (0 : Int32)] []))
  refine own_go (fun zt zk => (XS.aloadN X1.here hx rfl (hb hby own_d2_4) rfl rfl (XS.dloadN X1.here hx rfl (hb hby own_d2_5) rfl zk))) ?_
  show own_Go p e below s _ _ _ (T1.setTop (mkF m 6 #[rv a1, .val (.double x), .second, iv (0 : Int32), .val (.double (9218868437227405312 : UInt64)), .second, iv (0 : Int32)] [(.double x), (.ref a1)]))
  obtain ⟨T2, h2, X2, e2, W2, st2⟩ := putF X1 hx hZ hown (host := "") (Or.inl (hw _ (List.mem_of_getElem? (i := 13) rfl))) Via.refl e1 Fm Ex (Or.inr ⟨(hw _ (List.mem_of_getElem? (i := 14) rfl)), rfl, hnm⟩) (hw _ (List.mem_of_getElem? (i := 5) rfl)) (ty := .double) (by decide) rfl rfl (g := (mkF m 6 #[rv a1, .val (.double x), .second, iv (0 : Int32), .val (.double (9218868437227405312 : UInt64)), .second, iv (0 : Int32)] [(.double x), (.ref a1)])) rfl rfl (hb hby own_d2_6)
  refine own_go st2 ?_
  have N2 := Fr.snoc X2 N0 g_a1
  replace Ex := Ex.wr W2
  replace Ft := Ft.other W2 (Or.inr (slot_ne (Or.inr (hw _ (List.mem_of_getElem? (i := 16) rfl))) (Or.inr (hw _ (List.mem_of_getElem? (i := 14) rfl))) (by decide) (t := .boolean) (t' := .double) (by decide) (by decide)))
  replace Fx := Fx.other W2 (Or.inr (slot_ne (Or.inr (hw _ (List.mem_of_getElem? (i := 18) rfl))) (Or.inr (hw _ (List.mem_of_getElem? (i := 14) rfl))) (by decide) (t := .double) (t' := .double) (by decide) (by decide)))
  replace Fk := Fk.other W2 (Or.inr (slot_ne (Or.inr (hw _ (List.mem_of_getElem? (i := 20) rfl))) (Or.inr (hw _ (List.mem_of_getElem? (i := 14) rfl))) (by decide) (t := .boolean) (t' := .double) (by decide) (by decide)))
  replace Kp := Kp.wr W2 (Or.inl (List.mem_of_getElem? (i := 0) rfl))
  replace Fm := Fm.same W2
  show own_Go p e below s _ _ _ (T2.setTop (mkF m 9 #[rv a1, .val (.double x), .second, iv (0 : Int32), .val (.double (9218868437227405312 : UInt64)), .second, iv (0 : Int32)] []))
  refine own_go (fun zt zk => (XS.aloadN X2.here hx rfl (hb hby own_d2_9) rfl rfl (XS.iloadN X2.here hx rfl (hb hby own_d2_10) rfl zk))) ?_
  show own_Go p e below s _ _ _ (T2.setTop (mkF m 11 #[rv a1, .val (.double x), .second, iv (0 : Int32), .val (.double (9218868437227405312 : UInt64)), .second, iv (0 : Int32)] [(.int (0 : Int32)), (.ref a1)]))
  obtain ⟨T3, h3, X3, e3, W3, st3⟩ := putFN X2 hx hZ hown (hw _ (List.mem_of_getElem? (i := 15) rfl)) Via.refl e2 Ft Ex (Or.inr ⟨(hw _ (List.mem_of_getElem? (i := 16) rfl)), rfl, hnm⟩) (hw _ (List.mem_of_getElem? (i := 5) rfl)) (ty := .boolean) (v' := (.int (0 : Int32))) (by decide) rfl (by decide) (g := (mkF m 11 #[rv a1, .val (.double x), .second, iv (0 : Int32), .val (.double (9218868437227405312 : UInt64)), .second, iv (0 : Int32)] [(.int (0 : Int32)), (.ref a1)])) rfl rfl (hb hby own_d2_11)
  refine own_go st3 ?_
  have N3 := Fr.snoc X3 N2 g_a1
  replace Ex := Ex.wr W3
  replace Fm := Fm.other W3 (Or.inr (slot_ne (Or.inr (hw _ (List.mem_of_getElem? (i := 14) rfl))) (Or.inr (hw _ (List.mem_of_getElem? (i := 16) rfl))) (by decide) (t := .double) (t' := .boolean) (by decide) (by decide)))
  replace Fx := Fx.other W3 (Or.inr (slot_ne (Or.inr (hw _ (List.mem_of_getElem? (i := 18) rfl))) (Or.inr (hw _ (List.mem_of_getElem? (i := 16) rfl))) (by decide) (t := .double) (t' := .boolean) (by decide) (by decide)))
  replace Fk := Fk.other W3 (Or.inr (slot_ne (Or.inr (hw _ (List.mem_of_getElem? (i := 20) rfl))) (Or.inr (hw _ (List.mem_of_getElem? (i := 16) rfl))) (by decide) (t := .boolean) (t' := .boolean) (by decide) (by decide)))
  replace Kp := Kp.wr W3 (Or.inl (List.mem_of_getElem? (i := 0) rfl))
  replace Ft := Ft.same W3
  show own_Go p e below s _ _ _ (T3.setTop (mkF m 14 #[rv a1, .val (.double x), .second, iv (0 : Int32), .val (.double (9218868437227405312 : UInt64)), .second, iv (0 : Int32)] []))
  refine own_go (fun zt zk => (XS.aloadN X3.here hx rfl (hb hby own_d2_14) rfl rfl (XS.dload X3.here hx rfl (hb hby own_d2_15) rfl zk))) ?_
  show own_Go p e below s _ _ _ (T3.setTop (mkF m 17 #[rv a1, .val (.double x), .second, iv (0 : Int32), .val (.double (9218868437227405312 : UInt64)), .second, iv (0 : Int32)] [(.double (9218868437227405312 : UInt64)), (.ref a1)]))
  obtain ⟨T4, h4, X4, e4, W4, st4⟩ := putF X3 hx hZ hown (host := "") (Or.inl (hw _ (List.mem_of_getElem? (i := 17) rfl))) Via.refl e3 Fx Ex (Or.inr ⟨(hw _ (List.mem_of_getElem? (i := 18) rfl)), rfl, hnm⟩) (hw _ (List.mem_of_getElem? (i := 5) rfl)) (ty := .double) (by decide) rfl rfl (g := (mkF m 17 #[rv a1, .val (.double x), .second, iv (0 : Int32), .val (.double (9218868437227405312 : UInt64)), .second, iv (0 : Int32)] [(.double (9218868437227405312 : UInt64)), (.ref a1)])) rfl rfl (hb hby own_d2_17)
  refine own_go st4 ?_
  have N4 := Fr.snoc X4 N3 g_a1
  replace Ex := Ex.wr W4
  replace Fm := Fm.other W4 (Or.inr (slot_ne (Or.inr (hw _ (List.mem_of_getElem? (i := 14) rfl))) (Or.inr (hw _ (List.mem_of_getElem? (i := 18) rfl))) (by decide) (t := .double) (t' := .double) (by decide) (by decide)))
  replace Ft := Ft.other W4 (Or.inr (slot_ne (Or.inr (hw _ (List.mem_of_getElem? (i := 16) rfl))) (Or.inr (hw _ (List.mem_of_getElem? (i := 18) rfl))) (by decide) (t := .boolean) (t' := .double) (by decide) (by decide)))
  replace Fk := Fk.other W4 (Or.inr (slot_ne (Or.inr (hw _ (List.mem_of_getElem? (i := 20) rfl))) (Or.inr (hw _ (List.mem_of_getElem? (i := 18) rfl))) (by decide) (t := .boolean) (t' := .double) (by decide) (by decide)))
  replace Kp := Kp.wr W4 (Or.inl (List.mem_of_getElem? (i := 0) rfl))
  replace Fx := Fx.same W4
  show own_Go p e below s _ _ _ (T4.setTop (mkF m 20 #[rv a1, .val (.double x), .second, iv (0 : Int32), .val (.double (9218868437227405312 : UInt64)), .second, iv (0 : Int32)] []))
  refine own_go (fun zt zk => (XS.aloadN X4.here hx rfl (hb hby own_d2_20) rfl rfl (XS.iload X4.here hx rfl (hb hby own_d2_21) rfl zk))) ?_
  show own_Go p e below s _ _ _ (T4.setTop (mkF m 23 #[rv a1, .val (.double x), .second, iv (0 : Int32), .val (.double (9218868437227405312 : UInt64)), .second, iv (0 : Int32)] [(.int (0 : Int32)), (.ref a1)]))
  obtain ⟨T5, h5, X5, e5, W5, st5⟩ := putFN X4 hx hZ hown (hw _ (List.mem_of_getElem? (i := 19) rfl)) Via.refl e4 Fk Ex (Or.inr ⟨(hw _ (List.mem_of_getElem? (i := 20) rfl)), rfl, hnm⟩) (hw _ (List.mem_of_getElem? (i := 5) rfl)) (ty := .boolean) (v' := (.int (0 : Int32))) (by decide) rfl (by decide) (g := (mkF m 23 #[rv a1, .val (.double x), .second, iv (0 : Int32), .val (.double (9218868437227405312 : UInt64)), .second, iv (0 : Int32)] [(.int (0 : Int32)), (.ref a1)])) rfl rfl (hb hby own_d2_23)
  refine own_go st5 ?_
  have N5 := Fr.snoc X5 N4 g_a1
  replace Ex := Ex.wr W5
  replace Fm := Fm.other W5 (Or.inr (slot_ne (Or.inr (hw _ (List.mem_of_getElem? (i := 14) rfl))) (Or.inr (hw _ (List.mem_of_getElem? (i := 20) rfl))) (by decide) (t := .double) (t' := .boolean) (by decide) (by decide)))
  replace Ft := Ft.other W5 (Or.inr (slot_ne (Or.inr (hw _ (List.mem_of_getElem? (i := 16) rfl))) (Or.inr (hw _ (List.mem_of_getElem? (i := 20) rfl))) (by decide) (t := .boolean) (t' := .boolean) (by decide) (by decide)))
  replace Fx := Fx.other W5 (Or.inr (slot_ne (Or.inr (hw _ (List.mem_of_getElem? (i := 18) rfl))) (Or.inr (hw _ (List.mem_of_getElem? (i := 20) rfl))) (by decide) (t := .double) (t' := .boolean) (by decide) (by decide)))
  replace Kp := Kp.wr W5 (Or.inl (List.mem_of_getElem? (i := 0) rfl))
  replace Fk := Fk.same W5
  show own_Go p e below s _ _ _ (T5.setTop (mkF m 26 #[rv a1, .val (.double x), .second, iv (0 : Int32), .val (.double (9218868437227405312 : UInt64)), .second, iv (0 : Int32)] []))
  exact own_fin X5 Bd.notSynchronized (fun _ => rfl) (fun fs hr => X5.returnOut hx Bd.returns (hb hby own_d2_26) hr) (by rw [e5]; exact ⟨rfl, N5, Kp, Ex, Fm, Ft, Fx, Fk⟩) (by decide) (by decide)
theorem own_d1_0 : decode prog_27_method_4_code 0 = .ok (.new 8, 3) := by decide +kernel
theorem own_d1_3 : decode prog_27_method_4_code 3 = .ok (.dup, 1) := by decide +kernel
theorem own_d1_4 : decode prog_27_method_4_code 4 = .ok (.dload_n 0, 1) := by decide +kernel
theorem own_d1_5 : decode prog_27_method_4_code 5 = .ok (.iconst 0, 1) := by decide +kernel
theorem own_d1_6 : decode prog_27_method_4_code 6 = .ok (.ldc2_w 28, 3) := by decide +kernel
theorem own_d1_9 : decode prog_27_method_4_code 9 = .ok (.iconst 0, 1) := by decide +kernel
theorem own_d1_10 : decode prog_27_method_4_code 10 = .ok (.invokespecial 23, 3) := by decide +kernel
theorem own_pd__DZDZ_V : parseMethodDescriptor "(DZDZ)V" = some ⟨[.double, .boolean, .double, .boolean], none⟩ := by decide +kernel
theorem own_d1_13 : decode prog_27_method_4_code 13 = .ok (.areturn, 1) := by decide +kernel
theorem own_ef_own_rmk (m : MethodId) (x : UInt64) : entryFrame m #[(.double x)] 2 = mkF m 0 #[.val (.double x), .second] [] := by first | (simp [entryFrame, mkF, argsToLocals, Value.category]; done) | rfl
def own_Q_own_rmk (Z : State) (x : UInt64) (h0 : Heap) (n0 : Nat) (v : Option Value) (h : Heap) (L : List Loc) : Prop := ∃ b, v = some (.ref b) ∧ Fr n0 L ∧ Keep h0 h [] ∧ h0.size ≤ b ∧ Exa Z h b "com/example/corank/corank/cli/Interval" ∧ Fld Z h b "com/example/corank/corank/cli/Interval" "minimum" "D" (.double x) ∧ Fld Z h b "com/example/corank/corank/cli/Interval" "minimumTaken" "Z" (.int (0 : Int32)) ∧ Fld Z h b "com/example/corank/corank/cli/Interval" "maximum" "D" (.double (9218868437227405312 : UInt64)) ∧ Fld Z h b "com/example/corank/corank/cli/Interval" "maximumTaken" "Z" (.int (0 : Int32))
set_option maxRecDepth 65536 in
set_option maxHeartbeats 40000000 in
theorem own_rmk (l : Launch) (Z : State) (a0 : Array Value) (hw : ∀ d ∈ tables_1, d.before a0 Z = true) (ws : List Jvm.Cond) (x : UInt64) (h0 : Heap) (n0 : Nat) (Z0 : n0 ≤ h0.size)   :
    MetFree l (⟨"com/example/corank/corank/cli/Interval", "above", "(D)Lcom/example/corank/corank/cli/Interval;"⟩ : MethodName) (head1 (Jvm.Cond.code (⟨"com/example/corank/corank/cli/Interval", "above", "(D)Lcom/example/corank/corank/cli/Interval;"⟩ : MethodName) prog_27_method_4_code 2 (some (.object "com/example/corank/corank/cli/Interval")) :: ws) ({ frames := 2, cells := 1, slots := 4, locals := 31 } : Room)) (fun a U => a = #[(.double x)] ∧ Z.Warmed39 U.vm ∧ U.heap = h0) (fun _ _ _ _ _ => True) (fun _ U o U' => ∃ v L, o = .returned v ∧ own_Q_own_rmk Z x h0 n0 v U'.heap L ∧ FrameEnd U o U' L ({ frames := 2, cells := 1, slots := 4, locals := 31 } : Room).cells ({ frames := 2, cells := 1, slots := 4, locals := 31 } : Room).slots) := by
  refine MetFree.of_bodySF (plainFor_of_name own_pn_com_example_corank_corank_cli_Interval) hisR ?_
  intro p e s m args below meth c s₁ Bd hml0 hP hK
  obtain ⟨rfl, hZ, hh⟩ := hP
  have hx := Bd.exec
  have hby := Bd.bytes
  have hml : c.maxLocals = 2 := hml0
  have hown : s.vm.findClass "com/example/corank/corank/cli/Interval" = some m.cls := findClass_of_methodNamed Bd.named
  have hnm := (name_of_methodNamed Bd.named Bd.method).1
  have X0 : Stand p l e ({ frames := 2, cells := 1, slots := 4, locals := 31 } : Room) s m #[(.double x)] below meth c s₁ [] 0 0 := Stand.of_body Bd
  have e0 : s₁.heap = h0 := by rw [← hh, Bd.state]; rfl
  have N0 := Fr.nil n0
  have Kp : Keep h0 h0 [] := Keep.refl h0 _
  show own_Go p e below s (own_Q_own_rmk Z x h0 n0) ({ frames := 2, cells := 1, slots := 4, locals := 31 } : Room).cells ({ frames := 2, cells := 1, slots := 4, locals := 31 } : Room).slots (s₁.setTop (entryFrame m #[(.double x)] 2))
  refine own_go (fun zt zk => castTop (own_ef_own_rmk m x) zk) ?_
  show own_Go p e below s _ _ _ (s₁.setTop (mkF m 0 #[.val (.double x), .second] []))
  obtain ⟨T1, h1, X1, e1, E1, A1, D1, -, st1⟩ := newO X0 hx hZ hown (hw _ (List.mem_of_getElem? (i := 4) rfl)) (hw _ (List.mem_of_getElem? (i := 5) rfl)) (hw _ (List.mem_of_getElem? (i := 2) rfl)) e0 (g := (mkF m 0 #[.val (.double x), .second] [])) rfl (hb hby own_d1_0) (by decide) (by decide)
  obtain ⟨b1, g1⟩ : ∃ z, z = h0.size := ⟨_, rfl⟩
  rw [← g1] at A1 D1 st1
  refine own_go st1 ?_
  have sz_b1 : h0.size ≤ b1 := Nat.le_trans Kp.1 (Nat.le_of_eq g1.symm)
  have g_b1 : n0 ≤ b1 := Nat.le_trans Z0 sz_b1
  replace Kp := Kp.ext E1
  have Ex_b1 := A1
  have F_minimum_b1 : Fld Z h1 b1 "com/example/corank/corank/cli/Interval" "minimum" "D" (.double (0 : UInt64)) := D1 (Or.inr (hw _ (List.mem_of_getElem? (i := 14) rfl))) (ty := .double) (by decide)
  have F_minimumTaken_b1 : Fld Z h1 b1 "com/example/corank/corank/cli/Interval" "minimumTaken" "Z" (.int (0 : Int32)) := D1 (Or.inr (hw _ (List.mem_of_getElem? (i := 16) rfl))) (ty := .boolean) (by decide)
  have F_maximum_b1 : Fld Z h1 b1 "com/example/corank/corank/cli/Interval" "maximum" "D" (.double (0 : UInt64)) := D1 (Or.inr (hw _ (List.mem_of_getElem? (i := 18) rfl))) (ty := .double) (by decide)
  have F_maximumTaken_b1 : Fld Z h1 b1 "com/example/corank/corank/cli/Interval" "maximumTaken" "Z" (.int (0 : Int32)) := D1 (Or.inr (hw _ (List.mem_of_getElem? (i := 20) rfl))) (ty := .boolean) (by decide)
  show own_Go p e below s _ _ _ (T1.setTop (mkF m 3 #[.val (.double x), .second] [(.ref b1)]))
  refine own_go (fun zt zk => (XS.dup X1.here hx rfl (hb hby own_d1_3) rfl rfl (XS.dloadN X1.here hx rfl (hb hby own_d1_4) rfl (XS.iconst X1.here hx rfl (hb hby own_d1_5) (X1.ldc2DoubleC hx hown (mvT hZ (hw _ (List.mem_of_getElem? (i := 6) rfl))) (g := (mkF m 6 #[.val (.double x), .second] [(.int (0 : Int32)), (.double x), (.ref b1), (.ref b1)])) rfl (hb hby own_d1_6) _ (XS.iconst X1.here hx rfl (hb hby own_d1_9) zk)))))) ?_
  show own_Go p e below s _ _ _ (T1.setTop (mkF m 10 #[.val (.double x), .second] [(.int (0 : Int32)), (.double (9218868437227405312 : UInt64)), (.int (0 : Int32)), (.double x), (.ref b1), (.ref b1)]))
  obtain ⟨_, _, ⟨T2, L2, k2, n2⟩, -, X2, ⟨Lc2, hQ2, l2, y2, z2⟩, st2⟩ := X1.specialBack hx (y := (⟨"com/example/corank/corank/cli/Interval", "<init>", "(DZDZ)V"⟩ : MethodName)) rfl hown (mvT hZ (hw _ (List.mem_of_getElem? (i := 7) rfl))) (mvT hZ (hw _ (List.mem_of_getElem? (i := 8) rfl))) (mvT hZ (hw _ (List.mem_of_getElem? (i := 9) rfl))) (by decide) (backOf (W := 1) (own_rnew l Z a0 hw [] b1 x  h1 n0 (Nat.le_trans Z0 Kp.1) Ex_b1 F_minimum_b1 F_minimumTaken_b1 F_maximum_b1 F_maximumTaken_b1 g_b1) hZ (hw _ (List.mem_of_getElem? (i := 9) rfl)) (hw _ (List.mem_of_getElem? (i := 2) rfl)) (by decide) (by decide)) (g := (mkF m 10 #[.val (.double x), .second] [(.int (0 : Int32)), (.double (9218868437227405312 : UInt64)), (.int (0 : Int32)), (.double x), (.ref b1), (.ref b1)])) rfl (by rw [hml]; rfl) (Steps.refl _) (a := b1) (argsL := [(.double x), (.int (0 : Int32)), (.double (9218868437227405312 : UInt64)), (.int (0 : Int32))]) (rest := [(.ref b1)]) (lenOf own_pd__DZDZ_V rfl) rfl (by show 2 * 0 + _ ≤ _; exact Nat.le_of_eq rfl) (hb hby own_d1_10) (fun _ _ => ⟨rfl, e1, (by decide : 1 + 0 ≤ _), (by decide : 4 + 0 ≤ _)⟩)
  dsimp only [Pt.U, Pt.locs, Pt.cells, Pt.slots] at X2 l2 y2 z2 st2 hQ2
  subst l2 y2 z2
  obtain ⟨rfl, Nq2, K2, -, F_minimum_b1, F_minimumTaken_b1, F_maximum_b1, F_maximumTaken_b1⟩ := hQ2
  have N2 := Fr.app N0 Nq2
  refine own_go (fun zt zk => st2.trans zk) ?_
  replace Kp := Kp.trans K2 (allS (Or.inr sz_b1) all0)
  replace Ex_b1 := Ex_b1.keep K2
  show own_Go p e below s _ _ _ (T2.setTop (mkF m 13 #[.val (.double x), .second] [(.ref b1)]))
  exact own_fin X2 Bd.notSynchronized (fun h => by rw [Bd.returns] at h; cases h) (fun fs hr => retOut X2 hx (t := (.object "com/example/corank/corank/cli/Interval")) (w := (.ref b1)) Bd.returns rfl (Or.inr (Or.inr (Or.inr (Or.inr ⟨rfl, rfl, rfl⟩)))) (hb hby own_d1_13) hr) ⟨b1, rfl, N2, Kp, sz_b1, Ex_b1, F_minimum_b1, F_minimumTaken_b1, F_maximum_b1, F_maximumTaken_b1⟩ (by decide) (by decide)
theorem own_d4_0 : decode prog_27_method_7_code 0 = .ok (.aload_n 0, 1) := by decide +kernel
theorem own_d4_1 : decode prog_27_method_7_code 1 = .ok (.getfield 13, 3) := by decide +kernel
theorem own_d4_4 : decode prog_27_method_7_code 4 = .ok (.ifCond .eq 20, 3) := by decide +kernel
theorem own_d4_24 : decode prog_27_method_7_code 24 = .ok (.dload_n 1, 1) := by decide +kernel
theorem own_d4_25 : decode prog_27_method_7_code 25 = .ok (.aload_n 0, 1) := by decide +kernel
theorem own_d4_26 : decode prog_27_method_7_code 26 = .ok (.getfield 7, 3) := by decide +kernel
theorem own_d4_29 : decode prog_27_method_7_code 29 = .ok (.dcmp .l, 1) := by decide +kernel
theorem own_d4_30 : decode prog_27_method_7_code 30 = .ok (.ifCond .le 7, 3) := by decide +kernel
theorem own_d4_33 : decode prog_27_method_7_code 33 = .ok (.iconst 1, 1) := by decide +kernel
theorem own_d4_34 : decode prog_27_method_7_code 34 = .ok (.goto 4, 3) := by decide +kernel
theorem own_d4_38 : decode prog_27_method_7_code 38 = .ok (.istore_n 3, 1) := by decide +kernel
theorem own_d4_39 : decode prog_27_method_7_code 39 = .ok (.aload_n 0, 1) := by decide +kernel
theorem own_d4_40 : decode prog_27_method_7_code 40 = .ok (.getfield 20, 3) := by decide +kernel
theorem own_d4_43 : decode prog_27_method_7_code 43 = .ok (.ifCond .eq 20, 3) := by decide +kernel
theorem own_d4_63 : decode prog_27_method_7_code 63 = .ok (.dload_n 1, 1) := by decide +kernel
theorem own_d4_64 : decode prog_27_method_7_code 64 = .ok (.aload_n 0, 1) := by decide +kernel
theorem own_d4_65 : decode prog_27_method_7_code 65 = .ok (.getfield 17, 3) := by decide +kernel
theorem own_d4_68 : decode prog_27_method_7_code 68 = .ok (.dcmp .g, 1) := by decide +kernel
theorem own_d4_69 : decode prog_27_method_7_code 69 = .ok (.ifCond .ge 7, 3) := by decide +kernel
theorem own_d4_72 : decode prog_27_method_7_code 72 = .ok (.iconst 1, 1) := by decide +kernel
theorem own_d4_73 : decode prog_27_method_7_code 73 = .ok (.goto 4, 3) := by decide +kernel
theorem own_d4_77 : decode prog_27_method_7_code 77 = .ok (.istore 4, 2) := by decide +kernel
theorem own_d4_79 : decode prog_27_method_7_code 79 = .ok (.dload_n 1, 1) := by decide +kernel
theorem own_d4_80 : decode prog_27_method_7_code 80 = .ok (.invokestatic 30, 3) := by decide +kernel
theorem own_pd__D_Z : parseMethodDescriptor "(D)Z" = some ⟨[.double], some .boolean⟩ := by decide +kernel
theorem own_d4_83 : decode prog_27_method_7_code 83 = .ok (.ifCond .eq 16, 3) := by decide +kernel
theorem own_d4_86 : decode prog_27_method_7_code 86 = .ok (.iload_n 3, 1) := by decide +kernel
theorem own_d4_87 : decode prog_27_method_7_code 87 = .ok (.ifCond .eq 12, 3) := by decide +kernel
theorem own_d4_90 : decode prog_27_method_7_code 90 = .ok (.iload 4, 2) := by decide +kernel
theorem own_d4_92 : decode prog_27_method_7_code 92 = .ok (.ifCond .eq 7, 3) := by decide +kernel
theorem own_d4_95 : decode prog_27_method_7_code 95 = .ok (.iconst 1, 1) := by decide +kernel
theorem own_d4_96 : decode prog_27_method_7_code 96 = .ok (.goto 4, 3) := by decide +kernel
theorem own_d4_100 : decode prog_27_method_7_code 100 = .ok (.ireturn, 1) := by decide +kernel
theorem own_d4_37 : decode prog_27_method_7_code 37 = .ok (.iconst 0, 1) := by decide +kernel
theorem own_d4_99 : decode prog_27_method_7_code 99 = .ok (.iconst 0, 1) := by decide +kernel
theorem own_ef_own_rcont (m : MethodId) (a1 : Addr) (x : UInt64) : entryFrame m #[(.ref a1), (.double x)] 5 = mkF m 0 #[rv a1, .val (.double x), .second, .unset, .unset] [] := by first | (simp [entryFrame, mkF, argsToLocals, Value.category]; done) | rfl
def own_Q_own_rcont (Z : State) (a1 : Addr) (x : UInt64) (mn : UInt64) (i j : Int) (h0 : Heap) (n0 : Nat) (v : Option Value) (h : Heap) (L : List Loc) : Prop := v = some (.int (if j < i then 1 else 0)) ∧ Fr n0 L ∧ h = h0
set_option maxRecDepth 65536 in
set_option maxHeartbeats 40000000 in
theorem own_rcont (l : Launch) (Z : State) (a0 : Array Value) (hw : ∀ d ∈ tables_1, d.before a0 Z = true) (ws : List Jvm.Cond) (a1 : Addr) (x : UInt64) (mn : UInt64) (i j : Int) (h0 : Heap) (n0 : Nat) (Z0 : n0 ≤ h0.size) (Ex : Exa Z h0 a1 "com/example/corank/corank/cli/Interval") (Fm : Fld Z h0 a1 "com/example/corank/corank/cli/Interval" "minimum" "D" (.double mn)) (Ft : Fld Z h0 a1 "com/example/corank/corank/cli/Interval" "minimumTaken" "Z" (.int (0 : Int32))) (Fx : Fld Z h0 a1 "com/example/corank/corank/cli/Interval" "maximum" "D" (.double (9218868437227405312 : UInt64))) (Fk : Fld Z h0 a1 "com/example/corank/corank/cli/Interval" "maximumTaken" "Z" (.int (0 : Int32))) (hxv : own_HV i x) (hm : own_HV j mn) :
    MetFree l (⟨"com/example/corank/corank/cli/Interval", "contains", "(D)Z"⟩ : MethodName) (head1 (Jvm.Cond.code (⟨"com/example/corank/corank/cli/Interval", "contains", "(D)Z"⟩ : MethodName) prog_27_method_7_code 5 (some .boolean) :: ws) ({ frames := 2, cells := 0, slots := 0, locals := 26 } : Room)) (fun a U => a = #[(.ref a1), (.double x)] ∧ Z.Warmed39 U.vm ∧ U.heap = h0) (fun _ _ _ _ _ => True) (fun _ U o U' => ∃ v L, o = .returned v ∧ own_Q_own_rcont Z a1 x mn i j h0 n0 v U'.heap L ∧ FrameEnd U o U' L ({ frames := 2, cells := 0, slots := 0, locals := 26 } : Room).cells ({ frames := 2, cells := 0, slots := 0, locals := 26 } : Room).slots) := by
  refine MetFree.of_bodySF (plainFor_of_name own_pn_com_example_corank_corank_cli_Interval) hisR ?_
  intro p e s m args below meth c s₁ Bd hml0 hP hK
  obtain ⟨rfl, hZ, hh⟩ := hP
  have hx := Bd.exec
  have hby := Bd.bytes
  have hml : c.maxLocals = 5 := hml0
  have hown : s.vm.findClass "com/example/corank/corank/cli/Interval" = some m.cls := findClass_of_methodNamed Bd.named
  have hnm := (name_of_methodNamed Bd.named Bd.method).1
  have X0 : Stand p l e ({ frames := 2, cells := 0, slots := 0, locals := 26 } : Room) s m #[(.ref a1), (.double x)] below meth c s₁ [] 0 0 := Stand.of_body Bd
  have e0 : s₁.heap = h0 := by rw [← hh, Bd.state]; rfl
  have N0 := Fr.nil n0
  show own_Go p e below s (own_Q_own_rcont Z a1 x mn i j h0 n0) ({ frames := 2, cells := 0, slots := 0, locals := 26 } : Room).cells ({ frames := 2, cells := 0, slots := 0, locals := 26 } : Room).slots (s₁.setTop (entryFrame m #[(.ref a1), (.double x)] 5))
  refine own_go (fun zt zk => castTop (own_ef_own_rcont m a1 x) zk) ?_
  show own_Go p e below s _ _ _ (s₁.setTop (mkF m 0 #[rv a1, .val (.double x), .second, .unset, .unset] []))
  by_cases hij : j < i
  · show own_Go p e below s _ _ _ (s₁.setTop (mkF m 0 #[rv a1, .val (.double x), .second, .unset, .unset] []))
    refine own_go (fun zt zk => (XS.aloadN X0.here hx rfl (hb hby own_d4_0) rfl rfl zk)) ?_
    show own_Go p e below s _ _ _ (s₁.setTop (mkF m 1 #[rv a1, .val (.double x), .second, .unset, .unset] [(.ref a1)]))
    obtain ⟨T1, X1, e1, st1⟩ := getF X0 hx hZ hown (host := "") (Or.inl (hw _ (List.mem_of_getElem? (i := 15) rfl))) Via.refl e0 Ft (g := (mkF m 1 #[rv a1, .val (.double x), .second, .unset, .unset] [(.ref a1)])) rfl rfl (hb hby own_d4_1)
    refine own_go st1 ?_
    show own_Go p e below s _ _ _ (T1.setTop (mkF m 4 #[rv a1, .val (.double x), .second, .unset, .unset] [(.int (0 : Int32))]))
    refine own_go (fun zt zk => (XS.ifYes X1.here hx rfl (pc0 := 4) (pc' := 24) rfl (hb hby own_d4_4) rfl ((if0 _ _).trans (teq (rfl : (0 : Int32) = (0 : Int32))).1) (by decide) (by decide) (XS.dloadN X1.here hx rfl (hb hby own_d4_24) rfl (XS.aloadN X1.here hx rfl (hb hby own_d4_25) rfl rfl zk)))) ?_
    show own_Go p e below s _ _ _ (T1.setTop (mkF m 26 #[rv a1, .val (.double x), .second, .unset, .unset] [(.ref a1), (.double x)]))
    obtain ⟨T2, X2, e2, st2⟩ := getF X1 hx hZ hown (host := "") (Or.inl (hw _ (List.mem_of_getElem? (i := 13) rfl))) Via.refl e1 Fm (g := (mkF m 26 #[rv a1, .val (.double x), .second, .unset, .unset] [(.ref a1), (.double x)])) rfl rfl (hb hby own_d4_26)
    refine own_go st2 ?_
    show own_Go p e below s _ _ _ (T2.setTop (mkF m 29 #[rv a1, .val (.double x), .second, .unset, .unset] [(.double mn), (.double x)]))
    refine own_go (fun zt zk => (XS.dcmpS X2.here hx rfl (hb hby own_d4_29) rfl rfl (XS.ifNo X2.here hx rfl (hb hby own_d4_30) rfl ((if0 _ _).trans (tlt (((own_cgt hxv hm _).mpr hij) : (0 : Int32) < (cmpValue (FP.dcmp x mn) .l))).2.2.2) (XS.iconst X2.here hx rfl (hb hby own_d4_33) (XS.goto X2.here hx rfl (pc0 := 34) (pc' := 38) rfl (hb hby own_d4_34) (by decide) (by decide) (XS.istoreN X2.here hx rfl (hb hby own_d4_38) rfl (l' := #[rv a1, .val (.double x), .second, iv (1 : Int32), .unset]) rfl (XS.aloadN X2.here hx rfl (hb hby own_d4_39) rfl rfl zk))))))) ?_
    show own_Go p e below s _ _ _ (T2.setTop (mkF m 40 #[rv a1, .val (.double x), .second, iv (1 : Int32), .unset] [(.ref a1)]))
    obtain ⟨T3, X3, e3, st3⟩ := getF X2 hx hZ hown (host := "") (Or.inl (hw _ (List.mem_of_getElem? (i := 19) rfl))) Via.refl e2 Fk (g := (mkF m 40 #[rv a1, .val (.double x), .second, iv (1 : Int32), .unset] [(.ref a1)])) rfl rfl (hb hby own_d4_40)
    refine own_go st3 ?_
    show own_Go p e below s _ _ _ (T3.setTop (mkF m 43 #[rv a1, .val (.double x), .second, iv (1 : Int32), .unset] [(.int (0 : Int32))]))
    refine own_go (fun zt zk => (XS.ifYes X3.here hx rfl (pc0 := 43) (pc' := 63) rfl (hb hby own_d4_43) rfl ((if0 _ _).trans (teq (rfl : (0 : Int32) = (0 : Int32))).1) (by decide) (by decide) (XS.dloadN X3.here hx rfl (hb hby own_d4_63) rfl (XS.aloadN X3.here hx rfl (hb hby own_d4_64) rfl rfl zk)))) ?_
    show own_Go p e below s _ _ _ (T3.setTop (mkF m 65 #[rv a1, .val (.double x), .second, iv (1 : Int32), .unset] [(.ref a1), (.double x)]))
    obtain ⟨T4, X4, e4, st4⟩ := getF X3 hx hZ hown (host := "") (Or.inl (hw _ (List.mem_of_getElem? (i := 17) rfl))) Via.refl e3 Fx (g := (mkF m 65 #[rv a1, .val (.double x), .second, iv (1 : Int32), .unset] [(.ref a1), (.double x)])) rfl rfl (hb hby own_d4_65)
    refine own_go st4 ?_
    show own_Go p e below s _ _ _ (T4.setTop (mkF m 68 #[rv a1, .val (.double x), .second, iv (1 : Int32), .unset] [(.double (9218868437227405312 : UInt64)), (.double x)]))
    refine own_go (fun zt zk => (XS.dcmpS X4.here hx rfl (hb hby own_d4_68) rfl rfl (XS.ifNo X4.here hx rfl (hb hby own_d4_69) rfl ((if0 _ _).trans (tlt ((own_cinf hxv.1 _) : (cmpValue (FP.dcmp x (9218868437227405312 : UInt64)) .g) < (0 : Int32))).2.1) (XS.iconst X4.here hx rfl (hb hby own_d4_72) (XS.goto X4.here hx rfl (pc0 := 73) (pc' := 77) rfl (hb hby own_d4_73) (by decide) (by decide) (XS.istore X4.here hx rfl (hb hby own_d4_77) rfl (l' := #[rv a1, .val (.double x), .second, iv (1 : Int32), iv (1 : Int32)]) rfl (XS.dloadN X4.here hx rfl (hb hby own_d4_79) rfl zk))))))) ?_
    show own_Go p e below s _ _ _ (T4.setTop (mkF m 80 #[rv a1, .val (.double x), .second, iv (1 : Int32), iv (1 : Int32)] [(.double x)]))
    obtain ⟨_, _, ⟨T5, L5, k5, n5⟩, -, X5, ⟨Lc5, hQ5, l5, y5, z5⟩, st5⟩ := Jvm.LawKit.callS X4 hx (y := (⟨"java/lang/Double", "isFinite", "(D)Z"⟩ : MethodName)) hown (mvT hZ (hw _ (List.mem_of_getElem? (i := 28) rfl))) (mvT hZ (hw _ (List.mem_of_getElem? (i := 29) rfl))) (mvT hZ (hw _ (List.mem_of_getElem? (i := 30) rfl))) (mvT hZ (hw _ (List.mem_of_getElem? (i := 31) rfl))) (by decide) (backOf (W := 0) (own_risf l Z a0 hw [] x  h0 n0 Z0 hxv.1) hZ (hw _ (List.mem_of_getElem? (i := 31) rfl)) (hw _ (List.mem_of_getElem? (i := 30) rfl)) (by decide) (by decide)) (g := (mkF m 80 #[rv a1, .val (.double x), .second, iv (1 : Int32), iv (1 : Int32)] [(.double x)])) rfl (by rw [hml]; rfl) (argsL := [(.double x)]) (rest := []) (lenOf own_pd__D_Z rfl) rfl (by show 2 * 0 + _ ≤ _; exact Nat.le_of_eq rfl) (hb hby own_d4_80) (fun _ _ => ⟨rfl, e4, (by decide : 0 + 0 ≤ _), (by decide : 0 + 0 ≤ _)⟩)
    dsimp only [Pt.U, Pt.locs, Pt.cells, Pt.slots] at X5 l5 y5 z5 st5 hQ5
    subst l5 y5 z5
    obtain ⟨rfl, Nq5, e5⟩ := hQ5
    have N5 := Fr.app N0 Nq5
    refine own_go st5 ?_
    show own_Go p e below s _ _ _ (T5.setTop (mkF m 83 #[rv a1, .val (.double x), .second, iv (1 : Int32), iv (1 : Int32)] [(.int (1 : Int32))]))
    refine own_go (fun zt zk => (XS.ifNo X5.here hx rfl (hb hby own_d4_83) rfl ((if0 _ _).trans (feq ((by decide) : ¬ ((1 : Int32) = (0 : Int32)))).1) (XS.iloadN X5.here hx rfl (hb hby own_d4_86) rfl (XS.ifNo X5.here hx rfl (hb hby own_d4_87) rfl ((if0 _ _).trans (feq ((by decide) : ¬ ((1 : Int32) = (0 : Int32)))).1) (XS.iload X5.here hx rfl (hb hby own_d4_90) rfl (XS.ifNo X5.here hx rfl (hb hby own_d4_92) rfl ((if0 _ _).trans (feq ((by decide) : ¬ ((1 : Int32) = (0 : Int32)))).1) (XS.iconst X5.here hx rfl (hb hby own_d4_95) (XS.goto X5.here hx rfl (pc0 := 96) (pc' := 100) rfl (hb hby own_d4_96) (by decide) (by decide) zk)))))))) ?_
    show own_Go p e below s _ _ _ (T5.setTop (mkF m 100 #[rv a1, .val (.double x), .second, iv (1 : Int32), iv (1 : Int32)] [(.int (1 : Int32))]))
    exact own_fin X5 Bd.notSynchronized (fun h => by rw [Bd.returns] at h; cases h) (fun fs hr => retN X5 hx (t := .boolean) Bd.returns (by simp) (hb hby own_d4_100) hr) (by rw [e5]; exact ⟨by rw [if_pos hij]; rfl, N5, rfl⟩) (by decide) (by decide)
  · show own_Go p e below s _ _ _ (s₁.setTop (mkF m 0 #[rv a1, .val (.double x), .second, .unset, .unset] []))
    refine own_go (fun zt zk => (XS.aloadN X0.here hx rfl (hb hby own_d4_0) rfl rfl zk)) ?_
    show own_Go p e below s _ _ _ (s₁.setTop (mkF m 1 #[rv a1, .val (.double x), .second, .unset, .unset] [(.ref a1)]))
    obtain ⟨T6, X6, e6, st6⟩ := getF X0 hx hZ hown (host := "") (Or.inl (hw _ (List.mem_of_getElem? (i := 15) rfl))) Via.refl e0 Ft (g := (mkF m 1 #[rv a1, .val (.double x), .second, .unset, .unset] [(.ref a1)])) rfl rfl (hb hby own_d4_1)
    refine own_go st6 ?_
    show own_Go p e below s _ _ _ (T6.setTop (mkF m 4 #[rv a1, .val (.double x), .second, .unset, .unset] [(.int (0 : Int32))]))
    refine own_go (fun zt zk => (XS.ifYes X6.here hx rfl (pc0 := 4) (pc' := 24) rfl (hb hby own_d4_4) rfl ((if0 _ _).trans (teq (rfl : (0 : Int32) = (0 : Int32))).1) (by decide) (by decide) (XS.dloadN X6.here hx rfl (hb hby own_d4_24) rfl (XS.aloadN X6.here hx rfl (hb hby own_d4_25) rfl rfl zk)))) ?_
    show own_Go p e below s _ _ _ (T6.setTop (mkF m 26 #[rv a1, .val (.double x), .second, .unset, .unset] [(.ref a1), (.double x)]))
    obtain ⟨T7, X7, e7, st7⟩ := getF X6 hx hZ hown (host := "") (Or.inl (hw _ (List.mem_of_getElem? (i := 13) rfl))) Via.refl e6 Fm (g := (mkF m 26 #[rv a1, .val (.double x), .second, .unset, .unset] [(.ref a1), (.double x)])) rfl rfl (hb hby own_d4_26)
    refine own_go st7 ?_
    show own_Go p e below s _ _ _ (T7.setTop (mkF m 29 #[rv a1, .val (.double x), .second, .unset, .unset] [(.double mn), (.double x)]))
    refine own_go (fun zt zk => (XS.dcmpS X7.here hx rfl (hb hby own_d4_29) rfl rfl (XS.ifYes X7.here hx rfl (pc0 := 30) (pc' := 37) rfl (hb hby own_d4_30) rfl ((if0 _ _).trans (flt ((fun q => hij ((own_cgt hxv hm _).mp q)) : ¬ ((0 : Int32) < (cmpValue (FP.dcmp x mn) .l)))).2.2.2) (by decide) (by decide) (XS.iconst X7.here hx rfl (hb hby own_d4_37) (XS.istoreN X7.here hx rfl (hb hby own_d4_38) rfl (l' := #[rv a1, .val (.double x), .second, iv (0 : Int32), .unset]) rfl (XS.aloadN X7.here hx rfl (hb hby own_d4_39) rfl rfl zk)))))) ?_
    show own_Go p e below s _ _ _ (T7.setTop (mkF m 40 #[rv a1, .val (.double x), .second, iv (0 : Int32), .unset] [(.ref a1)]))
    obtain ⟨T8, X8, e8, st8⟩ := getF X7 hx hZ hown (host := "") (Or.inl (hw _ (List.mem_of_getElem? (i := 19) rfl))) Via.refl e7 Fk (g := (mkF m 40 #[rv a1, .val (.double x), .second, iv (0 : Int32), .unset] [(.ref a1)])) rfl rfl (hb hby own_d4_40)
    refine own_go st8 ?_
    show own_Go p e below s _ _ _ (T8.setTop (mkF m 43 #[rv a1, .val (.double x), .second, iv (0 : Int32), .unset] [(.int (0 : Int32))]))
    refine own_go (fun zt zk => (XS.ifYes X8.here hx rfl (pc0 := 43) (pc' := 63) rfl (hb hby own_d4_43) rfl ((if0 _ _).trans (teq (rfl : (0 : Int32) = (0 : Int32))).1) (by decide) (by decide) (XS.dloadN X8.here hx rfl (hb hby own_d4_63) rfl (XS.aloadN X8.here hx rfl (hb hby own_d4_64) rfl rfl zk)))) ?_
    show own_Go p e below s _ _ _ (T8.setTop (mkF m 65 #[rv a1, .val (.double x), .second, iv (0 : Int32), .unset] [(.ref a1), (.double x)]))
    obtain ⟨T9, X9, e9, st9⟩ := getF X8 hx hZ hown (host := "") (Or.inl (hw _ (List.mem_of_getElem? (i := 17) rfl))) Via.refl e8 Fx (g := (mkF m 65 #[rv a1, .val (.double x), .second, iv (0 : Int32), .unset] [(.ref a1), (.double x)])) rfl rfl (hb hby own_d4_65)
    refine own_go st9 ?_
    show own_Go p e below s _ _ _ (T9.setTop (mkF m 68 #[rv a1, .val (.double x), .second, iv (0 : Int32), .unset] [(.double (9218868437227405312 : UInt64)), (.double x)]))
    refine own_go (fun zt zk => (XS.dcmpS X9.here hx rfl (hb hby own_d4_68) rfl rfl (XS.ifNo X9.here hx rfl (hb hby own_d4_69) rfl ((if0 _ _).trans (tlt ((own_cinf hxv.1 _) : (cmpValue (FP.dcmp x (9218868437227405312 : UInt64)) .g) < (0 : Int32))).2.1) (XS.iconst X9.here hx rfl (hb hby own_d4_72) (XS.goto X9.here hx rfl (pc0 := 73) (pc' := 77) rfl (hb hby own_d4_73) (by decide) (by decide) (XS.istore X9.here hx rfl (hb hby own_d4_77) rfl (l' := #[rv a1, .val (.double x), .second, iv (0 : Int32), iv (1 : Int32)]) rfl (XS.dloadN X9.here hx rfl (hb hby own_d4_79) rfl zk))))))) ?_
    show own_Go p e below s _ _ _ (T9.setTop (mkF m 80 #[rv a1, .val (.double x), .second, iv (0 : Int32), iv (1 : Int32)] [(.double x)]))
    obtain ⟨_, _, ⟨T10, L10, k10, n10⟩, -, X10, ⟨Lc10, hQ10, l10, y10, z10⟩, st10⟩ := Jvm.LawKit.callS X9 hx (y := (⟨"java/lang/Double", "isFinite", "(D)Z"⟩ : MethodName)) hown (mvT hZ (hw _ (List.mem_of_getElem? (i := 28) rfl))) (mvT hZ (hw _ (List.mem_of_getElem? (i := 29) rfl))) (mvT hZ (hw _ (List.mem_of_getElem? (i := 30) rfl))) (mvT hZ (hw _ (List.mem_of_getElem? (i := 31) rfl))) (by decide) (backOf (W := 0) (own_risf l Z a0 hw [] x  h0 n0 Z0 hxv.1) hZ (hw _ (List.mem_of_getElem? (i := 31) rfl)) (hw _ (List.mem_of_getElem? (i := 30) rfl)) (by decide) (by decide)) (g := (mkF m 80 #[rv a1, .val (.double x), .second, iv (0 : Int32), iv (1 : Int32)] [(.double x)])) rfl (by rw [hml]; rfl) (argsL := [(.double x)]) (rest := []) (lenOf own_pd__D_Z rfl) rfl (by show 2 * 0 + _ ≤ _; exact Nat.le_of_eq rfl) (hb hby own_d4_80) (fun _ _ => ⟨rfl, e9, (by decide : 0 + 0 ≤ _), (by decide : 0 + 0 ≤ _)⟩)
    dsimp only [Pt.U, Pt.locs, Pt.cells, Pt.slots] at X10 l10 y10 z10 st10 hQ10
    subst l10 y10 z10
    obtain ⟨rfl, Nq10, e10⟩ := hQ10
    have N10 := Fr.app N0 Nq10
    refine own_go st10 ?_
    show own_Go p e below s _ _ _ (T10.setTop (mkF m 83 #[rv a1, .val (.double x), .second, iv (0 : Int32), iv (1 : Int32)] [(.int (1 : Int32))]))
    refine own_go (fun zt zk => (XS.ifNo X10.here hx rfl (hb hby own_d4_83) rfl ((if0 _ _).trans (feq ((by decide) : ¬ ((1 : Int32) = (0 : Int32)))).1) (XS.iloadN X10.here hx rfl (hb hby own_d4_86) rfl (XS.ifYes X10.here hx rfl (pc0 := 87) (pc' := 99) rfl (hb hby own_d4_87) rfl ((if0 _ _).trans (teq (rfl : (0 : Int32) = (0 : Int32))).1) (by decide) (by decide) (XS.iconst X10.here hx rfl (hb hby own_d4_99) zk))))) ?_
    show own_Go p e below s _ _ _ (T10.setTop (mkF m 100 #[rv a1, .val (.double x), .second, iv (0 : Int32), iv (1 : Int32)] [(.int (0 : Int32))]))
    exact own_fin X10 Bd.notSynchronized (fun h => by rw [Bd.returns] at h; cases h) (fun fs hr => retN X10 hx (t := .boolean) Bd.returns (by simp) (hb hby own_d4_100) hr) (by rw [e10]; exact ⟨by rw [if_neg hij]; rfl, N10, rfl⟩) (by decide) (by decide)
theorem own_pd__D_Lcom_example_corank_corank_cli_Interval_ : parseMethodDescriptor "(D)Lcom/example/corank/corank/cli/Interval;" = some ⟨[.double], some (.object "com/example/corank/corank/cli/Interval")⟩ := by decide +kernel
theorem own_pn_com_example_corank_corank_cli_IntervalAbovePinLaw : plainName "com/example/corank/corank/cli/IntervalAbovePinLaw" = true := by first | (simp [plainName, overriddenIn]; done) | decide +kernel
theorem own_ef_own_law (m : MethodId) (p1 : Int32) (p2 : Int32) (p3 : Int32) : entryFrame m #[(.int p1), (.int p2), (.int p3)] maxLocals = mkF m 0 #[iv p1, iv p2, iv p3, .unset, .unset, .unset, .unset, .unset] [] := by first | (simp [entryFrame, mkF, argsToLocals, Value.category, maxLocals]; done) | rfl
def own_Q_own_law (Z : State) (p1 : Int32) (p2 : Int32) (p3 : Int32) (h0 : Heap) (n0 : Nat) (v : Option Value) (h : Heap) (L : List Loc) : Prop := v = some (.int 1) ∧ Fr n0 L
set_option maxRecDepth 65536 in
set_option maxHeartbeats 40000000 in
theorem own_law (l : Launch) (Z : State) (a0 : Array Value) (hw : ∀ d ∈ tables_1, d.before a0 Z = true) (ws : List Jvm.Cond) (p1 : Int32) (p2 : Int32) (p3 : Int32) (h0 : Heap) (n0 : Nat) (Z0 : n0 ≤ h0.size)   :
    MetFree l x (head1 (Jvm.Cond.code x code maxLocals ret :: ws) room_1) (fun a U => a = #[(.int p1), (.int p2), (.int p3)] ∧ Z.Warmed39 U.vm ∧ U.heap = h0) (fun _ _ _ _ _ => True) (fun _ U o U' => ∃ v L, o = .returned v ∧ own_Q_own_law Z p1 p2 p3 h0 n0 v U'.heap L ∧ FrameEnd U o U' L room_1.cells room_1.slots) := by
  refine MetFree.of_bodySF (plainFor_of_name own_pn_com_example_corank_corank_cli_IntervalAbovePinLaw) hisR ?_
  intro p e s m args below meth c s₁ Bd hml0 hP hK
  obtain ⟨rfl, hZ, hh⟩ := hP
  have hx := Bd.exec
  have hby := Bd.bytes
  have hml : c.maxLocals = 8 := hml0
  have hown : s.vm.findClass "com/example/corank/corank/cli/IntervalAbovePinLaw" = some m.cls := findClass_of_methodNamed Bd.named
  have hnm := (name_of_methodNamed Bd.named Bd.method).1
  have X0 : Stand p l e room_1 s m #[(.int p1), (.int p2), (.int p3)] below meth c s₁ [] 0 0 := Stand.of_body Bd
  have e0 : s₁.heap = h0 := by rw [← hh, Bd.state]; rfl
  have N0 := Fr.nil n0
  have Kp : Keep h0 h0 [] := Keep.refl h0 _
  show own_Go p e below s (own_Q_own_law Z p1 p2 p3 h0 n0) room_1.cells room_1.slots (s₁.setTop (entryFrame m #[(.int p1), (.int p2), (.int p3)] maxLocals))
  refine own_go (fun zt zk => castTop (own_ef_own_law m p1 p2 p3) zk) ?_
  show own_Go p e below s _ _ _ (s₁.setTop (mkF m 0 #[iv p1, iv p2, iv p3, .unset, .unset, .unset, .unset, .unset] []))
  have ra := rng32 p1
  have rb := rng32 p2
  have hM := own_hv_int p1
  have hX := own_hv_int p2
  have hM1 : own_HV (2 * p1.toInt + 1) (FP.dadd (FP.i2d p1) (4602678819172646912 : UInt64)) := own_hv_add hM (by omega)
  have hM2 : own_HV (2 * p1.toInt + -1) (FP.dsub (FP.i2d p1) (4602678819172646912 : UInt64)) := own_hv_sub hM (by omega)
  have hX2 : own_HV p2.toInt (FP.dmul (FP.i2d p2) (4602678819172646912 : UInt64)) := own_hv_mul hX (by omega)
  refine own_go (fun zt zk => (XS.iloadN X0.here hx rfl (hb hby at_0) rfl (XS.i2dS X0.here hx rfl (hb hby at_1) rfl rfl zk))) ?_
  show own_Go p e below s _ _ _ (s₁.setTop (mkF m 2 #[iv p1, iv p2, iv p3, .unset, .unset, .unset, .unset, .unset] [(.double (FP.i2d p1))]))
  obtain ⟨_, _, ⟨T1, L1, k1, n1⟩, -, X1, ⟨Lc1, hQ1, l1, y1, z1⟩, st1⟩ := Jvm.LawKit.callS X0 hx (y := (⟨"com/example/corank/corank/cli/Interval", "above", "(D)Lcom/example/corank/corank/cli/Interval;"⟩ : MethodName)) hown (mvT hZ (hw _ (List.mem_of_getElem? (i := 0) rfl))) (mvT hZ (hw _ (List.mem_of_getElem? (i := 1) rfl))) (mvT hZ (hw _ (List.mem_of_getElem? (i := 2) rfl))) (mvT hZ (hw _ (List.mem_of_getElem? (i := 3) rfl))) (by decide) (backOf (W := 0) (own_rmk l Z a0 hw [] (FP.i2d p1)  h0 n0 Z0 ) hZ (hw _ (List.mem_of_getElem? (i := 3) rfl)) (hw _ (List.mem_of_getElem? (i := 2) rfl)) (by decide) (by decide)) (g := (mkF m 2 #[iv p1, iv p2, iv p3, .unset, .unset, .unset, .unset, .unset] [(.double (FP.i2d p1))])) rfl (by rw [hml]; rfl) (argsL := [(.double (FP.i2d p1))]) (rest := []) (lenOf own_pd__D_Lcom_example_corank_corank_cli_Interval_ rfl) rfl (by show 2 * 0 + _ ≤ _; exact Nat.le_of_eq rfl) (hb hby at_2) (fun _ _ => ⟨rfl, e0, (by decide : 0 + 1 ≤ _), (by decide : 0 + 4 ≤ _)⟩)
  dsimp only [Pt.U, Pt.locs, Pt.cells, Pt.slots] at X1 l1 y1 z1 st1 hQ1
  subst l1 y1 z1
  obtain ⟨b1, rfl, Nq1, K1, sz_b1, Ex, Fm, Ft, Fx, Fk⟩ := hQ1
  have N1 := Fr.app N0 Nq1
  refine own_go st1 ?_
  replace Kp := Kp.trans K1 all0
  show own_Go p e below s _ _ _ (T1.setTop (mkF m 5 #[iv p1, iv p2, iv p3, .unset, .unset, .unset, .unset, .unset] [(.ref b1)]))
  refine own_go (fun zt zk => (XS.astoreN X1.here hx rfl (hb hby at_5) rfl rfl (l' := #[iv p1, iv p2, iv p3, rv b1, .unset, .unset, .unset, .unset]) rfl (XS.iloadN X1.here hx rfl (hb hby at_6) rfl (X1.ldcI hx hown (mvT hZ (hw _ (List.mem_of_getElem? (i := 21) rfl))) (g := (mkF m 7 #[iv p1, iv p2, iv p3, rv b1, .unset, .unset, .unset, .unset] [(.int p3)])) rfl (hb hby at_7) (XS.iand X1.here hx rfl (hb hby at_9) rfl (XS.iconst X1.here hx rfl (hb hby at_10) (iremM X1 hx rfl (hb hby at_11) rfl (by decide) (XS.istore X1.here hx rfl (hb hby at_12) rfl (l' := #[iv p1, iv p2, iv p3, rv b1, iv ((p3 &&& (2147483647 : Int32)) % (5 : Int32)), .unset, .unset, .unset]) rfl zk)))))))) ?_
  show own_Go p e below s _ _ _ (T1.setTop (mkF m 14 #[iv p1, iv p2, iv p3, rv b1, iv ((p3 &&& (2147483647 : Int32)) % (5 : Int32)), .unset, .unset, .unset] []))
  generalize hv_k : ((p3 &&& (2147483647 : Int32)) % (5 : Int32)) = k
  show own_Go p e below s _ _ _ (T1.setTop (mkF m 14 #[iv p1, iv p2, iv p3, rv b1, iv k, .unset, .unset, .unset] []))
  by_cases hk0_k : k = (0 : Int32)
  · subst hk0_k
    show own_Go p e below s _ _ _ (T1.setTop (mkF m 14 #[iv p1, iv p2, iv p3, rv b1, iv (0 : Int32), .unset, .unset, .unset] []))
    refine own_go (fun zt zk => (XS.iload X1.here hx rfl (hb hby at_14) rfl (XS.ifNo X1.here hx rfl (hb hby at_16) rfl ((if0 _ _).trans (teq (rfl : (0 : Int32) = (0 : Int32))).2) (XS.iloadN X1.here hx rfl (hb hby at_19) rfl (XS.i2dS X1.here hx rfl (hb hby at_20) rfl rfl (XS.dstore X1.here hx rfl (hb hby at_21) rfl (l' := #[iv p1, iv p2, iv p3, rv b1, iv (0 : Int32), .val (.double (FP.i2d p2)), .second, .unset]) rfl (XS.iloadN X1.here hx rfl (hb hby at_23) rfl (XS.iloadN X1.here hx rfl (hb hby at_24) rfl zk)))))))) ?_
    show own_Go p e below s _ _ _ (T1.setTop (mkF m 25 #[iv p1, iv p2, iv p3, rv b1, iv (0 : Int32), .val (.double (FP.i2d p2)), .second, .unset] [(.int p1), (.int p2)]))
    by_cases hB : p1 < p2
    · refine own_go (fun zt zk => (XS.icmpNo X1.here hx rfl (hb hby at_25) rfl (tlt (hB : p1 < p2)).2.2.2 zk)) ?_
      show own_Go p e below s _ _ _ (T1.setTop (mkF m 28 #[iv p1, iv p2, iv p3, rv b1, iv (0 : Int32), .val (.double (FP.i2d p2)), .second, .unset] []))
      have hI := Int32.lt_iff_toInt_lt.mp hB
      refine own_go (fun zt zk => (XS.iconst X1.here hx rfl (hb hby at_28) (XS.goto X1.here hx rfl (pc0 := 29) (pc' := 33) rfl (hb hby at_29) (by decide) (by decide) (XS.istore X1.here hx rfl (hb hby at_33) rfl (l' := #[iv p1, iv p2, iv p3, rv b1, iv (0 : Int32), .val (.double (FP.i2d p2)), .second, iv (1 : Int32)]) rfl (XS.goto X1.here hx rfl (pc0 := 35) (pc' := 121) rfl (hb hby at_35) (by decide) (by decide) (XS.aloadN X1.here hx rfl (hb hby at_121) rfl rfl (XS.dload X1.here hx rfl (hb hby at_122) rfl zk))))))) ?_
      show own_Go p e below s _ _ _ (T1.setTop (mkF m 124 #[iv p1, iv p2, iv p3, rv b1, iv (0 : Int32), .val (.double (FP.i2d p2)), .second, iv (1 : Int32)] [(.double (FP.i2d p2)), (.ref b1)]))
      obtain ⟨cq2, kq2, qa2, qb2, qc2⟩ := isOf hZ rfl Ex
      obtain ⟨_, _, ⟨T2, L2, k2, n2⟩, -, X2, ⟨Lc2, hQ2, l2, y2, z2⟩, st2⟩ := X1.virtualBack hx (y := (⟨"com/example/corank/corank/cli/Interval", "contains", "(D)Z"⟩ : MethodName)) (z := (⟨"com/example/corank/corank/cli/Interval", "contains", "(D)Z"⟩ : MethodName)) hown (mvT hZ (hw _ (List.mem_of_getElem? (i := 23) rfl))) (mvT hZ (hw _ (List.mem_of_getElem? (i := 24) rfl))) (notFace_of_selects (args := #[]) (mvT hZ (hw _ (List.mem_of_getElem? (i := 26) rfl)))) (mvT hZ (hw _ (List.mem_of_getElem? (i := 26) rfl))) (mvT hZ (hw _ (List.mem_of_getElem? (i := 25) rfl))) (by decide) (backOf (W := 0) (own_rcont l Z a0 hw [] b1 (FP.i2d p2) (FP.i2d p1) (2 * p2.toInt) (2 * p1.toInt) T1.heap n0 (Nat.le_trans Z0 Kp.1) Ex Fm Ft Fx Fk hX hM) hZ (hw _ (List.mem_of_getElem? (i := 27) rfl)) (hw _ (List.mem_of_getElem? (i := 2) rfl)) (by decide) (by decide)) qa2 qc2 (g := (mkF m 124 #[iv p1, iv p2, iv p3, rv b1, iv (0 : Int32), .val (.double (FP.i2d p2)), .second, iv (1 : Int32)] [(.double (FP.i2d p2)), (.ref b1)])) rfl (by rw [hml]; rfl) (Steps.refl _) (argsL := [(.double (FP.i2d p2))]) (rest := []) (lenOf own_pd__D_Z rfl) rfl (by show 2 * 0 + _ ≤ _; exact Nat.le_of_eq rfl) (hb hby at_124) (fun _ _ => ⟨rfl, rfl, (by decide : 1 + 0 ≤ _), (by decide : 4 + 0 ≤ _)⟩)
      dsimp only [Pt.U, Pt.locs, Pt.cells, Pt.slots] at X2 l2 y2 z2 st2 hQ2
      subst l2 y2 z2
      obtain ⟨hv2, Nq2, e2⟩ := hQ2
      rw [if_pos (by omega)] at hv2
      subst hv2
      have N2 := Fr.app N1 Nq2
      refine own_go (fun zt zk => st2.trans zk) ?_
      show own_Go p e below s _ _ _ (T2.setTop (mkF m 127 #[iv p1, iv p2, iv p3, rv b1, iv (0 : Int32), .val (.double (FP.i2d p2)), .second, iv (1 : Int32)] [(.int (1 : Int32))]))
      refine own_go (fun zt zk => (XS.iload X2.here hx rfl (hb hby at_127) rfl (XS.icmpNo X2.here hx rfl (hb hby at_129) rfl (teq (rfl : (1 : Int32) = (1 : Int32))).2 (XS.iconst X2.here hx rfl (hb hby at_132) (XS.goto X2.here hx rfl (pc0 := 133) (pc' := 137) rfl (hb hby at_133) (by decide) (by decide) zk))))) ?_
      show own_Go p e below s _ _ _ (T2.setTop (mkF m 137 #[iv p1, iv p2, iv p3, rv b1, iv (0 : Int32), .val (.double (FP.i2d p2)), .second, iv (1 : Int32)] [(.int (1 : Int32))]))
      exact own_fin X2 Bd.notSynchronized (fun h => by rw [Bd.returns] at h; cases h) (fun fs hr => retN X2 hx (t := .boolean) Bd.returns (by simp) (hb hby at_137) hr) (by rw [e2]; exact ⟨rfl, N2⟩) (by decide) (by decide)
    · refine own_go (fun zt zk => (XS.icmpYes X1.here hx rfl (pc0 := 25) (pc' := 32) rfl (hb hby at_25) rfl (flt (hB : ¬ (p1 < p2))).2.2.2 (by decide) (by decide) zk)) ?_
      show own_Go p e below s _ _ _ (T1.setTop (mkF m 32 #[iv p1, iv p2, iv p3, rv b1, iv (0 : Int32), .val (.double (FP.i2d p2)), .second, .unset] []))
      have hI : ¬ (p1.toInt < p2.toInt) := fun q => hB (Int32.lt_iff_toInt_lt.mpr q)
      refine own_go (fun zt zk => (XS.iconst X1.here hx rfl (hb hby at_32) (XS.istore X1.here hx rfl (hb hby at_33) rfl (l' := #[iv p1, iv p2, iv p3, rv b1, iv (0 : Int32), .val (.double (FP.i2d p2)), .second, iv (0 : Int32)]) rfl (XS.goto X1.here hx rfl (pc0 := 35) (pc' := 121) rfl (hb hby at_35) (by decide) (by decide) (XS.aloadN X1.here hx rfl (hb hby at_121) rfl rfl (XS.dload X1.here hx rfl (hb hby at_122) rfl zk)))))) ?_
      show own_Go p e below s _ _ _ (T1.setTop (mkF m 124 #[iv p1, iv p2, iv p3, rv b1, iv (0 : Int32), .val (.double (FP.i2d p2)), .second, iv (0 : Int32)] [(.double (FP.i2d p2)), (.ref b1)]))
      obtain ⟨cq3, kq3, qa3, qb3, qc3⟩ := isOf hZ rfl Ex
      obtain ⟨_, _, ⟨T3, L3, k3, n3⟩, -, X3, ⟨Lc3, hQ3, l3, y3, z3⟩, st3⟩ := X1.virtualBack hx (y := (⟨"com/example/corank/corank/cli/Interval", "contains", "(D)Z"⟩ : MethodName)) (z := (⟨"com/example/corank/corank/cli/Interval", "contains", "(D)Z"⟩ : MethodName)) hown (mvT hZ (hw _ (List.mem_of_getElem? (i := 23) rfl))) (mvT hZ (hw _ (List.mem_of_getElem? (i := 24) rfl))) (notFace_of_selects (args := #[]) (mvT hZ (hw _ (List.mem_of_getElem? (i := 26) rfl)))) (mvT hZ (hw _ (List.mem_of_getElem? (i := 26) rfl))) (mvT hZ (hw _ (List.mem_of_getElem? (i := 25) rfl))) (by decide) (backOf (W := 0) (own_rcont l Z a0 hw [] b1 (FP.i2d p2) (FP.i2d p1) (2 * p2.toInt) (2 * p1.toInt) T1.heap n0 (Nat.le_trans Z0 Kp.1) Ex Fm Ft Fx Fk hX hM) hZ (hw _ (List.mem_of_getElem? (i := 27) rfl)) (hw _ (List.mem_of_getElem? (i := 2) rfl)) (by decide) (by decide)) qa3 qc3 (g := (mkF m 124 #[iv p1, iv p2, iv p3, rv b1, iv (0 : Int32), .val (.double (FP.i2d p2)), .second, iv (0 : Int32)] [(.double (FP.i2d p2)), (.ref b1)])) rfl (by rw [hml]; rfl) (Steps.refl _) (argsL := [(.double (FP.i2d p2))]) (rest := []) (lenOf own_pd__D_Z rfl) rfl (by show 2 * 0 + _ ≤ _; exact Nat.le_of_eq rfl) (hb hby at_124) (fun _ _ => ⟨rfl, rfl, (by decide : 1 + 0 ≤ _), (by decide : 4 + 0 ≤ _)⟩)
      dsimp only [Pt.U, Pt.locs, Pt.cells, Pt.slots] at X3 l3 y3 z3 st3 hQ3
      subst l3 y3 z3
      obtain ⟨hv3, Nq3, e3⟩ := hQ3
      rw [if_neg (by omega)] at hv3
      subst hv3
      have N3 := Fr.app N1 Nq3
      refine own_go (fun zt zk => st3.trans zk) ?_
      show own_Go p e below s _ _ _ (T3.setTop (mkF m 127 #[iv p1, iv p2, iv p3, rv b1, iv (0 : Int32), .val (.double (FP.i2d p2)), .second, iv (0 : Int32)] [(.int (0 : Int32))]))
      refine own_go (fun zt zk => (XS.iload X3.here hx rfl (hb hby at_127) rfl (XS.icmpNo X3.here hx rfl (hb hby at_129) rfl (teq (rfl : (0 : Int32) = (0 : Int32))).2 (XS.iconst X3.here hx rfl (hb hby at_132) (XS.goto X3.here hx rfl (pc0 := 133) (pc' := 137) rfl (hb hby at_133) (by decide) (by decide) zk))))) ?_
      show own_Go p e below s _ _ _ (T3.setTop (mkF m 137 #[iv p1, iv p2, iv p3, rv b1, iv (0 : Int32), .val (.double (FP.i2d p2)), .second, iv (0 : Int32)] [(.int (1 : Int32))]))
      exact own_fin X3 Bd.notSynchronized (fun h => by rw [Bd.returns] at h; cases h) (fun fs hr => retN X3 hx (t := .boolean) Bd.returns (by simp) (hb hby at_137) hr) (by rw [e3]; exact ⟨rfl, N3⟩) (by decide) (by decide)
  · by_cases hk1_k : k = (1 : Int32)
    · subst hk1_k
      show own_Go p e below s _ _ _ (T1.setTop (mkF m 14 #[iv p1, iv p2, iv p3, rv b1, iv (1 : Int32), .unset, .unset, .unset] []))
      refine own_go (fun zt zk => (XS.iload X1.here hx rfl (hb hby at_14) rfl (XS.ifYes X1.here hx rfl (pc0 := 16) (pc' := 38) rfl (hb hby at_16) rfl ((if0 _ _).trans (feq ((by decide) : ¬ ((1 : Int32) = (0 : Int32)))).2) (by decide) (by decide) (XS.iload X1.here hx rfl (hb hby at_38) rfl (XS.iconst X1.here hx rfl (hb hby at_40) (XS.icmpNo X1.here hx rfl (hb hby at_41) rfl (teq (rfl : (1 : Int32) = (1 : Int32))).2 (XS.iloadN X1.here hx rfl (hb hby at_44) rfl (XS.i2dS X1.here hx rfl (hb hby at_45) rfl rfl (XS.dstore X1.here hx rfl (hb hby at_46) rfl (l' := #[iv p1, iv p2, iv p3, rv b1, iv (1 : Int32), .val (.double (FP.i2d p1)), .second, .unset]) rfl (XS.iconst X1.here hx rfl (hb hby at_48) (XS.istore X1.here hx rfl (hb hby at_49) rfl (l' := #[iv p1, iv p2, iv p3, rv b1, iv (1 : Int32), .val (.double (FP.i2d p1)), .second, iv (0 : Int32)]) rfl (XS.goto X1.here hx rfl (pc0 := 51) (pc' := 121) rfl (hb hby at_51) (by decide) (by decide) (XS.aloadN X1.here hx rfl (hb hby at_121) rfl rfl zk))))))))))))) ?_
      show own_Go p e below s _ _ _ (T1.setTop (mkF m 122 #[iv p1, iv p2, iv p3, rv b1, iv (1 : Int32), .val (.double (FP.i2d p1)), .second, iv (0 : Int32)] [(.ref b1)]))
      refine own_go (fun zt zk => (XS.dload X1.here hx rfl (hb hby at_122) rfl zk)) ?_
      show own_Go p e below s _ _ _ (T1.setTop (mkF m 124 #[iv p1, iv p2, iv p3, rv b1, iv (1 : Int32), .val (.double (FP.i2d p1)), .second, iv (0 : Int32)] [(.double (FP.i2d p1)), (.ref b1)]))
      obtain ⟨cq4, kq4, qa4, qb4, qc4⟩ := isOf hZ rfl Ex
      obtain ⟨_, _, ⟨T4, L4, k4, n4⟩, -, X4, ⟨Lc4, hQ4, l4, y4, z4⟩, st4⟩ := X1.virtualBack hx (y := (⟨"com/example/corank/corank/cli/Interval", "contains", "(D)Z"⟩ : MethodName)) (z := (⟨"com/example/corank/corank/cli/Interval", "contains", "(D)Z"⟩ : MethodName)) hown (mvT hZ (hw _ (List.mem_of_getElem? (i := 23) rfl))) (mvT hZ (hw _ (List.mem_of_getElem? (i := 24) rfl))) (notFace_of_selects (args := #[]) (mvT hZ (hw _ (List.mem_of_getElem? (i := 26) rfl)))) (mvT hZ (hw _ (List.mem_of_getElem? (i := 26) rfl))) (mvT hZ (hw _ (List.mem_of_getElem? (i := 25) rfl))) (by decide) (backOf (W := 0) (own_rcont l Z a0 hw [] b1 (FP.i2d p1) (FP.i2d p1) (2 * p1.toInt) (2 * p1.toInt) T1.heap n0 (Nat.le_trans Z0 Kp.1) Ex Fm Ft Fx Fk hM hM) hZ (hw _ (List.mem_of_getElem? (i := 27) rfl)) (hw _ (List.mem_of_getElem? (i := 2) rfl)) (by decide) (by decide)) qa4 qc4 (g := (mkF m 124 #[iv p1, iv p2, iv p3, rv b1, iv (1 : Int32), .val (.double (FP.i2d p1)), .second, iv (0 : Int32)] [(.double (FP.i2d p1)), (.ref b1)])) rfl (by rw [hml]; rfl) (Steps.refl _) (argsL := [(.double (FP.i2d p1))]) (rest := []) (lenOf own_pd__D_Z rfl) rfl (by show 2 * 0 + _ ≤ _; exact Nat.le_of_eq rfl) (hb hby at_124) (fun _ _ => ⟨rfl, rfl, (by decide : 1 + 0 ≤ _), (by decide : 4 + 0 ≤ _)⟩)
      dsimp only [Pt.U, Pt.locs, Pt.cells, Pt.slots] at X4 l4 y4 z4 st4 hQ4
      subst l4 y4 z4
      obtain ⟨hv4, Nq4, e4⟩ := hQ4
      rw [if_neg (by omega)] at hv4
      subst hv4
      have N4 := Fr.app N1 Nq4
      refine own_go (fun zt zk => st4.trans zk) ?_
      show own_Go p e below s _ _ _ (T4.setTop (mkF m 127 #[iv p1, iv p2, iv p3, rv b1, iv (1 : Int32), .val (.double (FP.i2d p1)), .second, iv (0 : Int32)] [(.int (0 : Int32))]))
      refine own_go (fun zt zk => (XS.iload X4.here hx rfl (hb hby at_127) rfl (XS.icmpNo X4.here hx rfl (hb hby at_129) rfl (teq (rfl : (0 : Int32) = (0 : Int32))).2 (XS.iconst X4.here hx rfl (hb hby at_132) (XS.goto X4.here hx rfl (pc0 := 133) (pc' := 137) rfl (hb hby at_133) (by decide) (by decide) zk))))) ?_
      show own_Go p e below s _ _ _ (T4.setTop (mkF m 137 #[iv p1, iv p2, iv p3, rv b1, iv (1 : Int32), .val (.double (FP.i2d p1)), .second, iv (0 : Int32)] [(.int (1 : Int32))]))
      exact own_fin X4 Bd.notSynchronized (fun h => by rw [Bd.returns] at h; cases h) (fun fs hr => retN X4 hx (t := .boolean) Bd.returns (by simp) (hb hby at_137) hr) (by rw [e4]; exact ⟨rfl, N4⟩) (by decide) (by decide)
    · by_cases hk2_k : k = (2 : Int32)
      · subst hk2_k
        show own_Go p e below s _ _ _ (T1.setTop (mkF m 14 #[iv p1, iv p2, iv p3, rv b1, iv (2 : Int32), .unset, .unset, .unset] []))
        refine own_go (fun zt zk => (XS.iload X1.here hx rfl (hb hby at_14) rfl (XS.ifYes X1.here hx rfl (pc0 := 16) (pc' := 38) rfl (hb hby at_16) rfl ((if0 _ _).trans (feq ((by decide) : ¬ ((2 : Int32) = (0 : Int32)))).2) (by decide) (by decide) (XS.iload X1.here hx rfl (hb hby at_38) rfl (XS.iconst X1.here hx rfl (hb hby at_40) (XS.icmpYes X1.here hx rfl (pc0 := 41) (pc' := 54) rfl (hb hby at_41) rfl (feq ((by decide) : ¬ ((2 : Int32) = (1 : Int32)))).2 (by decide) (by decide) (XS.iload X1.here hx rfl (hb hby at_54) rfl (XS.iconst X1.here hx rfl (hb hby at_56) (XS.icmpNo X1.here hx rfl (hb hby at_57) rfl (teq (rfl : (2 : Int32) = (2 : Int32))).2 (XS.iloadN X1.here hx rfl (hb hby at_60) rfl (XS.i2dS X1.here hx rfl (hb hby at_61) rfl rfl (X1.ldc2DoubleC hx hown (mvT hZ (hw _ (List.mem_of_getElem? (i := 22) rfl))) (g := (mkF m 62 #[iv p1, iv p2, iv p3, rv b1, iv (2 : Int32), .unset, .unset, .unset] [(.double (FP.i2d p1))])) rfl (hb hby at_62) _ (XS.daddS X1.here hx rfl (hb hby at_65) rfl (own_nn64 hM1.1) rfl zk))))))))))))) ?_
        show own_Go p e below s _ _ _ (T1.setTop (mkF m 66 #[iv p1, iv p2, iv p3, rv b1, iv (2 : Int32), .unset, .unset, .unset] [(.double (FP.dadd (FP.i2d p1) (4602678819172646912 : UInt64)))]))
        refine own_go (fun zt zk => (XS.dstore X1.here hx rfl (hb hby at_66) rfl (l' := #[iv p1, iv p2, iv p3, rv b1, iv (2 : Int32), .val (.double (FP.dadd (FP.i2d p1) (4602678819172646912 : UInt64))), .second, .unset]) rfl (XS.iconst X1.here hx rfl (hb hby at_68) (XS.istore X1.here hx rfl (hb hby at_69) rfl (l' := #[iv p1, iv p2, iv p3, rv b1, iv (2 : Int32), .val (.double (FP.dadd (FP.i2d p1) (4602678819172646912 : UInt64))), .second, iv (1 : Int32)]) rfl (XS.goto X1.here hx rfl (pc0 := 71) (pc' := 121) rfl (hb hby at_71) (by decide) (by decide) (XS.aloadN X1.here hx rfl (hb hby at_121) rfl rfl (XS.dload X1.here hx rfl (hb hby at_122) rfl zk))))))) ?_
        show own_Go p e below s _ _ _ (T1.setTop (mkF m 124 #[iv p1, iv p2, iv p3, rv b1, iv (2 : Int32), .val (.double (FP.dadd (FP.i2d p1) (4602678819172646912 : UInt64))), .second, iv (1 : Int32)] [(.double (FP.dadd (FP.i2d p1) (4602678819172646912 : UInt64))), (.ref b1)]))
        obtain ⟨cq5, kq5, qa5, qb5, qc5⟩ := isOf hZ rfl Ex
        obtain ⟨_, _, ⟨T5, L5, k5, n5⟩, -, X5, ⟨Lc5, hQ5, l5, y5, z5⟩, st5⟩ := X1.virtualBack hx (y := (⟨"com/example/corank/corank/cli/Interval", "contains", "(D)Z"⟩ : MethodName)) (z := (⟨"com/example/corank/corank/cli/Interval", "contains", "(D)Z"⟩ : MethodName)) hown (mvT hZ (hw _ (List.mem_of_getElem? (i := 23) rfl))) (mvT hZ (hw _ (List.mem_of_getElem? (i := 24) rfl))) (notFace_of_selects (args := #[]) (mvT hZ (hw _ (List.mem_of_getElem? (i := 26) rfl)))) (mvT hZ (hw _ (List.mem_of_getElem? (i := 26) rfl))) (mvT hZ (hw _ (List.mem_of_getElem? (i := 25) rfl))) (by decide) (backOf (W := 0) (own_rcont l Z a0 hw [] b1 (FP.dadd (FP.i2d p1) (4602678819172646912 : UInt64)) (FP.i2d p1) (2 * p1.toInt + 1) (2 * p1.toInt) T1.heap n0 (Nat.le_trans Z0 Kp.1) Ex Fm Ft Fx Fk hM1 hM) hZ (hw _ (List.mem_of_getElem? (i := 27) rfl)) (hw _ (List.mem_of_getElem? (i := 2) rfl)) (by decide) (by decide)) qa5 qc5 (g := (mkF m 124 #[iv p1, iv p2, iv p3, rv b1, iv (2 : Int32), .val (.double (FP.dadd (FP.i2d p1) (4602678819172646912 : UInt64))), .second, iv (1 : Int32)] [(.double (FP.dadd (FP.i2d p1) (4602678819172646912 : UInt64))), (.ref b1)])) rfl (by rw [hml]; rfl) (Steps.refl _) (argsL := [(.double (FP.dadd (FP.i2d p1) (4602678819172646912 : UInt64)))]) (rest := []) (lenOf own_pd__D_Z rfl) rfl (by show 2 * 0 + _ ≤ _; exact Nat.le_of_eq rfl) (hb hby at_124) (fun _ _ => ⟨rfl, rfl, (by decide : 1 + 0 ≤ _), (by decide : 4 + 0 ≤ _)⟩)
        dsimp only [Pt.U, Pt.locs, Pt.cells, Pt.slots] at X5 l5 y5 z5 st5 hQ5
        subst l5 y5 z5
        obtain ⟨hv5, Nq5, e5⟩ := hQ5
        rw [if_pos (by omega)] at hv5
        subst hv5
        have N5 := Fr.app N1 Nq5
        refine own_go (fun zt zk => st5.trans zk) ?_
        show own_Go p e below s _ _ _ (T5.setTop (mkF m 127 #[iv p1, iv p2, iv p3, rv b1, iv (2 : Int32), .val (.double (FP.dadd (FP.i2d p1) (4602678819172646912 : UInt64))), .second, iv (1 : Int32)] [(.int (1 : Int32))]))
        refine own_go (fun zt zk => (XS.iload X5.here hx rfl (hb hby at_127) rfl (XS.icmpNo X5.here hx rfl (hb hby at_129) rfl (teq (rfl : (1 : Int32) = (1 : Int32))).2 (XS.iconst X5.here hx rfl (hb hby at_132) (XS.goto X5.here hx rfl (pc0 := 133) (pc' := 137) rfl (hb hby at_133) (by decide) (by decide) zk))))) ?_
        show own_Go p e below s _ _ _ (T5.setTop (mkF m 137 #[iv p1, iv p2, iv p3, rv b1, iv (2 : Int32), .val (.double (FP.dadd (FP.i2d p1) (4602678819172646912 : UInt64))), .second, iv (1 : Int32)] [(.int (1 : Int32))]))
        exact own_fin X5 Bd.notSynchronized (fun h => by rw [Bd.returns] at h; cases h) (fun fs hr => retN X5 hx (t := .boolean) Bd.returns (by simp) (hb hby at_137) hr) (by rw [e5]; exact ⟨rfl, N5⟩) (by decide) (by decide)
      · by_cases hk3_k : k = (3 : Int32)
        · subst hk3_k
          show own_Go p e below s _ _ _ (T1.setTop (mkF m 14 #[iv p1, iv p2, iv p3, rv b1, iv (3 : Int32), .unset, .unset, .unset] []))
          refine own_go (fun zt zk => (XS.iload X1.here hx rfl (hb hby at_14) rfl (XS.ifYes X1.here hx rfl (pc0 := 16) (pc' := 38) rfl (hb hby at_16) rfl ((if0 _ _).trans (feq ((by decide) : ¬ ((3 : Int32) = (0 : Int32)))).2) (by decide) (by decide) (XS.iload X1.here hx rfl (hb hby at_38) rfl (XS.iconst X1.here hx rfl (hb hby at_40) (XS.icmpYes X1.here hx rfl (pc0 := 41) (pc' := 54) rfl (hb hby at_41) rfl (feq ((by decide) : ¬ ((3 : Int32) = (1 : Int32)))).2 (by decide) (by decide) (XS.iload X1.here hx rfl (hb hby at_54) rfl (XS.iconst X1.here hx rfl (hb hby at_56) (XS.icmpYes X1.here hx rfl (pc0 := 57) (pc' := 74) rfl (hb hby at_57) rfl (feq ((by decide) : ¬ ((3 : Int32) = (2 : Int32)))).2 (by decide) (by decide) (XS.iload X1.here hx rfl (hb hby at_74) rfl (XS.iconst X1.here hx rfl (hb hby at_76) (XS.icmpNo X1.here hx rfl (hb hby at_77) rfl (teq (rfl : (3 : Int32) = (3 : Int32))).2 (XS.iloadN X1.here hx rfl (hb hby at_80) rfl zk))))))))))))) ?_
          show own_Go p e below s _ _ _ (T1.setTop (mkF m 81 #[iv p1, iv p2, iv p3, rv b1, iv (3 : Int32), .unset, .unset, .unset] [(.int p1)]))
          refine own_go (fun zt zk => (XS.i2dS X1.here hx rfl (hb hby at_81) rfl rfl (X1.ldc2DoubleC hx hown (mvT hZ (hw _ (List.mem_of_getElem? (i := 22) rfl))) (g := (mkF m 82 #[iv p1, iv p2, iv p3, rv b1, iv (3 : Int32), .unset, .unset, .unset] [(.double (FP.i2d p1))])) rfl (hb hby at_82) _ (XS.dsubS X1.here hx rfl (hb hby at_85) rfl (own_nn64 hM2.1) rfl (XS.dstore X1.here hx rfl (hb hby at_86) rfl (l' := #[iv p1, iv p2, iv p3, rv b1, iv (3 : Int32), .val (.double (FP.dsub (FP.i2d p1) (4602678819172646912 : UInt64))), .second, .unset]) rfl (XS.iconst X1.here hx rfl (hb hby at_88) (XS.istore X1.here hx rfl (hb hby at_89) rfl (l' := #[iv p1, iv p2, iv p3, rv b1, iv (3 : Int32), .val (.double (FP.dsub (FP.i2d p1) (4602678819172646912 : UInt64))), .second, iv (0 : Int32)]) rfl (XS.goto X1.here hx rfl (pc0 := 91) (pc' := 121) rfl (hb hby at_91) (by decide) (by decide) (XS.aloadN X1.here hx rfl (hb hby at_121) rfl rfl (XS.dload X1.here hx rfl (hb hby at_122) rfl zk)))))))))) ?_
          show own_Go p e below s _ _ _ (T1.setTop (mkF m 124 #[iv p1, iv p2, iv p3, rv b1, iv (3 : Int32), .val (.double (FP.dsub (FP.i2d p1) (4602678819172646912 : UInt64))), .second, iv (0 : Int32)] [(.double (FP.dsub (FP.i2d p1) (4602678819172646912 : UInt64))), (.ref b1)]))
          obtain ⟨cq6, kq6, qa6, qb6, qc6⟩ := isOf hZ rfl Ex
          obtain ⟨_, _, ⟨T6, L6, k6, n6⟩, -, X6, ⟨Lc6, hQ6, l6, y6, z6⟩, st6⟩ := X1.virtualBack hx (y := (⟨"com/example/corank/corank/cli/Interval", "contains", "(D)Z"⟩ : MethodName)) (z := (⟨"com/example/corank/corank/cli/Interval", "contains", "(D)Z"⟩ : MethodName)) hown (mvT hZ (hw _ (List.mem_of_getElem? (i := 23) rfl))) (mvT hZ (hw _ (List.mem_of_getElem? (i := 24) rfl))) (notFace_of_selects (args := #[]) (mvT hZ (hw _ (List.mem_of_getElem? (i := 26) rfl)))) (mvT hZ (hw _ (List.mem_of_getElem? (i := 26) rfl))) (mvT hZ (hw _ (List.mem_of_getElem? (i := 25) rfl))) (by decide) (backOf (W := 0) (own_rcont l Z a0 hw [] b1 (FP.dsub (FP.i2d p1) (4602678819172646912 : UInt64)) (FP.i2d p1) (2 * p1.toInt + -1) (2 * p1.toInt) T1.heap n0 (Nat.le_trans Z0 Kp.1) Ex Fm Ft Fx Fk hM2 hM) hZ (hw _ (List.mem_of_getElem? (i := 27) rfl)) (hw _ (List.mem_of_getElem? (i := 2) rfl)) (by decide) (by decide)) qa6 qc6 (g := (mkF m 124 #[iv p1, iv p2, iv p3, rv b1, iv (3 : Int32), .val (.double (FP.dsub (FP.i2d p1) (4602678819172646912 : UInt64))), .second, iv (0 : Int32)] [(.double (FP.dsub (FP.i2d p1) (4602678819172646912 : UInt64))), (.ref b1)])) rfl (by rw [hml]; rfl) (Steps.refl _) (argsL := [(.double (FP.dsub (FP.i2d p1) (4602678819172646912 : UInt64)))]) (rest := []) (lenOf own_pd__D_Z rfl) rfl (by show 2 * 0 + _ ≤ _; exact Nat.le_of_eq rfl) (hb hby at_124) (fun _ _ => ⟨rfl, rfl, (by decide : 1 + 0 ≤ _), (by decide : 4 + 0 ≤ _)⟩)
          dsimp only [Pt.U, Pt.locs, Pt.cells, Pt.slots] at X6 l6 y6 z6 st6 hQ6
          subst l6 y6 z6
          obtain ⟨hv6, Nq6, e6⟩ := hQ6
          rw [if_neg (by omega)] at hv6
          subst hv6
          have N6 := Fr.app N1 Nq6
          refine own_go (fun zt zk => st6.trans zk) ?_
          show own_Go p e below s _ _ _ (T6.setTop (mkF m 127 #[iv p1, iv p2, iv p3, rv b1, iv (3 : Int32), .val (.double (FP.dsub (FP.i2d p1) (4602678819172646912 : UInt64))), .second, iv (0 : Int32)] [(.int (0 : Int32))]))
          refine own_go (fun zt zk => (XS.iload X6.here hx rfl (hb hby at_127) rfl (XS.icmpNo X6.here hx rfl (hb hby at_129) rfl (teq (rfl : (0 : Int32) = (0 : Int32))).2 (XS.iconst X6.here hx rfl (hb hby at_132) (XS.goto X6.here hx rfl (pc0 := 133) (pc' := 137) rfl (hb hby at_133) (by decide) (by decide) zk))))) ?_
          show own_Go p e below s _ _ _ (T6.setTop (mkF m 137 #[iv p1, iv p2, iv p3, rv b1, iv (3 : Int32), .val (.double (FP.dsub (FP.i2d p1) (4602678819172646912 : UInt64))), .second, iv (0 : Int32)] [(.int (1 : Int32))]))
          exact own_fin X6 Bd.notSynchronized (fun h => by rw [Bd.returns] at h; cases h) (fun fs hr => retN X6 hx (t := .boolean) Bd.returns (by simp) (hb hby at_137) hr) (by rw [e6]; exact ⟨rfl, N6⟩) (by decide) (by decide)
        · have hk4_k : k = (4 : Int32) := Int32.toInt_inj.mp (by have a := own_mod (D := 5) rfl (by decide) hv_k; have b0 := own_ne 0 rfl hk0_k; have b1 := own_ne 1 rfl hk1_k; have b2 := own_ne 2 rfl hk2_k; have b3 := own_ne 3 rfl hk3_k; show k.toInt = 4; omega)
          subst hk4_k
          show own_Go p e below s _ _ _ (T1.setTop (mkF m 14 #[iv p1, iv p2, iv p3, rv b1, iv (4 : Int32), .unset, .unset, .unset] []))
          refine own_go (fun zt zk => (XS.iload X1.here hx rfl (hb hby at_14) rfl (XS.ifYes X1.here hx rfl (pc0 := 16) (pc' := 38) rfl (hb hby at_16) rfl ((if0 _ _).trans (feq ((by decide) : ¬ ((4 : Int32) = (0 : Int32)))).2) (by decide) (by decide) (XS.iload X1.here hx rfl (hb hby at_38) rfl (XS.iconst X1.here hx rfl (hb hby at_40) (XS.icmpYes X1.here hx rfl (pc0 := 41) (pc' := 54) rfl (hb hby at_41) rfl (feq ((by decide) : ¬ ((4 : Int32) = (1 : Int32)))).2 (by decide) (by decide) (XS.iload X1.here hx rfl (hb hby at_54) rfl (XS.iconst X1.here hx rfl (hb hby at_56) (XS.icmpYes X1.here hx rfl (pc0 := 57) (pc' := 74) rfl (hb hby at_57) rfl (feq ((by decide) : ¬ ((4 : Int32) = (2 : Int32)))).2 (by decide) (by decide) (XS.iload X1.here hx rfl (hb hby at_74) rfl (XS.iconst X1.here hx rfl (hb hby at_76) (XS.icmpYes X1.here hx rfl (pc0 := 77) (pc' := 94) rfl (hb hby at_77) rfl (feq ((by decide) : ¬ ((4 : Int32) = (3 : Int32)))).2 (by decide) (by decide) (XS.iloadN X1.here hx rfl (hb hby at_94) rfl zk))))))))))))) ?_
          show own_Go p e below s _ _ _ (T1.setTop (mkF m 95 #[iv p1, iv p2, iv p3, rv b1, iv (4 : Int32), .unset, .unset, .unset] [(.int p2)]))
          refine own_go (fun zt zk => (XS.i2dS X1.here hx rfl (hb hby at_95) rfl rfl (X1.ldc2DoubleC hx hown (mvT hZ (hw _ (List.mem_of_getElem? (i := 22) rfl))) (g := (mkF m 96 #[iv p1, iv p2, iv p3, rv b1, iv (4 : Int32), .unset, .unset, .unset] [(.double (FP.i2d p2))])) rfl (hb hby at_96) _ (XS.dmulS X1.here hx rfl (hb hby at_99) rfl (own_nn64 hX2.1) rfl (XS.dstore X1.here hx rfl (hb hby at_100) rfl (l' := #[iv p1, iv p2, iv p3, rv b1, iv (4 : Int32), .val (.double (FP.dmul (FP.i2d p2) (4602678819172646912 : UInt64))), .second, .unset]) rfl (XS.iloadN X1.here hx rfl (hb hby at_102) rfl (XS.i2l X1.here hx rfl (hb hby at_103) rfl (X1.ldc2J hx hown (mvT hZ (hw _ (List.mem_of_getElem? (i := 37) rfl))) (g := (mkF m 104 #[iv p1, iv p2, iv p3, rv b1, iv (4 : Int32), .val (.double (FP.dmul (FP.i2d p2) (4602678819172646912 : UInt64))), .second, .unset] [(.long (p2.toInt64))])) rfl (hb hby at_104) (XS.iloadN X1.here hx rfl (hb hby at_107) rfl (XS.i2l X1.here hx rfl (hb hby at_108) rfl (XS.lmul X1.here hx rfl (hb hby at_109) rfl (XS.lcmp X1.here hx rfl (hb hby at_110) rfl zk)))))))))))) ?_
          show own_Go p e below s _ _ _ (T1.setTop (mkF m 111 #[iv p1, iv p2, iv p3, rv b1, iv (4 : Int32), .val (.double (FP.dmul (FP.i2d p2) (4602678819172646912 : UInt64))), .second, .unset] [(.int (lcmpW (p2.toInt64) ((2 : Int64) * (p1.toInt64))))]))
          by_cases hB : (0 : Int32) < (lcmpW (p2.toInt64) ((2 : Int64) * (p1.toInt64)))
          · refine own_go (fun zt zk => (XS.ifNo X1.here hx rfl (hb hby at_111) rfl ((if0 _ _).trans (tlt (hB : (0 : Int32) < (lcmpW (p2.toInt64) ((2 : Int64) * (p1.toInt64))))).2.2.2) zk)) ?_
            show own_Go p e below s _ _ _ (T1.setTop (mkF m 114 #[iv p1, iv p2, iv p3, rv b1, iv (4 : Int32), .val (.double (FP.dmul (FP.i2d p2) (4602678819172646912 : UInt64))), .second, .unset] []))
            have hI := (own_lc p1 p2).mp hB
            refine own_go (fun zt zk => (XS.iconst X1.here hx rfl (hb hby at_114) (XS.goto X1.here hx rfl (pc0 := 115) (pc' := 119) rfl (hb hby at_115) (by decide) (by decide) (XS.istore X1.here hx rfl (hb hby at_119) rfl (l' := #[iv p1, iv p2, iv p3, rv b1, iv (4 : Int32), .val (.double (FP.dmul (FP.i2d p2) (4602678819172646912 : UInt64))), .second, iv (1 : Int32)]) rfl (XS.aloadN X1.here hx rfl (hb hby at_121) rfl rfl (XS.dload X1.here hx rfl (hb hby at_122) rfl zk)))))) ?_
            show own_Go p e below s _ _ _ (T1.setTop (mkF m 124 #[iv p1, iv p2, iv p3, rv b1, iv (4 : Int32), .val (.double (FP.dmul (FP.i2d p2) (4602678819172646912 : UInt64))), .second, iv (1 : Int32)] [(.double (FP.dmul (FP.i2d p2) (4602678819172646912 : UInt64))), (.ref b1)]))
            obtain ⟨cq7, kq7, qa7, qb7, qc7⟩ := isOf hZ rfl Ex
            obtain ⟨_, _, ⟨T7, L7, k7, n7⟩, -, X7, ⟨Lc7, hQ7, l7, y7, z7⟩, st7⟩ := X1.virtualBack hx (y := (⟨"com/example/corank/corank/cli/Interval", "contains", "(D)Z"⟩ : MethodName)) (z := (⟨"com/example/corank/corank/cli/Interval", "contains", "(D)Z"⟩ : MethodName)) hown (mvT hZ (hw _ (List.mem_of_getElem? (i := 23) rfl))) (mvT hZ (hw _ (List.mem_of_getElem? (i := 24) rfl))) (notFace_of_selects (args := #[]) (mvT hZ (hw _ (List.mem_of_getElem? (i := 26) rfl)))) (mvT hZ (hw _ (List.mem_of_getElem? (i := 26) rfl))) (mvT hZ (hw _ (List.mem_of_getElem? (i := 25) rfl))) (by decide) (backOf (W := 0) (own_rcont l Z a0 hw [] b1 (FP.dmul (FP.i2d p2) (4602678819172646912 : UInt64)) (FP.i2d p1) p2.toInt (2 * p1.toInt) T1.heap n0 (Nat.le_trans Z0 Kp.1) Ex Fm Ft Fx Fk hX2 hM) hZ (hw _ (List.mem_of_getElem? (i := 27) rfl)) (hw _ (List.mem_of_getElem? (i := 2) rfl)) (by decide) (by decide)) qa7 qc7 (g := (mkF m 124 #[iv p1, iv p2, iv p3, rv b1, iv (4 : Int32), .val (.double (FP.dmul (FP.i2d p2) (4602678819172646912 : UInt64))), .second, iv (1 : Int32)] [(.double (FP.dmul (FP.i2d p2) (4602678819172646912 : UInt64))), (.ref b1)])) rfl (by rw [hml]; rfl) (Steps.refl _) (argsL := [(.double (FP.dmul (FP.i2d p2) (4602678819172646912 : UInt64)))]) (rest := []) (lenOf own_pd__D_Z rfl) rfl (by show 2 * 0 + _ ≤ _; exact Nat.le_of_eq rfl) (hb hby at_124) (fun _ _ => ⟨rfl, rfl, (by decide : 1 + 0 ≤ _), (by decide : 4 + 0 ≤ _)⟩)
            dsimp only [Pt.U, Pt.locs, Pt.cells, Pt.slots] at X7 l7 y7 z7 st7 hQ7
            subst l7 y7 z7
            obtain ⟨hv7, Nq7, e7⟩ := hQ7
            rw [if_pos (hI)] at hv7
            subst hv7
            have N7 := Fr.app N1 Nq7
            refine own_go (fun zt zk => st7.trans zk) ?_
            show own_Go p e below s _ _ _ (T7.setTop (mkF m 127 #[iv p1, iv p2, iv p3, rv b1, iv (4 : Int32), .val (.double (FP.dmul (FP.i2d p2) (4602678819172646912 : UInt64))), .second, iv (1 : Int32)] [(.int (1 : Int32))]))
            refine own_go (fun zt zk => (XS.iload X7.here hx rfl (hb hby at_127) rfl (XS.icmpNo X7.here hx rfl (hb hby at_129) rfl (teq (rfl : (1 : Int32) = (1 : Int32))).2 (XS.iconst X7.here hx rfl (hb hby at_132) (XS.goto X7.here hx rfl (pc0 := 133) (pc' := 137) rfl (hb hby at_133) (by decide) (by decide) zk))))) ?_
            show own_Go p e below s _ _ _ (T7.setTop (mkF m 137 #[iv p1, iv p2, iv p3, rv b1, iv (4 : Int32), .val (.double (FP.dmul (FP.i2d p2) (4602678819172646912 : UInt64))), .second, iv (1 : Int32)] [(.int (1 : Int32))]))
            exact own_fin X7 Bd.notSynchronized (fun h => by rw [Bd.returns] at h; cases h) (fun fs hr => retN X7 hx (t := .boolean) Bd.returns (by simp) (hb hby at_137) hr) (by rw [e7]; exact ⟨rfl, N7⟩) (by decide) (by decide)
          · refine own_go (fun zt zk => (XS.ifYes X1.here hx rfl (pc0 := 111) (pc' := 118) rfl (hb hby at_111) rfl ((if0 _ _).trans (flt (hB : ¬ ((0 : Int32) < (lcmpW (p2.toInt64) ((2 : Int64) * (p1.toInt64)))))).2.2.2) (by decide) (by decide) zk)) ?_
            show own_Go p e below s _ _ _ (T1.setTop (mkF m 118 #[iv p1, iv p2, iv p3, rv b1, iv (4 : Int32), .val (.double (FP.dmul (FP.i2d p2) (4602678819172646912 : UInt64))), .second, .unset] []))
            have hI : ¬ (2 * p1.toInt < p2.toInt) := fun q => hB ((own_lc p1 p2).mpr q)
            refine own_go (fun zt zk => (XS.iconst X1.here hx rfl (hb hby at_118) (XS.istore X1.here hx rfl (hb hby at_119) rfl (l' := #[iv p1, iv p2, iv p3, rv b1, iv (4 : Int32), .val (.double (FP.dmul (FP.i2d p2) (4602678819172646912 : UInt64))), .second, iv (0 : Int32)]) rfl (XS.aloadN X1.here hx rfl (hb hby at_121) rfl rfl (XS.dload X1.here hx rfl (hb hby at_122) rfl zk))))) ?_
            show own_Go p e below s _ _ _ (T1.setTop (mkF m 124 #[iv p1, iv p2, iv p3, rv b1, iv (4 : Int32), .val (.double (FP.dmul (FP.i2d p2) (4602678819172646912 : UInt64))), .second, iv (0 : Int32)] [(.double (FP.dmul (FP.i2d p2) (4602678819172646912 : UInt64))), (.ref b1)]))
            obtain ⟨cq8, kq8, qa8, qb8, qc8⟩ := isOf hZ rfl Ex
            obtain ⟨_, _, ⟨T8, L8, k8, n8⟩, -, X8, ⟨Lc8, hQ8, l8, y8, z8⟩, st8⟩ := X1.virtualBack hx (y := (⟨"com/example/corank/corank/cli/Interval", "contains", "(D)Z"⟩ : MethodName)) (z := (⟨"com/example/corank/corank/cli/Interval", "contains", "(D)Z"⟩ : MethodName)) hown (mvT hZ (hw _ (List.mem_of_getElem? (i := 23) rfl))) (mvT hZ (hw _ (List.mem_of_getElem? (i := 24) rfl))) (notFace_of_selects (args := #[]) (mvT hZ (hw _ (List.mem_of_getElem? (i := 26) rfl)))) (mvT hZ (hw _ (List.mem_of_getElem? (i := 26) rfl))) (mvT hZ (hw _ (List.mem_of_getElem? (i := 25) rfl))) (by decide) (backOf (W := 0) (own_rcont l Z a0 hw [] b1 (FP.dmul (FP.i2d p2) (4602678819172646912 : UInt64)) (FP.i2d p1) p2.toInt (2 * p1.toInt) T1.heap n0 (Nat.le_trans Z0 Kp.1) Ex Fm Ft Fx Fk hX2 hM) hZ (hw _ (List.mem_of_getElem? (i := 27) rfl)) (hw _ (List.mem_of_getElem? (i := 2) rfl)) (by decide) (by decide)) qa8 qc8 (g := (mkF m 124 #[iv p1, iv p2, iv p3, rv b1, iv (4 : Int32), .val (.double (FP.dmul (FP.i2d p2) (4602678819172646912 : UInt64))), .second, iv (0 : Int32)] [(.double (FP.dmul (FP.i2d p2) (4602678819172646912 : UInt64))), (.ref b1)])) rfl (by rw [hml]; rfl) (Steps.refl _) (argsL := [(.double (FP.dmul (FP.i2d p2) (4602678819172646912 : UInt64)))]) (rest := []) (lenOf own_pd__D_Z rfl) rfl (by show 2 * 0 + _ ≤ _; exact Nat.le_of_eq rfl) (hb hby at_124) (fun _ _ => ⟨rfl, rfl, (by decide : 1 + 0 ≤ _), (by decide : 4 + 0 ≤ _)⟩)
            dsimp only [Pt.U, Pt.locs, Pt.cells, Pt.slots] at X8 l8 y8 z8 st8 hQ8
            subst l8 y8 z8
            obtain ⟨hv8, Nq8, e8⟩ := hQ8
            rw [if_neg (hI)] at hv8
            subst hv8
            have N8 := Fr.app N1 Nq8
            refine own_go (fun zt zk => st8.trans zk) ?_
            show own_Go p e below s _ _ _ (T8.setTop (mkF m 127 #[iv p1, iv p2, iv p3, rv b1, iv (4 : Int32), .val (.double (FP.dmul (FP.i2d p2) (4602678819172646912 : UInt64))), .second, iv (0 : Int32)] [(.int (0 : Int32))]))
            refine own_go (fun zt zk => (XS.iload X8.here hx rfl (hb hby at_127) rfl (XS.icmpNo X8.here hx rfl (hb hby at_129) rfl (teq (rfl : (0 : Int32) = (0 : Int32))).2 (XS.iconst X8.here hx rfl (hb hby at_132) (XS.goto X8.here hx rfl (pc0 := 133) (pc' := 137) rfl (hb hby at_133) (by decide) (by decide) zk))))) ?_
            show own_Go p e below s _ _ _ (T8.setTop (mkF m 137 #[iv p1, iv p2, iv p3, rv b1, iv (4 : Int32), .val (.double (FP.dmul (FP.i2d p2) (4602678819172646912 : UInt64))), .second, iv (0 : Int32)] [(.int (1 : Int32))]))
            exact own_fin X8 Bd.notSynchronized (fun h => by rw [Bd.returns] at h; cases h) (fun fs hr => retN X8 hx (t := .boolean) Bd.returns (by simp) (hb hby at_137) hr) (by rw [e8]; exact ⟨rfl, N8⟩) (by decide) (by decide)
set_option maxRecDepth 65536 in
set_option maxHeartbeats 40000000 in
theorem comes_1 {Post : Tables → Env → Array Value → State → Outcome → State → Prop} (hpost : ∀ tb e args s v u, (limb_1_1.after args s (.returned v) u = true ∧ limb_1_2.after args s (.returned v) u = true ∧ True) → FrameEnd s (.returned v) u (Jvm.fieldLocs frame_1_writes args s ++ Jvm.arrayLocs frame_1_arrays args s ++ Jvm.staticLocs frame_1_statics s) 16 128 → Post tb e args s (.returned v) u) :
    ArmFor flags0 classFile x code maxLocals ret World_1 tables_1 room_1 Calls_1 rest_1 Pre_1 Post := by
  intro l hfl _ _ p e ha hc hk s m args below hf hA hF happ hP
  obtain ⟨hcalls, hrest, hpre⟩ := hP
  obtain ⟨-, -, -, hnamed, -, -, -, hat⟩ := (Spec.applies_iff hf).mp happ
  obtain ⟨hg, hn⟩ := and_e (Cond.before_iff.mp (show (Jvm.Cond.and given_1 narrow_1).before args s = true from hpre))
  obtain ⟨g0, r0⟩ := and_e hg
  obtain ⟨g1, r1⟩ := and_e r0
  obtain ⟨g2, r2⟩ := and_e r1
  have g3 := r2
  obtain ⟨w0, w1, w2, rfl⟩ : ∃ w0 w1 w2 : Value, args = #[w0, w1, w2] := by
    have hs : args.size = 3 := by simpa [Cond.value, given_1] using g0
    obtain ⟨L⟩ := args
    match L, hs with
    | [w0, w1, w2], _ => exact ⟨w0, w1, w2, rfl⟩
  have hw := fun d (hd : d ∈ tables_1) => atoms_spec (ws := Jvm.Cond.code x code maxLocals ret :: tables_1) hat d (List.mem_cons_of_mem _ hd)
  have hfit : Fit s := fun {y c} hc i hi => by
    obtain ⟨ha, rfl⟩ := Array.getElem?_eq_some_iff.mp hc
    have q := List.all_eq_true.mp ((Array.all_eq_true_iff_forall_mem.mp hF) _ (Array.getElem_mem ha)) i (List.mem_range.mpr hi)
    simpa [Array.getElem?_eq_getElem hi] using q
  obtain ⟨i0, ei0⟩ := is_v g1
  obtain rfl : w0 = (.int i0) := Option.some.inj ei0
  obtain ⟨i1, ei1⟩ := is_v g2
  obtain rfl : w1 = (.int i1) := Option.some.inj ei1
  obtain ⟨i2, ei2⟩ := is_v g3
  obtain rfl : w2 = (.int i2) := Option.some.inj ei2
  obtain ⟨n, o, h1, h2, h3, _, L, rfl, ⟨rfl, N⟩, hq⟩ := own_law l s _ hw tables_1 i0 i1 i2  s.heap s.heap.size (Nat.le_refl _)  p e ha hc hk s m _ below hf ((Spec.applies_iff_loose hf).mp happ).1 ⟨rfl, State.Warmed39.refl s, rfl⟩ trivial
  refine ⟨n, _, h1, h2, h3, hpost _ _ _ _ _ _ ⟨Cond.after_iff.mpr rfl, Cond.after_iff.mpr (eq_i res_at (Term.int_eval (1)) rfl), trivial⟩ ⟨hq.1, hq.2.1, (hq.2.2.sift fun y hy => Or.inr (N y hy)).mono (by decide) (by decide)⟩⟩
theorem main_1_1 : Claimed_1_1 := comes_1 fun _ _ _ _ _ _ h hF => ⟨h.1, hF⟩
theorem main_1_2 : Claimed_1_2 := comes_1 fun _ _ _ _ _ _ h hF => ⟨h.2.1, hF⟩
end Jvm.Pilot.@@N@@
namespace Jvm.Pilot.@@N@@
open Jvm Jvm.ClassFile Sem Op Lib Jvm.Free Jvm.Stand Jvm.Pilot.@@N@@.Jvm.D
/-! MADE BY PROGRAM (witnessworld.py) out of the Statement's table words and the real class files: 13 classes; the members and pool entries that the words name. The judged class is class 1, her method 1. -/
namespace start1
open Jvm.ClassFile
def u (s : String) : CpInfo := .utf8 (stringToUtf16 s)
/-- a pool by its gaps: so many unusable entries, then the entry; so many at the end -/
def gap : Nat → List CpInfo → List CpInfo
  | 0, r => r
  | n + 1, r => .unusable :: gap n r
def poolList (es : List (Nat × CpInfo)) (last : Nat) : List CpInfo := es.foldr (fun e r => gap e.1 (e.2 :: r)) (gap last [])
def pool (es : List (Nat × CpInfo)) (last : Nat) : Array CpInfo := ⟨poolList es last⟩
def fileOf (pool : Array CpInfo) (this : Nat) (attrs : Array Attribute := #[]) (ms : Array MethodInfo := #[]) (fl : Nat := 33) (sup : Nat := 0) (ifs : Array Nat := #[]) (fds : Array FieldInfo := #[]) : ClassFile where
  minorVersion := 0
  majorVersion := 65
  constantPool := pool
  accessFlags := fl
  thisClass := this
  superClass := sup
  interfaces := ifs
  fields := fds
  methods := ms
  attributes := attrs
def plain (name : String) (sup : Option ClassId) : Class where
  name := name
  kind := .ordinary
  loader := none
  accessFlags := 33
  super := sup
  interfaces := #[]
  cf := none
  fields := #[]
  methods := #[]
  instanceTypes := #[]
  staticTypes := #[]
  resolved := #[]
  callSites := []
  init := .initialized
  statics := none
  mirror := none

def pool0 : Array CpInfo := pool [(5, u "<init>"), (0, u "()V"), (1, .class_ 10), (1, u "java/lang/Object")] 113

def k0c0 : Code := { maxStack := 0, maxLocals := 1, code := object_method_1_code, exceptionTable := #[], attributes := #[] }
def k0m0 : Method := { name := "<init>", desc := "()V", sig := { parameters := [], returnType := none }, accessFlags := 1, code := some k0c0 }
/-- java/lang/Object -/
def k0 : Class := { plain "java/lang/Object" none with
  accessFlags := 33
  interfaces := #[]
  cf := some (fileOf pool0 8 #[] #[{ accessFlags := 1, nameIndex := 5, descriptorIndex := 6, attributes := #[] }] 33 0 #[] #[])
  fields := #[]
  methods := #[k0m0]
  instanceTypes := #[]
  staticTypes := #[]
  resolved := Array.replicate 124 none
  statics := none }

def pool1 : Array CpInfo := pool [(2, .class_ 4), (1, u "java/lang/Object"), (0, u "<init>"), (0, u "()V"), (0, .methodref 8 9), (0, .class_ 10), (0, .nameAndType 11 12), (0, u "com/example/corank/corank/cli/Interval"), (0, u "above"), (0, u "(D)Lcom/example/corank/corank/cli/Interval;"), (0, .integer 2147483647), (0, .double 4602678819172646912), (1, .long 2), (1, .methodref 8 19), (0, .nameAndType 20 21), (0, u "contains"), (0, u "(D)Z"), (0, .class_ 23), (0, u "com/example/corank/corank/cli/IntervalAbovePinLaw"), (2, u "law"), (0, u "(III)Z")] 3

def k1m0 : Method := { name := "<init>", desc := "()V", sig := { parameters := [], returnType := none }, accessFlags := 1, code := none }
def k1c1 : Code := { maxStack := 6, maxLocals := 8, code := code, exceptionTable := #[], attributes := #[] }
def k1m1 : Method := { name := "law", desc := "(III)Z", sig := { parameters := [.int, .int, .int], returnType := some .boolean }, accessFlags := 9, code := some k1c1 }
/-- com/example/corank/corank/cli/IntervalAbovePinLaw -/
def k1 : Class := { plain "com/example/corank/corank/cli/IntervalAbovePinLaw" (some 0) with
  accessFlags := 49
  interfaces := #[]
  cf := some (fileOf pool1 22 #[] #[{ accessFlags := 1, nameIndex := 5, descriptorIndex := 6, attributes := #[] }, { accessFlags := 9, nameIndex := 26, descriptorIndex := 27, attributes := #[] }] 49 2 #[] #[])
  fields := #[]
  methods := #[k1m0, k1m1]
  instanceTypes := #[]
  staticTypes := #[]
  resolved := Array.replicate 31 none
  statics := none }

def pool2 : Array CpInfo := pool [(1, .methodref 2 3), (0, .class_ 4), (0, .nameAndType 5 6), (0, u "java/lang/Object"), (0, u "<init>"), (0, u "()V"), (0, .fieldref 8 9), (0, .class_ 10), (0, .nameAndType 11 12), (0, u "com/example/corank/corank/cli/Interval"), (0, u "minimum"), (0, u "D"), (0, .fieldref 8 14), (0, .nameAndType 15 16), (0, u "minimumTaken"), (0, u "Z"), (0, .fieldref 8 18), (0, .nameAndType 19 12), (0, u "maximum"), (0, .fieldref 8 21), (0, .nameAndType 22 16), (0, u "maximumTaken"), (0, .methodref 8 24), (0, .nameAndType 5 25), (0, u "(DZDZ)V"), (0, .class_ 27), (0, u "java/lang/Double"), (0, .double 9218868437227405312), (1, .methodref 26 31), (0, .nameAndType 32 33), (0, u "isFinite"), (0, u "(D)Z"), (26, u "(D)Lcom/example/corank/corank/cli/Interval;"), (0, u "above"), (2, u "contains")] 28

def k2c0 : Code := { maxStack := 3, maxLocals := 7, code := prog_27_method_1_code, exceptionTable := #[], attributes := #[] }
def k2m0 : Method := { name := "<init>", desc := "(DZDZ)V", sig := { parameters := [.double, .boolean, .double, .boolean], returnType := none }, accessFlags := 2, code := some k2c0 }
def k2c1 : Code := { maxStack := 8, maxLocals := 2, code := prog_27_method_4_code, exceptionTable := #[], attributes := #[] }
def k2m1 : Method := { name := "above", desc := "(D)Lcom/example/corank/corank/cli/Interval;", sig := { parameters := [.double], returnType := some (.object "com/example/corank/corank/cli/Interval") }, accessFlags := 8, code := some k2c1 }
def k2c2 : Code := { maxStack := 4, maxLocals := 5, code := prog_27_method_7_code, exceptionTable := #[], attributes := #[] }
def k2m2 : Method := { name := "contains", desc := "(D)Z", sig := { parameters := [.double], returnType := some .boolean }, accessFlags := 0, code := some k2c2 }
/-- com/example/corank/corank/cli/Interval -/
def k2 : Class := { plain "com/example/corank/corank/cli/Interval" (some 0) with
  accessFlags := 48
  interfaces := #[]
  cf := some (fileOf pool2 8 #[] #[{ accessFlags := 2, nameIndex := 5, descriptorIndex := 25, attributes := #[] }, { accessFlags := 8, nameIndex := 61, descriptorIndex := 60, attributes := #[] }, { accessFlags := 0, nameIndex := 64, descriptorIndex := 33, attributes := #[] }] 48 2 #[] #[{ accessFlags := 18, nameIndex := 11, descriptorIndex := 12, attributes := #[] }, { accessFlags := 18, nameIndex := 15, descriptorIndex := 16, attributes := #[] }, { accessFlags := 18, nameIndex := 19, descriptorIndex := 12, attributes := #[] }, { accessFlags := 18, nameIndex := 22, descriptorIndex := 16, attributes := #[] }])
  fields := #[{ name := "minimum", type := .double, accessFlags := 18, slot := 0, constantValue := 0 }, { name := "minimumTaken", type := .boolean, accessFlags := 18, slot := 1, constantValue := 0 }, { name := "maximum", type := .double, accessFlags := 18, slot := 2, constantValue := 0 }, { name := "maximumTaken", type := .boolean, accessFlags := 18, slot := 3, constantValue := 0 }]
  methods := #[k2m0, k2m1, k2m2]
  instanceTypes := #[.double, .boolean, .double, .boolean]
  staticTypes := #[]
  resolved := Array.replicate 93 none
  statics := none }

def pool3 : Array CpInfo := pool [(1, .class_ 2), (0, u "java/io/Serializable"), (0, .class_ 4), (0, u "java/lang/Object")] 2

/-- java/io/Serializable -/
def k3 : Class := { plain "java/io/Serializable" (some 0) with
  accessFlags := 1537
  interfaces := #[]
  cf := some (fileOf pool3 1 #[] #[] 1537 3 #[] #[])
  fields := #[]
  methods := #[]
  instanceTypes := #[]
  staticTypes := #[]
  resolved := Array.replicate 7 none
  statics := none }

def pool4 : Array CpInfo := pool [(2, .class_ 4), (1, u "java/lang/Object"), (0, u "<init>"), (0, u "()V"), (1, .class_ 10), (1, u "java/lang/Number"), (2, .class_ 14), (0, u "java/io/Serializable"), (0, u "serialVersionUID"), (0, u "J")] 20

def k4m0 : Method := { name := "<init>", desc := "()V", sig := { parameters := [], returnType := none }, accessFlags := 1, code := none }
/-- java/lang/Number -/
def k4 : Class := { plain "java/lang/Number" (some 0) with
  accessFlags := 1057
  interfaces := #[3]
  cf := some (fileOf pool4 8 #[] #[{ accessFlags := 1, nameIndex := 5, descriptorIndex := 6, attributes := #[] }] 1057 2 #[13] #[{ accessFlags := 26, nameIndex := 15, descriptorIndex := 16, attributes := #[] }])
  fields := #[{ name := "serialVersionUID", type := .long, accessFlags := 26, slot := 0, constantValue := 0 }]
  methods := #[k4m0]
  instanceTypes := #[]
  staticTypes := #[.long]
  resolved := Array.replicate 37 none
  statics := none }

def pool5 : Array CpInfo := pool [(1, .class_ 2), (0, u "java/lang/Comparable"), (0, .class_ 4), (0, u "java/lang/Object")] 7

/-- java/lang/Comparable -/
def k5 : Class := { plain "java/lang/Comparable" (some 0) with
  accessFlags := 1537
  interfaces := #[]
  cf := some (fileOf pool5 1 #[] #[] 1537 3 #[] #[])
  fields := #[]
  methods := #[]
  instanceTypes := #[]
  staticTypes := #[]
  resolved := Array.replicate 12 none
  statics := none }

def pool6 : Array CpInfo := pool [(1, .class_ 2), (0, u "java/lang/constant/Constable"), (0, .class_ 4), (0, u "java/lang/Object")] 6

/-- java/lang/constant/Constable -/
def k6 : Class := { plain "java/lang/constant/Constable" (some 0) with
  accessFlags := 1537
  interfaces := #[]
  cf := some (fileOf pool6 1 #[] #[] 1537 3 #[] #[])
  fields := #[]
  methods := #[]
  instanceTypes := #[]
  staticTypes := #[]
  resolved := Array.replicate 11 none
  statics := none }

def pool7 : Array CpInfo := pool [(1, .class_ 2), (0, u "java/lang/constant/ConstantDesc"), (0, .class_ 4), (0, u "java/lang/Object")] 32

/-- java/lang/constant/ConstantDesc -/
def k7 : Class := { plain "java/lang/constant/ConstantDesc" (some 0) with
  accessFlags := 1537
  interfaces := #[]
  cf := some (fileOf pool7 1 #[] #[] 1537 3 #[] #[])
  fields := #[]
  methods := #[]
  instanceTypes := #[]
  staticTypes := #[]
  resolved := Array.replicate 37 none
  statics := none }

def pool8 : Array CpInfo := pool [(1, .class_ 2), (0, u "java/lang/Double"), (10, u "isFinite"), (0, u "(D)Z"), (8, .class_ 25), (1, u "java/lang/Math"), (12, .methodref 23 39), (0, .nameAndType 40 41), (0, u "abs"), (0, u "(D)D"), (69, .double 9218868437227405311), (2, .class_ 116), (1, u "java/lang/Number"), (3, u "value"), (0, u "D"), (51, u "TYPE"), (0, u "Ljava/lang/Class;"), (0, .class_ 176), (0, u "java/lang/Comparable"), (0, .class_ 178), (0, u "java/lang/constant/Constable"), (0, .class_ 180), (0, u "java/lang/constant/ConstantDesc"), (0, u "POSITIVE_INFINITY"), (3, u "NEGATIVE_INFINITY"), (2, u "NaN"), (2, u "MAX_VALUE"), (0, u "MIN_NORMAL"), (0, u "MIN_VALUE"), (2, u "SIZE"), (0, u "I"), (1, u "PRECISION"), (1, u "MAX_EXPONENT"), (1, u "MIN_EXPONENT"), (1, u "BYTES"), (3, u "serialVersionUID"), (0, u "J")] 79

def k8c0 : Code := { maxStack := 4, maxLocals := 2, code := jdk_117_method_8_code, exceptionTable := #[], attributes := #[] }
def k8m0 : Method := { name := "isFinite", desc := "(D)Z", sig := { parameters := [.double], returnType := some .boolean }, accessFlags := 9, code := some k8c0 }
/-- java/lang/Double -/
def k8 : Class := { plain "java/lang/Double" (some 4) with
  accessFlags := 49
  interfaces := #[5, 6, 7]
  cf := some (fileOf pool8 1 #[] #[{ accessFlags := 9, nameIndex := 13, descriptorIndex := 14, attributes := #[] }] 49 114 #[175, 177, 179] #[{ accessFlags := 25, nameIndex := 181, descriptorIndex := 121, attributes := #[] }, { accessFlags := 25, nameIndex := 185, descriptorIndex := 121, attributes := #[] }, { accessFlags := 25, nameIndex := 188, descriptorIndex := 121, attributes := #[] }, { accessFlags := 25, nameIndex := 191, descriptorIndex := 121, attributes := #[] }, { accessFlags := 25, nameIndex := 192, descriptorIndex := 121, attributes := #[] }, { accessFlags := 25, nameIndex := 193, descriptorIndex := 121, attributes := #[] }, { accessFlags := 25, nameIndex := 196, descriptorIndex := 197, attributes := #[] }, { accessFlags := 25, nameIndex := 199, descriptorIndex := 197, attributes := #[] }, { accessFlags := 25, nameIndex := 201, descriptorIndex := 197, attributes := #[] }, { accessFlags := 25, nameIndex := 203, descriptorIndex := 197, attributes := #[] }, { accessFlags := 25, nameIndex := 205, descriptorIndex := 197, attributes := #[] }, { accessFlags := 25, nameIndex := 173, descriptorIndex := 174, attributes := #[] }, { accessFlags := 18, nameIndex := 120, descriptorIndex := 121, attributes := #[] }, { accessFlags := 26, nameIndex := 209, descriptorIndex := 210, attributes := #[] }])
  fields := #[{ name := "POSITIVE_INFINITY", type := .double, accessFlags := 25, slot := 0, constantValue := 0 }, { name := "NEGATIVE_INFINITY", type := .double, accessFlags := 25, slot := 1, constantValue := 0 }, { name := "NaN", type := .double, accessFlags := 25, slot := 2, constantValue := 0 }, { name := "MAX_VALUE", type := .double, accessFlags := 25, slot := 3, constantValue := 0 }, { name := "MIN_NORMAL", type := .double, accessFlags := 25, slot := 4, constantValue := 0 }, { name := "MIN_VALUE", type := .double, accessFlags := 25, slot := 5, constantValue := 0 }, { name := "SIZE", type := .int, accessFlags := 25, slot := 6, constantValue := 0 }, { name := "PRECISION", type := .int, accessFlags := 25, slot := 7, constantValue := 0 }, { name := "MAX_EXPONENT", type := .int, accessFlags := 25, slot := 8, constantValue := 0 }, { name := "MIN_EXPONENT", type := .int, accessFlags := 25, slot := 9, constantValue := 0 }, { name := "BYTES", type := .int, accessFlags := 25, slot := 10, constantValue := 0 }, { name := "TYPE", type := (.object "java/lang/Class"), accessFlags := 25, slot := 11, constantValue := 0 }, { name := "value", type := .double, accessFlags := 18, slot := 0, constantValue := 0 }, { name := "serialVersionUID", type := .long, accessFlags := 26, slot := 12, constantValue := 0 }]
  methods := #[k8m0]
  instanceTypes := #[.double]
  staticTypes := #[.double, .double, .double, .double, .double, .double, .int, .int, .int, .int, .int, (.object "java/lang/Class"), .long]
  resolved := Array.replicate 290 none
  statics := none }

def pool9 : Array CpInfo := pool [(1, .class_ 2), (0, u "java/lang/Math"), (1, .class_ 6), (1, u "java/lang/Object"), (0, u "<init>"), (0, u "()V"), (5, u "(D)D"), (83, .class_ 100), (1, u "java/lang/Math$RandomNumberGeneratorHolder"), (23, u "abs"), (47, u "negativeZeroFloatBits"), (0, u "J"), (2, u "negativeZeroDoubleBits"), (68, u "$assertionsDisabled"), (0, u "Z"), (91, u "twoToTheDoubleScaleDown"), (0, u "D"), (4, u "twoToTheDoubleScaleUp"), (9, u "E"), (3, u "PI"), (2, u "TAU"), (2, u "DEGREES_TO_RADIANS"), (0, u "RADIANS_TO_DEGREES")] 94

def k9m0 : Method := { name := "<init>", desc := "()V", sig := { parameters := [], returnType := none }, accessFlags := 2, code := none }
def k9c1 : Code := { maxStack := 4, maxLocals := 2, code := jdk_29_method_64_code, exceptionTable := #[], attributes := #[] }
def k9m1 : Method := { name := "abs", desc := "(D)D", sig := { parameters := [.double], returnType := some .double }, accessFlags := 9, code := some k9c1 }
/-- java/lang/Math -/
def k9 : Class := { plain "java/lang/Math" (some 0) with
  accessFlags := 49
  interfaces := #[]
  cf := some (fileOf pool9 1 #[.nestMembers #[98]] #[{ accessFlags := 2, nameIndex := 7, descriptorIndex := 8, attributes := #[] }, { accessFlags := 9, nameIndex := 124, descriptorIndex := 14, attributes := #[] }] 49 4 #[] #[{ accessFlags := 25, nameIndex := 354, descriptorIndex := 339, attributes := #[] }, { accessFlags := 25, nameIndex := 358, descriptorIndex := 339, attributes := #[] }, { accessFlags := 25, nameIndex := 361, descriptorIndex := 339, attributes := #[] }, { accessFlags := 26, nameIndex := 364, descriptorIndex := 339, attributes := #[] }, { accessFlags := 26, nameIndex := 365, descriptorIndex := 339, attributes := #[] }, { accessFlags := 26, nameIndex := 172, descriptorIndex := 173, attributes := #[] }, { accessFlags := 26, nameIndex := 176, descriptorIndex := 173, attributes := #[] }, { accessFlags := 8, nameIndex := 344, descriptorIndex := 339, attributes := #[] }, { accessFlags := 8, nameIndex := 338, descriptorIndex := 339, attributes := #[] }, { accessFlags := 4120, nameIndex := 245, descriptorIndex := 246, attributes := #[] }])
  fields := #[{ name := "E", type := .double, accessFlags := 25, slot := 0, constantValue := 0 }, { name := "PI", type := .double, accessFlags := 25, slot := 1, constantValue := 0 }, { name := "TAU", type := .double, accessFlags := 25, slot := 2, constantValue := 0 }, { name := "DEGREES_TO_RADIANS", type := .double, accessFlags := 26, slot := 3, constantValue := 0 }, { name := "RADIANS_TO_DEGREES", type := .double, accessFlags := 26, slot := 4, constantValue := 0 }, { name := "negativeZeroFloatBits", type := .long, accessFlags := 26, slot := 5, constantValue := 0 }, { name := "negativeZeroDoubleBits", type := .long, accessFlags := 26, slot := 6, constantValue := 0 }, { name := "twoToTheDoubleScaleUp", type := .double, accessFlags := 8, slot := 7, constantValue := 0 }, { name := "twoToTheDoubleScaleDown", type := .double, accessFlags := 8, slot := 8, constantValue := 0 }, { name := "$assertionsDisabled", type := .boolean, accessFlags := 4120, slot := 9, constantValue := 0 }]
  methods := #[k9m0, k9m1]
  instanceTypes := #[]
  staticTypes := #[.double, .double, .double, .double, .double, .long, .long, .double, .double, .boolean]
  resolved := Array.replicate 460 none
  statics := none }

def pool10 : Array CpInfo := pool [(1, u "java/lang/Cloneable"), (0, .class_ 1), (0, u "java/lang/Object"), (0, .class_ 3)] 3

/-- java/lang/Cloneable -/
def k10 : Class := { plain "java/lang/Cloneable" (some 0) with
  accessFlags := 1537
  interfaces := #[]
  cf := some (fileOf pool10 2 #[] #[] 1537 4 #[] #[])
  fields := #[]
  methods := #[]
  instanceTypes := #[]
  staticTypes := #[]
  resolved := Array.replicate 8 none
  statics := none }

/-- the primitive byte -/
def k11 : Class := { plain "byte" none with kind := .primitive 'B', accessFlags := 0x411 }
/-- [B -/
def k12 : Class := { plain "[B" (some 0) with kind := .array 11 .byte, interfaces := #[10, 3], accessFlags := 1041 }

def heap : Heap := #[]
def classes : Array Class := #[k0, k1, k2, k3, k4, k5, k6, k7, k8, k9, k10, k11, k12]
def interned : List (Array UInt16 × Addr) := []
def slotsUsed : Nat := 0
def theMethod : MethodId := ⟨1, 1⟩
def args0 : Array Value := #[.int 3, .int 2, .int 1]
def aboutOver (below : List Frame) : State where
  vm := { classes := classes, interned := interned.toArray }
  heap := heap
  slotsUsed := slotsUsed
  threads := #[{ frames := .invoking theMethod args0 :: below }]
def below0 : List Frame := [.native { method := ⟨0, 0⟩, args := #[] }]
def about1 : State := aboutOver below0
def p0 : Program := .bare "" "" ""
def e0 : Env := launch0.env 0 0 0
theorem w_frames : about1.frames = Frame.invoking theMethod args0 :: below0 := rfl
set_option maxRecDepth 65536 in
theorem w_args : argsFit about1.vm theMethod args0 = true := by decide +kernel
set_option maxRecDepth 65536 in
theorem w_heap : heapFits about1 = true := by decide +kernel
set_option maxRecDepth 65536 in
theorem w_runnable : about1.curStatus? = some .runnable := by decide +kernel
set_option maxRecDepth 65536 in
theorem w_alone : about1.alone = true := by decide +kernel
set_option maxRecDepth 65536 in
theorem w_named : about1.methodNamed? x = some theMethod := by decide +kernel
set_option maxRecDepth 65536 in
theorem w_hears : about1.hears theMethod below0 = true := by decide +kernel
set_option maxRecDepth 65536 in
theorem w_ripe : about1.ripe theMethod args0 below0 = true := by decide +kernel
theorem w_running : about1.status = .running := rfl
set_option maxRecDepth 65536 in
theorem w_room : about1.hasRoom e0.platform room_1 = true :=
  launch0.hasRoom_least _ room_1 (by decide +kernel) (by decide +kernel) (by decide +kernel) (by decide +kernel) (by decide +kernel) (by decide +kernel)
theorem allAtoms_all (ts : List Jvm.Cond) (a : Array Jvm.Value) (st : Jvm.State) : (allAtoms ts).before a st = ts.all (fun c => c.before a st) := by
  induction ts with
  | nil => rfl
  | cons c t ih =>
    show (Jvm.Cond.and c (allAtoms t)).before a st = _
    rw [Jvm.Cond.before_and, ih, List.all_cons]
def words1 : List Jvm.Cond := Jvm.Cond.code x code maxLocals ret :: tables_1
/-- a 'code' word, met by the world's own term for the bytes: nothing is compared byte by byte -/
theorem code_word {y : MethodName} {bytes : ByteArray} {mx : Nat} {rt : Option FieldType} {a : Array Value} {s : State} {m : MethodId} {meth : Method} {c : Code} (h1 : s.methodNamed? y = some m) (h2 : s.vm.method? m = some meth) (h3 : meth.code = some c) (h4 : c.code = bytes)
    (h5 : (c.maxLocals == mx && c.exceptionTable.isEmpty && decide (c.maxStack ≤ mostOperands) && decide (meth.sig.returnType = rt) && !meth.locks && decide (parseMethodDescriptor y.desc = some meth.sig)) = true) : (Jvm.Cond.code y bytes mx rt).before a s = true := by
  simp only [Bool.and_eq_true, beq_iff_eq, Bool.not_eq_true', decide_eq_true_eq] at h5
  obtain ⟨⟨⟨⟨⟨g1, g2⟩, g3⟩, g4⟩, g5⟩, g6⟩ := h5
  simp [Cond.before, Cond.holds, Cond.value, h1, h2, h3, h4, g1, g2, g3, g4, g5, g6]
def isCode : Jvm.Cond → Bool
  | .code _ _ _ _ => true
  | _ => false
theorem all_split {L : List Jvm.Cond} {P : Jvm.Cond → Bool} (h1 : L.all (fun c => isCode c || P c) = true) (h2 : ∀ c ∈ L.filter isCode, P c = true) : L.all P = true := by
  refine List.all_eq_true.mpr fun c hc => ?_
  have h := List.all_eq_true.mp h1 c hc
  rcases Bool.eq_false_or_eq_true (isCode c) with hi | hi
  · exact h2 c (List.mem_filter.mpr ⟨hc, hi⟩)
  · simpa [hi] using h
set_option maxRecDepth 65536 in
theorem w_c0 : (Jvm.Cond.code x code maxLocals ret).before args0 about1 = true := code_word (m := ⟨1, 1⟩) (meth := k1m1) (c := k1c1) (by decide +kernel) rfl rfl rfl (by decide +kernel)
set_option maxRecDepth 65536 in
theorem w_c1 : (Jvm.Cond.code ({ cls := "com/example/corank/corank/cli/Interval", name := "above", desc := "(D)Lcom/example/corank/corank/cli/Interval;" } : Jvm.MethodName) prog_27_method_4_code (2 : Nat) (Option.some (Jvm.ClassFile.FieldType.object "com/example/corank/corank/cli/Interval"))).before args0 about1 = true := code_word (m := ⟨2, 1⟩) (meth := k2m1) (c := k2c1) (by decide +kernel) rfl rfl rfl (by decide +kernel)
set_option maxRecDepth 65536 in
theorem w_c2 : (Jvm.Cond.code ({ cls := "com/example/corank/corank/cli/Interval", name := "<init>", desc := "(DZDZ)V" } : Jvm.MethodName) prog_27_method_1_code (7 : Nat) (Option.none : Option Jvm.ClassFile.FieldType)).before args0 about1 = true := code_word (m := ⟨2, 0⟩) (meth := k2m0) (c := k2c0) (by decide +kernel) rfl rfl rfl (by decide +kernel)
set_option maxRecDepth 65536 in
theorem w_c3 : (Jvm.Cond.code ({ cls := "java/lang/Object", name := "<init>", desc := "()V" } : Jvm.MethodName) object_method_1_code (1 : Nat) (Option.none : Option Jvm.ClassFile.FieldType)).before args0 about1 = true := code_word (m := ⟨0, 0⟩) (meth := k0m0) (c := k0c0) (by decide +kernel) rfl rfl rfl (by decide +kernel)
set_option maxRecDepth 65536 in
theorem w_c4 : (Jvm.Cond.code ({ cls := "com/example/corank/corank/cli/Interval", name := "contains", desc := "(D)Z" } : Jvm.MethodName) prog_27_method_7_code (5 : Nat) (Option.some Jvm.ClassFile.FieldType.boolean)).before args0 about1 = true := code_word (m := ⟨2, 2⟩) (meth := k2m2) (c := k2c2) (by decide +kernel) rfl rfl rfl (by decide +kernel)
set_option maxRecDepth 65536 in
theorem w_c5 : (Jvm.Cond.code ({ cls := "java/lang/Double", name := "isFinite", desc := "(D)Z" } : Jvm.MethodName) jdk_117_method_8_code (2 : Nat) (Option.some Jvm.ClassFile.FieldType.boolean)).before args0 about1 = true := code_word (m := ⟨8, 0⟩) (meth := k8m0) (c := k8c0) (by decide +kernel) rfl rfl rfl (by decide +kernel)
set_option maxRecDepth 65536 in
theorem w_c6 : (Jvm.Cond.code ({ cls := "java/lang/Math", name := "abs", desc := "(D)D" } : Jvm.MethodName) jdk_29_method_64_code (2 : Nat) (Option.some Jvm.ClassFile.FieldType.double)).before args0 about1 = true := code_word (m := ⟨9, 1⟩) (meth := k9m1) (c := k9c1) (by decide +kernel) rfl rfl rfl (by decide +kernel)
def codes1 : List Jvm.Cond := [Jvm.Cond.code x code maxLocals ret, Jvm.Cond.code ({ cls := "com/example/corank/corank/cli/Interval", name := "above", desc := "(D)Lcom/example/corank/corank/cli/Interval;" } : Jvm.MethodName) prog_27_method_4_code (2 : Nat) (Option.some (Jvm.ClassFile.FieldType.object "com/example/corank/corank/cli/Interval")), Jvm.Cond.code ({ cls := "com/example/corank/corank/cli/Interval", name := "<init>", desc := "(DZDZ)V" } : Jvm.MethodName) prog_27_method_1_code (7 : Nat) (Option.none : Option Jvm.ClassFile.FieldType), Jvm.Cond.code ({ cls := "java/lang/Object", name := "<init>", desc := "()V" } : Jvm.MethodName) object_method_1_code (1 : Nat) (Option.none : Option Jvm.ClassFile.FieldType), Jvm.Cond.code ({ cls := "com/example/corank/corank/cli/Interval", name := "contains", desc := "(D)Z" } : Jvm.MethodName) prog_27_method_7_code (5 : Nat) (Option.some Jvm.ClassFile.FieldType.boolean), Jvm.Cond.code ({ cls := "java/lang/Double", name := "isFinite", desc := "(D)Z" } : Jvm.MethodName) jdk_117_method_8_code (2 : Nat) (Option.some Jvm.ClassFile.FieldType.boolean), Jvm.Cond.code ({ cls := "java/lang/Math", name := "abs", desc := "(D)D" } : Jvm.MethodName) jdk_29_method_64_code (2 : Nat) (Option.some Jvm.ClassFile.FieldType.double)]
set_option maxRecDepth 65536 in
theorem codes_eq : words1.filter isCode = codes1 := rfl
theorem w_codes : ∀ c ∈ words1.filter isCode, c.before args0 about1 = true := by
  rw [codes_eq]
  intro c hc
  simp only [codes1, List.mem_cons, List.not_mem_nil, or_false] at hc
  rcases hc with rfl | rfl | rfl | rfl | rfl | rfl | rfl
  · exact w_c0
  · exact w_c1
  · exact w_c2
  · exact w_c3
  · exact w_c4
  · exact w_c5
  · exact w_c6
set_option maxRecDepth 65536 in
theorem w_t1 : (words1.take 24).all (fun c => isCode c || c.before args0 about1) = true := by decide +kernel
set_option maxRecDepth 65536 in
theorem w_t2 : (words1.drop 24).all (fun c => isCode c || c.before args0 about1) = true := by decide +kernel
theorem w_tables : (allAtoms (Jvm.Cond.code x code maxLocals ret :: tables_1)).before args0 about1 = true := by
  rw [allAtoms_all]
  show words1.all (fun c => c.before args0 about1) = true
  refine all_split ?_ w_codes
  rw [← List.take_append_drop 24 words1, List.all_append, w_t1, w_t2]
  rfl
set_option maxRecDepth 65536 in
theorem w_case : (Jvm.Cond.and given_1 narrow_1).before args0 about1 = true := by decide +kernel
theorem w_applies : (headSpec (Jvm.Cond.code x code maxLocals ret :: tables_1) room_1).applies x e0.platform about1 = true :=
  (Spec.applies_iff w_frames).mpr ⟨w_running, w_runnable, w_alone, w_named, w_hears, w_ripe, w_room, w_tables⟩
theorem atStart : AtStart classFile x code maxLocals ret World_1 tables_1 room_1 Calls_1 rest_1 Pre_1 launch0 p0 e0 about1 theMethod args0 below0 :=
  ⟨lists_1, trivial, launch0.admits_env _ _ _, launch0.least_env, fairChoices_fair.cas, fairChoices_fair.clock, w_frames, w_args, w_heap, w_applies, trivial, trivial, w_case⟩
end start1
theorem witness_1 : WitnessClaimed_1 := ⟨start1.p0, start1.e0, start1.about1, start1.theMethod, start1.args0, start1.below0, start1.atStart⟩
end Jvm.Pilot.@@N@@
