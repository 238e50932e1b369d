import JvmDerived
import JvmDerived.Pilot.@@N@@Statement
import JvmDerived.Pilot.@@N@@Code
set_option linter.unusedVariables false
set_option linter.unusedSimpArgs false
/- laws to paste: Road.backV (cut by pick.py; bodies as the Statement names them) -/
namespace Jvm.Pilot.@@N@@
namespace StrChars
open Jvm Sem ClassFile Op Lib Jvm.Stand Jvm.Free.XT Jvm.Free.ALB Jvm.Free.JM Jvm.Free
open Jvm.Lib.Cold (StaticIs)
/-- a char array whose places are chars -/
def Ch (a : Addr) (A : Cell) (U : State) : Prop := Arr .char a A U ∧ Typed .char A
theorem Ch.mv {a : Addr} {A : Cell} {U U' : State} (h : Ch a A U) (hal : U.vm.Alike U'.vm) (hh : U'.heap = U.heap) : Ch a A U' := ⟨h.1.mv hal hh, h.2⟩
theorem Ch.keep {a : Addr} {A : Cell} {U U' : State} (h : Ch a A U) (hal : U.vm.Alike U'.vm) (hk : U'.heap[a]? = some A) : Ch a A U' := ⟨h.1.keep hal hk, h.2⟩
/-- what place i of a char[]'s cell holds -/
def cv (A : Cell) (i : Nat) : Int32 := match A.slots[i]? with | some (.int x) => x | _ => 0
theorem Ch.get {a : Addr} {A : Cell} {U : State} (h : Ch a A U) {i : Nat} (hi : i < A.slots.size) : A.slots[i]? = some (.int (cv A i)) := by
  have e := Array.getElem?_eq_getElem hi
  have f := h.2 i _ e
  unfold cv; rw [e]
  generalize A.slots[i] = v at f
  cases v <;> simp [fits] at f ⊢
/-- the byte that i2b leaves of a char -/
def lo8 (x : Int32) : Int32 := x.toInt8.toInt32
theorem fits_lo8 (y : Int32) : fits .byte (.int (lo8 y)) = true := by
  have h1 := y.toInt8.le_toInt
  have h2 := y.toInt8.toInt_lt
  simp only [lo8, fits, Bool.and_eq_true, decide_eq_true_eq, Int32.le_iff_toInt_le, Int8.toInt_toInt32, show (-128 : Int32).toInt = -128 from by decide, show (127 : Int32).toInt = 127 from by decide]
  omega
/-- A' is A but that each place j of lo .. hi - 1 holds f j -/
def Laid (A A' : Cell) (lo hi : Nat) (f : Nat → Value) : Prop := A'.cls = A.cls ∧ A'.vm = A.vm ∧ A'.slots.size = A.slots.size ∧ ∀ i, A'.slots[i]? = if lo ≤ i ∧ i < hi then some (f i) else A.slots[i]?
theorem Laid.zero (A : Cell) (lo : Nat) (f : Nat → Value) : Laid A A lo (lo + 0) f := ⟨rfl, rfl, rfl, fun i => by rw [if_neg (by omega)]⟩
theorem Laid.step {A Ak : Cell} {lo k : Nat} {f : Nat → Value} {v : Value} (h : Laid A Ak lo k f) (hlo : lo ≤ k) (hk : k < Ak.slots.size) (hv : v = f k) : Laid A (Ak.setSlot k v) lo (k + 1) f := by
  refine ⟨h.1, h.2.1, by simpa [Cell.setSlot] using h.2.2.1, fun i => ?_⟩
  by_cases e : k = i
  · subst e; rw [Cell.slots_setSlot_self v hk, if_pos (by omega), hv]
  · rw [Cell.slots_setSlot_ne v e, h.2.2.2 i]
    by_cases q : lo ≤ i ∧ i < k
    · rw [if_pos q, if_pos (by omega)]
    · rw [if_neg q, if_neg (by omega)]
def U16 : String := "java/lang/StringUTF16"
namespace Cmp5
def yN : MethodName := ⟨"java/lang/StringUTF16", "compress", "([CI[BII)I"⟩
abbrev yB : ByteArray := jdk_52_method_21_code
theorem d0 : decode yB 0 = .ok (.iconst 0, 1) := by decide +kernel
theorem d1 : decode yB 1 = .ok (.istore 5, 2) := by decide +kernel
theorem d3 : decode yB 3 = .ok (.iload 5, 2) := by decide +kernel
theorem d5 : decode yB 5 = .ok (.iload 4, 2) := by decide +kernel
theorem d7 : decode yB 7 = .ok (.if_icmp (.ge) 37, 3) := by decide +kernel
theorem d10 : decode yB 10 = .ok (.aload_n 0, 1) := by decide +kernel
theorem d11 : decode yB 11 = .ok (.iload_n 1, 1) := by decide +kernel
theorem d12 : decode yB 12 = .ok (.caload, 1) := by decide +kernel
theorem d13 : decode yB 13 = .ok (.istore 6, 2) := by decide +kernel
theorem d15 : decode yB 15 = .ok (.iload 6, 2) := by decide +kernel
theorem d17 : decode yB 17 = .ok (.sipush 255, 3) := by decide +kernel
theorem d20 : decode yB 20 = .ok (.if_icmp (.le) 6, 3) := by decide +kernel
theorem d26 : decode yB 26 = .ok (.aload_n 2, 1) := by decide +kernel
theorem d27 : decode yB 27 = .ok (.iload_n 3, 1) := by decide +kernel
theorem d28 : decode yB 28 = .ok (.iload 6, 2) := by decide +kernel
theorem d30 : decode yB 30 = .ok (.i2b, 1) := by decide +kernel
theorem d31 : decode yB 31 = .ok (.bastore, 1) := by decide +kernel
theorem d32 : decode yB 32 = .ok (.iinc 1 1, 3) := by decide +kernel
theorem d35 : decode yB 35 = .ok (.iinc 3 1, 3) := by decide +kernel
theorem d38 : decode yB 38 = .ok (.iinc 5 1, 3) := by decide +kernel
theorem d41 : decode yB 41 = .ok (.goto (-38), 3) := by decide +kernel
theorem d44 : decode yB 44 = .ok (.iload 4, 2) := by decide +kernel
theorem d46 : decode yB 46 = .ok (.ireturn, 1) := by decide +kernel
def site : List Cond := []
def tab : Cond := tabOf yN yB 7 (some .int) site
def P (b : Addr) (A : Cell) (d : Addr) (B : Cell) (o q len : Nat) (args : Array Value) (s : State) : Prop := args = #[.ref b, .int (Int32.ofNat o), .ref d, .int (Int32.ofNat q), .int (Int32.ofNat len)] ∧ Ch b A s ∧ Arr .byte d B s ∧ b ≠ d ∧ o + len ≤ A.slots.size ∧ q + len ≤ B.slots.size ∧ ∀ i, i < len → ¬ 255 < cv A (o + i)
def E (b : Addr) (A : Cell) (d : Addr) (B : Cell) (o q len : Nat) (r : Option Value) (s u : State) : Prop := r = some (.int (Int32.ofNat len)) ∧ ∃ B', Put d B' s u ∧ Laid B B' q (q + len) (fun j => Value.int (lo8 (cv A (o + (j - q)))))
/-- no char of the range above 255: len; the places written hold each char's low byte -/
theorem law (l : Launch) (b : Addr) (A : Cell) (d : Addr) (B : Cell) (o q len : Nat) : Law l yN 5 5 0 0 yB 7 (some .int) site (P b A d B o q len) (E b A d B o q len) (copyLocs d q len) 0 0 := by
  refine Law.of_walk (plainFor_of_name (by decide +kernel)) (by decide +kernel) (by decide +kernel) (by decide) (fun _ _ h => by rw [h.1]; rfl) (fun _ U U' hal hh h => ⟨h.1, h.2.1.mv hal hh, h.2.2.1.mv hal hh, h.2.2.2⟩) (fun r U U' V V' h1 hal h2 h => ⟨h.1, h.2.elim fun B' q => ⟨B', q.1.mv h1 h2, q.2⟩⟩) ?_
  intro p e s m args below meth c s₁ X0 hexec hbytes hml hret hlk hnm hown hh0 W hP
  obtain ⟨rfl, hA, hB, hne, l1, l2, hp⟩ := hP
  have c1 : Steps p.tables e below (s₁.setTop (entryFrame m #[.ref b, .int (Int32.ofNat o), .ref d, .int (Int32.ofNat q), .int (Int32.ofNat len)] 7)) (s₁.setTop (mkF m 0 #[.val (.ref b), .val (.int (Int32.ofNat o)), .val (.ref d), .val (.int (Int32.ofNat q)), .val (.int (Int32.ofNat len)), .unset, .unset] [])) := entry rfl
  have hA0 := hA.1.mv X0.warmed.alike hh0
  have hB0 := hB.mv X0.warmed.alike hh0
  have a31 := hA.1.2.2.2
  have c2 : Steps p.tables e below (s₁.setTop (entryFrame m #[.ref b, .int (Int32.ofNat o), .ref d, .int (Int32.ofNat q), .int (Int32.ofNat len)] 7)) (s₁.setTop (mkF m 3 #[.val (.ref b), .val (.int (Int32.ofNat o)), .val (.ref d), .val (.int (Int32.ofNat q)), .val (.int (Int32.ofNat len)), .val (.int 0), .unset] [])) := c1.trans (by
    refine iconstV X0.here hexec rfl 0 (hb hbytes d0) (by decide) ?_
    refine XS.istore X0.here hexec rfl (hb hbytes d1) rfl rfl ?_
    exact Steps.refl _)
  have loop : ∀ (r i : Nat), i + r = len → ∀ (z : Slot), (z = .unset ∨ ∃ w, z = .val w ∧ w.category = 1) → ∀ (Tl : State) (Bk : Cell), Stand p l e { frames := 0, locals := 0, cells := 0, slots := 0 } s m #[.ref b, .int (Int32.ofNat o), .ref d, .int (Int32.ofNat q), .int (Int32.ofNat len)] below meth c Tl ([] ++ copyLocs d q i) 0 0 → Put d Bk s₁ Tl → Laid B Bk q (q + i) (fun j => Value.int (lo8 (cv A (o + (j - q))))) →
      Steps p.tables e below (s₁.setTop (entryFrame m #[.ref b, .int (Int32.ofNat o), .ref d, .int (Int32.ofNat q), .int (Int32.ofNat len)] 7)) (Tl.setTop (mkF m 3 #[.val (.ref b), .val (.int (Int32.ofNat (o + i))), .val (.ref d), .val (.int (Int32.ofNat (q + i))), .val (.int (Int32.ofNat len)), .val (.int (Int32.ofNat i)), z] [])) → ∃ (T' : State) (B' : Cell) (z' : Slot), Stand p l e { frames := 0, locals := 0, cells := 0, slots := 0 } s m #[.ref b, .int (Int32.ofNat o), .ref d, .int (Int32.ofNat q), .int (Int32.ofNat len)] below meth c T' ([] ++ copyLocs d q len) 0 0 ∧ Put d B' s₁ T' ∧ Laid B B' q (q + len) (fun j => Value.int (lo8 (cv A (o + (j - q))))) ∧
      Steps p.tables e below (s₁.setTop (entryFrame m #[.ref b, .int (Int32.ofNat o), .ref d, .int (Int32.ofNat q), .int (Int32.ofNat len)] 7)) (T'.setTop (mkF m 3 #[.val (.ref b), .val (.int (Int32.ofNat (o + len))), .val (.ref d), .val (.int (Int32.ofNat (q + len))), .val (.int (Int32.ofNat len)), .val (.int (Int32.ofNat len)), z'] [])) := by
    intro r
    induction r with
    | zero =>
      intro i hi z hz Tl Bk Xl pl fl cl
      have hil : i = len := by omega
      rw [hil] at Xl fl cl
      exact ⟨Tl, Bk, z, Xl, pl, fl, cl⟩
    | succ r ih =>
      intro i hi z hz Tl Bk Xl pl fl cl
      have all := X0.warmed.alike.symm.trans Xl.warmed.alike
      have hAl := hA0.keep all (pl.other hne hA0.1)
      have hBk := hB0.like all pl.1 fl.1 fl.2.1 fl.2.2.1
      have hlt : q + i < Bk.slots.size := by rw [fl.2.2.1]; omega
      have c3 : Steps p.tables e below (s₁.setTop (entryFrame m #[.ref b, .int (Int32.ofNat o), .ref d, .int (Int32.ofNat q), .int (Int32.ofNat len)] 7)) (Tl.setTop (mkF m 12 #[.val (.ref b), .val (.int (Int32.ofNat (o + i))), .val (.ref d), .val (.int (Int32.ofNat (q + i))), .val (.int (Int32.ofNat len)), .val (.int (Int32.ofNat i)), z] [.int (Int32.ofNat (o + i)), .ref b])) := cl.trans (by
        refine XS.iload Xl.here hexec rfl (hb hbytes d3) rfl ?_
        refine XS.iload Xl.here hexec rfl (hb hbytes d5) rfl ?_
        refine XS.icmpNo Xl.here hexec rfl (hb hbytes d7) rfl (ii_ge_f (lt32 (by omega) (by omega))) ?_
        refine XS.aloadN Xl.here hexec rfl (hb hbytes d10) rfl rfl ?_
        refine XS.iloadN Xl.here hexec rfl (hb hbytes d11) rfl ?_
        exact Steps.refl _)
      have c4 : Steps p.tables e below (s₁.setTop (entryFrame m #[.ref b, .int (Int32.ofNat o), .ref d, .int (Int32.ofNat q), .int (Int32.ofNat len)] 7)) (Tl.setTop (mkF m 13 #[.val (.ref b), .val (.int (Int32.ofNat (o + i))), .val (.ref d), .val (.int (Int32.ofNat (q + i))), .val (.int (Int32.ofNat len)), .val (.int (Int32.ofNat i)), z] [.int (cv A (o + i))])) := c3.trans (by
        refine Xl.aget hexec hAl rfl (hA.get (i := o + i) (by omega)) rfl rfl (hb hbytes d12) ?_
        exact Steps.refl _)
      have c5 : Steps p.tables e below (s₁.setTop (entryFrame m #[.ref b, .int (Int32.ofNat o), .ref d, .int (Int32.ofNat q), .int (Int32.ofNat len)] 7)) (Tl.setTop (mkF m 15 #[.val (.ref b), .val (.int (Int32.ofNat (o + i))), .val (.ref d), .val (.int (Int32.ofNat (q + i))), .val (.int (Int32.ofNat len)), .val (.int (Int32.ofNat i)), .val (.int (cv A (o + i)))] [])) := c4.trans (by
        refine XS.istoreS Xl.here hexec rfl (hb hbytes d13) rfl rfl hz ?_
        exact Steps.refl _)
      have c6 : Steps p.tables e below (s₁.setTop (entryFrame m #[.ref b, .int (Int32.ofNat o), .ref d, .int (Int32.ofNat q), .int (Int32.ofNat len)] 7)) (Tl.setTop (mkF m 31 #[.val (.ref b), .val (.int (Int32.ofNat (o + i))), .val (.ref d), .val (.int (Int32.ofNat (q + i))), .val (.int (Int32.ofNat len)), .val (.int (Int32.ofNat i)), .val (.int (cv A (o + i)))] [.int (lo8 (cv A (o + i))), .int (Int32.ofNat (q + i)), .ref d])) := c5.trans (by
        refine XS.iload Xl.here hexec rfl (hb hbytes d15) rfl ?_
        refine sipushV Xl.here hexec rfl 255 (hb hbytes d17) (by decide) ?_
        refine XS.icmpYes Xl.here hexec rfl (pc0 := 20) rfl (hb hbytes d20) rfl (ii_le_t (hp i (by omega))) (by decide) rfl ?_
        refine XS.aloadN Xl.here hexec rfl (hb hbytes d26) rfl rfl ?_
        refine XS.iloadN Xl.here hexec rfl (hb hbytes d27) rfl ?_
        refine XS.iload Xl.here hexec rfl (hb hbytes d28) rfl ?_
        refine i2b Xl.here hexec rfl (hb hbytes d30) rfl ?_
        exact Steps.refl _)
      obtain ⟨T7, X7, p7, st7⟩ := Xl.aput hexec hBk rfl hlt rfl (fits_lo8 (cv A (o + i))) (g := (mkF m 31 #[.val (.ref b), .val (.int (Int32.ofNat (o + i))), .val (.ref d), .val (.int (Int32.ofNat (q + i))), .val (.int (Int32.ofNat len)), .val (.int (Int32.ofNat i)), .val (.int (cv A (o + i)))] [.int (lo8 (cv A (o + i))), .int (Int32.ofNat (q + i)), .ref d])) rfl (rest := []) rfl (hb hbytes d31)
      have c8 : Steps p.tables e below (s₁.setTop (entryFrame m #[.ref b, .int (Int32.ofNat o), .ref d, .int (Int32.ofNat q), .int (Int32.ofNat len)] 7)) (T7.setTop (mkF m 32 #[.val (.ref b), .val (.int (Int32.ofNat (o + i))), .val (.ref d), .val (.int (Int32.ofNat (q + i))), .val (.int (Int32.ofNat len)), .val (.int (Int32.ofNat i)), .val (.int (cv A (o + i)))] [])) := c6.trans (st7 _ (Steps.refl _))
      have c9 : Steps p.tables e below (s₁.setTop (entryFrame m #[.ref b, .int (Int32.ofNat o), .ref d, .int (Int32.ofNat q), .int (Int32.ofNat len)] 7)) (T7.setTop (mkF m 3 #[.val (.ref b), .val (.int (Int32.ofNat (o + i) + 1)), .val (.ref d), .val (.int (Int32.ofNat (q + i) + 1)), .val (.int (Int32.ofNat len)), .val (.int (Int32.ofNat i + 1)), .val (.int (cv A (o + i)))] [])) := c8.trans (by
        refine iincV X7.here hexec rfl 1 (hb hbytes d32) (by decide) rfl rfl ?_
        refine iincV X7.here hexec rfl 1 (hb hbytes d35) (by decide) rfl rfl ?_
        refine iincV X7.here hexec rfl 1 (hb hbytes d38) (by decide) rfl rfl ?_
        refine XS.goto X7.here hexec rfl (pc0 := 41) rfl (hb hbytes d41) (by decide) rfl ?_
        exact Steps.refl _)
      have c10 : Steps p.tables e below (s₁.setTop (entryFrame m #[.ref b, .int (Int32.ofNat o), .ref d, .int (Int32.ofNat q), .int (Int32.ofNat len)] 7)) (T7.setTop (mkF m 3 #[.val (.ref b), .val (.int (Int32.ofNat (o + (i + 1)))), .val (.ref d), .val (.int (Int32.ofNat (q + (i + 1)))), .val (.int (Int32.ofNat len)), .val (.int (Int32.ofNat (i + 1))), .val (.int (cv A (o + i)))] [])) := by
        have := c9
        rw [succ32, succ32, succ32] at this
        exact this
      exact ih (i + 1) (by omega) _ (Or.inr ⟨_, rfl, rfl⟩) T7 _ (by rw [copyLocs_step, ← List.append_assoc]; exact X7) (pl.trans p7) (fl.step (by omega) hlt (by simp)) c10
  obtain ⟨T9, B9, z9, X9, p9, f9, g9⟩ := loop len 0 (by omega) .unset (Or.inl rfl) s₁ B (by simpa [copyLocs] using X0) ⟨hB0.1, fun _ _ => rfl, rfl⟩ (Laid.zero _ _ _) c2
  have c11 : Steps p.tables e below (s₁.setTop (entryFrame m #[.ref b, .int (Int32.ofNat o), .ref d, .int (Int32.ofNat q), .int (Int32.ofNat len)] 7)) (T9.setTop (mkF m 46 #[.val (.ref b), .val (.int (Int32.ofNat (o + len))), .val (.ref d), .val (.int (Int32.ofNat (q + len))), .val (.int (Int32.ofNat len)), .val (.int (Int32.ofNat len)), z9] [.int (Int32.ofNat len)])) := g9.trans (by
    refine XS.iload X9.here hexec rfl (hb hbytes d3) rfl ?_
    refine XS.iload X9.here hexec rfl (hb hbytes d5) rfl ?_
    refine XS.icmpYes X9.here hexec rfl (pc0 := 7) rfl (hb hbytes d7) rfl (ii_ge_t (nlt32 (by omega) (Nat.le_refl _))) (by decide) rfl ?_
    refine XS.iload X9.here hexec rfl (hb hbytes d44) rfl ?_
    exact Steps.refl _)
  exact ⟨T9, some (.int (Int32.ofNat len)), _, _, _, X9, by simp, rfl, rfl, (fun h => by cases h), ⟨rfl, B9, p9.from hh0, f9⟩, fun fs hl => c11.trans (X9.ireturnOut hexec hret rfl (Or.inl rfl) (hb hbytes d46) hl)⟩
end Cmp5
namespace Cmp3
def yN : MethodName := ⟨"java/lang/StringUTF16", "compress", "([CII)[B"⟩
abbrev yB : ByteArray := jdk_52_method_16_code
theorem d0 : decode yB 0 = .ok (.iload_n 2, 1) := by decide +kernel
theorem d1 : decode yB 1 = .ok (.newarray .byte, 2) := by decide +kernel
theorem d3 : decode yB 3 = .ok (.astore_n 3, 1) := by decide +kernel
theorem d4 : decode yB 4 = .ok (.aload_n 0, 1) := by decide +kernel
theorem d5 : decode yB 5 = .ok (.iload_n 1, 1) := by decide +kernel
theorem d6 : decode yB 6 = .ok (.aload_n 3, 1) := by decide +kernel
theorem d7 : decode yB 7 = .ok (.iconst 0, 1) := by decide +kernel
theorem d8 : decode yB 8 = .ok (.iload_n 2, 1) := by decide +kernel
theorem d9 : decode yB 9 = .ok (.invokestatic 115, 3) := by decide +kernel
theorem d12 : decode yB 12 = .ok (.istore 4, 2) := by decide +kernel
theorem d14 : decode yB 14 = .ok (.iload 4, 2) := by decide +kernel
theorem d16 : decode yB 16 = .ok (.iload_n 2, 1) := by decide +kernel
theorem d17 : decode yB 17 = .ok (.if_icmp (.eq) 40, 3) := by decide +kernel
theorem d57 : decode yB 57 = .ok (.aload_n 3, 1) := by decide +kernel
theorem d58 : decode yB 58 = .ok (.areturn, 1) := by decide +kernel
def site : List Cond := [.arrayClass .byte, Cmp5.tab] ++ staticW U16 115 Cmp5.yN
def tab : Cond := tabOf yN yB 6 (some (.array .byte)) site
def P (b : Addr) (A : Cell) (o len : Nat) (args : Array Value) (s : State) : Prop := args = #[.ref b, .int (Int32.ofNat o), .int (Int32.ofNat len)] ∧ Ch b A s ∧ o + len ≤ A.slots.size ∧ len ≤ 536870912 ∧ ∀ i, i < len → ¬ 255 < cv A (o + i)
def E (b : Addr) (A : Cell) (o len : Nat) (r : Option Value) (s u : State) : Prop := NewArr .byte "[B" len (fun j => .int (lo8 (cv A (o + j)))) r s u ∧ u.heap.size = s.heap.size + 1
/-- no char of the range above 255: a new byte[] of their low bytes -/
theorem law (l : Launch) (b : Addr) (A : Cell) (o len : Nat) : Law l yN 3 3 1 18 yB 6 (some (.array .byte)) site (P b A o len) (E b A o len) [] 1 len := by
  refine Law.of_walk (plainFor_of_name (by decide +kernel)) (by decide +kernel) (by decide +kernel) (by decide) (fun _ _ h => by rw [h.1]; rfl) (fun _ U U' hal hh h => ⟨h.1, h.2.1.mv hal hh, h.2.2⟩) (fun r U U' V V' h1 hal h2 h => ⟨NewArr.mv r U U' V V' h1 hal h2 h.1, by rw [h1, h2]; exact h.2⟩) ?_
  intro p e s m args below meth c s₁ X0 hexec hbytes hml hret hlk hnm hown hh0 W hP
  obtain ⟨rfl, hA, l1, l2, hp⟩ := hP
  have a31 := hA.1.2.2.2
  have c1 : Steps p.tables e below (s₁.setTop (entryFrame m #[.ref b, .int (Int32.ofNat o), .int (Int32.ofNat len)] 6)) (s₁.setTop (mkF m 0 #[.val (.ref b), .val (.int (Int32.ofNat o)), .val (.int (Int32.ofNat len)), .unset, .unset, .unset] [])) := entry rfl
  have c2 : Steps p.tables e below (s₁.setTop (entryFrame m #[.ref b, .int (Int32.ofNat o), .int (Int32.ofNat len)] 6)) (s₁.setTop (mkF m 1 #[.val (.ref b), .val (.int (Int32.ofNat o)), .val (.int (Int32.ofNat len)), .unset, .unset, .unset] [.int (Int32.ofNat len)])) := c1.trans (by
    refine XS.iloadN X0.here hexec rfl (hb hbytes d0) rfl ?_
    exact Steps.refl _)
  obtain ⟨T3, B3, X3, ba3, bs3, bv3, bh3, bf3, st3⟩ := X0.anew hexec (atype := .byte) (wk W (.arrayClass .byte)) rfl (by show len * 1 ≤ _; omega) (by omega) (g := (mkF m 1 #[.val (.ref b), .val (.int (Int32.ofNat o)), .val (.int (Int32.ofNat len)), .unset, .unset, .unset] [.int (Int32.ofNat len)])) rfl (hb hbytes d1) (rest := []) rfl (Nat.le_refl _) (by show 0 + len ≤ len; omega)
  rw [hh0] at ba3 st3
  have kp3 : XT.Kept s T3 := (XT.Kept.of_eq hh0).push bh3
  have hA3 := hA.keep X3.warmed.alike (kp3 _ _ hA.1.1)
  have hne : b ≠ s.heap.size := hA.1.ne
  have c4 : Steps p.tables e below (s₁.setTop (entryFrame m #[.ref b, .int (Int32.ofNat o), .int (Int32.ofNat len)] 6)) (T3.setTop (mkF m 3 #[.val (.ref b), .val (.int (Int32.ofNat o)), .val (.int (Int32.ofNat len)), .unset, .unset, .unset] [.ref s.heap.size])) := c2.trans (st3 _ (Steps.refl _))
  have c5 : Steps p.tables e below (s₁.setTop (entryFrame m #[.ref b, .int (Int32.ofNat o), .int (Int32.ofNat len)] 6)) (T3.setTop (mkF m 9 #[.val (.ref b), .val (.int (Int32.ofNat o)), .val (.int (Int32.ofNat len)), .val (.ref s.heap.size), .unset, .unset] [.int (Int32.ofNat len), .int 0, .ref s.heap.size, .int (Int32.ofNat o), .ref b])) := c4.trans (by
    refine XS.astoreN X3.here hexec rfl (hb hbytes d3) rfl rfl rfl ?_
    refine XS.aloadN X3.here hexec rfl (hb hbytes d4) rfl rfl ?_
    refine XS.iloadN X3.here hexec rfl (hb hbytes d5) rfl ?_
    refine XS.aloadN X3.here hexec rfl (hb hbytes d6) rfl rfl ?_
    refine iconstV X3.here hexec rfl 0 (hb hbytes d7) (by decide) ?_
    refine XS.iloadN X3.here hexec rfl (hb hbytes d8) rfl ?_
    exact Steps.refl _)
  obtain ⟨v6, T6, X6, E6, g6⟩ := X3.callS hexec (Cmp5.law l b A s.heap.size B3 o 0 len) hown (wks W (staticW U16 115 Cmp5.yN)) (wk W Cmp5.tab) (W := 0) (Nat.le_of_ble_eq_true rfl) (Nat.le_of_ble_eq_true rfl) (Nat.le_refl _) (by show 0 + len + 0 ≤ len; omega) (g := (mkF m 9 #[.val (.ref b), .val (.int (Int32.ofNat o)), .val (.int (Int32.ofNat len)), .val (.ref s.heap.size), .unset, .unset] [.int (Int32.ofNat len), .int (Int32.ofNat 0), .ref s.heap.size, .int (Int32.ofNat o), .ref b])) rfl (by rw [hml]; rfl) c5 (argsL := [.ref b, .int (Int32.ofNat o), .ref s.heap.size, .int (Int32.ofNat 0), .int (Int32.ofNat len)]) (rest := []) rfl rfl (by show 2 * 0 + 0 ≤ _; decide) (hb hbytes d9) (⟨rfl, hA3, ba3, hne, l1, by rw [bs3]; simp, hp⟩)
  obtain ⟨rfl, B6, p6, f6⟩ := E6
  have c7 : Steps p.tables e below (s₁.setTop (entryFrame m #[.ref b, .int (Int32.ofNat o), .int (Int32.ofNat len)] 6)) (T6.setTop (mkF m 12 #[.val (.ref b), .val (.int (Int32.ofNat o)), .val (.int (Int32.ofNat len)), .val (.ref s.heap.size), .unset, .unset] [.int (Int32.ofNat len)])) := g6
  have c8 : Steps p.tables e below (s₁.setTop (entryFrame m #[.ref b, .int (Int32.ofNat o), .int (Int32.ofNat len)] 6)) (T6.setTop (mkF m 58 #[.val (.ref b), .val (.int (Int32.ofNat o)), .val (.int (Int32.ofNat len)), .val (.ref s.heap.size), .val (.int (Int32.ofNat len)), .unset] [.ref s.heap.size])) := c7.trans (by
    refine XS.istore X6.here hexec rfl (hb hbytes d12) rfl rfl ?_
    refine XS.iload X6.here hexec rfl (hb hbytes d14) rfl ?_
    refine XS.iloadN X6.here hexec rfl (hb hbytes d16) rfl ?_
    refine XS.icmpYes X6.here hexec rfl (pc0 := 17) rfl (hb hbytes d17) rfl (ii_eq_t rfl) (by decide) rfl ?_
    refine XS.aloadN X6.here hexec rfl (hb hbytes d57) rfl rfl ?_
    exact Steps.refl _)
  have X8 := X6.wide (L' := []) (cells' := 1) (slots' := len) (fun x hx hlt => by
    simp only [List.nil_append, copyLocs, List.mem_map, List.mem_range] at hx
    obtain ⟨i, -, rfl⟩ := hx
    exact absurd hlt (Nat.lt_irrefl _)) (Nat.le_refl _) (by omega)
  exact ⟨T6, some (.ref s.heap.size), _, _, _, X8, rfl, rfl, rfl, (fun h => by cases h), ⟨⟨rfl, B6, ba3.like (X3.warmed.alike.symm.trans X6.warmed.alike) p6.1 f6.1 f6.2.1 f6.2.2.1, f6.2.1.trans bv3, by rw [X6.warmed.alike.findClass, f6.1]; exact bf3, by rw [f6.2.2.1, bs3]; simp, fun j hj => by rw [f6.2.2.2 j, if_pos (by omega)]; rfl, kp3.put p6 (Nat.le_refl _)⟩, by rw [p6.2.2, bh3, hh0]; simp⟩, fun fs hl => c8.trans (X8.areturnOut hexec rfl hret rfl (hb hbytes d58) hl)⟩
end Cmp3
namespace CodL
def yN : MethodName := ⟨"java/lang/StringUTF16", "coderFromArrayLen", "([BI)B"⟩
abbrev yB : ByteArray := jdk_52_method_15_code
theorem d0 : decode yB 0 = .ok (.iload_n 1, 1) := by decide +kernel
theorem d1 : decode yB 1 = .ok (.aload_n 0, 1) := by decide +kernel
theorem d2 : decode yB 2 = .ok (.arraylength, 1) := by decide +kernel
theorem d3 : decode yB 3 = .ok (.isub, 1) := by decide +kernel
theorem d4 : decode yB 4 = .ok (.bipush 31, 2) := by decide +kernel
theorem d6 : decode yB 6 = .ok (.iushr, 1) := by decide +kernel
theorem d7 : decode yB 7 = .ok (.i2b, 1) := by decide +kernel
theorem d8 : decode yB 8 = .ok (.ireturn, 1) := by decide +kernel
def site : List Cond := []
def tab : Cond := tabOf yN yB 2 (some .byte) site
def P (d : Addr) (B : Cell) (args : Array Value) (s : State) : Prop := args = #[.ref d, .int (Int32.ofNat B.slots.size)] ∧ Arr .byte d B s
def E (r : Option Value) (s u : State) : Prop := XT.PureE (some (.int 0)) r s u
/-- an array as long as the number of chars: LATIN1 -/
theorem law (l : Launch) (d : Addr) (B : Cell) : Law l yN 2 2 0 0 yB 2 (some .byte) site (P d B) E [] 0 0 := by
  refine Law.of_walk (plainFor_of_name (by decide +kernel)) (by decide +kernel) (by decide +kernel) (by decide) (fun _ _ h => by rw [h.1]; rfl) (fun _ U U' hal hh h => ⟨h.1, h.2.mv hal hh⟩) (fun r U U' V V' h1 hal h2 h => XT.PureE.mv r U U' V V' h1 hal h2 h) ?_
  intro p e s m args below meth c s₁ X0 hexec hbytes hml hret hlk hnm hown hh0 W hP
  obtain ⟨rfl, hB⟩ := hP
  have hB0 := hB.mv X0.warmed.alike hh0
  have c1 : Steps p.tables e below (s₁.setTop (entryFrame m #[.ref d, .int (Int32.ofNat B.slots.size)] 2)) (s₁.setTop (mkF m 0 #[.val (.ref d), .val (.int (Int32.ofNat B.slots.size))] [])) := entry rfl
  have c2 : Steps p.tables e below (s₁.setTop (entryFrame m #[.ref d, .int (Int32.ofNat B.slots.size)] 2)) (s₁.setTop (mkF m 2 #[.val (.ref d), .val (.int (Int32.ofNat B.slots.size))] [.ref d, .int (Int32.ofNat B.slots.size)])) := c1.trans (by
    refine XS.iloadN X0.here hexec rfl (hb hbytes d0) rfl ?_
    refine XS.aloadN X0.here hexec rfl (hb hbytes d1) rfl rfl ?_
    exact Steps.refl _)
  have c3 : Steps p.tables e below (s₁.setTop (entryFrame m #[.ref d, .int (Int32.ofNat B.slots.size)] 2)) (s₁.setTop (mkF m 8 #[.val (.ref d), .val (.int (Int32.ofNat B.slots.size))] [.int (lo8 (ushr (Int32.ofNat B.slots.size - Int32.ofNat B.slots.size) 31))])) := c2.trans (by
    refine X0.alen hexec hB0 rfl rfl (hb hbytes d2) ?_
    refine XS.isub X0.here hexec rfl (hb hbytes d3) rfl ?_
    refine bipushV X0.here hexec rfl 31 (hb hbytes d4) (by decide) ?_
    refine iushr X0.here hexec rfl (hb hbytes d6) rfl ?_
    refine i2b X0.here hexec rfl (hb hbytes d7) rfl ?_
    exact Steps.refl _)
  have e0 : lo8 (ushr (Int32.ofNat B.slots.size - Int32.ofNat B.slots.size) 31) = 0 := by rw [Int32.sub_self]; decide
  rw [e0] at c3
  exact ⟨s₁, some (.int 0), _, _, _, X0, rfl, rfl, rfl, (fun h => by cases h), ⟨rfl, hh0⟩, fun fs hl => c3.trans (X0.ireturnOut hexec hret rfl (Or.inr (Or.inr (Or.inl rfl))) (hb hbytes d8) hl)⟩
end CodL
/-- the String at a is Latin-1 over a new byte[] (the heap's one new cell): the low bytes of the len chars of A from o on; every cell but a is kept -/
def Got (a : Addr) (D : Cell) (fV fC : Field) (A : Cell) (o len : Nat) (r : Option Value) (s u : State) : Prop := r = none ∧ ∃ D' V : Cell, Blank "java/lang/String" a D' u ∧ Same D D' [fV.slot, fC.slot] ∧ D'.slots[fV.slot]? = some (.ref s.heap.size) ∧ D'.slots[fC.slot]? = some (.int 0) ∧ Arr .byte s.heap.size V u ∧ V.vm = .none ∧ u.vm.findClass "[B" = some V.cls ∧ V.slots.size = len ∧ (∀ j, j < len → V.slots[j]? = some (.int (lo8 (cv A (o + j))))) ∧ (∀ (y : Addr) (c : Cell), y ≠ a → s.heap[y]? = some c → u.heap[y]? = some c) ∧ u.heap.size = s.heap.size + 1
theorem Got.mv {a : Addr} {D A : Cell} {fV fC : Field} {o len : Nat} : ∀ r (U U' V V' : State), U'.heap = U.heap → V.vm.Alike V'.vm → V'.heap = V.heap → Got a D fV fC A o len r U V → Got a D fV fC A o len r U' V' :=
  fun r U U' V V' h1 hal h2 ⟨e0, D', X, a1, a2, a3, a4, a5, a6, a7, a8, a9, a10, a11⟩ => ⟨e0, D', X, a1.mv hal h2, a2, by rw [h1]; exact a3, a4, by rw [h1]; exact a5.mv hal h2, a6, by rw [hal.findClass]; exact a7, a8, a9, by rw [h1, h2]; exact a10, by rw [h1, h2]; exact a11⟩
namespace New4
def yN : MethodName := ⟨"java/lang/String", "<init>", "([CIILjava/lang/Void;)V"⟩
abbrev yB : ByteArray := jdk_42_method_149_code
theorem d0 : decode yB 0 = .ok (.aload_n 0, 1) := by decide +kernel
theorem d1 : decode yB 1 = .ok (.invokespecial 1, 3) := by decide +kernel
theorem d4 : decode yB 4 = .ok (.iload_n 3, 1) := by decide +kernel
theorem d5 : decode yB 5 = .ok (.ifCond (.ne) 22, 3) := by decide +kernel
theorem d27 : decode yB 27 = .ok (.getstatic 38, 3) := by decide +kernel
theorem d30 : decode yB 30 = .ok (.ifCond (.eq) 28, 3) := by decide +kernel
theorem d33 : decode yB 33 = .ok (.aload_n 1, 1) := by decide +kernel
theorem d34 : decode yB 34 = .ok (.iload_n 2, 1) := by decide +kernel
theorem d35 : decode yB 35 = .ok (.iload_n 3, 1) := by decide +kernel
theorem d36 : decode yB 36 = .ok (.invokestatic 177, 3) := by decide +kernel
theorem d39 : decode yB 39 = .ok (.astore 5, 2) := by decide +kernel
theorem d41 : decode yB 41 = .ok (.aload_n 0, 1) := by decide +kernel
theorem d42 : decode yB 42 = .ok (.aload 5, 2) := by decide +kernel
theorem d44 : decode yB 44 = .ok (.iload_n 3, 1) := by decide +kernel
theorem d45 : decode yB 45 = .ok (.invokestatic 47, 3) := by decide +kernel
theorem d48 : decode yB 48 = .ok (.putfield 15, 3) := by decide +kernel
theorem d51 : decode yB 51 = .ok (.aload_n 0, 1) := by decide +kernel
theorem d52 : decode yB 52 = .ok (.aload 5, 2) := by decide +kernel
theorem d54 : decode yB 54 = .ok (.putfield 9, 3) := by decide +kernel
theorem d57 : decode yB 57 = .ok (.return_, 1) := by decide +kernel
def site : List Cond := [.fieldLink "java/lang/String" 38 "java/lang/String" "COMPACT_STRINGS" "Z", Cmp3.tab, CodL.tab, .laysFinal "java/lang/String" "java/lang/String" "value" "[B", .fieldLink "java/lang/String" 9 "java/lang/String" "value" "[B", .laysFinal "java/lang/String" "java/lang/String" "coder" "B", .fieldLink "java/lang/String" 15 "java/lang/String" "coder" "B"] ++ objW "java/lang/String" 1 ++ staticW "java/lang/String" 177 Cmp3.yN ++ staticW "java/lang/String" 47 CodL.yN
def tab : Cond := tabOf yN yB 6 none site
def P (a : Addr) (D : Cell) (fV fC : Field) (b : Addr) (A : Cell) (z : Int32) (o len : Nat) (args : Array Value) (s : State) : Prop := args = #[.ref a, .ref b, .int (Int32.ofNat o), .int (Int32.ofNat len), .null] ∧ Blank "java/lang/String" a D s ∧ Found "java/lang/String" "value" "[B" fV s ∧ Found "java/lang/String" "coder" "B" fC s ∧ Ch b A s ∧ StaticIs s "java/lang/String" "COMPACT_STRINGS" "Z" (.int z) ∧ ¬ z = 0 ∧ 0 < len ∧ o + len ≤ A.slots.size ∧ len ≤ 536870912 ∧ ∀ i, i < len → ¬ 255 < cv A (o + i)
def E (a : Addr) (D : Cell) (fV fC : Field) (A : Cell) (o len : Nat) (r : Option Value) (s u : State) : Prop := Got a D fV fC A o len r s u
/-- len > 0, no char of the range above 255: a Latin-1 String of their low bytes -/
theorem law (l : Launch) (a : Addr) (D : Cell) (fV fC : Field) (b : Addr) (A : Cell) (z : Int32) (o len : Nat) : Law l yN 5 4 2 35 yB 6 none site (P a D fV fC b A z o len) (E a D fV fC A o len) [⟨a, fC.slot⟩, ⟨a, fV.slot⟩] 1 len := by
  refine Law.of_walk (plainFor_of_name (by decide +kernel)) (by decide +kernel) (by decide +kernel) (by decide) (fun _ _ h => by rw [h.1]; rfl) (fun _ U U' hal hh h => ⟨h.1, h.2.1.mv hal hh, h.2.2.1.al hal, h.2.2.2.1.al hal, h.2.2.2.2.1.mv hal hh, h.2.2.2.2.2.1.there hal hh, h.2.2.2.2.2.2⟩) (fun r U U' V V' h1 hal h2 h => Got.mv r U U' V V' h1 hal h2 h) ?_
  intro p e s m args below meth c s₁ X0 hexec hbytes hml hret hlk hnm hown hh0 W hP
  obtain ⟨rfl, hB, f1, f2, hA, s1, hz, l0, l1, l2, hp⟩ := hP
  have a31 := hA.1.2.2.2
  have c1 : Steps p.tables e below (s₁.setTop (entryFrame m #[.ref a, .ref b, .int (Int32.ofNat o), .int (Int32.ofNat len), .null] 6)) (s₁.setTop (mkF m 0 #[.val (.ref a), .val (.ref b), .val (.int (Int32.ofNat o)), .val (.int (Int32.ofNat len)), .val .null, .unset] [])) := entry rfl
  have c2 : Steps p.tables e below (s₁.setTop (entryFrame m #[.ref a, .ref b, .int (Int32.ofNat o), .int (Int32.ofNat len), .null] 6)) (s₁.setTop (mkF m 1 #[.val (.ref a), .val (.ref b), .val (.int (Int32.ofNat o)), .val (.int (Int32.ofNat len)), .val .null, .unset] [.ref a])) := c1.trans (by
    refine XS.aloadN X0.here hexec rfl (hb hbytes d0) rfl rfl ?_
    exact Steps.refl _)
  obtain ⟨T3, X3, q3, st3⟩ := X0.oinit hexec hown (wks W (objW "java/lang/String" 1)) (g := (mkF m 1 #[.val (.ref a), .val (.ref b), .val (.int (Int32.ofNat o)), .val (.int (Int32.ofNat len)), .val .null, .unset] [.ref a])) rfl (by rw [hml]; rfl) (rest := []) rfl (hb hbytes d1) (W := 0) (by show 2 * 0 + 0 ≤ _; decide) (Nat.le_of_ble_eq_true rfl) (Nat.le_of_ble_eq_true rfl)
  have hh3 := q3.trans hh0
  have c4 : Steps p.tables e below (s₁.setTop (entryFrame m #[.ref a, .ref b, .int (Int32.ofNat o), .int (Int32.ofNat len), .null] 6)) (T3.setTop (mkF m 27 #[.val (.ref a), .val (.ref b), .val (.int (Int32.ofNat o)), .val (.int (Int32.ofNat len)), .val .null, .unset] [])) := (c2.trans (st3 _ (Steps.refl _))).trans (by
    refine XS.iloadN X3.here hexec rfl (hb hbytes d4) rfl ?_
    refine XS.ifYes X3.here hexec rfl (pc0 := 5) rfl (hb hbytes d5) rfl (i0_ne_t (nz32 (by omega) l0)) (by decide) rfl ?_
    exact Steps.refl _)
  obtain ⟨T5, X5, q5, st5⟩ := X3.sget hexec hown (wk W (.fieldLink "java/lang/String" 38 "java/lang/String" "COMPACT_STRINGS" "Z")) s1 (fun _ _ h => by rw [hh3]; exact h) (g := (mkF m 27 #[.val (.ref a), .val (.ref b), .val (.int (Int32.ofNat o)), .val (.int (Int32.ofNat len)), .val .null, .unset] [])) rfl (hb hbytes d27)
  have hh5 := q5.trans hh3
  have c6 : Steps p.tables e below (s₁.setTop (entryFrame m #[.ref a, .ref b, .int (Int32.ofNat o), .int (Int32.ofNat len), .null] 6)) (T5.setTop (mkF m 30 #[.val (.ref a), .val (.ref b), .val (.int (Int32.ofNat o)), .val (.int (Int32.ofNat len)), .val .null, .unset] [.int z])) := c4.trans (st5 _ (Steps.refl _))
  have c7 : Steps p.tables e below (s₁.setTop (entryFrame m #[.ref a, .ref b, .int (Int32.ofNat o), .int (Int32.ofNat len), .null] 6)) (T5.setTop (mkF m 36 #[.val (.ref a), .val (.ref b), .val (.int (Int32.ofNat o)), .val (.int (Int32.ofNat len)), .val .null, .unset] [.int (Int32.ofNat len), .int (Int32.ofNat o), .ref b])) := c6.trans (by
    refine XS.ifNo X5.here hexec rfl (hb hbytes d30) rfl (i0_eq_f hz) ?_
    refine XS.aloadN X5.here hexec rfl (hb hbytes d33) rfl rfl ?_
    refine XS.iloadN X5.here hexec rfl (hb hbytes d34) rfl ?_
    refine XS.iloadN X5.here hexec rfl (hb hbytes d35) rfl ?_
    exact Steps.refl _)
  obtain ⟨v8, T8, X8, E8, g8⟩ := X5.callS hexec (Cmp3.law l b A o len) hown (wks W (staticW "java/lang/String" 177 Cmp3.yN)) (wk W Cmp3.tab) (W := 0) (Nat.le_of_ble_eq_true rfl) (Nat.le_of_ble_eq_true rfl) (Nat.le_refl _) (by show 0 + len ≤ len; omega) (g := (mkF m 36 #[.val (.ref a), .val (.ref b), .val (.int (Int32.ofNat o)), .val (.int (Int32.ofNat len)), .val .null, .unset] [.int (Int32.ofNat len), .int (Int32.ofNat o), .ref b])) rfl (by rw [hml]; rfl) c7 (argsL := [.ref b, .int (Int32.ofNat o), .int (Int32.ofNat len)]) (rest := []) rfl rfl (by show 2 * 0 + 0 ≤ _; decide) (hb hbytes d36) (⟨rfl, hA.mv X5.warmed.alike hh5, l1, l2, hp⟩)
  obtain ⟨e8, z8⟩ := E8
  obtain ⟨rfl, N, n1, n2, n3, n4, n5, n6⟩ := NewArr.mv _ T5 s _ _ hh5.symm (Vm.Alike.refl _) rfl e8
  rw [hh5] at z8
  have hB1 := hB.keep X8.warmed.alike (n6 _ _ hB.1)
  have hne : s.heap.size ≠ a := (Nat.ne_of_lt (Array.getElem?_eq_some_iff.mp hB.1).1).symm
  have c9 : Steps p.tables e below (s₁.setTop (entryFrame m #[.ref a, .ref b, .int (Int32.ofNat o), .int (Int32.ofNat len), .null] 6)) (T8.setTop (mkF m 39 #[.val (.ref a), .val (.ref b), .val (.int (Int32.ofNat o)), .val (.int (Int32.ofNat len)), .val .null, .unset] [.ref s.heap.size])) := g8
  have c10 : Steps p.tables e below (s₁.setTop (entryFrame m #[.ref a, .ref b, .int (Int32.ofNat o), .int (Int32.ofNat len), .null] 6)) (T8.setTop (mkF m 45 #[.val (.ref a), .val (.ref b), .val (.int (Int32.ofNat o)), .val (.int (Int32.ofNat len)), .val .null, .val (.ref s.heap.size)] [.int (Int32.ofNat N.slots.size), .ref s.heap.size, .ref a])) := by
    have hc : Steps p.tables e below (s₁.setTop (entryFrame m #[.ref a, .ref b, .int (Int32.ofNat o), .int (Int32.ofNat len), .null] 6)) (T8.setTop (mkF m 45 #[.val (.ref a), .val (.ref b), .val (.int (Int32.ofNat o)), .val (.int (Int32.ofNat len)), .val .null, .val (.ref s.heap.size)] [.int (Int32.ofNat len), .ref s.heap.size, .ref a])) := c9.trans (by
      refine XS.astore X8.here hexec rfl (hb hbytes d39) rfl rfl rfl ?_
      refine XS.aloadN X8.here hexec rfl (hb hbytes d41) rfl rfl ?_
      refine XS.aload X8.here hexec rfl (hb hbytes d42) rfl rfl ?_
      refine XS.iloadN X8.here hexec rfl (hb hbytes d44) rfl ?_
      exact Steps.refl _)
    rw [n4]; exact hc
  obtain ⟨v11, T11, X11, E11, g11⟩ := X8.callS hexec (CodL.law l s.heap.size N) hown (wks W (staticW "java/lang/String" 47 CodL.yN)) (wk W CodL.tab) (W := 1) (Nat.le_of_ble_eq_true rfl) (Nat.le_of_ble_eq_true rfl) (Nat.le_refl _) (by show 0 + len + 0 ≤ len; omega) (g := (mkF m 45 #[.val (.ref a), .val (.ref b), .val (.int (Int32.ofNat o)), .val (.int (Int32.ofNat len)), .val .null, .val (.ref s.heap.size)] [.int (Int32.ofNat N.slots.size), .ref s.heap.size, .ref a])) rfl (by rw [hml]; rfl) c10 (argsL := [.ref s.heap.size, .int (Int32.ofNat N.slots.size)]) (rest := [.ref a]) rfl rfl (by show 2 * 0 + (1 + 0) ≤ _; decide) (hb hbytes d45) (⟨rfl, n1⟩)
  obtain ⟨rfl, q11⟩ := E11
  have hB11 := hB1.mv (X8.warmed.alike.symm.trans X11.warmed.alike) q11
  have c12 : Steps p.tables e below (s₁.setTop (entryFrame m #[.ref a, .ref b, .int (Int32.ofNat o), .int (Int32.ofNat len), .null] 6)) (T11.setTop (mkF m 48 #[.val (.ref a), .val (.ref b), .val (.int (Int32.ofNat o)), .val (.int (Int32.ofNat len)), .val .null, .val (.ref s.heap.size)] [.int 0, .ref a])) := g11
  obtain ⟨T13, X13, p13, bl13, sl13, st13⟩ := X11.finit hexec hown (wk W (.fieldLink "java/lang/String" 15 "java/lang/String" "coder" "B")) (Or.inr ⟨_, (wk W (.laysFinal "java/lang/String" "java/lang/String" "coder" "B"))⟩) (Or.inl ⟨rfl, hnm⟩) f2 (Or.inl rfl) hB11 (t := .byte) (by decide +kernel) rfl (g := (mkF m 48 #[.val (.ref a), .val (.ref b), .val (.int (Int32.ofNat o)), .val (.int (Int32.ofNat len)), .val .null, .val (.ref s.heap.size)] [.int 0, .ref a])) rfl (rest := []) rfl (hb hbytes d48)
  have c14 : Steps p.tables e below (s₁.setTop (entryFrame m #[.ref a, .ref b, .int (Int32.ofNat o), .int (Int32.ofNat len), .null] 6)) (T13.setTop (mkF m 54 #[.val (.ref a), .val (.ref b), .val (.int (Int32.ofNat o)), .val (.int (Int32.ofNat len)), .val .null, .val (.ref s.heap.size)] [.ref s.heap.size, .ref a])) := (c12.trans (st13 _ (Steps.refl _))).trans (by
    refine XS.aloadN X13.here hexec rfl (hb hbytes d51) rfl rfl ?_
    refine XS.aload X13.here hexec rfl (hb hbytes d52) rfl rfl ?_
    exact Steps.refl _)
  obtain ⟨T15, X15, p15, bl15, sl15, st15⟩ := X13.finit hexec hown (wk W (.fieldLink "java/lang/String" 9 "java/lang/String" "value" "[B")) (Or.inr ⟨_, (wk W (.laysFinal "java/lang/String" "java/lang/String" "value" "[B"))⟩) (Or.inl ⟨rfl, hnm⟩) f1 (Or.inl rfl) bl13 (t := (.array .byte)) (by decide +kernel) rfl (g := (mkF m 54 #[.val (.ref a), .val (.ref b), .val (.int (Int32.ofNat o)), .val (.int (Int32.ofNat len)), .val .null, .val (.ref s.heap.size)] [.ref s.heap.size, .ref a])) rfl (rest := []) rfl (hb hbytes d54)
  have c16 : Steps p.tables e below (s₁.setTop (entryFrame m #[.ref a, .ref b, .int (Int32.ofNat o), .int (Int32.ofNat len), .null] 6)) (T15.setTop (mkF m 57 #[.val (.ref a), .val (.ref b), .val (.int (Int32.ofNat o)), .val (.int (Int32.ofNat len)), .val .null, .val (.ref s.heap.size)] [])) := c14.trans (st15 _ (Steps.refl _))
  have ap := apart (Or.inr ⟨_, (wk W (.laysFinal "java/lang/String" "java/lang/String" "value" "[B"))⟩) (Or.inr ⟨_, (wk W (.laysFinal "java/lang/String" "java/lang/String" "coder" "B"))⟩) f1 f2 (t₁ := .array .byte) (t₂ := .byte) (by decide +kernel) (by decide +kernel) (by decide)
  have al := X8.warmed.alike.symm.trans X15.warmed.alike
  have n7 : T11.heap[s.heap.size]? = some N := by rw [q11]; exact n1.1
  exact ⟨T15, none, _, _, _, X15, by simp, rfl, by omega, (fun _ => rfl), ⟨rfl, _, N, bl15, ((Same.refl D _).set _ (by simp)).set _ (by simp), sl15, (Cell.slots_setSlot_ne _ ap).trans sl13, n1.keep al (p15.other hne (p13.other hne n7)), n2, by rw [al.findClass]; exact n3, n4, n5, fun y c h1 h2 => p15.other h1 (p13.other h1 (by rw [q11]; exact n6 y c h2)), by rw [p15.2.2, p13.2.2, q11]; exact z8⟩, fun fs hl => c16.trans (X15.returnOut hexec hret (hb hbytes d57) hl)⟩
end New4
namespace New1
def yN : MethodName := ⟨"java/lang/String", "<init>", "([C)V"⟩
abbrev yB : ByteArray := jdk_42_method_3_code
theorem d0 : decode yB 0 = .ok (.aload_n 0, 1) := by decide +kernel
theorem d1 : decode yB 1 = .ok (.aload_n 1, 1) := by decide +kernel
theorem d2 : decode yB 2 = .ok (.iconst 0, 1) := by decide +kernel
theorem d3 : decode yB 3 = .ok (.aload_n 1, 1) := by decide +kernel
theorem d4 : decode yB 4 = .ok (.arraylength, 1) := by decide +kernel
theorem d5 : decode yB 5 = .ok (.aconst_null, 1) := by decide +kernel
theorem d6 : decode yB 6 = .ok (.invokespecial 27, 3) := by decide +kernel
theorem d9 : decode yB 9 = .ok (.return_, 1) := by decide +kernel
def site : List Cond := [New4.tab] ++ initW "java/lang/String" 27 New4.yN
def tab : Cond := tabOf yN yB 2 none site
def P (a : Addr) (D : Cell) (fV fC : Field) (b : Addr) (A : Cell) (z : Int32) (args : Array Value) (s : State) : Prop := args = #[.ref a, .ref b] ∧ Blank "java/lang/String" a D s ∧ Found "java/lang/String" "value" "[B" fV s ∧ Found "java/lang/String" "coder" "B" fC s ∧ Ch b A s ∧ StaticIs s "java/lang/String" "COMPACT_STRINGS" "Z" (.int z) ∧ ¬ z = 0 ∧ 0 < A.slots.size ∧ A.slots.size ≤ 536870912 ∧ ∀ i, i < A.slots.size → ¬ 255 < cv A i
def E (a : Addr) (D : Cell) (fV fC : Field) (A : Cell) (r : Option Value) (s u : State) : Prop := Got a D fV fC A 0 A.slots.size r s u
/-- new String(chars), not empty, no char above 255: a Latin-1 String of their low bytes -/
theorem law (l : Launch) (a : Addr) (D : Cell) (fV fC : Field) (b : Addr) (A : Cell) (z : Int32) : Law l yN 2 1 3 52 yB 2 none site (P a D fV fC b A z) (E a D fV fC A) [⟨a, fC.slot⟩, ⟨a, fV.slot⟩] 1 A.slots.size := by
  refine Law.of_walk (plainFor_of_name (by decide +kernel)) (by decide +kernel) (by decide +kernel) (by decide) (fun _ _ h => by rw [h.1]; rfl) (fun _ U U' hal hh h => ⟨h.1, h.2.1.mv hal hh, h.2.2.1.al hal, h.2.2.2.1.al hal, h.2.2.2.2.1.mv hal hh, h.2.2.2.2.2.1.there hal hh, h.2.2.2.2.2.2⟩) (fun r U U' V V' h1 hal h2 h => Got.mv r U U' V V' h1 hal h2 h) ?_
  intro p e s m args below meth c s₁ X0 hexec hbytes hml hret hlk hnm hown hh0 W hP
  obtain ⟨rfl, hB, f1, f2, hA, s1, hz, l0, l2, hp⟩ := hP
  have c1 : Steps p.tables e below (s₁.setTop (entryFrame m #[.ref a, .ref b] 2)) (s₁.setTop (mkF m 0 #[.val (.ref a), .val (.ref b)] [])) := entry rfl
  have c2 : Steps p.tables e below (s₁.setTop (entryFrame m #[.ref a, .ref b] 2)) (s₁.setTop (mkF m 6 #[.val (.ref a), .val (.ref b)] [.null, .int (Int32.ofNat A.slots.size), .int 0, .ref b, .ref a])) := c1.trans (by
    refine XS.aloadN X0.here hexec rfl (hb hbytes d0) rfl rfl ?_
    refine XS.aloadN X0.here hexec rfl (hb hbytes d1) rfl rfl ?_
    refine iconstV X0.here hexec rfl 0 (hb hbytes d2) (by decide) ?_
    refine XS.aloadN X0.here hexec rfl (hb hbytes d3) rfl rfl ?_
    refine X0.alen hexec (hA.1.mv X0.warmed.alike hh0) rfl rfl (hb hbytes d4) ?_
    refine XS.aconstNull X0.here hexec rfl (hb hbytes d5) ?_
    exact Steps.refl _)
  obtain ⟨v3, T3, X3, E3, g3⟩ := X0.callN hexec (New4.law l a D fV fC b A z 0 A.slots.size) rfl hown (wks W (initW "java/lang/String" 27 New4.yN)) (W New4.tab (by simp only [site, List.mem_cons, List.mem_append, true_or, or_true])) (W := 0) (Nat.le_of_ble_eq_true rfl) (Nat.le_of_ble_eq_true rfl) (Nat.le_refl _) (by show 0 + A.slots.size ≤ A.slots.size; omega) (g := (mkF m 6 #[.val (.ref a), .val (.ref b)] [.null, .int (Int32.ofNat A.slots.size), .int (Int32.ofNat 0), .ref b, .ref a])) rfl (by rw [hml]; rfl) c2 (argsL := [.ref b, .int (Int32.ofNat 0), .int (Int32.ofNat A.slots.size), .null]) (rest := []) rfl rfl (by show 2 * 0 + 0 ≤ _; decide) (hb hbytes d6) (⟨rfl, hB.mv X0.warmed.alike hh0, f1.al X0.warmed.alike, f2.al X0.warmed.alike, hA.mv X0.warmed.alike hh0, s1.there X0.warmed.alike hh0, hz, l0, by omega, l2, fun i hi => by rw [Nat.zero_add]; exact hp i hi⟩)
  have e0 := Got.mv _ s₁ s _ _ hh0.symm (Vm.Alike.refl _) rfl E3
  obtain rfl := e0.1
  have c4 : Steps p.tables e below (s₁.setTop (entryFrame m #[.ref a, .ref b] 2)) (T3.setTop (mkF m 9 #[.val (.ref a), .val (.ref b)] [])) := g3
  exact ⟨T3, none, _, _, _, X3, by simp, rfl, by omega, (fun _ => rfl), e0, fun fs hl => c4.trans (X3.returnOut hexec hret (hb hbytes d9) hl)⟩
theorem pays {l : Launch} {R : Room} {p : Program} {e : Env} {below : List Frame} {s : State} {sargs : Array Value} {len W : Nat} (a : Addr) (D : Cell) (fV fC : Field) (b : Addr) (A : Cell) (z : Int32) (htab : tab.before sargs s = true) (hfr : 4 ≤ R.frames) (hlo : W + 65 ≤ R.locals) :
    Back l R p e below s sargs yN len W (fun A₁ a₁ => A₁.cells + 1 ≤ R.cells ∧ A₁.slots + A.slots.size ≤ R.slots ∧ P a D fV fC b A z a₁ A₁.U) (fun A₁ _ v₁ B₁ => E a D fV fC A v₁ A₁.U B₁.U ∧ B₁.locs = A₁.locs ++ [⟨a, fC.slot⟩, ⟨a, fV.slot⟩] ∧ B₁.cells = A₁.cells + 1 ∧ B₁.slots = A₁.slots + A.slots.size) :=
  (law l a D fV fC b A z).pays htab hfr (by omega)
end New1
end StrChars
namespace StrChars.Road
open Jvm Sem ClassFile Op Lib Jvm.Stand Jvm.Free Jvm.Free.XT
open Jvm.Lib.Cold (StaticIs)
abbrev ST : String := "java/lang/String"
/-- every table word that New1's law asks, flat -/
abbrev words : List Jvm.Cond := [.code New1.yN New1.yB 2 none, .initialized ST, .methodLink ST 27 New4.yN, .instanceMethod New4.yN,
  .code New4.yN New4.yB 6 none, .fieldLink ST 38 ST "COMPACT_STRINGS" "Z", .laysFinal ST ST "value" "[B", .fieldLink ST 9 ST "value" "[B", .laysFinal ST ST "coder" "B", .fieldLink ST 15 ST "coder" "B",
  .methodLink ST 1 Lib.objectInit, .instanceMethod Lib.objectInit, .code Lib.objectInit ⟨#[0xb1]⟩ 1 none, .methodLink ST 177 Cmp3.yN, .static Cmp3.yN, .methodLink ST 47 CodL.yN, .static CodL.yN,
  .code Cmp3.yN Cmp3.yB 6 (some (.array .byte)), .initialized U16, .arrayClass .byte, .methodLink U16 115 Cmp5.yN, .static Cmp5.yN, .code Cmp5.yN Cmp5.yB 7 (some .int), .code CodL.yN CodL.yB 2 (some .byte)]
theorem tab_of {a : Array Value} {s : State} (h : ∀ w ∈ words, w.before a s = true) : New1.tab.before a s = true := by
  have h5 : Cmp5.tab.before a s = true := unparts (wk h (.code Cmp5.yN Cmp5.yB 7 (some .int))) (wks h (.initialized Cmp5.yN.cls :: Cmp5.site))
  have hc : CodL.tab.before a s = true := unparts (wk h (.code CodL.yN CodL.yB 2 (some .byte))) (wks h (.initialized CodL.yN.cls :: CodL.site))
  have q5 : ∀ w ∈ Cmp5.tab :: words, w.before a s = true := fun w hw => (List.mem_cons.mp hw).elim (fun e => e ▸ h5) (h w)
  have h3 : Cmp3.tab.before a s = true := unparts (wk q5 (.code Cmp3.yN Cmp3.yB 6 (some (.array .byte)))) (wks q5 (.initialized Cmp3.yN.cls :: Cmp3.site))
  have q3 : ∀ w ∈ Cmp3.tab :: CodL.tab :: words, w.before a s = true := fun w hw => (List.mem_cons.mp hw).elim (fun e => e ▸ h3) fun hw => (List.mem_cons.mp hw).elim (fun e => e ▸ hc) (h w)
  have h4 : New4.tab.before a s = true := unparts (wk q3 (.code New4.yN New4.yB 6 none)) (wks q3 (.initialized New4.yN.cls :: New4.site))
  have q4 : ∀ w ∈ New4.tab :: words, w.before a s = true := fun w hw => (List.mem_cons.mp hw).elim (fun e => e ▸ h4) (h w)
  exact unparts (wk q4 (.code New1.yN New1.yB 2 none)) (wks q4 (.initialized New1.yN.cls :: New1.site))
/-- the words ride from the start Z to the walk's own state -/
theorem moved {Z s : State} {a0 args : Array Value} (hZ : Z.Warmed39 s.vm) (hw : ∀ d ∈ words, d.before a0 Z = true) : ∀ d ∈ words, d.before args s = true := fun d hd => by
  have q := hw d hd
  have t : ∀ d ∈ words, d = .arrayClass .byte ∨ (d.onTables && d.keepsFace) = true := by decide +kernel
  rcases t d hd with rfl | t
  · exact RoadKit.mvA hZ q
  · exact RoadKit.mv hZ q t
/-- WHAT COMES BACK, over the tables of the start Z: h the heap at the call, h' behind it -/
def Q (Z : State) (x : Addr) (A : Cell) (h : Heap) (v : Option Value) (h' : Heap) (L : List Loc) : Prop := v = none ∧ (∀ y ∈ L, y.base = x) ∧ RoadKit.Keep h h' [x] ∧ h'.size = h.size + 1 ∧ RoadKit.Exa Z h' x ST ∧ RoadKit.Fld Z h' x ST "value" "[B" (.ref h.size) ∧ RoadKit.Fld Z h' x ST "coder" "B" (.int 0) ∧
  (∃ V : Cell, RoadKit.Arr Z h' h.size V .byte ∧ V.vm = .none ∧ Z.vm.findClass "[B" = some V.cls ∧ V.slots.size = A.slots.size ∧ ∀ j, j < A.slots.size → V.slots[j]? = some (.int (lo8 (cv A j)))) ∧
  ∀ (O n d : String) (w : Value), RoadKit.Fld Z h x O n d w → RoadKit.slotOf Z O n d ≠ RoadKit.slotOf Z ST "value" "[B" → RoadKit.slotOf Z O n d ≠ RoadKit.slotOf Z ST "coder" "B" → RoadKit.Fld Z h' x O n d w
/-- **new String(chars) AT A CALL, IN THE ROAD'S FORM**: for specialBack behind newO: x the fresh String, b the char[] with the cell A -/
theorem back {p : Program} {l : Launch} {e : Env} {R : Room} {s : State} {args : Array Value} {below : List Frame} {len W : Nat} {Z : State} {a0 : Array Value} {h : Heap} (hZ : Z.Warmed39 s.vm) (hw : ∀ d ∈ words, d.before a0 Z = true) {kI : Nat} (wi : (Jvm.Cond.instantiable ST kI).before a0 Z = true)
    {x b : Addr} {A : Cell} {z : Int32} {v0 c0 : Value} (E : RoadKit.Exa Z h x ST) (V : RoadKit.Fld Z h x ST "value" "[B" v0) (C : RoadKit.Fld Z h x ST "coder" "B" c0) (K : RoadKit.Arr Z h b A .char) (hty : Typed .char A) (S : RoadKit.Sta Z h ST "COMPACT_STRINGS" "Z" (.int z)) (hz : ¬ z = 0)
    (l0 : 0 < A.slots.size) (l2 : A.slots.size ≤ 536870912) (hp : ∀ i, i < A.slots.size → ¬ 255 < cv A i) (hfr : 4 ≤ R.frames) (hlo : W + 65 ≤ R.locals) :
    Back l R p e below s args New1.yN len W (fun P a => a = #[.ref x, .ref b] ∧ P.U.heap = h ∧ P.cells + 1 ≤ R.cells ∧ P.slots + A.slots.size ≤ R.slots)
      (fun P _ v B => ∃ L, Q Z x A h v B.U.heap L ∧ B.locs = P.locs ++ L ∧ B.cells = P.cells + 1 ∧ B.slots = P.slots + A.slots.size) := by
  intro m meth c P g ig mk a X hg hsize hdg hW hn hp'
  obtain ⟨rfl, rfl, r1, r2⟩ := hp'
  have al : Z.vm.Alike P.U.vm := hZ.alike.trans X.warmed.alike
  obtain ⟨D, cfV, kV, iV, fV, hD, gV, stV, knV, obV, asV, slV⟩ := id V
  obtain ⟨D', cfC, kC, iC, fC, hD', gC, stC, -, -, asC, slC⟩ := id C
  cases hD.symm.trans hD'
  obtain ⟨D2, kD, e1, e2, e3, e4, e5⟩ := id E
  cases hD.symm.trans e1
  obtain ⟨c2, k2, i1, i2, i3, -⟩ := Cond.instantiable_spec wi
  cases e2.symm.trans i1
  cases e3.symm.trans i2
  obtain ⟨kU, u1, u2⟩ := al.2.2 _ _ e3
  have hB : Blank ST x D P.U := ⟨hD, ⟨knV, fun q hq => by rw [hq] at obV; cases obV⟩, by rw [al.findClass]; exact e2, kU, u1, by rw [u2]; exact i3, by rw [u2]; exact e5 i3⟩
  have F1 : Found ST "value" "[B" fV P.U := ⟨SBG.found_only al ⟨cfV, kV, iV, gV⟩, stV⟩
  have F2 : Found ST "coder" "B" fC P.U := ⟨SBG.found_only al ⟨cfC, kC, iC, gC⟩, stC⟩
  have hA : Ch b A P.U := ⟨⟨K.1, State.isArrayOf_alike al K.2.1, K.2.2, by omega⟩, hty⟩
  have hS : StaticIs P.U ST "COMPACT_STRINGS" "Z" (.int z) := by
    obtain ⟨cfS, iS, kS, fS, st, cS, t1, t2, t3, t4, t5, t6, t7⟩ := S
    exact StaticIs.there (s := { Z with heap := P.U.heap }) ⟨cfS, iS, kS, fS, st, cS, t1, t2, t3, t4, t5, (fun q => by rw [q] at t6; cases t6), t7⟩ al rfl
  obtain ⟨v, B, X', ⟨⟨hv, E', V', q1, q2, q3, q4, q5, q6, q7, q8, q9, q10, q11⟩, hl, hc, hs⟩, st⟩ := New1.pays x D fV fC b A z (tab_of (moved hZ hw)) hfr hlo m meth c P g ig mk _ X hg hsize hdg hW hn ⟨r1, r2, rfl, hB, F1, F2, hA, hS, hz, l0, l2, hp⟩
  have al' : Z.vm.Alike B.U.vm := hZ.alike.trans X'.warmed.alike
  have hsz : E'.slots.size = D.slots.size := by
    obtain ⟨-, -, -, kB, w1, w2, w3⟩ := q1
    obtain ⟨kB', y1, y2⟩ := al'.2.2 _ _ e3
    rw [q2.2.1] at w1
    cases w1.symm.trans y1
    rw [w3, e5 i3, y2]
  refine ⟨v, B, X', ⟨_, ⟨hv, ?_, ⟨by omega, fun y cy hy hn' => q10 y cy (by simpa using hn') hy, fun y cy hy => ?_⟩, q11, ⟨E', _, q1.1, by rw [q2.2.1]; exact e2, by rw [q2.2.1]; exact e3, by rw [q2.1]; exact obV, fun _ => by rw [hsz]; exact e5 i3⟩,
    ⟨E', cfV, kV, iV, fV, q1.1, gV, stV, by rw [q2.1]; exact knV, by rw [q2.1]; exact obV, by rw [q2.2.1]; exact asV, q3⟩, ⟨E', cfC, kC, iC, fC, q1.1, gC, stC, by rw [q2.1]; exact knV, by rw [q2.1]; exact obV, by rw [q2.2.1]; exact asC, q4⟩,
    ⟨V', ⟨q5.1, State.isArrayOf_alike al'.symm q5.2.1, q5.2.2.1⟩, q6, by rw [← al'.findClass]; exact q7, q8, fun j hj => by have := q9 j hj; rwa [Nat.zero_add] at this⟩, fun O n d w F n1 n2 => ?_⟩, hl, hc, hs⟩, st⟩
  · intro y hy
    simp only [List.mem_cons, List.not_mem_nil, or_false] at hy
    rcases hy with rfl | rfl <;> rfl
  · by_cases q : y = x
    · subst q
      cases hD.symm.trans hy
      exact ⟨E', q1.1, q2.2.1, q2.1, hsz⟩
    · exact ⟨cy, q10 y cy q hy, rfl, rfl, rfl⟩
  · obtain ⟨D3, cf, k, i, f, g1, g2, g3, g4, g5, g6, g7⟩ := F
    cases hD.symm.trans g1
    simp only [RoadKit.slotOf, g2, gV, gC, Option.map_some, Option.getD_some] at n1 n2
    exact ⟨E', cf, k, i, f, q1.1, g2, g3, by rw [q2.1]; exact g4, by rw [q2.1]; exact g5, by rw [q2.2.1]; exact g6, by rw [q2.2.2 f.slot (by simp [n1, n2])]; exact g7⟩
end StrChars.Road
namespace StrChars.Road
open Jvm Sem ClassFile Op Lib Jvm.Stand Jvm.Free Jvm.Free.XT
/-- WHAT COMES BACK, the byte[] as a list of values -/
def QA (Z : State) (x : Addr) (zn : Int32) (cs : List Int32) (h : Heap) (v : Option Value) (h' : Heap) (L : List Loc) : Prop := v = none ∧ (∀ y ∈ L, y.base = x) ∧ RoadKit.Keep h h' [x] ∧ h'.size = h.size + 1 ∧ RoadKit.Exa Z h' x ST ∧ RoadKit.Fld Z h' x ST "value" "[B" (.ref h.size) ∧ RoadKit.Fld Z h' x ST "coder" "B" (.int 0) ∧
  (∃ kb, Z.vm.findClass "[B" = some kb ∧ RoadKit.Arv Z h' h.size kb .byte zn (cs.map fun c => .int (lo8 c)) (.int 0)) ∧
  ∀ (O n d : String) (w : Value), RoadKit.Fld Z h x O n d w → RoadKit.slotOf Z O n d ≠ RoadKit.slotOf Z ST "value" "[B" → RoadKit.slotOf Z O n d ≠ RoadKit.slotOf Z ST "coder" "B" → RoadKit.Fld Z h' x O n d w
/-- **new String(chars) AT A CALL, THE ARRAYS AS LISTS**: the char[] at b holds cs, not empty, no char above 255 -/
theorem backArv {p : Program} {l : Launch} {e : Env} {R : Room} {s : State} {args : Array Value} {below : List Frame} {len W : Nat} {Z : State} {a0 : Array Value} {h : Heap} (hZ : Z.Warmed39 s.vm) (hw : ∀ d ∈ words, d.before a0 Z = true) {kI : Nat} (wi : (Jvm.Cond.instantiable ST kI).before a0 Z = true)
    {x b : Addr} {k : ClassId} {zn z : Int32} {cs : List Int32} {dv v0 c0 : Value} (E : RoadKit.Exa Z h x ST) (V : RoadKit.Fld Z h x ST "value" "[B" v0) (C : RoadKit.Fld Z h x ST "coder" "B" c0) (K : RoadKit.Arv Z h b k .char zn (cs.map Value.int) dv) (S : RoadKit.Sta Z h ST "COMPACT_STRINGS" "Z" (.int z)) (hz : ¬ z = 0)
    (hlen : zn.toNatClampNeg = cs.length) (h0 : 0 < cs.length) (hbig : cs.length ≤ 536870912) (hall : ∀ c ∈ cs, ¬ 255 < c) (hfr : 4 ≤ R.frames) (hlo : W + 65 ≤ R.locals) :
    Back l R p e below s args New1.yN len W (fun P a => a = #[.ref x, .ref b] ∧ P.U.heap = h ∧ P.cells + 1 ≤ R.cells ∧ P.slots + cs.length ≤ R.slots)
      (fun P _ v B => ∃ L, QA Z x zn cs h v B.U.heap L ∧ B.locs = P.locs ++ L ∧ B.cells = P.cells + 1 ∧ B.slots = P.slots + cs.length) := by
  obtain ⟨A, K1, K2, K3, K4, K5, K6⟩ := K
  have e : A.slots.size = cs.length := K3.trans hlen
  have hat : ∀ (i : Nat) (hi : i < cs.length), A.slots[i]? = some (.int cs[i]) := fun i hi => by rw [K5 i (by omega)]; simp [List.getD_eq_getElem?_getD, hi]
  have hcv : ∀ (i : Nat) (hi : i < cs.length), cv A i = cs[i] := fun i hi => by unfold cv; rw [hat i hi]
  have hty : Typed .char A := fun i v hv => by
    have hi : i < A.slots.size := (Array.getElem?_eq_some_iff.mp hv).1
    have q := K5 i hi
    rw [hv] at q
    rw [Option.some.inj q]
    exact K6 i hi
  refine Back.mono (back hZ hw wi E V C K1 hty S hz (by omega) (by omega) (fun i hi => by rw [hcv i (by omega)]; exact hall _ (List.getElem_mem _)) hfr hlo) (fun P a hp => ⟨hp.1, hp.2.1, hp.2.2.1, by rw [e]; exact hp.2.2.2⟩) (fun P a v B hp hq => ?_)
  obtain ⟨L, ⟨q1, q2, q3, q4, q5, q6, q7, ⟨V', v1, v2, v3, v4, v5⟩, q9⟩, hl, hc, hs⟩ := hq
  refine ⟨L, ⟨q1, q2, q3, q4, q5, q6, q7, ⟨V'.cls, v3, V', v1, rfl, by rw [v4, e, hlen], K4, fun i hi => ?_, fun i hi => ?_⟩, q9⟩, hl, hc, by rw [hs, e]⟩
  · have hi' : i < cs.length := by omega
    rw [v5 i (by omega), hcv i hi']; simp [List.getD_eq_getElem?_getD, hi']
  · have hi' : i < cs.length := by omega
    simp only [List.getD_eq_getElem?_getD, List.getElem?_map, List.getElem?_eq_getElem hi', Option.map_some, Option.getD_some]
    exact fits_lo8 _
end StrChars.Road
namespace StrChars.Road
open Jvm Sem ClassFile Op Lib Jvm.Stand Jvm.Free Jvm.Free.XT
/-- WHAT COMES BACK, in the writer's own shape -/
def QV (Z : State) (x : Addr) (N : Int32) (bs : List Int32) (h : Heap) (n0 : Nat) (v : Option Value) (h' : Heap) (L : List Loc) : Prop := v = none ∧ RoadKit.Fr n0 L ∧ RoadKit.Keep h h' [x] ∧ RoadKit.Exa Z h' x ST ∧ RoadKit.Fld Z h' x ST "coder" "B" (.int 0) ∧
  ∃ (t : Addr) (kb : ClassId), n0 ≤ t ∧ h.size ≤ t ∧ ¬ t = x ∧ RoadKit.Fld Z h' x ST "value" "[B" (.ref t) ∧ RoadKit.Arv Z h' t kb .byte N (bs.map Value.int) (.int 0)
/-- **new String(chars) AT A CALL, FOR THE WRITER**: a char[] of n known ints, each 0 to 255 -/
theorem backV {p : Program} {l : Launch} {e : Env} {R : Room} {s : State} {args : Array Value} {below : List Frame} {len W : Nat} {Z : State} {a0 : Array Value} {h : Heap} (hZ : Z.Warmed39 s.vm) (hw : ∀ d ∈ words, d.before a0 Z = true) {kI : Nat} (wi : (Jvm.Cond.instantiable ST kI).before a0 Z = true)
    {x b : Addr} {kC : ClassId} {cs bs : List Int32} {d v0 c0 : Value} {z N : Int32} {n n0 : Nat} (hx0 : n0 ≤ x) (hh0 : n0 ≤ h.size) (E : RoadKit.Exa Z h x ST) (V : RoadKit.Fld Z h x ST "value" "[B" v0) (C : RoadKit.Fld Z h x ST "coder" "B" c0) (K : RoadKit.Arv Z h b kC .char N (cs.map Value.int) d) (S : RoadKit.Sta Z h ST "COMPACT_STRINGS" "Z" (.int z)) (hz : ¬ z = 0)
    (hn : cs.length = n) (hN : N = Int32.ofNat n) (l0 : 0 < n) (l2 : n ≤ 4000) (hp : ∀ c ∈ cs, ¬ c < 0 ∧ ¬ (255 : Int32) < c) (hb : bs = cs.map (fun c => c.toInt8.toInt32)) (hfr : 4 ≤ R.frames) (hlo : W + 65 ≤ R.locals) :
    Back l R p e below s args (⟨"java/lang/String", "<init>", "([C)V"⟩ : MethodName) len W (fun P a => a = #[.ref x, .ref b] ∧ P.U.heap = h ∧ P.cells + 1 ≤ R.cells ∧ P.slots + n ≤ R.slots)
      (fun P _ v B => ∃ L, QV Z x N bs h n0 v B.U.heap L ∧ B.locs = P.locs ++ L ∧ B.cells = P.cells + 1 ∧ B.slots = P.slots + n) := by
  subst hn hN hb
  refine Back.mono (backArv hZ hw wi E V C K S hz (n32 (by omega)) l0 (by omega) (fun c hc => (hp c hc).2) hfr hlo) (fun P a hp => hp) (fun P a v B hp hq => ?_)
  obtain ⟨L, ⟨q1, q2, q3, q4, q5, q6, q7, ⟨kb, v1, v2⟩, q9⟩, hl, hc, hs⟩ := hq
  exact ⟨L, ⟨q1, fun y hy => by rw [q2 y hy]; exact hx0, q3, q5, q7, h.size, kb, hh0, Nat.le_refl _, Nat.ne_of_gt E.lt, q6, by rw [List.map_map]; exact v2⟩, hl, hc, hs⟩
end StrChars.Road
end Jvm.Pilot.@@N@@

namespace Jvm.Pilot.@@N@@
open Jvm Jvm.ClassFile Sem Op Lib Jvm.Free Jvm.Stand Jvm.LawKit Jvm.RoadKit Bundle Jvm.Pilot.@@N@@.Jvm.D
theorem own_irr (x : Int32) : ¬ x < x := fun h => absurd (Int32.lt_iff_toInt_lt.mp h) (by omega)
theorem own_nn (x : Int32) : ¬ ((x &&& (2147483647 : Int32)) < (0 : Int32)) := fun h => by
  have h1 := Int32.lt_iff_toInt_lt.mp h
  have h2 := (c_and x 2147483647 (by decide)).1
  have h3 : (0 : Int32).toInt = 0 := rfl
  omega
def own_min (a b : Int32) : Int32 := if b < a then b else a
def own_max (a b : Int32) : Int32 := if a < b then b else a
theorem own_mm (a b : Int32) : ¬ (own_max a b < own_min a b) := fun h => by
  have h := Int32.lt_iff_toInt_lt.mp h
  unfold own_max own_min at h
  split at h <;> split at h <;> (simp only [Int32.lt_iff_toInt_lt] at *; omega)
theorem own_min_nn {a b : Int32} (ha : ¬ a < (0 : Int32)) (hb : ¬ b < (0 : Int32)) : ¬ (own_min a b < (0 : Int32)) := by unfold own_min; split <;> assumption
theorem own_max_nn {a b : Int32} (ha : ¬ a < (0 : Int32)) (hb : ¬ b < (0 : Int32)) : ¬ (own_max a b < (0 : Int32)) := by unfold own_max; split <;> assumption
theorem own_mod {x d k : Int32} {D : Int} (hd : d.toInt = D) (hD : 0 < D) (h : (x &&& (2147483647 : Int32)) % d = k) : 0 ≤ k.toInt ∧ k.toInt < D := by
  have h1 := (c_and x 2147483647 (by decide)).1
  have h2 := (c_irem (x &&& 2147483647) d D hd).1 h1
  rw [h] at h2
  rw [h2]
  exact ⟨Int.emod_nonneg _ (by omega), Int.emod_lt_of_pos _ hD⟩
theorem own_ne {k : Int32} (n : Nat) (hc : (Int32.ofNat n).toInt = (n : Int)) (h : ¬ k = Int32.ofNat n) : k.toInt ≠ (n : Int) := fun q => h (Int32.toInt_inj.mp (q.trans hc.symm))
theorem own_r255 {x c : Int32} (h : (x &&& (255 : Int32)) = c) : ¬ (c < (0 : Int32)) ∧ ¬ ((255 : Int32) < c) := by
  have h1 := c_and x 255 (by decide)
  rw [h] at h1
  have e1 : (255 : Int32).toInt = 255 := rfl
  have e0 : (0 : Int32).toInt = 0 := rfl
  simp only [Int32.lt_iff_toInt_lt]
  omega
theorem own_narc {c : Int32} (h : ¬ (c < (0 : Int32)) ∧ ¬ ((255 : Int32) < c)) : nar .char c = c := by
  have e1 : (255 : Int32).toInt = 255 := rfl
  have e0 : (0 : Int32).toInt = 0 := rfl
  have h1 := h.1
  have h2 := h.2
  simp only [Int32.lt_iff_toInt_lt] at h1 h2
  have h3 := c_i2c c
  apply Int32.toInt_inj.mp
  show c.toUInt32.toUInt16.toUInt32.toInt32.toInt = c.toInt
  omega
theorem own_fitc {c : Int32} (h : ¬ (c < (0 : Int32)) ∧ ¬ ((255 : Int32) < c)) : fits .char (.int c) = true := by
  have q := fits_nar_char c
  rw [own_narc h] at q
  exact q
theorem own_b8 (x : Int32) : x.toInt8.toInt32.toInt8.toInt32 = x.toInt8.toInt32 := Int32.toInt_inj.mp (by have a := c_i2b x; have b := c_i2b x.toInt8.toInt32; omega)
theorem own_shr0 (x : Int32) : x >>> ((0 : Int32) &&& 31) = x := Int32.toInt_inj.mp (by rw [c_ishr x 0 0 (by decide)]; simp)
theorem own_nar255 (x : Int32) : nar .char ((x &&& (255 : Int32)).toUInt32.toUInt16.toUInt32.toInt32) = x &&& (255 : Int32) := by rw [i2c_mask]; exact i2c_mask x
/-- from here the run comes to an end at which Q holds, at most so many cells and slots made -/
def own_Go (p : Program) (e : Env) (below : List Frame) (s : State) (Q : Option Value → Heap → List Loc → Prop) (C S : Nat) (A : State) : Prop :=
  ∃ s₂ o, Steps p.tables e below A s₂ ∧ s₂.status = .running ∧ Ended s₂ below o ∧ ∃ v L, o = .returned v ∧ Q v s₂.heap L ∧ FrameEnd s o s₂ L C S
theorem own_go {p : Program} {e : Env} {below : List Frame} {s : State} {Q : Option Value → Heap → List Loc → Prop} {C S : Nat} {A B : State} (k : ∀ t, Steps p.tables e below B t → Steps p.tables e below A t) (h : own_Go p e below s Q C S B) : own_Go p e below s Q C S A := by
  obtain ⟨s₂, o, h1, h2⟩ := h
  exact ⟨s₂, o, k _ h1, h2⟩
theorem own_fin {p : Program} {l : Launch} {e : Env} {R : Room} {s : State} {m : MethodId} {args : Array Value} {below : List Frame} {meth : Method} {c : Code} {T : State} {locs : List Loc} {cells slots : Nat} {Q : Option Value → Heap → List Loc → Prop} {C S : Nat} {A : State} {v : Option Value}
    (X : Stand p l e R s m args below meth c T locs cells slots) (hlocks : meth.locks = false) (hv : meth.sig.returnType = none → v = none)
    (st : ∀ fs, (∀ (f : JFrame) (acts : List Action), f.method = m → f.locked = none → f.entered = [] → (doReturn e (T.setTop f) acts v).1 = T.setFrames fs) → Steps p.tables e below A (T.setFrames fs))
    (hQ : Q v T.heap locs) (hc : cells ≤ C) (hs : slots ≤ S) : own_Go p e below s Q C S A := by
  obtain ⟨fs, hr, hrun, hended, hW, hsame⟩ := X.leave (v := v) hv hlocks
  exact ⟨_, _, st fs hr, hrun, hended, _, _, rfl, hQ, ⟨_, rfl⟩, hW, hsame.mono hc hs⟩
theorem own_eqI {args : Array Value} {first s : State} {o : Option Outcome} {idx : List Nat} {t : Term} {k : Int32} (h : (Jvm.Cond.eq t (.int k)).value args first o s idx = some true) : t.eval args first o idx s = some (.int k) := by
  obtain ⟨x, y, h1, h2, hk, hk'⟩ := cmp_v (Or.inl h)
  have e2 : y = .int k := (Option.some.inj ((Term.int_eval k).symm.trans h2)).symm
  subst e2
  obtain ⟨z, rfl⟩ := hk'
  simp only [Cond.value, h1, h2] at h
  have hz : z = k := by simpa using h
  rw [h1, hz]
theorem own_eqR {args : Array Value} {first s : State} {o : Option Outcome} {idx : List Nat} {t u : Term} {a : Addr} (h : (Jvm.Cond.eq t u).value args first o s idx = some true) (hu : u.eval args first o idx s = some (.ref a)) : t.eval args first o idx s = some (.ref a) := by
  obtain ⟨x, y, h1, h2, hk, hk'⟩ := cmp_v (Or.inl h)
  cases hu.symm.trans h2
  rw [h1, gotT (eq_R h1 hu hk'.2 rfl) h]
theorem own_len {args : Array Value} {s : State} {t : Term} {a : Addr} {cl : Cell} {k : Int32} {ty : FieldType} (h : (Term.length t).eval args s none [] s = some (.int k)) (ht : t.eval args s none [] s = some (.ref a)) (A : Arr s s.heap a cl ty) : cl.slots.size < 2 ^ 31 ∧ cl.slots.size.toInt32 = k := by
  have ha := A.fin (Vm.Alike.refl _)
  simp only [Term.eval, ht, ha, Option.bind_eq_bind, Option.bind_some] at h
  by_cases q : cl.slots.size < 2 ^ 31
  · simp [q] at h; exact ⟨q, h⟩
  · simp [q] at h
abbrev own_EL : List (String × Nat) := consts_1
/-- the same with String constants loaded on the way (RW14's invariant, kept) -/
def own_GoW (p : Program) (e : Env) (below : List Frame) (s Z : State) (Q : Option Value → Heap → List Loc → Prop) (C S : Nat) (A : State) : Prop :=
  ∃ s₂ o, Steps p.tables e below A s₂ ∧ s₂.status = .running ∧ Ended s₂ below o ∧ ∃ v L, o = .returned v ∧ Q v s₂.heap L ∧ CHr Z own_EL s.vm s.heap s₂.vm s₂.heap ∧ ReturnedEndW s o s₂ L C S
theorem own_goW {p : Program} {e : Env} {below : List Frame} {s Z : State} {Q : Option Value → Heap → List Loc → Prop} {C S : Nat} {A B : State} (k : ∀ t, Steps p.tables e below B t → Steps p.tables e below A t) (h : own_GoW p e below s Z Q C S B) : own_GoW p e below s Z Q C S A := by
  obtain ⟨s₂, o, h1, h2⟩ := h
  exact ⟨s₂, o, k _ h1, h2⟩
theorem own_finW {p : Program} {l : Launch} {e : Env} {R : Room} {s Z : State} {vm1 : Vm} {k0 : Nat} {m : MethodId} {args : Array Value} {below : List Frame} {meth : Method} {c : Code} {T : State} {locs : List Loc} {cells slots : Nat} {Q : Option Value → Heap → List Loc → Prop} {C S : Nat} {A : State} {v : Option Value}
    (X : Stand p l e R (s.setVm vm1) m args below meth c T locs cells slots) (hS : s.Since vm1 k0) (hk : k0 ≤ T.heap.size) (hR : CHr Z own_EL s.vm s.heap T.vm T.heap) (hlocks : meth.locks = false) (hv : meth.sig.returnType = none → v = none)
    (st : ∀ fs, (∀ (f : JFrame) (acts : List Action), f.method = m → f.locked = none → f.entered = [] → (doReturn e (T.setTop f) acts v).1 = T.setFrames fs) → Steps p.tables e below A (T.setFrames fs))
    (hQ : Q v T.heap locs) (hc : cells ≤ C) (hs : slots ≤ S) : own_GoW p e below s Z Q C S A := by
  obtain ⟨fs, hr, hrun, hended, h1, h2, h3, h4⟩ := X.leaveW hS hk (v := v) hv hlocks
  exact ⟨_, _, st fs hr, hrun, hended, _, _, rfl, hQ, hR, h1, h2, h3, h4.mono hc hs⟩
/-- a callee that loads String constants, paid at a call: the invariant from the caller's tables on -/
theorem own_backW {p : Program} {l : Launch} {e : Env} {R : Room} {s : State} {args : Array Value} {below : List Frame} {Z : State} {a0 : Array Value} {h : Heap} {vm0 : Vm} {y : MethodName} {bytes : ByteArray} {maxL : Nat} {ret : Option FieldType} {rm : Room} {len W : Nat} {as' : Array Value} {Q : Option Value → Heap → List Loc → Prop}
    (hM : MetFree l y (head1 [Jvm.Cond.code y bytes maxL ret] rm) (fun a U => a = as' ∧ Z.Warmed39 U.vm ∧ U.heap = h ∧ CHr Z own_EL vm0 h U.vm h) (fun _ _ _ _ _ => True) (fun _ U o U' => ∃ v L, o = .returned v ∧ Q v U'.heap L ∧ CHr Z own_EL U.vm U.heap U'.vm U'.heap ∧ ReturnedEndW U o U' L rm.cells rm.slots))
    (hZ : Z.Warmed39 vm0) (wc : (Jvm.Cond.code y bytes maxL ret).before a0 Z = true) (wz : (Jvm.Cond.initialized y.cls).before a0 Z = true) (hf : rm.frames + 1 ≤ R.frames) (hl : W + (maxL + 11) + rm.locals ≤ R.locals) (hEL : EW Z a0 own_EL) (H : CHv Z own_EL vm0 h) :
    BackS l R p e below (s.setVm vm0) args y len W (fun A a => a = as' ∧ A.U.heap = h ∧ A.cells + rm.cells ≤ R.cells ∧ A.slots + rm.slots ≤ R.slots)
      (fun A _ v B => ∃ L, Q v B.U.heap L ∧ B.locs = A.locs ++ L ∧ B.cells = A.cells + rm.cells ∧ B.slots = A.slots + rm.slots ∧ CHr Z own_EL vm0 h B.U.vm B.U.heap) := by
  refine BackS.of_freeW (bytes := bytes) (maxL := maxL) (ret := ret) (E := fun _ first o t L k n => k = rm.cells ∧ n = rm.slots ∧ (∃ v, o = .returned v ∧ Q v t.heap L) ∧ CHr Z own_EL first.vm first.heap t.vm t.heap) hM hf hl ?_ ?_ ?_ ?_ ?_
  · intro m meth c A a Y hp
    have hU : Z.Warmed39 A.U.vm := wtrans (s := s.setVm vm0) hZ Y.warmed
    exact ⟨by show (Jvm.Cond.and _ .tt).before a A.U = true; rw [Cond.before_and, mv hU wc]; rfl, mv hU wc, mv hU wz, hp.2.2.1, hp.2.2.2⟩
  · intro m meth c A a g mk Y hp
    exact ⟨hp.1, wtrans (s := s.setVm vm0) hZ Y.warmed, hp.2.1, (show CHr Z own_EL vm0 h A.U.vm h from CHv.at Y hZ hEL H)⟩
  · intro _ _ _ _ _ _ _ _ _
    trivial
  · rintro _ _ _ _ ⟨v, L, h1, h2, h3, h4⟩
    exact ⟨L, _, _, h4, rfl, rfl, ⟨v, h1, h2⟩, h3⟩
  · rintro m meth c A a g mk v t L k n Y hp _ _ ⟨e1, e2, ⟨v', e3, e4⟩, e5⟩
    cases e3
    subst e1 e2
    refine ⟨L, e4, rfl, rfl, rfl, (show CHr Z own_EL vm0 h A.U.vm h from CHv.at Y hZ hEL H).trans ?_⟩
    rw [← hp.2.1]
    exact e5
theorem own_safe_arv {Z : State} {EL : List (String × Nat)} {vm : Vm} {h : Heap} {a : Addr} {k : ClassId} {ty : FieldType} {z : Int32} {vs : List Value} {d : Value} (hal : Z.vm.Alike vm) (V : Arv Z h a k ty z vs d) (ht : ty ≠ .byte) : Safe Z EL vm h a := by
  obtain ⟨c, A, -⟩ := V
  exact Safe.arr hal A ht
theorem own_EW (Z : State) (a0 : Array Value) (hw : ∀ d ∈ tables_1, d.before a0 Z = true) : EW Z a0 own_EL := (EW.cons (hw _ (List.mem_of_getElem? (i := 30) rfl)) (by decide +kernel) (EW.cons (hw _ (List.mem_of_getElem? (i := 19) rfl)) (by decide +kernel) EW.nil))
theorem own_wS (Z : State) (a0 : Array Value) (hw : ∀ d ∈ tables_1, d.before a0 Z = true) : ∀ a ∈ Bundle.stringAtoms, a.before a0 Z = true := fun d hd => hw d ((by decide +kernel : ∀ d ∈ Bundle.stringAtoms, d ∈ tables_1) d hd)
theorem own_ofNat {q : Nat} (h : q < 2147483648) : (Int32.ofNat q).toInt = q ∧ (Int32.ofNat q).toNatClampNeg = q := by
  have e : (Int32.ofNat q).toInt = q := Int32.toInt_ofNat_small (by omega)
  exact ⟨e, by show (Int32.ofNat q).toInt.toNat = q; rw [e]; rfl⟩
theorem own_idx {q n : Nat} {N : Int32} (hN : N.toNatClampNeg = n) (hN0 : ¬ N < 0) (hq : q < n) : (¬ (Int32.ofNat q < (0 : Int32)) ∧ Int32.ofNat q < N) ∧ (Int32.ofNat q).toNatClampNeg = q := by
  have h1 := nat_of hN0
  have h2 := (rng32 N).2
  have h3 := own_ofNat (q := q) (by omega)
  refine ⟨⟨fun h => ?_, ?_⟩, h3.2⟩
  · have h4 := Int32.lt_iff_toInt_lt.mp h
    rw [h3.1] at h4
    have e0 : (0 : Int32).toInt = 0 := rfl
    omega
  · rw [Int32.lt_iff_toInt_lt, h3.1, h1, hN]; omega
theorem own_past {n : Nat} {N : Int32} (hN : N.toNatClampNeg = n) (hN0 : ¬ N < 0) : ¬ (Int32.ofNat n < N) := fun h => by
  have h1 := nat_of hN0
  have h2 := (rng32 N).2
  have h3 := own_ofNat (q := n) (by omega)
  have h4 := Int32.lt_iff_toInt_lt.mp h
  rw [h3.1, h1, hN] at h4
  omega
theorem own_incr {q n : Nat} {N : Int32} (hN : N.toNatClampNeg = n) (hN0 : ¬ N < 0) (hq : q < n) : Int32.ofNat q + (1 : Int32) = Int32.ofNat (q + 1) := by
  have h1 := nat_of hN0
  have h2 := (rng32 N).2
  have h3 := own_ofNat (q := q) (by omega)
  apply Int32.toInt_inj.mp
  have a := c_iadd (Int32.ofNat q) 1
  have b := rng32 (Int32.ofNat q + 1)
  have e1 : (1 : Int32).toInt = 1 := rfl
  by_cases hb : q + 1 < 2147483648
  · rw [(own_ofNat hb).1]; rw [h3.1] at a; omega
  · omega
theorem own_mapget (xs : List Int32) (q : Nat) : (xs.map Value.int).getD q (.int (0 : Int32)) = .int (xs.getD q 0) := by
  simp only [List.getD_eq_getElem?_getD, List.getElem?_map]
  cases xs[q]? <;> rfl
theorem own_listeq {xs ys : List Int32} (hl : xs.length = ys.length) (h : ∀ r, r < xs.length → xs.getD r 0 = ys.getD r 0) : xs = ys := by
  apply List.ext_getElem hl
  intro i h1 h2
  have := h i h1
  simpa [List.getD_eq_getElem?_getD, List.getElem?_eq_getElem h1, List.getElem?_eq_getElem h2] using this
def own_eqv (xs ys : List Int32) : Int32 := if xs = ys then 1 else 0
theorem own_fldeq {Z : State} {h : Heap} {a : Addr} {C n d : String} {v w : Value} (F : Fld Z h a C n d v) (G : Fld Z h a C n d w) : v = w := Classical.byContradiction fun q => Fld.ne F G q rfl
theorem own_same {Z : State} {h : Heap} {t : Addr} {k k' : ClassId} {N N' : Int32} {xs ys : List Int32} (F : Arv Z h t k .byte N (xs.map Value.int) (.int (0 : Int32))) (G : Arv Z h t k' .byte N' (ys.map Value.int) (.int (0 : Int32))) (h1 : N.toNatClampNeg = xs.length) (h2 : N'.toNatClampNeg = ys.length) : xs = ys := by
  obtain ⟨c, A, -, S, -, H, -⟩ := F
  obtain ⟨c', A', -, S', -, H', -⟩ := G
  cases A.1.symm.trans A'.1
  refine own_listeq (by omega) fun r hr => ?_
  have e := (H r (by omega)).symm.trans (H' r (by omega))
  rw [own_mapget, own_mapget] at e
  exact Value.int.inj (Option.some.inj e)
theorem own_nat_inj {N N' : Int32} (h : N.toNatClampNeg = N'.toNatClampNeg) (h0 : ¬ N < 0) (h0' : ¬ N' < 0) : N = N' := by
  apply Int32.toInt_inj.mp
  rw [nat_of h0, nat_of h0', h]
theorem own_an {P : Int32 → Prop} : ∀ c ∈ ([] : List Int32), P c := fun _ q => nomatch q
theorem own_ac {P : Int32 → Prop} {x : Int32} {L : List Int32} (h : P x) (r : ∀ c ∈ L, P c) : ∀ c ∈ x :: L, P c := fun c q => (List.mem_cons.mp q).elim (fun u => u ▸ h) (r c)
theorem own_hnew (Z : State) (a0 : Array Value) (hw : ∀ d ∈ tables_1, d.before a0 Z = true) : ∀ d ∈ StrChars.Road.words, d.before a0 Z = true := fun d hd => hw d ((by decide +kernel : ∀ d ∈ StrChars.Road.words, d ∈ tables_1) d hd)
theorem own_d3_0 : decode jdk_42_method_149_code 0 = .ok (.aload_n 0, 1) := by decide +kernel
theorem own_d3_1 : decode jdk_42_method_149_code 1 = .ok (.invokespecial 1, 3) := by decide +kernel
theorem own_d3_4 : decode jdk_42_method_149_code 4 = .ok (.iload_n 3, 1) := by decide +kernel
theorem own_d3_5 : decode jdk_42_method_149_code 5 = .ok (.ifCond .ne 22, 3) := by decide +kernel
theorem own_d3_8 : decode jdk_42_method_149_code 8 = .ok (.aload_n 0, 1) := by decide +kernel
theorem own_d3_9 : decode jdk_42_method_149_code 9 = .ok (.ldc 7, 2) := by decide +kernel
theorem own_d3_11 : decode jdk_42_method_149_code 11 = .ok (.getfield 9, 3) := by decide +kernel
theorem own_d3_14 : decode jdk_42_method_149_code 14 = .ok (.putfield 9, 3) := by decide +kernel
theorem own_d3_17 : decode jdk_42_method_149_code 17 = .ok (.aload_n 0, 1) := by decide +kernel
theorem own_d3_18 : decode jdk_42_method_149_code 18 = .ok (.ldc 7, 2) := by decide +kernel
theorem own_d3_20 : decode jdk_42_method_149_code 20 = .ok (.getfield 15, 3) := by decide +kernel
theorem own_d3_23 : decode jdk_42_method_149_code 23 = .ok (.putfield 15, 3) := by decide +kernel
theorem own_d3_26 : decode jdk_42_method_149_code 26 = .ok (.return_, 1) := by decide +kernel
theorem own_pn_java_lang_String : plainName "java/lang/String" = true := by first | (simp [plainName, overriddenIn]; done) | decide +kernel
theorem own_ef_own_rn4e (m : MethodId) (a1 : Addr) (ar : Addr) : entryFrame m #[(.ref a1), (.ref ar), (.int (0 : Int32)), (.int (0 : Int32)), .null] 6 = mkF m 0 #[rv a1, rv ar, iv (0 : Int32), iv (0 : Int32), .val .null, .unset] [] := by first | (simp [entryFrame, mkF, argsToLocals, Value.category]; done) | rfl
def own_Q_own_rn4e (Z : State) (a1 : Addr) (ar : Addr) (h0 : Heap) (n0 : Nat) (v : Option Value) (h : Heap) (L : List Loc) : Prop := ∃ t kb, v = none ∧ Fr n0 L ∧ Keep h0 h [a1] ∧ Exa Z h a1 "java/lang/String" ∧ Fld Z h a1 "java/lang/String" "value" "[B" (.ref t) ∧ Fld Z h a1 "java/lang/String" "coder" "B" (.int (0 : Int32)) ∧ Arv Z h t kb .byte (0 : Int32) [] (.int (0 : Int32))
set_option maxRecDepth 65536 in
set_option maxHeartbeats 40000000 in
theorem own_rn4e (l : Launch) (Z : State) (a0 : Array Value) (hw : ∀ d ∈ tables_1, d.before a0 Z = true) (ws : List Jvm.Cond) (a1 : Addr) (ar : Addr) (vm0 : Vm) (h0 : Heap) (n0 : Nat) (Z0 : n0 ≤ h0.size) (Ex : Exa Z h0 a1 "java/lang/String") (Fv : Fld Z h0 a1 "java/lang/String" "value" "[B" .null) (Fc : Fld Z h0 a1 "java/lang/String" "coder" "B" (.int (0 : Int32))) (Sf : Safe Z own_EL vm0 h0 a1) (g_a1 : n0 ≤ a1) :
    MetFree l (⟨"java/lang/String", "<init>", "([CIILjava/lang/Void;)V"⟩ : MethodName) (head1 (Jvm.Cond.code (⟨"java/lang/String", "<init>", "([CIILjava/lang/Void;)V"⟩ : MethodName) jdk_42_method_149_code 6 none :: ws) ({ frames := 1, cells := 4, slots := 8, locals := 12 } : Room)) (fun a U => a = #[(.ref a1), (.ref ar), (.int (0 : Int32)), (.int (0 : Int32)), .null] ∧ Z.Warmed39 U.vm ∧ U.heap = h0 ∧ CHr Z own_EL vm0 h0 U.vm h0) (fun _ _ _ _ _ => True) (fun _ U o U' => ∃ v L, o = .returned v ∧ own_Q_own_rn4e Z a1 ar h0 n0 v U'.heap L ∧ CHr Z own_EL U.vm U.heap U'.vm U'.heap ∧ ReturnedEndW U o U' L ({ frames := 1, cells := 4, slots := 8, locals := 12 } : Room).cells ({ frames := 1, cells := 4, slots := 8, locals := 12 } : Room).slots) := by
  refine MetFree.of_bodySF (plainFor_of_name own_pn_java_lang_String) hisR ?_
  intro p e s m args below meth c s₁ Bd hml0 hP hK
  obtain ⟨rfl, hZ, hh, hCH⟩ := hP
  have hx := Bd.exec
  have hby := Bd.bytes
  have hml : c.maxLocals = 6 := hml0
  have hown : s.vm.findClass "java/lang/String" = some m.cls := findClass_of_methodNamed Bd.named
  have hnm := (name_of_methodNamed Bd.named Bd.method).1
  have X0 : Stand p l e ({ frames := 1, cells := 4, slots := 8, locals := 12 } : Room) (s.setVm s.vm) m #[(.ref a1), (.ref ar), (.int (0 : Int32)), (.int (0 : Int32)), .null] below meth c s₁ [] 0 0 := Stand.of_body Bd
  have e0 : s₁.heap = h0 := by rw [← hh, Bd.state]; rfl
  have N0 := Fr.nil n0
  have hEL := own_EW Z a0 hw
  have wS := own_wS Z a0 hw
  have hS : s.Since s.vm 0 := (State.WarmedH.refl s).since 0
  have hk : 0 ≤ h0.size := Nat.zero_le _
  have Rc : CHr Z own_EL s.vm h0 s.vm h0 := CHr.refl hCH.1
  replace Sf := CHr.safe hCH Ex.lt Sf
  have Kp : Keep h0 h0 [a1] := Keep.refl h0 _
  show own_GoW p e below s Z (own_Q_own_rn4e Z a1 ar h0 n0) ({ frames := 1, cells := 4, slots := 8, locals := 12 } : Room).cells ({ frames := 1, cells := 4, slots := 8, locals := 12 } : Room).slots (s₁.setTop (entryFrame m #[(.ref a1), (.ref ar), (.int (0 : Int32)), (.int (0 : Int32)), .null] 6))
  refine own_goW (fun zt zk => castTop (own_ef_own_rn4e m a1 ar) zk) ?_
  show own_GoW p e below s _ _ _ _ (s₁.setTop (mkF m 0 #[rv a1, rv ar, iv (0 : Int32), iv (0 : Int32), .val .null, .unset] []))
  refine own_goW (fun zt zk => (XS.aloadN X0.here hx rfl (hb hby own_d3_0) rfl rfl zk)) ?_
  show own_GoW p e below s _ _ _ _ (s₁.setTop (mkF m 1 #[rv a1, rv ar, iv (0 : Int32), iv (0 : Int32), .val .null, .unset] [(.ref a1)]))
  obtain ⟨T1, X1, e1, st1⟩ := initO X0 hx hZ hown (hw _ (List.mem_of_getElem? (i := 16) rfl)) (hw _ (List.mem_of_getElem? (i := 17) rfl)) (hw _ (List.mem_of_getElem? (i := 18) rfl)) e0 (g := (mkF m 1 #[rv a1, rv ar, iv (0 : Int32), iv (0 : Int32), .val .null, .unset] [(.ref a1)])) rfl (by rw [hml]; rfl) rfl (hb hby own_d3_1) (by decide) (W := 0) (by show 2 * 0 + _ ≤ _; exact Nat.le_of_eq rfl) (by decide)
  refine own_goW st1 ?_
  show own_GoW p e below s _ _ _ _ (T1.setTop (mkF m 4 #[rv a1, rv ar, iv (0 : Int32), iv (0 : Int32), .val .null, .unset] []))
  refine own_goW (fun zt zk => (XS.iloadN X1.here hx rfl (hb hby own_d3_4) rfl (XS.ifNo X1.here hx rfl (hb hby own_d3_5) rfl ((if0 _ _).trans (teq (rfl : (0 : Int32) = (0 : Int32))).2) (XS.aloadN X1.here hx rfl (hb hby own_d3_8) rfl rfl zk)))) ?_
  show own_GoW p e below s _ _ _ _ (T1.setTop (mkF m 9 #[rv a1, rv ar, iv (0 : Int32), iv (0 : Int32), .val .null, .unset] [(.ref a1)]))
  obtain ⟨a2, T2, h2, q2, b2, k2, X2, e2, E2, hS2, hk2, hZ2, hown2, Ex_a2, Fc_a2, Fv_a2, Va_b2, lta2, ltb2, A2, Li2, Sn2, st2⟩ := ldcCH X1 hx hZ hown (hw _ (List.mem_of_getElem? (i := 19) rfl)) wS e1 hS hk hEL (by decide +kernel) Rc.1 (vs := []) (z := (0 : Int32)) ⟨by decide +kernel, by decide +kernel⟩ (by decide) rfl (g := (mkF m 9 #[rv a1, rv ar, iv (0 : Int32), iv (0 : Int32), .val .null, .unset] [(.ref a1)])) rfl (hb hby own_d3_9) (n := 0) (by decide +kernel) (by decide) (by decide) (by decide)
  replace Sf := CHr.safe A2 Ex.lt Sf
  replace Ex := Ex.ext E2
  replace Fv := Fv.ext E2
  replace Fc := Fc.ext E2
  replace Kp := Kp.ext E2
  replace Rc := Rc.trans A2
  replace hS := hS2
  replace hk := hk2
  replace hZ := hZ2
  replace hown := hown2
  refine own_goW st2 ?_
  have ne_a1_a2 := (Sn2 a1 Sf).1
  have ne_a1_b2 := (Sn2 a1 Sf).2
  show own_GoW p e below s _ _ _ _ (T2.setTop (mkF m 11 #[rv a1, rv ar, iv (0 : Int32), iv (0 : Int32), .val .null, .unset] [(.ref a2), (.ref a1)]))
  obtain ⟨T3, X3, e3, st3⟩ := getF X2 hx hZ hown (host := "") (Or.inl (hw _ (List.mem_of_getElem? (i := 25) rfl))) Via.refl e2 Fv_a2 (g := (mkF m 11 #[rv a1, rv ar, iv (0 : Int32), iv (0 : Int32), .val .null, .unset] [(.ref a2), (.ref a1)])) rfl rfl (hb hby own_d3_11)
  refine own_goW st3 ?_
  show own_GoW p e below s _ _ _ _ (T3.setTop (mkF m 14 #[rv a1, rv ar, iv (0 : Int32), iv (0 : Int32), .val .null, .unset] [(.ref b2), (.ref a1)]))
  obtain ⟨T4, h4, X4, e4, W4, st4⟩ := putF X3 hx hZ hown (host := "") (Or.inl (hw _ (List.mem_of_getElem? (i := 25) rfl))) Via.refl e3 Fv Ex (Or.inr ⟨(hw _ (List.mem_of_getElem? (i := 21) rfl)), rfl, hnm⟩) (hw _ (List.mem_of_getElem? (i := 6) rfl)) (ty := (.array .byte)) (by decide) rfl rfl (g := (mkF m 14 #[rv a1, rv ar, iv (0 : Int32), iv (0 : Int32), .val .null, .unset] [(.ref b2), (.ref a1)])) rfl rfl (hb hby own_d3_14)
  refine own_goW st4 ?_
  have N4 := Fr.snoc X4 N0 g_a1
  have Sf' := Safe.wr W4 Sf Rc.1 Sf
  replace Rc := Rc.trans (CHr.wr W4 Sf Rc.1)
  replace hk := Nat.le_trans hk (Keep.of_wr W4).1
  replace Sf := Sf'
  replace Ex := Ex.wr W4
  replace Fc := Fc.other W4 (Or.inr (slot_ne (Or.inr (hw _ (List.mem_of_getElem? (i := 22) rfl))) (Or.inr (hw _ (List.mem_of_getElem? (i := 21) rfl))) (by decide) (t := .byte) (t' := (.array .byte)) (by decide) (by decide)))
  replace Kp := Kp.wr W4 (Or.inl (List.mem_of_getElem? (i := 0) rfl))
  replace Ex_a2 := Ex_a2.wr W4
  replace Fc_a2 := Fc_a2.other W4 (Or.inl (Ne.symm ne_a1_a2))
  replace Fv_a2 := Fv_a2.other W4 (Or.inl (Ne.symm ne_a1_a2))
  replace Va_b2 := Va_b2.other W4 (Ne.symm ne_a1_b2)
  replace Fv := Fv.same W4
  show own_GoW p e below s _ _ _ _ (T4.setTop (mkF m 17 #[rv a1, rv ar, iv (0 : Int32), iv (0 : Int32), .val .null, .unset] []))
  refine own_goW (fun zt zk => (XS.aloadN X4.here hx rfl (hb hby own_d3_17) rfl rfl zk)) ?_
  show own_GoW p e below s _ _ _ _ (T4.setTop (mkF m 18 #[rv a1, rv ar, iv (0 : Int32), iv (0 : Int32), .val .null, .unset] [(.ref a1)]))
  obtain ⟨a5, T5, h5, q5, b5, k5, X5, e5, E5, hS5, hk5, hZ5, hown5, Ex_a5, Fc_a5, Fv_a5, Va_b5, lta5, ltb5, A5, Li5, Sn5, st5⟩ := ldcCH X4 hx hZ hown (hw _ (List.mem_of_getElem? (i := 19) rfl)) wS e4 hS hk hEL (by decide +kernel) Rc.1 (vs := []) (z := (0 : Int32)) ⟨by decide +kernel, by decide +kernel⟩ (by decide) rfl (g := (mkF m 18 #[rv a1, rv ar, iv (0 : Int32), iv (0 : Int32), .val .null, .unset] [(.ref a1)])) rfl (hb hby own_d3_18) (n := 0) (by decide +kernel) (by decide) (by decide) (by decide)
  replace Sf := CHr.safe A5 Ex.lt Sf
  replace Ex := Ex.ext E5
  replace Fv := Fv.ext E5
  replace Fc := Fc.ext E5
  replace Kp := Kp.ext E5
  replace Ex_a2 := Ex_a2.ext E5
  replace Fc_a2 := Fc_a2.ext E5
  replace Fv_a2 := Fv_a2.ext E5
  replace Va_b2 := Va_b2.ext E5
  replace Rc := Rc.trans A5
  replace hS := hS5
  replace hk := hk5
  replace hZ := hZ5
  replace hown := hown5
  refine own_goW st5 ?_
  have ne_a1_a5 := (Sn5 a1 Sf).1
  have ne_a1_b5 := (Sn5 a1 Sf).2
  show own_GoW p e below s _ _ _ _ (T5.setTop (mkF m 20 #[rv a1, rv ar, iv (0 : Int32), iv (0 : Int32), .val .null, .unset] [(.ref a5), (.ref a1)]))
  obtain ⟨T6, X6, e6, st6⟩ := getF X5 hx hZ hown (host := "") (Or.inl (hw _ (List.mem_of_getElem? (i := 26) rfl))) Via.refl e5 Fc_a5 (g := (mkF m 20 #[rv a1, rv ar, iv (0 : Int32), iv (0 : Int32), .val .null, .unset] [(.ref a5), (.ref a1)])) rfl rfl (hb hby own_d3_20)
  refine own_goW st6 ?_
  show own_GoW p e below s _ _ _ _ (T6.setTop (mkF m 23 #[rv a1, rv ar, iv (0 : Int32), iv (0 : Int32), .val .null, .unset] [(.int (0 : Int32)), (.ref a1)]))
  obtain ⟨T7, h7, X7, e7, W7, st7⟩ := putFN X6 hx hZ hown (hw _ (List.mem_of_getElem? (i := 26) rfl)) Via.refl e6 Fc Ex (Or.inr ⟨(hw _ (List.mem_of_getElem? (i := 22) rfl)), rfl, hnm⟩) (hw _ (List.mem_of_getElem? (i := 6) rfl)) (ty := .byte) (v' := (.int (0 : Int32))) (by decide) rfl (by decide) (g := (mkF m 23 #[rv a1, rv ar, iv (0 : Int32), iv (0 : Int32), .val .null, .unset] [(.int (0 : Int32)), (.ref a1)])) rfl rfl (hb hby own_d3_23)
  refine own_goW st7 ?_
  have N7 := Fr.snoc X7 N4 g_a1
  have Sf' := Safe.wr W7 Sf Rc.1 Sf
  replace Rc := Rc.trans (CHr.wr W7 Sf Rc.1)
  replace hk := Nat.le_trans hk (Keep.of_wr W7).1
  replace Sf := Sf'
  replace Ex := Ex.wr W7
  replace Fv := Fv.other W7 (Or.inr (slot_ne (Or.inr (hw _ (List.mem_of_getElem? (i := 21) rfl))) (Or.inr (hw _ (List.mem_of_getElem? (i := 22) rfl))) (by decide) (t := (.array .byte)) (t' := .byte) (by decide) (by decide)))
  replace Kp := Kp.wr W7 (Or.inl (List.mem_of_getElem? (i := 0) rfl))
  replace Ex_a2 := Ex_a2.wr W7
  replace Fc_a2 := Fc_a2.other W7 (Or.inl (Ne.symm ne_a1_a2))
  replace Fv_a2 := Fv_a2.other W7 (Or.inl (Ne.symm ne_a1_a2))
  replace Va_b2 := Va_b2.other W7 (Ne.symm ne_a1_b2)
  replace Ex_a5 := Ex_a5.wr W7
  replace Fc_a5 := Fc_a5.other W7 (Or.inl (Ne.symm ne_a1_a5))
  replace Fv_a5 := Fv_a5.other W7 (Or.inl (Ne.symm ne_a1_a5))
  replace Va_b5 := Va_b5.other W7 (Ne.symm ne_a1_b5)
  replace Fc := Fc.same W7
  show own_GoW p e below s _ _ _ _ (T7.setTop (mkF m 26 #[rv a1, rv ar, iv (0 : Int32), iv (0 : Int32), .val .null, .unset] []))
  have Re := Rc.trans (CHv.at X7 hZ hEL Rc.1)
  exact own_finW X7 hS (by rw [e7]; exact hk) (by rw [e7, hh]; exact Re) Bd.notSynchronized (fun _ => rfl) (fun fs hr => X7.returnOut hx Bd.returns (hb hby own_d3_26) hr) (by rw [e7]; exact ⟨b2, k2, rfl, N7, Kp, Ex, Fv, Fc, Va_b2⟩) (by decide) (by decide)
theorem own_d2_0 : decode jdk_42_method_3_code 0 = .ok (.aload_n 0, 1) := by decide +kernel
theorem own_d2_1 : decode jdk_42_method_3_code 1 = .ok (.aload_n 1, 1) := by decide +kernel
theorem own_d2_2 : decode jdk_42_method_3_code 2 = .ok (.iconst 0, 1) := by decide +kernel
theorem own_d2_3 : decode jdk_42_method_3_code 3 = .ok (.aload_n 1, 1) := by decide +kernel
theorem own_d2_4 : decode jdk_42_method_3_code 4 = .ok (.arraylength, 1) := by decide +kernel
theorem own_d2_5 : decode jdk_42_method_3_code 5 = .ok (.aconst_null, 1) := by decide +kernel
theorem own_d2_6 : decode jdk_42_method_3_code 6 = .ok (.invokespecial 27, 3) := by decide +kernel
theorem own_pd___CIILjava_lang_Void__V : parseMethodDescriptor "([CIILjava/lang/Void;)V" = some ⟨[(.array .char), .int, .int, (.object "java/lang/Void")], none⟩ := by decide +kernel
theorem own_d2_9 : decode jdk_42_method_3_code 9 = .ok (.return_, 1) := by decide +kernel
theorem own_ef_own_rn1e (m : MethodId) (a1 : Addr) (ar : Addr) : entryFrame m #[(.ref a1), (.ref ar)] 2 = mkF m 0 #[rv a1, rv ar] [] := by first | (simp [entryFrame, mkF, argsToLocals, Value.category]; done) | rfl
def own_Q_own_rn1e (Z : State) (a1 : Addr) (ar : Addr) (ka : ClassId) (h0 : Heap) (n0 : Nat) (v : Option Value) (h : Heap) (L : List Loc) : Prop := ∃ t kb, v = none ∧ Fr n0 L ∧ Keep h0 h [a1] ∧ Exa Z h a1 "java/lang/String" ∧ Fld Z h a1 "java/lang/String" "value" "[B" (.ref t) ∧ Fld Z h a1 "java/lang/String" "coder" "B" (.int (0 : Int32)) ∧ Arv Z h t kb .byte (0 : Int32) [] (.int (0 : Int32))
set_option maxRecDepth 65536 in
set_option maxHeartbeats 40000000 in
theorem own_rn1e (l : Launch) (Z : State) (a0 : Array Value) (hw : ∀ d ∈ tables_1, d.before a0 Z = true) (ws : List Jvm.Cond) (a1 : Addr) (ar : Addr) (ka : ClassId) (vm0 : Vm) (h0 : Heap) (n0 : Nat) (Z0 : n0 ≤ h0.size) (Ex : Exa Z h0 a1 "java/lang/String") (Fv : Fld Z h0 a1 "java/lang/String" "value" "[B" .null) (Fc : Fld Z h0 a1 "java/lang/String" "coder" "B" (.int (0 : Int32))) (Sf : Safe Z own_EL vm0 h0 a1) (Va : Arv Z h0 ar ka .char (0 : Int32) [] (.int (0 : Int32))) (g_a1 : n0 ≤ a1) (hne : ar ≠ a1) :
    MetFree l (⟨"java/lang/String", "<init>", "([C)V"⟩ : MethodName) (head1 (Jvm.Cond.code (⟨"java/lang/String", "<init>", "([C)V"⟩ : MethodName) jdk_42_method_3_code 2 none :: ws) ({ frames := 2, cells := 4, slots := 8, locals := 29 } : Room)) (fun a U => a = #[(.ref a1), (.ref ar)] ∧ Z.Warmed39 U.vm ∧ U.heap = h0 ∧ CHr Z own_EL vm0 h0 U.vm h0) (fun _ _ _ _ _ => True) (fun _ U o U' => ∃ v L, o = .returned v ∧ own_Q_own_rn1e Z a1 ar ka h0 n0 v U'.heap L ∧ CHr Z own_EL U.vm U.heap U'.vm U'.heap ∧ ReturnedEndW U o U' L ({ frames := 2, cells := 4, slots := 8, locals := 29 } : Room).cells ({ frames := 2, cells := 4, slots := 8, locals := 29 } : Room).slots) := by
  refine MetFree.of_bodySF (plainFor_of_name own_pn_java_lang_String) hisR ?_
  intro p e s m args below meth c s₁ Bd hml0 hP hK
  obtain ⟨rfl, hZ, hh, hCH⟩ := hP
  have hx := Bd.exec
  have hby := Bd.bytes
  have hml : c.maxLocals = 2 := hml0
  have hown : s.vm.findClass "java/lang/String" = some m.cls := findClass_of_methodNamed Bd.named
  have hnm := (name_of_methodNamed Bd.named Bd.method).1
  have X0 : Stand p l e ({ frames := 2, cells := 4, slots := 8, locals := 29 } : Room) (s.setVm s.vm) m #[(.ref a1), (.ref ar)] below meth c s₁ [] 0 0 := Stand.of_body Bd
  have e0 : s₁.heap = h0 := by rw [← hh, Bd.state]; rfl
  have N0 := Fr.nil n0
  have hEL := own_EW Z a0 hw
  have wS := own_wS Z a0 hw
  have hS : s.Since s.vm 0 := (State.WarmedH.refl s).since 0
  have hk : 0 ≤ h0.size := Nat.zero_le _
  have Rc : CHr Z own_EL s.vm h0 s.vm h0 := CHr.refl hCH.1
  replace Sf := CHr.safe hCH Ex.lt Sf
  have Kp : Keep h0 h0 [a1] := Keep.refl h0 _
  show own_GoW p e below s Z (own_Q_own_rn1e Z a1 ar ka h0 n0) ({ frames := 2, cells := 4, slots := 8, locals := 29 } : Room).cells ({ frames := 2, cells := 4, slots := 8, locals := 29 } : Room).slots (s₁.setTop (entryFrame m #[(.ref a1), (.ref ar)] 2))
  refine own_goW (fun zt zk => castTop (own_ef_own_rn1e m a1 ar) zk) ?_
  show own_GoW p e below s _ _ _ _ (s₁.setTop (mkF m 0 #[rv a1, rv ar] []))
  refine own_goW (fun zt zk => (XS.aloadN X0.here hx rfl (hb hby own_d2_0) rfl rfl (XS.aloadN X0.here hx rfl (hb hby own_d2_1) rfl rfl (XS.iconst X0.here hx rfl (hb hby own_d2_2) (XS.aloadN X0.here hx rfl (hb hby own_d2_3) rfl rfl zk))))) ?_
  show own_GoW p e below s _ _ _ _ (s₁.setTop (mkF m 4 #[rv a1, rv ar] [(.ref ar), (.int (0 : Int32)), (.ref ar), (.ref a1)]))
  obtain ⟨cl1, Ar1, -, Sz1, Nz1, -, -⟩ := id Va
  refine own_goW (X0.arraylength hx (by rw [e0]; exact Ar1.1) (State.isArrayOf_alike hZ.alike Ar1.2.1) (g := (mkF m 4 #[rv a1, rv ar] [(.ref ar), (.int (0 : Int32)), (.ref ar), (.ref a1)])) rfl rfl (hb hby own_d2_4)) ?_
  rw [len_of Sz1 Nz1]
  show own_GoW p e below s _ _ _ _ (s₁.setTop (mkF m 5 #[rv a1, rv ar] [(.int (0 : Int32)), (.int (0 : Int32)), (.ref ar), (.ref a1)]))
  refine own_goW (fun zt zk => (XS.aconstNull X0.here hx rfl (hb hby own_d2_5) zk)) ?_
  show own_GoW p e below s _ _ _ _ (s₁.setTop (mkF m 6 #[rv a1, rv ar] [.null, (.int (0 : Int32)), (.int (0 : Int32)), (.ref ar), (.ref a1)]))
  obtain ⟨_, _, ⟨T2, L2, k2, n2⟩, -, X2, hSq2, hgq2, ⟨Lc2, hQ2, l2, y2, z2, A2⟩, st2⟩ := X0.specialBackS hx (y := (⟨"java/lang/String", "<init>", "([CIILjava/lang/Void;)V"⟩ : MethodName)) rfl hown (mvT hZ (hw _ (List.mem_of_getElem? (i := 12) rfl))) (mvT hZ (hw _ (List.mem_of_getElem? (i := 13) rfl))) (mvT hZ (hw _ (List.mem_of_getElem? (i := 15) rfl))) (by decide) (own_backW (s := s) (W := 0) (own_rn4e l Z a0 hw [] a1 ar  s.vm h0 n0 Z0 Ex Fv Fc Sf g_a1) hZ (hw _ (List.mem_of_getElem? (i := 15) rfl)) (hw _ (List.mem_of_getElem? (i := 7) rfl)) (by decide) (by decide) hEL Rc.1) (g := (mkF m 6 #[rv a1, rv ar] [.null, (.int (0 : Int32)), (.int (0 : Int32)), (.ref ar), (.ref a1)])) rfl (by rw [hml]; rfl) (Steps.refl _) (a := a1) (argsL := [(.ref ar), (.int (0 : Int32)), (.int (0 : Int32)), .null]) (rest := []) (lenOf own_pd___CIILjava_lang_Void__V rfl) rfl (by show 2 * 0 + _ ≤ _; exact Nat.le_of_eq rfl) (hb hby own_d2_6) (fun _ _ => ⟨rfl, e0, (by decide : 0 + 4 ≤ _), (by decide : 0 + 8 ≤ _)⟩)
  dsimp only [Pt.U, Pt.locs, Pt.cells, Pt.slots] at X2 l2 y2 z2 st2 hQ2 hSq2 hgq2 A2
  subst l2 y2 z2
  obtain ⟨X2, hS2, hZ2, hown2⟩ := rebS hS (by rw [e0]; exact hk) X2 hSq2 hgq2 hZ hown
  replace Sf := CHr.safe A2 Ex.lt Sf
  replace Rc := Rc.trans A2
  replace hS := hS2
  replace hZ := hZ2
  replace hown := hown2
  have hk : T2.heap.size ≤ T2.heap.size := Nat.le_refl _
  obtain ⟨t2, kb2, rfl, Nq2, K2, -, Fv, Fc, Va2⟩ := hQ2
  have N2 := Fr.app N0 Nq2
  refine own_goW (fun zt zk => st2.trans zk) ?_
  replace Ex := Ex.keep K2
  replace Va := Va.keep K2 (ninS hne nin0)
  replace Kp := Kp.trans K2 (allS (Or.inl (List.mem_of_getElem? (i := 0) rfl)) all0)
  show own_GoW p e below s _ _ _ _ (T2.setTop (mkF m 9 #[rv a1, rv ar] []))
  have Re := Rc.trans (CHv.at X2 hZ hEL Rc.1)
  exact own_finW X2 hS (hk) (by rw [hh]; exact Re) Bd.notSynchronized (fun _ => rfl) (fun fs hr => X2.returnOut hx Bd.returns (hb hby own_d2_9) hr) (⟨t2, kb2, rfl, N2, Kp, Ex, Fv, Fc, Va2⟩) (by decide) (by decide)
theorem own_d8_0 : decode jdk_42_method_152_code 0 = .ok (.getstatic 38, 3) := by decide +kernel
theorem own_d8_3 : decode jdk_42_method_152_code 3 = .ok (.ifCond .eq 10, 3) := by decide +kernel
theorem own_d8_6 : decode jdk_42_method_152_code 6 = .ok (.aload_n 0, 1) := by decide +kernel
theorem own_d8_7 : decode jdk_42_method_152_code 7 = .ok (.getfield 15, 3) := by decide +kernel
theorem own_d8_10 : decode jdk_42_method_152_code 10 = .ok (.goto 4, 3) := by decide +kernel
theorem own_d8_14 : decode jdk_42_method_152_code 14 = .ok (.ireturn, 1) := by decide +kernel
theorem own_ef_own_rcoder (m : MethodId) (a1 : Addr) : entryFrame m #[(.ref a1)] 1 = mkF m 0 #[rv a1] [] := by first | (simp [entryFrame, mkF, argsToLocals, Value.category]; done) | rfl
def own_Q_own_rcoder (Z : State) (a1 : Addr) (cz : Int32) (h0 : Heap) (n0 : Nat) (v : Option Value) (h : Heap) (L : List Loc) : Prop := v = some (.int (0 : Int32)) ∧ Fr n0 L ∧ h = h0
set_option maxRecDepth 65536 in
set_option maxHeartbeats 40000000 in
theorem own_rcoder (l : Launch) (Z : State) (a0 : Array Value) (hw : ∀ d ∈ tables_1, d.before a0 Z = true) (ws : List Jvm.Cond) (a1 : Addr) (cz : Int32) (h0 : Heap) (n0 : Nat) (Z0 : n0 ≤ h0.size) (O : Old Z n0 h0) (SC : Sta Z Z.heap "java/lang/String" "COMPACT_STRINGS" "Z" (.int cz)) (Fc : Fld Z h0 a1 "java/lang/String" "coder" "B" (.int (0 : Int32))) (hz : ¬ (cz = (0 : Int32))) :
    MetFree l (⟨"java/lang/String", "coder", "()B"⟩ : MethodName) (head1 (Jvm.Cond.code (⟨"java/lang/String", "coder", "()B"⟩ : MethodName) jdk_42_method_152_code 1 (some .byte) :: ws) ({ frames := 0, cells := 0, slots := 0, locals := 0 } : Room)) (fun a U => a = #[(.ref a1)] ∧ Z.Warmed39 U.vm ∧ U.heap = h0) (fun _ _ _ _ _ => True) (fun _ U o U' => ∃ v L, o = .returned v ∧ own_Q_own_rcoder Z a1 cz h0 n0 v U'.heap L ∧ FrameEnd U o U' L ({ frames := 0, cells := 0, slots := 0, locals := 0 } : Room).cells ({ frames := 0, cells := 0, slots := 0, locals := 0 } : Room).slots) := by
  refine MetFree.of_bodySF (plainFor_of_name own_pn_java_lang_String) hisR ?_
  intro p e s m args below meth c s₁ Bd hml0 hP hK
  obtain ⟨rfl, hZ, hh⟩ := hP
  have hx := Bd.exec
  have hby := Bd.bytes
  have hml : c.maxLocals = 1 := hml0
  have hown : s.vm.findClass "java/lang/String" = some m.cls := findClass_of_methodNamed Bd.named
  have hnm := (name_of_methodNamed Bd.named Bd.method).1
  have X0 : Stand p l e ({ frames := 0, cells := 0, slots := 0, locals := 0 } : Room) s m #[(.ref a1)] below meth c s₁ [] 0 0 := Stand.of_body Bd
  have e0 : s₁.heap = h0 := by rw [← hh, Bd.state]; rfl
  have N0 := Fr.nil n0
  show own_Go p e below s (own_Q_own_rcoder Z a1 cz h0 n0) ({ frames := 0, cells := 0, slots := 0, locals := 0 } : Room).cells ({ frames := 0, cells := 0, slots := 0, locals := 0 } : Room).slots (s₁.setTop (entryFrame m #[(.ref a1)] 1))
  refine own_go (fun zt zk => castTop (own_ef_own_rcoder m a1) zk) ?_
  show own_Go p e below s _ _ _ (s₁.setTop (mkF m 0 #[rv a1] []))
  obtain ⟨T1, X1, e1, st1⟩ := getS2 X0 hx hZ hown (host := "") (Or.inl (hw _ (List.mem_of_getElem? (i := 56) rfl))) Via.refl e0 (SC.ext O.2) (g := (mkF m 0 #[rv a1] [])) rfl (hb hby own_d8_0)
  refine own_go st1 ?_
  show own_Go p e below s _ _ _ (T1.setTop (mkF m 3 #[rv a1] [(.int cz)]))
  refine own_go (fun zt zk => (XS.ifNo X1.here hx rfl (hb hby own_d8_3) rfl ((if0 _ _).trans (feq (hz : ¬ (cz = (0 : Int32)))).1) (XS.aloadN X1.here hx rfl (hb hby own_d8_6) rfl rfl zk))) ?_
  show own_Go p e below s _ _ _ (T1.setTop (mkF m 7 #[rv a1] [(.ref a1)]))
  obtain ⟨T2, X2, e2, st2⟩ := getF X1 hx hZ hown (host := "") (Or.inl (hw _ (List.mem_of_getElem? (i := 26) rfl))) Via.refl e1 Fc (g := (mkF m 7 #[rv a1] [(.ref a1)])) rfl rfl (hb hby own_d8_7)
  refine own_go st2 ?_
  show own_Go p e below s _ _ _ (T2.setTop (mkF m 10 #[rv a1] [(.int (0 : Int32))]))
  refine own_go (fun zt zk => (XS.goto X2.here hx rfl (pc0 := 10) (pc' := 14) rfl (hb hby own_d8_10) (by decide) (by decide) zk)) ?_
  show own_Go p e below s _ _ _ (T2.setTop (mkF m 14 #[rv a1] [(.int (0 : Int32))]))
  exact own_fin X2 Bd.notSynchronized (fun h => by rw [Bd.returns] at h; cases h) (fun fs hr => retN X2 hx (t := .byte) Bd.returns (by simp) (hb hby own_d8_14) hr) (by rw [e2]; exact ⟨rfl, N0, rfl⟩) (by decide) (by decide)
theorem own_d7_0 : decode jdk_42_method_54_code 0 = .ok (.aload_n 0, 1) := by decide +kernel
theorem own_d7_1 : decode jdk_42_method_54_code 1 = .ok (.getfield 9, 3) := by decide +kernel
theorem own_d7_4 : decode jdk_42_method_54_code 4 = .ok (.arraylength, 1) := by decide +kernel
theorem own_d7_5 : decode jdk_42_method_54_code 5 = .ok (.aload_n 0, 1) := by decide +kernel
theorem own_d7_6 : decode jdk_42_method_54_code 6 = .ok (.invokevirtual 335, 3) := by decide +kernel
theorem own_pd___B : parseMethodDescriptor "()B" = some ⟨[], some .byte⟩ := by decide +kernel
theorem own_d7_9 : decode jdk_42_method_54_code 9 = .ok (.ishr, 1) := by decide +kernel
theorem own_d7_10 : decode jdk_42_method_54_code 10 = .ok (.ireturn, 1) := by decide +kernel
theorem own_ef_own_rlen (m : MethodId) (a1 : Addr) : entryFrame m #[(.ref a1)] 1 = mkF m 0 #[rv a1] [] := by first | (simp [entryFrame, mkF, argsToLocals, Value.category]; done) | rfl
def own_Q_own_rlen (Z : State) (a1 : Addr) (cz : Int32) (t : Addr) (kb : ClassId) (N : Int32) (vs : List Value) (h0 : Heap) (n0 : Nat) (v : Option Value) (h : Heap) (L : List Loc) : Prop := v = some (.int N) ∧ Fr n0 L ∧ h = h0
set_option maxRecDepth 65536 in
set_option maxHeartbeats 40000000 in
theorem own_rlen (l : Launch) (Z : State) (a0 : Array Value) (hw : ∀ d ∈ tables_1, d.before a0 Z = true) (ws : List Jvm.Cond) (a1 : Addr) (cz : Int32) (t : Addr) (kb : ClassId) (N : Int32) (vs : List Value) (h0 : Heap) (n0 : Nat) (Z0 : n0 ≤ h0.size) (O : Old Z n0 h0) (SC : Sta Z Z.heap "java/lang/String" "COMPACT_STRINGS" "Z" (.int cz)) (Ex : Exa Z h0 a1 "java/lang/String") (Fv : Fld Z h0 a1 "java/lang/String" "value" "[B" (.ref t)) (Fc : Fld Z h0 a1 "java/lang/String" "coder" "B" (.int (0 : Int32))) (Va : Arv Z h0 t kb .byte N vs (.int (0 : Int32))) (hz : ¬ (cz = (0 : Int32))) :
    MetFree l (⟨"java/lang/String", "length", "()I"⟩ : MethodName) (head1 (Jvm.Cond.code (⟨"java/lang/String", "length", "()I"⟩ : MethodName) jdk_42_method_54_code 1 (some .int) :: ws) ({ frames := 1, cells := 0, slots := 0, locals := 13 } : Room)) (fun a U => a = #[(.ref a1)] ∧ Z.Warmed39 U.vm ∧ U.heap = h0) (fun _ _ _ _ _ => True) (fun _ U o U' => ∃ v L, o = .returned v ∧ own_Q_own_rlen Z a1 cz t kb N vs h0 n0 v U'.heap L ∧ FrameEnd U o U' L ({ frames := 1, cells := 0, slots := 0, locals := 13 } : Room).cells ({ frames := 1, cells := 0, slots := 0, locals := 13 } : Room).slots) := by
  refine MetFree.of_bodySF (plainFor_of_name own_pn_java_lang_String) hisR ?_
  intro p e s m args below meth c s₁ Bd hml0 hP hK
  obtain ⟨rfl, hZ, hh⟩ := hP
  have hx := Bd.exec
  have hby := Bd.bytes
  have hml : c.maxLocals = 1 := hml0
  have hown : s.vm.findClass "java/lang/String" = some m.cls := findClass_of_methodNamed Bd.named
  have hnm := (name_of_methodNamed Bd.named Bd.method).1
  have X0 : Stand p l e ({ frames := 1, cells := 0, slots := 0, locals := 13 } : Room) s m #[(.ref a1)] below meth c s₁ [] 0 0 := Stand.of_body Bd
  have e0 : s₁.heap = h0 := by rw [← hh, Bd.state]; rfl
  have N0 := Fr.nil n0
  show own_Go p e below s (own_Q_own_rlen Z a1 cz t kb N vs h0 n0) ({ frames := 1, cells := 0, slots := 0, locals := 13 } : Room).cells ({ frames := 1, cells := 0, slots := 0, locals := 13 } : Room).slots (s₁.setTop (entryFrame m #[(.ref a1)] 1))
  refine own_go (fun zt zk => castTop (own_ef_own_rlen m a1) zk) ?_
  show own_Go p e below s _ _ _ (s₁.setTop (mkF m 0 #[rv a1] []))
  refine own_go (fun zt zk => (XS.aloadN X0.here hx rfl (hb hby own_d7_0) rfl rfl zk)) ?_
  show own_Go p e below s _ _ _ (s₁.setTop (mkF m 1 #[rv a1] [(.ref a1)]))
  obtain ⟨T1, X1, e1, st1⟩ := getF X0 hx hZ hown (host := "") (Or.inl (hw _ (List.mem_of_getElem? (i := 25) rfl))) Via.refl e0 Fv (g := (mkF m 1 #[rv a1] [(.ref a1)])) rfl rfl (hb hby own_d7_1)
  refine own_go st1 ?_
  show own_Go p e below s _ _ _ (T1.setTop (mkF m 4 #[rv a1] [(.ref t)]))
  obtain ⟨cl2, Ar2, -, Sz2, Nz2, -, -⟩ := id Va
  refine own_go (X1.arraylength hx (by rw [e1]; exact Ar2.1) (State.isArrayOf_alike hZ.alike Ar2.2.1) (g := (mkF m 4 #[rv a1] [(.ref t)])) rfl rfl (hb hby own_d7_4)) ?_
  rw [len_of Sz2 Nz2]
  show own_Go p e below s _ _ _ (T1.setTop (mkF m 5 #[rv a1] [(.int N)]))
  refine own_go (fun zt zk => (XS.aloadN X1.here hx rfl (hb hby own_d7_5) rfl rfl zk)) ?_
  show own_Go p e below s _ _ _ (T1.setTop (mkF m 6 #[rv a1] [(.ref a1), (.int N)]))
  obtain ⟨cq3, kq3, qa3, qb3, qc3⟩ := isOf hZ e1 Ex
  obtain ⟨_, _, ⟨T3, L3, k3, n3⟩, -, X3, ⟨Lc3, hQ3, l3, y3, z3⟩, st3⟩ := X1.virtualBack hx (y := (⟨"java/lang/String", "coder", "()B"⟩ : MethodName)) (z := (⟨"java/lang/String", "coder", "()B"⟩ : MethodName)) hown (mvT hZ (hw _ (List.mem_of_getElem? (i := 51) rfl))) (mvT hZ (hw _ (List.mem_of_getElem? (i := 52) rfl))) (notFace_of_selects (args := #[]) (mvT hZ (hw _ (List.mem_of_getElem? (i := 54) rfl)))) (mvT hZ (hw _ (List.mem_of_getElem? (i := 54) rfl))) (mvT hZ (hw _ (List.mem_of_getElem? (i := 53) rfl))) (by decide) (backOf (W := 1) (own_rcoder l Z a0 hw [] a1 cz h0 n0 Z0 O SC Fc hz) hZ (hw _ (List.mem_of_getElem? (i := 55) rfl)) (hw _ (List.mem_of_getElem? (i := 7) rfl)) (by decide) (by decide)) qa3 qc3 (g := (mkF m 6 #[rv a1] [(.ref a1), (.int N)])) rfl (by rw [hml]; rfl) (Steps.refl _) (argsL := []) (rest := [(.int N)]) (lenOf own_pd___B rfl) rfl (by show 2 * 0 + _ ≤ _; exact Nat.le_of_eq rfl) (hb hby own_d7_6) (fun _ _ => ⟨rfl, e1, (by decide : 0 + 0 ≤ _), (by decide : 0 + 0 ≤ _)⟩)
  dsimp only [Pt.U, Pt.locs, Pt.cells, Pt.slots] at X3 l3 y3 z3 st3 hQ3
  subst l3 y3 z3
  obtain ⟨rfl, Nq3, e3⟩ := hQ3
  have N3 := Fr.app N0 Nq3
  refine own_go (fun zt zk => st3.trans zk) ?_
  show own_Go p e below s _ _ _ (T3.setTop (mkF m 9 #[rv a1] [(.int (0 : Int32)), (.int N)]))
  refine own_go (fun zt zk => (XS.ishr X3.here hx rfl (hb hby own_d7_9) rfl zk)) ?_
  show own_Go p e below s _ _ _ (T3.setTop (mkF m 10 #[rv a1] [(.int (N >>> ((0 : Int32) &&& 31)))]))
  exact own_fin X3 Bd.notSynchronized (fun h => by rw [Bd.returns] at h; cases h) (fun fs hr => retOut X3 hx (t := .int) (w := (.int (N >>> ((0 : Int32) &&& 31)))) Bd.returns rfl (Or.inl ⟨rfl, Or.inl rfl, _, rfl⟩) (hb hby own_d7_10) hr) (by rw [e3]; exact ⟨congrArg (fun z => some (Value.int z)) (own_shr0 _), N3, rfl⟩) (by decide) (by decide)
theorem own_d5_0 : decode prog_51_method_1_code 0 = .ok (.aload_n 0, 1) := by decide +kernel
theorem own_d5_1 : decode prog_51_method_1_code 1 = .ok (.invokespecial 1, 3) := by decide +kernel
theorem own_d5_4 : decode prog_51_method_1_code 4 = .ok (.aload_n 0, 1) := by decide +kernel
theorem own_d5_5 : decode prog_51_method_1_code 5 = .ok (.aload_n 1, 1) := by decide +kernel
theorem own_d5_6 : decode prog_51_method_1_code 6 = .ok (.putfield 7, 3) := by decide +kernel
theorem own_d5_9 : decode prog_51_method_1_code 9 = .ok (.aload_n 0, 1) := by decide +kernel
theorem own_d5_10 : decode prog_51_method_1_code 10 = .ok (.lload_n 2, 1) := by decide +kernel
theorem own_d5_11 : decode prog_51_method_1_code 11 = .ok (.putfield 13, 3) := by decide +kernel
theorem own_d5_14 : decode prog_51_method_1_code 14 = .ok (.aload_n 0, 1) := by decide +kernel
theorem own_d5_15 : decode prog_51_method_1_code 15 = .ok (.aload 4, 2) := by decide +kernel
theorem own_d5_17 : decode prog_51_method_1_code 17 = .ok (.putfield 17, 3) := by decide +kernel
theorem own_d5_20 : decode prog_51_method_1_code 20 = .ok (.return_, 1) := by decide +kernel
theorem own_pn_com_example_riskscan_riskscan_io_FixedWidthRecord : plainName "com/example/riskscan/riskscan/io/FixedWidthRecord" = true := by first | (simp [plainName, overriddenIn]; done) | decide +kernel
theorem own_ef_own_rfwr (m : MethodId) (a1 : Addr) (x : Addr) (y : Int64) (z : Addr) : entryFrame m #[(.ref a1), (.ref x), (.long y), (.ref z)] 5 = mkF m 0 #[rv a1, rv x, .val (.long y), .second, rv z] [] := by first | (simp [entryFrame, mkF, argsToLocals, Value.category]; done) | rfl
def own_Q_own_rfwr (Z : State) (a1 : Addr) (x : Addr) (y : Int64) (z : Addr) (h0 : Heap) (n0 : Nat) (v : Option Value) (h : Heap) (L : List Loc) : Prop := v = none ∧ Fr n0 L ∧ Keep h0 h [a1] ∧ Exa Z h a1 "com/example/riskscan/riskscan/io/FixedWidthRecord" ∧ Fld Z h a1 "com/example/riskscan/riskscan/io/FixedWidthRecord" "file" "Ljava/lang/String;" (.ref x) ∧ Fld Z h a1 "com/example/riskscan/riskscan/io/FixedWidthRecord" "line" "J" (.long y) ∧ Fld Z h a1 "com/example/riskscan/riskscan/io/FixedWidthRecord" "text" "Ljava/lang/String;" (.ref z)
set_option maxRecDepth 65536 in
set_option maxHeartbeats 40000000 in
theorem own_rfwr (l : Launch) (Z : State) (a0 : Array Value) (hw : ∀ d ∈ tables_1, d.before a0 Z = true) (ws : List Jvm.Cond) (a1 : Addr) (x : Addr) (y : Int64) (z : Addr) (h0 : Heap) (n0 : Nat) (Z0 : n0 ≤ h0.size) (Ex : Exa Z h0 a1 "com/example/riskscan/riskscan/io/FixedWidthRecord") (F_file : Fld Z h0 a1 "com/example/riskscan/riskscan/io/FixedWidthRecord" "file" "Ljava/lang/String;" .null) (F_line : Fld Z h0 a1 "com/example/riskscan/riskscan/io/FixedWidthRecord" "line" "J" (.long (0 : Int64))) (F_text : Fld Z h0 a1 "com/example/riskscan/riskscan/io/FixedWidthRecord" "text" "Ljava/lang/String;" .null) (g_a1 : n0 ≤ a1) :
    MetFree l (⟨"com/example/riskscan/riskscan/io/FixedWidthRecord", "<init>", "(Ljava/lang/String;JLjava/lang/String;)V"⟩ : MethodName) (head1 (Jvm.Cond.code (⟨"com/example/riskscan/riskscan/io/FixedWidthRecord", "<init>", "(Ljava/lang/String;JLjava/lang/String;)V"⟩ : MethodName) prog_51_method_1_code 5 none :: ws) ({ frames := 1, cells := 0, slots := 0, locals := 12 } : Room)) (fun a U => a = #[(.ref a1), (.ref x), (.long y), (.ref z)] ∧ Z.Warmed39 U.vm ∧ U.heap = h0) (fun _ _ _ _ _ => True) (fun _ U o U' => ∃ v L, o = .returned v ∧ own_Q_own_rfwr Z a1 x y z h0 n0 v U'.heap L ∧ FrameEnd U o U' L ({ frames := 1, cells := 0, slots := 0, locals := 12 } : Room).cells ({ frames := 1, cells := 0, slots := 0, locals := 12 } : Room).slots) := by
  refine MetFree.of_bodySF (plainFor_of_name own_pn_com_example_riskscan_riskscan_io_FixedWidthRecord) hisR ?_
  intro p e s m args below meth c s₁ Bd hml0 hP hK
  obtain ⟨rfl, hZ, hh⟩ := hP
  have hx := Bd.exec
  have hby := Bd.bytes
  have hml : c.maxLocals = 5 := hml0
  have hown : s.vm.findClass "com/example/riskscan/riskscan/io/FixedWidthRecord" = some m.cls := findClass_of_methodNamed Bd.named
  have hnm := (name_of_methodNamed Bd.named Bd.method).1
  have X0 : Stand p l e ({ frames := 1, cells := 0, slots := 0, locals := 12 } : Room) s m #[(.ref a1), (.ref x), (.long y), (.ref z)] below meth c s₁ [] 0 0 := Stand.of_body Bd
  have e0 : s₁.heap = h0 := by rw [← hh, Bd.state]; rfl
  have N0 := Fr.nil n0
  have Kp : Keep h0 h0 [a1] := Keep.refl h0 _
  show own_Go p e below s (own_Q_own_rfwr Z a1 x y z h0 n0) ({ frames := 1, cells := 0, slots := 0, locals := 12 } : Room).cells ({ frames := 1, cells := 0, slots := 0, locals := 12 } : Room).slots (s₁.setTop (entryFrame m #[(.ref a1), (.ref x), (.long y), (.ref z)] 5))
  refine own_go (fun zt zk => castTop (own_ef_own_rfwr m a1 x y z) zk) ?_
  show own_Go p e below s _ _ _ (s₁.setTop (mkF m 0 #[rv a1, rv x, .val (.long y), .second, rv z] []))
  refine own_go (fun zt zk => (XS.aloadN X0.here hx rfl (hb hby own_d5_0) rfl rfl zk)) ?_
  show own_Go p e below s _ _ _ (s₁.setTop (mkF m 1 #[rv a1, rv x, .val (.long y), .second, rv z] [(.ref a1)]))
  obtain ⟨T1, X1, e1, st1⟩ := initO X0 hx hZ hown (hw _ (List.mem_of_getElem? (i := 34) rfl)) (hw _ (List.mem_of_getElem? (i := 17) rfl)) (hw _ (List.mem_of_getElem? (i := 18) rfl)) e0 (g := (mkF m 1 #[rv a1, rv x, .val (.long y), .second, rv z] [(.ref a1)])) rfl (by rw [hml]; rfl) rfl (hb hby own_d5_1) (by decide) (W := 0) (by show 2 * 0 + _ ≤ _; exact Nat.le_of_eq rfl) (by decide)
  refine own_go st1 ?_
  show own_Go p e below s _ _ _ (T1.setTop (mkF m 4 #[rv a1, rv x, .val (.long y), .second, rv z] []))
  refine own_go (fun zt zk => (XS.aloadN X1.here hx rfl (hb hby own_d5_4) rfl rfl (XS.aloadN X1.here hx rfl (hb hby own_d5_5) rfl rfl zk))) ?_
  show own_Go p e below s _ _ _ (T1.setTop (mkF m 6 #[rv a1, rv x, .val (.long y), .second, rv z] [(.ref x), (.ref a1)]))
  obtain ⟨T2, h2, X2, e2, W2, st2⟩ := putF X1 hx hZ hown (host := "") (Or.inl (hw _ (List.mem_of_getElem? (i := 35) rfl))) Via.refl e1 F_file Ex (Or.inr ⟨(hw _ (List.mem_of_getElem? (i := 36) rfl)), rfl, hnm⟩) (hw _ (List.mem_of_getElem? (i := 28) rfl)) (ty := (.object "java/lang/String")) (by decide) rfl rfl (g := (mkF m 6 #[rv a1, rv x, .val (.long y), .second, rv z] [(.ref x), (.ref a1)])) rfl rfl (hb hby own_d5_6)
  refine own_go st2 ?_
  have N2 := Fr.snoc X2 N0 g_a1
  replace Ex := Ex.wr W2
  replace F_line := F_line.other W2 (Or.inr (slot_ne (Or.inr (hw _ (List.mem_of_getElem? (i := 38) rfl))) (Or.inr (hw _ (List.mem_of_getElem? (i := 36) rfl))) (by decide) (t := .long) (t' := (.object "java/lang/String")) (by decide) (by decide)))
  replace F_text := F_text.other W2 (Or.inr (slot_ne (Or.inr (hw _ (List.mem_of_getElem? (i := 40) rfl))) (Or.inr (hw _ (List.mem_of_getElem? (i := 36) rfl))) (by decide) (t := (.object "java/lang/String")) (t' := (.object "java/lang/String")) (by decide) (by decide)))
  replace Kp := Kp.wr W2 (Or.inl (List.mem_of_getElem? (i := 0) rfl))
  replace F_file := F_file.same W2
  show own_Go p e below s _ _ _ (T2.setTop (mkF m 9 #[rv a1, rv x, .val (.long y), .second, rv z] []))
  refine own_go (fun zt zk => (XS.aloadN X2.here hx rfl (hb hby own_d5_9) rfl rfl (XS.lloadN X2.here hx rfl (hb hby own_d5_10) rfl zk))) ?_
  show own_Go p e below s _ _ _ (T2.setTop (mkF m 11 #[rv a1, rv x, .val (.long y), .second, rv z] [(.long y), (.ref a1)]))
  obtain ⟨T3, h3, X3, e3, W3, st3⟩ := putF X2 hx hZ hown (host := "") (Or.inl (hw _ (List.mem_of_getElem? (i := 37) rfl))) Via.refl e2 F_line Ex (Or.inr ⟨(hw _ (List.mem_of_getElem? (i := 38) rfl)), rfl, hnm⟩) (hw _ (List.mem_of_getElem? (i := 28) rfl)) (ty := .long) (by decide) rfl rfl (g := (mkF m 11 #[rv a1, rv x, .val (.long y), .second, rv z] [(.long y), (.ref a1)])) rfl rfl (hb hby own_d5_11)
  refine own_go st3 ?_
  have N3 := Fr.snoc X3 N2 g_a1
  replace Ex := Ex.wr W3
  replace F_file := F_file.other W3 (Or.inr (slot_ne (Or.inr (hw _ (List.mem_of_getElem? (i := 36) rfl))) (Or.inr (hw _ (List.mem_of_getElem? (i := 38) rfl))) (by decide) (t := (.object "java/lang/String")) (t' := .long) (by decide) (by decide)))
  replace F_text := F_text.other W3 (Or.inr (slot_ne (Or.inr (hw _ (List.mem_of_getElem? (i := 40) rfl))) (Or.inr (hw _ (List.mem_of_getElem? (i := 38) rfl))) (by decide) (t := (.object "java/lang/String")) (t' := .long) (by decide) (by decide)))
  replace Kp := Kp.wr W3 (Or.inl (List.mem_of_getElem? (i := 0) rfl))
  replace F_line := F_line.same W3
  show own_Go p e below s _ _ _ (T3.setTop (mkF m 14 #[rv a1, rv x, .val (.long y), .second, rv z] []))
  refine own_go (fun zt zk => (XS.aloadN X3.here hx rfl (hb hby own_d5_14) rfl rfl (XS.aload X3.here hx rfl (hb hby own_d5_15) rfl rfl zk))) ?_
  show own_Go p e below s _ _ _ (T3.setTop (mkF m 17 #[rv a1, rv x, .val (.long y), .second, rv z] [(.ref z), (.ref a1)]))
  obtain ⟨T4, h4, X4, e4, W4, st4⟩ := putF X3 hx hZ hown (host := "") (Or.inl (hw _ (List.mem_of_getElem? (i := 39) rfl))) Via.refl e3 F_text Ex (Or.inr ⟨(hw _ (List.mem_of_getElem? (i := 40) rfl)), rfl, hnm⟩) (hw _ (List.mem_of_getElem? (i := 28) rfl)) (ty := (.object "java/lang/String")) (by decide) rfl rfl (g := (mkF m 17 #[rv a1, rv x, .val (.long y), .second, rv z] [(.ref z), (.ref a1)])) rfl rfl (hb hby own_d5_17)
  refine own_go st4 ?_
  have N4 := Fr.snoc X4 N3 g_a1
  replace Ex := Ex.wr W4
  replace F_file := F_file.other W4 (Or.inr (slot_ne (Or.inr (hw _ (List.mem_of_getElem? (i := 36) rfl))) (Or.inr (hw _ (List.mem_of_getElem? (i := 40) rfl))) (by decide) (t := (.object "java/lang/String")) (t' := (.object "java/lang/String")) (by decide) (by decide)))
  replace F_line := F_line.other W4 (Or.inr (slot_ne (Or.inr (hw _ (List.mem_of_getElem? (i := 38) rfl))) (Or.inr (hw _ (List.mem_of_getElem? (i := 40) rfl))) (by decide) (t := .long) (t' := (.object "java/lang/String")) (by decide) (by decide)))
  replace Kp := Kp.wr W4 (Or.inl (List.mem_of_getElem? (i := 0) rfl))
  replace F_text := F_text.same W4
  show own_Go p e below s _ _ _ (T4.setTop (mkF m 20 #[rv a1, rv x, .val (.long y), .second, rv z] []))
  exact own_fin X4 Bd.notSynchronized (fun _ => rfl) (fun fs hr => X4.returnOut hx Bd.returns (hb hby own_d5_20) hr) (by rw [e4]; exact ⟨rfl, N4, Kp, Ex, F_file, F_line, F_text⟩) (by decide) (by decide)
theorem own_d1_0 : decode method_2_code 0 = .ok (.iload_n 0, 1) := by decide +kernel
theorem own_d1_1 : decode method_2_code 1 = .ok (.ifCond .ne 14, 3) := by decide +kernel
theorem own_d1_4 : decode method_2_code 4 = .ok (.new 7, 3) := by decide +kernel
theorem own_d1_7 : decode method_2_code 7 = .ok (.dup, 1) := by decide +kernel
theorem own_d1_8 : decode method_2_code 8 = .ok (.iconst 0, 1) := by decide +kernel
theorem own_d1_9 : decode method_2_code 9 = .ok (.newarray .char, 2) := by decide +kernel
theorem own_d1_11 : decode method_2_code 11 = .ok (.invokespecial 9, 3) := by decide +kernel
theorem own_pd___C_V : parseMethodDescriptor "([C)V" = some ⟨[(.array .char)], none⟩ := by decide +kernel
theorem own_d1_14 : decode method_2_code 14 = .ok (.areturn, 1) := by decide +kernel
theorem own_pn_com_example_riskscan_riskscan_io_FixedWidthRecordReachesPinLaw : plainName "com/example/riskscan/riskscan/io/FixedWidthRecordReachesPinLaw" = true := by first | (simp [plainName, overriddenIn]; done) | decide +kernel
theorem own_ef_own_rline0 (m : MethodId) (ca : Int32) (cb : Int32) (cc : Int32) (cd : Int32) : entryFrame m #[(.int (0 : Int32)), (.int ca), (.int cb), (.int cc), (.int cd)] 5 = mkF m 0 #[iv (0 : Int32), iv ca, iv cb, iv cc, iv cd] [] := by first | (simp [entryFrame, mkF, argsToLocals, Value.category]; done) | rfl
def own_Q_own_rline0 (Z : State) (ca : Int32) (cb : Int32) (cc : Int32) (cd : Int32) (h0 : Heap) (n0 : Nat) (v : Option Value) (h : Heap) (L : List Loc) : Prop := ∃ b t kb, v = some (.ref b) ∧ Fr n0 L ∧ Keep h0 h [] ∧ h0.size ≤ b ∧ Exa Z h b "java/lang/String" ∧ Fld Z h b "java/lang/String" "value" "[B" (.ref t) ∧ Fld Z h b "java/lang/String" "coder" "B" (.int (0 : Int32)) ∧ Arv Z h t kb .byte (0 : Int32) [] (.int (0 : Int32))
set_option maxRecDepth 65536 in
set_option maxHeartbeats 40000000 in
theorem own_rline0 (l : Launch) (Z : State) (a0 : Array Value) (hw : ∀ d ∈ tables_1, d.before a0 Z = true) (ws : List Jvm.Cond) (ca : Int32) (cb : Int32) (cc : Int32) (cd : Int32) (vm0 : Vm) (h0 : Heap) (n0 : Nat) (Z0 : n0 ≤ h0.size)  (hr_ca : ¬ (ca < (0 : Int32)) ∧ ¬ ((255 : Int32) < ca)) (hr_cb : ¬ (cb < (0 : Int32)) ∧ ¬ ((255 : Int32) < cb)) (hr_cc : ¬ (cc < (0 : Int32)) ∧ ¬ ((255 : Int32) < cc)) (hr_cd : ¬ (cd < (0 : Int32)) ∧ ¬ ((255 : Int32) < cd)) :
    MetFree l (⟨"com/example/riskscan/riskscan/io/FixedWidthRecordReachesPinLaw", "line", "(ICCCC)Ljava/lang/String;"⟩ : MethodName) (head1 (Jvm.Cond.code (⟨"com/example/riskscan/riskscan/io/FixedWidthRecordReachesPinLaw", "line", "(ICCCC)Ljava/lang/String;"⟩ : MethodName) method_2_code 5 (some (.object "java/lang/String")) :: ws) ({ frames := 3, cells := 6, slots := 12, locals := 43 } : Room)) (fun a U => a = #[(.int (0 : Int32)), (.int ca), (.int cb), (.int cc), (.int cd)] ∧ Z.Warmed39 U.vm ∧ U.heap = h0 ∧ CHr Z own_EL vm0 h0 U.vm h0) (fun _ _ _ _ _ => True) (fun _ U o U' => ∃ v L, o = .returned v ∧ own_Q_own_rline0 Z ca cb cc cd h0 n0 v U'.heap L ∧ CHr Z own_EL U.vm U.heap U'.vm U'.heap ∧ ReturnedEndW U o U' L ({ frames := 3, cells := 6, slots := 12, locals := 43 } : Room).cells ({ frames := 3, cells := 6, slots := 12, locals := 43 } : Room).slots) := by
  refine MetFree.of_bodySF (plainFor_of_name own_pn_com_example_riskscan_riskscan_io_FixedWidthRecordReachesPinLaw) hisR ?_
  intro p e s m args below meth c s₁ Bd hml0 hP hK
  obtain ⟨rfl, hZ, hh, hCH⟩ := hP
  have hx := Bd.exec
  have hby := Bd.bytes
  have hml : c.maxLocals = 5 := hml0
  have hown : s.vm.findClass "com/example/riskscan/riskscan/io/FixedWidthRecordReachesPinLaw" = some m.cls := findClass_of_methodNamed Bd.named
  have hnm := (name_of_methodNamed Bd.named Bd.method).1
  have X0 : Stand p l e ({ frames := 3, cells := 6, slots := 12, locals := 43 } : Room) (s.setVm s.vm) m #[(.int (0 : Int32)), (.int ca), (.int cb), (.int cc), (.int cd)] below meth c s₁ [] 0 0 := Stand.of_body Bd
  have e0 : s₁.heap = h0 := by rw [← hh, Bd.state]; rfl
  have N0 := Fr.nil n0
  have hEL := own_EW Z a0 hw
  have wS := own_wS Z a0 hw
  have hS : s.Since s.vm 0 := (State.WarmedH.refl s).since 0
  have hk : 0 ≤ h0.size := Nat.zero_le _
  have Rc : CHr Z own_EL s.vm h0 s.vm h0 := CHr.refl hCH.1
  have Kp : Keep h0 h0 [] := Keep.refl h0 _
  show own_GoW p e below s Z (own_Q_own_rline0 Z ca cb cc cd h0 n0) ({ frames := 3, cells := 6, slots := 12, locals := 43 } : Room).cells ({ frames := 3, cells := 6, slots := 12, locals := 43 } : Room).slots (s₁.setTop (entryFrame m #[(.int (0 : Int32)), (.int ca), (.int cb), (.int cc), (.int cd)] 5))
  refine own_goW (fun zt zk => castTop (own_ef_own_rline0 m ca cb cc cd) zk) ?_
  show own_GoW p e below s _ _ _ _ (s₁.setTop (mkF m 0 #[iv (0 : Int32), iv ca, iv cb, iv cc, iv cd] []))
  refine own_goW (fun zt zk => (XS.iloadN X0.here hx rfl (hb hby own_d1_0) rfl (XS.ifNo X0.here hx rfl (hb hby own_d1_1) rfl ((if0 _ _).trans (teq (rfl : (0 : Int32) = (0 : Int32))).2) zk))) ?_
  show own_GoW p e below s _ _ _ _ (s₁.setTop (mkF m 4 #[iv (0 : Int32), iv ca, iv cb, iv cc, iv cd] []))
  obtain ⟨T1, h1, X1, e1, E1, A1, D1, -, st1⟩ := newO X0 hx hZ hown (hw _ (List.mem_of_getElem? (i := 5) rfl)) (hw _ (List.mem_of_getElem? (i := 6) rfl)) (hw _ (List.mem_of_getElem? (i := 7) rfl)) e0 (g := (mkF m 4 #[iv (0 : Int32), iv ca, iv cb, iv cc, iv cd] [])) rfl (hb hby own_d1_4) (by decide) (by decide)
  obtain ⟨b1, g1⟩ : ∃ z, z = h0.size := ⟨_, rfl⟩
  rw [← g1] at A1 D1 st1
  refine own_goW st1 ?_
  have sz_b1 : h0.size ≤ b1 := Nat.le_trans Kp.1 (Nat.le_of_eq g1.symm)
  have g_b1 : n0 ≤ b1 := Nat.le_trans Z0 sz_b1
  have Sf_b1 : Safe Z own_EL s.vm h0 b1 := Safe.new (Nat.le_of_eq g1.symm)
  replace Kp := Kp.ext E1
  replace Sf_b1 := Safe.ext E1 Rc.1 Sf_b1
  replace Rc := Rc.trans (CHr.ext E1 Rc.1)
  replace hk := Nat.le_trans hk E1.1
  have Ex_b1 := A1
  have F_value_b1 : Fld Z h1 b1 "java/lang/String" "value" "[B" .null := D1 (Or.inr (hw _ (List.mem_of_getElem? (i := 21) rfl))) (ty := (.array .byte)) (by decide)
  have F_coder_b1 : Fld Z h1 b1 "java/lang/String" "coder" "B" (.int (0 : Int32)) := D1 (Or.inr (hw _ (List.mem_of_getElem? (i := 22) rfl))) (ty := .byte) (by decide)
  show own_GoW p e below s _ _ _ _ (T1.setTop (mkF m 7 #[iv (0 : Int32), iv ca, iv cb, iv cc, iv cd] [(.ref b1)]))
  refine own_goW (fun zt zk => (XS.dup X1.here hx rfl (hb hby own_d1_7) rfl rfl (XS.iconst X1.here hx rfl (hb hby own_d1_8) zk))) ?_
  show own_GoW p e below s _ _ _ _ (T1.setTop (mkF m 9 #[iv (0 : Int32), iv ca, iv cb, iv cc, iv cd] [(.int (0 : Int32)), (.ref b1), (.ref b1)]))
  obtain ⟨T2, h2, k2, X2, e2, E2, A2, Ea2, st2⟩ := newPE X1 hx hZ (hw _ (List.mem_of_getElem? (i := 8) rfl)) e1 (g := (mkF m 9 #[iv (0 : Int32), iv ca, iv cb, iv cc, iv cd] [(.int (0 : Int32)), (.ref b1), (.ref b1)])) rfl (hb hby own_d1_9) rfl (by decide) (cap := 0) (by decide) (by decide) (by decide) (by decide) (ad := "[C") (by decide)
  obtain ⟨b2, g2⟩ : ∃ z, z = h1.size := ⟨_, rfl⟩
  rw [← g2] at A2 Ea2 st2
  refine own_goW st2 ?_
  have ne_b1_b2 : b1 ≠ b2 := Nat.ne_of_lt (Nat.lt_of_lt_of_le Ex_b1.lt (Nat.le_of_eq g2.symm))
  have sz_b2 : h0.size ≤ b2 := Nat.le_trans Kp.1 (Nat.le_of_eq g2.symm)
  have g_b2 : n0 ≤ b2 := Nat.le_trans Z0 sz_b2
  have Sf_b2 : Safe Z own_EL s.vm h1 b2 := Safe.new (Nat.le_of_eq g2.symm)
  replace Kp := Kp.ext E2
  replace Sf_b1 := Safe.ext E2 Rc.1 Sf_b1
  replace Ex_b1 := Ex_b1.ext E2
  replace F_value_b1 := F_value_b1.ext E2
  replace F_coder_b1 := F_coder_b1.ext E2
  replace Sf_b2 := Safe.ext E2 Rc.1 Sf_b2
  replace Rc := Rc.trans (CHr.ext E2 Rc.1)
  replace hk := Nat.le_trans hk E2.1
  have V_b2 : Arv Z h2 b2 k2 .char (0 : Int32) [] (.int (0 : Int32)) := (Arv.new A2 (by decide)).pad (pad_rep [] (.int (0 : Int32)) 0)
  have Ea_b2 := Ea2
  show own_GoW p e below s _ _ _ _ (T2.setTop (mkF m 11 #[iv (0 : Int32), iv ca, iv cb, iv cc, iv cd] [(.ref b2), (.ref b1), (.ref b1)]))
  obtain ⟨_, _, ⟨T3, L3, k3, n3⟩, -, X3, hSq3, hgq3, ⟨Lc3, hQ3, l3, y3, z3, A3⟩, st3⟩ := X2.specialBackS hx (y := (⟨"java/lang/String", "<init>", "([C)V"⟩ : MethodName)) rfl hown (mvT hZ (hw _ (List.mem_of_getElem? (i := 9) rfl))) (mvT hZ (hw _ (List.mem_of_getElem? (i := 10) rfl))) (mvT hZ (hw _ (List.mem_of_getElem? (i := 11) rfl))) (by decide) (own_backW (s := s) (W := 1) (own_rn1e l Z a0 hw [] b1 b2 k2 s.vm h2 n0 (Nat.le_trans Z0 Kp.1) Ex_b1 F_value_b1 F_coder_b1 Sf_b1 V_b2 g_b1 (Ne.symm ne_b1_b2)) hZ (hw _ (List.mem_of_getElem? (i := 11) rfl)) (hw _ (List.mem_of_getElem? (i := 7) rfl)) (by decide) (by decide) hEL Rc.1) (g := (mkF m 11 #[iv (0 : Int32), iv ca, iv cb, iv cc, iv cd] [(.ref b2), (.ref b1), (.ref b1)])) rfl (by rw [hml]; rfl) (Steps.refl _) (a := b1) (argsL := [(.ref b2)]) (rest := [(.ref b1)]) (lenOf own_pd___C_V rfl) rfl (by show 2 * 0 + _ ≤ _; exact Nat.le_of_eq rfl) (hb hby own_d1_11) (fun _ _ => ⟨rfl, e2, (by decide : 2 + 4 ≤ _), (by decide : 4 + 8 ≤ _)⟩)
  dsimp only [Pt.U, Pt.locs, Pt.cells, Pt.slots] at X3 l3 y3 z3 st3 hQ3 hSq3 hgq3 A3
  subst l3 y3 z3
  obtain ⟨X3, hS3, hZ3, hown3⟩ := rebS hS (by rw [e2]; exact hk) X3 hSq3 hgq3 hZ hown
  replace Sf_b1 := CHr.safe A3 Ex_b1.lt Sf_b1
  replace Sf_b2 := CHr.safe A3 V_b2.lt Sf_b2
  replace Rc := Rc.trans A3
  replace hS := hS3
  replace hZ := hZ3
  replace hown := hown3
  have hk : T3.heap.size ≤ T3.heap.size := Nat.le_refl _
  obtain ⟨t3, kb3, rfl, Nq3, K3, -, F_value_b1, F_coder_b1, Va3⟩ := hQ3
  have N3 := Fr.app N0 Nq3
  refine own_goW (fun zt zk => st3.trans zk) ?_
  replace Kp := Kp.trans K3 (allS (Or.inr sz_b1) all0)
  replace Ex_b1 := Ex_b1.keep K3
  replace V_b2 := V_b2.keep K3 (ninS (Ne.symm ne_b1_b2) nin0)
  replace Ea_b2 := Ea_b2.keep K3
  show own_GoW p e below s _ _ _ _ (T3.setTop (mkF m 14 #[iv (0 : Int32), iv ca, iv cb, iv cc, iv cd] [(.ref b1)]))
  have Re := Rc.trans (CHv.at X3 hZ hEL Rc.1)
  exact own_finW X3 hS (hk) (by rw [hh]; exact Re) Bd.notSynchronized (fun h => by rw [Bd.returns] at h; cases h) (fun fs hr => retOut X3 hx (t := (.object "java/lang/String")) (w := (.ref b1)) Bd.returns rfl (Or.inr (Or.inr (Or.inr (Or.inr ⟨rfl, rfl, rfl⟩)))) (hb hby own_d1_14) hr) (⟨_, _, _, rfl, N3, Kp, sz_b1, Ex_b1, F_value_b1, F_coder_b1, Va3⟩) (by decide) (by decide)
theorem own_d1_15 : decode method_2_code 15 = .ok (.iload_n 0, 1) := by decide +kernel
theorem own_d1_16 : decode method_2_code 16 = .ok (.iconst 1, 1) := by decide +kernel
theorem own_d1_17 : decode method_2_code 17 = .ok (.if_icmp .ne 18, 3) := by decide +kernel
theorem own_d1_20 : decode method_2_code 20 = .ok (.new 7, 3) := by decide +kernel
theorem own_d1_23 : decode method_2_code 23 = .ok (.dup, 1) := by decide +kernel
theorem own_d1_24 : decode method_2_code 24 = .ok (.iconst 1, 1) := by decide +kernel
theorem own_d1_25 : decode method_2_code 25 = .ok (.newarray .char, 2) := by decide +kernel
theorem own_d1_27 : decode method_2_code 27 = .ok (.dup, 1) := by decide +kernel
theorem own_d1_28 : decode method_2_code 28 = .ok (.iconst 0, 1) := by decide +kernel
theorem own_d1_29 : decode method_2_code 29 = .ok (.iload_n 1, 1) := by decide +kernel
theorem own_d1_30 : decode method_2_code 30 = .ok (.castore, 1) := by decide +kernel
theorem own_d1_31 : decode method_2_code 31 = .ok (.invokespecial 9, 3) := by decide +kernel
theorem own_d1_34 : decode method_2_code 34 = .ok (.areturn, 1) := by decide +kernel
theorem own_ef_own_rline1 (m : MethodId) (ca : Int32) (cb : Int32) (cc : Int32) (cd : Int32) : entryFrame m #[(.int (1 : Int32)), (.int ca), (.int cb), (.int cc), (.int cd)] 5 = mkF m 0 #[iv (1 : Int32), iv ca, iv cb, iv cc, iv cd] [] := by first | (simp [entryFrame, mkF, argsToLocals, Value.category]; done) | rfl
def own_Q_own_rline1 (Z : State) (ca : Int32) (cb : Int32) (cc : Int32) (cd : Int32) (o_COMPACT_STRINGS : Int32) (h0 : Heap) (n0 : Nat) (v : Option Value) (h : Heap) (L : List Loc) : Prop := ∃ b t kb, v = some (.ref b) ∧ Fr n0 L ∧ Keep h0 h [] ∧ h0.size ≤ b ∧ Exa Z h b "java/lang/String" ∧ Fld Z h b "java/lang/String" "value" "[B" (.ref t) ∧ Fld Z h b "java/lang/String" "coder" "B" (.int (0 : Int32)) ∧ Arv Z h t kb .byte (1 : Int32) [(.int (ca.toInt8.toInt32))] (.int (0 : Int32))
set_option maxRecDepth 65536 in
set_option maxHeartbeats 40000000 in
theorem own_rline1 (l : Launch) (Z : State) (a0 : Array Value) (hw : ∀ d ∈ tables_1, d.before a0 Z = true) (ws : List Jvm.Cond) (ca : Int32) (cb : Int32) (cc : Int32) (cd : Int32) (o_COMPACT_STRINGS : Int32) (h0 : Heap) (n0 : Nat) (Z0 : n0 ≤ h0.size) (O : Old Z n0 h0) (S_o_COMPACT_STRINGS : Sta Z Z.heap "java/lang/String" "COMPACT_STRINGS" "Z" (.int o_COMPACT_STRINGS)) (nz_o_COMPACT_STRINGS : ¬ (o_COMPACT_STRINGS = (0 : Int32))) (hr_ca : ¬ (ca < (0 : Int32)) ∧ ¬ ((255 : Int32) < ca)) (hr_cb : ¬ (cb < (0 : Int32)) ∧ ¬ ((255 : Int32) < cb)) (hr_cc : ¬ (cc < (0 : Int32)) ∧ ¬ ((255 : Int32) < cc)) (hr_cd : ¬ (cd < (0 : Int32)) ∧ ¬ ((255 : Int32) < cd)) :
    MetFree l (⟨"com/example/riskscan/riskscan/io/FixedWidthRecordReachesPinLaw", "line", "(ICCCC)Ljava/lang/String;"⟩ : MethodName) (head1 (Jvm.Cond.code (⟨"com/example/riskscan/riskscan/io/FixedWidthRecordReachesPinLaw", "line", "(ICCCC)Ljava/lang/String;"⟩ : MethodName) method_2_code 5 (some (.object "java/lang/String")) :: ws) ({ frames := 4, cells := 3, slots := 6, locals := 66 } : Room)) (fun a U => a = #[(.int (1 : Int32)), (.int ca), (.int cb), (.int cc), (.int cd)] ∧ Z.Warmed39 U.vm ∧ U.heap = h0) (fun _ _ _ _ _ => True) (fun _ U o U' => ∃ v L, o = .returned v ∧ own_Q_own_rline1 Z ca cb cc cd o_COMPACT_STRINGS h0 n0 v U'.heap L ∧ FrameEnd U o U' L ({ frames := 4, cells := 3, slots := 6, locals := 66 } : Room).cells ({ frames := 4, cells := 3, slots := 6, locals := 66 } : Room).slots) := by
  refine MetFree.of_bodySF (plainFor_of_name own_pn_com_example_riskscan_riskscan_io_FixedWidthRecordReachesPinLaw) hisR ?_
  intro p e s m args below meth c s₁ Bd hml0 hP hK
  obtain ⟨rfl, hZ, hh⟩ := hP
  have hx := Bd.exec
  have hby := Bd.bytes
  have hml : c.maxLocals = 5 := hml0
  have hown : s.vm.findClass "com/example/riskscan/riskscan/io/FixedWidthRecordReachesPinLaw" = some m.cls := findClass_of_methodNamed Bd.named
  have hnm := (name_of_methodNamed Bd.named Bd.method).1
  have X0 : Stand p l e ({ frames := 4, cells := 3, slots := 6, locals := 66 } : Room) s m #[(.int (1 : Int32)), (.int ca), (.int cb), (.int cc), (.int cd)] below meth c s₁ [] 0 0 := Stand.of_body Bd
  have e0 : s₁.heap = h0 := by rw [← hh, Bd.state]; rfl
  have N0 := Fr.nil n0
  have Kp : Keep h0 h0 [] := Keep.refl h0 _
  show own_Go p e below s (own_Q_own_rline1 Z ca cb cc cd o_COMPACT_STRINGS h0 n0) ({ frames := 4, cells := 3, slots := 6, locals := 66 } : Room).cells ({ frames := 4, cells := 3, slots := 6, locals := 66 } : Room).slots (s₁.setTop (entryFrame m #[(.int (1 : Int32)), (.int ca), (.int cb), (.int cc), (.int cd)] 5))
  refine own_go (fun zt zk => castTop (own_ef_own_rline1 m ca cb cc cd) zk) ?_
  show own_Go p e below s _ _ _ (s₁.setTop (mkF m 0 #[iv (1 : Int32), iv ca, iv cb, iv cc, iv cd] []))
  refine own_go (fun zt zk => (XS.iloadN X0.here hx rfl (hb hby own_d1_0) rfl (XS.ifYes X0.here hx rfl (pc0 := 1) (pc' := 15) rfl (hb hby own_d1_1) rfl ((if0 _ _).trans (feq ((by decide) : ¬ ((1 : Int32) = (0 : Int32)))).2) (by decide) (by decide) (XS.iloadN X0.here hx rfl (hb hby own_d1_15) rfl (XS.iconst X0.here hx rfl (hb hby own_d1_16) (XS.icmpNo X0.here hx rfl (hb hby own_d1_17) rfl (teq (rfl : (1 : Int32) = (1 : Int32))).2 zk)))))) ?_
  show own_Go p e below s _ _ _ (s₁.setTop (mkF m 20 #[iv (1 : Int32), iv ca, iv cb, iv cc, iv cd] []))
  obtain ⟨T1, h1, X1, e1, E1, A1, D1, -, st1⟩ := newO X0 hx hZ hown (hw _ (List.mem_of_getElem? (i := 5) rfl)) (hw _ (List.mem_of_getElem? (i := 6) rfl)) (hw _ (List.mem_of_getElem? (i := 7) rfl)) e0 (g := (mkF m 20 #[iv (1 : Int32), iv ca, iv cb, iv cc, iv cd] [])) rfl (hb hby own_d1_20) (by decide) (by decide)
  obtain ⟨b1, g1⟩ : ∃ z, z = h0.size := ⟨_, rfl⟩
  rw [← g1] at A1 D1 st1
  refine own_go st1 ?_
  have sz_b1 : h0.size ≤ b1 := Nat.le_trans Kp.1 (Nat.le_of_eq g1.symm)
  have g_b1 : n0 ≤ b1 := Nat.le_trans Z0 sz_b1
  replace O := O.ext E1
  replace Kp := Kp.ext E1
  have Ex_b1 := A1
  have F_value_b1 : Fld Z h1 b1 "java/lang/String" "value" "[B" .null := D1 (Or.inr (hw _ (List.mem_of_getElem? (i := 21) rfl))) (ty := (.array .byte)) (by decide)
  have F_coder_b1 : Fld Z h1 b1 "java/lang/String" "coder" "B" (.int (0 : Int32)) := D1 (Or.inr (hw _ (List.mem_of_getElem? (i := 22) rfl))) (ty := .byte) (by decide)
  show own_Go p e below s _ _ _ (T1.setTop (mkF m 23 #[iv (1 : Int32), iv ca, iv cb, iv cc, iv cd] [(.ref b1)]))
  refine own_go (fun zt zk => (XS.dup X1.here hx rfl (hb hby own_d1_23) rfl rfl (XS.iconst X1.here hx rfl (hb hby own_d1_24) zk))) ?_
  show own_Go p e below s _ _ _ (T1.setTop (mkF m 25 #[iv (1 : Int32), iv ca, iv cb, iv cc, iv cd] [(.int (1 : Int32)), (.ref b1), (.ref b1)]))
  obtain ⟨T2, h2, k2, X2, e2, E2, A2, Ea2, st2⟩ := newPE X1 hx hZ (hw _ (List.mem_of_getElem? (i := 8) rfl)) e1 (g := (mkF m 25 #[iv (1 : Int32), iv ca, iv cb, iv cc, iv cd] [(.int (1 : Int32)), (.ref b1), (.ref b1)])) rfl (hb hby own_d1_25) rfl (by decide) (cap := 1) (by decide) (by decide) (by decide) (by decide) (ad := "[C") (by decide)
  obtain ⟨b2, g2⟩ : ∃ z, z = h1.size := ⟨_, rfl⟩
  rw [← g2] at A2 Ea2 st2
  refine own_go st2 ?_
  have ne_b1_b2 : b1 ≠ b2 := Nat.ne_of_lt (Nat.lt_of_lt_of_le Ex_b1.lt (Nat.le_of_eq g2.symm))
  have sz_b2 : h0.size ≤ b2 := Nat.le_trans Kp.1 (Nat.le_of_eq g2.symm)
  have g_b2 : n0 ≤ b2 := Nat.le_trans Z0 sz_b2
  replace O := O.ext E2
  replace Kp := Kp.ext E2
  replace Ex_b1 := Ex_b1.ext E2
  replace F_value_b1 := F_value_b1.ext E2
  replace F_coder_b1 := F_coder_b1.ext E2
  have V_b2 : Arv Z h2 b2 k2 .char (1 : Int32) [(.int (0 : Int32))] (.int (0 : Int32)) := (Arv.new A2 (by decide)).pad (pad_rep [] (.int (0 : Int32)) 1)
  have Ea_b2 := Ea2
  show own_Go p e below s _ _ _ (T2.setTop (mkF m 27 #[iv (1 : Int32), iv ca, iv cb, iv cc, iv cd] [(.ref b2), (.ref b1), (.ref b1)]))
  refine own_go (fun zt zk => (XS.dup X2.here hx rfl (hb hby own_d1_27) rfl rfl (XS.iconst X2.here hx rfl (hb hby own_d1_28) (XS.iloadN X2.here hx rfl (hb hby own_d1_29) rfl zk)))) ?_
  show own_Go p e below s _ _ _ (T2.setTop (mkF m 30 #[iv (1 : Int32), iv ca, iv cb, iv cc, iv cd] [(.int ca), (.int (0 : Int32)), (.ref b2), (.ref b2), (.ref b1), (.ref b1)]))
  obtain ⟨cl3, Ar3, q3, Sz3, Nz3, Ha3, Ga3⟩ := id V_b2
  have hin3 : ¬ ((0 : Int32) < 0 ∨ cl3.slots.size ≤ ((0 : Int32)).toNatClampNeg) := inb_of Sz3 ⟨by decide, by decide⟩
  obtain ⟨T4, h4, X4, e4, W4, st4⟩ := stC X2 hx hZ e2 Ar3 (j := (0 : Int32)) hin3 (g := (mkF m 30 #[iv (1 : Int32), iv ca, iv cb, iv cc, iv cd] [(.int ca), (.int (0 : Int32)), (.ref b2), (.ref b2), (.ref b1), (.ref b1)])) rfl rfl (hb hby own_d1_30)
  refine own_go st4 ?_
  rw [show nar .char ca = ca from own_narc hr_ca] at W4
  have V4 := Arv.set Ar3 q3 Sz3 Nz3 Ha3 Ga3 (own_fitc hr_ca) W4 0 rfl (Nat.le_of_ble_eq_true rfl)
  have N4 := Fr.snoc X4 N0 g_b2
  replace O := O.wr W4 g_b2
  replace Kp := Kp.wr W4 (Or.inr sz_b2)
  replace Ex_b1 := Ex_b1.wr W4
  replace F_value_b1 := F_value_b1.other W4 (Or.inl ne_b1_b2)
  replace F_coder_b1 := F_coder_b1.other W4 (Or.inl ne_b1_b2)
  replace Ea_b2 := Ea_b2.wr W4
  replace V_b2 : Arv Z h4 b2 k2 .char (1 : Int32) [(.int ca)] (.int (0 : Int32)) := V4
  show own_Go p e below s _ _ _ (T4.setTop (mkF m 31 #[iv (1 : Int32), iv ca, iv cb, iv cc, iv cd] [(.ref b2), (.ref b1), (.ref b1)]))
  obtain ⟨_, _, ⟨T5, L5, k5, n5⟩, -, X5, ⟨Lc5, hQ5, l5, y5, z5⟩, st5⟩ := X4.specialBack hx (y := (⟨"java/lang/String", "<init>", "([C)V"⟩ : MethodName)) rfl hown (mvT hZ (hw _ (List.mem_of_getElem? (i := 9) rfl))) (mvT hZ (hw _ (List.mem_of_getElem? (i := 10) rfl))) (mvT hZ (hw _ (List.mem_of_getElem? (i := 11) rfl))) (by decide) (StrChars.Road.backV (W := 1) hZ (own_hnew Z a0 hw) (kI := 4) (hw _ (List.mem_of_getElem? (i := 6) rfl)) (cs := [ca]) (bs := [(ca.toInt8.toInt32)]) (n := 1) g_b1 (Nat.le_trans Z0 Kp.1) Ex_b1 F_value_b1 F_coder_b1 V_b2 (S_o_COMPACT_STRINGS.ext O.2) nz_o_COMPACT_STRINGS rfl rfl (by decide) (by decide) (own_ac hr_ca own_an) rfl (by decide) (by decide)) (g := (mkF m 31 #[iv (1 : Int32), iv ca, iv cb, iv cc, iv cd] [(.ref b2), (.ref b1), (.ref b1)])) rfl (by rw [hml]; rfl) (Steps.refl _) (a := b1) (argsL := [(.ref b2)]) (rest := [(.ref b1)]) (lenOf own_pd___C_V rfl) rfl (by show 2 * 0 + _ ≤ _; exact Nat.le_of_eq rfl) (hb hby own_d1_31) (fun _ _ => ⟨rfl, e4, (by decide : 2 + 1 ≤ _), (by decide : 5 + 1 ≤ _)⟩)
  dsimp only [Pt.U, Pt.locs, Pt.cells, Pt.slots] at X5 l5 y5 z5 st5 hQ5
  subst l5 y5 z5
  obtain ⟨rfl, Nq5, K5, -, Fc5, t5, kb5, -, sz5, -, Fv5, Vt5⟩ := hQ5
  have sz_t5 : h0.size ≤ t5 := Nat.le_trans Kp.1 sz5
  have g_t5 : n0 ≤ t5 := Nat.le_trans Z0 sz_t5
  have ne_b1_t5 : b1 ≠ t5 := Nat.ne_of_lt (Nat.lt_of_lt_of_le Ex_b1.lt sz5)
  have ne_b2_t5 : b2 ≠ t5 := Nat.ne_of_lt (Nat.lt_of_lt_of_le V_b2.lt sz5)
  have N5 := Fr.app N4 Nq5
  refine own_go (fun zt zk => st5.trans zk) ?_
  replace O := O.keep K5 (allS g_b1 all0)
  replace Kp := Kp.trans K5 (allS (Or.inr sz_b1) all0)
  replace Ex_b1 := Ex_b1.keep K5
  replace V_b2 := V_b2.keep K5 (ninS (Ne.symm ne_b1_b2) nin0)
  replace Ea_b2 := Ea_b2.keep K5
  show own_Go p e below s _ _ _ (T5.setTop (mkF m 34 #[iv (1 : Int32), iv ca, iv cb, iv cc, iv cd] [(.ref b1)]))
  exact own_fin X5 Bd.notSynchronized (fun h => by rw [Bd.returns] at h; cases h) (fun fs hr => retOut X5 hx (t := (.object "java/lang/String")) (w := (.ref b1)) Bd.returns rfl (Or.inr (Or.inr (Or.inr (Or.inr ⟨rfl, rfl, rfl⟩)))) (hb hby own_d1_34) hr) ⟨_, _, _, rfl, N5, Kp, sz_b1, Ex_b1, Fv5, Fc5, Vt5⟩ (by decide) (by decide)
theorem own_d1_35 : decode method_2_code 35 = .ok (.iload_n 0, 1) := by decide +kernel
theorem own_d1_36 : decode method_2_code 36 = .ok (.iconst 2, 1) := by decide +kernel
theorem own_d1_37 : decode method_2_code 37 = .ok (.if_icmp .ne 22, 3) := by decide +kernel
theorem own_d1_40 : decode method_2_code 40 = .ok (.new 7, 3) := by decide +kernel
theorem own_d1_43 : decode method_2_code 43 = .ok (.dup, 1) := by decide +kernel
theorem own_d1_44 : decode method_2_code 44 = .ok (.iconst 2, 1) := by decide +kernel
theorem own_d1_45 : decode method_2_code 45 = .ok (.newarray .char, 2) := by decide +kernel
theorem own_d1_47 : decode method_2_code 47 = .ok (.dup, 1) := by decide +kernel
theorem own_d1_48 : decode method_2_code 48 = .ok (.iconst 0, 1) := by decide +kernel
theorem own_d1_49 : decode method_2_code 49 = .ok (.iload_n 1, 1) := by decide +kernel
theorem own_d1_50 : decode method_2_code 50 = .ok (.castore, 1) := by decide +kernel
theorem own_d1_51 : decode method_2_code 51 = .ok (.dup, 1) := by decide +kernel
theorem own_d1_52 : decode method_2_code 52 = .ok (.iconst 1, 1) := by decide +kernel
theorem own_d1_53 : decode method_2_code 53 = .ok (.iload_n 2, 1) := by decide +kernel
theorem own_d1_54 : decode method_2_code 54 = .ok (.castore, 1) := by decide +kernel
theorem own_d1_55 : decode method_2_code 55 = .ok (.invokespecial 9, 3) := by decide +kernel
theorem own_d1_58 : decode method_2_code 58 = .ok (.areturn, 1) := by decide +kernel
theorem own_ef_own_rline2 (m : MethodId) (ca : Int32) (cb : Int32) (cc : Int32) (cd : Int32) : entryFrame m #[(.int (2 : Int32)), (.int ca), (.int cb), (.int cc), (.int cd)] 5 = mkF m 0 #[iv (2 : Int32), iv ca, iv cb, iv cc, iv cd] [] := by first | (simp [entryFrame, mkF, argsToLocals, Value.category]; done) | rfl
def own_Q_own_rline2 (Z : State) (ca : Int32) (cb : Int32) (cc : Int32) (cd : Int32) (o_COMPACT_STRINGS : Int32) (h0 : Heap) (n0 : Nat) (v : Option Value) (h : Heap) (L : List Loc) : Prop := ∃ b t kb, v = some (.ref b) ∧ Fr n0 L ∧ Keep h0 h [] ∧ h0.size ≤ b ∧ Exa Z h b "java/lang/String" ∧ Fld Z h b "java/lang/String" "value" "[B" (.ref t) ∧ Fld Z h b "java/lang/String" "coder" "B" (.int (0 : Int32)) ∧ Arv Z h t kb .byte (2 : Int32) [(.int (ca.toInt8.toInt32)), (.int (cb.toInt8.toInt32))] (.int (0 : Int32))
set_option maxRecDepth 65536 in
set_option maxHeartbeats 40000000 in
theorem own_rline2 (l : Launch) (Z : State) (a0 : Array Value) (hw : ∀ d ∈ tables_1, d.before a0 Z = true) (ws : List Jvm.Cond) (ca : Int32) (cb : Int32) (cc : Int32) (cd : Int32) (o_COMPACT_STRINGS : Int32) (h0 : Heap) (n0 : Nat) (Z0 : n0 ≤ h0.size) (O : Old Z n0 h0) (S_o_COMPACT_STRINGS : Sta Z Z.heap "java/lang/String" "COMPACT_STRINGS" "Z" (.int o_COMPACT_STRINGS)) (nz_o_COMPACT_STRINGS : ¬ (o_COMPACT_STRINGS = (0 : Int32))) (hr_ca : ¬ (ca < (0 : Int32)) ∧ ¬ ((255 : Int32) < ca)) (hr_cb : ¬ (cb < (0 : Int32)) ∧ ¬ ((255 : Int32) < cb)) (hr_cc : ¬ (cc < (0 : Int32)) ∧ ¬ ((255 : Int32) < cc)) (hr_cd : ¬ (cd < (0 : Int32)) ∧ ¬ ((255 : Int32) < cd)) :
    MetFree l (⟨"com/example/riskscan/riskscan/io/FixedWidthRecordReachesPinLaw", "line", "(ICCCC)Ljava/lang/String;"⟩ : MethodName) (head1 (Jvm.Cond.code (⟨"com/example/riskscan/riskscan/io/FixedWidthRecordReachesPinLaw", "line", "(ICCCC)Ljava/lang/String;"⟩ : MethodName) method_2_code 5 (some (.object "java/lang/String")) :: ws) ({ frames := 4, cells := 3, slots := 8, locals := 66 } : Room)) (fun a U => a = #[(.int (2 : Int32)), (.int ca), (.int cb), (.int cc), (.int cd)] ∧ Z.Warmed39 U.vm ∧ U.heap = h0) (fun _ _ _ _ _ => True) (fun _ U o U' => ∃ v L, o = .returned v ∧ own_Q_own_rline2 Z ca cb cc cd o_COMPACT_STRINGS h0 n0 v U'.heap L ∧ FrameEnd U o U' L ({ frames := 4, cells := 3, slots := 8, locals := 66 } : Room).cells ({ frames := 4, cells := 3, slots := 8, locals := 66 } : Room).slots) := by
  refine MetFree.of_bodySF (plainFor_of_name own_pn_com_example_riskscan_riskscan_io_FixedWidthRecordReachesPinLaw) hisR ?_
  intro p e s m args below meth c s₁ Bd hml0 hP hK
  obtain ⟨rfl, hZ, hh⟩ := hP
  have hx := Bd.exec
  have hby := Bd.bytes
  have hml : c.maxLocals = 5 := hml0
  have hown : s.vm.findClass "com/example/riskscan/riskscan/io/FixedWidthRecordReachesPinLaw" = some m.cls := findClass_of_methodNamed Bd.named
  have hnm := (name_of_methodNamed Bd.named Bd.method).1
  have X0 : Stand p l e ({ frames := 4, cells := 3, slots := 8, locals := 66 } : Room) s m #[(.int (2 : Int32)), (.int ca), (.int cb), (.int cc), (.int cd)] below meth c s₁ [] 0 0 := Stand.of_body Bd
  have e0 : s₁.heap = h0 := by rw [← hh, Bd.state]; rfl
  have N0 := Fr.nil n0
  have Kp : Keep h0 h0 [] := Keep.refl h0 _
  show own_Go p e below s (own_Q_own_rline2 Z ca cb cc cd o_COMPACT_STRINGS h0 n0) ({ frames := 4, cells := 3, slots := 8, locals := 66 } : Room).cells ({ frames := 4, cells := 3, slots := 8, locals := 66 } : Room).slots (s₁.setTop (entryFrame m #[(.int (2 : Int32)), (.int ca), (.int cb), (.int cc), (.int cd)] 5))
  refine own_go (fun zt zk => castTop (own_ef_own_rline2 m ca cb cc cd) zk) ?_
  show own_Go p e below s _ _ _ (s₁.setTop (mkF m 0 #[iv (2 : Int32), iv ca, iv cb, iv cc, iv cd] []))
  refine own_go (fun zt zk => (XS.iloadN X0.here hx rfl (hb hby own_d1_0) rfl (XS.ifYes X0.here hx rfl (pc0 := 1) (pc' := 15) rfl (hb hby own_d1_1) rfl ((if0 _ _).trans (feq ((by decide) : ¬ ((2 : Int32) = (0 : Int32)))).2) (by decide) (by decide) (XS.iloadN X0.here hx rfl (hb hby own_d1_15) rfl (XS.iconst X0.here hx rfl (hb hby own_d1_16) (XS.icmpYes X0.here hx rfl (pc0 := 17) (pc' := 35) rfl (hb hby own_d1_17) rfl (feq ((by decide) : ¬ ((2 : Int32) = (1 : Int32)))).2 (by decide) (by decide) (XS.iloadN X0.here hx rfl (hb hby own_d1_35) rfl (XS.iconst X0.here hx rfl (hb hby own_d1_36) (XS.icmpNo X0.here hx rfl (hb hby own_d1_37) rfl (teq (rfl : (2 : Int32) = (2 : Int32))).2 zk))))))))) ?_
  show own_Go p e below s _ _ _ (s₁.setTop (mkF m 40 #[iv (2 : Int32), iv ca, iv cb, iv cc, iv cd] []))
  obtain ⟨T1, h1, X1, e1, E1, A1, D1, -, st1⟩ := newO X0 hx hZ hown (hw _ (List.mem_of_getElem? (i := 5) rfl)) (hw _ (List.mem_of_getElem? (i := 6) rfl)) (hw _ (List.mem_of_getElem? (i := 7) rfl)) e0 (g := (mkF m 40 #[iv (2 : Int32), iv ca, iv cb, iv cc, iv cd] [])) rfl (hb hby own_d1_40) (by decide) (by decide)
  obtain ⟨b1, g1⟩ : ∃ z, z = h0.size := ⟨_, rfl⟩
  rw [← g1] at A1 D1 st1
  refine own_go st1 ?_
  have sz_b1 : h0.size ≤ b1 := Nat.le_trans Kp.1 (Nat.le_of_eq g1.symm)
  have g_b1 : n0 ≤ b1 := Nat.le_trans Z0 sz_b1
  replace O := O.ext E1
  replace Kp := Kp.ext E1
  have Ex_b1 := A1
  have F_value_b1 : Fld Z h1 b1 "java/lang/String" "value" "[B" .null := D1 (Or.inr (hw _ (List.mem_of_getElem? (i := 21) rfl))) (ty := (.array .byte)) (by decide)
  have F_coder_b1 : Fld Z h1 b1 "java/lang/String" "coder" "B" (.int (0 : Int32)) := D1 (Or.inr (hw _ (List.mem_of_getElem? (i := 22) rfl))) (ty := .byte) (by decide)
  show own_Go p e below s _ _ _ (T1.setTop (mkF m 43 #[iv (2 : Int32), iv ca, iv cb, iv cc, iv cd] [(.ref b1)]))
  refine own_go (fun zt zk => (XS.dup X1.here hx rfl (hb hby own_d1_43) rfl rfl (XS.iconst X1.here hx rfl (hb hby own_d1_44) zk))) ?_
  show own_Go p e below s _ _ _ (T1.setTop (mkF m 45 #[iv (2 : Int32), iv ca, iv cb, iv cc, iv cd] [(.int (2 : Int32)), (.ref b1), (.ref b1)]))
  obtain ⟨T2, h2, k2, X2, e2, E2, A2, Ea2, st2⟩ := newPE X1 hx hZ (hw _ (List.mem_of_getElem? (i := 8) rfl)) e1 (g := (mkF m 45 #[iv (2 : Int32), iv ca, iv cb, iv cc, iv cd] [(.int (2 : Int32)), (.ref b1), (.ref b1)])) rfl (hb hby own_d1_45) rfl (by decide) (cap := 2) (by decide) (by decide) (by decide) (by decide) (ad := "[C") (by decide)
  obtain ⟨b2, g2⟩ : ∃ z, z = h1.size := ⟨_, rfl⟩
  rw [← g2] at A2 Ea2 st2
  refine own_go st2 ?_
  have ne_b1_b2 : b1 ≠ b2 := Nat.ne_of_lt (Nat.lt_of_lt_of_le Ex_b1.lt (Nat.le_of_eq g2.symm))
  have sz_b2 : h0.size ≤ b2 := Nat.le_trans Kp.1 (Nat.le_of_eq g2.symm)
  have g_b2 : n0 ≤ b2 := Nat.le_trans Z0 sz_b2
  replace O := O.ext E2
  replace Kp := Kp.ext E2
  replace Ex_b1 := Ex_b1.ext E2
  replace F_value_b1 := F_value_b1.ext E2
  replace F_coder_b1 := F_coder_b1.ext E2
  have V_b2 : Arv Z h2 b2 k2 .char (2 : Int32) [(.int (0 : Int32)), (.int (0 : Int32))] (.int (0 : Int32)) := (Arv.new A2 (by decide)).pad (pad_rep [] (.int (0 : Int32)) 2)
  have Ea_b2 := Ea2
  show own_Go p e below s _ _ _ (T2.setTop (mkF m 47 #[iv (2 : Int32), iv ca, iv cb, iv cc, iv cd] [(.ref b2), (.ref b1), (.ref b1)]))
  refine own_go (fun zt zk => (XS.dup X2.here hx rfl (hb hby own_d1_47) rfl rfl (XS.iconst X2.here hx rfl (hb hby own_d1_48) (XS.iloadN X2.here hx rfl (hb hby own_d1_49) rfl zk)))) ?_
  show own_Go p e below s _ _ _ (T2.setTop (mkF m 50 #[iv (2 : Int32), iv ca, iv cb, iv cc, iv cd] [(.int ca), (.int (0 : Int32)), (.ref b2), (.ref b2), (.ref b1), (.ref b1)]))
  obtain ⟨cl3, Ar3, q3, Sz3, Nz3, Ha3, Ga3⟩ := id V_b2
  have hin3 : ¬ ((0 : Int32) < 0 ∨ cl3.slots.size ≤ ((0 : Int32)).toNatClampNeg) := inb_of Sz3 ⟨by decide, by decide⟩
  obtain ⟨T4, h4, X4, e4, W4, st4⟩ := stC X2 hx hZ e2 Ar3 (j := (0 : Int32)) hin3 (g := (mkF m 50 #[iv (2 : Int32), iv ca, iv cb, iv cc, iv cd] [(.int ca), (.int (0 : Int32)), (.ref b2), (.ref b2), (.ref b1), (.ref b1)])) rfl rfl (hb hby own_d1_50)
  refine own_go st4 ?_
  rw [show nar .char ca = ca from own_narc hr_ca] at W4
  have V4 := Arv.set Ar3 q3 Sz3 Nz3 Ha3 Ga3 (own_fitc hr_ca) W4 0 rfl (Nat.le_of_ble_eq_true rfl)
  have N4 := Fr.snoc X4 N0 g_b2
  replace O := O.wr W4 g_b2
  replace Kp := Kp.wr W4 (Or.inr sz_b2)
  replace Ex_b1 := Ex_b1.wr W4
  replace F_value_b1 := F_value_b1.other W4 (Or.inl ne_b1_b2)
  replace F_coder_b1 := F_coder_b1.other W4 (Or.inl ne_b1_b2)
  replace Ea_b2 := Ea_b2.wr W4
  replace V_b2 : Arv Z h4 b2 k2 .char (2 : Int32) [(.int ca), (.int (0 : Int32))] (.int (0 : Int32)) := V4
  show own_Go p e below s _ _ _ (T4.setTop (mkF m 51 #[iv (2 : Int32), iv ca, iv cb, iv cc, iv cd] [(.ref b2), (.ref b1), (.ref b1)]))
  refine own_go (fun zt zk => (XS.dup X4.here hx rfl (hb hby own_d1_51) rfl rfl (XS.iconst X4.here hx rfl (hb hby own_d1_52) (XS.iloadN X4.here hx rfl (hb hby own_d1_53) rfl zk)))) ?_
  show own_Go p e below s _ _ _ (T4.setTop (mkF m 54 #[iv (2 : Int32), iv ca, iv cb, iv cc, iv cd] [(.int cb), (.int (1 : Int32)), (.ref b2), (.ref b2), (.ref b1), (.ref b1)]))
  obtain ⟨cl5, Ar5, q5, Sz5, Nz5, Ha5, Ga5⟩ := id V_b2
  have hin5 : ¬ ((1 : Int32) < 0 ∨ cl5.slots.size ≤ ((1 : Int32)).toNatClampNeg) := inb_of Sz5 ⟨by decide, by decide⟩
  obtain ⟨T6, h6, X6, e6, W6, st6⟩ := stC X4 hx hZ e4 Ar5 (j := (1 : Int32)) hin5 (g := (mkF m 54 #[iv (2 : Int32), iv ca, iv cb, iv cc, iv cd] [(.int cb), (.int (1 : Int32)), (.ref b2), (.ref b2), (.ref b1), (.ref b1)])) rfl rfl (hb hby own_d1_54)
  refine own_go st6 ?_
  rw [show nar .char cb = cb from own_narc hr_cb] at W6
  have V6 := Arv.set Ar5 q5 Sz5 Nz5 Ha5 Ga5 (own_fitc hr_cb) W6 1 rfl (Nat.le_of_ble_eq_true rfl)
  have N6 := Fr.snoc X6 N4 g_b2
  replace O := O.wr W6 g_b2
  replace Kp := Kp.wr W6 (Or.inr sz_b2)
  replace Ex_b1 := Ex_b1.wr W6
  replace F_value_b1 := F_value_b1.other W6 (Or.inl ne_b1_b2)
  replace F_coder_b1 := F_coder_b1.other W6 (Or.inl ne_b1_b2)
  replace Ea_b2 := Ea_b2.wr W6
  replace V_b2 : Arv Z h6 b2 k2 .char (2 : Int32) [(.int ca), (.int cb)] (.int (0 : Int32)) := V6
  show own_Go p e below s _ _ _ (T6.setTop (mkF m 55 #[iv (2 : Int32), iv ca, iv cb, iv cc, iv cd] [(.ref b2), (.ref b1), (.ref b1)]))
  obtain ⟨_, _, ⟨T7, L7, k7, n7⟩, -, X7, ⟨Lc7, hQ7, l7, y7, z7⟩, st7⟩ := X6.specialBack hx (y := (⟨"java/lang/String", "<init>", "([C)V"⟩ : MethodName)) rfl hown (mvT hZ (hw _ (List.mem_of_getElem? (i := 9) rfl))) (mvT hZ (hw _ (List.mem_of_getElem? (i := 10) rfl))) (mvT hZ (hw _ (List.mem_of_getElem? (i := 11) rfl))) (by decide) (StrChars.Road.backV (W := 1) hZ (own_hnew Z a0 hw) (kI := 4) (hw _ (List.mem_of_getElem? (i := 6) rfl)) (cs := [ca, cb]) (bs := [(ca.toInt8.toInt32), (cb.toInt8.toInt32)]) (n := 2) g_b1 (Nat.le_trans Z0 Kp.1) Ex_b1 F_value_b1 F_coder_b1 V_b2 (S_o_COMPACT_STRINGS.ext O.2) nz_o_COMPACT_STRINGS rfl rfl (by decide) (by decide) (own_ac hr_ca (own_ac hr_cb own_an)) rfl (by decide) (by decide)) (g := (mkF m 55 #[iv (2 : Int32), iv ca, iv cb, iv cc, iv cd] [(.ref b2), (.ref b1), (.ref b1)])) rfl (by rw [hml]; rfl) (Steps.refl _) (a := b1) (argsL := [(.ref b2)]) (rest := [(.ref b1)]) (lenOf own_pd___C_V rfl) rfl (by show 2 * 0 + _ ≤ _; exact Nat.le_of_eq rfl) (hb hby own_d1_55) (fun _ _ => ⟨rfl, e6, (by decide : 2 + 1 ≤ _), (by decide : 6 + 2 ≤ _)⟩)
  dsimp only [Pt.U, Pt.locs, Pt.cells, Pt.slots] at X7 l7 y7 z7 st7 hQ7
  subst l7 y7 z7
  obtain ⟨rfl, Nq7, K7, -, Fc7, t7, kb7, -, sz7, -, Fv7, Vt7⟩ := hQ7
  have sz_t7 : h0.size ≤ t7 := Nat.le_trans Kp.1 sz7
  have g_t7 : n0 ≤ t7 := Nat.le_trans Z0 sz_t7
  have ne_b1_t7 : b1 ≠ t7 := Nat.ne_of_lt (Nat.lt_of_lt_of_le Ex_b1.lt sz7)
  have ne_b2_t7 : b2 ≠ t7 := Nat.ne_of_lt (Nat.lt_of_lt_of_le V_b2.lt sz7)
  have N7 := Fr.app N6 Nq7
  refine own_go (fun zt zk => st7.trans zk) ?_
  replace O := O.keep K7 (allS g_b1 all0)
  replace Kp := Kp.trans K7 (allS (Or.inr sz_b1) all0)
  replace Ex_b1 := Ex_b1.keep K7
  replace V_b2 := V_b2.keep K7 (ninS (Ne.symm ne_b1_b2) nin0)
  replace Ea_b2 := Ea_b2.keep K7
  show own_Go p e below s _ _ _ (T7.setTop (mkF m 58 #[iv (2 : Int32), iv ca, iv cb, iv cc, iv cd] [(.ref b1)]))
  exact own_fin X7 Bd.notSynchronized (fun h => by rw [Bd.returns] at h; cases h) (fun fs hr => retOut X7 hx (t := (.object "java/lang/String")) (w := (.ref b1)) Bd.returns rfl (Or.inr (Or.inr (Or.inr (Or.inr ⟨rfl, rfl, rfl⟩)))) (hb hby own_d1_58) hr) ⟨_, _, _, rfl, N7, Kp, sz_b1, Ex_b1, Fv7, Fc7, Vt7⟩ (by decide) (by decide)
theorem own_d1_59 : decode method_2_code 59 = .ok (.iload_n 0, 1) := by decide +kernel
theorem own_d1_60 : decode method_2_code 60 = .ok (.iconst 3, 1) := by decide +kernel
theorem own_d1_61 : decode method_2_code 61 = .ok (.if_icmp .ne 26, 3) := by decide +kernel
theorem own_d1_64 : decode method_2_code 64 = .ok (.new 7, 3) := by decide +kernel
theorem own_d1_67 : decode method_2_code 67 = .ok (.dup, 1) := by decide +kernel
theorem own_d1_68 : decode method_2_code 68 = .ok (.iconst 3, 1) := by decide +kernel
theorem own_d1_69 : decode method_2_code 69 = .ok (.newarray .char, 2) := by decide +kernel
theorem own_d1_71 : decode method_2_code 71 = .ok (.dup, 1) := by decide +kernel
theorem own_d1_72 : decode method_2_code 72 = .ok (.iconst 0, 1) := by decide +kernel
theorem own_d1_73 : decode method_2_code 73 = .ok (.iload_n 1, 1) := by decide +kernel
theorem own_d1_74 : decode method_2_code 74 = .ok (.castore, 1) := by decide +kernel
theorem own_d1_75 : decode method_2_code 75 = .ok (.dup, 1) := by decide +kernel
theorem own_d1_76 : decode method_2_code 76 = .ok (.iconst 1, 1) := by decide +kernel
theorem own_d1_77 : decode method_2_code 77 = .ok (.iload_n 2, 1) := by decide +kernel
theorem own_d1_78 : decode method_2_code 78 = .ok (.castore, 1) := by decide +kernel
theorem own_d1_79 : decode method_2_code 79 = .ok (.dup, 1) := by decide +kernel
theorem own_d1_80 : decode method_2_code 80 = .ok (.iconst 2, 1) := by decide +kernel
theorem own_d1_81 : decode method_2_code 81 = .ok (.iload_n 3, 1) := by decide +kernel
theorem own_d1_82 : decode method_2_code 82 = .ok (.castore, 1) := by decide +kernel
theorem own_d1_83 : decode method_2_code 83 = .ok (.invokespecial 9, 3) := by decide +kernel
theorem own_d1_86 : decode method_2_code 86 = .ok (.areturn, 1) := by decide +kernel
theorem own_ef_own_rline3 (m : MethodId) (ca : Int32) (cb : Int32) (cc : Int32) (cd : Int32) : entryFrame m #[(.int (3 : Int32)), (.int ca), (.int cb), (.int cc), (.int cd)] 5 = mkF m 0 #[iv (3 : Int32), iv ca, iv cb, iv cc, iv cd] [] := by first | (simp [entryFrame, mkF, argsToLocals, Value.category]; done) | rfl
def own_Q_own_rline3 (Z : State) (ca : Int32) (cb : Int32) (cc : Int32) (cd : Int32) (o_COMPACT_STRINGS : Int32) (h0 : Heap) (n0 : Nat) (v : Option Value) (h : Heap) (L : List Loc) : Prop := ∃ b t kb, v = some (.ref b) ∧ Fr n0 L ∧ Keep h0 h [] ∧ h0.size ≤ b ∧ Exa Z h b "java/lang/String" ∧ Fld Z h b "java/lang/String" "value" "[B" (.ref t) ∧ Fld Z h b "java/lang/String" "coder" "B" (.int (0 : Int32)) ∧ Arv Z h t kb .byte (3 : Int32) [(.int (ca.toInt8.toInt32)), (.int (cb.toInt8.toInt32)), (.int (cc.toInt8.toInt32))] (.int (0 : Int32))
set_option maxRecDepth 65536 in
set_option maxHeartbeats 40000000 in
theorem own_rline3 (l : Launch) (Z : State) (a0 : Array Value) (hw : ∀ d ∈ tables_1, d.before a0 Z = true) (ws : List Jvm.Cond) (ca : Int32) (cb : Int32) (cc : Int32) (cd : Int32) (o_COMPACT_STRINGS : Int32) (h0 : Heap) (n0 : Nat) (Z0 : n0 ≤ h0.size) (O : Old Z n0 h0) (S_o_COMPACT_STRINGS : Sta Z Z.heap "java/lang/String" "COMPACT_STRINGS" "Z" (.int o_COMPACT_STRINGS)) (nz_o_COMPACT_STRINGS : ¬ (o_COMPACT_STRINGS = (0 : Int32))) (hr_ca : ¬ (ca < (0 : Int32)) ∧ ¬ ((255 : Int32) < ca)) (hr_cb : ¬ (cb < (0 : Int32)) ∧ ¬ ((255 : Int32) < cb)) (hr_cc : ¬ (cc < (0 : Int32)) ∧ ¬ ((255 : Int32) < cc)) (hr_cd : ¬ (cd < (0 : Int32)) ∧ ¬ ((255 : Int32) < cd)) :
    MetFree l (⟨"com/example/riskscan/riskscan/io/FixedWidthRecordReachesPinLaw", "line", "(ICCCC)Ljava/lang/String;"⟩ : MethodName) (head1 (Jvm.Cond.code (⟨"com/example/riskscan/riskscan/io/FixedWidthRecordReachesPinLaw", "line", "(ICCCC)Ljava/lang/String;"⟩ : MethodName) method_2_code 5 (some (.object "java/lang/String")) :: ws) ({ frames := 4, cells := 3, slots := 10, locals := 66 } : Room)) (fun a U => a = #[(.int (3 : Int32)), (.int ca), (.int cb), (.int cc), (.int cd)] ∧ Z.Warmed39 U.vm ∧ U.heap = h0) (fun _ _ _ _ _ => True) (fun _ U o U' => ∃ v L, o = .returned v ∧ own_Q_own_rline3 Z ca cb cc cd o_COMPACT_STRINGS h0 n0 v U'.heap L ∧ FrameEnd U o U' L ({ frames := 4, cells := 3, slots := 10, locals := 66 } : Room).cells ({ frames := 4, cells := 3, slots := 10, locals := 66 } : Room).slots) := by
  refine MetFree.of_bodySF (plainFor_of_name own_pn_com_example_riskscan_riskscan_io_FixedWidthRecordReachesPinLaw) hisR ?_
  intro p e s m args below meth c s₁ Bd hml0 hP hK
  obtain ⟨rfl, hZ, hh⟩ := hP
  have hx := Bd.exec
  have hby := Bd.bytes
  have hml : c.maxLocals = 5 := hml0
  have hown : s.vm.findClass "com/example/riskscan/riskscan/io/FixedWidthRecordReachesPinLaw" = some m.cls := findClass_of_methodNamed Bd.named
  have hnm := (name_of_methodNamed Bd.named Bd.method).1
  have X0 : Stand p l e ({ frames := 4, cells := 3, slots := 10, locals := 66 } : Room) s m #[(.int (3 : Int32)), (.int ca), (.int cb), (.int cc), (.int cd)] below meth c s₁ [] 0 0 := Stand.of_body Bd
  have e0 : s₁.heap = h0 := by rw [← hh, Bd.state]; rfl
  have N0 := Fr.nil n0
  have Kp : Keep h0 h0 [] := Keep.refl h0 _
  show own_Go p e below s (own_Q_own_rline3 Z ca cb cc cd o_COMPACT_STRINGS h0 n0) ({ frames := 4, cells := 3, slots := 10, locals := 66 } : Room).cells ({ frames := 4, cells := 3, slots := 10, locals := 66 } : Room).slots (s₁.setTop (entryFrame m #[(.int (3 : Int32)), (.int ca), (.int cb), (.int cc), (.int cd)] 5))
  refine own_go (fun zt zk => castTop (own_ef_own_rline3 m ca cb cc cd) zk) ?_
  show own_Go p e below s _ _ _ (s₁.setTop (mkF m 0 #[iv (3 : Int32), iv ca, iv cb, iv cc, iv cd] []))
  refine own_go (fun zt zk => (XS.iloadN X0.here hx rfl (hb hby own_d1_0) rfl (XS.ifYes X0.here hx rfl (pc0 := 1) (pc' := 15) rfl (hb hby own_d1_1) rfl ((if0 _ _).trans (feq ((by decide) : ¬ ((3 : Int32) = (0 : Int32)))).2) (by decide) (by decide) (XS.iloadN X0.here hx rfl (hb hby own_d1_15) rfl (XS.iconst X0.here hx rfl (hb hby own_d1_16) (XS.icmpYes X0.here hx rfl (pc0 := 17) (pc' := 35) rfl (hb hby own_d1_17) rfl (feq ((by decide) : ¬ ((3 : Int32) = (1 : Int32)))).2 (by decide) (by decide) (XS.iloadN X0.here hx rfl (hb hby own_d1_35) rfl (XS.iconst X0.here hx rfl (hb hby own_d1_36) (XS.icmpYes X0.here hx rfl (pc0 := 37) (pc' := 59) rfl (hb hby own_d1_37) rfl (feq ((by decide) : ¬ ((3 : Int32) = (2 : Int32)))).2 (by decide) (by decide) (XS.iloadN X0.here hx rfl (hb hby own_d1_59) rfl (XS.iconst X0.here hx rfl (hb hby own_d1_60) (XS.icmpNo X0.here hx rfl (hb hby own_d1_61) rfl (teq (rfl : (3 : Int32) = (3 : Int32))).2 zk)))))))))))) ?_
  show own_Go p e below s _ _ _ (s₁.setTop (mkF m 64 #[iv (3 : Int32), iv ca, iv cb, iv cc, iv cd] []))
  obtain ⟨T1, h1, X1, e1, E1, A1, D1, -, st1⟩ := newO X0 hx hZ hown (hw _ (List.mem_of_getElem? (i := 5) rfl)) (hw _ (List.mem_of_getElem? (i := 6) rfl)) (hw _ (List.mem_of_getElem? (i := 7) rfl)) e0 (g := (mkF m 64 #[iv (3 : Int32), iv ca, iv cb, iv cc, iv cd] [])) rfl (hb hby own_d1_64) (by decide) (by decide)
  obtain ⟨b1, g1⟩ : ∃ z, z = h0.size := ⟨_, rfl⟩
  rw [← g1] at A1 D1 st1
  refine own_go st1 ?_
  have sz_b1 : h0.size ≤ b1 := Nat.le_trans Kp.1 (Nat.le_of_eq g1.symm)
  have g_b1 : n0 ≤ b1 := Nat.le_trans Z0 sz_b1
  replace O := O.ext E1
  replace Kp := Kp.ext E1
  have Ex_b1 := A1
  have F_value_b1 : Fld Z h1 b1 "java/lang/String" "value" "[B" .null := D1 (Or.inr (hw _ (List.mem_of_getElem? (i := 21) rfl))) (ty := (.array .byte)) (by decide)
  have F_coder_b1 : Fld Z h1 b1 "java/lang/String" "coder" "B" (.int (0 : Int32)) := D1 (Or.inr (hw _ (List.mem_of_getElem? (i := 22) rfl))) (ty := .byte) (by decide)
  show own_Go p e below s _ _ _ (T1.setTop (mkF m 67 #[iv (3 : Int32), iv ca, iv cb, iv cc, iv cd] [(.ref b1)]))
  refine own_go (fun zt zk => (XS.dup X1.here hx rfl (hb hby own_d1_67) rfl rfl (XS.iconst X1.here hx rfl (hb hby own_d1_68) zk))) ?_
  show own_Go p e below s _ _ _ (T1.setTop (mkF m 69 #[iv (3 : Int32), iv ca, iv cb, iv cc, iv cd] [(.int (3 : Int32)), (.ref b1), (.ref b1)]))
  obtain ⟨T2, h2, k2, X2, e2, E2, A2, Ea2, st2⟩ := newPE X1 hx hZ (hw _ (List.mem_of_getElem? (i := 8) rfl)) e1 (g := (mkF m 69 #[iv (3 : Int32), iv ca, iv cb, iv cc, iv cd] [(.int (3 : Int32)), (.ref b1), (.ref b1)])) rfl (hb hby own_d1_69) rfl (by decide) (cap := 3) (by decide) (by decide) (by decide) (by decide) (ad := "[C") (by decide)
  obtain ⟨b2, g2⟩ : ∃ z, z = h1.size := ⟨_, rfl⟩
  rw [← g2] at A2 Ea2 st2
  refine own_go st2 ?_
  have ne_b1_b2 : b1 ≠ b2 := Nat.ne_of_lt (Nat.lt_of_lt_of_le Ex_b1.lt (Nat.le_of_eq g2.symm))
  have sz_b2 : h0.size ≤ b2 := Nat.le_trans Kp.1 (Nat.le_of_eq g2.symm)
  have g_b2 : n0 ≤ b2 := Nat.le_trans Z0 sz_b2
  replace O := O.ext E2
  replace Kp := Kp.ext E2
  replace Ex_b1 := Ex_b1.ext E2
  replace F_value_b1 := F_value_b1.ext E2
  replace F_coder_b1 := F_coder_b1.ext E2
  have V_b2 : Arv Z h2 b2 k2 .char (3 : Int32) [(.int (0 : Int32)), (.int (0 : Int32)), (.int (0 : Int32))] (.int (0 : Int32)) := (Arv.new A2 (by decide)).pad (pad_rep [] (.int (0 : Int32)) 3)
  have Ea_b2 := Ea2
  show own_Go p e below s _ _ _ (T2.setTop (mkF m 71 #[iv (3 : Int32), iv ca, iv cb, iv cc, iv cd] [(.ref b2), (.ref b1), (.ref b1)]))
  refine own_go (fun zt zk => (XS.dup X2.here hx rfl (hb hby own_d1_71) rfl rfl (XS.iconst X2.here hx rfl (hb hby own_d1_72) (XS.iloadN X2.here hx rfl (hb hby own_d1_73) rfl zk)))) ?_
  show own_Go p e below s _ _ _ (T2.setTop (mkF m 74 #[iv (3 : Int32), iv ca, iv cb, iv cc, iv cd] [(.int ca), (.int (0 : Int32)), (.ref b2), (.ref b2), (.ref b1), (.ref b1)]))
  obtain ⟨cl3, Ar3, q3, Sz3, Nz3, Ha3, Ga3⟩ := id V_b2
  have hin3 : ¬ ((0 : Int32) < 0 ∨ cl3.slots.size ≤ ((0 : Int32)).toNatClampNeg) := inb_of Sz3 ⟨by decide, by decide⟩
  obtain ⟨T4, h4, X4, e4, W4, st4⟩ := stC X2 hx hZ e2 Ar3 (j := (0 : Int32)) hin3 (g := (mkF m 74 #[iv (3 : Int32), iv ca, iv cb, iv cc, iv cd] [(.int ca), (.int (0 : Int32)), (.ref b2), (.ref b2), (.ref b1), (.ref b1)])) rfl rfl (hb hby own_d1_74)
  refine own_go st4 ?_
  rw [show nar .char ca = ca from own_narc hr_ca] at W4
  have V4 := Arv.set Ar3 q3 Sz3 Nz3 Ha3 Ga3 (own_fitc hr_ca) W4 0 rfl (Nat.le_of_ble_eq_true rfl)
  have N4 := Fr.snoc X4 N0 g_b2
  replace O := O.wr W4 g_b2
  replace Kp := Kp.wr W4 (Or.inr sz_b2)
  replace Ex_b1 := Ex_b1.wr W4
  replace F_value_b1 := F_value_b1.other W4 (Or.inl ne_b1_b2)
  replace F_coder_b1 := F_coder_b1.other W4 (Or.inl ne_b1_b2)
  replace Ea_b2 := Ea_b2.wr W4
  replace V_b2 : Arv Z h4 b2 k2 .char (3 : Int32) [(.int ca), (.int (0 : Int32)), (.int (0 : Int32))] (.int (0 : Int32)) := V4
  show own_Go p e below s _ _ _ (T4.setTop (mkF m 75 #[iv (3 : Int32), iv ca, iv cb, iv cc, iv cd] [(.ref b2), (.ref b1), (.ref b1)]))
  refine own_go (fun zt zk => (XS.dup X4.here hx rfl (hb hby own_d1_75) rfl rfl (XS.iconst X4.here hx rfl (hb hby own_d1_76) (XS.iloadN X4.here hx rfl (hb hby own_d1_77) rfl zk)))) ?_
  show own_Go p e below s _ _ _ (T4.setTop (mkF m 78 #[iv (3 : Int32), iv ca, iv cb, iv cc, iv cd] [(.int cb), (.int (1 : Int32)), (.ref b2), (.ref b2), (.ref b1), (.ref b1)]))
  obtain ⟨cl5, Ar5, q5, Sz5, Nz5, Ha5, Ga5⟩ := id V_b2
  have hin5 : ¬ ((1 : Int32) < 0 ∨ cl5.slots.size ≤ ((1 : Int32)).toNatClampNeg) := inb_of Sz5 ⟨by decide, by decide⟩
  obtain ⟨T6, h6, X6, e6, W6, st6⟩ := stC X4 hx hZ e4 Ar5 (j := (1 : Int32)) hin5 (g := (mkF m 78 #[iv (3 : Int32), iv ca, iv cb, iv cc, iv cd] [(.int cb), (.int (1 : Int32)), (.ref b2), (.ref b2), (.ref b1), (.ref b1)])) rfl rfl (hb hby own_d1_78)
  refine own_go st6 ?_
  rw [show nar .char cb = cb from own_narc hr_cb] at W6
  have V6 := Arv.set Ar5 q5 Sz5 Nz5 Ha5 Ga5 (own_fitc hr_cb) W6 1 rfl (Nat.le_of_ble_eq_true rfl)
  have N6 := Fr.snoc X6 N4 g_b2
  replace O := O.wr W6 g_b2
  replace Kp := Kp.wr W6 (Or.inr sz_b2)
  replace Ex_b1 := Ex_b1.wr W6
  replace F_value_b1 := F_value_b1.other W6 (Or.inl ne_b1_b2)
  replace F_coder_b1 := F_coder_b1.other W6 (Or.inl ne_b1_b2)
  replace Ea_b2 := Ea_b2.wr W6
  replace V_b2 : Arv Z h6 b2 k2 .char (3 : Int32) [(.int ca), (.int cb), (.int (0 : Int32))] (.int (0 : Int32)) := V6
  show own_Go p e below s _ _ _ (T6.setTop (mkF m 79 #[iv (3 : Int32), iv ca, iv cb, iv cc, iv cd] [(.ref b2), (.ref b1), (.ref b1)]))
  refine own_go (fun zt zk => (XS.dup X6.here hx rfl (hb hby own_d1_79) rfl rfl (XS.iconst X6.here hx rfl (hb hby own_d1_80) (XS.iloadN X6.here hx rfl (hb hby own_d1_81) rfl zk)))) ?_
  show own_Go p e below s _ _ _ (T6.setTop (mkF m 82 #[iv (3 : Int32), iv ca, iv cb, iv cc, iv cd] [(.int cc), (.int (2 : Int32)), (.ref b2), (.ref b2), (.ref b1), (.ref b1)]))
  obtain ⟨cl7, Ar7, q7, Sz7, Nz7, Ha7, Ga7⟩ := id V_b2
  have hin7 : ¬ ((2 : Int32) < 0 ∨ cl7.slots.size ≤ ((2 : Int32)).toNatClampNeg) := inb_of Sz7 ⟨by decide, by decide⟩
  obtain ⟨T8, h8, X8, e8, W8, st8⟩ := stC X6 hx hZ e6 Ar7 (j := (2 : Int32)) hin7 (g := (mkF m 82 #[iv (3 : Int32), iv ca, iv cb, iv cc, iv cd] [(.int cc), (.int (2 : Int32)), (.ref b2), (.ref b2), (.ref b1), (.ref b1)])) rfl rfl (hb hby own_d1_82)
  refine own_go st8 ?_
  rw [show nar .char cc = cc from own_narc hr_cc] at W8
  have V8 := Arv.set Ar7 q7 Sz7 Nz7 Ha7 Ga7 (own_fitc hr_cc) W8 2 rfl (Nat.le_of_ble_eq_true rfl)
  have N8 := Fr.snoc X8 N6 g_b2
  replace O := O.wr W8 g_b2
  replace Kp := Kp.wr W8 (Or.inr sz_b2)
  replace Ex_b1 := Ex_b1.wr W8
  replace F_value_b1 := F_value_b1.other W8 (Or.inl ne_b1_b2)
  replace F_coder_b1 := F_coder_b1.other W8 (Or.inl ne_b1_b2)
  replace Ea_b2 := Ea_b2.wr W8
  replace V_b2 : Arv Z h8 b2 k2 .char (3 : Int32) [(.int ca), (.int cb), (.int cc)] (.int (0 : Int32)) := V8
  show own_Go p e below s _ _ _ (T8.setTop (mkF m 83 #[iv (3 : Int32), iv ca, iv cb, iv cc, iv cd] [(.ref b2), (.ref b1), (.ref b1)]))
  obtain ⟨_, _, ⟨T9, L9, k9, n9⟩, -, X9, ⟨Lc9, hQ9, l9, y9, z9⟩, st9⟩ := X8.specialBack hx (y := (⟨"java/lang/String", "<init>", "([C)V"⟩ : MethodName)) rfl hown (mvT hZ (hw _ (List.mem_of_getElem? (i := 9) rfl))) (mvT hZ (hw _ (List.mem_of_getElem? (i := 10) rfl))) (mvT hZ (hw _ (List.mem_of_getElem? (i := 11) rfl))) (by decide) (StrChars.Road.backV (W := 1) hZ (own_hnew Z a0 hw) (kI := 4) (hw _ (List.mem_of_getElem? (i := 6) rfl)) (cs := [ca, cb, cc]) (bs := [(ca.toInt8.toInt32), (cb.toInt8.toInt32), (cc.toInt8.toInt32)]) (n := 3) g_b1 (Nat.le_trans Z0 Kp.1) Ex_b1 F_value_b1 F_coder_b1 V_b2 (S_o_COMPACT_STRINGS.ext O.2) nz_o_COMPACT_STRINGS rfl rfl (by decide) (by decide) (own_ac hr_ca (own_ac hr_cb (own_ac hr_cc own_an))) rfl (by decide) (by decide)) (g := (mkF m 83 #[iv (3 : Int32), iv ca, iv cb, iv cc, iv cd] [(.ref b2), (.ref b1), (.ref b1)])) rfl (by rw [hml]; rfl) (Steps.refl _) (a := b1) (argsL := [(.ref b2)]) (rest := [(.ref b1)]) (lenOf own_pd___C_V rfl) rfl (by show 2 * 0 + _ ≤ _; exact Nat.le_of_eq rfl) (hb hby own_d1_83) (fun _ _ => ⟨rfl, e8, (by decide : 2 + 1 ≤ _), (by decide : 7 + 3 ≤ _)⟩)
  dsimp only [Pt.U, Pt.locs, Pt.cells, Pt.slots] at X9 l9 y9 z9 st9 hQ9
  subst l9 y9 z9
  obtain ⟨rfl, Nq9, K9, -, Fc9, t9, kb9, -, sz9, -, Fv9, Vt9⟩ := hQ9
  have sz_t9 : h0.size ≤ t9 := Nat.le_trans Kp.1 sz9
  have g_t9 : n0 ≤ t9 := Nat.le_trans Z0 sz_t9
  have ne_b1_t9 : b1 ≠ t9 := Nat.ne_of_lt (Nat.lt_of_lt_of_le Ex_b1.lt sz9)
  have ne_b2_t9 : b2 ≠ t9 := Nat.ne_of_lt (Nat.lt_of_lt_of_le V_b2.lt sz9)
  have N9 := Fr.app N8 Nq9
  refine own_go (fun zt zk => st9.trans zk) ?_
  replace O := O.keep K9 (allS g_b1 all0)
  replace Kp := Kp.trans K9 (allS (Or.inr sz_b1) all0)
  replace Ex_b1 := Ex_b1.keep K9
  replace V_b2 := V_b2.keep K9 (ninS (Ne.symm ne_b1_b2) nin0)
  replace Ea_b2 := Ea_b2.keep K9
  show own_Go p e below s _ _ _ (T9.setTop (mkF m 86 #[iv (3 : Int32), iv ca, iv cb, iv cc, iv cd] [(.ref b1)]))
  exact own_fin X9 Bd.notSynchronized (fun h => by rw [Bd.returns] at h; cases h) (fun fs hr => retOut X9 hx (t := (.object "java/lang/String")) (w := (.ref b1)) Bd.returns rfl (Or.inr (Or.inr (Or.inr (Or.inr ⟨rfl, rfl, rfl⟩)))) (hb hby own_d1_86) hr) ⟨_, _, _, rfl, N9, Kp, sz_b1, Ex_b1, Fv9, Fc9, Vt9⟩ (by decide) (by decide)
theorem own_d1_87 : decode method_2_code 87 = .ok (.new 7, 3) := by decide +kernel
theorem own_d1_90 : decode method_2_code 90 = .ok (.dup, 1) := by decide +kernel
theorem own_d1_91 : decode method_2_code 91 = .ok (.iconst 4, 1) := by decide +kernel
theorem own_d1_92 : decode method_2_code 92 = .ok (.newarray .char, 2) := by decide +kernel
theorem own_d1_94 : decode method_2_code 94 = .ok (.dup, 1) := by decide +kernel
theorem own_d1_95 : decode method_2_code 95 = .ok (.iconst 0, 1) := by decide +kernel
theorem own_d1_96 : decode method_2_code 96 = .ok (.iload_n 1, 1) := by decide +kernel
theorem own_d1_97 : decode method_2_code 97 = .ok (.castore, 1) := by decide +kernel
theorem own_d1_98 : decode method_2_code 98 = .ok (.dup, 1) := by decide +kernel
theorem own_d1_99 : decode method_2_code 99 = .ok (.iconst 1, 1) := by decide +kernel
theorem own_d1_100 : decode method_2_code 100 = .ok (.iload_n 2, 1) := by decide +kernel
theorem own_d1_101 : decode method_2_code 101 = .ok (.castore, 1) := by decide +kernel
theorem own_d1_102 : decode method_2_code 102 = .ok (.dup, 1) := by decide +kernel
theorem own_d1_103 : decode method_2_code 103 = .ok (.iconst 2, 1) := by decide +kernel
theorem own_d1_104 : decode method_2_code 104 = .ok (.iload_n 3, 1) := by decide +kernel
theorem own_d1_105 : decode method_2_code 105 = .ok (.castore, 1) := by decide +kernel
theorem own_d1_106 : decode method_2_code 106 = .ok (.dup, 1) := by decide +kernel
theorem own_d1_107 : decode method_2_code 107 = .ok (.iconst 3, 1) := by decide +kernel
theorem own_d1_108 : decode method_2_code 108 = .ok (.iload 4, 2) := by decide +kernel
theorem own_d1_110 : decode method_2_code 110 = .ok (.castore, 1) := by decide +kernel
theorem own_d1_111 : decode method_2_code 111 = .ok (.invokespecial 9, 3) := by decide +kernel
theorem own_d1_114 : decode method_2_code 114 = .ok (.areturn, 1) := by decide +kernel
theorem own_ef_own_rline4 (m : MethodId) (p1 : Int32) (ca : Int32) (cb : Int32) (cc : Int32) (cd : Int32) : entryFrame m #[(.int p1), (.int ca), (.int cb), (.int cc), (.int cd)] 5 = mkF m 0 #[iv p1, iv ca, iv cb, iv cc, iv cd] [] := by first | (simp [entryFrame, mkF, argsToLocals, Value.category]; done) | rfl
def own_Q_own_rline4 (Z : State) (p1 : Int32) (ca : Int32) (cb : Int32) (cc : Int32) (cd : Int32) (o_COMPACT_STRINGS : Int32) (h0 : Heap) (n0 : Nat) (v : Option Value) (h : Heap) (L : List Loc) : Prop := ∃ b t kb, v = some (.ref b) ∧ Fr n0 L ∧ Keep h0 h [] ∧ h0.size ≤ b ∧ Exa Z h b "java/lang/String" ∧ Fld Z h b "java/lang/String" "value" "[B" (.ref t) ∧ Fld Z h b "java/lang/String" "coder" "B" (.int (0 : Int32)) ∧ Arv Z h t kb .byte (4 : Int32) [(.int (ca.toInt8.toInt32)), (.int (cb.toInt8.toInt32)), (.int (cc.toInt8.toInt32)), (.int (cd.toInt8.toInt32))] (.int (0 : Int32))
set_option maxRecDepth 65536 in
set_option maxHeartbeats 40000000 in
theorem own_rline4 (l : Launch) (Z : State) (a0 : Array Value) (hw : ∀ d ∈ tables_1, d.before a0 Z = true) (ws : List Jvm.Cond) (p1 : Int32) (ca : Int32) (cb : Int32) (cc : Int32) (cd : Int32) (o_COMPACT_STRINGS : Int32) (h0 : Heap) (n0 : Nat) (Z0 : n0 ≤ h0.size) (O : Old Z n0 h0) (S_o_COMPACT_STRINGS : Sta Z Z.heap "java/lang/String" "COMPACT_STRINGS" "Z" (.int o_COMPACT_STRINGS)) (nz_o_COMPACT_STRINGS : ¬ (o_COMPACT_STRINGS = (0 : Int32))) (hr_ca : ¬ (ca < (0 : Int32)) ∧ ¬ ((255 : Int32) < ca)) (hr_cb : ¬ (cb < (0 : Int32)) ∧ ¬ ((255 : Int32) < cb)) (hr_cc : ¬ (cc < (0 : Int32)) ∧ ¬ ((255 : Int32) < cc)) (hr_cd : ¬ (cd < (0 : Int32)) ∧ ¬ ((255 : Int32) < cd)) (hk0 : ¬ (p1 = (0 : Int32))) (hk1 : ¬ (p1 = (1 : Int32))) (hk2 : ¬ (p1 = (2 : Int32))) (hk3 : ¬ (p1 = (3 : Int32))) :
    MetFree l (⟨"com/example/riskscan/riskscan/io/FixedWidthRecordReachesPinLaw", "line", "(ICCCC)Ljava/lang/String;"⟩ : MethodName) (head1 (Jvm.Cond.code (⟨"com/example/riskscan/riskscan/io/FixedWidthRecordReachesPinLaw", "line", "(ICCCC)Ljava/lang/String;"⟩ : MethodName) method_2_code 5 (some (.object "java/lang/String")) :: ws) ({ frames := 4, cells := 3, slots := 12, locals := 66 } : Room)) (fun a U => a = #[(.int p1), (.int ca), (.int cb), (.int cc), (.int cd)] ∧ Z.Warmed39 U.vm ∧ U.heap = h0) (fun _ _ _ _ _ => True) (fun _ U o U' => ∃ v L, o = .returned v ∧ own_Q_own_rline4 Z p1 ca cb cc cd o_COMPACT_STRINGS h0 n0 v U'.heap L ∧ FrameEnd U o U' L ({ frames := 4, cells := 3, slots := 12, locals := 66 } : Room).cells ({ frames := 4, cells := 3, slots := 12, locals := 66 } : Room).slots) := by
  refine MetFree.of_bodySF (plainFor_of_name own_pn_com_example_riskscan_riskscan_io_FixedWidthRecordReachesPinLaw) hisR ?_
  intro p e s m args below meth c s₁ Bd hml0 hP hK
  obtain ⟨rfl, hZ, hh⟩ := hP
  have hx := Bd.exec
  have hby := Bd.bytes
  have hml : c.maxLocals = 5 := hml0
  have hown : s.vm.findClass "com/example/riskscan/riskscan/io/FixedWidthRecordReachesPinLaw" = some m.cls := findClass_of_methodNamed Bd.named
  have hnm := (name_of_methodNamed Bd.named Bd.method).1
  have X0 : Stand p l e ({ frames := 4, cells := 3, slots := 12, locals := 66 } : Room) s m #[(.int p1), (.int ca), (.int cb), (.int cc), (.int cd)] below meth c s₁ [] 0 0 := Stand.of_body Bd
  have e0 : s₁.heap = h0 := by rw [← hh, Bd.state]; rfl
  have N0 := Fr.nil n0
  have Kp : Keep h0 h0 [] := Keep.refl h0 _
  show own_Go p e below s (own_Q_own_rline4 Z p1 ca cb cc cd o_COMPACT_STRINGS h0 n0) ({ frames := 4, cells := 3, slots := 12, locals := 66 } : Room).cells ({ frames := 4, cells := 3, slots := 12, locals := 66 } : Room).slots (s₁.setTop (entryFrame m #[(.int p1), (.int ca), (.int cb), (.int cc), (.int cd)] 5))
  refine own_go (fun zt zk => castTop (own_ef_own_rline4 m p1 ca cb cc cd) zk) ?_
  show own_Go p e below s _ _ _ (s₁.setTop (mkF m 0 #[iv p1, iv ca, iv cb, iv cc, iv cd] []))
  refine own_go (fun zt zk => (XS.iloadN X0.here hx rfl (hb hby own_d1_0) rfl (XS.ifYes X0.here hx rfl (pc0 := 1) (pc' := 15) rfl (hb hby own_d1_1) rfl ((if0 _ _).trans (feq (hk0 : ¬ (p1 = (0 : Int32)))).2) (by decide) (by decide) (XS.iloadN X0.here hx rfl (hb hby own_d1_15) rfl (XS.iconst X0.here hx rfl (hb hby own_d1_16) (XS.icmpYes X0.here hx rfl (pc0 := 17) (pc' := 35) rfl (hb hby own_d1_17) rfl (feq (hk1 : ¬ (p1 = (1 : Int32)))).2 (by decide) (by decide) (XS.iloadN X0.here hx rfl (hb hby own_d1_35) rfl (XS.iconst X0.here hx rfl (hb hby own_d1_36) (XS.icmpYes X0.here hx rfl (pc0 := 37) (pc' := 59) rfl (hb hby own_d1_37) rfl (feq (hk2 : ¬ (p1 = (2 : Int32)))).2 (by decide) (by decide) (XS.iloadN X0.here hx rfl (hb hby own_d1_59) rfl (XS.iconst X0.here hx rfl (hb hby own_d1_60) (XS.icmpYes X0.here hx rfl (pc0 := 61) (pc' := 87) rfl (hb hby own_d1_61) rfl (feq (hk3 : ¬ (p1 = (3 : Int32)))).2 (by decide) (by decide) zk)))))))))))) ?_
  show own_Go p e below s _ _ _ (s₁.setTop (mkF m 87 #[iv p1, iv ca, iv cb, iv cc, iv cd] []))
  obtain ⟨T1, h1, X1, e1, E1, A1, D1, -, st1⟩ := newO X0 hx hZ hown (hw _ (List.mem_of_getElem? (i := 5) rfl)) (hw _ (List.mem_of_getElem? (i := 6) rfl)) (hw _ (List.mem_of_getElem? (i := 7) rfl)) e0 (g := (mkF m 87 #[iv p1, iv ca, iv cb, iv cc, iv cd] [])) rfl (hb hby own_d1_87) (by decide) (by decide)
  obtain ⟨b1, g1⟩ : ∃ z, z = h0.size := ⟨_, rfl⟩
  rw [← g1] at A1 D1 st1
  refine own_go st1 ?_
  have sz_b1 : h0.size ≤ b1 := Nat.le_trans Kp.1 (Nat.le_of_eq g1.symm)
  have g_b1 : n0 ≤ b1 := Nat.le_trans Z0 sz_b1
  replace O := O.ext E1
  replace Kp := Kp.ext E1
  have Ex_b1 := A1
  have F_value_b1 : Fld Z h1 b1 "java/lang/String" "value" "[B" .null := D1 (Or.inr (hw _ (List.mem_of_getElem? (i := 21) rfl))) (ty := (.array .byte)) (by decide)
  have F_coder_b1 : Fld Z h1 b1 "java/lang/String" "coder" "B" (.int (0 : Int32)) := D1 (Or.inr (hw _ (List.mem_of_getElem? (i := 22) rfl))) (ty := .byte) (by decide)
  show own_Go p e below s _ _ _ (T1.setTop (mkF m 90 #[iv p1, iv ca, iv cb, iv cc, iv cd] [(.ref b1)]))
  refine own_go (fun zt zk => (XS.dup X1.here hx rfl (hb hby own_d1_90) rfl rfl (XS.iconst X1.here hx rfl (hb hby own_d1_91) zk))) ?_
  show own_Go p e below s _ _ _ (T1.setTop (mkF m 92 #[iv p1, iv ca, iv cb, iv cc, iv cd] [(.int (4 : Int32)), (.ref b1), (.ref b1)]))
  obtain ⟨T2, h2, k2, X2, e2, E2, A2, Ea2, st2⟩ := newPE X1 hx hZ (hw _ (List.mem_of_getElem? (i := 8) rfl)) e1 (g := (mkF m 92 #[iv p1, iv ca, iv cb, iv cc, iv cd] [(.int (4 : Int32)), (.ref b1), (.ref b1)])) rfl (hb hby own_d1_92) rfl (by decide) (cap := 4) (by decide) (by decide) (by decide) (by decide) (ad := "[C") (by decide)
  obtain ⟨b2, g2⟩ : ∃ z, z = h1.size := ⟨_, rfl⟩
  rw [← g2] at A2 Ea2 st2
  refine own_go st2 ?_
  have ne_b1_b2 : b1 ≠ b2 := Nat.ne_of_lt (Nat.lt_of_lt_of_le Ex_b1.lt (Nat.le_of_eq g2.symm))
  have sz_b2 : h0.size ≤ b2 := Nat.le_trans Kp.1 (Nat.le_of_eq g2.symm)
  have g_b2 : n0 ≤ b2 := Nat.le_trans Z0 sz_b2
  replace O := O.ext E2
  replace Kp := Kp.ext E2
  replace Ex_b1 := Ex_b1.ext E2
  replace F_value_b1 := F_value_b1.ext E2
  replace F_coder_b1 := F_coder_b1.ext E2
  have V_b2 : Arv Z h2 b2 k2 .char (4 : Int32) [(.int (0 : Int32)), (.int (0 : Int32)), (.int (0 : Int32)), (.int (0 : Int32))] (.int (0 : Int32)) := (Arv.new A2 (by decide)).pad (pad_rep [] (.int (0 : Int32)) 4)
  have Ea_b2 := Ea2
  show own_Go p e below s _ _ _ (T2.setTop (mkF m 94 #[iv p1, iv ca, iv cb, iv cc, iv cd] [(.ref b2), (.ref b1), (.ref b1)]))
  refine own_go (fun zt zk => (XS.dup X2.here hx rfl (hb hby own_d1_94) rfl rfl (XS.iconst X2.here hx rfl (hb hby own_d1_95) (XS.iloadN X2.here hx rfl (hb hby own_d1_96) rfl zk)))) ?_
  show own_Go p e below s _ _ _ (T2.setTop (mkF m 97 #[iv p1, iv ca, iv cb, iv cc, iv cd] [(.int ca), (.int (0 : Int32)), (.ref b2), (.ref b2), (.ref b1), (.ref b1)]))
  obtain ⟨cl3, Ar3, q3, Sz3, Nz3, Ha3, Ga3⟩ := id V_b2
  have hin3 : ¬ ((0 : Int32) < 0 ∨ cl3.slots.size ≤ ((0 : Int32)).toNatClampNeg) := inb_of Sz3 ⟨by decide, by decide⟩
  obtain ⟨T4, h4, X4, e4, W4, st4⟩ := stC X2 hx hZ e2 Ar3 (j := (0 : Int32)) hin3 (g := (mkF m 97 #[iv p1, iv ca, iv cb, iv cc, iv cd] [(.int ca), (.int (0 : Int32)), (.ref b2), (.ref b2), (.ref b1), (.ref b1)])) rfl rfl (hb hby own_d1_97)
  refine own_go st4 ?_
  rw [show nar .char ca = ca from own_narc hr_ca] at W4
  have V4 := Arv.set Ar3 q3 Sz3 Nz3 Ha3 Ga3 (own_fitc hr_ca) W4 0 rfl (Nat.le_of_ble_eq_true rfl)
  have N4 := Fr.snoc X4 N0 g_b2
  replace O := O.wr W4 g_b2
  replace Kp := Kp.wr W4 (Or.inr sz_b2)
  replace Ex_b1 := Ex_b1.wr W4
  replace F_value_b1 := F_value_b1.other W4 (Or.inl ne_b1_b2)
  replace F_coder_b1 := F_coder_b1.other W4 (Or.inl ne_b1_b2)
  replace Ea_b2 := Ea_b2.wr W4
  replace V_b2 : Arv Z h4 b2 k2 .char (4 : Int32) [(.int ca), (.int (0 : Int32)), (.int (0 : Int32)), (.int (0 : Int32))] (.int (0 : Int32)) := V4
  show own_Go p e below s _ _ _ (T4.setTop (mkF m 98 #[iv p1, iv ca, iv cb, iv cc, iv cd] [(.ref b2), (.ref b1), (.ref b1)]))
  refine own_go (fun zt zk => (XS.dup X4.here hx rfl (hb hby own_d1_98) rfl rfl (XS.iconst X4.here hx rfl (hb hby own_d1_99) (XS.iloadN X4.here hx rfl (hb hby own_d1_100) rfl zk)))) ?_
  show own_Go p e below s _ _ _ (T4.setTop (mkF m 101 #[iv p1, iv ca, iv cb, iv cc, iv cd] [(.int cb), (.int (1 : Int32)), (.ref b2), (.ref b2), (.ref b1), (.ref b1)]))
  obtain ⟨cl5, Ar5, q5, Sz5, Nz5, Ha5, Ga5⟩ := id V_b2
  have hin5 : ¬ ((1 : Int32) < 0 ∨ cl5.slots.size ≤ ((1 : Int32)).toNatClampNeg) := inb_of Sz5 ⟨by decide, by decide⟩
  obtain ⟨T6, h6, X6, e6, W6, st6⟩ := stC X4 hx hZ e4 Ar5 (j := (1 : Int32)) hin5 (g := (mkF m 101 #[iv p1, iv ca, iv cb, iv cc, iv cd] [(.int cb), (.int (1 : Int32)), (.ref b2), (.ref b2), (.ref b1), (.ref b1)])) rfl rfl (hb hby own_d1_101)
  refine own_go st6 ?_
  rw [show nar .char cb = cb from own_narc hr_cb] at W6
  have V6 := Arv.set Ar5 q5 Sz5 Nz5 Ha5 Ga5 (own_fitc hr_cb) W6 1 rfl (Nat.le_of_ble_eq_true rfl)
  have N6 := Fr.snoc X6 N4 g_b2
  replace O := O.wr W6 g_b2
  replace Kp := Kp.wr W6 (Or.inr sz_b2)
  replace Ex_b1 := Ex_b1.wr W6
  replace F_value_b1 := F_value_b1.other W6 (Or.inl ne_b1_b2)
  replace F_coder_b1 := F_coder_b1.other W6 (Or.inl ne_b1_b2)
  replace Ea_b2 := Ea_b2.wr W6
  replace V_b2 : Arv Z h6 b2 k2 .char (4 : Int32) [(.int ca), (.int cb), (.int (0 : Int32)), (.int (0 : Int32))] (.int (0 : Int32)) := V6
  show own_Go p e below s _ _ _ (T6.setTop (mkF m 102 #[iv p1, iv ca, iv cb, iv cc, iv cd] [(.ref b2), (.ref b1), (.ref b1)]))
  refine own_go (fun zt zk => (XS.dup X6.here hx rfl (hb hby own_d1_102) rfl rfl (XS.iconst X6.here hx rfl (hb hby own_d1_103) (XS.iloadN X6.here hx rfl (hb hby own_d1_104) rfl zk)))) ?_
  show own_Go p e below s _ _ _ (T6.setTop (mkF m 105 #[iv p1, iv ca, iv cb, iv cc, iv cd] [(.int cc), (.int (2 : Int32)), (.ref b2), (.ref b2), (.ref b1), (.ref b1)]))
  obtain ⟨cl7, Ar7, q7, Sz7, Nz7, Ha7, Ga7⟩ := id V_b2
  have hin7 : ¬ ((2 : Int32) < 0 ∨ cl7.slots.size ≤ ((2 : Int32)).toNatClampNeg) := inb_of Sz7 ⟨by decide, by decide⟩
  obtain ⟨T8, h8, X8, e8, W8, st8⟩ := stC X6 hx hZ e6 Ar7 (j := (2 : Int32)) hin7 (g := (mkF m 105 #[iv p1, iv ca, iv cb, iv cc, iv cd] [(.int cc), (.int (2 : Int32)), (.ref b2), (.ref b2), (.ref b1), (.ref b1)])) rfl rfl (hb hby own_d1_105)
  refine own_go st8 ?_
  rw [show nar .char cc = cc from own_narc hr_cc] at W8
  have V8 := Arv.set Ar7 q7 Sz7 Nz7 Ha7 Ga7 (own_fitc hr_cc) W8 2 rfl (Nat.le_of_ble_eq_true rfl)
  have N8 := Fr.snoc X8 N6 g_b2
  replace O := O.wr W8 g_b2
  replace Kp := Kp.wr W8 (Or.inr sz_b2)
  replace Ex_b1 := Ex_b1.wr W8
  replace F_value_b1 := F_value_b1.other W8 (Or.inl ne_b1_b2)
  replace F_coder_b1 := F_coder_b1.other W8 (Or.inl ne_b1_b2)
  replace Ea_b2 := Ea_b2.wr W8
  replace V_b2 : Arv Z h8 b2 k2 .char (4 : Int32) [(.int ca), (.int cb), (.int cc), (.int (0 : Int32))] (.int (0 : Int32)) := V8
  show own_Go p e below s _ _ _ (T8.setTop (mkF m 106 #[iv p1, iv ca, iv cb, iv cc, iv cd] [(.ref b2), (.ref b1), (.ref b1)]))
  refine own_go (fun zt zk => (XS.dup X8.here hx rfl (hb hby own_d1_106) rfl rfl (XS.iconst X8.here hx rfl (hb hby own_d1_107) (XS.iload X8.here hx rfl (hb hby own_d1_108) rfl zk)))) ?_
  show own_Go p e below s _ _ _ (T8.setTop (mkF m 110 #[iv p1, iv ca, iv cb, iv cc, iv cd] [(.int cd), (.int (3 : Int32)), (.ref b2), (.ref b2), (.ref b1), (.ref b1)]))
  obtain ⟨cl9, Ar9, q9, Sz9, Nz9, Ha9, Ga9⟩ := id V_b2
  have hin9 : ¬ ((3 : Int32) < 0 ∨ cl9.slots.size ≤ ((3 : Int32)).toNatClampNeg) := inb_of Sz9 ⟨by decide, by decide⟩
  obtain ⟨T10, h10, X10, e10, W10, st10⟩ := stC X8 hx hZ e8 Ar9 (j := (3 : Int32)) hin9 (g := (mkF m 110 #[iv p1, iv ca, iv cb, iv cc, iv cd] [(.int cd), (.int (3 : Int32)), (.ref b2), (.ref b2), (.ref b1), (.ref b1)])) rfl rfl (hb hby own_d1_110)
  refine own_go st10 ?_
  rw [show nar .char cd = cd from own_narc hr_cd] at W10
  have V10 := Arv.set Ar9 q9 Sz9 Nz9 Ha9 Ga9 (own_fitc hr_cd) W10 3 rfl (Nat.le_of_ble_eq_true rfl)
  have N10 := Fr.snoc X10 N8 g_b2
  replace O := O.wr W10 g_b2
  replace Kp := Kp.wr W10 (Or.inr sz_b2)
  replace Ex_b1 := Ex_b1.wr W10
  replace F_value_b1 := F_value_b1.other W10 (Or.inl ne_b1_b2)
  replace F_coder_b1 := F_coder_b1.other W10 (Or.inl ne_b1_b2)
  replace Ea_b2 := Ea_b2.wr W10
  replace V_b2 : Arv Z h10 b2 k2 .char (4 : Int32) [(.int ca), (.int cb), (.int cc), (.int cd)] (.int (0 : Int32)) := V10
  show own_Go p e below s _ _ _ (T10.setTop (mkF m 111 #[iv p1, iv ca, iv cb, iv cc, iv cd] [(.ref b2), (.ref b1), (.ref b1)]))
  obtain ⟨_, _, ⟨T11, L11, k11, n11⟩, -, X11, ⟨Lc11, hQ11, l11, y11, z11⟩, st11⟩ := X10.specialBack hx (y := (⟨"java/lang/String", "<init>", "([C)V"⟩ : MethodName)) rfl hown (mvT hZ (hw _ (List.mem_of_getElem? (i := 9) rfl))) (mvT hZ (hw _ (List.mem_of_getElem? (i := 10) rfl))) (mvT hZ (hw _ (List.mem_of_getElem? (i := 11) rfl))) (by decide) (StrChars.Road.backV (W := 1) hZ (own_hnew Z a0 hw) (kI := 4) (hw _ (List.mem_of_getElem? (i := 6) rfl)) (cs := [ca, cb, cc, cd]) (bs := [(ca.toInt8.toInt32), (cb.toInt8.toInt32), (cc.toInt8.toInt32), (cd.toInt8.toInt32)]) (n := 4) g_b1 (Nat.le_trans Z0 Kp.1) Ex_b1 F_value_b1 F_coder_b1 V_b2 (S_o_COMPACT_STRINGS.ext O.2) nz_o_COMPACT_STRINGS rfl rfl (by decide) (by decide) (own_ac hr_ca (own_ac hr_cb (own_ac hr_cc (own_ac hr_cd own_an)))) rfl (by decide) (by decide)) (g := (mkF m 111 #[iv p1, iv ca, iv cb, iv cc, iv cd] [(.ref b2), (.ref b1), (.ref b1)])) rfl (by rw [hml]; rfl) (Steps.refl _) (a := b1) (argsL := [(.ref b2)]) (rest := [(.ref b1)]) (lenOf own_pd___C_V rfl) rfl (by show 2 * 0 + _ ≤ _; exact Nat.le_of_eq rfl) (hb hby own_d1_111) (fun _ _ => ⟨rfl, e10, (by decide : 2 + 1 ≤ _), (by decide : 8 + 4 ≤ _)⟩)
  dsimp only [Pt.U, Pt.locs, Pt.cells, Pt.slots] at X11 l11 y11 z11 st11 hQ11
  subst l11 y11 z11
  obtain ⟨rfl, Nq11, K11, -, Fc11, t11, kb11, -, sz11, -, Fv11, Vt11⟩ := hQ11
  have sz_t11 : h0.size ≤ t11 := Nat.le_trans Kp.1 sz11
  have g_t11 : n0 ≤ t11 := Nat.le_trans Z0 sz_t11
  have ne_b1_t11 : b1 ≠ t11 := Nat.ne_of_lt (Nat.lt_of_lt_of_le Ex_b1.lt sz11)
  have ne_b2_t11 : b2 ≠ t11 := Nat.ne_of_lt (Nat.lt_of_lt_of_le V_b2.lt sz11)
  have N11 := Fr.app N10 Nq11
  refine own_go (fun zt zk => st11.trans zk) ?_
  replace O := O.keep K11 (allS g_b1 all0)
  replace Kp := Kp.trans K11 (allS (Or.inr sz_b1) all0)
  replace Ex_b1 := Ex_b1.keep K11
  replace V_b2 := V_b2.keep K11 (ninS (Ne.symm ne_b1_b2) nin0)
  replace Ea_b2 := Ea_b2.keep K11
  show own_Go p e below s _ _ _ (T11.setTop (mkF m 114 #[iv p1, iv ca, iv cb, iv cc, iv cd] [(.ref b1)]))
  exact own_fin X11 Bd.notSynchronized (fun h => by rw [Bd.returns] at h; cases h) (fun fs hr => retOut X11 hx (t := (.object "java/lang/String")) (w := (.ref b1)) Bd.returns rfl (Or.inr (Or.inr (Or.inr (Or.inr ⟨rfl, rfl, rfl⟩)))) (hb hby own_d1_114) hr) ⟨_, _, _, rfl, N11, Kp, sz_b1, Ex_b1, Fv11, Fc11, Vt11⟩ (by decide) (by decide)
theorem own_d6_0 : decode prog_51_method_4_code 0 = .ok (.aload_n 0, 1) := by decide +kernel
theorem own_d6_1 : decode prog_51_method_4_code 1 = .ok (.getfield 17, 3) := by decide +kernel
theorem own_d6_4 : decode prog_51_method_4_code 4 = .ok (.invokevirtual 20, 3) := by decide +kernel
theorem own_pd___I : parseMethodDescriptor "()I" = some ⟨[], some .int⟩ := by decide +kernel
theorem own_d6_7 : decode prog_51_method_4_code 7 = .ok (.iload_n 1, 1) := by decide +kernel
theorem own_d6_8 : decode prog_51_method_4_code 8 = .ok (.if_icmp .lt 7, 3) := by decide +kernel
theorem own_d6_15 : decode prog_51_method_4_code 15 = .ok (.iconst 0, 1) := by decide +kernel
theorem own_d6_16 : decode prog_51_method_4_code 16 = .ok (.ireturn, 1) := by decide +kernel
theorem own_ef_own_rre0 (m : MethodId) (a0' : Addr) (p1 : Int32) : entryFrame m #[(.ref a0'), (.int p1)] 2 = mkF m 0 #[rv a0', iv p1] [] := by first | (simp [entryFrame, mkF, argsToLocals, Value.category]; done) | rfl
def own_Q_own_rre0 (Z : State) (a0' : Addr) (p1 : Int32) (x : Addr) (cz : Int32) (t : Addr) (kb : ClassId) (N : Int32) (vs : List Value) (h0 : Heap) (n0 : Nat) (v : Option Value) (h : Heap) (L : List Loc) : Prop := v = some (.int (0 : Int32)) ∧ Fr n0 L ∧ h = h0
set_option maxRecDepth 65536 in
set_option maxHeartbeats 40000000 in
theorem own_rre0 (l : Launch) (Z : State) (a0 : Array Value) (hw : ∀ d ∈ tables_1, d.before a0 Z = true) (ws : List Jvm.Cond) (a0' : Addr) (p1 : Int32) (x : Addr) (cz : Int32) (t : Addr) (kb : ClassId) (N : Int32) (vs : List Value) (h0 : Heap) (n0 : Nat) (Z0 : n0 ≤ h0.size) (O : Old Z n0 h0) (SC : Sta Z Z.heap "java/lang/String" "COMPACT_STRINGS" "Z" (.int cz)) (Ft : Fld Z h0 a0' "com/example/riskscan/riskscan/io/FixedWidthRecord" "text" "Ljava/lang/String;" (.ref x)) (Ex : Exa Z h0 x "java/lang/String") (Fv : Fld Z h0 x "java/lang/String" "value" "[B" (.ref t)) (Fc : Fld Z h0 x "java/lang/String" "coder" "B" (.int (0 : Int32))) (Va : Arv Z h0 t kb .byte N vs (.int (0 : Int32))) (hz : ¬ (cz = (0 : Int32))) (hr : N < p1) :
    MetFree l (⟨"com/example/riskscan/riskscan/io/FixedWidthRecord", "reaches", "(I)Z"⟩ : MethodName) (head1 (Jvm.Cond.code (⟨"com/example/riskscan/riskscan/io/FixedWidthRecord", "reaches", "(I)Z"⟩ : MethodName) prog_51_method_4_code 2 (some .boolean) :: ws) ({ frames := 2, cells := 0, slots := 0, locals := 25 } : Room)) (fun a U => a = #[(.ref a0'), (.int p1)] ∧ Z.Warmed39 U.vm ∧ U.heap = h0) (fun _ _ _ _ _ => True) (fun _ U o U' => ∃ v L, o = .returned v ∧ own_Q_own_rre0 Z a0' p1 x cz t kb N vs h0 n0 v U'.heap L ∧ FrameEnd U o U' L ({ frames := 2, cells := 0, slots := 0, locals := 25 } : Room).cells ({ frames := 2, cells := 0, slots := 0, locals := 25 } : Room).slots) := by
  refine MetFree.of_bodySF (plainFor_of_name own_pn_com_example_riskscan_riskscan_io_FixedWidthRecord) hisR ?_
  intro p e s m args below meth c s₁ Bd hml0 hP hK
  obtain ⟨rfl, hZ, hh⟩ := hP
  have hx := Bd.exec
  have hby := Bd.bytes
  have hml : c.maxLocals = 2 := hml0
  have hown : s.vm.findClass "com/example/riskscan/riskscan/io/FixedWidthRecord" = some m.cls := findClass_of_methodNamed Bd.named
  have hnm := (name_of_methodNamed Bd.named Bd.method).1
  have X0 : Stand p l e ({ frames := 2, cells := 0, slots := 0, locals := 25 } : Room) s m #[(.ref a0'), (.int p1)] below meth c s₁ [] 0 0 := Stand.of_body Bd
  have e0 : s₁.heap = h0 := by rw [← hh, Bd.state]; rfl
  have N0 := Fr.nil n0
  show own_Go p e below s (own_Q_own_rre0 Z a0' p1 x cz t kb N vs h0 n0) ({ frames := 2, cells := 0, slots := 0, locals := 25 } : Room).cells ({ frames := 2, cells := 0, slots := 0, locals := 25 } : Room).slots (s₁.setTop (entryFrame m #[(.ref a0'), (.int p1)] 2))
  refine own_go (fun zt zk => castTop (own_ef_own_rre0 m a0' p1) zk) ?_
  show own_Go p e below s _ _ _ (s₁.setTop (mkF m 0 #[rv a0', iv p1] []))
  refine own_go (fun zt zk => (XS.aloadN X0.here hx rfl (hb hby own_d6_0) rfl rfl zk)) ?_
  show own_Go p e below s _ _ _ (s₁.setTop (mkF m 1 #[rv a0', iv p1] [(.ref a0')]))
  obtain ⟨T1, X1, e1, st1⟩ := getF X0 hx hZ hown (host := "") (Or.inl (hw _ (List.mem_of_getElem? (i := 39) rfl))) Via.refl e0 Ft (g := (mkF m 1 #[rv a0', iv p1] [(.ref a0')])) rfl rfl (hb hby own_d6_1)
  refine own_go st1 ?_
  show own_Go p e below s _ _ _ (T1.setTop (mkF m 4 #[rv a0', iv p1] [(.ref x)]))
  obtain ⟨cq2, kq2, qa2, qb2, qc2⟩ := isOf hZ e1 Ex
  obtain ⟨_, _, ⟨T2, L2, k2, n2⟩, -, X2, ⟨Lc2, hQ2, l2, y2, z2⟩, st2⟩ := X1.virtualBack hx (y := (⟨"java/lang/String", "length", "()I"⟩ : MethodName)) (z := (⟨"java/lang/String", "length", "()I"⟩ : MethodName)) hown (mvT hZ (hw _ (List.mem_of_getElem? (i := 46) rfl))) (mvT hZ (hw _ (List.mem_of_getElem? (i := 47) rfl))) (notFace_of_selects (args := #[]) (mvT hZ (hw _ (List.mem_of_getElem? (i := 49) rfl)))) (mvT hZ (hw _ (List.mem_of_getElem? (i := 49) rfl))) (mvT hZ (hw _ (List.mem_of_getElem? (i := 48) rfl))) (by decide) (backOf (W := 0) (own_rlen l Z a0 hw [] x cz t kb N vs h0 n0 Z0 O SC Ex Fv Fc Va hz) hZ (hw _ (List.mem_of_getElem? (i := 50) rfl)) (hw _ (List.mem_of_getElem? (i := 7) rfl)) (by decide) (by decide)) qa2 qc2 (g := (mkF m 4 #[rv a0', iv p1] [(.ref x)])) rfl (by rw [hml]; rfl) (Steps.refl _) (argsL := []) (rest := []) (lenOf own_pd___I rfl) rfl (by show 2 * 0 + _ ≤ _; exact Nat.le_of_eq rfl) (hb hby own_d6_4) (fun _ _ => ⟨rfl, e1, (by decide : 0 + 0 ≤ _), (by decide : 0 + 0 ≤ _)⟩)
  dsimp only [Pt.U, Pt.locs, Pt.cells, Pt.slots] at X2 l2 y2 z2 st2 hQ2
  subst l2 y2 z2
  obtain ⟨rfl, Nq2, e2⟩ := hQ2
  have N2 := Fr.app N0 Nq2
  refine own_go (fun zt zk => st2.trans zk) ?_
  show own_Go p e below s _ _ _ (T2.setTop (mkF m 7 #[rv a0', iv p1] [(.int N)]))
  refine own_go (fun zt zk => (XS.iloadN X2.here hx rfl (hb hby own_d6_7) rfl (XS.icmpYes X2.here hx rfl (pc0 := 8) (pc' := 15) rfl (hb hby own_d6_8) rfl (tlt (hr : N < p1)).1 (by decide) (by decide) (XS.iconst X2.here hx rfl (hb hby own_d6_15) zk)))) ?_
  show own_Go p e below s _ _ _ (T2.setTop (mkF m 16 #[rv a0', iv p1] [(.int (0 : Int32))]))
  exact own_fin X2 Bd.notSynchronized (fun h => by rw [Bd.returns] at h; cases h) (fun fs hr => retN X2 hx (t := .boolean) Bd.returns (by simp) (hb hby own_d6_16) hr) (by rw [e2]; exact ⟨rfl, N2, rfl⟩) (by decide) (by decide)
theorem own_d6_11 : decode prog_51_method_4_code 11 = .ok (.iconst 1, 1) := by decide +kernel
theorem own_d6_12 : decode prog_51_method_4_code 12 = .ok (.goto 4, 3) := by decide +kernel
theorem own_ef_own_rre1 (m : MethodId) (a0' : Addr) (p1 : Int32) : entryFrame m #[(.ref a0'), (.int p1)] 2 = mkF m 0 #[rv a0', iv p1] [] := by first | (simp [entryFrame, mkF, argsToLocals, Value.category]; done) | rfl
def own_Q_own_rre1 (Z : State) (a0' : Addr) (p1 : Int32) (x : Addr) (cz : Int32) (t : Addr) (kb : ClassId) (N : Int32) (vs : List Value) (h0 : Heap) (n0 : Nat) (v : Option Value) (h : Heap) (L : List Loc) : Prop := v = some (.int (1 : Int32)) ∧ Fr n0 L ∧ h = h0
set_option maxRecDepth 65536 in
set_option maxHeartbeats 40000000 in
theorem own_rre1 (l : Launch) (Z : State) (a0 : Array Value) (hw : ∀ d ∈ tables_1, d.before a0 Z = true) (ws : List Jvm.Cond) (a0' : Addr) (p1 : Int32) (x : Addr) (cz : Int32) (t : Addr) (kb : ClassId) (N : Int32) (vs : List Value) (h0 : Heap) (n0 : Nat) (Z0 : n0 ≤ h0.size) (O : Old Z n0 h0) (SC : Sta Z Z.heap "java/lang/String" "COMPACT_STRINGS" "Z" (.int cz)) (Ft : Fld Z h0 a0' "com/example/riskscan/riskscan/io/FixedWidthRecord" "text" "Ljava/lang/String;" (.ref x)) (Ex : Exa Z h0 x "java/lang/String") (Fv : Fld Z h0 x "java/lang/String" "value" "[B" (.ref t)) (Fc : Fld Z h0 x "java/lang/String" "coder" "B" (.int (0 : Int32))) (Va : Arv Z h0 t kb .byte N vs (.int (0 : Int32))) (hz : ¬ (cz = (0 : Int32))) (hr : ¬ (N < p1)) :
    MetFree l (⟨"com/example/riskscan/riskscan/io/FixedWidthRecord", "reaches", "(I)Z"⟩ : MethodName) (head1 (Jvm.Cond.code (⟨"com/example/riskscan/riskscan/io/FixedWidthRecord", "reaches", "(I)Z"⟩ : MethodName) prog_51_method_4_code 2 (some .boolean) :: ws) ({ frames := 2, cells := 0, slots := 0, locals := 25 } : Room)) (fun a U => a = #[(.ref a0'), (.int p1)] ∧ Z.Warmed39 U.vm ∧ U.heap = h0) (fun _ _ _ _ _ => True) (fun _ U o U' => ∃ v L, o = .returned v ∧ own_Q_own_rre1 Z a0' p1 x cz t kb N vs h0 n0 v U'.heap L ∧ FrameEnd U o U' L ({ frames := 2, cells := 0, slots := 0, locals := 25 } : Room).cells ({ frames := 2, cells := 0, slots := 0, locals := 25 } : Room).slots) := by
  refine MetFree.of_bodySF (plainFor_of_name own_pn_com_example_riskscan_riskscan_io_FixedWidthRecord) hisR ?_
  intro p e s m args below meth c s₁ Bd hml0 hP hK
  obtain ⟨rfl, hZ, hh⟩ := hP
  have hx := Bd.exec
  have hby := Bd.bytes
  have hml : c.maxLocals = 2 := hml0
  have hown : s.vm.findClass "com/example/riskscan/riskscan/io/FixedWidthRecord" = some m.cls := findClass_of_methodNamed Bd.named
  have hnm := (name_of_methodNamed Bd.named Bd.method).1
  have X0 : Stand p l e ({ frames := 2, cells := 0, slots := 0, locals := 25 } : Room) s m #[(.ref a0'), (.int p1)] below meth c s₁ [] 0 0 := Stand.of_body Bd
  have e0 : s₁.heap = h0 := by rw [← hh, Bd.state]; rfl
  have N0 := Fr.nil n0
  show own_Go p e below s (own_Q_own_rre1 Z a0' p1 x cz t kb N vs h0 n0) ({ frames := 2, cells := 0, slots := 0, locals := 25 } : Room).cells ({ frames := 2, cells := 0, slots := 0, locals := 25 } : Room).slots (s₁.setTop (entryFrame m #[(.ref a0'), (.int p1)] 2))
  refine own_go (fun zt zk => castTop (own_ef_own_rre1 m a0' p1) zk) ?_
  show own_Go p e below s _ _ _ (s₁.setTop (mkF m 0 #[rv a0', iv p1] []))
  refine own_go (fun zt zk => (XS.aloadN X0.here hx rfl (hb hby own_d6_0) rfl rfl zk)) ?_
  show own_Go p e below s _ _ _ (s₁.setTop (mkF m 1 #[rv a0', iv p1] [(.ref a0')]))
  obtain ⟨T1, X1, e1, st1⟩ := getF X0 hx hZ hown (host := "") (Or.inl (hw _ (List.mem_of_getElem? (i := 39) rfl))) Via.refl e0 Ft (g := (mkF m 1 #[rv a0', iv p1] [(.ref a0')])) rfl rfl (hb hby own_d6_1)
  refine own_go st1 ?_
  show own_Go p e below s _ _ _ (T1.setTop (mkF m 4 #[rv a0', iv p1] [(.ref x)]))
  obtain ⟨cq2, kq2, qa2, qb2, qc2⟩ := isOf hZ e1 Ex
  obtain ⟨_, _, ⟨T2, L2, k2, n2⟩, -, X2, ⟨Lc2, hQ2, l2, y2, z2⟩, st2⟩ := X1.virtualBack hx (y := (⟨"java/lang/String", "length", "()I"⟩ : MethodName)) (z := (⟨"java/lang/String", "length", "()I"⟩ : MethodName)) hown (mvT hZ (hw _ (List.mem_of_getElem? (i := 46) rfl))) (mvT hZ (hw _ (List.mem_of_getElem? (i := 47) rfl))) (notFace_of_selects (args := #[]) (mvT hZ (hw _ (List.mem_of_getElem? (i := 49) rfl)))) (mvT hZ (hw _ (List.mem_of_getElem? (i := 49) rfl))) (mvT hZ (hw _ (List.mem_of_getElem? (i := 48) rfl))) (by decide) (backOf (W := 0) (own_rlen l Z a0 hw [] x cz t kb N vs h0 n0 Z0 O SC Ex Fv Fc Va hz) hZ (hw _ (List.mem_of_getElem? (i := 50) rfl)) (hw _ (List.mem_of_getElem? (i := 7) rfl)) (by decide) (by decide)) qa2 qc2 (g := (mkF m 4 #[rv a0', iv p1] [(.ref x)])) rfl (by rw [hml]; rfl) (Steps.refl _) (argsL := []) (rest := []) (lenOf own_pd___I rfl) rfl (by show 2 * 0 + _ ≤ _; exact Nat.le_of_eq rfl) (hb hby own_d6_4) (fun _ _ => ⟨rfl, e1, (by decide : 0 + 0 ≤ _), (by decide : 0 + 0 ≤ _)⟩)
  dsimp only [Pt.U, Pt.locs, Pt.cells, Pt.slots] at X2 l2 y2 z2 st2 hQ2
  subst l2 y2 z2
  obtain ⟨rfl, Nq2, e2⟩ := hQ2
  have N2 := Fr.app N0 Nq2
  refine own_go (fun zt zk => st2.trans zk) ?_
  show own_Go p e below s _ _ _ (T2.setTop (mkF m 7 #[rv a0', iv p1] [(.int N)]))
  refine own_go (fun zt zk => (XS.iloadN X2.here hx rfl (hb hby own_d6_7) rfl (XS.icmpNo X2.here hx rfl (hb hby own_d6_8) rfl (flt (hr : ¬ (N < p1))).1 (XS.iconst X2.here hx rfl (hb hby own_d6_11) (XS.goto X2.here hx rfl (pc0 := 12) (pc' := 16) rfl (hb hby own_d6_12) (by decide) (by decide) zk))))) ?_
  show own_Go p e below s _ _ _ (T2.setTop (mkF m 16 #[rv a0', iv p1] [(.int (1 : Int32))]))
  exact own_fin X2 Bd.notSynchronized (fun h => by rw [Bd.returns] at h; cases h) (fun fs hr => retN X2 hx (t := .boolean) Bd.returns (by simp) (hb hby own_d6_16) hr) (by rw [e2]; exact ⟨rfl, N2, rfl⟩) (by decide) (by decide)
theorem own_pd__ICCCC_Ljava_lang_String_ : parseMethodDescriptor "(ICCCC)Ljava/lang/String;" = some ⟨[.int, .char, .char, .char, .char], some (.object "java/lang/String")⟩ := by decide +kernel
theorem own_pd__Ljava_lang_String_JLjava_lang_String__V : parseMethodDescriptor "(Ljava/lang/String;JLjava/lang/String;)V" = some ⟨[(.object "java/lang/String"), .long, (.object "java/lang/String")], none⟩ := by decide +kernel
theorem own_pd__I_Z : parseMethodDescriptor "(I)Z" = some ⟨[.int], some .boolean⟩ := by decide +kernel
theorem own_ef_own_law (m : MethodId) (p1 : Int32) (p2 : Int32) (p3 : Int32) (p4 : Int64) : entryFrame m #[(.int p1), (.int p2), (.int p3), (.long p4)] maxLocals = mkF m 0 #[iv p1, iv p2, iv p3, .val (.long p4), .second, .unset, .unset, .unset, .unset, .unset, .unset, .unset, .unset, .unset, .unset, .unset] [] := by first | (simp [entryFrame, mkF, argsToLocals, Value.category, maxLocals]; done) | rfl
def own_Q_own_law (Z : State) (p1 : Int32) (p2 : Int32) (p3 : Int32) (p4 : Int64) (o_COMPACT_STRINGS : Int32) (o_SIOOBE_FORMATTER : Value) (h0 : Heap) (n0 : Nat) (v : Option Value) (h : Heap) (L : List Loc) : Prop := v = some (.int 1) ∧ Fr n0 L
set_option maxRecDepth 65536 in
set_option maxHeartbeats 40000000 in
theorem own_law (l : Launch) (Z : State) (a0 : Array Value) (hw : ∀ d ∈ tables_1, d.before a0 Z = true) (ws : List Jvm.Cond) (p1 : Int32) (p2 : Int32) (p3 : Int32) (p4 : Int64) (o_COMPACT_STRINGS : Int32) (o_SIOOBE_FORMATTER : Value) (vm0 : Vm) (h0 : Heap) (n0 : Nat) (Z0 : n0 ≤ h0.size) (O : Old Z n0 h0) (S_o_COMPACT_STRINGS : Sta Z Z.heap "java/lang/String" "COMPACT_STRINGS" "Z" (.int o_COMPACT_STRINGS)) (S_o_SIOOBE_FORMATTER : Sta Z Z.heap "jdk/internal/util/Preconditions" "SIOOBE_FORMATTER" "Ljava/util/function/BiFunction;" o_SIOOBE_FORMATTER) (nz_o_COMPACT_STRINGS : ¬ (o_COMPACT_STRINGS = (0 : Int32))) (r_o_SIOOBE_FORMATTER : o_SIOOBE_FORMATTER.isRef = true) :
    MetFree l x (head1 (Jvm.Cond.code x code maxLocals ret :: ws) room_1) (fun a U => a = #[(.int p1), (.int p2), (.int p3), (.long p4)] ∧ Z.Warmed39 U.vm ∧ U.heap = h0 ∧ CHr Z own_EL vm0 h0 U.vm h0) (fun _ _ _ _ _ => True) (fun _ U o U' => ∃ v L, o = .returned v ∧ own_Q_own_law Z p1 p2 p3 p4 o_COMPACT_STRINGS o_SIOOBE_FORMATTER h0 n0 v U'.heap L ∧ CHr Z own_EL U.vm U.heap U'.vm U'.heap ∧ ReturnedEndW U o U' L room_1.cells room_1.slots) := by
  refine MetFree.of_bodySF (plainFor_of_name own_pn_com_example_riskscan_riskscan_io_FixedWidthRecordReachesPinLaw) hisR ?_
  intro p e s m args below meth c s₁ Bd hml0 hP hK
  obtain ⟨rfl, hZ, hh, hCH⟩ := hP
  have hx := Bd.exec
  have hby := Bd.bytes
  have hml : c.maxLocals = 16 := hml0
  have hown : s.vm.findClass "com/example/riskscan/riskscan/io/FixedWidthRecordReachesPinLaw" = some m.cls := findClass_of_methodNamed Bd.named
  have hnm := (name_of_methodNamed Bd.named Bd.method).1
  have X0 : Stand p l e room_1 (s.setVm s.vm) m #[(.int p1), (.int p2), (.int p3), (.long p4)] below meth c s₁ [] 0 0 := Stand.of_body Bd
  have e0 : s₁.heap = h0 := by rw [← hh, Bd.state]; rfl
  have N0 := Fr.nil n0
  have hEL := own_EW Z a0 hw
  have wS := own_wS Z a0 hw
  have hS : s.Since s.vm 0 := (State.WarmedH.refl s).since 0
  have hk : 0 ≤ h0.size := Nat.zero_le _
  have Rc : CHr Z own_EL s.vm h0 s.vm h0 := CHr.refl hCH.1
  have Kp : Keep h0 h0 [] := Keep.refl h0 _
  show own_GoW p e below s Z (own_Q_own_law Z p1 p2 p3 p4 o_COMPACT_STRINGS o_SIOOBE_FORMATTER h0 n0) room_1.cells room_1.slots (s₁.setTop (entryFrame m #[(.int p1), (.int p2), (.int p3), (.long p4)] maxLocals))
  refine own_goW (fun zt zk => castTop (own_ef_own_law m p1 p2 p3 p4) zk) ?_
  show own_GoW p e below s _ _ _ _ (s₁.setTop (mkF m 0 #[iv p1, iv p2, iv p3, .val (.long p4), .second, .unset, .unset, .unset, .unset, .unset, .unset, .unset, .unset, .unset, .unset, .unset] []))
  refine own_goW (fun zt zk => (XS.iloadN X0.here hx rfl (hb hby at_0) rfl (X0.ldcI hx hown (mvT hZ (hw _ (List.mem_of_getElem? (i := 0) rfl))) (g := (mkF m 1 #[iv p1, iv p2, iv p3, .val (.long p4), .second, .unset, .unset, .unset, .unset, .unset, .unset, .unset, .unset, .unset, .unset, .unset] [(.int p1)])) rfl (hb hby at_1) (XS.iand X0.here hx rfl (hb hby at_3) rfl (XS.iconst X0.here hx rfl (hb hby at_4) (iremM X0 hx rfl (hb hby at_5) rfl (by decide) (XS.istore X0.here hx rfl (hb hby at_6) rfl (l' := #[iv p1, iv p2, iv p3, .val (.long p4), .second, iv ((p1 &&& (2147483647 : Int32)) % (5 : Int32)), .unset, .unset, .unset, .unset, .unset, .unset, .unset, .unset, .unset, .unset]) rfl zk))))))) ?_
  show own_GoW p e below s _ _ _ _ (s₁.setTop (mkF m 8 #[iv p1, iv p2, iv p3, .val (.long p4), .second, iv ((p1 &&& (2147483647 : Int32)) % (5 : Int32)), .unset, .unset, .unset, .unset, .unset, .unset, .unset, .unset, .unset, .unset] []))
  generalize hv_k : ((p1 &&& (2147483647 : Int32)) % (5 : Int32)) = k
  show own_GoW p e below s _ _ _ _ (s₁.setTop (mkF m 8 #[iv p1, iv p2, iv p3, .val (.long p4), .second, iv k, .unset, .unset, .unset, .unset, .unset, .unset, .unset, .unset, .unset, .unset] []))
  by_cases hk0_k : k = (0 : Int32)
  · subst hk0_k
    show own_GoW p e below s _ _ _ _ (s₁.setTop (mkF m 8 #[iv p1, iv p2, iv p3, .val (.long p4), .second, iv (0 : Int32), .unset, .unset, .unset, .unset, .unset, .unset, .unset, .unset, .unset, .unset] []))
    refine own_goW (fun zt zk => (XS.iloadN X0.here hx rfl (hb hby at_8) rfl (XS.sipush X0.here hx rfl (hb hby at_9) (XS.iand X0.here hx rfl (hb hby at_12) rfl (XS.i2c X0.here hx rfl (hb hby at_13) rfl zk))))) ?_
    show own_GoW p e below s _ _ _ _ (s₁.setTop (mkF m 14 #[iv p1, iv p2, iv p3, .val (.long p4), .second, iv (0 : Int32), .unset, .unset, .unset, .unset, .unset, .unset, .unset, .unset, .unset, .unset] [(.int ((p2 &&& (255 : Int32)).toUInt32.toUInt16.toUInt32.toInt32))]))
    rw [i2c_mask]
    generalize hv_c1 : (p2 &&& (255 : Int32)) = c1
    have hr_c1 := own_r255 hv_c1
    show own_GoW p e below s _ _ _ _ (s₁.setTop (mkF m 14 #[iv p1, iv p2, iv p3, .val (.long p4), .second, iv (0 : Int32), .unset, .unset, .unset, .unset, .unset, .unset, .unset, .unset, .unset, .unset] [(.int c1)]))
    refine own_goW (fun zt zk => (XS.istore X0.here hx rfl (hb hby at_14) rfl (l' := #[iv p1, iv p2, iv p3, .val (.long p4), .second, iv (0 : Int32), iv c1, .unset, .unset, .unset, .unset, .unset, .unset, .unset, .unset, .unset]) rfl (XS.iloadN X0.here hx rfl (hb hby at_16) rfl (XS.bipush X0.here hx rfl (hb hby at_17) (XS.iushr X0.here hx rfl (hb hby at_19) rfl (XS.sipush X0.here hx rfl (hb hby at_20) (XS.iand X0.here hx rfl (hb hby at_23) rfl (XS.i2c X0.here hx rfl (hb hby at_24) rfl zk)))))))) ?_
    show own_GoW p e below s _ _ _ _ (s₁.setTop (mkF m 25 #[iv p1, iv p2, iv p3, .val (.long p4), .second, iv (0 : Int32), iv c1, .unset, .unset, .unset, .unset, .unset, .unset, .unset, .unset, .unset] [(.int ((((p2.toUInt32 >>> ((8 : Int32) &&& 31).toUInt32).toInt32) &&& (255 : Int32)).toUInt32.toUInt16.toUInt32.toInt32))]))
    rw [i2c_mask]
    generalize hv_c2 : (((p2.toUInt32 >>> ((8 : Int32) &&& 31).toUInt32).toInt32) &&& (255 : Int32)) = c2
    have hr_c2 := own_r255 hv_c2
    show own_GoW p e below s _ _ _ _ (s₁.setTop (mkF m 25 #[iv p1, iv p2, iv p3, .val (.long p4), .second, iv (0 : Int32), iv c1, .unset, .unset, .unset, .unset, .unset, .unset, .unset, .unset, .unset] [(.int c2)]))
    refine own_goW (fun zt zk => (XS.istore X0.here hx rfl (hb hby at_25) rfl (l' := #[iv p1, iv p2, iv p3, .val (.long p4), .second, iv (0 : Int32), iv c1, iv c2, .unset, .unset, .unset, .unset, .unset, .unset, .unset, .unset]) rfl (XS.iloadN X0.here hx rfl (hb hby at_27) rfl (XS.bipush X0.here hx rfl (hb hby at_28) (XS.iushr X0.here hx rfl (hb hby at_30) rfl (XS.sipush X0.here hx rfl (hb hby at_31) (XS.iand X0.here hx rfl (hb hby at_34) rfl (XS.i2c X0.here hx rfl (hb hby at_35) rfl zk)))))))) ?_
    show own_GoW p e below s _ _ _ _ (s₁.setTop (mkF m 36 #[iv p1, iv p2, iv p3, .val (.long p4), .second, iv (0 : Int32), iv c1, iv c2, .unset, .unset, .unset, .unset, .unset, .unset, .unset, .unset] [(.int ((((p2.toUInt32 >>> ((16 : Int32) &&& 31).toUInt32).toInt32) &&& (255 : Int32)).toUInt32.toUInt16.toUInt32.toInt32))]))
    rw [i2c_mask]
    generalize hv_c3 : (((p2.toUInt32 >>> ((16 : Int32) &&& 31).toUInt32).toInt32) &&& (255 : Int32)) = c3
    have hr_c3 := own_r255 hv_c3
    show own_GoW p e below s _ _ _ _ (s₁.setTop (mkF m 36 #[iv p1, iv p2, iv p3, .val (.long p4), .second, iv (0 : Int32), iv c1, iv c2, .unset, .unset, .unset, .unset, .unset, .unset, .unset, .unset] [(.int c3)]))
    refine own_goW (fun zt zk => (XS.istore X0.here hx rfl (hb hby at_36) rfl (l' := #[iv p1, iv p2, iv p3, .val (.long p4), .second, iv (0 : Int32), iv c1, iv c2, iv c3, .unset, .unset, .unset, .unset, .unset, .unset, .unset]) rfl (XS.iloadN X0.here hx rfl (hb hby at_38) rfl (XS.bipush X0.here hx rfl (hb hby at_39) (XS.iushr X0.here hx rfl (hb hby at_41) rfl (XS.sipush X0.here hx rfl (hb hby at_42) (XS.iand X0.here hx rfl (hb hby at_45) rfl (XS.i2c X0.here hx rfl (hb hby at_46) rfl zk)))))))) ?_
    show own_GoW p e below s _ _ _ _ (s₁.setTop (mkF m 47 #[iv p1, iv p2, iv p3, .val (.long p4), .second, iv (0 : Int32), iv c1, iv c2, iv c3, .unset, .unset, .unset, .unset, .unset, .unset, .unset] [(.int ((((p2.toUInt32 >>> ((24 : Int32) &&& 31).toUInt32).toInt32) &&& (255 : Int32)).toUInt32.toUInt16.toUInt32.toInt32))]))
    rw [i2c_mask]
    generalize hv_c4 : (((p2.toUInt32 >>> ((24 : Int32) &&& 31).toUInt32).toInt32) &&& (255 : Int32)) = c4
    have hr_c4 := own_r255 hv_c4
    show own_GoW p e below s _ _ _ _ (s₁.setTop (mkF m 47 #[iv p1, iv p2, iv p3, .val (.long p4), .second, iv (0 : Int32), iv c1, iv c2, iv c3, .unset, .unset, .unset, .unset, .unset, .unset, .unset] [(.int c4)]))
    refine own_goW (fun zt zk => (XS.istore X0.here hx rfl (hb hby at_47) rfl (l' := #[iv p1, iv p2, iv p3, .val (.long p4), .second, iv (0 : Int32), iv c1, iv c2, iv c3, iv c4, .unset, .unset, .unset, .unset, .unset, .unset]) rfl (XS.iload X0.here hx rfl (hb hby at_49) rfl (XS.iload X0.here hx rfl (hb hby at_51) rfl (XS.iload X0.here hx rfl (hb hby at_53) rfl (XS.iload X0.here hx rfl (hb hby at_55) rfl (XS.iload X0.here hx rfl (hb hby at_57) rfl zk))))))) ?_
    show own_GoW p e below s _ _ _ _ (s₁.setTop (mkF m 59 #[iv p1, iv p2, iv p3, .val (.long p4), .second, iv (0 : Int32), iv c1, iv c2, iv c3, iv c4, .unset, .unset, .unset, .unset, .unset, .unset] [(.int c4), (.int c3), (.int c2), (.int c1), (.int (0 : Int32))]))
    obtain ⟨_, _, ⟨T5, L5, k5, n5⟩, -, X5, hSq5, hgq5, ⟨Lc5, hQ5, l5, y5, z5, A5⟩, st5⟩ := callSS X0 hx (y := (⟨"com/example/riskscan/riskscan/io/FixedWidthRecordReachesPinLaw", "line", "(ICCCC)Ljava/lang/String;"⟩ : MethodName)) hown (mvT hZ (hw _ (List.mem_of_getElem? (i := 1) rfl))) (mvT hZ (hw _ (List.mem_of_getElem? (i := 2) rfl))) (mvT hZ (hw _ (List.mem_of_getElem? (i := 3) rfl))) (mvT hZ (hw _ (List.mem_of_getElem? (i := 4) rfl))) (by decide) (own_backW (s := s) (W := 0) (own_rline0 l Z a0 hw [] c1 c2 c3 c4  s.vm h0 n0 Z0 hr_c1 hr_c2 hr_c3 hr_c4) hZ (hw _ (List.mem_of_getElem? (i := 4) rfl)) (hw _ (List.mem_of_getElem? (i := 3) rfl)) (by decide) (by decide) hEL Rc.1) (g := (mkF m 59 #[iv p1, iv p2, iv p3, .val (.long p4), .second, iv (0 : Int32), iv c1, iv c2, iv c3, iv c4, .unset, .unset, .unset, .unset, .unset, .unset] [(.int c4), (.int c3), (.int c2), (.int c1), (.int (0 : Int32))])) rfl (by rw [hml]; rfl) (argsL := [(.int (0 : Int32)), (.int c1), (.int c2), (.int c3), (.int c4)]) (rest := []) (lenOf own_pd__ICCCC_Ljava_lang_String_ rfl) rfl (by show 2 * 0 + _ ≤ _; exact Nat.le_of_eq rfl) (hb hby at_59) (fun _ _ => ⟨rfl, e0, (by decide : 0 + 6 ≤ _), (by decide : 0 + 12 ≤ _)⟩)
    dsimp only [Pt.U, Pt.locs, Pt.cells, Pt.slots] at X5 l5 y5 z5 st5 hQ5 hSq5 hgq5 A5
    subst l5 y5 z5
    obtain ⟨X5, hS5, hZ5, hown5⟩ := rebS hS (by rw [e0]; exact hk) X5 hSq5 hgq5 hZ hown
    replace Rc := Rc.trans A5
    replace hS := hS5
    replace hZ := hZ5
    replace hown := hown5
    have hk : T5.heap.size ≤ T5.heap.size := Nat.le_refl _
    obtain ⟨b5, t5, kb5, rfl, Nq5, K5, sb5, Ex_b5, Fv5, Fc5, Vt5⟩ := hQ5
    have N5 := Fr.app N0 Nq5
    refine own_goW (fun zt zk => st5.trans zk) ?_
    replace O := O.keep K5 all0
    replace Kp := Kp.trans K5 all0
    show own_GoW p e below s _ _ _ _ (T5.setTop (mkF m 62 #[iv p1, iv p2, iv p3, .val (.long p4), .second, iv (0 : Int32), iv c1, iv c2, iv c3, iv c4, .unset, .unset, .unset, .unset, .unset, .unset] [(.ref b5)]))
    refine own_goW (fun zt zk => (XS.astore X5.here hx rfl (hb hby at_62) rfl rfl (l' := #[iv p1, iv p2, iv p3, .val (.long p4), .second, iv (0 : Int32), iv c1, iv c2, iv c3, iv c4, rv b5, .unset, .unset, .unset, .unset, .unset]) rfl zk)) ?_
    show own_GoW p e below s _ _ _ _ (T5.setTop (mkF m 64 #[iv p1, iv p2, iv p3, .val (.long p4), .second, iv (0 : Int32), iv c1, iv c2, iv c3, iv c4, rv b5, .unset, .unset, .unset, .unset, .unset] []))
    obtain ⟨T6, h6, X6, e6, E6, A6, D6, -, st6⟩ := newO X5 hx hZ hown (hw _ (List.mem_of_getElem? (i := 27) rfl)) (hw _ (List.mem_of_getElem? (i := 28) rfl)) (hw _ (List.mem_of_getElem? (i := 29) rfl)) rfl (g := (mkF m 64 #[iv p1, iv p2, iv p3, .val (.long p4), .second, iv (0 : Int32), iv c1, iv c2, iv c3, iv c4, rv b5, .unset, .unset, .unset, .unset, .unset] [])) rfl (hb hby at_64) (by decide) (by decide)
    obtain ⟨b6, g6⟩ : ∃ z, z = T5.heap.size := ⟨_, rfl⟩
    rw [← g6] at A6 D6 st6
    refine own_goW st6 ?_
    have ne_b5_b6 : b5 ≠ b6 := Nat.ne_of_lt (Nat.lt_of_lt_of_le Ex_b5.lt (Nat.le_of_eq g6.symm))
    have ne_t5_b6 : t5 ≠ b6 := Nat.ne_of_lt (Nat.lt_of_lt_of_le Vt5.lt (Nat.le_of_eq g6.symm))
    have sz_b6 : h0.size ≤ b6 := Nat.le_trans Kp.1 (Nat.le_of_eq g6.symm)
    have g_b6 : n0 ≤ b6 := Nat.le_trans Z0 sz_b6
    have Sf_b6 : Safe Z own_EL T5.vm T5.heap b6 := Safe.new (Nat.le_of_eq g6.symm)
    replace O := O.ext E6
    replace Kp := Kp.ext E6
    replace Ex_b5 := Ex_b5.ext E6
    replace Fv5 := Fv5.ext E6
    replace Fc5 := Fc5.ext E6
    replace Vt5 := Vt5.ext E6
    replace Sf_b6 := Safe.ext E6 Rc.1 Sf_b6
    replace Rc := Rc.trans (CHr.ext E6 Rc.1)
    replace hk := Nat.le_trans hk E6.1
    have Ex_b6 := A6
    have F_file_b6 : Fld Z h6 b6 "com/example/riskscan/riskscan/io/FixedWidthRecord" "file" "Ljava/lang/String;" .null := D6 (Or.inr (hw _ (List.mem_of_getElem? (i := 36) rfl))) (ty := (.object "java/lang/String")) (by decide)
    have F_line_b6 : Fld Z h6 b6 "com/example/riskscan/riskscan/io/FixedWidthRecord" "line" "J" (.long (0 : Int64)) := D6 (Or.inr (hw _ (List.mem_of_getElem? (i := 38) rfl))) (ty := .long) (by decide)
    have F_text_b6 : Fld Z h6 b6 "com/example/riskscan/riskscan/io/FixedWidthRecord" "text" "Ljava/lang/String;" .null := D6 (Or.inr (hw _ (List.mem_of_getElem? (i := 40) rfl))) (ty := (.object "java/lang/String")) (by decide)
    show own_GoW p e below s _ _ _ _ (T6.setTop (mkF m 67 #[iv p1, iv p2, iv p3, .val (.long p4), .second, iv (0 : Int32), iv c1, iv c2, iv c3, iv c4, rv b5, .unset, .unset, .unset, .unset, .unset] [(.ref b6)]))
    refine own_goW (fun zt zk => (XS.dup X6.here hx rfl (hb hby at_67) rfl rfl zk)) ?_
    show own_GoW p e below s _ _ _ _ (T6.setTop (mkF m 68 #[iv p1, iv p2, iv p3, .val (.long p4), .second, iv (0 : Int32), iv c1, iv c2, iv c3, iv c4, rv b5, .unset, .unset, .unset, .unset, .unset] [(.ref b6), (.ref b6)]))
    obtain ⟨a7, T7, h7, q7, b7, k7, X7, e7, E7, hS7, hk7, hZ7, hown7, Ex_a7, Fc_a7, Fv_a7, Va_b7, lta7, ltb7, A7, Li7, Sn7, st7⟩ := ldcCH X6 hx hZ hown (hw _ (List.mem_of_getElem? (i := 30) rfl)) wS e6 hS hk hEL (by decide +kernel) Rc.1 (vs := [(.int (102 : Int32))]) (z := (1 : Int32)) ⟨by decide +kernel, by decide +kernel⟩ (by decide) rfl (g := (mkF m 68 #[iv p1, iv p2, iv p3, .val (.long p4), .second, iv (0 : Int32), iv c1, iv c2, iv c3, iv c4, rv b5, .unset, .unset, .unset, .unset, .unset] [(.ref b6), (.ref b6)])) rfl (hb hby at_68) (n := 4) (by decide +kernel) (by decide) (by decide) (by decide)
    replace Sf_b6 := CHr.safe A7 Ex_b6.lt Sf_b6
    replace O := O.ext E7
    replace Kp := Kp.ext E7
    replace Ex_b5 := Ex_b5.ext E7
    replace Fv5 := Fv5.ext E7
    replace Fc5 := Fc5.ext E7
    replace Vt5 := Vt5.ext E7
    replace Ex_b6 := Ex_b6.ext E7
    replace F_file_b6 := F_file_b6.ext E7
    replace F_line_b6 := F_line_b6.ext E7
    replace F_text_b6 := F_text_b6.ext E7
    replace Rc := Rc.trans A7
    replace hS := hS7
    replace hk := hk7
    replace hZ := hZ7
    replace hown := hown7
    refine own_goW st7 ?_
    have ne_b6_a7 := (Sn7 b6 Sf_b6).1
    have ne_b6_b7 := (Sn7 b6 Sf_b6).2
    show own_GoW p e below s _ _ _ _ (T7.setTop (mkF m 70 #[iv p1, iv p2, iv p3, .val (.long p4), .second, iv (0 : Int32), iv c1, iv c2, iv c3, iv c4, rv b5, .unset, .unset, .unset, .unset, .unset] [(.ref a7), (.ref b6), (.ref b6)]))
    refine own_goW (fun zt zk => (XS.lloadN X7.here hx rfl (hb hby at_70) rfl (XS.aload X7.here hx rfl (hb hby at_71) rfl rfl zk))) ?_
    show own_GoW p e below s _ _ _ _ (T7.setTop (mkF m 73 #[iv p1, iv p2, iv p3, .val (.long p4), .second, iv (0 : Int32), iv c1, iv c2, iv c3, iv c4, rv b5, .unset, .unset, .unset, .unset, .unset] [(.ref b5), (.long p4), (.ref a7), (.ref b6), (.ref b6)]))
    obtain ⟨_, _, ⟨T8, L8, k8, n8⟩, -, X8, ⟨Lc8, hQ8, l8, y8, z8⟩, st8⟩ := X7.specialBack hx (y := (⟨"com/example/riskscan/riskscan/io/FixedWidthRecord", "<init>", "(Ljava/lang/String;JLjava/lang/String;)V"⟩ : MethodName)) rfl hown (mvT hZ (hw _ (List.mem_of_getElem? (i := 31) rfl))) (mvT hZ (hw _ (List.mem_of_getElem? (i := 32) rfl))) (mvT hZ (hw _ (List.mem_of_getElem? (i := 33) rfl))) (by decide) (backOf (W := 1) (own_rfwr l Z a0 hw [] b6 a7 p4 b5  h7 n0 (Nat.le_trans Z0 Kp.1) Ex_b6 F_file_b6 F_line_b6 F_text_b6 g_b6) hZ (hw _ (List.mem_of_getElem? (i := 33) rfl)) (hw _ (List.mem_of_getElem? (i := 29) rfl)) (by decide) (by decide)) (g := (mkF m 73 #[iv p1, iv p2, iv p3, .val (.long p4), .second, iv (0 : Int32), iv c1, iv c2, iv c3, iv c4, rv b5, .unset, .unset, .unset, .unset, .unset] [(.ref b5), (.long p4), (.ref a7), (.ref b6), (.ref b6)])) rfl (by rw [hml]; rfl) (Steps.refl _) (a := b6) (argsL := [(.ref a7), (.long p4), (.ref b5)]) (rest := [(.ref b6)]) (lenOf own_pd__Ljava_lang_String_JLjava_lang_String__V rfl) rfl (by show 2 * 0 + _ ≤ _; exact Nat.le_of_eq rfl) (hb hby at_73) (fun _ _ => ⟨rfl, e7, (by decide : 9 + 0 ≤ _), (by decide : 23 + 0 ≤ _)⟩)
    dsimp only [Pt.U, Pt.locs, Pt.cells, Pt.slots] at X8 l8 y8 z8 st8 hQ8
    subst l8 y8 z8
    obtain ⟨rfl, Nq8, K8, -, F_file_b6, F_line_b6, F_text_b6⟩ := hQ8
    have N8 := Fr.app N5 Nq8
    refine own_goW (fun zt zk => st8.trans zk) ?_
    have Sf_b6' := Safe.keep K8 (allS Sf_b6 all0) Rc.1 Sf_b6
    replace Rc := Rc.trans (CHr.keep K8 (allS Sf_b6 all0) Rc.1)
    replace hk := Nat.le_trans hk K8.1
    replace Sf_b6 := Sf_b6'
    replace O := O.keep K8 (allS g_b6 all0)
    replace Kp := Kp.trans K8 (allS (Or.inr sz_b6) all0)
    replace Ex_b5 := Ex_b5.keep K8
    replace Fv5 := Fv5.keep K8 (ninS ne_b5_b6 nin0)
    replace Fc5 := Fc5.keep K8 (ninS ne_b5_b6 nin0)
    replace Vt5 := Vt5.keep K8 (ninS ne_t5_b6 nin0)
    replace Ex_b6 := Ex_b6.keep K8
    replace Ex_a7 := Ex_a7.keep K8
    replace Fc_a7 := Fc_a7.keep K8 (ninS (Ne.symm ne_b6_a7) nin0)
    replace Fv_a7 := Fv_a7.keep K8 (ninS (Ne.symm ne_b6_a7) nin0)
    replace Va_b7 := Va_b7.keep K8 (ninS (Ne.symm ne_b6_b7) nin0)
    show own_GoW p e below s _ _ _ _ (T8.setTop (mkF m 76 #[iv p1, iv p2, iv p3, .val (.long p4), .second, iv (0 : Int32), iv c1, iv c2, iv c3, iv c4, rv b5, .unset, .unset, .unset, .unset, .unset] [(.ref b6)]))
    refine own_goW (fun zt zk => (XS.astore X8.here hx rfl (hb hby at_76) rfl rfl (l' := #[iv p1, iv p2, iv p3, .val (.long p4), .second, iv (0 : Int32), iv c1, iv c2, iv c3, iv c4, rv b5, rv b6, .unset, .unset, .unset, .unset]) rfl (XS.aload X8.here hx rfl (hb hby at_78) rfl rfl (XS.iloadN X8.here hx rfl (hb hby at_80) rfl zk)))) ?_
    show own_GoW p e below s _ _ _ _ (T8.setTop (mkF m 81 #[iv p1, iv p2, iv p3, .val (.long p4), .second, iv (0 : Int32), iv c1, iv c2, iv c3, iv c4, rv b5, rv b6, .unset, .unset, .unset, .unset] [(.int p3), (.ref b6)]))
    by_cases hfr : (0 : Int32) < p3
    · obtain ⟨cq9, kq9, qa9, qb9, qc9⟩ := isOf hZ rfl Ex_b6
      obtain ⟨_, _, ⟨T9, L9, k9, n9⟩, -, X9, ⟨Lc9, hQ9, l9, y9, z9⟩, st9⟩ := X8.virtualBack hx (y := (⟨"com/example/riskscan/riskscan/io/FixedWidthRecord", "reaches", "(I)Z"⟩ : MethodName)) (z := (⟨"com/example/riskscan/riskscan/io/FixedWidthRecord", "reaches", "(I)Z"⟩ : MethodName)) hown (mvT hZ (hw _ (List.mem_of_getElem? (i := 41) rfl))) (mvT hZ (hw _ (List.mem_of_getElem? (i := 42) rfl))) (notFace_of_selects (args := #[]) (mvT hZ (hw _ (List.mem_of_getElem? (i := 44) rfl)))) (mvT hZ (hw _ (List.mem_of_getElem? (i := 44) rfl))) (mvT hZ (hw _ (List.mem_of_getElem? (i := 43) rfl))) (by decide) (backOf (W := 0) (own_rre0 l Z a0 hw [] b6 p3 b5 o_COMPACT_STRINGS t5 kb5 (0 : Int32) [] T8.heap n0 (Nat.le_trans Z0 Kp.1) O S_o_COMPACT_STRINGS F_text_b6 Ex_b5 Fv5 Fc5 Vt5 nz_o_COMPACT_STRINGS hfr) hZ (hw _ (List.mem_of_getElem? (i := 45) rfl)) (hw _ (List.mem_of_getElem? (i := 29) rfl)) (by decide) (by decide)) qa9 qc9 (g := (mkF m 81 #[iv p1, iv p2, iv p3, .val (.long p4), .second, iv (0 : Int32), iv c1, iv c2, iv c3, iv c4, rv b5, rv b6, .unset, .unset, .unset, .unset] [(.int p3), (.ref b6)])) rfl (by rw [hml]; rfl) (Steps.refl _) (argsL := [(.int p3)]) (rest := []) (lenOf own_pd__I_Z rfl) rfl (by show 2 * 0 + _ ≤ _; exact Nat.le_of_eq rfl) (hb hby at_81) (fun _ _ => ⟨rfl, rfl, (by decide : 9 + 0 ≤ _), (by decide : 23 + 0 ≤ _)⟩)
      dsimp only [Pt.U, Pt.locs, Pt.cells, Pt.slots] at X9 l9 y9 z9 st9 hQ9
      subst l9 y9 z9
      obtain ⟨rfl, Nq9, e9⟩ := hQ9
      have N9 := Fr.app N8 Nq9
      refine own_goW (fun zt zk => st9.trans zk) ?_
      show own_GoW p e below s _ _ _ _ (T9.setTop (mkF m 84 #[iv p1, iv p2, iv p3, .val (.long p4), .second, iv (0 : Int32), iv c1, iv c2, iv c3, iv c4, rv b5, rv b6, .unset, .unset, .unset, .unset] [(.int (0 : Int32))]))
      refine own_goW (fun zt zk => (XS.istore X9.here hx rfl (hb hby at_84) rfl (l' := #[iv p1, iv p2, iv p3, .val (.long p4), .second, iv (0 : Int32), iv c1, iv c2, iv c3, iv c4, rv b5, rv b6, iv (0 : Int32), .unset, .unset, .unset]) rfl (XS.iloadN X9.here hx rfl (hb hby at_86) rfl (XS.iload X9.here hx rfl (hb hby at_87) rfl (XS.icmpYes X9.here hx rfl (pc0 := 89) (pc' := 96) rfl (hb hby at_89) rfl (tlt (hfr : (0 : Int32) < p3)).2.2.1 (by decide) (by decide) (XS.iconst X9.here hx rfl (hb hby at_96) (XS.istore X9.here hx rfl (hb hby at_97) rfl (l' := #[iv p1, iv p2, iv p3, .val (.long p4), .second, iv (0 : Int32), iv c1, iv c2, iv c3, iv c4, rv b5, rv b6, iv (0 : Int32), iv (0 : Int32), .unset, .unset]) rfl (XS.aload X9.here hx rfl (hb hby at_99) rfl rfl (XS.iload X9.here hx rfl (hb hby at_101) rfl zk))))))))) ?_
      show own_GoW p e below s _ _ _ _ (T9.setTop (mkF m 103 #[iv p1, iv p2, iv p3, .val (.long p4), .second, iv (0 : Int32), iv c1, iv c2, iv c3, iv c4, rv b5, rv b6, iv (0 : Int32), iv (0 : Int32), .unset, .unset] [(.int (0 : Int32)), (.ref b6)]))
      obtain ⟨cq10, kq10, qa10, qb10, qc10⟩ := isOf hZ e9 Ex_b6
      obtain ⟨_, _, ⟨T10, L10, k10, n10⟩, -, X10, ⟨Lc10, hQ10, l10, y10, z10⟩, st10⟩ := X9.virtualBack hx (y := (⟨"com/example/riskscan/riskscan/io/FixedWidthRecord", "reaches", "(I)Z"⟩ : MethodName)) (z := (⟨"com/example/riskscan/riskscan/io/FixedWidthRecord", "reaches", "(I)Z"⟩ : MethodName)) hown (mvT hZ (hw _ (List.mem_of_getElem? (i := 41) rfl))) (mvT hZ (hw _ (List.mem_of_getElem? (i := 42) rfl))) (notFace_of_selects (args := #[]) (mvT hZ (hw _ (List.mem_of_getElem? (i := 44) rfl)))) (mvT hZ (hw _ (List.mem_of_getElem? (i := 44) rfl))) (mvT hZ (hw _ (List.mem_of_getElem? (i := 43) rfl))) (by decide) (backOf (W := 0) (own_rre1 l Z a0 hw [] b6 (0 : Int32) b5 o_COMPACT_STRINGS t5 kb5 (0 : Int32) [] T8.heap n0 (Nat.le_trans Z0 Kp.1) O S_o_COMPACT_STRINGS F_text_b6 Ex_b5 Fv5 Fc5 Vt5 nz_o_COMPACT_STRINGS (by decide)) hZ (hw _ (List.mem_of_getElem? (i := 45) rfl)) (hw _ (List.mem_of_getElem? (i := 29) rfl)) (by decide) (by decide)) qa10 qc10 (g := (mkF m 103 #[iv p1, iv p2, iv p3, .val (.long p4), .second, iv (0 : Int32), iv c1, iv c2, iv c3, iv c4, rv b5, rv b6, iv (0 : Int32), iv (0 : Int32), .unset, .unset] [(.int (0 : Int32)), (.ref b6)])) rfl (by rw [hml]; rfl) (Steps.refl _) (argsL := [(.int (0 : Int32))]) (rest := []) (lenOf own_pd__I_Z rfl) rfl (by show 2 * 0 + _ ≤ _; exact Nat.le_of_eq rfl) (hb hby at_103) (fun _ _ => ⟨rfl, e9, (by decide : 9 + 0 ≤ _), (by decide : 23 + 0 ≤ _)⟩)
      dsimp only [Pt.U, Pt.locs, Pt.cells, Pt.slots] at X10 l10 y10 z10 st10 hQ10
      subst l10 y10 z10
      obtain ⟨rfl, Nq10, e10⟩ := hQ10
      have N10 := Fr.app N9 Nq10
      refine own_goW (fun zt zk => st10.trans zk) ?_
      show own_GoW p e below s _ _ _ _ (T10.setTop (mkF m 106 #[iv p1, iv p2, iv p3, .val (.long p4), .second, iv (0 : Int32), iv c1, iv c2, iv c3, iv c4, rv b5, rv b6, iv (0 : Int32), iv (0 : Int32), .unset, .unset] [(.int (1 : Int32))]))
      refine own_goW (fun zt zk => (XS.istore X10.here hx rfl (hb hby at_106) rfl (l' := #[iv p1, iv p2, iv p3, .val (.long p4), .second, iv (0 : Int32), iv c1, iv c2, iv c3, iv c4, rv b5, rv b6, iv (0 : Int32), iv (0 : Int32), iv (1 : Int32), .unset]) rfl (XS.aload X10.here hx rfl (hb hby at_108) rfl rfl (XS.iload X10.here hx rfl (hb hby at_110) rfl (XS.iconst X10.here hx rfl (hb hby at_112) (XS.iadd X10.here hx rfl (hb hby at_113) rfl zk)))))) ?_
      show own_GoW p e below s _ _ _ _ (T10.setTop (mkF m 114 #[iv p1, iv p2, iv p3, .val (.long p4), .second, iv (0 : Int32), iv c1, iv c2, iv c3, iv c4, rv b5, rv b6, iv (0 : Int32), iv (0 : Int32), iv (1 : Int32), .unset] [(.int (1 : Int32)), (.ref b6)]))
      obtain ⟨cq11, kq11, qa11, qb11, qc11⟩ := isOf hZ e10 Ex_b6
      obtain ⟨_, _, ⟨T11, L11, k11, n11⟩, -, X11, ⟨Lc11, hQ11, l11, y11, z11⟩, st11⟩ := X10.virtualBack hx (y := (⟨"com/example/riskscan/riskscan/io/FixedWidthRecord", "reaches", "(I)Z"⟩ : MethodName)) (z := (⟨"com/example/riskscan/riskscan/io/FixedWidthRecord", "reaches", "(I)Z"⟩ : MethodName)) hown (mvT hZ (hw _ (List.mem_of_getElem? (i := 41) rfl))) (mvT hZ (hw _ (List.mem_of_getElem? (i := 42) rfl))) (notFace_of_selects (args := #[]) (mvT hZ (hw _ (List.mem_of_getElem? (i := 44) rfl)))) (mvT hZ (hw _ (List.mem_of_getElem? (i := 44) rfl))) (mvT hZ (hw _ (List.mem_of_getElem? (i := 43) rfl))) (by decide) (backOf (W := 0) (own_rre0 l Z a0 hw [] b6 (1 : Int32) b5 o_COMPACT_STRINGS t5 kb5 (0 : Int32) [] T8.heap n0 (Nat.le_trans Z0 Kp.1) O S_o_COMPACT_STRINGS F_text_b6 Ex_b5 Fv5 Fc5 Vt5 nz_o_COMPACT_STRINGS (by decide)) hZ (hw _ (List.mem_of_getElem? (i := 45) rfl)) (hw _ (List.mem_of_getElem? (i := 29) rfl)) (by decide) (by decide)) qa11 qc11 (g := (mkF m 114 #[iv p1, iv p2, iv p3, .val (.long p4), .second, iv (0 : Int32), iv c1, iv c2, iv c3, iv c4, rv b5, rv b6, iv (0 : Int32), iv (0 : Int32), iv (1 : Int32), .unset] [(.int (1 : Int32)), (.ref b6)])) rfl (by rw [hml]; rfl) (Steps.refl _) (argsL := [(.int (1 : Int32))]) (rest := []) (lenOf own_pd__I_Z rfl) rfl (by show 2 * 0 + _ ≤ _; exact Nat.le_of_eq rfl) (hb hby at_114) (fun _ _ => ⟨rfl, e10, (by decide : 9 + 0 ≤ _), (by decide : 23 + 0 ≤ _)⟩)
      dsimp only [Pt.U, Pt.locs, Pt.cells, Pt.slots] at X11 l11 y11 z11 st11 hQ11
      subst l11 y11 z11
      obtain ⟨rfl, Nq11, e11⟩ := hQ11
      have N11 := Fr.app N10 Nq11
      refine own_goW (fun zt zk => st11.trans zk) ?_
      show own_GoW p e below s _ _ _ _ (T11.setTop (mkF m 117 #[iv p1, iv p2, iv p3, .val (.long p4), .second, iv (0 : Int32), iv c1, iv c2, iv c3, iv c4, rv b5, rv b6, iv (0 : Int32), iv (0 : Int32), iv (1 : Int32), .unset] [(.int (0 : Int32))]))
      refine own_goW (fun zt zk => (XS.istore X11.here hx rfl (hb hby at_117) rfl (l' := #[iv p1, iv p2, iv p3, .val (.long p4), .second, iv (0 : Int32), iv c1, iv c2, iv c3, iv c4, rv b5, rv b6, iv (0 : Int32), iv (0 : Int32), iv (1 : Int32), iv (0 : Int32)]) rfl (XS.iload X11.here hx rfl (hb hby at_119) rfl (XS.iload X11.here hx rfl (hb hby at_121) rfl (XS.icmpNo X11.here hx rfl (hb hby at_123) rfl (teq (rfl : (0 : Int32) = (0 : Int32))).2 (XS.iload X11.here hx rfl (hb hby at_126) rfl (XS.ifNo X11.here hx rfl (hb hby at_128) rfl ((if0 _ _).trans (feq ((by decide) : ¬ ((1 : Int32) = (0 : Int32)))).1) (XS.iload X11.here hx rfl (hb hby at_131) rfl (XS.ifNo X11.here hx rfl (hb hby at_133) rfl ((if0 _ _).trans (teq (rfl : (0 : Int32) = (0 : Int32))).2) (XS.iconst X11.here hx rfl (hb hby at_136) (XS.goto X11.here hx rfl (pc0 := 137) (pc' := 141) rfl (hb hby at_137) (by decide) (by decide) zk))))))))))) ?_
      show own_GoW p e below s _ _ _ _ (T11.setTop (mkF m 141 #[iv p1, iv p2, iv p3, .val (.long p4), .second, iv (0 : Int32), iv c1, iv c2, iv c3, iv c4, rv b5, rv b6, iv (0 : Int32), iv (0 : Int32), iv (1 : Int32), iv (0 : Int32)] [(.int (1 : Int32))]))
      have Re := Rc.trans (CHv.at X11 hZ hEL Rc.1)
      exact own_finW X11 hS (by rw [e11]; exact hk) (by rw [e11, hh]; exact Re) Bd.notSynchronized (fun h => by rw [Bd.returns] at h; cases h) (fun fs hr => retN X11 hx (t := .boolean) Bd.returns (by simp) (hb hby at_141) hr) (by rw [e11]; exact ⟨rfl, N11⟩) (by decide) (by decide)
    · obtain ⟨cq12, kq12, qa12, qb12, qc12⟩ := isOf hZ rfl Ex_b6
      obtain ⟨_, _, ⟨T12, L12, k12, n12⟩, -, X12, ⟨Lc12, hQ12, l12, y12, z12⟩, st12⟩ := X8.virtualBack hx (y := (⟨"com/example/riskscan/riskscan/io/FixedWidthRecord", "reaches", "(I)Z"⟩ : MethodName)) (z := (⟨"com/example/riskscan/riskscan/io/FixedWidthRecord", "reaches", "(I)Z"⟩ : MethodName)) hown (mvT hZ (hw _ (List.mem_of_getElem? (i := 41) rfl))) (mvT hZ (hw _ (List.mem_of_getElem? (i := 42) rfl))) (notFace_of_selects (args := #[]) (mvT hZ (hw _ (List.mem_of_getElem? (i := 44) rfl)))) (mvT hZ (hw _ (List.mem_of_getElem? (i := 44) rfl))) (mvT hZ (hw _ (List.mem_of_getElem? (i := 43) rfl))) (by decide) (backOf (W := 0) (own_rre1 l Z a0 hw [] b6 p3 b5 o_COMPACT_STRINGS t5 kb5 (0 : Int32) [] T8.heap n0 (Nat.le_trans Z0 Kp.1) O S_o_COMPACT_STRINGS F_text_b6 Ex_b5 Fv5 Fc5 Vt5 nz_o_COMPACT_STRINGS hfr) hZ (hw _ (List.mem_of_getElem? (i := 45) rfl)) (hw _ (List.mem_of_getElem? (i := 29) rfl)) (by decide) (by decide)) qa12 qc12 (g := (mkF m 81 #[iv p1, iv p2, iv p3, .val (.long p4), .second, iv (0 : Int32), iv c1, iv c2, iv c3, iv c4, rv b5, rv b6, .unset, .unset, .unset, .unset] [(.int p3), (.ref b6)])) rfl (by rw [hml]; rfl) (Steps.refl _) (argsL := [(.int p3)]) (rest := []) (lenOf own_pd__I_Z rfl) rfl (by show 2 * 0 + _ ≤ _; exact Nat.le_of_eq rfl) (hb hby at_81) (fun _ _ => ⟨rfl, rfl, (by decide : 9 + 0 ≤ _), (by decide : 23 + 0 ≤ _)⟩)
      dsimp only [Pt.U, Pt.locs, Pt.cells, Pt.slots] at X12 l12 y12 z12 st12 hQ12
      subst l12 y12 z12
      obtain ⟨rfl, Nq12, e12⟩ := hQ12
      have N12 := Fr.app N8 Nq12
      refine own_goW (fun zt zk => st12.trans zk) ?_
      show own_GoW p e below s _ _ _ _ (T12.setTop (mkF m 84 #[iv p1, iv p2, iv p3, .val (.long p4), .second, iv (0 : Int32), iv c1, iv c2, iv c3, iv c4, rv b5, rv b6, .unset, .unset, .unset, .unset] [(.int (1 : Int32))]))
      refine own_goW (fun zt zk => (XS.istore X12.here hx rfl (hb hby at_84) rfl (l' := #[iv p1, iv p2, iv p3, .val (.long p4), .second, iv (0 : Int32), iv c1, iv c2, iv c3, iv c4, rv b5, rv b6, iv (1 : Int32), .unset, .unset, .unset]) rfl (XS.iloadN X12.here hx rfl (hb hby at_86) rfl (XS.iload X12.here hx rfl (hb hby at_87) rfl (XS.icmpNo X12.here hx rfl (hb hby at_89) rfl (flt (hfr : ¬ ((0 : Int32) < p3))).2.2.1 (XS.iconst X12.here hx rfl (hb hby at_92) (XS.goto X12.here hx rfl (pc0 := 93) (pc' := 97) rfl (hb hby at_93) (by decide) (by decide) (XS.istore X12.here hx rfl (hb hby at_97) rfl (l' := #[iv p1, iv p2, iv p3, .val (.long p4), .second, iv (0 : Int32), iv c1, iv c2, iv c3, iv c4, rv b5, rv b6, iv (1 : Int32), iv (1 : Int32), .unset, .unset]) rfl (XS.aload X12.here hx rfl (hb hby at_99) rfl rfl (XS.iload X12.here hx rfl (hb hby at_101) rfl zk)))))))))) ?_
      show own_GoW p e below s _ _ _ _ (T12.setTop (mkF m 103 #[iv p1, iv p2, iv p3, .val (.long p4), .second, iv (0 : Int32), iv c1, iv c2, iv c3, iv c4, rv b5, rv b6, iv (1 : Int32), iv (1 : Int32), .unset, .unset] [(.int (0 : Int32)), (.ref b6)]))
      obtain ⟨cq13, kq13, qa13, qb13, qc13⟩ := isOf hZ e12 Ex_b6
      obtain ⟨_, _, ⟨T13, L13, k13, n13⟩, -, X13, ⟨Lc13, hQ13, l13, y13, z13⟩, st13⟩ := X12.virtualBack hx (y := (⟨"com/example/riskscan/riskscan/io/FixedWidthRecord", "reaches", "(I)Z"⟩ : MethodName)) (z := (⟨"com/example/riskscan/riskscan/io/FixedWidthRecord", "reaches", "(I)Z"⟩ : MethodName)) hown (mvT hZ (hw _ (List.mem_of_getElem? (i := 41) rfl))) (mvT hZ (hw _ (List.mem_of_getElem? (i := 42) rfl))) (notFace_of_selects (args := #[]) (mvT hZ (hw _ (List.mem_of_getElem? (i := 44) rfl)))) (mvT hZ (hw _ (List.mem_of_getElem? (i := 44) rfl))) (mvT hZ (hw _ (List.mem_of_getElem? (i := 43) rfl))) (by decide) (backOf (W := 0) (own_rre1 l Z a0 hw [] b6 (0 : Int32) b5 o_COMPACT_STRINGS t5 kb5 (0 : Int32) [] T8.heap n0 (Nat.le_trans Z0 Kp.1) O S_o_COMPACT_STRINGS F_text_b6 Ex_b5 Fv5 Fc5 Vt5 nz_o_COMPACT_STRINGS (by decide)) hZ (hw _ (List.mem_of_getElem? (i := 45) rfl)) (hw _ (List.mem_of_getElem? (i := 29) rfl)) (by decide) (by decide)) qa13 qc13 (g := (mkF m 103 #[iv p1, iv p2, iv p3, .val (.long p4), .second, iv (0 : Int32), iv c1, iv c2, iv c3, iv c4, rv b5, rv b6, iv (1 : Int32), iv (1 : Int32), .unset, .unset] [(.int (0 : Int32)), (.ref b6)])) rfl (by rw [hml]; rfl) (Steps.refl _) (argsL := [(.int (0 : Int32))]) (rest := []) (lenOf own_pd__I_Z rfl) rfl (by show 2 * 0 + _ ≤ _; exact Nat.le_of_eq rfl) (hb hby at_103) (fun _ _ => ⟨rfl, e12, (by decide : 9 + 0 ≤ _), (by decide : 23 + 0 ≤ _)⟩)
      dsimp only [Pt.U, Pt.locs, Pt.cells, Pt.slots] at X13 l13 y13 z13 st13 hQ13
      subst l13 y13 z13
      obtain ⟨rfl, Nq13, e13⟩ := hQ13
      have N13 := Fr.app N12 Nq13
      refine own_goW (fun zt zk => st13.trans zk) ?_
      show own_GoW p e below s _ _ _ _ (T13.setTop (mkF m 106 #[iv p1, iv p2, iv p3, .val (.long p4), .second, iv (0 : Int32), iv c1, iv c2, iv c3, iv c4, rv b5, rv b6, iv (1 : Int32), iv (1 : Int32), .unset, .unset] [(.int (1 : Int32))]))
      refine own_goW (fun zt zk => (XS.istore X13.here hx rfl (hb hby at_106) rfl (l' := #[iv p1, iv p2, iv p3, .val (.long p4), .second, iv (0 : Int32), iv c1, iv c2, iv c3, iv c4, rv b5, rv b6, iv (1 : Int32), iv (1 : Int32), iv (1 : Int32), .unset]) rfl (XS.aload X13.here hx rfl (hb hby at_108) rfl rfl (XS.iload X13.here hx rfl (hb hby at_110) rfl (XS.iconst X13.here hx rfl (hb hby at_112) (XS.iadd X13.here hx rfl (hb hby at_113) rfl zk)))))) ?_
      show own_GoW p e below s _ _ _ _ (T13.setTop (mkF m 114 #[iv p1, iv p2, iv p3, .val (.long p4), .second, iv (0 : Int32), iv c1, iv c2, iv c3, iv c4, rv b5, rv b6, iv (1 : Int32), iv (1 : Int32), iv (1 : Int32), .unset] [(.int (1 : Int32)), (.ref b6)]))
      obtain ⟨cq14, kq14, qa14, qb14, qc14⟩ := isOf hZ e13 Ex_b6
      obtain ⟨_, _, ⟨T14, L14, k14, n14⟩, -, X14, ⟨Lc14, hQ14, l14, y14, z14⟩, st14⟩ := X13.virtualBack hx (y := (⟨"com/example/riskscan/riskscan/io/FixedWidthRecord", "reaches", "(I)Z"⟩ : MethodName)) (z := (⟨"com/example/riskscan/riskscan/io/FixedWidthRecord", "reaches", "(I)Z"⟩ : MethodName)) hown (mvT hZ (hw _ (List.mem_of_getElem? (i := 41) rfl))) (mvT hZ (hw _ (List.mem_of_getElem? (i := 42) rfl))) (notFace_of_selects (args := #[]) (mvT hZ (hw _ (List.mem_of_getElem? (i := 44) rfl)))) (mvT hZ (hw _ (List.mem_of_getElem? (i := 44) rfl))) (mvT hZ (hw _ (List.mem_of_getElem? (i := 43) rfl))) (by decide) (backOf (W := 0) (own_rre0 l Z a0 hw [] b6 (1 : Int32) b5 o_COMPACT_STRINGS t5 kb5 (0 : Int32) [] T8.heap n0 (Nat.le_trans Z0 Kp.1) O S_o_COMPACT_STRINGS F_text_b6 Ex_b5 Fv5 Fc5 Vt5 nz_o_COMPACT_STRINGS (by decide)) hZ (hw _ (List.mem_of_getElem? (i := 45) rfl)) (hw _ (List.mem_of_getElem? (i := 29) rfl)) (by decide) (by decide)) qa14 qc14 (g := (mkF m 114 #[iv p1, iv p2, iv p3, .val (.long p4), .second, iv (0 : Int32), iv c1, iv c2, iv c3, iv c4, rv b5, rv b6, iv (1 : Int32), iv (1 : Int32), iv (1 : Int32), .unset] [(.int (1 : Int32)), (.ref b6)])) rfl (by rw [hml]; rfl) (Steps.refl _) (argsL := [(.int (1 : Int32))]) (rest := []) (lenOf own_pd__I_Z rfl) rfl (by show 2 * 0 + _ ≤ _; exact Nat.le_of_eq rfl) (hb hby at_114) (fun _ _ => ⟨rfl, e13, (by decide : 9 + 0 ≤ _), (by decide : 23 + 0 ≤ _)⟩)
      dsimp only [Pt.U, Pt.locs, Pt.cells, Pt.slots] at X14 l14 y14 z14 st14 hQ14
      subst l14 y14 z14
      obtain ⟨rfl, Nq14, e14⟩ := hQ14
      have N14 := Fr.app N13 Nq14
      refine own_goW (fun zt zk => st14.trans zk) ?_
      show own_GoW p e below s _ _ _ _ (T14.setTop (mkF m 117 #[iv p1, iv p2, iv p3, .val (.long p4), .second, iv (0 : Int32), iv c1, iv c2, iv c3, iv c4, rv b5, rv b6, iv (1 : Int32), iv (1 : Int32), iv (1 : Int32), .unset] [(.int (0 : Int32))]))
      refine own_goW (fun zt zk => (XS.istore X14.here hx rfl (hb hby at_117) rfl (l' := #[iv p1, iv p2, iv p3, .val (.long p4), .second, iv (0 : Int32), iv c1, iv c2, iv c3, iv c4, rv b5, rv b6, iv (1 : Int32), iv (1 : Int32), iv (1 : Int32), iv (0 : Int32)]) rfl (XS.iload X14.here hx rfl (hb hby at_119) rfl (XS.iload X14.here hx rfl (hb hby at_121) rfl (XS.icmpNo X14.here hx rfl (hb hby at_123) rfl (teq (rfl : (1 : Int32) = (1 : Int32))).2 (XS.iload X14.here hx rfl (hb hby at_126) rfl (XS.ifNo X14.here hx rfl (hb hby at_128) rfl ((if0 _ _).trans (feq ((by decide) : ¬ ((1 : Int32) = (0 : Int32)))).1) (XS.iload X14.here hx rfl (hb hby at_131) rfl (XS.ifNo X14.here hx rfl (hb hby at_133) rfl ((if0 _ _).trans (teq (rfl : (0 : Int32) = (0 : Int32))).2) (XS.iconst X14.here hx rfl (hb hby at_136) (XS.goto X14.here hx rfl (pc0 := 137) (pc' := 141) rfl (hb hby at_137) (by decide) (by decide) zk))))))))))) ?_
      show own_GoW p e below s _ _ _ _ (T14.setTop (mkF m 141 #[iv p1, iv p2, iv p3, .val (.long p4), .second, iv (0 : Int32), iv c1, iv c2, iv c3, iv c4, rv b5, rv b6, iv (1 : Int32), iv (1 : Int32), iv (1 : Int32), iv (0 : Int32)] [(.int (1 : Int32))]))
      have Re := Rc.trans (CHv.at X14 hZ hEL Rc.1)
      exact own_finW X14 hS (by rw [e14]; exact hk) (by rw [e14, hh]; exact Re) Bd.notSynchronized (fun h => by rw [Bd.returns] at h; cases h) (fun fs hr => retN X14 hx (t := .boolean) Bd.returns (by simp) (hb hby at_141) hr) (by rw [e14]; exact ⟨rfl, N14⟩) (by decide) (by decide)
  · by_cases hk1_k : k = (1 : Int32)
    · subst hk1_k
      show own_GoW p e below s _ _ _ _ (s₁.setTop (mkF m 8 #[iv p1, iv p2, iv p3, .val (.long p4), .second, iv (1 : Int32), .unset, .unset, .unset, .unset, .unset, .unset, .unset, .unset, .unset, .unset] []))
      refine own_goW (fun zt zk => (XS.iloadN X0.here hx rfl (hb hby at_8) rfl (XS.sipush X0.here hx rfl (hb hby at_9) (XS.iand X0.here hx rfl (hb hby at_12) rfl (XS.i2c X0.here hx rfl (hb hby at_13) rfl zk))))) ?_
      show own_GoW p e below s _ _ _ _ (s₁.setTop (mkF m 14 #[iv p1, iv p2, iv p3, .val (.long p4), .second, iv (1 : Int32), .unset, .unset, .unset, .unset, .unset, .unset, .unset, .unset, .unset, .unset] [(.int ((p2 &&& (255 : Int32)).toUInt32.toUInt16.toUInt32.toInt32))]))
      rw [i2c_mask]
      generalize hv_c15 : (p2 &&& (255 : Int32)) = c15
      have hr_c15 := own_r255 hv_c15
      show own_GoW p e below s _ _ _ _ (s₁.setTop (mkF m 14 #[iv p1, iv p2, iv p3, .val (.long p4), .second, iv (1 : Int32), .unset, .unset, .unset, .unset, .unset, .unset, .unset, .unset, .unset, .unset] [(.int c15)]))
      refine own_goW (fun zt zk => (XS.istore X0.here hx rfl (hb hby at_14) rfl (l' := #[iv p1, iv p2, iv p3, .val (.long p4), .second, iv (1 : Int32), iv c15, .unset, .unset, .unset, .unset, .unset, .unset, .unset, .unset, .unset]) rfl (XS.iloadN X0.here hx rfl (hb hby at_16) rfl (XS.bipush X0.here hx rfl (hb hby at_17) (XS.iushr X0.here hx rfl (hb hby at_19) rfl (XS.sipush X0.here hx rfl (hb hby at_20) (XS.iand X0.here hx rfl (hb hby at_23) rfl (XS.i2c X0.here hx rfl (hb hby at_24) rfl zk)))))))) ?_
      show own_GoW p e below s _ _ _ _ (s₁.setTop (mkF m 25 #[iv p1, iv p2, iv p3, .val (.long p4), .second, iv (1 : Int32), iv c15, .unset, .unset, .unset, .unset, .unset, .unset, .unset, .unset, .unset] [(.int ((((p2.toUInt32 >>> ((8 : Int32) &&& 31).toUInt32).toInt32) &&& (255 : Int32)).toUInt32.toUInt16.toUInt32.toInt32))]))
      rw [i2c_mask]
      generalize hv_c16 : (((p2.toUInt32 >>> ((8 : Int32) &&& 31).toUInt32).toInt32) &&& (255 : Int32)) = c16
      have hr_c16 := own_r255 hv_c16
      show own_GoW p e below s _ _ _ _ (s₁.setTop (mkF m 25 #[iv p1, iv p2, iv p3, .val (.long p4), .second, iv (1 : Int32), iv c15, .unset, .unset, .unset, .unset, .unset, .unset, .unset, .unset, .unset] [(.int c16)]))
      refine own_goW (fun zt zk => (XS.istore X0.here hx rfl (hb hby at_25) rfl (l' := #[iv p1, iv p2, iv p3, .val (.long p4), .second, iv (1 : Int32), iv c15, iv c16, .unset, .unset, .unset, .unset, .unset, .unset, .unset, .unset]) rfl (XS.iloadN X0.here hx rfl (hb hby at_27) rfl (XS.bipush X0.here hx rfl (hb hby at_28) (XS.iushr X0.here hx rfl (hb hby at_30) rfl (XS.sipush X0.here hx rfl (hb hby at_31) (XS.iand X0.here hx rfl (hb hby at_34) rfl (XS.i2c X0.here hx rfl (hb hby at_35) rfl zk)))))))) ?_
      show own_GoW p e below s _ _ _ _ (s₁.setTop (mkF m 36 #[iv p1, iv p2, iv p3, .val (.long p4), .second, iv (1 : Int32), iv c15, iv c16, .unset, .unset, .unset, .unset, .unset, .unset, .unset, .unset] [(.int ((((p2.toUInt32 >>> ((16 : Int32) &&& 31).toUInt32).toInt32) &&& (255 : Int32)).toUInt32.toUInt16.toUInt32.toInt32))]))
      rw [i2c_mask]
      generalize hv_c17 : (((p2.toUInt32 >>> ((16 : Int32) &&& 31).toUInt32).toInt32) &&& (255 : Int32)) = c17
      have hr_c17 := own_r255 hv_c17
      show own_GoW p e below s _ _ _ _ (s₁.setTop (mkF m 36 #[iv p1, iv p2, iv p3, .val (.long p4), .second, iv (1 : Int32), iv c15, iv c16, .unset, .unset, .unset, .unset, .unset, .unset, .unset, .unset] [(.int c17)]))
      refine own_goW (fun zt zk => (XS.istore X0.here hx rfl (hb hby at_36) rfl (l' := #[iv p1, iv p2, iv p3, .val (.long p4), .second, iv (1 : Int32), iv c15, iv c16, iv c17, .unset, .unset, .unset, .unset, .unset, .unset, .unset]) rfl (XS.iloadN X0.here hx rfl (hb hby at_38) rfl (XS.bipush X0.here hx rfl (hb hby at_39) (XS.iushr X0.here hx rfl (hb hby at_41) rfl (XS.sipush X0.here hx rfl (hb hby at_42) (XS.iand X0.here hx rfl (hb hby at_45) rfl (XS.i2c X0.here hx rfl (hb hby at_46) rfl zk)))))))) ?_
      show own_GoW p e below s _ _ _ _ (s₁.setTop (mkF m 47 #[iv p1, iv p2, iv p3, .val (.long p4), .second, iv (1 : Int32), iv c15, iv c16, iv c17, .unset, .unset, .unset, .unset, .unset, .unset, .unset] [(.int ((((p2.toUInt32 >>> ((24 : Int32) &&& 31).toUInt32).toInt32) &&& (255 : Int32)).toUInt32.toUInt16.toUInt32.toInt32))]))
      rw [i2c_mask]
      generalize hv_c18 : (((p2.toUInt32 >>> ((24 : Int32) &&& 31).toUInt32).toInt32) &&& (255 : Int32)) = c18
      have hr_c18 := own_r255 hv_c18
      show own_GoW p e below s _ _ _ _ (s₁.setTop (mkF m 47 #[iv p1, iv p2, iv p3, .val (.long p4), .second, iv (1 : Int32), iv c15, iv c16, iv c17, .unset, .unset, .unset, .unset, .unset, .unset, .unset] [(.int c18)]))
      refine own_goW (fun zt zk => (XS.istore X0.here hx rfl (hb hby at_47) rfl (l' := #[iv p1, iv p2, iv p3, .val (.long p4), .second, iv (1 : Int32), iv c15, iv c16, iv c17, iv c18, .unset, .unset, .unset, .unset, .unset, .unset]) rfl (XS.iload X0.here hx rfl (hb hby at_49) rfl (XS.iload X0.here hx rfl (hb hby at_51) rfl (XS.iload X0.here hx rfl (hb hby at_53) rfl (XS.iload X0.here hx rfl (hb hby at_55) rfl (XS.iload X0.here hx rfl (hb hby at_57) rfl zk))))))) ?_
      show own_GoW p e below s _ _ _ _ (s₁.setTop (mkF m 59 #[iv p1, iv p2, iv p3, .val (.long p4), .second, iv (1 : Int32), iv c15, iv c16, iv c17, iv c18, .unset, .unset, .unset, .unset, .unset, .unset] [(.int c18), (.int c17), (.int c16), (.int c15), (.int (1 : Int32))]))
      obtain ⟨_, _, ⟨T19, L19, k19, n19⟩, -, X19, ⟨Lc19, hQ19, l19, y19, z19⟩, st19⟩ := Jvm.LawKit.callS X0 hx (y := (⟨"com/example/riskscan/riskscan/io/FixedWidthRecordReachesPinLaw", "line", "(ICCCC)Ljava/lang/String;"⟩ : MethodName)) hown (mvT hZ (hw _ (List.mem_of_getElem? (i := 1) rfl))) (mvT hZ (hw _ (List.mem_of_getElem? (i := 2) rfl))) (mvT hZ (hw _ (List.mem_of_getElem? (i := 3) rfl))) (mvT hZ (hw _ (List.mem_of_getElem? (i := 4) rfl))) (by decide) (backOf (W := 0) (own_rline1 l Z a0 hw [] c15 c16 c17 c18 o_COMPACT_STRINGS h0 n0 Z0 O S_o_COMPACT_STRINGS nz_o_COMPACT_STRINGS hr_c15 hr_c16 hr_c17 hr_c18) hZ (hw _ (List.mem_of_getElem? (i := 4) rfl)) (hw _ (List.mem_of_getElem? (i := 3) rfl)) (by decide) (by decide)) (g := (mkF m 59 #[iv p1, iv p2, iv p3, .val (.long p4), .second, iv (1 : Int32), iv c15, iv c16, iv c17, iv c18, .unset, .unset, .unset, .unset, .unset, .unset] [(.int c18), (.int c17), (.int c16), (.int c15), (.int (1 : Int32))])) rfl (by rw [hml]; rfl) (argsL := [(.int (1 : Int32)), (.int c15), (.int c16), (.int c17), (.int c18)]) (rest := []) (lenOf own_pd__ICCCC_Ljava_lang_String_ rfl) rfl (by show 2 * 0 + _ ≤ _; exact Nat.le_of_eq rfl) (hb hby at_59) (fun _ _ => ⟨rfl, e0, (by decide : 0 + 3 ≤ _), (by decide : 0 + 6 ≤ _)⟩)
      dsimp only [Pt.U, Pt.locs, Pt.cells, Pt.slots] at X19 l19 y19 z19 st19 hQ19
      subst l19 y19 z19
      obtain ⟨b19, t19, kb19, rfl, Nq19, K19, sb19, Ex_b19, Fv19, Fc19, Vt19⟩ := hQ19
      have N19 := Fr.app N0 Nq19
      refine own_goW st19 ?_
      replace Rc := Rc.trans (CHr.keep K19 all0 Rc.1)
      replace hk := Nat.le_trans hk K19.1
      replace O := O.keep K19 all0
      replace Kp := Kp.trans K19 all0
      show own_GoW p e below s _ _ _ _ (T19.setTop (mkF m 62 #[iv p1, iv p2, iv p3, .val (.long p4), .second, iv (1 : Int32), iv c15, iv c16, iv c17, iv c18, .unset, .unset, .unset, .unset, .unset, .unset] [(.ref b19)]))
      refine own_goW (fun zt zk => (XS.astore X19.here hx rfl (hb hby at_62) rfl rfl (l' := #[iv p1, iv p2, iv p3, .val (.long p4), .second, iv (1 : Int32), iv c15, iv c16, iv c17, iv c18, rv b19, .unset, .unset, .unset, .unset, .unset]) rfl zk)) ?_
      show own_GoW p e below s _ _ _ _ (T19.setTop (mkF m 64 #[iv p1, iv p2, iv p3, .val (.long p4), .second, iv (1 : Int32), iv c15, iv c16, iv c17, iv c18, rv b19, .unset, .unset, .unset, .unset, .unset] []))
      obtain ⟨T20, h20, X20, e20, E20, A20, D20, -, st20⟩ := newO X19 hx hZ hown (hw _ (List.mem_of_getElem? (i := 27) rfl)) (hw _ (List.mem_of_getElem? (i := 28) rfl)) (hw _ (List.mem_of_getElem? (i := 29) rfl)) rfl (g := (mkF m 64 #[iv p1, iv p2, iv p3, .val (.long p4), .second, iv (1 : Int32), iv c15, iv c16, iv c17, iv c18, rv b19, .unset, .unset, .unset, .unset, .unset] [])) rfl (hb hby at_64) (by decide) (by decide)
      obtain ⟨b20, g20⟩ : ∃ z, z = T19.heap.size := ⟨_, rfl⟩
      rw [← g20] at A20 D20 st20
      refine own_goW st20 ?_
      have ne_b19_b20 : b19 ≠ b20 := Nat.ne_of_lt (Nat.lt_of_lt_of_le Ex_b19.lt (Nat.le_of_eq g20.symm))
      have ne_t19_b20 : t19 ≠ b20 := Nat.ne_of_lt (Nat.lt_of_lt_of_le Vt19.lt (Nat.le_of_eq g20.symm))
      have sz_b20 : h0.size ≤ b20 := Nat.le_trans Kp.1 (Nat.le_of_eq g20.symm)
      have g_b20 : n0 ≤ b20 := Nat.le_trans Z0 sz_b20
      have Sf_b20 : Safe Z own_EL s.vm T19.heap b20 := Safe.new (Nat.le_of_eq g20.symm)
      replace O := O.ext E20
      replace Kp := Kp.ext E20
      replace Ex_b19 := Ex_b19.ext E20
      replace Fv19 := Fv19.ext E20
      replace Fc19 := Fc19.ext E20
      replace Vt19 := Vt19.ext E20
      replace Sf_b20 := Safe.ext E20 Rc.1 Sf_b20
      replace Rc := Rc.trans (CHr.ext E20 Rc.1)
      replace hk := Nat.le_trans hk E20.1
      have Ex_b20 := A20
      have F_file_b20 : Fld Z h20 b20 "com/example/riskscan/riskscan/io/FixedWidthRecord" "file" "Ljava/lang/String;" .null := D20 (Or.inr (hw _ (List.mem_of_getElem? (i := 36) rfl))) (ty := (.object "java/lang/String")) (by decide)
      have F_line_b20 : Fld Z h20 b20 "com/example/riskscan/riskscan/io/FixedWidthRecord" "line" "J" (.long (0 : Int64)) := D20 (Or.inr (hw _ (List.mem_of_getElem? (i := 38) rfl))) (ty := .long) (by decide)
      have F_text_b20 : Fld Z h20 b20 "com/example/riskscan/riskscan/io/FixedWidthRecord" "text" "Ljava/lang/String;" .null := D20 (Or.inr (hw _ (List.mem_of_getElem? (i := 40) rfl))) (ty := (.object "java/lang/String")) (by decide)
      show own_GoW p e below s _ _ _ _ (T20.setTop (mkF m 67 #[iv p1, iv p2, iv p3, .val (.long p4), .second, iv (1 : Int32), iv c15, iv c16, iv c17, iv c18, rv b19, .unset, .unset, .unset, .unset, .unset] [(.ref b20)]))
      refine own_goW (fun zt zk => (XS.dup X20.here hx rfl (hb hby at_67) rfl rfl zk)) ?_
      show own_GoW p e below s _ _ _ _ (T20.setTop (mkF m 68 #[iv p1, iv p2, iv p3, .val (.long p4), .second, iv (1 : Int32), iv c15, iv c16, iv c17, iv c18, rv b19, .unset, .unset, .unset, .unset, .unset] [(.ref b20), (.ref b20)]))
      obtain ⟨a21, T21, h21, q21, b21, k21, X21, e21, E21, hS21, hk21, hZ21, hown21, Ex_a21, Fc_a21, Fv_a21, Va_b21, lta21, ltb21, A21, Li21, Sn21, st21⟩ := ldcCH X20 hx hZ hown (hw _ (List.mem_of_getElem? (i := 30) rfl)) wS e20 hS hk hEL (by decide +kernel) Rc.1 (vs := [(.int (102 : Int32))]) (z := (1 : Int32)) ⟨by decide +kernel, by decide +kernel⟩ (by decide) rfl (g := (mkF m 68 #[iv p1, iv p2, iv p3, .val (.long p4), .second, iv (1 : Int32), iv c15, iv c16, iv c17, iv c18, rv b19, .unset, .unset, .unset, .unset, .unset] [(.ref b20), (.ref b20)])) rfl (hb hby at_68) (n := 4) (by decide +kernel) (by decide) (by decide) (by decide)
      replace Sf_b20 := CHr.safe A21 Ex_b20.lt Sf_b20
      replace O := O.ext E21
      replace Kp := Kp.ext E21
      replace Ex_b19 := Ex_b19.ext E21
      replace Fv19 := Fv19.ext E21
      replace Fc19 := Fc19.ext E21
      replace Vt19 := Vt19.ext E21
      replace Ex_b20 := Ex_b20.ext E21
      replace F_file_b20 := F_file_b20.ext E21
      replace F_line_b20 := F_line_b20.ext E21
      replace F_text_b20 := F_text_b20.ext E21
      replace Rc := Rc.trans A21
      replace hS := hS21
      replace hk := hk21
      replace hZ := hZ21
      replace hown := hown21
      refine own_goW st21 ?_
      have ne_b20_a21 := (Sn21 b20 Sf_b20).1
      have ne_b20_b21 := (Sn21 b20 Sf_b20).2
      show own_GoW p e below s _ _ _ _ (T21.setTop (mkF m 70 #[iv p1, iv p2, iv p3, .val (.long p4), .second, iv (1 : Int32), iv c15, iv c16, iv c17, iv c18, rv b19, .unset, .unset, .unset, .unset, .unset] [(.ref a21), (.ref b20), (.ref b20)]))
      refine own_goW (fun zt zk => (XS.lloadN X21.here hx rfl (hb hby at_70) rfl (XS.aload X21.here hx rfl (hb hby at_71) rfl rfl zk))) ?_
      show own_GoW p e below s _ _ _ _ (T21.setTop (mkF m 73 #[iv p1, iv p2, iv p3, .val (.long p4), .second, iv (1 : Int32), iv c15, iv c16, iv c17, iv c18, rv b19, .unset, .unset, .unset, .unset, .unset] [(.ref b19), (.long p4), (.ref a21), (.ref b20), (.ref b20)]))
      obtain ⟨_, _, ⟨T22, L22, k22, n22⟩, -, X22, ⟨Lc22, hQ22, l22, y22, z22⟩, st22⟩ := X21.specialBack hx (y := (⟨"com/example/riskscan/riskscan/io/FixedWidthRecord", "<init>", "(Ljava/lang/String;JLjava/lang/String;)V"⟩ : MethodName)) rfl hown (mvT hZ (hw _ (List.mem_of_getElem? (i := 31) rfl))) (mvT hZ (hw _ (List.mem_of_getElem? (i := 32) rfl))) (mvT hZ (hw _ (List.mem_of_getElem? (i := 33) rfl))) (by decide) (backOf (W := 1) (own_rfwr l Z a0 hw [] b20 a21 p4 b19  h21 n0 (Nat.le_trans Z0 Kp.1) Ex_b20 F_file_b20 F_line_b20 F_text_b20 g_b20) hZ (hw _ (List.mem_of_getElem? (i := 33) rfl)) (hw _ (List.mem_of_getElem? (i := 29) rfl)) (by decide) (by decide)) (g := (mkF m 73 #[iv p1, iv p2, iv p3, .val (.long p4), .second, iv (1 : Int32), iv c15, iv c16, iv c17, iv c18, rv b19, .unset, .unset, .unset, .unset, .unset] [(.ref b19), (.long p4), (.ref a21), (.ref b20), (.ref b20)])) rfl (by rw [hml]; rfl) (Steps.refl _) (a := b20) (argsL := [(.ref a21), (.long p4), (.ref b19)]) (rest := [(.ref b20)]) (lenOf own_pd__Ljava_lang_String_JLjava_lang_String__V rfl) rfl (by show 2 * 0 + _ ≤ _; exact Nat.le_of_eq rfl) (hb hby at_73) (fun _ _ => ⟨rfl, e21, (by decide : 6 + 0 ≤ _), (by decide : 17 + 0 ≤ _)⟩)
      dsimp only [Pt.U, Pt.locs, Pt.cells, Pt.slots] at X22 l22 y22 z22 st22 hQ22
      subst l22 y22 z22
      obtain ⟨rfl, Nq22, K22, -, F_file_b20, F_line_b20, F_text_b20⟩ := hQ22
      have N22 := Fr.app N19 Nq22
      refine own_goW (fun zt zk => st22.trans zk) ?_
      have Sf_b20' := Safe.keep K22 (allS Sf_b20 all0) Rc.1 Sf_b20
      replace Rc := Rc.trans (CHr.keep K22 (allS Sf_b20 all0) Rc.1)
      replace hk := Nat.le_trans hk K22.1
      replace Sf_b20 := Sf_b20'
      replace O := O.keep K22 (allS g_b20 all0)
      replace Kp := Kp.trans K22 (allS (Or.inr sz_b20) all0)
      replace Ex_b19 := Ex_b19.keep K22
      replace Fv19 := Fv19.keep K22 (ninS ne_b19_b20 nin0)
      replace Fc19 := Fc19.keep K22 (ninS ne_b19_b20 nin0)
      replace Vt19 := Vt19.keep K22 (ninS ne_t19_b20 nin0)
      replace Ex_b20 := Ex_b20.keep K22
      replace Ex_a21 := Ex_a21.keep K22
      replace Fc_a21 := Fc_a21.keep K22 (ninS (Ne.symm ne_b20_a21) nin0)
      replace Fv_a21 := Fv_a21.keep K22 (ninS (Ne.symm ne_b20_a21) nin0)
      replace Va_b21 := Va_b21.keep K22 (ninS (Ne.symm ne_b20_b21) nin0)
      show own_GoW p e below s _ _ _ _ (T22.setTop (mkF m 76 #[iv p1, iv p2, iv p3, .val (.long p4), .second, iv (1 : Int32), iv c15, iv c16, iv c17, iv c18, rv b19, .unset, .unset, .unset, .unset, .unset] [(.ref b20)]))
      refine own_goW (fun zt zk => (XS.astore X22.here hx rfl (hb hby at_76) rfl rfl (l' := #[iv p1, iv p2, iv p3, .val (.long p4), .second, iv (1 : Int32), iv c15, iv c16, iv c17, iv c18, rv b19, rv b20, .unset, .unset, .unset, .unset]) rfl (XS.aload X22.here hx rfl (hb hby at_78) rfl rfl (XS.iloadN X22.here hx rfl (hb hby at_80) rfl zk)))) ?_
      show own_GoW p e below s _ _ _ _ (T22.setTop (mkF m 81 #[iv p1, iv p2, iv p3, .val (.long p4), .second, iv (1 : Int32), iv c15, iv c16, iv c17, iv c18, rv b19, rv b20, .unset, .unset, .unset, .unset] [(.int p3), (.ref b20)]))
      by_cases hfr : (1 : Int32) < p3
      · obtain ⟨cq23, kq23, qa23, qb23, qc23⟩ := isOf hZ rfl Ex_b20
        obtain ⟨_, _, ⟨T23, L23, k23, n23⟩, -, X23, ⟨Lc23, hQ23, l23, y23, z23⟩, st23⟩ := X22.virtualBack hx (y := (⟨"com/example/riskscan/riskscan/io/FixedWidthRecord", "reaches", "(I)Z"⟩ : MethodName)) (z := (⟨"com/example/riskscan/riskscan/io/FixedWidthRecord", "reaches", "(I)Z"⟩ : MethodName)) hown (mvT hZ (hw _ (List.mem_of_getElem? (i := 41) rfl))) (mvT hZ (hw _ (List.mem_of_getElem? (i := 42) rfl))) (notFace_of_selects (args := #[]) (mvT hZ (hw _ (List.mem_of_getElem? (i := 44) rfl)))) (mvT hZ (hw _ (List.mem_of_getElem? (i := 44) rfl))) (mvT hZ (hw _ (List.mem_of_getElem? (i := 43) rfl))) (by decide) (backOf (W := 0) (own_rre0 l Z a0 hw [] b20 p3 b19 o_COMPACT_STRINGS t19 kb19 (1 : Int32) [(.int (c15.toInt8.toInt32))] T22.heap n0 (Nat.le_trans Z0 Kp.1) O S_o_COMPACT_STRINGS F_text_b20 Ex_b19 Fv19 Fc19 Vt19 nz_o_COMPACT_STRINGS hfr) hZ (hw _ (List.mem_of_getElem? (i := 45) rfl)) (hw _ (List.mem_of_getElem? (i := 29) rfl)) (by decide) (by decide)) qa23 qc23 (g := (mkF m 81 #[iv p1, iv p2, iv p3, .val (.long p4), .second, iv (1 : Int32), iv c15, iv c16, iv c17, iv c18, rv b19, rv b20, .unset, .unset, .unset, .unset] [(.int p3), (.ref b20)])) rfl (by rw [hml]; rfl) (Steps.refl _) (argsL := [(.int p3)]) (rest := []) (lenOf own_pd__I_Z rfl) rfl (by show 2 * 0 + _ ≤ _; exact Nat.le_of_eq rfl) (hb hby at_81) (fun _ _ => ⟨rfl, rfl, (by decide : 6 + 0 ≤ _), (by decide : 17 + 0 ≤ _)⟩)
        dsimp only [Pt.U, Pt.locs, Pt.cells, Pt.slots] at X23 l23 y23 z23 st23 hQ23
        subst l23 y23 z23
        obtain ⟨rfl, Nq23, e23⟩ := hQ23
        have N23 := Fr.app N22 Nq23
        refine own_goW (fun zt zk => st23.trans zk) ?_
        show own_GoW p e below s _ _ _ _ (T23.setTop (mkF m 84 #[iv p1, iv p2, iv p3, .val (.long p4), .second, iv (1 : Int32), iv c15, iv c16, iv c17, iv c18, rv b19, rv b20, .unset, .unset, .unset, .unset] [(.int (0 : Int32))]))
        refine own_goW (fun zt zk => (XS.istore X23.here hx rfl (hb hby at_84) rfl (l' := #[iv p1, iv p2, iv p3, .val (.long p4), .second, iv (1 : Int32), iv c15, iv c16, iv c17, iv c18, rv b19, rv b20, iv (0 : Int32), .unset, .unset, .unset]) rfl (XS.iloadN X23.here hx rfl (hb hby at_86) rfl (XS.iload X23.here hx rfl (hb hby at_87) rfl (XS.icmpYes X23.here hx rfl (pc0 := 89) (pc' := 96) rfl (hb hby at_89) rfl (tlt (hfr : (1 : Int32) < p3)).2.2.1 (by decide) (by decide) (XS.iconst X23.here hx rfl (hb hby at_96) (XS.istore X23.here hx rfl (hb hby at_97) rfl (l' := #[iv p1, iv p2, iv p3, .val (.long p4), .second, iv (1 : Int32), iv c15, iv c16, iv c17, iv c18, rv b19, rv b20, iv (0 : Int32), iv (0 : Int32), .unset, .unset]) rfl (XS.aload X23.here hx rfl (hb hby at_99) rfl rfl (XS.iload X23.here hx rfl (hb hby at_101) rfl zk))))))))) ?_
        show own_GoW p e below s _ _ _ _ (T23.setTop (mkF m 103 #[iv p1, iv p2, iv p3, .val (.long p4), .second, iv (1 : Int32), iv c15, iv c16, iv c17, iv c18, rv b19, rv b20, iv (0 : Int32), iv (0 : Int32), .unset, .unset] [(.int (1 : Int32)), (.ref b20)]))
        obtain ⟨cq24, kq24, qa24, qb24, qc24⟩ := isOf hZ e23 Ex_b20
        obtain ⟨_, _, ⟨T24, L24, k24, n24⟩, -, X24, ⟨Lc24, hQ24, l24, y24, z24⟩, st24⟩ := X23.virtualBack hx (y := (⟨"com/example/riskscan/riskscan/io/FixedWidthRecord", "reaches", "(I)Z"⟩ : MethodName)) (z := (⟨"com/example/riskscan/riskscan/io/FixedWidthRecord", "reaches", "(I)Z"⟩ : MethodName)) hown (mvT hZ (hw _ (List.mem_of_getElem? (i := 41) rfl))) (mvT hZ (hw _ (List.mem_of_getElem? (i := 42) rfl))) (notFace_of_selects (args := #[]) (mvT hZ (hw _ (List.mem_of_getElem? (i := 44) rfl)))) (mvT hZ (hw _ (List.mem_of_getElem? (i := 44) rfl))) (mvT hZ (hw _ (List.mem_of_getElem? (i := 43) rfl))) (by decide) (backOf (W := 0) (own_rre1 l Z a0 hw [] b20 (1 : Int32) b19 o_COMPACT_STRINGS t19 kb19 (1 : Int32) [(.int (c15.toInt8.toInt32))] T22.heap n0 (Nat.le_trans Z0 Kp.1) O S_o_COMPACT_STRINGS F_text_b20 Ex_b19 Fv19 Fc19 Vt19 nz_o_COMPACT_STRINGS (by decide)) hZ (hw _ (List.mem_of_getElem? (i := 45) rfl)) (hw _ (List.mem_of_getElem? (i := 29) rfl)) (by decide) (by decide)) qa24 qc24 (g := (mkF m 103 #[iv p1, iv p2, iv p3, .val (.long p4), .second, iv (1 : Int32), iv c15, iv c16, iv c17, iv c18, rv b19, rv b20, iv (0 : Int32), iv (0 : Int32), .unset, .unset] [(.int (1 : Int32)), (.ref b20)])) rfl (by rw [hml]; rfl) (Steps.refl _) (argsL := [(.int (1 : Int32))]) (rest := []) (lenOf own_pd__I_Z rfl) rfl (by show 2 * 0 + _ ≤ _; exact Nat.le_of_eq rfl) (hb hby at_103) (fun _ _ => ⟨rfl, e23, (by decide : 6 + 0 ≤ _), (by decide : 17 + 0 ≤ _)⟩)
        dsimp only [Pt.U, Pt.locs, Pt.cells, Pt.slots] at X24 l24 y24 z24 st24 hQ24
        subst l24 y24 z24
        obtain ⟨rfl, Nq24, e24⟩ := hQ24
        have N24 := Fr.app N23 Nq24
        refine own_goW (fun zt zk => st24.trans zk) ?_
        show own_GoW p e below s _ _ _ _ (T24.setTop (mkF m 106 #[iv p1, iv p2, iv p3, .val (.long p4), .second, iv (1 : Int32), iv c15, iv c16, iv c17, iv c18, rv b19, rv b20, iv (0 : Int32), iv (0 : Int32), .unset, .unset] [(.int (1 : Int32))]))
        refine own_goW (fun zt zk => (XS.istore X24.here hx rfl (hb hby at_106) rfl (l' := #[iv p1, iv p2, iv p3, .val (.long p4), .second, iv (1 : Int32), iv c15, iv c16, iv c17, iv c18, rv b19, rv b20, iv (0 : Int32), iv (0 : Int32), iv (1 : Int32), .unset]) rfl (XS.aload X24.here hx rfl (hb hby at_108) rfl rfl (XS.iload X24.here hx rfl (hb hby at_110) rfl (XS.iconst X24.here hx rfl (hb hby at_112) (XS.iadd X24.here hx rfl (hb hby at_113) rfl zk)))))) ?_
        show own_GoW p e below s _ _ _ _ (T24.setTop (mkF m 114 #[iv p1, iv p2, iv p3, .val (.long p4), .second, iv (1 : Int32), iv c15, iv c16, iv c17, iv c18, rv b19, rv b20, iv (0 : Int32), iv (0 : Int32), iv (1 : Int32), .unset] [(.int (2 : Int32)), (.ref b20)]))
        obtain ⟨cq25, kq25, qa25, qb25, qc25⟩ := isOf hZ e24 Ex_b20
        obtain ⟨_, _, ⟨T25, L25, k25, n25⟩, -, X25, ⟨Lc25, hQ25, l25, y25, z25⟩, st25⟩ := X24.virtualBack hx (y := (⟨"com/example/riskscan/riskscan/io/FixedWidthRecord", "reaches", "(I)Z"⟩ : MethodName)) (z := (⟨"com/example/riskscan/riskscan/io/FixedWidthRecord", "reaches", "(I)Z"⟩ : MethodName)) hown (mvT hZ (hw _ (List.mem_of_getElem? (i := 41) rfl))) (mvT hZ (hw _ (List.mem_of_getElem? (i := 42) rfl))) (notFace_of_selects (args := #[]) (mvT hZ (hw _ (List.mem_of_getElem? (i := 44) rfl)))) (mvT hZ (hw _ (List.mem_of_getElem? (i := 44) rfl))) (mvT hZ (hw _ (List.mem_of_getElem? (i := 43) rfl))) (by decide) (backOf (W := 0) (own_rre0 l Z a0 hw [] b20 (2 : Int32) b19 o_COMPACT_STRINGS t19 kb19 (1 : Int32) [(.int (c15.toInt8.toInt32))] T22.heap n0 (Nat.le_trans Z0 Kp.1) O S_o_COMPACT_STRINGS F_text_b20 Ex_b19 Fv19 Fc19 Vt19 nz_o_COMPACT_STRINGS (by decide)) hZ (hw _ (List.mem_of_getElem? (i := 45) rfl)) (hw _ (List.mem_of_getElem? (i := 29) rfl)) (by decide) (by decide)) qa25 qc25 (g := (mkF m 114 #[iv p1, iv p2, iv p3, .val (.long p4), .second, iv (1 : Int32), iv c15, iv c16, iv c17, iv c18, rv b19, rv b20, iv (0 : Int32), iv (0 : Int32), iv (1 : Int32), .unset] [(.int (2 : Int32)), (.ref b20)])) rfl (by rw [hml]; rfl) (Steps.refl _) (argsL := [(.int (2 : Int32))]) (rest := []) (lenOf own_pd__I_Z rfl) rfl (by show 2 * 0 + _ ≤ _; exact Nat.le_of_eq rfl) (hb hby at_114) (fun _ _ => ⟨rfl, e24, (by decide : 6 + 0 ≤ _), (by decide : 17 + 0 ≤ _)⟩)
        dsimp only [Pt.U, Pt.locs, Pt.cells, Pt.slots] at X25 l25 y25 z25 st25 hQ25
        subst l25 y25 z25
        obtain ⟨rfl, Nq25, e25⟩ := hQ25
        have N25 := Fr.app N24 Nq25
        refine own_goW (fun zt zk => st25.trans zk) ?_
        show own_GoW p e below s _ _ _ _ (T25.setTop (mkF m 117 #[iv p1, iv p2, iv p3, .val (.long p4), .second, iv (1 : Int32), iv c15, iv c16, iv c17, iv c18, rv b19, rv b20, iv (0 : Int32), iv (0 : Int32), iv (1 : Int32), .unset] [(.int (0 : Int32))]))
        refine own_goW (fun zt zk => (XS.istore X25.here hx rfl (hb hby at_117) rfl (l' := #[iv p1, iv p2, iv p3, .val (.long p4), .second, iv (1 : Int32), iv c15, iv c16, iv c17, iv c18, rv b19, rv b20, iv (0 : Int32), iv (0 : Int32), iv (1 : Int32), iv (0 : Int32)]) rfl (XS.iload X25.here hx rfl (hb hby at_119) rfl (XS.iload X25.here hx rfl (hb hby at_121) rfl (XS.icmpNo X25.here hx rfl (hb hby at_123) rfl (teq (rfl : (0 : Int32) = (0 : Int32))).2 (XS.iload X25.here hx rfl (hb hby at_126) rfl (XS.ifNo X25.here hx rfl (hb hby at_128) rfl ((if0 _ _).trans (feq ((by decide) : ¬ ((1 : Int32) = (0 : Int32)))).1) (XS.iload X25.here hx rfl (hb hby at_131) rfl (XS.ifNo X25.here hx rfl (hb hby at_133) rfl ((if0 _ _).trans (teq (rfl : (0 : Int32) = (0 : Int32))).2) (XS.iconst X25.here hx rfl (hb hby at_136) (XS.goto X25.here hx rfl (pc0 := 137) (pc' := 141) rfl (hb hby at_137) (by decide) (by decide) zk))))))))))) ?_
        show own_GoW p e below s _ _ _ _ (T25.setTop (mkF m 141 #[iv p1, iv p2, iv p3, .val (.long p4), .second, iv (1 : Int32), iv c15, iv c16, iv c17, iv c18, rv b19, rv b20, iv (0 : Int32), iv (0 : Int32), iv (1 : Int32), iv (0 : Int32)] [(.int (1 : Int32))]))
        have Re := Rc.trans (CHv.at X25 hZ hEL Rc.1)
        exact own_finW X25 hS (by rw [e25]; exact hk) (by rw [e25, hh]; exact Re) Bd.notSynchronized (fun h => by rw [Bd.returns] at h; cases h) (fun fs hr => retN X25 hx (t := .boolean) Bd.returns (by simp) (hb hby at_141) hr) (by rw [e25]; exact ⟨rfl, N25⟩) (by decide) (by decide)
      · obtain ⟨cq26, kq26, qa26, qb26, qc26⟩ := isOf hZ rfl Ex_b20
        obtain ⟨_, _, ⟨T26, L26, k26, n26⟩, -, X26, ⟨Lc26, hQ26, l26, y26, z26⟩, st26⟩ := X22.virtualBack hx (y := (⟨"com/example/riskscan/riskscan/io/FixedWidthRecord", "reaches", "(I)Z"⟩ : MethodName)) (z := (⟨"com/example/riskscan/riskscan/io/FixedWidthRecord", "reaches", "(I)Z"⟩ : MethodName)) hown (mvT hZ (hw _ (List.mem_of_getElem? (i := 41) rfl))) (mvT hZ (hw _ (List.mem_of_getElem? (i := 42) rfl))) (notFace_of_selects (args := #[]) (mvT hZ (hw _ (List.mem_of_getElem? (i := 44) rfl)))) (mvT hZ (hw _ (List.mem_of_getElem? (i := 44) rfl))) (mvT hZ (hw _ (List.mem_of_getElem? (i := 43) rfl))) (by decide) (backOf (W := 0) (own_rre1 l Z a0 hw [] b20 p3 b19 o_COMPACT_STRINGS t19 kb19 (1 : Int32) [(.int (c15.toInt8.toInt32))] T22.heap n0 (Nat.le_trans Z0 Kp.1) O S_o_COMPACT_STRINGS F_text_b20 Ex_b19 Fv19 Fc19 Vt19 nz_o_COMPACT_STRINGS hfr) hZ (hw _ (List.mem_of_getElem? (i := 45) rfl)) (hw _ (List.mem_of_getElem? (i := 29) rfl)) (by decide) (by decide)) qa26 qc26 (g := (mkF m 81 #[iv p1, iv p2, iv p3, .val (.long p4), .second, iv (1 : Int32), iv c15, iv c16, iv c17, iv c18, rv b19, rv b20, .unset, .unset, .unset, .unset] [(.int p3), (.ref b20)])) rfl (by rw [hml]; rfl) (Steps.refl _) (argsL := [(.int p3)]) (rest := []) (lenOf own_pd__I_Z rfl) rfl (by show 2 * 0 + _ ≤ _; exact Nat.le_of_eq rfl) (hb hby at_81) (fun _ _ => ⟨rfl, rfl, (by decide : 6 + 0 ≤ _), (by decide : 17 + 0 ≤ _)⟩)
        dsimp only [Pt.U, Pt.locs, Pt.cells, Pt.slots] at X26 l26 y26 z26 st26 hQ26
        subst l26 y26 z26
        obtain ⟨rfl, Nq26, e26⟩ := hQ26
        have N26 := Fr.app N22 Nq26
        refine own_goW (fun zt zk => st26.trans zk) ?_
        show own_GoW p e below s _ _ _ _ (T26.setTop (mkF m 84 #[iv p1, iv p2, iv p3, .val (.long p4), .second, iv (1 : Int32), iv c15, iv c16, iv c17, iv c18, rv b19, rv b20, .unset, .unset, .unset, .unset] [(.int (1 : Int32))]))
        refine own_goW (fun zt zk => (XS.istore X26.here hx rfl (hb hby at_84) rfl (l' := #[iv p1, iv p2, iv p3, .val (.long p4), .second, iv (1 : Int32), iv c15, iv c16, iv c17, iv c18, rv b19, rv b20, iv (1 : Int32), .unset, .unset, .unset]) rfl (XS.iloadN X26.here hx rfl (hb hby at_86) rfl (XS.iload X26.here hx rfl (hb hby at_87) rfl (XS.icmpNo X26.here hx rfl (hb hby at_89) rfl (flt (hfr : ¬ ((1 : Int32) < p3))).2.2.1 (XS.iconst X26.here hx rfl (hb hby at_92) (XS.goto X26.here hx rfl (pc0 := 93) (pc' := 97) rfl (hb hby at_93) (by decide) (by decide) (XS.istore X26.here hx rfl (hb hby at_97) rfl (l' := #[iv p1, iv p2, iv p3, .val (.long p4), .second, iv (1 : Int32), iv c15, iv c16, iv c17, iv c18, rv b19, rv b20, iv (1 : Int32), iv (1 : Int32), .unset, .unset]) rfl (XS.aload X26.here hx rfl (hb hby at_99) rfl rfl (XS.iload X26.here hx rfl (hb hby at_101) rfl zk)))))))))) ?_
        show own_GoW p e below s _ _ _ _ (T26.setTop (mkF m 103 #[iv p1, iv p2, iv p3, .val (.long p4), .second, iv (1 : Int32), iv c15, iv c16, iv c17, iv c18, rv b19, rv b20, iv (1 : Int32), iv (1 : Int32), .unset, .unset] [(.int (1 : Int32)), (.ref b20)]))
        obtain ⟨cq27, kq27, qa27, qb27, qc27⟩ := isOf hZ e26 Ex_b20
        obtain ⟨_, _, ⟨T27, L27, k27, n27⟩, -, X27, ⟨Lc27, hQ27, l27, y27, z27⟩, st27⟩ := X26.virtualBack hx (y := (⟨"com/example/riskscan/riskscan/io/FixedWidthRecord", "reaches", "(I)Z"⟩ : MethodName)) (z := (⟨"com/example/riskscan/riskscan/io/FixedWidthRecord", "reaches", "(I)Z"⟩ : MethodName)) hown (mvT hZ (hw _ (List.mem_of_getElem? (i := 41) rfl))) (mvT hZ (hw _ (List.mem_of_getElem? (i := 42) rfl))) (notFace_of_selects (args := #[]) (mvT hZ (hw _ (List.mem_of_getElem? (i := 44) rfl)))) (mvT hZ (hw _ (List.mem_of_getElem? (i := 44) rfl))) (mvT hZ (hw _ (List.mem_of_getElem? (i := 43) rfl))) (by decide) (backOf (W := 0) (own_rre1 l Z a0 hw [] b20 (1 : Int32) b19 o_COMPACT_STRINGS t19 kb19 (1 : Int32) [(.int (c15.toInt8.toInt32))] T22.heap n0 (Nat.le_trans Z0 Kp.1) O S_o_COMPACT_STRINGS F_text_b20 Ex_b19 Fv19 Fc19 Vt19 nz_o_COMPACT_STRINGS (by decide)) hZ (hw _ (List.mem_of_getElem? (i := 45) rfl)) (hw _ (List.mem_of_getElem? (i := 29) rfl)) (by decide) (by decide)) qa27 qc27 (g := (mkF m 103 #[iv p1, iv p2, iv p3, .val (.long p4), .second, iv (1 : Int32), iv c15, iv c16, iv c17, iv c18, rv b19, rv b20, iv (1 : Int32), iv (1 : Int32), .unset, .unset] [(.int (1 : Int32)), (.ref b20)])) rfl (by rw [hml]; rfl) (Steps.refl _) (argsL := [(.int (1 : Int32))]) (rest := []) (lenOf own_pd__I_Z rfl) rfl (by show 2 * 0 + _ ≤ _; exact Nat.le_of_eq rfl) (hb hby at_103) (fun _ _ => ⟨rfl, e26, (by decide : 6 + 0 ≤ _), (by decide : 17 + 0 ≤ _)⟩)
        dsimp only [Pt.U, Pt.locs, Pt.cells, Pt.slots] at X27 l27 y27 z27 st27 hQ27
        subst l27 y27 z27
        obtain ⟨rfl, Nq27, e27⟩ := hQ27
        have N27 := Fr.app N26 Nq27
        refine own_goW (fun zt zk => st27.trans zk) ?_
        show own_GoW p e below s _ _ _ _ (T27.setTop (mkF m 106 #[iv p1, iv p2, iv p3, .val (.long p4), .second, iv (1 : Int32), iv c15, iv c16, iv c17, iv c18, rv b19, rv b20, iv (1 : Int32), iv (1 : Int32), .unset, .unset] [(.int (1 : Int32))]))
        refine own_goW (fun zt zk => (XS.istore X27.here hx rfl (hb hby at_106) rfl (l' := #[iv p1, iv p2, iv p3, .val (.long p4), .second, iv (1 : Int32), iv c15, iv c16, iv c17, iv c18, rv b19, rv b20, iv (1 : Int32), iv (1 : Int32), iv (1 : Int32), .unset]) rfl (XS.aload X27.here hx rfl (hb hby at_108) rfl rfl (XS.iload X27.here hx rfl (hb hby at_110) rfl (XS.iconst X27.here hx rfl (hb hby at_112) (XS.iadd X27.here hx rfl (hb hby at_113) rfl zk)))))) ?_
        show own_GoW p e below s _ _ _ _ (T27.setTop (mkF m 114 #[iv p1, iv p2, iv p3, .val (.long p4), .second, iv (1 : Int32), iv c15, iv c16, iv c17, iv c18, rv b19, rv b20, iv (1 : Int32), iv (1 : Int32), iv (1 : Int32), .unset] [(.int (2 : Int32)), (.ref b20)]))
        obtain ⟨cq28, kq28, qa28, qb28, qc28⟩ := isOf hZ e27 Ex_b20
        obtain ⟨_, _, ⟨T28, L28, k28, n28⟩, -, X28, ⟨Lc28, hQ28, l28, y28, z28⟩, st28⟩ := X27.virtualBack hx (y := (⟨"com/example/riskscan/riskscan/io/FixedWidthRecord", "reaches", "(I)Z"⟩ : MethodName)) (z := (⟨"com/example/riskscan/riskscan/io/FixedWidthRecord", "reaches", "(I)Z"⟩ : MethodName)) hown (mvT hZ (hw _ (List.mem_of_getElem? (i := 41) rfl))) (mvT hZ (hw _ (List.mem_of_getElem? (i := 42) rfl))) (notFace_of_selects (args := #[]) (mvT hZ (hw _ (List.mem_of_getElem? (i := 44) rfl)))) (mvT hZ (hw _ (List.mem_of_getElem? (i := 44) rfl))) (mvT hZ (hw _ (List.mem_of_getElem? (i := 43) rfl))) (by decide) (backOf (W := 0) (own_rre0 l Z a0 hw [] b20 (2 : Int32) b19 o_COMPACT_STRINGS t19 kb19 (1 : Int32) [(.int (c15.toInt8.toInt32))] T22.heap n0 (Nat.le_trans Z0 Kp.1) O S_o_COMPACT_STRINGS F_text_b20 Ex_b19 Fv19 Fc19 Vt19 nz_o_COMPACT_STRINGS (by decide)) hZ (hw _ (List.mem_of_getElem? (i := 45) rfl)) (hw _ (List.mem_of_getElem? (i := 29) rfl)) (by decide) (by decide)) qa28 qc28 (g := (mkF m 114 #[iv p1, iv p2, iv p3, .val (.long p4), .second, iv (1 : Int32), iv c15, iv c16, iv c17, iv c18, rv b19, rv b20, iv (1 : Int32), iv (1 : Int32), iv (1 : Int32), .unset] [(.int (2 : Int32)), (.ref b20)])) rfl (by rw [hml]; rfl) (Steps.refl _) (argsL := [(.int (2 : Int32))]) (rest := []) (lenOf own_pd__I_Z rfl) rfl (by show 2 * 0 + _ ≤ _; exact Nat.le_of_eq rfl) (hb hby at_114) (fun _ _ => ⟨rfl, e27, (by decide : 6 + 0 ≤ _), (by decide : 17 + 0 ≤ _)⟩)
        dsimp only [Pt.U, Pt.locs, Pt.cells, Pt.slots] at X28 l28 y28 z28 st28 hQ28
        subst l28 y28 z28
        obtain ⟨rfl, Nq28, e28⟩ := hQ28
        have N28 := Fr.app N27 Nq28
        refine own_goW (fun zt zk => st28.trans zk) ?_
        show own_GoW p e below s _ _ _ _ (T28.setTop (mkF m 117 #[iv p1, iv p2, iv p3, .val (.long p4), .second, iv (1 : Int32), iv c15, iv c16, iv c17, iv c18, rv b19, rv b20, iv (1 : Int32), iv (1 : Int32), iv (1 : Int32), .unset] [(.int (0 : Int32))]))
        refine own_goW (fun zt zk => (XS.istore X28.here hx rfl (hb hby at_117) rfl (l' := #[iv p1, iv p2, iv p3, .val (.long p4), .second, iv (1 : Int32), iv c15, iv c16, iv c17, iv c18, rv b19, rv b20, iv (1 : Int32), iv (1 : Int32), iv (1 : Int32), iv (0 : Int32)]) rfl (XS.iload X28.here hx rfl (hb hby at_119) rfl (XS.iload X28.here hx rfl (hb hby at_121) rfl (XS.icmpNo X28.here hx rfl (hb hby at_123) rfl (teq (rfl : (1 : Int32) = (1 : Int32))).2 (XS.iload X28.here hx rfl (hb hby at_126) rfl (XS.ifNo X28.here hx rfl (hb hby at_128) rfl ((if0 _ _).trans (feq ((by decide) : ¬ ((1 : Int32) = (0 : Int32)))).1) (XS.iload X28.here hx rfl (hb hby at_131) rfl (XS.ifNo X28.here hx rfl (hb hby at_133) rfl ((if0 _ _).trans (teq (rfl : (0 : Int32) = (0 : Int32))).2) (XS.iconst X28.here hx rfl (hb hby at_136) (XS.goto X28.here hx rfl (pc0 := 137) (pc' := 141) rfl (hb hby at_137) (by decide) (by decide) zk))))))))))) ?_
        show own_GoW p e below s _ _ _ _ (T28.setTop (mkF m 141 #[iv p1, iv p2, iv p3, .val (.long p4), .second, iv (1 : Int32), iv c15, iv c16, iv c17, iv c18, rv b19, rv b20, iv (1 : Int32), iv (1 : Int32), iv (1 : Int32), iv (0 : Int32)] [(.int (1 : Int32))]))
        have Re := Rc.trans (CHv.at X28 hZ hEL Rc.1)
        exact own_finW X28 hS (by rw [e28]; exact hk) (by rw [e28, hh]; exact Re) Bd.notSynchronized (fun h => by rw [Bd.returns] at h; cases h) (fun fs hr => retN X28 hx (t := .boolean) Bd.returns (by simp) (hb hby at_141) hr) (by rw [e28]; exact ⟨rfl, N28⟩) (by decide) (by decide)
    · by_cases hk2_k : k = (2 : Int32)
      · subst hk2_k
        show own_GoW p e below s _ _ _ _ (s₁.setTop (mkF m 8 #[iv p1, iv p2, iv p3, .val (.long p4), .second, iv (2 : Int32), .unset, .unset, .unset, .unset, .unset, .unset, .unset, .unset, .unset, .unset] []))
        refine own_goW (fun zt zk => (XS.iloadN X0.here hx rfl (hb hby at_8) rfl (XS.sipush X0.here hx rfl (hb hby at_9) (XS.iand X0.here hx rfl (hb hby at_12) rfl (XS.i2c X0.here hx rfl (hb hby at_13) rfl zk))))) ?_
        show own_GoW p e below s _ _ _ _ (s₁.setTop (mkF m 14 #[iv p1, iv p2, iv p3, .val (.long p4), .second, iv (2 : Int32), .unset, .unset, .unset, .unset, .unset, .unset, .unset, .unset, .unset, .unset] [(.int ((p2 &&& (255 : Int32)).toUInt32.toUInt16.toUInt32.toInt32))]))
        rw [i2c_mask]
        generalize hv_c29 : (p2 &&& (255 : Int32)) = c29
        have hr_c29 := own_r255 hv_c29
        show own_GoW p e below s _ _ _ _ (s₁.setTop (mkF m 14 #[iv p1, iv p2, iv p3, .val (.long p4), .second, iv (2 : Int32), .unset, .unset, .unset, .unset, .unset, .unset, .unset, .unset, .unset, .unset] [(.int c29)]))
        refine own_goW (fun zt zk => (XS.istore X0.here hx rfl (hb hby at_14) rfl (l' := #[iv p1, iv p2, iv p3, .val (.long p4), .second, iv (2 : Int32), iv c29, .unset, .unset, .unset, .unset, .unset, .unset, .unset, .unset, .unset]) rfl (XS.iloadN X0.here hx rfl (hb hby at_16) rfl (XS.bipush X0.here hx rfl (hb hby at_17) (XS.iushr X0.here hx rfl (hb hby at_19) rfl (XS.sipush X0.here hx rfl (hb hby at_20) (XS.iand X0.here hx rfl (hb hby at_23) rfl (XS.i2c X0.here hx rfl (hb hby at_24) rfl zk)))))))) ?_
        show own_GoW p e below s _ _ _ _ (s₁.setTop (mkF m 25 #[iv p1, iv p2, iv p3, .val (.long p4), .second, iv (2 : Int32), iv c29, .unset, .unset, .unset, .unset, .unset, .unset, .unset, .unset, .unset] [(.int ((((p2.toUInt32 >>> ((8 : Int32) &&& 31).toUInt32).toInt32) &&& (255 : Int32)).toUInt32.toUInt16.toUInt32.toInt32))]))
        rw [i2c_mask]
        generalize hv_c30 : (((p2.toUInt32 >>> ((8 : Int32) &&& 31).toUInt32).toInt32) &&& (255 : Int32)) = c30
        have hr_c30 := own_r255 hv_c30
        show own_GoW p e below s _ _ _ _ (s₁.setTop (mkF m 25 #[iv p1, iv p2, iv p3, .val (.long p4), .second, iv (2 : Int32), iv c29, .unset, .unset, .unset, .unset, .unset, .unset, .unset, .unset, .unset] [(.int c30)]))
        refine own_goW (fun zt zk => (XS.istore X0.here hx rfl (hb hby at_25) rfl (l' := #[iv p1, iv p2, iv p3, .val (.long p4), .second, iv (2 : Int32), iv c29, iv c30, .unset, .unset, .unset, .unset, .unset, .unset, .unset, .unset]) rfl (XS.iloadN X0.here hx rfl (hb hby at_27) rfl (XS.bipush X0.here hx rfl (hb hby at_28) (XS.iushr X0.here hx rfl (hb hby at_30) rfl (XS.sipush X0.here hx rfl (hb hby at_31) (XS.iand X0.here hx rfl (hb hby at_34) rfl (XS.i2c X0.here hx rfl (hb hby at_35) rfl zk)))))))) ?_
        show own_GoW p e below s _ _ _ _ (s₁.setTop (mkF m 36 #[iv p1, iv p2, iv p3, .val (.long p4), .second, iv (2 : Int32), iv c29, iv c30, .unset, .unset, .unset, .unset, .unset, .unset, .unset, .unset] [(.int ((((p2.toUInt32 >>> ((16 : Int32) &&& 31).toUInt32).toInt32) &&& (255 : Int32)).toUInt32.toUInt16.toUInt32.toInt32))]))
        rw [i2c_mask]
        generalize hv_c31 : (((p2.toUInt32 >>> ((16 : Int32) &&& 31).toUInt32).toInt32) &&& (255 : Int32)) = c31
        have hr_c31 := own_r255 hv_c31
        show own_GoW p e below s _ _ _ _ (s₁.setTop (mkF m 36 #[iv p1, iv p2, iv p3, .val (.long p4), .second, iv (2 : Int32), iv c29, iv c30, .unset, .unset, .unset, .unset, .unset, .unset, .unset, .unset] [(.int c31)]))
        refine own_goW (fun zt zk => (XS.istore X0.here hx rfl (hb hby at_36) rfl (l' := #[iv p1, iv p2, iv p3, .val (.long p4), .second, iv (2 : Int32), iv c29, iv c30, iv c31, .unset, .unset, .unset, .unset, .unset, .unset, .unset]) rfl (XS.iloadN X0.here hx rfl (hb hby at_38) rfl (XS.bipush X0.here hx rfl (hb hby at_39) (XS.iushr X0.here hx rfl (hb hby at_41) rfl (XS.sipush X0.here hx rfl (hb hby at_42) (XS.iand X0.here hx rfl (hb hby at_45) rfl (XS.i2c X0.here hx rfl (hb hby at_46) rfl zk)))))))) ?_
        show own_GoW p e below s _ _ _ _ (s₁.setTop (mkF m 47 #[iv p1, iv p2, iv p3, .val (.long p4), .second, iv (2 : Int32), iv c29, iv c30, iv c31, .unset, .unset, .unset, .unset, .unset, .unset, .unset] [(.int ((((p2.toUInt32 >>> ((24 : Int32) &&& 31).toUInt32).toInt32) &&& (255 : Int32)).toUInt32.toUInt16.toUInt32.toInt32))]))
        rw [i2c_mask]
        generalize hv_c32 : (((p2.toUInt32 >>> ((24 : Int32) &&& 31).toUInt32).toInt32) &&& (255 : Int32)) = c32
        have hr_c32 := own_r255 hv_c32
        show own_GoW p e below s _ _ _ _ (s₁.setTop (mkF m 47 #[iv p1, iv p2, iv p3, .val (.long p4), .second, iv (2 : Int32), iv c29, iv c30, iv c31, .unset, .unset, .unset, .unset, .unset, .unset, .unset] [(.int c32)]))
        refine own_goW (fun zt zk => (XS.istore X0.here hx rfl (hb hby at_47) rfl (l' := #[iv p1, iv p2, iv p3, .val (.long p4), .second, iv (2 : Int32), iv c29, iv c30, iv c31, iv c32, .unset, .unset, .unset, .unset, .unset, .unset]) rfl (XS.iload X0.here hx rfl (hb hby at_49) rfl (XS.iload X0.here hx rfl (hb hby at_51) rfl (XS.iload X0.here hx rfl (hb hby at_53) rfl (XS.iload X0.here hx rfl (hb hby at_55) rfl (XS.iload X0.here hx rfl (hb hby at_57) rfl zk))))))) ?_
        show own_GoW p e below s _ _ _ _ (s₁.setTop (mkF m 59 #[iv p1, iv p2, iv p3, .val (.long p4), .second, iv (2 : Int32), iv c29, iv c30, iv c31, iv c32, .unset, .unset, .unset, .unset, .unset, .unset] [(.int c32), (.int c31), (.int c30), (.int c29), (.int (2 : Int32))]))
        obtain ⟨_, _, ⟨T33, L33, k33, n33⟩, -, X33, ⟨Lc33, hQ33, l33, y33, z33⟩, st33⟩ := Jvm.LawKit.callS X0 hx (y := (⟨"com/example/riskscan/riskscan/io/FixedWidthRecordReachesPinLaw", "line", "(ICCCC)Ljava/lang/String;"⟩ : MethodName)) hown (mvT hZ (hw _ (List.mem_of_getElem? (i := 1) rfl))) (mvT hZ (hw _ (List.mem_of_getElem? (i := 2) rfl))) (mvT hZ (hw _ (List.mem_of_getElem? (i := 3) rfl))) (mvT hZ (hw _ (List.mem_of_getElem? (i := 4) rfl))) (by decide) (backOf (W := 0) (own_rline2 l Z a0 hw [] c29 c30 c31 c32 o_COMPACT_STRINGS h0 n0 Z0 O S_o_COMPACT_STRINGS nz_o_COMPACT_STRINGS hr_c29 hr_c30 hr_c31 hr_c32) hZ (hw _ (List.mem_of_getElem? (i := 4) rfl)) (hw _ (List.mem_of_getElem? (i := 3) rfl)) (by decide) (by decide)) (g := (mkF m 59 #[iv p1, iv p2, iv p3, .val (.long p4), .second, iv (2 : Int32), iv c29, iv c30, iv c31, iv c32, .unset, .unset, .unset, .unset, .unset, .unset] [(.int c32), (.int c31), (.int c30), (.int c29), (.int (2 : Int32))])) rfl (by rw [hml]; rfl) (argsL := [(.int (2 : Int32)), (.int c29), (.int c30), (.int c31), (.int c32)]) (rest := []) (lenOf own_pd__ICCCC_Ljava_lang_String_ rfl) rfl (by show 2 * 0 + _ ≤ _; exact Nat.le_of_eq rfl) (hb hby at_59) (fun _ _ => ⟨rfl, e0, (by decide : 0 + 3 ≤ _), (by decide : 0 + 8 ≤ _)⟩)
        dsimp only [Pt.U, Pt.locs, Pt.cells, Pt.slots] at X33 l33 y33 z33 st33 hQ33
        subst l33 y33 z33
        obtain ⟨b33, t33, kb33, rfl, Nq33, K33, sb33, Ex_b33, Fv33, Fc33, Vt33⟩ := hQ33
        have N33 := Fr.app N0 Nq33
        refine own_goW st33 ?_
        replace Rc := Rc.trans (CHr.keep K33 all0 Rc.1)
        replace hk := Nat.le_trans hk K33.1
        replace O := O.keep K33 all0
        replace Kp := Kp.trans K33 all0
        show own_GoW p e below s _ _ _ _ (T33.setTop (mkF m 62 #[iv p1, iv p2, iv p3, .val (.long p4), .second, iv (2 : Int32), iv c29, iv c30, iv c31, iv c32, .unset, .unset, .unset, .unset, .unset, .unset] [(.ref b33)]))
        refine own_goW (fun zt zk => (XS.astore X33.here hx rfl (hb hby at_62) rfl rfl (l' := #[iv p1, iv p2, iv p3, .val (.long p4), .second, iv (2 : Int32), iv c29, iv c30, iv c31, iv c32, rv b33, .unset, .unset, .unset, .unset, .unset]) rfl zk)) ?_
        show own_GoW p e below s _ _ _ _ (T33.setTop (mkF m 64 #[iv p1, iv p2, iv p3, .val (.long p4), .second, iv (2 : Int32), iv c29, iv c30, iv c31, iv c32, rv b33, .unset, .unset, .unset, .unset, .unset] []))
        obtain ⟨T34, h34, X34, e34, E34, A34, D34, -, st34⟩ := newO X33 hx hZ hown (hw _ (List.mem_of_getElem? (i := 27) rfl)) (hw _ (List.mem_of_getElem? (i := 28) rfl)) (hw _ (List.mem_of_getElem? (i := 29) rfl)) rfl (g := (mkF m 64 #[iv p1, iv p2, iv p3, .val (.long p4), .second, iv (2 : Int32), iv c29, iv c30, iv c31, iv c32, rv b33, .unset, .unset, .unset, .unset, .unset] [])) rfl (hb hby at_64) (by decide) (by decide)
        obtain ⟨b34, g34⟩ : ∃ z, z = T33.heap.size := ⟨_, rfl⟩
        rw [← g34] at A34 D34 st34
        refine own_goW st34 ?_
        have ne_b33_b34 : b33 ≠ b34 := Nat.ne_of_lt (Nat.lt_of_lt_of_le Ex_b33.lt (Nat.le_of_eq g34.symm))
        have ne_t33_b34 : t33 ≠ b34 := Nat.ne_of_lt (Nat.lt_of_lt_of_le Vt33.lt (Nat.le_of_eq g34.symm))
        have sz_b34 : h0.size ≤ b34 := Nat.le_trans Kp.1 (Nat.le_of_eq g34.symm)
        have g_b34 : n0 ≤ b34 := Nat.le_trans Z0 sz_b34
        have Sf_b34 : Safe Z own_EL s.vm T33.heap b34 := Safe.new (Nat.le_of_eq g34.symm)
        replace O := O.ext E34
        replace Kp := Kp.ext E34
        replace Ex_b33 := Ex_b33.ext E34
        replace Fv33 := Fv33.ext E34
        replace Fc33 := Fc33.ext E34
        replace Vt33 := Vt33.ext E34
        replace Sf_b34 := Safe.ext E34 Rc.1 Sf_b34
        replace Rc := Rc.trans (CHr.ext E34 Rc.1)
        replace hk := Nat.le_trans hk E34.1
        have Ex_b34 := A34
        have F_file_b34 : Fld Z h34 b34 "com/example/riskscan/riskscan/io/FixedWidthRecord" "file" "Ljava/lang/String;" .null := D34 (Or.inr (hw _ (List.mem_of_getElem? (i := 36) rfl))) (ty := (.object "java/lang/String")) (by decide)
        have F_line_b34 : Fld Z h34 b34 "com/example/riskscan/riskscan/io/FixedWidthRecord" "line" "J" (.long (0 : Int64)) := D34 (Or.inr (hw _ (List.mem_of_getElem? (i := 38) rfl))) (ty := .long) (by decide)
        have F_text_b34 : Fld Z h34 b34 "com/example/riskscan/riskscan/io/FixedWidthRecord" "text" "Ljava/lang/String;" .null := D34 (Or.inr (hw _ (List.mem_of_getElem? (i := 40) rfl))) (ty := (.object "java/lang/String")) (by decide)
        show own_GoW p e below s _ _ _ _ (T34.setTop (mkF m 67 #[iv p1, iv p2, iv p3, .val (.long p4), .second, iv (2 : Int32), iv c29, iv c30, iv c31, iv c32, rv b33, .unset, .unset, .unset, .unset, .unset] [(.ref b34)]))
        refine own_goW (fun zt zk => (XS.dup X34.here hx rfl (hb hby at_67) rfl rfl zk)) ?_
        show own_GoW p e below s _ _ _ _ (T34.setTop (mkF m 68 #[iv p1, iv p2, iv p3, .val (.long p4), .second, iv (2 : Int32), iv c29, iv c30, iv c31, iv c32, rv b33, .unset, .unset, .unset, .unset, .unset] [(.ref b34), (.ref b34)]))
        obtain ⟨a35, T35, h35, q35, b35, k35, X35, e35, E35, hS35, hk35, hZ35, hown35, Ex_a35, Fc_a35, Fv_a35, Va_b35, lta35, ltb35, A35, Li35, Sn35, st35⟩ := ldcCH X34 hx hZ hown (hw _ (List.mem_of_getElem? (i := 30) rfl)) wS e34 hS hk hEL (by decide +kernel) Rc.1 (vs := [(.int (102 : Int32))]) (z := (1 : Int32)) ⟨by decide +kernel, by decide +kernel⟩ (by decide) rfl (g := (mkF m 68 #[iv p1, iv p2, iv p3, .val (.long p4), .second, iv (2 : Int32), iv c29, iv c30, iv c31, iv c32, rv b33, .unset, .unset, .unset, .unset, .unset] [(.ref b34), (.ref b34)])) rfl (hb hby at_68) (n := 4) (by decide +kernel) (by decide) (by decide) (by decide)
        replace Sf_b34 := CHr.safe A35 Ex_b34.lt Sf_b34
        replace O := O.ext E35
        replace Kp := Kp.ext E35
        replace Ex_b33 := Ex_b33.ext E35
        replace Fv33 := Fv33.ext E35
        replace Fc33 := Fc33.ext E35
        replace Vt33 := Vt33.ext E35
        replace Ex_b34 := Ex_b34.ext E35
        replace F_file_b34 := F_file_b34.ext E35
        replace F_line_b34 := F_line_b34.ext E35
        replace F_text_b34 := F_text_b34.ext E35
        replace Rc := Rc.trans A35
        replace hS := hS35
        replace hk := hk35
        replace hZ := hZ35
        replace hown := hown35
        refine own_goW st35 ?_
        have ne_b34_a35 := (Sn35 b34 Sf_b34).1
        have ne_b34_b35 := (Sn35 b34 Sf_b34).2
        show own_GoW p e below s _ _ _ _ (T35.setTop (mkF m 70 #[iv p1, iv p2, iv p3, .val (.long p4), .second, iv (2 : Int32), iv c29, iv c30, iv c31, iv c32, rv b33, .unset, .unset, .unset, .unset, .unset] [(.ref a35), (.ref b34), (.ref b34)]))
        refine own_goW (fun zt zk => (XS.lloadN X35.here hx rfl (hb hby at_70) rfl (XS.aload X35.here hx rfl (hb hby at_71) rfl rfl zk))) ?_
        show own_GoW p e below s _ _ _ _ (T35.setTop (mkF m 73 #[iv p1, iv p2, iv p3, .val (.long p4), .second, iv (2 : Int32), iv c29, iv c30, iv c31, iv c32, rv b33, .unset, .unset, .unset, .unset, .unset] [(.ref b33), (.long p4), (.ref a35), (.ref b34), (.ref b34)]))
        obtain ⟨_, _, ⟨T36, L36, k36, n36⟩, -, X36, ⟨Lc36, hQ36, l36, y36, z36⟩, st36⟩ := X35.specialBack hx (y := (⟨"com/example/riskscan/riskscan/io/FixedWidthRecord", "<init>", "(Ljava/lang/String;JLjava/lang/String;)V"⟩ : MethodName)) rfl hown (mvT hZ (hw _ (List.mem_of_getElem? (i := 31) rfl))) (mvT hZ (hw _ (List.mem_of_getElem? (i := 32) rfl))) (mvT hZ (hw _ (List.mem_of_getElem? (i := 33) rfl))) (by decide) (backOf (W := 1) (own_rfwr l Z a0 hw [] b34 a35 p4 b33  h35 n0 (Nat.le_trans Z0 Kp.1) Ex_b34 F_file_b34 F_line_b34 F_text_b34 g_b34) hZ (hw _ (List.mem_of_getElem? (i := 33) rfl)) (hw _ (List.mem_of_getElem? (i := 29) rfl)) (by decide) (by decide)) (g := (mkF m 73 #[iv p1, iv p2, iv p3, .val (.long p4), .second, iv (2 : Int32), iv c29, iv c30, iv c31, iv c32, rv b33, .unset, .unset, .unset, .unset, .unset] [(.ref b33), (.long p4), (.ref a35), (.ref b34), (.ref b34)])) rfl (by rw [hml]; rfl) (Steps.refl _) (a := b34) (argsL := [(.ref a35), (.long p4), (.ref b33)]) (rest := [(.ref b34)]) (lenOf own_pd__Ljava_lang_String_JLjava_lang_String__V rfl) rfl (by show 2 * 0 + _ ≤ _; exact Nat.le_of_eq rfl) (hb hby at_73) (fun _ _ => ⟨rfl, e35, (by decide : 6 + 0 ≤ _), (by decide : 19 + 0 ≤ _)⟩)
        dsimp only [Pt.U, Pt.locs, Pt.cells, Pt.slots] at X36 l36 y36 z36 st36 hQ36
        subst l36 y36 z36
        obtain ⟨rfl, Nq36, K36, -, F_file_b34, F_line_b34, F_text_b34⟩ := hQ36
        have N36 := Fr.app N33 Nq36
        refine own_goW (fun zt zk => st36.trans zk) ?_
        have Sf_b34' := Safe.keep K36 (allS Sf_b34 all0) Rc.1 Sf_b34
        replace Rc := Rc.trans (CHr.keep K36 (allS Sf_b34 all0) Rc.1)
        replace hk := Nat.le_trans hk K36.1
        replace Sf_b34 := Sf_b34'
        replace O := O.keep K36 (allS g_b34 all0)
        replace Kp := Kp.trans K36 (allS (Or.inr sz_b34) all0)
        replace Ex_b33 := Ex_b33.keep K36
        replace Fv33 := Fv33.keep K36 (ninS ne_b33_b34 nin0)
        replace Fc33 := Fc33.keep K36 (ninS ne_b33_b34 nin0)
        replace Vt33 := Vt33.keep K36 (ninS ne_t33_b34 nin0)
        replace Ex_b34 := Ex_b34.keep K36
        replace Ex_a35 := Ex_a35.keep K36
        replace Fc_a35 := Fc_a35.keep K36 (ninS (Ne.symm ne_b34_a35) nin0)
        replace Fv_a35 := Fv_a35.keep K36 (ninS (Ne.symm ne_b34_a35) nin0)
        replace Va_b35 := Va_b35.keep K36 (ninS (Ne.symm ne_b34_b35) nin0)
        show own_GoW p e below s _ _ _ _ (T36.setTop (mkF m 76 #[iv p1, iv p2, iv p3, .val (.long p4), .second, iv (2 : Int32), iv c29, iv c30, iv c31, iv c32, rv b33, .unset, .unset, .unset, .unset, .unset] [(.ref b34)]))
        refine own_goW (fun zt zk => (XS.astore X36.here hx rfl (hb hby at_76) rfl rfl (l' := #[iv p1, iv p2, iv p3, .val (.long p4), .second, iv (2 : Int32), iv c29, iv c30, iv c31, iv c32, rv b33, rv b34, .unset, .unset, .unset, .unset]) rfl (XS.aload X36.here hx rfl (hb hby at_78) rfl rfl (XS.iloadN X36.here hx rfl (hb hby at_80) rfl zk)))) ?_
        show own_GoW p e below s _ _ _ _ (T36.setTop (mkF m 81 #[iv p1, iv p2, iv p3, .val (.long p4), .second, iv (2 : Int32), iv c29, iv c30, iv c31, iv c32, rv b33, rv b34, .unset, .unset, .unset, .unset] [(.int p3), (.ref b34)]))
        by_cases hfr : (2 : Int32) < p3
        · obtain ⟨cq37, kq37, qa37, qb37, qc37⟩ := isOf hZ rfl Ex_b34
          obtain ⟨_, _, ⟨T37, L37, k37, n37⟩, -, X37, ⟨Lc37, hQ37, l37, y37, z37⟩, st37⟩ := X36.virtualBack hx (y := (⟨"com/example/riskscan/riskscan/io/FixedWidthRecord", "reaches", "(I)Z"⟩ : MethodName)) (z := (⟨"com/example/riskscan/riskscan/io/FixedWidthRecord", "reaches", "(I)Z"⟩ : MethodName)) hown (mvT hZ (hw _ (List.mem_of_getElem? (i := 41) rfl))) (mvT hZ (hw _ (List.mem_of_getElem? (i := 42) rfl))) (notFace_of_selects (args := #[]) (mvT hZ (hw _ (List.mem_of_getElem? (i := 44) rfl)))) (mvT hZ (hw _ (List.mem_of_getElem? (i := 44) rfl))) (mvT hZ (hw _ (List.mem_of_getElem? (i := 43) rfl))) (by decide) (backOf (W := 0) (own_rre0 l Z a0 hw [] b34 p3 b33 o_COMPACT_STRINGS t33 kb33 (2 : Int32) [(.int (c29.toInt8.toInt32)), (.int (c30.toInt8.toInt32))] T36.heap n0 (Nat.le_trans Z0 Kp.1) O S_o_COMPACT_STRINGS F_text_b34 Ex_b33 Fv33 Fc33 Vt33 nz_o_COMPACT_STRINGS hfr) hZ (hw _ (List.mem_of_getElem? (i := 45) rfl)) (hw _ (List.mem_of_getElem? (i := 29) rfl)) (by decide) (by decide)) qa37 qc37 (g := (mkF m 81 #[iv p1, iv p2, iv p3, .val (.long p4), .second, iv (2 : Int32), iv c29, iv c30, iv c31, iv c32, rv b33, rv b34, .unset, .unset, .unset, .unset] [(.int p3), (.ref b34)])) rfl (by rw [hml]; rfl) (Steps.refl _) (argsL := [(.int p3)]) (rest := []) (lenOf own_pd__I_Z rfl) rfl (by show 2 * 0 + _ ≤ _; exact Nat.le_of_eq rfl) (hb hby at_81) (fun _ _ => ⟨rfl, rfl, (by decide : 6 + 0 ≤ _), (by decide : 19 + 0 ≤ _)⟩)
          dsimp only [Pt.U, Pt.locs, Pt.cells, Pt.slots] at X37 l37 y37 z37 st37 hQ37
          subst l37 y37 z37
          obtain ⟨rfl, Nq37, e37⟩ := hQ37
          have N37 := Fr.app N36 Nq37
          refine own_goW (fun zt zk => st37.trans zk) ?_
          show own_GoW p e below s _ _ _ _ (T37.setTop (mkF m 84 #[iv p1, iv p2, iv p3, .val (.long p4), .second, iv (2 : Int32), iv c29, iv c30, iv c31, iv c32, rv b33, rv b34, .unset, .unset, .unset, .unset] [(.int (0 : Int32))]))
          refine own_goW (fun zt zk => (XS.istore X37.here hx rfl (hb hby at_84) rfl (l' := #[iv p1, iv p2, iv p3, .val (.long p4), .second, iv (2 : Int32), iv c29, iv c30, iv c31, iv c32, rv b33, rv b34, iv (0 : Int32), .unset, .unset, .unset]) rfl (XS.iloadN X37.here hx rfl (hb hby at_86) rfl (XS.iload X37.here hx rfl (hb hby at_87) rfl (XS.icmpYes X37.here hx rfl (pc0 := 89) (pc' := 96) rfl (hb hby at_89) rfl (tlt (hfr : (2 : Int32) < p3)).2.2.1 (by decide) (by decide) (XS.iconst X37.here hx rfl (hb hby at_96) (XS.istore X37.here hx rfl (hb hby at_97) rfl (l' := #[iv p1, iv p2, iv p3, .val (.long p4), .second, iv (2 : Int32), iv c29, iv c30, iv c31, iv c32, rv b33, rv b34, iv (0 : Int32), iv (0 : Int32), .unset, .unset]) rfl (XS.aload X37.here hx rfl (hb hby at_99) rfl rfl (XS.iload X37.here hx rfl (hb hby at_101) rfl zk))))))))) ?_
          show own_GoW p e below s _ _ _ _ (T37.setTop (mkF m 103 #[iv p1, iv p2, iv p3, .val (.long p4), .second, iv (2 : Int32), iv c29, iv c30, iv c31, iv c32, rv b33, rv b34, iv (0 : Int32), iv (0 : Int32), .unset, .unset] [(.int (2 : Int32)), (.ref b34)]))
          obtain ⟨cq38, kq38, qa38, qb38, qc38⟩ := isOf hZ e37 Ex_b34
          obtain ⟨_, _, ⟨T38, L38, k38, n38⟩, -, X38, ⟨Lc38, hQ38, l38, y38, z38⟩, st38⟩ := X37.virtualBack hx (y := (⟨"com/example/riskscan/riskscan/io/FixedWidthRecord", "reaches", "(I)Z"⟩ : MethodName)) (z := (⟨"com/example/riskscan/riskscan/io/FixedWidthRecord", "reaches", "(I)Z"⟩ : MethodName)) hown (mvT hZ (hw _ (List.mem_of_getElem? (i := 41) rfl))) (mvT hZ (hw _ (List.mem_of_getElem? (i := 42) rfl))) (notFace_of_selects (args := #[]) (mvT hZ (hw _ (List.mem_of_getElem? (i := 44) rfl)))) (mvT hZ (hw _ (List.mem_of_getElem? (i := 44) rfl))) (mvT hZ (hw _ (List.mem_of_getElem? (i := 43) rfl))) (by decide) (backOf (W := 0) (own_rre1 l Z a0 hw [] b34 (2 : Int32) b33 o_COMPACT_STRINGS t33 kb33 (2 : Int32) [(.int (c29.toInt8.toInt32)), (.int (c30.toInt8.toInt32))] T36.heap n0 (Nat.le_trans Z0 Kp.1) O S_o_COMPACT_STRINGS F_text_b34 Ex_b33 Fv33 Fc33 Vt33 nz_o_COMPACT_STRINGS (by decide)) hZ (hw _ (List.mem_of_getElem? (i := 45) rfl)) (hw _ (List.mem_of_getElem? (i := 29) rfl)) (by decide) (by decide)) qa38 qc38 (g := (mkF m 103 #[iv p1, iv p2, iv p3, .val (.long p4), .second, iv (2 : Int32), iv c29, iv c30, iv c31, iv c32, rv b33, rv b34, iv (0 : Int32), iv (0 : Int32), .unset, .unset] [(.int (2 : Int32)), (.ref b34)])) rfl (by rw [hml]; rfl) (Steps.refl _) (argsL := [(.int (2 : Int32))]) (rest := []) (lenOf own_pd__I_Z rfl) rfl (by show 2 * 0 + _ ≤ _; exact Nat.le_of_eq rfl) (hb hby at_103) (fun _ _ => ⟨rfl, e37, (by decide : 6 + 0 ≤ _), (by decide : 19 + 0 ≤ _)⟩)
          dsimp only [Pt.U, Pt.locs, Pt.cells, Pt.slots] at X38 l38 y38 z38 st38 hQ38
          subst l38 y38 z38
          obtain ⟨rfl, Nq38, e38⟩ := hQ38
          have N38 := Fr.app N37 Nq38
          refine own_goW (fun zt zk => st38.trans zk) ?_
          show own_GoW p e below s _ _ _ _ (T38.setTop (mkF m 106 #[iv p1, iv p2, iv p3, .val (.long p4), .second, iv (2 : Int32), iv c29, iv c30, iv c31, iv c32, rv b33, rv b34, iv (0 : Int32), iv (0 : Int32), .unset, .unset] [(.int (1 : Int32))]))
          refine own_goW (fun zt zk => (XS.istore X38.here hx rfl (hb hby at_106) rfl (l' := #[iv p1, iv p2, iv p3, .val (.long p4), .second, iv (2 : Int32), iv c29, iv c30, iv c31, iv c32, rv b33, rv b34, iv (0 : Int32), iv (0 : Int32), iv (1 : Int32), .unset]) rfl (XS.aload X38.here hx rfl (hb hby at_108) rfl rfl (XS.iload X38.here hx rfl (hb hby at_110) rfl (XS.iconst X38.here hx rfl (hb hby at_112) (XS.iadd X38.here hx rfl (hb hby at_113) rfl zk)))))) ?_
          show own_GoW p e below s _ _ _ _ (T38.setTop (mkF m 114 #[iv p1, iv p2, iv p3, .val (.long p4), .second, iv (2 : Int32), iv c29, iv c30, iv c31, iv c32, rv b33, rv b34, iv (0 : Int32), iv (0 : Int32), iv (1 : Int32), .unset] [(.int (3 : Int32)), (.ref b34)]))
          obtain ⟨cq39, kq39, qa39, qb39, qc39⟩ := isOf hZ e38 Ex_b34
          obtain ⟨_, _, ⟨T39, L39, k39, n39⟩, -, X39, ⟨Lc39, hQ39, l39, y39, z39⟩, st39⟩ := X38.virtualBack hx (y := (⟨"com/example/riskscan/riskscan/io/FixedWidthRecord", "reaches", "(I)Z"⟩ : MethodName)) (z := (⟨"com/example/riskscan/riskscan/io/FixedWidthRecord", "reaches", "(I)Z"⟩ : MethodName)) hown (mvT hZ (hw _ (List.mem_of_getElem? (i := 41) rfl))) (mvT hZ (hw _ (List.mem_of_getElem? (i := 42) rfl))) (notFace_of_selects (args := #[]) (mvT hZ (hw _ (List.mem_of_getElem? (i := 44) rfl)))) (mvT hZ (hw _ (List.mem_of_getElem? (i := 44) rfl))) (mvT hZ (hw _ (List.mem_of_getElem? (i := 43) rfl))) (by decide) (backOf (W := 0) (own_rre0 l Z a0 hw [] b34 (3 : Int32) b33 o_COMPACT_STRINGS t33 kb33 (2 : Int32) [(.int (c29.toInt8.toInt32)), (.int (c30.toInt8.toInt32))] T36.heap n0 (Nat.le_trans Z0 Kp.1) O S_o_COMPACT_STRINGS F_text_b34 Ex_b33 Fv33 Fc33 Vt33 nz_o_COMPACT_STRINGS (by decide)) hZ (hw _ (List.mem_of_getElem? (i := 45) rfl)) (hw _ (List.mem_of_getElem? (i := 29) rfl)) (by decide) (by decide)) qa39 qc39 (g := (mkF m 114 #[iv p1, iv p2, iv p3, .val (.long p4), .second, iv (2 : Int32), iv c29, iv c30, iv c31, iv c32, rv b33, rv b34, iv (0 : Int32), iv (0 : Int32), iv (1 : Int32), .unset] [(.int (3 : Int32)), (.ref b34)])) rfl (by rw [hml]; rfl) (Steps.refl _) (argsL := [(.int (3 : Int32))]) (rest := []) (lenOf own_pd__I_Z rfl) rfl (by show 2 * 0 + _ ≤ _; exact Nat.le_of_eq rfl) (hb hby at_114) (fun _ _ => ⟨rfl, e38, (by decide : 6 + 0 ≤ _), (by decide : 19 + 0 ≤ _)⟩)
          dsimp only [Pt.U, Pt.locs, Pt.cells, Pt.slots] at X39 l39 y39 z39 st39 hQ39
          subst l39 y39 z39
          obtain ⟨rfl, Nq39, e39⟩ := hQ39
          have N39 := Fr.app N38 Nq39
          refine own_goW (fun zt zk => st39.trans zk) ?_
          show own_GoW p e below s _ _ _ _ (T39.setTop (mkF m 117 #[iv p1, iv p2, iv p3, .val (.long p4), .second, iv (2 : Int32), iv c29, iv c30, iv c31, iv c32, rv b33, rv b34, iv (0 : Int32), iv (0 : Int32), iv (1 : Int32), .unset] [(.int (0 : Int32))]))
          refine own_goW (fun zt zk => (XS.istore X39.here hx rfl (hb hby at_117) rfl (l' := #[iv p1, iv p2, iv p3, .val (.long p4), .second, iv (2 : Int32), iv c29, iv c30, iv c31, iv c32, rv b33, rv b34, iv (0 : Int32), iv (0 : Int32), iv (1 : Int32), iv (0 : Int32)]) rfl (XS.iload X39.here hx rfl (hb hby at_119) rfl (XS.iload X39.here hx rfl (hb hby at_121) rfl (XS.icmpNo X39.here hx rfl (hb hby at_123) rfl (teq (rfl : (0 : Int32) = (0 : Int32))).2 (XS.iload X39.here hx rfl (hb hby at_126) rfl (XS.ifNo X39.here hx rfl (hb hby at_128) rfl ((if0 _ _).trans (feq ((by decide) : ¬ ((1 : Int32) = (0 : Int32)))).1) (XS.iload X39.here hx rfl (hb hby at_131) rfl (XS.ifNo X39.here hx rfl (hb hby at_133) rfl ((if0 _ _).trans (teq (rfl : (0 : Int32) = (0 : Int32))).2) (XS.iconst X39.here hx rfl (hb hby at_136) (XS.goto X39.here hx rfl (pc0 := 137) (pc' := 141) rfl (hb hby at_137) (by decide) (by decide) zk))))))))))) ?_
          show own_GoW p e below s _ _ _ _ (T39.setTop (mkF m 141 #[iv p1, iv p2, iv p3, .val (.long p4), .second, iv (2 : Int32), iv c29, iv c30, iv c31, iv c32, rv b33, rv b34, iv (0 : Int32), iv (0 : Int32), iv (1 : Int32), iv (0 : Int32)] [(.int (1 : Int32))]))
          have Re := Rc.trans (CHv.at X39 hZ hEL Rc.1)
          exact own_finW X39 hS (by rw [e39]; exact hk) (by rw [e39, hh]; exact Re) Bd.notSynchronized (fun h => by rw [Bd.returns] at h; cases h) (fun fs hr => retN X39 hx (t := .boolean) Bd.returns (by simp) (hb hby at_141) hr) (by rw [e39]; exact ⟨rfl, N39⟩) (by decide) (by decide)
        · obtain ⟨cq40, kq40, qa40, qb40, qc40⟩ := isOf hZ rfl Ex_b34
          obtain ⟨_, _, ⟨T40, L40, k40, n40⟩, -, X40, ⟨Lc40, hQ40, l40, y40, z40⟩, st40⟩ := X36.virtualBack hx (y := (⟨"com/example/riskscan/riskscan/io/FixedWidthRecord", "reaches", "(I)Z"⟩ : MethodName)) (z := (⟨"com/example/riskscan/riskscan/io/FixedWidthRecord", "reaches", "(I)Z"⟩ : MethodName)) hown (mvT hZ (hw _ (List.mem_of_getElem? (i := 41) rfl))) (mvT hZ (hw _ (List.mem_of_getElem? (i := 42) rfl))) (notFace_of_selects (args := #[]) (mvT hZ (hw _ (List.mem_of_getElem? (i := 44) rfl)))) (mvT hZ (hw _ (List.mem_of_getElem? (i := 44) rfl))) (mvT hZ (hw _ (List.mem_of_getElem? (i := 43) rfl))) (by decide) (backOf (W := 0) (own_rre1 l Z a0 hw [] b34 p3 b33 o_COMPACT_STRINGS t33 kb33 (2 : Int32) [(.int (c29.toInt8.toInt32)), (.int (c30.toInt8.toInt32))] T36.heap n0 (Nat.le_trans Z0 Kp.1) O S_o_COMPACT_STRINGS F_text_b34 Ex_b33 Fv33 Fc33 Vt33 nz_o_COMPACT_STRINGS hfr) hZ (hw _ (List.mem_of_getElem? (i := 45) rfl)) (hw _ (List.mem_of_getElem? (i := 29) rfl)) (by decide) (by decide)) qa40 qc40 (g := (mkF m 81 #[iv p1, iv p2, iv p3, .val (.long p4), .second, iv (2 : Int32), iv c29, iv c30, iv c31, iv c32, rv b33, rv b34, .unset, .unset, .unset, .unset] [(.int p3), (.ref b34)])) rfl (by rw [hml]; rfl) (Steps.refl _) (argsL := [(.int p3)]) (rest := []) (lenOf own_pd__I_Z rfl) rfl (by show 2 * 0 + _ ≤ _; exact Nat.le_of_eq rfl) (hb hby at_81) (fun _ _ => ⟨rfl, rfl, (by decide : 6 + 0 ≤ _), (by decide : 19 + 0 ≤ _)⟩)
          dsimp only [Pt.U, Pt.locs, Pt.cells, Pt.slots] at X40 l40 y40 z40 st40 hQ40
          subst l40 y40 z40
          obtain ⟨rfl, Nq40, e40⟩ := hQ40
          have N40 := Fr.app N36 Nq40
          refine own_goW (fun zt zk => st40.trans zk) ?_
          show own_GoW p e below s _ _ _ _ (T40.setTop (mkF m 84 #[iv p1, iv p2, iv p3, .val (.long p4), .second, iv (2 : Int32), iv c29, iv c30, iv c31, iv c32, rv b33, rv b34, .unset, .unset, .unset, .unset] [(.int (1 : Int32))]))
          refine own_goW (fun zt zk => (XS.istore X40.here hx rfl (hb hby at_84) rfl (l' := #[iv p1, iv p2, iv p3, .val (.long p4), .second, iv (2 : Int32), iv c29, iv c30, iv c31, iv c32, rv b33, rv b34, iv (1 : Int32), .unset, .unset, .unset]) rfl (XS.iloadN X40.here hx rfl (hb hby at_86) rfl (XS.iload X40.here hx rfl (hb hby at_87) rfl (XS.icmpNo X40.here hx rfl (hb hby at_89) rfl (flt (hfr : ¬ ((2 : Int32) < p3))).2.2.1 (XS.iconst X40.here hx rfl (hb hby at_92) (XS.goto X40.here hx rfl (pc0 := 93) (pc' := 97) rfl (hb hby at_93) (by decide) (by decide) (XS.istore X40.here hx rfl (hb hby at_97) rfl (l' := #[iv p1, iv p2, iv p3, .val (.long p4), .second, iv (2 : Int32), iv c29, iv c30, iv c31, iv c32, rv b33, rv b34, iv (1 : Int32), iv (1 : Int32), .unset, .unset]) rfl (XS.aload X40.here hx rfl (hb hby at_99) rfl rfl (XS.iload X40.here hx rfl (hb hby at_101) rfl zk)))))))))) ?_
          show own_GoW p e below s _ _ _ _ (T40.setTop (mkF m 103 #[iv p1, iv p2, iv p3, .val (.long p4), .second, iv (2 : Int32), iv c29, iv c30, iv c31, iv c32, rv b33, rv b34, iv (1 : Int32), iv (1 : Int32), .unset, .unset] [(.int (2 : Int32)), (.ref b34)]))
          obtain ⟨cq41, kq41, qa41, qb41, qc41⟩ := isOf hZ e40 Ex_b34
          obtain ⟨_, _, ⟨T41, L41, k41, n41⟩, -, X41, ⟨Lc41, hQ41, l41, y41, z41⟩, st41⟩ := X40.virtualBack hx (y := (⟨"com/example/riskscan/riskscan/io/FixedWidthRecord", "reaches", "(I)Z"⟩ : MethodName)) (z := (⟨"com/example/riskscan/riskscan/io/FixedWidthRecord", "reaches", "(I)Z"⟩ : MethodName)) hown (mvT hZ (hw _ (List.mem_of_getElem? (i := 41) rfl))) (mvT hZ (hw _ (List.mem_of_getElem? (i := 42) rfl))) (notFace_of_selects (args := #[]) (mvT hZ (hw _ (List.mem_of_getElem? (i := 44) rfl)))) (mvT hZ (hw _ (List.mem_of_getElem? (i := 44) rfl))) (mvT hZ (hw _ (List.mem_of_getElem? (i := 43) rfl))) (by decide) (backOf (W := 0) (own_rre1 l Z a0 hw [] b34 (2 : Int32) b33 o_COMPACT_STRINGS t33 kb33 (2 : Int32) [(.int (c29.toInt8.toInt32)), (.int (c30.toInt8.toInt32))] T36.heap n0 (Nat.le_trans Z0 Kp.1) O S_o_COMPACT_STRINGS F_text_b34 Ex_b33 Fv33 Fc33 Vt33 nz_o_COMPACT_STRINGS (by decide)) hZ (hw _ (List.mem_of_getElem? (i := 45) rfl)) (hw _ (List.mem_of_getElem? (i := 29) rfl)) (by decide) (by decide)) qa41 qc41 (g := (mkF m 103 #[iv p1, iv p2, iv p3, .val (.long p4), .second, iv (2 : Int32), iv c29, iv c30, iv c31, iv c32, rv b33, rv b34, iv (1 : Int32), iv (1 : Int32), .unset, .unset] [(.int (2 : Int32)), (.ref b34)])) rfl (by rw [hml]; rfl) (Steps.refl _) (argsL := [(.int (2 : Int32))]) (rest := []) (lenOf own_pd__I_Z rfl) rfl (by show 2 * 0 + _ ≤ _; exact Nat.le_of_eq rfl) (hb hby at_103) (fun _ _ => ⟨rfl, e40, (by decide : 6 + 0 ≤ _), (by decide : 19 + 0 ≤ _)⟩)
          dsimp only [Pt.U, Pt.locs, Pt.cells, Pt.slots] at X41 l41 y41 z41 st41 hQ41
          subst l41 y41 z41
          obtain ⟨rfl, Nq41, e41⟩ := hQ41
          have N41 := Fr.app N40 Nq41
          refine own_goW (fun zt zk => st41.trans zk) ?_
          show own_GoW p e below s _ _ _ _ (T41.setTop (mkF m 106 #[iv p1, iv p2, iv p3, .val (.long p4), .second, iv (2 : Int32), iv c29, iv c30, iv c31, iv c32, rv b33, rv b34, iv (1 : Int32), iv (1 : Int32), .unset, .unset] [(.int (1 : Int32))]))
          refine own_goW (fun zt zk => (XS.istore X41.here hx rfl (hb hby at_106) rfl (l' := #[iv p1, iv p2, iv p3, .val (.long p4), .second, iv (2 : Int32), iv c29, iv c30, iv c31, iv c32, rv b33, rv b34, iv (1 : Int32), iv (1 : Int32), iv (1 : Int32), .unset]) rfl (XS.aload X41.here hx rfl (hb hby at_108) rfl rfl (XS.iload X41.here hx rfl (hb hby at_110) rfl (XS.iconst X41.here hx rfl (hb hby at_112) (XS.iadd X41.here hx rfl (hb hby at_113) rfl zk)))))) ?_
          show own_GoW p e below s _ _ _ _ (T41.setTop (mkF m 114 #[iv p1, iv p2, iv p3, .val (.long p4), .second, iv (2 : Int32), iv c29, iv c30, iv c31, iv c32, rv b33, rv b34, iv (1 : Int32), iv (1 : Int32), iv (1 : Int32), .unset] [(.int (3 : Int32)), (.ref b34)]))
          obtain ⟨cq42, kq42, qa42, qb42, qc42⟩ := isOf hZ e41 Ex_b34
          obtain ⟨_, _, ⟨T42, L42, k42, n42⟩, -, X42, ⟨Lc42, hQ42, l42, y42, z42⟩, st42⟩ := X41.virtualBack hx (y := (⟨"com/example/riskscan/riskscan/io/FixedWidthRecord", "reaches", "(I)Z"⟩ : MethodName)) (z := (⟨"com/example/riskscan/riskscan/io/FixedWidthRecord", "reaches", "(I)Z"⟩ : MethodName)) hown (mvT hZ (hw _ (List.mem_of_getElem? (i := 41) rfl))) (mvT hZ (hw _ (List.mem_of_getElem? (i := 42) rfl))) (notFace_of_selects (args := #[]) (mvT hZ (hw _ (List.mem_of_getElem? (i := 44) rfl)))) (mvT hZ (hw _ (List.mem_of_getElem? (i := 44) rfl))) (mvT hZ (hw _ (List.mem_of_getElem? (i := 43) rfl))) (by decide) (backOf (W := 0) (own_rre0 l Z a0 hw [] b34 (3 : Int32) b33 o_COMPACT_STRINGS t33 kb33 (2 : Int32) [(.int (c29.toInt8.toInt32)), (.int (c30.toInt8.toInt32))] T36.heap n0 (Nat.le_trans Z0 Kp.1) O S_o_COMPACT_STRINGS F_text_b34 Ex_b33 Fv33 Fc33 Vt33 nz_o_COMPACT_STRINGS (by decide)) hZ (hw _ (List.mem_of_getElem? (i := 45) rfl)) (hw _ (List.mem_of_getElem? (i := 29) rfl)) (by decide) (by decide)) qa42 qc42 (g := (mkF m 114 #[iv p1, iv p2, iv p3, .val (.long p4), .second, iv (2 : Int32), iv c29, iv c30, iv c31, iv c32, rv b33, rv b34, iv (1 : Int32), iv (1 : Int32), iv (1 : Int32), .unset] [(.int (3 : Int32)), (.ref b34)])) rfl (by rw [hml]; rfl) (Steps.refl _) (argsL := [(.int (3 : Int32))]) (rest := []) (lenOf own_pd__I_Z rfl) rfl (by show 2 * 0 + _ ≤ _; exact Nat.le_of_eq rfl) (hb hby at_114) (fun _ _ => ⟨rfl, e41, (by decide : 6 + 0 ≤ _), (by decide : 19 + 0 ≤ _)⟩)
          dsimp only [Pt.U, Pt.locs, Pt.cells, Pt.slots] at X42 l42 y42 z42 st42 hQ42
          subst l42 y42 z42
          obtain ⟨rfl, Nq42, e42⟩ := hQ42
          have N42 := Fr.app N41 Nq42
          refine own_goW (fun zt zk => st42.trans zk) ?_
          show own_GoW p e below s _ _ _ _ (T42.setTop (mkF m 117 #[iv p1, iv p2, iv p3, .val (.long p4), .second, iv (2 : Int32), iv c29, iv c30, iv c31, iv c32, rv b33, rv b34, iv (1 : Int32), iv (1 : Int32), iv (1 : Int32), .unset] [(.int (0 : Int32))]))
          refine own_goW (fun zt zk => (XS.istore X42.here hx rfl (hb hby at_117) rfl (l' := #[iv p1, iv p2, iv p3, .val (.long p4), .second, iv (2 : Int32), iv c29, iv c30, iv c31, iv c32, rv b33, rv b34, iv (1 : Int32), iv (1 : Int32), iv (1 : Int32), iv (0 : Int32)]) rfl (XS.iload X42.here hx rfl (hb hby at_119) rfl (XS.iload X42.here hx rfl (hb hby at_121) rfl (XS.icmpNo X42.here hx rfl (hb hby at_123) rfl (teq (rfl : (1 : Int32) = (1 : Int32))).2 (XS.iload X42.here hx rfl (hb hby at_126) rfl (XS.ifNo X42.here hx rfl (hb hby at_128) rfl ((if0 _ _).trans (feq ((by decide) : ¬ ((1 : Int32) = (0 : Int32)))).1) (XS.iload X42.here hx rfl (hb hby at_131) rfl (XS.ifNo X42.here hx rfl (hb hby at_133) rfl ((if0 _ _).trans (teq (rfl : (0 : Int32) = (0 : Int32))).2) (XS.iconst X42.here hx rfl (hb hby at_136) (XS.goto X42.here hx rfl (pc0 := 137) (pc' := 141) rfl (hb hby at_137) (by decide) (by decide) zk))))))))))) ?_
          show own_GoW p e below s _ _ _ _ (T42.setTop (mkF m 141 #[iv p1, iv p2, iv p3, .val (.long p4), .second, iv (2 : Int32), iv c29, iv c30, iv c31, iv c32, rv b33, rv b34, iv (1 : Int32), iv (1 : Int32), iv (1 : Int32), iv (0 : Int32)] [(.int (1 : Int32))]))
          have Re := Rc.trans (CHv.at X42 hZ hEL Rc.1)
          exact own_finW X42 hS (by rw [e42]; exact hk) (by rw [e42, hh]; exact Re) Bd.notSynchronized (fun h => by rw [Bd.returns] at h; cases h) (fun fs hr => retN X42 hx (t := .boolean) Bd.returns (by simp) (hb hby at_141) hr) (by rw [e42]; exact ⟨rfl, N42⟩) (by decide) (by decide)
      · by_cases hk3_k : k = (3 : Int32)
        · subst hk3_k
          show own_GoW p e below s _ _ _ _ (s₁.setTop (mkF m 8 #[iv p1, iv p2, iv p3, .val (.long p4), .second, iv (3 : Int32), .unset, .unset, .unset, .unset, .unset, .unset, .unset, .unset, .unset, .unset] []))
          refine own_goW (fun zt zk => (XS.iloadN X0.here hx rfl (hb hby at_8) rfl (XS.sipush X0.here hx rfl (hb hby at_9) (XS.iand X0.here hx rfl (hb hby at_12) rfl (XS.i2c X0.here hx rfl (hb hby at_13) rfl zk))))) ?_
          show own_GoW p e below s _ _ _ _ (s₁.setTop (mkF m 14 #[iv p1, iv p2, iv p3, .val (.long p4), .second, iv (3 : Int32), .unset, .unset, .unset, .unset, .unset, .unset, .unset, .unset, .unset, .unset] [(.int ((p2 &&& (255 : Int32)).toUInt32.toUInt16.toUInt32.toInt32))]))
          rw [i2c_mask]
          generalize hv_c43 : (p2 &&& (255 : Int32)) = c43
          have hr_c43 := own_r255 hv_c43
          show own_GoW p e below s _ _ _ _ (s₁.setTop (mkF m 14 #[iv p1, iv p2, iv p3, .val (.long p4), .second, iv (3 : Int32), .unset, .unset, .unset, .unset, .unset, .unset, .unset, .unset, .unset, .unset] [(.int c43)]))
          refine own_goW (fun zt zk => (XS.istore X0.here hx rfl (hb hby at_14) rfl (l' := #[iv p1, iv p2, iv p3, .val (.long p4), .second, iv (3 : Int32), iv c43, .unset, .unset, .unset, .unset, .unset, .unset, .unset, .unset, .unset]) rfl (XS.iloadN X0.here hx rfl (hb hby at_16) rfl (XS.bipush X0.here hx rfl (hb hby at_17) (XS.iushr X0.here hx rfl (hb hby at_19) rfl (XS.sipush X0.here hx rfl (hb hby at_20) (XS.iand X0.here hx rfl (hb hby at_23) rfl (XS.i2c X0.here hx rfl (hb hby at_24) rfl zk)))))))) ?_
          show own_GoW p e below s _ _ _ _ (s₁.setTop (mkF m 25 #[iv p1, iv p2, iv p3, .val (.long p4), .second, iv (3 : Int32), iv c43, .unset, .unset, .unset, .unset, .unset, .unset, .unset, .unset, .unset] [(.int ((((p2.toUInt32 >>> ((8 : Int32) &&& 31).toUInt32).toInt32) &&& (255 : Int32)).toUInt32.toUInt16.toUInt32.toInt32))]))
          rw [i2c_mask]
          generalize hv_c44 : (((p2.toUInt32 >>> ((8 : Int32) &&& 31).toUInt32).toInt32) &&& (255 : Int32)) = c44
          have hr_c44 := own_r255 hv_c44
          show own_GoW p e below s _ _ _ _ (s₁.setTop (mkF m 25 #[iv p1, iv p2, iv p3, .val (.long p4), .second, iv (3 : Int32), iv c43, .unset, .unset, .unset, .unset, .unset, .unset, .unset, .unset, .unset] [(.int c44)]))
          refine own_goW (fun zt zk => (XS.istore X0.here hx rfl (hb hby at_25) rfl (l' := #[iv p1, iv p2, iv p3, .val (.long p4), .second, iv (3 : Int32), iv c43, iv c44, .unset, .unset, .unset, .unset, .unset, .unset, .unset, .unset]) rfl (XS.iloadN X0.here hx rfl (hb hby at_27) rfl (XS.bipush X0.here hx rfl (hb hby at_28) (XS.iushr X0.here hx rfl (hb hby at_30) rfl (XS.sipush X0.here hx rfl (hb hby at_31) (XS.iand X0.here hx rfl (hb hby at_34) rfl (XS.i2c X0.here hx rfl (hb hby at_35) rfl zk)))))))) ?_
          show own_GoW p e below s _ _ _ _ (s₁.setTop (mkF m 36 #[iv p1, iv p2, iv p3, .val (.long p4), .second, iv (3 : Int32), iv c43, iv c44, .unset, .unset, .unset, .unset, .unset, .unset, .unset, .unset] [(.int ((((p2.toUInt32 >>> ((16 : Int32) &&& 31).toUInt32).toInt32) &&& (255 : Int32)).toUInt32.toUInt16.toUInt32.toInt32))]))
          rw [i2c_mask]
          generalize hv_c45 : (((p2.toUInt32 >>> ((16 : Int32) &&& 31).toUInt32).toInt32) &&& (255 : Int32)) = c45
          have hr_c45 := own_r255 hv_c45
          show own_GoW p e below s _ _ _ _ (s₁.setTop (mkF m 36 #[iv p1, iv p2, iv p3, .val (.long p4), .second, iv (3 : Int32), iv c43, iv c44, .unset, .unset, .unset, .unset, .unset, .unset, .unset, .unset] [(.int c45)]))
          refine own_goW (fun zt zk => (XS.istore X0.here hx rfl (hb hby at_36) rfl (l' := #[iv p1, iv p2, iv p3, .val (.long p4), .second, iv (3 : Int32), iv c43, iv c44, iv c45, .unset, .unset, .unset, .unset, .unset, .unset, .unset]) rfl (XS.iloadN X0.here hx rfl (hb hby at_38) rfl (XS.bipush X0.here hx rfl (hb hby at_39) (XS.iushr X0.here hx rfl (hb hby at_41) rfl (XS.sipush X0.here hx rfl (hb hby at_42) (XS.iand X0.here hx rfl (hb hby at_45) rfl (XS.i2c X0.here hx rfl (hb hby at_46) rfl zk)))))))) ?_
          show own_GoW p e below s _ _ _ _ (s₁.setTop (mkF m 47 #[iv p1, iv p2, iv p3, .val (.long p4), .second, iv (3 : Int32), iv c43, iv c44, iv c45, .unset, .unset, .unset, .unset, .unset, .unset, .unset] [(.int ((((p2.toUInt32 >>> ((24 : Int32) &&& 31).toUInt32).toInt32) &&& (255 : Int32)).toUInt32.toUInt16.toUInt32.toInt32))]))
          rw [i2c_mask]
          generalize hv_c46 : (((p2.toUInt32 >>> ((24 : Int32) &&& 31).toUInt32).toInt32) &&& (255 : Int32)) = c46
          have hr_c46 := own_r255 hv_c46
          show own_GoW p e below s _ _ _ _ (s₁.setTop (mkF m 47 #[iv p1, iv p2, iv p3, .val (.long p4), .second, iv (3 : Int32), iv c43, iv c44, iv c45, .unset, .unset, .unset, .unset, .unset, .unset, .unset] [(.int c46)]))
          refine own_goW (fun zt zk => (XS.istore X0.here hx rfl (hb hby at_47) rfl (l' := #[iv p1, iv p2, iv p3, .val (.long p4), .second, iv (3 : Int32), iv c43, iv c44, iv c45, iv c46, .unset, .unset, .unset, .unset, .unset, .unset]) rfl (XS.iload X0.here hx rfl (hb hby at_49) rfl (XS.iload X0.here hx rfl (hb hby at_51) rfl (XS.iload X0.here hx rfl (hb hby at_53) rfl (XS.iload X0.here hx rfl (hb hby at_55) rfl (XS.iload X0.here hx rfl (hb hby at_57) rfl zk))))))) ?_
          show own_GoW p e below s _ _ _ _ (s₁.setTop (mkF m 59 #[iv p1, iv p2, iv p3, .val (.long p4), .second, iv (3 : Int32), iv c43, iv c44, iv c45, iv c46, .unset, .unset, .unset, .unset, .unset, .unset] [(.int c46), (.int c45), (.int c44), (.int c43), (.int (3 : Int32))]))
          obtain ⟨_, _, ⟨T47, L47, k47, n47⟩, -, X47, ⟨Lc47, hQ47, l47, y47, z47⟩, st47⟩ := Jvm.LawKit.callS X0 hx (y := (⟨"com/example/riskscan/riskscan/io/FixedWidthRecordReachesPinLaw", "line", "(ICCCC)Ljava/lang/String;"⟩ : MethodName)) hown (mvT hZ (hw _ (List.mem_of_getElem? (i := 1) rfl))) (mvT hZ (hw _ (List.mem_of_getElem? (i := 2) rfl))) (mvT hZ (hw _ (List.mem_of_getElem? (i := 3) rfl))) (mvT hZ (hw _ (List.mem_of_getElem? (i := 4) rfl))) (by decide) (backOf (W := 0) (own_rline3 l Z a0 hw [] c43 c44 c45 c46 o_COMPACT_STRINGS h0 n0 Z0 O S_o_COMPACT_STRINGS nz_o_COMPACT_STRINGS hr_c43 hr_c44 hr_c45 hr_c46) hZ (hw _ (List.mem_of_getElem? (i := 4) rfl)) (hw _ (List.mem_of_getElem? (i := 3) rfl)) (by decide) (by decide)) (g := (mkF m 59 #[iv p1, iv p2, iv p3, .val (.long p4), .second, iv (3 : Int32), iv c43, iv c44, iv c45, iv c46, .unset, .unset, .unset, .unset, .unset, .unset] [(.int c46), (.int c45), (.int c44), (.int c43), (.int (3 : Int32))])) rfl (by rw [hml]; rfl) (argsL := [(.int (3 : Int32)), (.int c43), (.int c44), (.int c45), (.int c46)]) (rest := []) (lenOf own_pd__ICCCC_Ljava_lang_String_ rfl) rfl (by show 2 * 0 + _ ≤ _; exact Nat.le_of_eq rfl) (hb hby at_59) (fun _ _ => ⟨rfl, e0, (by decide : 0 + 3 ≤ _), (by decide : 0 + 10 ≤ _)⟩)
          dsimp only [Pt.U, Pt.locs, Pt.cells, Pt.slots] at X47 l47 y47 z47 st47 hQ47
          subst l47 y47 z47
          obtain ⟨b47, t47, kb47, rfl, Nq47, K47, sb47, Ex_b47, Fv47, Fc47, Vt47⟩ := hQ47
          have N47 := Fr.app N0 Nq47
          refine own_goW st47 ?_
          replace Rc := Rc.trans (CHr.keep K47 all0 Rc.1)
          replace hk := Nat.le_trans hk K47.1
          replace O := O.keep K47 all0
          replace Kp := Kp.trans K47 all0
          show own_GoW p e below s _ _ _ _ (T47.setTop (mkF m 62 #[iv p1, iv p2, iv p3, .val (.long p4), .second, iv (3 : Int32), iv c43, iv c44, iv c45, iv c46, .unset, .unset, .unset, .unset, .unset, .unset] [(.ref b47)]))
          refine own_goW (fun zt zk => (XS.astore X47.here hx rfl (hb hby at_62) rfl rfl (l' := #[iv p1, iv p2, iv p3, .val (.long p4), .second, iv (3 : Int32), iv c43, iv c44, iv c45, iv c46, rv b47, .unset, .unset, .unset, .unset, .unset]) rfl zk)) ?_
          show own_GoW p e below s _ _ _ _ (T47.setTop (mkF m 64 #[iv p1, iv p2, iv p3, .val (.long p4), .second, iv (3 : Int32), iv c43, iv c44, iv c45, iv c46, rv b47, .unset, .unset, .unset, .unset, .unset] []))
          obtain ⟨T48, h48, X48, e48, E48, A48, D48, -, st48⟩ := newO X47 hx hZ hown (hw _ (List.mem_of_getElem? (i := 27) rfl)) (hw _ (List.mem_of_getElem? (i := 28) rfl)) (hw _ (List.mem_of_getElem? (i := 29) rfl)) rfl (g := (mkF m 64 #[iv p1, iv p2, iv p3, .val (.long p4), .second, iv (3 : Int32), iv c43, iv c44, iv c45, iv c46, rv b47, .unset, .unset, .unset, .unset, .unset] [])) rfl (hb hby at_64) (by decide) (by decide)
          obtain ⟨b48, g48⟩ : ∃ z, z = T47.heap.size := ⟨_, rfl⟩
          rw [← g48] at A48 D48 st48
          refine own_goW st48 ?_
          have ne_b47_b48 : b47 ≠ b48 := Nat.ne_of_lt (Nat.lt_of_lt_of_le Ex_b47.lt (Nat.le_of_eq g48.symm))
          have ne_t47_b48 : t47 ≠ b48 := Nat.ne_of_lt (Nat.lt_of_lt_of_le Vt47.lt (Nat.le_of_eq g48.symm))
          have sz_b48 : h0.size ≤ b48 := Nat.le_trans Kp.1 (Nat.le_of_eq g48.symm)
          have g_b48 : n0 ≤ b48 := Nat.le_trans Z0 sz_b48
          have Sf_b48 : Safe Z own_EL s.vm T47.heap b48 := Safe.new (Nat.le_of_eq g48.symm)
          replace O := O.ext E48
          replace Kp := Kp.ext E48
          replace Ex_b47 := Ex_b47.ext E48
          replace Fv47 := Fv47.ext E48
          replace Fc47 := Fc47.ext E48
          replace Vt47 := Vt47.ext E48
          replace Sf_b48 := Safe.ext E48 Rc.1 Sf_b48
          replace Rc := Rc.trans (CHr.ext E48 Rc.1)
          replace hk := Nat.le_trans hk E48.1
          have Ex_b48 := A48
          have F_file_b48 : Fld Z h48 b48 "com/example/riskscan/riskscan/io/FixedWidthRecord" "file" "Ljava/lang/String;" .null := D48 (Or.inr (hw _ (List.mem_of_getElem? (i := 36) rfl))) (ty := (.object "java/lang/String")) (by decide)
          have F_line_b48 : Fld Z h48 b48 "com/example/riskscan/riskscan/io/FixedWidthRecord" "line" "J" (.long (0 : Int64)) := D48 (Or.inr (hw _ (List.mem_of_getElem? (i := 38) rfl))) (ty := .long) (by decide)
          have F_text_b48 : Fld Z h48 b48 "com/example/riskscan/riskscan/io/FixedWidthRecord" "text" "Ljava/lang/String;" .null := D48 (Or.inr (hw _ (List.mem_of_getElem? (i := 40) rfl))) (ty := (.object "java/lang/String")) (by decide)
          show own_GoW p e below s _ _ _ _ (T48.setTop (mkF m 67 #[iv p1, iv p2, iv p3, .val (.long p4), .second, iv (3 : Int32), iv c43, iv c44, iv c45, iv c46, rv b47, .unset, .unset, .unset, .unset, .unset] [(.ref b48)]))
          refine own_goW (fun zt zk => (XS.dup X48.here hx rfl (hb hby at_67) rfl rfl zk)) ?_
          show own_GoW p e below s _ _ _ _ (T48.setTop (mkF m 68 #[iv p1, iv p2, iv p3, .val (.long p4), .second, iv (3 : Int32), iv c43, iv c44, iv c45, iv c46, rv b47, .unset, .unset, .unset, .unset, .unset] [(.ref b48), (.ref b48)]))
          obtain ⟨a49, T49, h49, q49, b49, k49, X49, e49, E49, hS49, hk49, hZ49, hown49, Ex_a49, Fc_a49, Fv_a49, Va_b49, lta49, ltb49, A49, Li49, Sn49, st49⟩ := ldcCH X48 hx hZ hown (hw _ (List.mem_of_getElem? (i := 30) rfl)) wS e48 hS hk hEL (by decide +kernel) Rc.1 (vs := [(.int (102 : Int32))]) (z := (1 : Int32)) ⟨by decide +kernel, by decide +kernel⟩ (by decide) rfl (g := (mkF m 68 #[iv p1, iv p2, iv p3, .val (.long p4), .second, iv (3 : Int32), iv c43, iv c44, iv c45, iv c46, rv b47, .unset, .unset, .unset, .unset, .unset] [(.ref b48), (.ref b48)])) rfl (hb hby at_68) (n := 4) (by decide +kernel) (by decide) (by decide) (by decide)
          replace Sf_b48 := CHr.safe A49 Ex_b48.lt Sf_b48
          replace O := O.ext E49
          replace Kp := Kp.ext E49
          replace Ex_b47 := Ex_b47.ext E49
          replace Fv47 := Fv47.ext E49
          replace Fc47 := Fc47.ext E49
          replace Vt47 := Vt47.ext E49
          replace Ex_b48 := Ex_b48.ext E49
          replace F_file_b48 := F_file_b48.ext E49
          replace F_line_b48 := F_line_b48.ext E49
          replace F_text_b48 := F_text_b48.ext E49
          replace Rc := Rc.trans A49
          replace hS := hS49
          replace hk := hk49
          replace hZ := hZ49
          replace hown := hown49
          refine own_goW st49 ?_
          have ne_b48_a49 := (Sn49 b48 Sf_b48).1
          have ne_b48_b49 := (Sn49 b48 Sf_b48).2
          show own_GoW p e below s _ _ _ _ (T49.setTop (mkF m 70 #[iv p1, iv p2, iv p3, .val (.long p4), .second, iv (3 : Int32), iv c43, iv c44, iv c45, iv c46, rv b47, .unset, .unset, .unset, .unset, .unset] [(.ref a49), (.ref b48), (.ref b48)]))
          refine own_goW (fun zt zk => (XS.lloadN X49.here hx rfl (hb hby at_70) rfl (XS.aload X49.here hx rfl (hb hby at_71) rfl rfl zk))) ?_
          show own_GoW p e below s _ _ _ _ (T49.setTop (mkF m 73 #[iv p1, iv p2, iv p3, .val (.long p4), .second, iv (3 : Int32), iv c43, iv c44, iv c45, iv c46, rv b47, .unset, .unset, .unset, .unset, .unset] [(.ref b47), (.long p4), (.ref a49), (.ref b48), (.ref b48)]))
          obtain ⟨_, _, ⟨T50, L50, k50, n50⟩, -, X50, ⟨Lc50, hQ50, l50, y50, z50⟩, st50⟩ := X49.specialBack hx (y := (⟨"com/example/riskscan/riskscan/io/FixedWidthRecord", "<init>", "(Ljava/lang/String;JLjava/lang/String;)V"⟩ : MethodName)) rfl hown (mvT hZ (hw _ (List.mem_of_getElem? (i := 31) rfl))) (mvT hZ (hw _ (List.mem_of_getElem? (i := 32) rfl))) (mvT hZ (hw _ (List.mem_of_getElem? (i := 33) rfl))) (by decide) (backOf (W := 1) (own_rfwr l Z a0 hw [] b48 a49 p4 b47  h49 n0 (Nat.le_trans Z0 Kp.1) Ex_b48 F_file_b48 F_line_b48 F_text_b48 g_b48) hZ (hw _ (List.mem_of_getElem? (i := 33) rfl)) (hw _ (List.mem_of_getElem? (i := 29) rfl)) (by decide) (by decide)) (g := (mkF m 73 #[iv p1, iv p2, iv p3, .val (.long p4), .second, iv (3 : Int32), iv c43, iv c44, iv c45, iv c46, rv b47, .unset, .unset, .unset, .unset, .unset] [(.ref b47), (.long p4), (.ref a49), (.ref b48), (.ref b48)])) rfl (by rw [hml]; rfl) (Steps.refl _) (a := b48) (argsL := [(.ref a49), (.long p4), (.ref b47)]) (rest := [(.ref b48)]) (lenOf own_pd__Ljava_lang_String_JLjava_lang_String__V rfl) rfl (by show 2 * 0 + _ ≤ _; exact Nat.le_of_eq rfl) (hb hby at_73) (fun _ _ => ⟨rfl, e49, (by decide : 6 + 0 ≤ _), (by decide : 21 + 0 ≤ _)⟩)
          dsimp only [Pt.U, Pt.locs, Pt.cells, Pt.slots] at X50 l50 y50 z50 st50 hQ50
          subst l50 y50 z50
          obtain ⟨rfl, Nq50, K50, -, F_file_b48, F_line_b48, F_text_b48⟩ := hQ50
          have N50 := Fr.app N47 Nq50
          refine own_goW (fun zt zk => st50.trans zk) ?_
          have Sf_b48' := Safe.keep K50 (allS Sf_b48 all0) Rc.1 Sf_b48
          replace Rc := Rc.trans (CHr.keep K50 (allS Sf_b48 all0) Rc.1)
          replace hk := Nat.le_trans hk K50.1
          replace Sf_b48 := Sf_b48'
          replace O := O.keep K50 (allS g_b48 all0)
          replace Kp := Kp.trans K50 (allS (Or.inr sz_b48) all0)
          replace Ex_b47 := Ex_b47.keep K50
          replace Fv47 := Fv47.keep K50 (ninS ne_b47_b48 nin0)
          replace Fc47 := Fc47.keep K50 (ninS ne_b47_b48 nin0)
          replace Vt47 := Vt47.keep K50 (ninS ne_t47_b48 nin0)
          replace Ex_b48 := Ex_b48.keep K50
          replace Ex_a49 := Ex_a49.keep K50
          replace Fc_a49 := Fc_a49.keep K50 (ninS (Ne.symm ne_b48_a49) nin0)
          replace Fv_a49 := Fv_a49.keep K50 (ninS (Ne.symm ne_b48_a49) nin0)
          replace Va_b49 := Va_b49.keep K50 (ninS (Ne.symm ne_b48_b49) nin0)
          show own_GoW p e below s _ _ _ _ (T50.setTop (mkF m 76 #[iv p1, iv p2, iv p3, .val (.long p4), .second, iv (3 : Int32), iv c43, iv c44, iv c45, iv c46, rv b47, .unset, .unset, .unset, .unset, .unset] [(.ref b48)]))
          refine own_goW (fun zt zk => (XS.astore X50.here hx rfl (hb hby at_76) rfl rfl (l' := #[iv p1, iv p2, iv p3, .val (.long p4), .second, iv (3 : Int32), iv c43, iv c44, iv c45, iv c46, rv b47, rv b48, .unset, .unset, .unset, .unset]) rfl (XS.aload X50.here hx rfl (hb hby at_78) rfl rfl (XS.iloadN X50.here hx rfl (hb hby at_80) rfl zk)))) ?_
          show own_GoW p e below s _ _ _ _ (T50.setTop (mkF m 81 #[iv p1, iv p2, iv p3, .val (.long p4), .second, iv (3 : Int32), iv c43, iv c44, iv c45, iv c46, rv b47, rv b48, .unset, .unset, .unset, .unset] [(.int p3), (.ref b48)]))
          by_cases hfr : (3 : Int32) < p3
          · obtain ⟨cq51, kq51, qa51, qb51, qc51⟩ := isOf hZ rfl Ex_b48
            obtain ⟨_, _, ⟨T51, L51, k51, n51⟩, -, X51, ⟨Lc51, hQ51, l51, y51, z51⟩, st51⟩ := X50.virtualBack hx (y := (⟨"com/example/riskscan/riskscan/io/FixedWidthRecord", "reaches", "(I)Z"⟩ : MethodName)) (z := (⟨"com/example/riskscan/riskscan/io/FixedWidthRecord", "reaches", "(I)Z"⟩ : MethodName)) hown (mvT hZ (hw _ (List.mem_of_getElem? (i := 41) rfl))) (mvT hZ (hw _ (List.mem_of_getElem? (i := 42) rfl))) (notFace_of_selects (args := #[]) (mvT hZ (hw _ (List.mem_of_getElem? (i := 44) rfl)))) (mvT hZ (hw _ (List.mem_of_getElem? (i := 44) rfl))) (mvT hZ (hw _ (List.mem_of_getElem? (i := 43) rfl))) (by decide) (backOf (W := 0) (own_rre0 l Z a0 hw [] b48 p3 b47 o_COMPACT_STRINGS t47 kb47 (3 : Int32) [(.int (c43.toInt8.toInt32)), (.int (c44.toInt8.toInt32)), (.int (c45.toInt8.toInt32))] T50.heap n0 (Nat.le_trans Z0 Kp.1) O S_o_COMPACT_STRINGS F_text_b48 Ex_b47 Fv47 Fc47 Vt47 nz_o_COMPACT_STRINGS hfr) hZ (hw _ (List.mem_of_getElem? (i := 45) rfl)) (hw _ (List.mem_of_getElem? (i := 29) rfl)) (by decide) (by decide)) qa51 qc51 (g := (mkF m 81 #[iv p1, iv p2, iv p3, .val (.long p4), .second, iv (3 : Int32), iv c43, iv c44, iv c45, iv c46, rv b47, rv b48, .unset, .unset, .unset, .unset] [(.int p3), (.ref b48)])) rfl (by rw [hml]; rfl) (Steps.refl _) (argsL := [(.int p3)]) (rest := []) (lenOf own_pd__I_Z rfl) rfl (by show 2 * 0 + _ ≤ _; exact Nat.le_of_eq rfl) (hb hby at_81) (fun _ _ => ⟨rfl, rfl, (by decide : 6 + 0 ≤ _), (by decide : 21 + 0 ≤ _)⟩)
            dsimp only [Pt.U, Pt.locs, Pt.cells, Pt.slots] at X51 l51 y51 z51 st51 hQ51
            subst l51 y51 z51
            obtain ⟨rfl, Nq51, e51⟩ := hQ51
            have N51 := Fr.app N50 Nq51
            refine own_goW (fun zt zk => st51.trans zk) ?_
            show own_GoW p e below s _ _ _ _ (T51.setTop (mkF m 84 #[iv p1, iv p2, iv p3, .val (.long p4), .second, iv (3 : Int32), iv c43, iv c44, iv c45, iv c46, rv b47, rv b48, .unset, .unset, .unset, .unset] [(.int (0 : Int32))]))
            refine own_goW (fun zt zk => (XS.istore X51.here hx rfl (hb hby at_84) rfl (l' := #[iv p1, iv p2, iv p3, .val (.long p4), .second, iv (3 : Int32), iv c43, iv c44, iv c45, iv c46, rv b47, rv b48, iv (0 : Int32), .unset, .unset, .unset]) rfl (XS.iloadN X51.here hx rfl (hb hby at_86) rfl (XS.iload X51.here hx rfl (hb hby at_87) rfl (XS.icmpYes X51.here hx rfl (pc0 := 89) (pc' := 96) rfl (hb hby at_89) rfl (tlt (hfr : (3 : Int32) < p3)).2.2.1 (by decide) (by decide) (XS.iconst X51.here hx rfl (hb hby at_96) (XS.istore X51.here hx rfl (hb hby at_97) rfl (l' := #[iv p1, iv p2, iv p3, .val (.long p4), .second, iv (3 : Int32), iv c43, iv c44, iv c45, iv c46, rv b47, rv b48, iv (0 : Int32), iv (0 : Int32), .unset, .unset]) rfl (XS.aload X51.here hx rfl (hb hby at_99) rfl rfl (XS.iload X51.here hx rfl (hb hby at_101) rfl zk))))))))) ?_
            show own_GoW p e below s _ _ _ _ (T51.setTop (mkF m 103 #[iv p1, iv p2, iv p3, .val (.long p4), .second, iv (3 : Int32), iv c43, iv c44, iv c45, iv c46, rv b47, rv b48, iv (0 : Int32), iv (0 : Int32), .unset, .unset] [(.int (3 : Int32)), (.ref b48)]))
            obtain ⟨cq52, kq52, qa52, qb52, qc52⟩ := isOf hZ e51 Ex_b48
            obtain ⟨_, _, ⟨T52, L52, k52, n52⟩, -, X52, ⟨Lc52, hQ52, l52, y52, z52⟩, st52⟩ := X51.virtualBack hx (y := (⟨"com/example/riskscan/riskscan/io/FixedWidthRecord", "reaches", "(I)Z"⟩ : MethodName)) (z := (⟨"com/example/riskscan/riskscan/io/FixedWidthRecord", "reaches", "(I)Z"⟩ : MethodName)) hown (mvT hZ (hw _ (List.mem_of_getElem? (i := 41) rfl))) (mvT hZ (hw _ (List.mem_of_getElem? (i := 42) rfl))) (notFace_of_selects (args := #[]) (mvT hZ (hw _ (List.mem_of_getElem? (i := 44) rfl)))) (mvT hZ (hw _ (List.mem_of_getElem? (i := 44) rfl))) (mvT hZ (hw _ (List.mem_of_getElem? (i := 43) rfl))) (by decide) (backOf (W := 0) (own_rre1 l Z a0 hw [] b48 (3 : Int32) b47 o_COMPACT_STRINGS t47 kb47 (3 : Int32) [(.int (c43.toInt8.toInt32)), (.int (c44.toInt8.toInt32)), (.int (c45.toInt8.toInt32))] T50.heap n0 (Nat.le_trans Z0 Kp.1) O S_o_COMPACT_STRINGS F_text_b48 Ex_b47 Fv47 Fc47 Vt47 nz_o_COMPACT_STRINGS (by decide)) hZ (hw _ (List.mem_of_getElem? (i := 45) rfl)) (hw _ (List.mem_of_getElem? (i := 29) rfl)) (by decide) (by decide)) qa52 qc52 (g := (mkF m 103 #[iv p1, iv p2, iv p3, .val (.long p4), .second, iv (3 : Int32), iv c43, iv c44, iv c45, iv c46, rv b47, rv b48, iv (0 : Int32), iv (0 : Int32), .unset, .unset] [(.int (3 : Int32)), (.ref b48)])) rfl (by rw [hml]; rfl) (Steps.refl _) (argsL := [(.int (3 : Int32))]) (rest := []) (lenOf own_pd__I_Z rfl) rfl (by show 2 * 0 + _ ≤ _; exact Nat.le_of_eq rfl) (hb hby at_103) (fun _ _ => ⟨rfl, e51, (by decide : 6 + 0 ≤ _), (by decide : 21 + 0 ≤ _)⟩)
            dsimp only [Pt.U, Pt.locs, Pt.cells, Pt.slots] at X52 l52 y52 z52 st52 hQ52
            subst l52 y52 z52
            obtain ⟨rfl, Nq52, e52⟩ := hQ52
            have N52 := Fr.app N51 Nq52
            refine own_goW (fun zt zk => st52.trans zk) ?_
            show own_GoW p e below s _ _ _ _ (T52.setTop (mkF m 106 #[iv p1, iv p2, iv p3, .val (.long p4), .second, iv (3 : Int32), iv c43, iv c44, iv c45, iv c46, rv b47, rv b48, iv (0 : Int32), iv (0 : Int32), .unset, .unset] [(.int (1 : Int32))]))
            refine own_goW (fun zt zk => (XS.istore X52.here hx rfl (hb hby at_106) rfl (l' := #[iv p1, iv p2, iv p3, .val (.long p4), .second, iv (3 : Int32), iv c43, iv c44, iv c45, iv c46, rv b47, rv b48, iv (0 : Int32), iv (0 : Int32), iv (1 : Int32), .unset]) rfl (XS.aload X52.here hx rfl (hb hby at_108) rfl rfl (XS.iload X52.here hx rfl (hb hby at_110) rfl (XS.iconst X52.here hx rfl (hb hby at_112) (XS.iadd X52.here hx rfl (hb hby at_113) rfl zk)))))) ?_
            show own_GoW p e below s _ _ _ _ (T52.setTop (mkF m 114 #[iv p1, iv p2, iv p3, .val (.long p4), .second, iv (3 : Int32), iv c43, iv c44, iv c45, iv c46, rv b47, rv b48, iv (0 : Int32), iv (0 : Int32), iv (1 : Int32), .unset] [(.int (4 : Int32)), (.ref b48)]))
            obtain ⟨cq53, kq53, qa53, qb53, qc53⟩ := isOf hZ e52 Ex_b48
            obtain ⟨_, _, ⟨T53, L53, k53, n53⟩, -, X53, ⟨Lc53, hQ53, l53, y53, z53⟩, st53⟩ := X52.virtualBack hx (y := (⟨"com/example/riskscan/riskscan/io/FixedWidthRecord", "reaches", "(I)Z"⟩ : MethodName)) (z := (⟨"com/example/riskscan/riskscan/io/FixedWidthRecord", "reaches", "(I)Z"⟩ : MethodName)) hown (mvT hZ (hw _ (List.mem_of_getElem? (i := 41) rfl))) (mvT hZ (hw _ (List.mem_of_getElem? (i := 42) rfl))) (notFace_of_selects (args := #[]) (mvT hZ (hw _ (List.mem_of_getElem? (i := 44) rfl)))) (mvT hZ (hw _ (List.mem_of_getElem? (i := 44) rfl))) (mvT hZ (hw _ (List.mem_of_getElem? (i := 43) rfl))) (by decide) (backOf (W := 0) (own_rre0 l Z a0 hw [] b48 (4 : Int32) b47 o_COMPACT_STRINGS t47 kb47 (3 : Int32) [(.int (c43.toInt8.toInt32)), (.int (c44.toInt8.toInt32)), (.int (c45.toInt8.toInt32))] T50.heap n0 (Nat.le_trans Z0 Kp.1) O S_o_COMPACT_STRINGS F_text_b48 Ex_b47 Fv47 Fc47 Vt47 nz_o_COMPACT_STRINGS (by decide)) hZ (hw _ (List.mem_of_getElem? (i := 45) rfl)) (hw _ (List.mem_of_getElem? (i := 29) rfl)) (by decide) (by decide)) qa53 qc53 (g := (mkF m 114 #[iv p1, iv p2, iv p3, .val (.long p4), .second, iv (3 : Int32), iv c43, iv c44, iv c45, iv c46, rv b47, rv b48, iv (0 : Int32), iv (0 : Int32), iv (1 : Int32), .unset] [(.int (4 : Int32)), (.ref b48)])) rfl (by rw [hml]; rfl) (Steps.refl _) (argsL := [(.int (4 : Int32))]) (rest := []) (lenOf own_pd__I_Z rfl) rfl (by show 2 * 0 + _ ≤ _; exact Nat.le_of_eq rfl) (hb hby at_114) (fun _ _ => ⟨rfl, e52, (by decide : 6 + 0 ≤ _), (by decide : 21 + 0 ≤ _)⟩)
            dsimp only [Pt.U, Pt.locs, Pt.cells, Pt.slots] at X53 l53 y53 z53 st53 hQ53
            subst l53 y53 z53
            obtain ⟨rfl, Nq53, e53⟩ := hQ53
            have N53 := Fr.app N52 Nq53
            refine own_goW (fun zt zk => st53.trans zk) ?_
            show own_GoW p e below s _ _ _ _ (T53.setTop (mkF m 117 #[iv p1, iv p2, iv p3, .val (.long p4), .second, iv (3 : Int32), iv c43, iv c44, iv c45, iv c46, rv b47, rv b48, iv (0 : Int32), iv (0 : Int32), iv (1 : Int32), .unset] [(.int (0 : Int32))]))
            refine own_goW (fun zt zk => (XS.istore X53.here hx rfl (hb hby at_117) rfl (l' := #[iv p1, iv p2, iv p3, .val (.long p4), .second, iv (3 : Int32), iv c43, iv c44, iv c45, iv c46, rv b47, rv b48, iv (0 : Int32), iv (0 : Int32), iv (1 : Int32), iv (0 : Int32)]) rfl (XS.iload X53.here hx rfl (hb hby at_119) rfl (XS.iload X53.here hx rfl (hb hby at_121) rfl (XS.icmpNo X53.here hx rfl (hb hby at_123) rfl (teq (rfl : (0 : Int32) = (0 : Int32))).2 (XS.iload X53.here hx rfl (hb hby at_126) rfl (XS.ifNo X53.here hx rfl (hb hby at_128) rfl ((if0 _ _).trans (feq ((by decide) : ¬ ((1 : Int32) = (0 : Int32)))).1) (XS.iload X53.here hx rfl (hb hby at_131) rfl (XS.ifNo X53.here hx rfl (hb hby at_133) rfl ((if0 _ _).trans (teq (rfl : (0 : Int32) = (0 : Int32))).2) (XS.iconst X53.here hx rfl (hb hby at_136) (XS.goto X53.here hx rfl (pc0 := 137) (pc' := 141) rfl (hb hby at_137) (by decide) (by decide) zk))))))))))) ?_
            show own_GoW p e below s _ _ _ _ (T53.setTop (mkF m 141 #[iv p1, iv p2, iv p3, .val (.long p4), .second, iv (3 : Int32), iv c43, iv c44, iv c45, iv c46, rv b47, rv b48, iv (0 : Int32), iv (0 : Int32), iv (1 : Int32), iv (0 : Int32)] [(.int (1 : Int32))]))
            have Re := Rc.trans (CHv.at X53 hZ hEL Rc.1)
            exact own_finW X53 hS (by rw [e53]; exact hk) (by rw [e53, hh]; exact Re) Bd.notSynchronized (fun h => by rw [Bd.returns] at h; cases h) (fun fs hr => retN X53 hx (t := .boolean) Bd.returns (by simp) (hb hby at_141) hr) (by rw [e53]; exact ⟨rfl, N53⟩) (by decide) (by decide)
          · obtain ⟨cq54, kq54, qa54, qb54, qc54⟩ := isOf hZ rfl Ex_b48
            obtain ⟨_, _, ⟨T54, L54, k54, n54⟩, -, X54, ⟨Lc54, hQ54, l54, y54, z54⟩, st54⟩ := X50.virtualBack hx (y := (⟨"com/example/riskscan/riskscan/io/FixedWidthRecord", "reaches", "(I)Z"⟩ : MethodName)) (z := (⟨"com/example/riskscan/riskscan/io/FixedWidthRecord", "reaches", "(I)Z"⟩ : MethodName)) hown (mvT hZ (hw _ (List.mem_of_getElem? (i := 41) rfl))) (mvT hZ (hw _ (List.mem_of_getElem? (i := 42) rfl))) (notFace_of_selects (args := #[]) (mvT hZ (hw _ (List.mem_of_getElem? (i := 44) rfl)))) (mvT hZ (hw _ (List.mem_of_getElem? (i := 44) rfl))) (mvT hZ (hw _ (List.mem_of_getElem? (i := 43) rfl))) (by decide) (backOf (W := 0) (own_rre1 l Z a0 hw [] b48 p3 b47 o_COMPACT_STRINGS t47 kb47 (3 : Int32) [(.int (c43.toInt8.toInt32)), (.int (c44.toInt8.toInt32)), (.int (c45.toInt8.toInt32))] T50.heap n0 (Nat.le_trans Z0 Kp.1) O S_o_COMPACT_STRINGS F_text_b48 Ex_b47 Fv47 Fc47 Vt47 nz_o_COMPACT_STRINGS hfr) hZ (hw _ (List.mem_of_getElem? (i := 45) rfl)) (hw _ (List.mem_of_getElem? (i := 29) rfl)) (by decide) (by decide)) qa54 qc54 (g := (mkF m 81 #[iv p1, iv p2, iv p3, .val (.long p4), .second, iv (3 : Int32), iv c43, iv c44, iv c45, iv c46, rv b47, rv b48, .unset, .unset, .unset, .unset] [(.int p3), (.ref b48)])) rfl (by rw [hml]; rfl) (Steps.refl _) (argsL := [(.int p3)]) (rest := []) (lenOf own_pd__I_Z rfl) rfl (by show 2 * 0 + _ ≤ _; exact Nat.le_of_eq rfl) (hb hby at_81) (fun _ _ => ⟨rfl, rfl, (by decide : 6 + 0 ≤ _), (by decide : 21 + 0 ≤ _)⟩)
            dsimp only [Pt.U, Pt.locs, Pt.cells, Pt.slots] at X54 l54 y54 z54 st54 hQ54
            subst l54 y54 z54
            obtain ⟨rfl, Nq54, e54⟩ := hQ54
            have N54 := Fr.app N50 Nq54
            refine own_goW (fun zt zk => st54.trans zk) ?_
            show own_GoW p e below s _ _ _ _ (T54.setTop (mkF m 84 #[iv p1, iv p2, iv p3, .val (.long p4), .second, iv (3 : Int32), iv c43, iv c44, iv c45, iv c46, rv b47, rv b48, .unset, .unset, .unset, .unset] [(.int (1 : Int32))]))
            refine own_goW (fun zt zk => (XS.istore X54.here hx rfl (hb hby at_84) rfl (l' := #[iv p1, iv p2, iv p3, .val (.long p4), .second, iv (3 : Int32), iv c43, iv c44, iv c45, iv c46, rv b47, rv b48, iv (1 : Int32), .unset, .unset, .unset]) rfl (XS.iloadN X54.here hx rfl (hb hby at_86) rfl (XS.iload X54.here hx rfl (hb hby at_87) rfl (XS.icmpNo X54.here hx rfl (hb hby at_89) rfl (flt (hfr : ¬ ((3 : Int32) < p3))).2.2.1 (XS.iconst X54.here hx rfl (hb hby at_92) (XS.goto X54.here hx rfl (pc0 := 93) (pc' := 97) rfl (hb hby at_93) (by decide) (by decide) (XS.istore X54.here hx rfl (hb hby at_97) rfl (l' := #[iv p1, iv p2, iv p3, .val (.long p4), .second, iv (3 : Int32), iv c43, iv c44, iv c45, iv c46, rv b47, rv b48, iv (1 : Int32), iv (1 : Int32), .unset, .unset]) rfl (XS.aload X54.here hx rfl (hb hby at_99) rfl rfl (XS.iload X54.here hx rfl (hb hby at_101) rfl zk)))))))))) ?_
            show own_GoW p e below s _ _ _ _ (T54.setTop (mkF m 103 #[iv p1, iv p2, iv p3, .val (.long p4), .second, iv (3 : Int32), iv c43, iv c44, iv c45, iv c46, rv b47, rv b48, iv (1 : Int32), iv (1 : Int32), .unset, .unset] [(.int (3 : Int32)), (.ref b48)]))
            obtain ⟨cq55, kq55, qa55, qb55, qc55⟩ := isOf hZ e54 Ex_b48
            obtain ⟨_, _, ⟨T55, L55, k55, n55⟩, -, X55, ⟨Lc55, hQ55, l55, y55, z55⟩, st55⟩ := X54.virtualBack hx (y := (⟨"com/example/riskscan/riskscan/io/FixedWidthRecord", "reaches", "(I)Z"⟩ : MethodName)) (z := (⟨"com/example/riskscan/riskscan/io/FixedWidthRecord", "reaches", "(I)Z"⟩ : MethodName)) hown (mvT hZ (hw _ (List.mem_of_getElem? (i := 41) rfl))) (mvT hZ (hw _ (List.mem_of_getElem? (i := 42) rfl))) (notFace_of_selects (args := #[]) (mvT hZ (hw _ (List.mem_of_getElem? (i := 44) rfl)))) (mvT hZ (hw _ (List.mem_of_getElem? (i := 44) rfl))) (mvT hZ (hw _ (List.mem_of_getElem? (i := 43) rfl))) (by decide) (backOf (W := 0) (own_rre1 l Z a0 hw [] b48 (3 : Int32) b47 o_COMPACT_STRINGS t47 kb47 (3 : Int32) [(.int (c43.toInt8.toInt32)), (.int (c44.toInt8.toInt32)), (.int (c45.toInt8.toInt32))] T50.heap n0 (Nat.le_trans Z0 Kp.1) O S_o_COMPACT_STRINGS F_text_b48 Ex_b47 Fv47 Fc47 Vt47 nz_o_COMPACT_STRINGS (by decide)) hZ (hw _ (List.mem_of_getElem? (i := 45) rfl)) (hw _ (List.mem_of_getElem? (i := 29) rfl)) (by decide) (by decide)) qa55 qc55 (g := (mkF m 103 #[iv p1, iv p2, iv p3, .val (.long p4), .second, iv (3 : Int32), iv c43, iv c44, iv c45, iv c46, rv b47, rv b48, iv (1 : Int32), iv (1 : Int32), .unset, .unset] [(.int (3 : Int32)), (.ref b48)])) rfl (by rw [hml]; rfl) (Steps.refl _) (argsL := [(.int (3 : Int32))]) (rest := []) (lenOf own_pd__I_Z rfl) rfl (by show 2 * 0 + _ ≤ _; exact Nat.le_of_eq rfl) (hb hby at_103) (fun _ _ => ⟨rfl, e54, (by decide : 6 + 0 ≤ _), (by decide : 21 + 0 ≤ _)⟩)
            dsimp only [Pt.U, Pt.locs, Pt.cells, Pt.slots] at X55 l55 y55 z55 st55 hQ55
            subst l55 y55 z55
            obtain ⟨rfl, Nq55, e55⟩ := hQ55
            have N55 := Fr.app N54 Nq55
            refine own_goW (fun zt zk => st55.trans zk) ?_
            show own_GoW p e below s _ _ _ _ (T55.setTop (mkF m 106 #[iv p1, iv p2, iv p3, .val (.long p4), .second, iv (3 : Int32), iv c43, iv c44, iv c45, iv c46, rv b47, rv b48, iv (1 : Int32), iv (1 : Int32), .unset, .unset] [(.int (1 : Int32))]))
            refine own_goW (fun zt zk => (XS.istore X55.here hx rfl (hb hby at_106) rfl (l' := #[iv p1, iv p2, iv p3, .val (.long p4), .second, iv (3 : Int32), iv c43, iv c44, iv c45, iv c46, rv b47, rv b48, iv (1 : Int32), iv (1 : Int32), iv (1 : Int32), .unset]) rfl (XS.aload X55.here hx rfl (hb hby at_108) rfl rfl (XS.iload X55.here hx rfl (hb hby at_110) rfl (XS.iconst X55.here hx rfl (hb hby at_112) (XS.iadd X55.here hx rfl (hb hby at_113) rfl zk)))))) ?_
            show own_GoW p e below s _ _ _ _ (T55.setTop (mkF m 114 #[iv p1, iv p2, iv p3, .val (.long p4), .second, iv (3 : Int32), iv c43, iv c44, iv c45, iv c46, rv b47, rv b48, iv (1 : Int32), iv (1 : Int32), iv (1 : Int32), .unset] [(.int (4 : Int32)), (.ref b48)]))
            obtain ⟨cq56, kq56, qa56, qb56, qc56⟩ := isOf hZ e55 Ex_b48
            obtain ⟨_, _, ⟨T56, L56, k56, n56⟩, -, X56, ⟨Lc56, hQ56, l56, y56, z56⟩, st56⟩ := X55.virtualBack hx (y := (⟨"com/example/riskscan/riskscan/io/FixedWidthRecord", "reaches", "(I)Z"⟩ : MethodName)) (z := (⟨"com/example/riskscan/riskscan/io/FixedWidthRecord", "reaches", "(I)Z"⟩ : MethodName)) hown (mvT hZ (hw _ (List.mem_of_getElem? (i := 41) rfl))) (mvT hZ (hw _ (List.mem_of_getElem? (i := 42) rfl))) (notFace_of_selects (args := #[]) (mvT hZ (hw _ (List.mem_of_getElem? (i := 44) rfl)))) (mvT hZ (hw _ (List.mem_of_getElem? (i := 44) rfl))) (mvT hZ (hw _ (List.mem_of_getElem? (i := 43) rfl))) (by decide) (backOf (W := 0) (own_rre0 l Z a0 hw [] b48 (4 : Int32) b47 o_COMPACT_STRINGS t47 kb47 (3 : Int32) [(.int (c43.toInt8.toInt32)), (.int (c44.toInt8.toInt32)), (.int (c45.toInt8.toInt32))] T50.heap n0 (Nat.le_trans Z0 Kp.1) O S_o_COMPACT_STRINGS F_text_b48 Ex_b47 Fv47 Fc47 Vt47 nz_o_COMPACT_STRINGS (by decide)) hZ (hw _ (List.mem_of_getElem? (i := 45) rfl)) (hw _ (List.mem_of_getElem? (i := 29) rfl)) (by decide) (by decide)) qa56 qc56 (g := (mkF m 114 #[iv p1, iv p2, iv p3, .val (.long p4), .second, iv (3 : Int32), iv c43, iv c44, iv c45, iv c46, rv b47, rv b48, iv (1 : Int32), iv (1 : Int32), iv (1 : Int32), .unset] [(.int (4 : Int32)), (.ref b48)])) rfl (by rw [hml]; rfl) (Steps.refl _) (argsL := [(.int (4 : Int32))]) (rest := []) (lenOf own_pd__I_Z rfl) rfl (by show 2 * 0 + _ ≤ _; exact Nat.le_of_eq rfl) (hb hby at_114) (fun _ _ => ⟨rfl, e55, (by decide : 6 + 0 ≤ _), (by decide : 21 + 0 ≤ _)⟩)
            dsimp only [Pt.U, Pt.locs, Pt.cells, Pt.slots] at X56 l56 y56 z56 st56 hQ56
            subst l56 y56 z56
            obtain ⟨rfl, Nq56, e56⟩ := hQ56
            have N56 := Fr.app N55 Nq56
            refine own_goW (fun zt zk => st56.trans zk) ?_
            show own_GoW p e below s _ _ _ _ (T56.setTop (mkF m 117 #[iv p1, iv p2, iv p3, .val (.long p4), .second, iv (3 : Int32), iv c43, iv c44, iv c45, iv c46, rv b47, rv b48, iv (1 : Int32), iv (1 : Int32), iv (1 : Int32), .unset] [(.int (0 : Int32))]))
            refine own_goW (fun zt zk => (XS.istore X56.here hx rfl (hb hby at_117) rfl (l' := #[iv p1, iv p2, iv p3, .val (.long p4), .second, iv (3 : Int32), iv c43, iv c44, iv c45, iv c46, rv b47, rv b48, iv (1 : Int32), iv (1 : Int32), iv (1 : Int32), iv (0 : Int32)]) rfl (XS.iload X56.here hx rfl (hb hby at_119) rfl (XS.iload X56.here hx rfl (hb hby at_121) rfl (XS.icmpNo X56.here hx rfl (hb hby at_123) rfl (teq (rfl : (1 : Int32) = (1 : Int32))).2 (XS.iload X56.here hx rfl (hb hby at_126) rfl (XS.ifNo X56.here hx rfl (hb hby at_128) rfl ((if0 _ _).trans (feq ((by decide) : ¬ ((1 : Int32) = (0 : Int32)))).1) (XS.iload X56.here hx rfl (hb hby at_131) rfl (XS.ifNo X56.here hx rfl (hb hby at_133) rfl ((if0 _ _).trans (teq (rfl : (0 : Int32) = (0 : Int32))).2) (XS.iconst X56.here hx rfl (hb hby at_136) (XS.goto X56.here hx rfl (pc0 := 137) (pc' := 141) rfl (hb hby at_137) (by decide) (by decide) zk))))))))))) ?_
            show own_GoW p e below s _ _ _ _ (T56.setTop (mkF m 141 #[iv p1, iv p2, iv p3, .val (.long p4), .second, iv (3 : Int32), iv c43, iv c44, iv c45, iv c46, rv b47, rv b48, iv (1 : Int32), iv (1 : Int32), iv (1 : Int32), iv (0 : Int32)] [(.int (1 : Int32))]))
            have Re := Rc.trans (CHv.at X56 hZ hEL Rc.1)
            exact own_finW X56 hS (by rw [e56]; exact hk) (by rw [e56, hh]; exact Re) Bd.notSynchronized (fun h => by rw [Bd.returns] at h; cases h) (fun fs hr => retN X56 hx (t := .boolean) Bd.returns (by simp) (hb hby at_141) hr) (by rw [e56]; exact ⟨rfl, N56⟩) (by decide) (by decide)
        · refine own_goW (fun zt zk => (XS.iloadN X0.here hx rfl (hb hby at_8) rfl (XS.sipush X0.here hx rfl (hb hby at_9) (XS.iand X0.here hx rfl (hb hby at_12) rfl (XS.i2c X0.here hx rfl (hb hby at_13) rfl zk))))) ?_
          show own_GoW p e below s _ _ _ _ (s₁.setTop (mkF m 14 #[iv p1, iv p2, iv p3, .val (.long p4), .second, iv k, .unset, .unset, .unset, .unset, .unset, .unset, .unset, .unset, .unset, .unset] [(.int ((p2 &&& (255 : Int32)).toUInt32.toUInt16.toUInt32.toInt32))]))
          rw [i2c_mask]
          generalize hv_c57 : (p2 &&& (255 : Int32)) = c57
          have hr_c57 := own_r255 hv_c57
          show own_GoW p e below s _ _ _ _ (s₁.setTop (mkF m 14 #[iv p1, iv p2, iv p3, .val (.long p4), .second, iv k, .unset, .unset, .unset, .unset, .unset, .unset, .unset, .unset, .unset, .unset] [(.int c57)]))
          refine own_goW (fun zt zk => (XS.istore X0.here hx rfl (hb hby at_14) rfl (l' := #[iv p1, iv p2, iv p3, .val (.long p4), .second, iv k, iv c57, .unset, .unset, .unset, .unset, .unset, .unset, .unset, .unset, .unset]) rfl (XS.iloadN X0.here hx rfl (hb hby at_16) rfl (XS.bipush X0.here hx rfl (hb hby at_17) (XS.iushr X0.here hx rfl (hb hby at_19) rfl (XS.sipush X0.here hx rfl (hb hby at_20) (XS.iand X0.here hx rfl (hb hby at_23) rfl (XS.i2c X0.here hx rfl (hb hby at_24) rfl zk)))))))) ?_
          show own_GoW p e below s _ _ _ _ (s₁.setTop (mkF m 25 #[iv p1, iv p2, iv p3, .val (.long p4), .second, iv k, iv c57, .unset, .unset, .unset, .unset, .unset, .unset, .unset, .unset, .unset] [(.int ((((p2.toUInt32 >>> ((8 : Int32) &&& 31).toUInt32).toInt32) &&& (255 : Int32)).toUInt32.toUInt16.toUInt32.toInt32))]))
          rw [i2c_mask]
          generalize hv_c58 : (((p2.toUInt32 >>> ((8 : Int32) &&& 31).toUInt32).toInt32) &&& (255 : Int32)) = c58
          have hr_c58 := own_r255 hv_c58
          show own_GoW p e below s _ _ _ _ (s₁.setTop (mkF m 25 #[iv p1, iv p2, iv p3, .val (.long p4), .second, iv k, iv c57, .unset, .unset, .unset, .unset, .unset, .unset, .unset, .unset, .unset] [(.int c58)]))
          refine own_goW (fun zt zk => (XS.istore X0.here hx rfl (hb hby at_25) rfl (l' := #[iv p1, iv p2, iv p3, .val (.long p4), .second, iv k, iv c57, iv c58, .unset, .unset, .unset, .unset, .unset, .unset, .unset, .unset]) rfl (XS.iloadN X0.here hx rfl (hb hby at_27) rfl (XS.bipush X0.here hx rfl (hb hby at_28) (XS.iushr X0.here hx rfl (hb hby at_30) rfl (XS.sipush X0.here hx rfl (hb hby at_31) (XS.iand X0.here hx rfl (hb hby at_34) rfl (XS.i2c X0.here hx rfl (hb hby at_35) rfl zk)))))))) ?_
          show own_GoW p e below s _ _ _ _ (s₁.setTop (mkF m 36 #[iv p1, iv p2, iv p3, .val (.long p4), .second, iv k, iv c57, iv c58, .unset, .unset, .unset, .unset, .unset, .unset, .unset, .unset] [(.int ((((p2.toUInt32 >>> ((16 : Int32) &&& 31).toUInt32).toInt32) &&& (255 : Int32)).toUInt32.toUInt16.toUInt32.toInt32))]))
          rw [i2c_mask]
          generalize hv_c59 : (((p2.toUInt32 >>> ((16 : Int32) &&& 31).toUInt32).toInt32) &&& (255 : Int32)) = c59
          have hr_c59 := own_r255 hv_c59
          show own_GoW p e below s _ _ _ _ (s₁.setTop (mkF m 36 #[iv p1, iv p2, iv p3, .val (.long p4), .second, iv k, iv c57, iv c58, .unset, .unset, .unset, .unset, .unset, .unset, .unset, .unset] [(.int c59)]))
          refine own_goW (fun zt zk => (XS.istore X0.here hx rfl (hb hby at_36) rfl (l' := #[iv p1, iv p2, iv p3, .val (.long p4), .second, iv k, iv c57, iv c58, iv c59, .unset, .unset, .unset, .unset, .unset, .unset, .unset]) rfl (XS.iloadN X0.here hx rfl (hb hby at_38) rfl (XS.bipush X0.here hx rfl (hb hby at_39) (XS.iushr X0.here hx rfl (hb hby at_41) rfl (XS.sipush X0.here hx rfl (hb hby at_42) (XS.iand X0.here hx rfl (hb hby at_45) rfl (XS.i2c X0.here hx rfl (hb hby at_46) rfl zk)))))))) ?_
          show own_GoW p e below s _ _ _ _ (s₁.setTop (mkF m 47 #[iv p1, iv p2, iv p3, .val (.long p4), .second, iv k, iv c57, iv c58, iv c59, .unset, .unset, .unset, .unset, .unset, .unset, .unset] [(.int ((((p2.toUInt32 >>> ((24 : Int32) &&& 31).toUInt32).toInt32) &&& (255 : Int32)).toUInt32.toUInt16.toUInt32.toInt32))]))
          rw [i2c_mask]
          generalize hv_c60 : (((p2.toUInt32 >>> ((24 : Int32) &&& 31).toUInt32).toInt32) &&& (255 : Int32)) = c60
          have hr_c60 := own_r255 hv_c60
          show own_GoW p e below s _ _ _ _ (s₁.setTop (mkF m 47 #[iv p1, iv p2, iv p3, .val (.long p4), .second, iv k, iv c57, iv c58, iv c59, .unset, .unset, .unset, .unset, .unset, .unset, .unset] [(.int c60)]))
          refine own_goW (fun zt zk => (XS.istore X0.here hx rfl (hb hby at_47) rfl (l' := #[iv p1, iv p2, iv p3, .val (.long p4), .second, iv k, iv c57, iv c58, iv c59, iv c60, .unset, .unset, .unset, .unset, .unset, .unset]) rfl (XS.iload X0.here hx rfl (hb hby at_49) rfl (XS.iload X0.here hx rfl (hb hby at_51) rfl (XS.iload X0.here hx rfl (hb hby at_53) rfl (XS.iload X0.here hx rfl (hb hby at_55) rfl (XS.iload X0.here hx rfl (hb hby at_57) rfl zk))))))) ?_
          show own_GoW p e below s _ _ _ _ (s₁.setTop (mkF m 59 #[iv p1, iv p2, iv p3, .val (.long p4), .second, iv k, iv c57, iv c58, iv c59, iv c60, .unset, .unset, .unset, .unset, .unset, .unset] [(.int c60), (.int c59), (.int c58), (.int c57), (.int k)]))
          obtain ⟨_, _, ⟨T61, L61, k61, n61⟩, -, X61, ⟨Lc61, hQ61, l61, y61, z61⟩, st61⟩ := Jvm.LawKit.callS X0 hx (y := (⟨"com/example/riskscan/riskscan/io/FixedWidthRecordReachesPinLaw", "line", "(ICCCC)Ljava/lang/String;"⟩ : MethodName)) hown (mvT hZ (hw _ (List.mem_of_getElem? (i := 1) rfl))) (mvT hZ (hw _ (List.mem_of_getElem? (i := 2) rfl))) (mvT hZ (hw _ (List.mem_of_getElem? (i := 3) rfl))) (mvT hZ (hw _ (List.mem_of_getElem? (i := 4) rfl))) (by decide) (backOf (W := 0) (own_rline4 l Z a0 hw [] k c57 c58 c59 c60 o_COMPACT_STRINGS h0 n0 Z0 O S_o_COMPACT_STRINGS nz_o_COMPACT_STRINGS hr_c57 hr_c58 hr_c59 hr_c60 hk0_k hk1_k hk2_k hk3_k) hZ (hw _ (List.mem_of_getElem? (i := 4) rfl)) (hw _ (List.mem_of_getElem? (i := 3) rfl)) (by decide) (by decide)) (g := (mkF m 59 #[iv p1, iv p2, iv p3, .val (.long p4), .second, iv k, iv c57, iv c58, iv c59, iv c60, .unset, .unset, .unset, .unset, .unset, .unset] [(.int c60), (.int c59), (.int c58), (.int c57), (.int k)])) rfl (by rw [hml]; rfl) (argsL := [(.int k), (.int c57), (.int c58), (.int c59), (.int c60)]) (rest := []) (lenOf own_pd__ICCCC_Ljava_lang_String_ rfl) rfl (by show 2 * 0 + _ ≤ _; exact Nat.le_of_eq rfl) (hb hby at_59) (fun _ _ => ⟨rfl, e0, (by decide : 0 + 3 ≤ _), (by decide : 0 + 12 ≤ _)⟩)
          dsimp only [Pt.U, Pt.locs, Pt.cells, Pt.slots] at X61 l61 y61 z61 st61 hQ61
          subst l61 y61 z61
          obtain ⟨b61, t61, kb61, rfl, Nq61, K61, sb61, Ex_b61, Fv61, Fc61, Vt61⟩ := hQ61
          have N61 := Fr.app N0 Nq61
          refine own_goW st61 ?_
          replace Rc := Rc.trans (CHr.keep K61 all0 Rc.1)
          replace hk := Nat.le_trans hk K61.1
          replace O := O.keep K61 all0
          replace Kp := Kp.trans K61 all0
          show own_GoW p e below s _ _ _ _ (T61.setTop (mkF m 62 #[iv p1, iv p2, iv p3, .val (.long p4), .second, iv k, iv c57, iv c58, iv c59, iv c60, .unset, .unset, .unset, .unset, .unset, .unset] [(.ref b61)]))
          have hk4_k : k = (4 : Int32) := Int32.toInt_inj.mp (by have a := own_mod (D := 5) rfl (by decide) hv_k; have b0 := own_ne 0 rfl hk0_k; have b1 := own_ne 1 rfl hk1_k; have b2 := own_ne 2 rfl hk2_k; have b3 := own_ne 3 rfl hk3_k; show k.toInt = 4; omega)
          subst hk4_k
          show own_GoW p e below s _ _ _ _ (T61.setTop (mkF m 62 #[iv p1, iv p2, iv p3, .val (.long p4), .second, iv (4 : Int32), iv c57, iv c58, iv c59, iv c60, .unset, .unset, .unset, .unset, .unset, .unset] [(.ref b61)]))
          refine own_goW (fun zt zk => (XS.astore X61.here hx rfl (hb hby at_62) rfl rfl (l' := #[iv p1, iv p2, iv p3, .val (.long p4), .second, iv (4 : Int32), iv c57, iv c58, iv c59, iv c60, rv b61, .unset, .unset, .unset, .unset, .unset]) rfl zk)) ?_
          show own_GoW p e below s _ _ _ _ (T61.setTop (mkF m 64 #[iv p1, iv p2, iv p3, .val (.long p4), .second, iv (4 : Int32), iv c57, iv c58, iv c59, iv c60, rv b61, .unset, .unset, .unset, .unset, .unset] []))
          obtain ⟨T62, h62, X62, e62, E62, A62, D62, -, st62⟩ := newO X61 hx hZ hown (hw _ (List.mem_of_getElem? (i := 27) rfl)) (hw _ (List.mem_of_getElem? (i := 28) rfl)) (hw _ (List.mem_of_getElem? (i := 29) rfl)) rfl (g := (mkF m 64 #[iv p1, iv p2, iv p3, .val (.long p4), .second, iv (4 : Int32), iv c57, iv c58, iv c59, iv c60, rv b61, .unset, .unset, .unset, .unset, .unset] [])) rfl (hb hby at_64) (by decide) (by decide)
          obtain ⟨b62, g62⟩ : ∃ z, z = T61.heap.size := ⟨_, rfl⟩
          rw [← g62] at A62 D62 st62
          refine own_goW st62 ?_
          have ne_b61_b62 : b61 ≠ b62 := Nat.ne_of_lt (Nat.lt_of_lt_of_le Ex_b61.lt (Nat.le_of_eq g62.symm))
          have ne_t61_b62 : t61 ≠ b62 := Nat.ne_of_lt (Nat.lt_of_lt_of_le Vt61.lt (Nat.le_of_eq g62.symm))
          have sz_b62 : h0.size ≤ b62 := Nat.le_trans Kp.1 (Nat.le_of_eq g62.symm)
          have g_b62 : n0 ≤ b62 := Nat.le_trans Z0 sz_b62
          have Sf_b62 : Safe Z own_EL s.vm T61.heap b62 := Safe.new (Nat.le_of_eq g62.symm)
          replace O := O.ext E62
          replace Kp := Kp.ext E62
          replace Ex_b61 := Ex_b61.ext E62
          replace Fv61 := Fv61.ext E62
          replace Fc61 := Fc61.ext E62
          replace Vt61 := Vt61.ext E62
          replace Sf_b62 := Safe.ext E62 Rc.1 Sf_b62
          replace Rc := Rc.trans (CHr.ext E62 Rc.1)
          replace hk := Nat.le_trans hk E62.1
          have Ex_b62 := A62
          have F_file_b62 : Fld Z h62 b62 "com/example/riskscan/riskscan/io/FixedWidthRecord" "file" "Ljava/lang/String;" .null := D62 (Or.inr (hw _ (List.mem_of_getElem? (i := 36) rfl))) (ty := (.object "java/lang/String")) (by decide)
          have F_line_b62 : Fld Z h62 b62 "com/example/riskscan/riskscan/io/FixedWidthRecord" "line" "J" (.long (0 : Int64)) := D62 (Or.inr (hw _ (List.mem_of_getElem? (i := 38) rfl))) (ty := .long) (by decide)
          have F_text_b62 : Fld Z h62 b62 "com/example/riskscan/riskscan/io/FixedWidthRecord" "text" "Ljava/lang/String;" .null := D62 (Or.inr (hw _ (List.mem_of_getElem? (i := 40) rfl))) (ty := (.object "java/lang/String")) (by decide)
          show own_GoW p e below s _ _ _ _ (T62.setTop (mkF m 67 #[iv p1, iv p2, iv p3, .val (.long p4), .second, iv (4 : Int32), iv c57, iv c58, iv c59, iv c60, rv b61, .unset, .unset, .unset, .unset, .unset] [(.ref b62)]))
          refine own_goW (fun zt zk => (XS.dup X62.here hx rfl (hb hby at_67) rfl rfl zk)) ?_
          show own_GoW p e below s _ _ _ _ (T62.setTop (mkF m 68 #[iv p1, iv p2, iv p3, .val (.long p4), .second, iv (4 : Int32), iv c57, iv c58, iv c59, iv c60, rv b61, .unset, .unset, .unset, .unset, .unset] [(.ref b62), (.ref b62)]))
          obtain ⟨a63, T63, h63, q63, b63, k63, X63, e63, E63, hS63, hk63, hZ63, hown63, Ex_a63, Fc_a63, Fv_a63, Va_b63, lta63, ltb63, A63, Li63, Sn63, st63⟩ := ldcCH X62 hx hZ hown (hw _ (List.mem_of_getElem? (i := 30) rfl)) wS e62 hS hk hEL (by decide +kernel) Rc.1 (vs := [(.int (102 : Int32))]) (z := (1 : Int32)) ⟨by decide +kernel, by decide +kernel⟩ (by decide) rfl (g := (mkF m 68 #[iv p1, iv p2, iv p3, .val (.long p4), .second, iv (4 : Int32), iv c57, iv c58, iv c59, iv c60, rv b61, .unset, .unset, .unset, .unset, .unset] [(.ref b62), (.ref b62)])) rfl (hb hby at_68) (n := 4) (by decide +kernel) (by decide) (by decide) (by decide)
          replace Sf_b62 := CHr.safe A63 Ex_b62.lt Sf_b62
          replace O := O.ext E63
          replace Kp := Kp.ext E63
          replace Ex_b61 := Ex_b61.ext E63
          replace Fv61 := Fv61.ext E63
          replace Fc61 := Fc61.ext E63
          replace Vt61 := Vt61.ext E63
          replace Ex_b62 := Ex_b62.ext E63
          replace F_file_b62 := F_file_b62.ext E63
          replace F_line_b62 := F_line_b62.ext E63
          replace F_text_b62 := F_text_b62.ext E63
          replace Rc := Rc.trans A63
          replace hS := hS63
          replace hk := hk63
          replace hZ := hZ63
          replace hown := hown63
          refine own_goW st63 ?_
          have ne_b62_a63 := (Sn63 b62 Sf_b62).1
          have ne_b62_b63 := (Sn63 b62 Sf_b62).2
          show own_GoW p e below s _ _ _ _ (T63.setTop (mkF m 70 #[iv p1, iv p2, iv p3, .val (.long p4), .second, iv (4 : Int32), iv c57, iv c58, iv c59, iv c60, rv b61, .unset, .unset, .unset, .unset, .unset] [(.ref a63), (.ref b62), (.ref b62)]))
          refine own_goW (fun zt zk => (XS.lloadN X63.here hx rfl (hb hby at_70) rfl (XS.aload X63.here hx rfl (hb hby at_71) rfl rfl zk))) ?_
          show own_GoW p e below s _ _ _ _ (T63.setTop (mkF m 73 #[iv p1, iv p2, iv p3, .val (.long p4), .second, iv (4 : Int32), iv c57, iv c58, iv c59, iv c60, rv b61, .unset, .unset, .unset, .unset, .unset] [(.ref b61), (.long p4), (.ref a63), (.ref b62), (.ref b62)]))
          obtain ⟨_, _, ⟨T64, L64, k64, n64⟩, -, X64, ⟨Lc64, hQ64, l64, y64, z64⟩, st64⟩ := X63.specialBack hx (y := (⟨"com/example/riskscan/riskscan/io/FixedWidthRecord", "<init>", "(Ljava/lang/String;JLjava/lang/String;)V"⟩ : MethodName)) rfl hown (mvT hZ (hw _ (List.mem_of_getElem? (i := 31) rfl))) (mvT hZ (hw _ (List.mem_of_getElem? (i := 32) rfl))) (mvT hZ (hw _ (List.mem_of_getElem? (i := 33) rfl))) (by decide) (backOf (W := 1) (own_rfwr l Z a0 hw [] b62 a63 p4 b61  h63 n0 (Nat.le_trans Z0 Kp.1) Ex_b62 F_file_b62 F_line_b62 F_text_b62 g_b62) hZ (hw _ (List.mem_of_getElem? (i := 33) rfl)) (hw _ (List.mem_of_getElem? (i := 29) rfl)) (by decide) (by decide)) (g := (mkF m 73 #[iv p1, iv p2, iv p3, .val (.long p4), .second, iv (4 : Int32), iv c57, iv c58, iv c59, iv c60, rv b61, .unset, .unset, .unset, .unset, .unset] [(.ref b61), (.long p4), (.ref a63), (.ref b62), (.ref b62)])) rfl (by rw [hml]; rfl) (Steps.refl _) (a := b62) (argsL := [(.ref a63), (.long p4), (.ref b61)]) (rest := [(.ref b62)]) (lenOf own_pd__Ljava_lang_String_JLjava_lang_String__V rfl) rfl (by show 2 * 0 + _ ≤ _; exact Nat.le_of_eq rfl) (hb hby at_73) (fun _ _ => ⟨rfl, e63, (by decide : 6 + 0 ≤ _), (by decide : 23 + 0 ≤ _)⟩)
          dsimp only [Pt.U, Pt.locs, Pt.cells, Pt.slots] at X64 l64 y64 z64 st64 hQ64
          subst l64 y64 z64
          obtain ⟨rfl, Nq64, K64, -, F_file_b62, F_line_b62, F_text_b62⟩ := hQ64
          have N64 := Fr.app N61 Nq64
          refine own_goW (fun zt zk => st64.trans zk) ?_
          have Sf_b62' := Safe.keep K64 (allS Sf_b62 all0) Rc.1 Sf_b62
          replace Rc := Rc.trans (CHr.keep K64 (allS Sf_b62 all0) Rc.1)
          replace hk := Nat.le_trans hk K64.1
          replace Sf_b62 := Sf_b62'
          replace O := O.keep K64 (allS g_b62 all0)
          replace Kp := Kp.trans K64 (allS (Or.inr sz_b62) all0)
          replace Ex_b61 := Ex_b61.keep K64
          replace Fv61 := Fv61.keep K64 (ninS ne_b61_b62 nin0)
          replace Fc61 := Fc61.keep K64 (ninS ne_b61_b62 nin0)
          replace Vt61 := Vt61.keep K64 (ninS ne_t61_b62 nin0)
          replace Ex_b62 := Ex_b62.keep K64
          replace Ex_a63 := Ex_a63.keep K64
          replace Fc_a63 := Fc_a63.keep K64 (ninS (Ne.symm ne_b62_a63) nin0)
          replace Fv_a63 := Fv_a63.keep K64 (ninS (Ne.symm ne_b62_a63) nin0)
          replace Va_b63 := Va_b63.keep K64 (ninS (Ne.symm ne_b62_b63) nin0)
          show own_GoW p e below s _ _ _ _ (T64.setTop (mkF m 76 #[iv p1, iv p2, iv p3, .val (.long p4), .second, iv (4 : Int32), iv c57, iv c58, iv c59, iv c60, rv b61, .unset, .unset, .unset, .unset, .unset] [(.ref b62)]))
          refine own_goW (fun zt zk => (XS.astore X64.here hx rfl (hb hby at_76) rfl rfl (l' := #[iv p1, iv p2, iv p3, .val (.long p4), .second, iv (4 : Int32), iv c57, iv c58, iv c59, iv c60, rv b61, rv b62, .unset, .unset, .unset, .unset]) rfl (XS.aload X64.here hx rfl (hb hby at_78) rfl rfl (XS.iloadN X64.here hx rfl (hb hby at_80) rfl zk)))) ?_
          show own_GoW p e below s _ _ _ _ (T64.setTop (mkF m 81 #[iv p1, iv p2, iv p3, .val (.long p4), .second, iv (4 : Int32), iv c57, iv c58, iv c59, iv c60, rv b61, rv b62, .unset, .unset, .unset, .unset] [(.int p3), (.ref b62)]))
          by_cases hfr : (4 : Int32) < p3
          · obtain ⟨cq65, kq65, qa65, qb65, qc65⟩ := isOf hZ rfl Ex_b62
            obtain ⟨_, _, ⟨T65, L65, k65, n65⟩, -, X65, ⟨Lc65, hQ65, l65, y65, z65⟩, st65⟩ := X64.virtualBack hx (y := (⟨"com/example/riskscan/riskscan/io/FixedWidthRecord", "reaches", "(I)Z"⟩ : MethodName)) (z := (⟨"com/example/riskscan/riskscan/io/FixedWidthRecord", "reaches", "(I)Z"⟩ : MethodName)) hown (mvT hZ (hw _ (List.mem_of_getElem? (i := 41) rfl))) (mvT hZ (hw _ (List.mem_of_getElem? (i := 42) rfl))) (notFace_of_selects (args := #[]) (mvT hZ (hw _ (List.mem_of_getElem? (i := 44) rfl)))) (mvT hZ (hw _ (List.mem_of_getElem? (i := 44) rfl))) (mvT hZ (hw _ (List.mem_of_getElem? (i := 43) rfl))) (by decide) (backOf (W := 0) (own_rre0 l Z a0 hw [] b62 p3 b61 o_COMPACT_STRINGS t61 kb61 (4 : Int32) [(.int (c57.toInt8.toInt32)), (.int (c58.toInt8.toInt32)), (.int (c59.toInt8.toInt32)), (.int (c60.toInt8.toInt32))] T64.heap n0 (Nat.le_trans Z0 Kp.1) O S_o_COMPACT_STRINGS F_text_b62 Ex_b61 Fv61 Fc61 Vt61 nz_o_COMPACT_STRINGS hfr) hZ (hw _ (List.mem_of_getElem? (i := 45) rfl)) (hw _ (List.mem_of_getElem? (i := 29) rfl)) (by decide) (by decide)) qa65 qc65 (g := (mkF m 81 #[iv p1, iv p2, iv p3, .val (.long p4), .second, iv (4 : Int32), iv c57, iv c58, iv c59, iv c60, rv b61, rv b62, .unset, .unset, .unset, .unset] [(.int p3), (.ref b62)])) rfl (by rw [hml]; rfl) (Steps.refl _) (argsL := [(.int p3)]) (rest := []) (lenOf own_pd__I_Z rfl) rfl (by show 2 * 0 + _ ≤ _; exact Nat.le_of_eq rfl) (hb hby at_81) (fun _ _ => ⟨rfl, rfl, (by decide : 6 + 0 ≤ _), (by decide : 23 + 0 ≤ _)⟩)
            dsimp only [Pt.U, Pt.locs, Pt.cells, Pt.slots] at X65 l65 y65 z65 st65 hQ65
            subst l65 y65 z65
            obtain ⟨rfl, Nq65, e65⟩ := hQ65
            have N65 := Fr.app N64 Nq65
            refine own_goW (fun zt zk => st65.trans zk) ?_
            show own_GoW p e below s _ _ _ _ (T65.setTop (mkF m 84 #[iv p1, iv p2, iv p3, .val (.long p4), .second, iv (4 : Int32), iv c57, iv c58, iv c59, iv c60, rv b61, rv b62, .unset, .unset, .unset, .unset] [(.int (0 : Int32))]))
            refine own_goW (fun zt zk => (XS.istore X65.here hx rfl (hb hby at_84) rfl (l' := #[iv p1, iv p2, iv p3, .val (.long p4), .second, iv (4 : Int32), iv c57, iv c58, iv c59, iv c60, rv b61, rv b62, iv (0 : Int32), .unset, .unset, .unset]) rfl (XS.iloadN X65.here hx rfl (hb hby at_86) rfl (XS.iload X65.here hx rfl (hb hby at_87) rfl (XS.icmpYes X65.here hx rfl (pc0 := 89) (pc' := 96) rfl (hb hby at_89) rfl (tlt (hfr : (4 : Int32) < p3)).2.2.1 (by decide) (by decide) (XS.iconst X65.here hx rfl (hb hby at_96) (XS.istore X65.here hx rfl (hb hby at_97) rfl (l' := #[iv p1, iv p2, iv p3, .val (.long p4), .second, iv (4 : Int32), iv c57, iv c58, iv c59, iv c60, rv b61, rv b62, iv (0 : Int32), iv (0 : Int32), .unset, .unset]) rfl (XS.aload X65.here hx rfl (hb hby at_99) rfl rfl (XS.iload X65.here hx rfl (hb hby at_101) rfl zk))))))))) ?_
            show own_GoW p e below s _ _ _ _ (T65.setTop (mkF m 103 #[iv p1, iv p2, iv p3, .val (.long p4), .second, iv (4 : Int32), iv c57, iv c58, iv c59, iv c60, rv b61, rv b62, iv (0 : Int32), iv (0 : Int32), .unset, .unset] [(.int (4 : Int32)), (.ref b62)]))
            obtain ⟨cq66, kq66, qa66, qb66, qc66⟩ := isOf hZ e65 Ex_b62
            obtain ⟨_, _, ⟨T66, L66, k66, n66⟩, -, X66, ⟨Lc66, hQ66, l66, y66, z66⟩, st66⟩ := X65.virtualBack hx (y := (⟨"com/example/riskscan/riskscan/io/FixedWidthRecord", "reaches", "(I)Z"⟩ : MethodName)) (z := (⟨"com/example/riskscan/riskscan/io/FixedWidthRecord", "reaches", "(I)Z"⟩ : MethodName)) hown (mvT hZ (hw _ (List.mem_of_getElem? (i := 41) rfl))) (mvT hZ (hw _ (List.mem_of_getElem? (i := 42) rfl))) (notFace_of_selects (args := #[]) (mvT hZ (hw _ (List.mem_of_getElem? (i := 44) rfl)))) (mvT hZ (hw _ (List.mem_of_getElem? (i := 44) rfl))) (mvT hZ (hw _ (List.mem_of_getElem? (i := 43) rfl))) (by decide) (backOf (W := 0) (own_rre1 l Z a0 hw [] b62 (4 : Int32) b61 o_COMPACT_STRINGS t61 kb61 (4 : Int32) [(.int (c57.toInt8.toInt32)), (.int (c58.toInt8.toInt32)), (.int (c59.toInt8.toInt32)), (.int (c60.toInt8.toInt32))] T64.heap n0 (Nat.le_trans Z0 Kp.1) O S_o_COMPACT_STRINGS F_text_b62 Ex_b61 Fv61 Fc61 Vt61 nz_o_COMPACT_STRINGS (by decide)) hZ (hw _ (List.mem_of_getElem? (i := 45) rfl)) (hw _ (List.mem_of_getElem? (i := 29) rfl)) (by decide) (by decide)) qa66 qc66 (g := (mkF m 103 #[iv p1, iv p2, iv p3, .val (.long p4), .second, iv (4 : Int32), iv c57, iv c58, iv c59, iv c60, rv b61, rv b62, iv (0 : Int32), iv (0 : Int32), .unset, .unset] [(.int (4 : Int32)), (.ref b62)])) rfl (by rw [hml]; rfl) (Steps.refl _) (argsL := [(.int (4 : Int32))]) (rest := []) (lenOf own_pd__I_Z rfl) rfl (by show 2 * 0 + _ ≤ _; exact Nat.le_of_eq rfl) (hb hby at_103) (fun _ _ => ⟨rfl, e65, (by decide : 6 + 0 ≤ _), (by decide : 23 + 0 ≤ _)⟩)
            dsimp only [Pt.U, Pt.locs, Pt.cells, Pt.slots] at X66 l66 y66 z66 st66 hQ66
            subst l66 y66 z66
            obtain ⟨rfl, Nq66, e66⟩ := hQ66
            have N66 := Fr.app N65 Nq66
            refine own_goW (fun zt zk => st66.trans zk) ?_
            show own_GoW p e below s _ _ _ _ (T66.setTop (mkF m 106 #[iv p1, iv p2, iv p3, .val (.long p4), .second, iv (4 : Int32), iv c57, iv c58, iv c59, iv c60, rv b61, rv b62, iv (0 : Int32), iv (0 : Int32), .unset, .unset] [(.int (1 : Int32))]))
            refine own_goW (fun zt zk => (XS.istore X66.here hx rfl (hb hby at_106) rfl (l' := #[iv p1, iv p2, iv p3, .val (.long p4), .second, iv (4 : Int32), iv c57, iv c58, iv c59, iv c60, rv b61, rv b62, iv (0 : Int32), iv (0 : Int32), iv (1 : Int32), .unset]) rfl (XS.aload X66.here hx rfl (hb hby at_108) rfl rfl (XS.iload X66.here hx rfl (hb hby at_110) rfl (XS.iconst X66.here hx rfl (hb hby at_112) (XS.iadd X66.here hx rfl (hb hby at_113) rfl zk)))))) ?_
            show own_GoW p e below s _ _ _ _ (T66.setTop (mkF m 114 #[iv p1, iv p2, iv p3, .val (.long p4), .second, iv (4 : Int32), iv c57, iv c58, iv c59, iv c60, rv b61, rv b62, iv (0 : Int32), iv (0 : Int32), iv (1 : Int32), .unset] [(.int (5 : Int32)), (.ref b62)]))
            obtain ⟨cq67, kq67, qa67, qb67, qc67⟩ := isOf hZ e66 Ex_b62
            obtain ⟨_, _, ⟨T67, L67, k67, n67⟩, -, X67, ⟨Lc67, hQ67, l67, y67, z67⟩, st67⟩ := X66.virtualBack hx (y := (⟨"com/example/riskscan/riskscan/io/FixedWidthRecord", "reaches", "(I)Z"⟩ : MethodName)) (z := (⟨"com/example/riskscan/riskscan/io/FixedWidthRecord", "reaches", "(I)Z"⟩ : MethodName)) hown (mvT hZ (hw _ (List.mem_of_getElem? (i := 41) rfl))) (mvT hZ (hw _ (List.mem_of_getElem? (i := 42) rfl))) (notFace_of_selects (args := #[]) (mvT hZ (hw _ (List.mem_of_getElem? (i := 44) rfl)))) (mvT hZ (hw _ (List.mem_of_getElem? (i := 44) rfl))) (mvT hZ (hw _ (List.mem_of_getElem? (i := 43) rfl))) (by decide) (backOf (W := 0) (own_rre0 l Z a0 hw [] b62 (5 : Int32) b61 o_COMPACT_STRINGS t61 kb61 (4 : Int32) [(.int (c57.toInt8.toInt32)), (.int (c58.toInt8.toInt32)), (.int (c59.toInt8.toInt32)), (.int (c60.toInt8.toInt32))] T64.heap n0 (Nat.le_trans Z0 Kp.1) O S_o_COMPACT_STRINGS F_text_b62 Ex_b61 Fv61 Fc61 Vt61 nz_o_COMPACT_STRINGS (by decide)) hZ (hw _ (List.mem_of_getElem? (i := 45) rfl)) (hw _ (List.mem_of_getElem? (i := 29) rfl)) (by decide) (by decide)) qa67 qc67 (g := (mkF m 114 #[iv p1, iv p2, iv p3, .val (.long p4), .second, iv (4 : Int32), iv c57, iv c58, iv c59, iv c60, rv b61, rv b62, iv (0 : Int32), iv (0 : Int32), iv (1 : Int32), .unset] [(.int (5 : Int32)), (.ref b62)])) rfl (by rw [hml]; rfl) (Steps.refl _) (argsL := [(.int (5 : Int32))]) (rest := []) (lenOf own_pd__I_Z rfl) rfl (by show 2 * 0 + _ ≤ _; exact Nat.le_of_eq rfl) (hb hby at_114) (fun _ _ => ⟨rfl, e66, (by decide : 6 + 0 ≤ _), (by decide : 23 + 0 ≤ _)⟩)
            dsimp only [Pt.U, Pt.locs, Pt.cells, Pt.slots] at X67 l67 y67 z67 st67 hQ67
            subst l67 y67 z67
            obtain ⟨rfl, Nq67, e67⟩ := hQ67
            have N67 := Fr.app N66 Nq67
            refine own_goW (fun zt zk => st67.trans zk) ?_
            show own_GoW p e below s _ _ _ _ (T67.setTop (mkF m 117 #[iv p1, iv p2, iv p3, .val (.long p4), .second, iv (4 : Int32), iv c57, iv c58, iv c59, iv c60, rv b61, rv b62, iv (0 : Int32), iv (0 : Int32), iv (1 : Int32), .unset] [(.int (0 : Int32))]))
            refine own_goW (fun zt zk => (XS.istore X67.here hx rfl (hb hby at_117) rfl (l' := #[iv p1, iv p2, iv p3, .val (.long p4), .second, iv (4 : Int32), iv c57, iv c58, iv c59, iv c60, rv b61, rv b62, iv (0 : Int32), iv (0 : Int32), iv (1 : Int32), iv (0 : Int32)]) rfl (XS.iload X67.here hx rfl (hb hby at_119) rfl (XS.iload X67.here hx rfl (hb hby at_121) rfl (XS.icmpNo X67.here hx rfl (hb hby at_123) rfl (teq (rfl : (0 : Int32) = (0 : Int32))).2 (XS.iload X67.here hx rfl (hb hby at_126) rfl (XS.ifNo X67.here hx rfl (hb hby at_128) rfl ((if0 _ _).trans (feq ((by decide) : ¬ ((1 : Int32) = (0 : Int32)))).1) (XS.iload X67.here hx rfl (hb hby at_131) rfl (XS.ifNo X67.here hx rfl (hb hby at_133) rfl ((if0 _ _).trans (teq (rfl : (0 : Int32) = (0 : Int32))).2) (XS.iconst X67.here hx rfl (hb hby at_136) (XS.goto X67.here hx rfl (pc0 := 137) (pc' := 141) rfl (hb hby at_137) (by decide) (by decide) zk))))))))))) ?_
            show own_GoW p e below s _ _ _ _ (T67.setTop (mkF m 141 #[iv p1, iv p2, iv p3, .val (.long p4), .second, iv (4 : Int32), iv c57, iv c58, iv c59, iv c60, rv b61, rv b62, iv (0 : Int32), iv (0 : Int32), iv (1 : Int32), iv (0 : Int32)] [(.int (1 : Int32))]))
            have Re := Rc.trans (CHv.at X67 hZ hEL Rc.1)
            exact own_finW X67 hS (by rw [e67]; exact hk) (by rw [e67, hh]; exact Re) Bd.notSynchronized (fun h => by rw [Bd.returns] at h; cases h) (fun fs hr => retN X67 hx (t := .boolean) Bd.returns (by simp) (hb hby at_141) hr) (by rw [e67]; exact ⟨rfl, N67⟩) (by decide) (by decide)
          · obtain ⟨cq68, kq68, qa68, qb68, qc68⟩ := isOf hZ rfl Ex_b62
            obtain ⟨_, _, ⟨T68, L68, k68, n68⟩, -, X68, ⟨Lc68, hQ68, l68, y68, z68⟩, st68⟩ := X64.virtualBack hx (y := (⟨"com/example/riskscan/riskscan/io/FixedWidthRecord", "reaches", "(I)Z"⟩ : MethodName)) (z := (⟨"com/example/riskscan/riskscan/io/FixedWidthRecord", "reaches", "(I)Z"⟩ : MethodName)) hown (mvT hZ (hw _ (List.mem_of_getElem? (i := 41) rfl))) (mvT hZ (hw _ (List.mem_of_getElem? (i := 42) rfl))) (notFace_of_selects (args := #[]) (mvT hZ (hw _ (List.mem_of_getElem? (i := 44) rfl)))) (mvT hZ (hw _ (List.mem_of_getElem? (i := 44) rfl))) (mvT hZ (hw _ (List.mem_of_getElem? (i := 43) rfl))) (by decide) (backOf (W := 0) (own_rre1 l Z a0 hw [] b62 p3 b61 o_COMPACT_STRINGS t61 kb61 (4 : Int32) [(.int (c57.toInt8.toInt32)), (.int (c58.toInt8.toInt32)), (.int (c59.toInt8.toInt32)), (.int (c60.toInt8.toInt32))] T64.heap n0 (Nat.le_trans Z0 Kp.1) O S_o_COMPACT_STRINGS F_text_b62 Ex_b61 Fv61 Fc61 Vt61 nz_o_COMPACT_STRINGS hfr) hZ (hw _ (List.mem_of_getElem? (i := 45) rfl)) (hw _ (List.mem_of_getElem? (i := 29) rfl)) (by decide) (by decide)) qa68 qc68 (g := (mkF m 81 #[iv p1, iv p2, iv p3, .val (.long p4), .second, iv (4 : Int32), iv c57, iv c58, iv c59, iv c60, rv b61, rv b62, .unset, .unset, .unset, .unset] [(.int p3), (.ref b62)])) rfl (by rw [hml]; rfl) (Steps.refl _) (argsL := [(.int p3)]) (rest := []) (lenOf own_pd__I_Z rfl) rfl (by show 2 * 0 + _ ≤ _; exact Nat.le_of_eq rfl) (hb hby at_81) (fun _ _ => ⟨rfl, rfl, (by decide : 6 + 0 ≤ _), (by decide : 23 + 0 ≤ _)⟩)
            dsimp only [Pt.U, Pt.locs, Pt.cells, Pt.slots] at X68 l68 y68 z68 st68 hQ68
            subst l68 y68 z68
            obtain ⟨rfl, Nq68, e68⟩ := hQ68
            have N68 := Fr.app N64 Nq68
            refine own_goW (fun zt zk => st68.trans zk) ?_
            show own_GoW p e below s _ _ _ _ (T68.setTop (mkF m 84 #[iv p1, iv p2, iv p3, .val (.long p4), .second, iv (4 : Int32), iv c57, iv c58, iv c59, iv c60, rv b61, rv b62, .unset, .unset, .unset, .unset] [(.int (1 : Int32))]))
            refine own_goW (fun zt zk => (XS.istore X68.here hx rfl (hb hby at_84) rfl (l' := #[iv p1, iv p2, iv p3, .val (.long p4), .second, iv (4 : Int32), iv c57, iv c58, iv c59, iv c60, rv b61, rv b62, iv (1 : Int32), .unset, .unset, .unset]) rfl (XS.iloadN X68.here hx rfl (hb hby at_86) rfl (XS.iload X68.here hx rfl (hb hby at_87) rfl (XS.icmpNo X68.here hx rfl (hb hby at_89) rfl (flt (hfr : ¬ ((4 : Int32) < p3))).2.2.1 (XS.iconst X68.here hx rfl (hb hby at_92) (XS.goto X68.here hx rfl (pc0 := 93) (pc' := 97) rfl (hb hby at_93) (by decide) (by decide) (XS.istore X68.here hx rfl (hb hby at_97) rfl (l' := #[iv p1, iv p2, iv p3, .val (.long p4), .second, iv (4 : Int32), iv c57, iv c58, iv c59, iv c60, rv b61, rv b62, iv (1 : Int32), iv (1 : Int32), .unset, .unset]) rfl (XS.aload X68.here hx rfl (hb hby at_99) rfl rfl (XS.iload X68.here hx rfl (hb hby at_101) rfl zk)))))))))) ?_
            show own_GoW p e below s _ _ _ _ (T68.setTop (mkF m 103 #[iv p1, iv p2, iv p3, .val (.long p4), .second, iv (4 : Int32), iv c57, iv c58, iv c59, iv c60, rv b61, rv b62, iv (1 : Int32), iv (1 : Int32), .unset, .unset] [(.int (4 : Int32)), (.ref b62)]))
            obtain ⟨cq69, kq69, qa69, qb69, qc69⟩ := isOf hZ e68 Ex_b62
            obtain ⟨_, _, ⟨T69, L69, k69, n69⟩, -, X69, ⟨Lc69, hQ69, l69, y69, z69⟩, st69⟩ := X68.virtualBack hx (y := (⟨"com/example/riskscan/riskscan/io/FixedWidthRecord", "reaches", "(I)Z"⟩ : MethodName)) (z := (⟨"com/example/riskscan/riskscan/io/FixedWidthRecord", "reaches", "(I)Z"⟩ : MethodName)) hown (mvT hZ (hw _ (List.mem_of_getElem? (i := 41) rfl))) (mvT hZ (hw _ (List.mem_of_getElem? (i := 42) rfl))) (notFace_of_selects (args := #[]) (mvT hZ (hw _ (List.mem_of_getElem? (i := 44) rfl)))) (mvT hZ (hw _ (List.mem_of_getElem? (i := 44) rfl))) (mvT hZ (hw _ (List.mem_of_getElem? (i := 43) rfl))) (by decide) (backOf (W := 0) (own_rre1 l Z a0 hw [] b62 (4 : Int32) b61 o_COMPACT_STRINGS t61 kb61 (4 : Int32) [(.int (c57.toInt8.toInt32)), (.int (c58.toInt8.toInt32)), (.int (c59.toInt8.toInt32)), (.int (c60.toInt8.toInt32))] T64.heap n0 (Nat.le_trans Z0 Kp.1) O S_o_COMPACT_STRINGS F_text_b62 Ex_b61 Fv61 Fc61 Vt61 nz_o_COMPACT_STRINGS (by decide)) hZ (hw _ (List.mem_of_getElem? (i := 45) rfl)) (hw _ (List.mem_of_getElem? (i := 29) rfl)) (by decide) (by decide)) qa69 qc69 (g := (mkF m 103 #[iv p1, iv p2, iv p3, .val (.long p4), .second, iv (4 : Int32), iv c57, iv c58, iv c59, iv c60, rv b61, rv b62, iv (1 : Int32), iv (1 : Int32), .unset, .unset] [(.int (4 : Int32)), (.ref b62)])) rfl (by rw [hml]; rfl) (Steps.refl _) (argsL := [(.int (4 : Int32))]) (rest := []) (lenOf own_pd__I_Z rfl) rfl (by show 2 * 0 + _ ≤ _; exact Nat.le_of_eq rfl) (hb hby at_103) (fun _ _ => ⟨rfl, e68, (by decide : 6 + 0 ≤ _), (by decide : 23 + 0 ≤ _)⟩)
            dsimp only [Pt.U, Pt.locs, Pt.cells, Pt.slots] at X69 l69 y69 z69 st69 hQ69
            subst l69 y69 z69
            obtain ⟨rfl, Nq69, e69⟩ := hQ69
            have N69 := Fr.app N68 Nq69
            refine own_goW (fun zt zk => st69.trans zk) ?_
            show own_GoW p e below s _ _ _ _ (T69.setTop (mkF m 106 #[iv p1, iv p2, iv p3, .val (.long p4), .second, iv (4 : Int32), iv c57, iv c58, iv c59, iv c60, rv b61, rv b62, iv (1 : Int32), iv (1 : Int32), .unset, .unset] [(.int (1 : Int32))]))
            refine own_goW (fun zt zk => (XS.istore X69.here hx rfl (hb hby at_106) rfl (l' := #[iv p1, iv p2, iv p3, .val (.long p4), .second, iv (4 : Int32), iv c57, iv c58, iv c59, iv c60, rv b61, rv b62, iv (1 : Int32), iv (1 : Int32), iv (1 : Int32), .unset]) rfl (XS.aload X69.here hx rfl (hb hby at_108) rfl rfl (XS.iload X69.here hx rfl (hb hby at_110) rfl (XS.iconst X69.here hx rfl (hb hby at_112) (XS.iadd X69.here hx rfl (hb hby at_113) rfl zk)))))) ?_
            show own_GoW p e below s _ _ _ _ (T69.setTop (mkF m 114 #[iv p1, iv p2, iv p3, .val (.long p4), .second, iv (4 : Int32), iv c57, iv c58, iv c59, iv c60, rv b61, rv b62, iv (1 : Int32), iv (1 : Int32), iv (1 : Int32), .unset] [(.int (5 : Int32)), (.ref b62)]))
            obtain ⟨cq70, kq70, qa70, qb70, qc70⟩ := isOf hZ e69 Ex_b62
            obtain ⟨_, _, ⟨T70, L70, k70, n70⟩, -, X70, ⟨Lc70, hQ70, l70, y70, z70⟩, st70⟩ := X69.virtualBack hx (y := (⟨"com/example/riskscan/riskscan/io/FixedWidthRecord", "reaches", "(I)Z"⟩ : MethodName)) (z := (⟨"com/example/riskscan/riskscan/io/FixedWidthRecord", "reaches", "(I)Z"⟩ : MethodName)) hown (mvT hZ (hw _ (List.mem_of_getElem? (i := 41) rfl))) (mvT hZ (hw _ (List.mem_of_getElem? (i := 42) rfl))) (notFace_of_selects (args := #[]) (mvT hZ (hw _ (List.mem_of_getElem? (i := 44) rfl)))) (mvT hZ (hw _ (List.mem_of_getElem? (i := 44) rfl))) (mvT hZ (hw _ (List.mem_of_getElem? (i := 43) rfl))) (by decide) (backOf (W := 0) (own_rre0 l Z a0 hw [] b62 (5 : Int32) b61 o_COMPACT_STRINGS t61 kb61 (4 : Int32) [(.int (c57.toInt8.toInt32)), (.int (c58.toInt8.toInt32)), (.int (c59.toInt8.toInt32)), (.int (c60.toInt8.toInt32))] T64.heap n0 (Nat.le_trans Z0 Kp.1) O S_o_COMPACT_STRINGS F_text_b62 Ex_b61 Fv61 Fc61 Vt61 nz_o_COMPACT_STRINGS (by decide)) hZ (hw _ (List.mem_of_getElem? (i := 45) rfl)) (hw _ (List.mem_of_getElem? (i := 29) rfl)) (by decide) (by decide)) qa70 qc70 (g := (mkF m 114 #[iv p1, iv p2, iv p3, .val (.long p4), .second, iv (4 : Int32), iv c57, iv c58, iv c59, iv c60, rv b61, rv b62, iv (1 : Int32), iv (1 : Int32), iv (1 : Int32), .unset] [(.int (5 : Int32)), (.ref b62)])) rfl (by rw [hml]; rfl) (Steps.refl _) (argsL := [(.int (5 : Int32))]) (rest := []) (lenOf own_pd__I_Z rfl) rfl (by show 2 * 0 + _ ≤ _; exact Nat.le_of_eq rfl) (hb hby at_114) (fun _ _ => ⟨rfl, e69, (by decide : 6 + 0 ≤ _), (by decide : 23 + 0 ≤ _)⟩)
            dsimp only [Pt.U, Pt.locs, Pt.cells, Pt.slots] at X70 l70 y70 z70 st70 hQ70
            subst l70 y70 z70
            obtain ⟨rfl, Nq70, e70⟩ := hQ70
            have N70 := Fr.app N69 Nq70
            refine own_goW (fun zt zk => st70.trans zk) ?_
            show own_GoW p e below s _ _ _ _ (T70.setTop (mkF m 117 #[iv p1, iv p2, iv p3, .val (.long p4), .second, iv (4 : Int32), iv c57, iv c58, iv c59, iv c60, rv b61, rv b62, iv (1 : Int32), iv (1 : Int32), iv (1 : Int32), .unset] [(.int (0 : Int32))]))
            refine own_goW (fun zt zk => (XS.istore X70.here hx rfl (hb hby at_117) rfl (l' := #[iv p1, iv p2, iv p3, .val (.long p4), .second, iv (4 : Int32), iv c57, iv c58, iv c59, iv c60, rv b61, rv b62, iv (1 : Int32), iv (1 : Int32), iv (1 : Int32), iv (0 : Int32)]) rfl (XS.iload X70.here hx rfl (hb hby at_119) rfl (XS.iload X70.here hx rfl (hb hby at_121) rfl (XS.icmpNo X70.here hx rfl (hb hby at_123) rfl (teq (rfl : (1 : Int32) = (1 : Int32))).2 (XS.iload X70.here hx rfl (hb hby at_126) rfl (XS.ifNo X70.here hx rfl (hb hby at_128) rfl ((if0 _ _).trans (feq ((by decide) : ¬ ((1 : Int32) = (0 : Int32)))).1) (XS.iload X70.here hx rfl (hb hby at_131) rfl (XS.ifNo X70.here hx rfl (hb hby at_133) rfl ((if0 _ _).trans (teq (rfl : (0 : Int32) = (0 : Int32))).2) (XS.iconst X70.here hx rfl (hb hby at_136) (XS.goto X70.here hx rfl (pc0 := 137) (pc' := 141) rfl (hb hby at_137) (by decide) (by decide) zk))))))))))) ?_
            show own_GoW p e below s _ _ _ _ (T70.setTop (mkF m 141 #[iv p1, iv p2, iv p3, .val (.long p4), .second, iv (4 : Int32), iv c57, iv c58, iv c59, iv c60, rv b61, rv b62, iv (1 : Int32), iv (1 : Int32), iv (1 : Int32), iv (0 : Int32)] [(.int (1 : Int32))]))
            have Re := Rc.trans (CHv.at X70 hZ hEL Rc.1)
            exact own_finW X70 hS (by rw [e70]; exact hk) (by rw [e70, hh]; exact Re) Bd.notSynchronized (fun h => by rw [Bd.returns] at h; cases h) (fun fs hr => retN X70 hx (t := .boolean) Bd.returns (by simp) (hb hby at_141) hr) (by rw [e70]; exact ⟨rfl, N70⟩) (by decide) (by decide)
set_option maxRecDepth 65536 in
set_option maxHeartbeats 40000000 in
theorem comes_1 {Post : Tables → Env → Array Value → State → Outcome → State → Prop} (hpost : ∀ tb e args s v u, (limb_1_1.after args s (.returned v) u = true ∧ limb_1_2.after args s (.returned v) u = true ∧ True) → ReturnedEndW s (.returned v) u (Jvm.fieldLocs frame_1_writes args s ++ Jvm.arrayLocs frame_1_arrays args s ++ Jvm.staticLocs frame_1_statics s) 24 2176 → Post tb e args s (.returned v) u) :
    ArmFor flags0 classFile x code maxLocals ret World_1 tables_1 room_1 Calls_1 rest_1 Pre_1 Post := by
  intro l hfl _ _ p e ha hc hk s m args below hf hA hF happ hP
  obtain ⟨hcalls, hrest, hpre⟩ := hP
  obtain ⟨-, -, -, hnamed, -, -, -, hat⟩ := (Spec.applies_iff hf).mp happ
  obtain ⟨hg, hn⟩ := and_e (Cond.before_iff.mp (show (Jvm.Cond.and given_1 narrow_1).before args s = true from hpre))
  obtain ⟨g0, r0⟩ := and_e hg
  obtain ⟨g1, r1⟩ := and_e r0
  obtain ⟨g2, r2⟩ := and_e r1
  obtain ⟨g3, r3⟩ := and_e r2
  have g4 := r3
  obtain ⟨w0, w1, w2, w3, rfl⟩ : ∃ w0 w1 w2 w3 : Value, args = #[w0, w1, w2, w3] := by
    have hs : args.size = 4 := by simpa [Cond.value, given_1] using g0
    obtain ⟨L⟩ := args
    match L, hs with
    | [w0, w1, w2, w3], _ => exact ⟨w0, w1, w2, w3, rfl⟩
  have hw := fun d (hd : d ∈ tables_1) => atoms_spec (ws := Jvm.Cond.code x code maxLocals ret :: tables_1) hat d (List.mem_cons_of_mem _ hd)
  have hfit : Fit s := fun {y c} hc i hi => by
    obtain ⟨ha, rfl⟩ := Array.getElem?_eq_some_iff.mp hc
    have q := List.all_eq_true.mp ((Array.all_eq_true_iff_forall_mem.mp hF) _ (Array.getElem_mem ha)) i (List.mem_range.mpr hi)
    simpa [Array.getElem?_eq_getElem hi] using q
  obtain ⟨hsets, hown0⟩ := atoms_of _ (rest_1_c_eq ▸ (show rest_1_c.before _ s = true from hrest))
  obtain ⟨i0, ei0⟩ := is_v g1
  obtain rfl : w0 = (.int i0) := Option.some.inj ei0
  obtain ⟨i1, ei1⟩ := is_v g2
  obtain rfl : w1 = (.int i1) := Option.some.inj ei1
  obtain ⟨i2, ei2⟩ := is_v g3
  obtain rfl : w2 = (.int i2) := Option.some.inj ei2
  obtain ⟨i3, ei3⟩ := isL_v g4
  obtain rfl : w3 = (.long i3) := Option.some.inj ei3
  obtain ⟨o_COMPACT_STRINGS, e_o_COMPACT_STRINGS⟩ := is_v (Cond.before_iff.mp (hsets _ (List.mem_of_getElem? (i := 1) rfl)))
  have S_o_COMPACT_STRINGS := Sta.start e_o_COMPACT_STRINGS (Or.inl (hsets _ (List.mem_of_getElem? (i := 0) rfl)))
  have nz_o_COMPACT_STRINGS : ¬ (o_COMPACT_STRINGS = (0 : Int32)) := gotF (Cond.eq_ints e_o_COMPACT_STRINGS (Term.int_eval 0)) (not_v (Cond.before_iff.mp (hsets _ (List.mem_of_getElem? (i := 2) rfl))))
  obtain ⟨o_SIOOBE_FORMATTER, e_o_SIOOBE_FORMATTER, r_o_SIOOBE_FORMATTER⟩ := isR_v (Cond.before_iff.mp (hsets _ (List.mem_of_getElem? (i := 8) rfl)))
  have S_o_SIOOBE_FORMATTER := Sta.start e_o_SIOOBE_FORMATTER (Or.inl (hsets _ (List.mem_of_getElem? (i := 7) rfl)))
  have hcw : Jvm.Lit.compactW.before #[(.int i0), (.int i1), (.int i2), (.long i3)] s = true := hsets _ (List.mem_of_getElem? (i := 2) rfl)
  have hCH : CHv s own_EL s.vm s.heap := CHv.start (own_EW s _ hw) hcalls.1 hcw (hw _ (List.mem_of_getElem? (i := 20) rfl)) (hw _ (List.mem_of_getElem? (i := 6) rfl))
  obtain ⟨n, o, h1, h2, h3, _, L, rfl, ⟨rfl, N⟩, -, hq⟩ := own_law l s _ hw tables_1 i0 i1 i2 i3 o_COMPACT_STRINGS o_SIOOBE_FORMATTER s.vm s.heap s.heap.size (Nat.le_refl _) (Old.start s) S_o_COMPACT_STRINGS S_o_SIOOBE_FORMATTER nz_o_COMPACT_STRINGS r_o_SIOOBE_FORMATTER p e ha hc hk s m _ below hf ((Spec.applies_iff_loose hf).mp happ).1 ⟨rfl, State.Warmed39.refl s, rfl, CHr.refl hCH⟩ trivial
  refine ⟨n, _, h1, h2, h3, hpost _ _ _ _ _ _ ⟨Cond.after_iff.mpr rfl, Cond.after_iff.mpr (eq_i res_at (Term.int_eval (1)) rfl), trivial⟩ ⟨hq.1, hq.2.1, hq.2.2.1, (hq.2.2.2.sift fun y hy => Or.inr (N y hy)).mono (by decide) (by decide)⟩⟩
theorem main_1_1 : Claimed_1_1 := comes_1 fun _ _ _ _ _ _ h hF => ⟨h.1, hF⟩
theorem main_1_2 : Claimed_1_2 := comes_1 fun _ _ _ _ _ _ h hF => ⟨h.2.1, hF⟩
end Jvm.Pilot.@@N@@
namespace Jvm.Pilot.@@N@@
open Jvm Jvm.ClassFile Sem Op Lib Jvm.Free Jvm.Stand Jvm.Pilot.@@N@@.Jvm.D
/-! MADE BY PROGRAM (witnessworld.py) out of the Statement's table words and the real class files: 18 classes; the members and pool entries that the words name. The judged class is class 1, her method 2. -/
namespace start1
open Jvm.ClassFile
def u (s : String) : CpInfo := .utf8 (stringToUtf16 s)
/-- a pool by its gaps: so many unusable entries, then the entry; so many at the end -/
def gap : Nat → List CpInfo → List CpInfo
  | 0, r => r
  | n + 1, r => .unusable :: gap n r
def poolList (es : List (Nat × CpInfo)) (last : Nat) : List CpInfo := es.foldr (fun e r => gap e.1 (e.2 :: r)) (gap last [])
def pool (es : List (Nat × CpInfo)) (last : Nat) : Array CpInfo := ⟨poolList es last⟩
def fileOf (pool : Array CpInfo) (this : Nat) (attrs : Array Attribute := #[]) (ms : Array MethodInfo := #[]) (fl : Nat := 33) (sup : Nat := 0) (ifs : Array Nat := #[]) (fds : Array FieldInfo := #[]) : ClassFile where
  minorVersion := 0
  majorVersion := 65
  constantPool := pool
  accessFlags := fl
  thisClass := this
  superClass := sup
  interfaces := ifs
  fields := fds
  methods := ms
  attributes := attrs
def plain (name : String) (sup : Option ClassId) : Class where
  name := name
  kind := .ordinary
  loader := none
  accessFlags := 33
  super := sup
  interfaces := #[]
  cf := none
  fields := #[]
  methods := #[]
  instanceTypes := #[]
  staticTypes := #[]
  resolved := #[]
  callSites := []
  init := .initialized
  statics := none
  mirror := none

def pool0 : Array CpInfo := pool [(5, u "<init>"), (0, u "()V"), (1, .class_ 10), (1, u "java/lang/Object")] 113

def k0c0 : Code := { maxStack := 0, maxLocals := 1, code := object_method_1_code, exceptionTable := #[], attributes := #[] }
def k0m0 : Method := { name := "<init>", desc := "()V", sig := { parameters := [], returnType := none }, accessFlags := 1, code := some k0c0 }
/-- java/lang/Object -/
def k0 : Class := { plain "java/lang/Object" none with
  accessFlags := 33
  interfaces := #[]
  cf := some (fileOf pool0 8 #[] #[{ accessFlags := 1, nameIndex := 5, descriptorIndex := 6, attributes := #[] }] 33 0 #[] #[])
  fields := #[]
  methods := #[k0m0]
  instanceTypes := #[]
  staticTypes := #[]
  resolved := Array.replicate 124 none
  statics := none }

def pool1 : Array CpInfo := pool [(2, .class_ 4), (1, u "java/lang/Object"), (0, u "<init>"), (0, u "()V"), (0, .class_ 8), (0, u "java/lang/String"), (0, .methodref 7 10), (0, .nameAndType 5 11), (0, u "([C)V"), (0, .integer 2147483647), (0, .methodref 14 15), (0, .class_ 16), (0, .nameAndType 17 18), (0, u "com/example/riskscan/riskscan/io/FixedWidthRecordReachesPinLaw"), (0, u "line"), (0, u "(ICCCC)Ljava/lang/String;"), (0, .class_ 20), (0, u "com/example/riskscan/riskscan/io/FixedWidthRecord"), (0, .string 22), (0, u "f"), (0, .methodref 19 24), (0, .nameAndType 5 25), (0, u "(Ljava/lang/String;JLjava/lang/String;)V"), (0, .methodref 19 27), (0, .nameAndType 28 29), (0, u "reaches"), (0, u "(I)Z"), (3, u "law"), (0, u "(IIIJ)Z")] 2

def k1m0 : Method := { name := "<init>", desc := "()V", sig := { parameters := [], returnType := none }, accessFlags := 1, code := none }
def k1c1 : Code := { maxStack := 6, maxLocals := 5, code := method_2_code, exceptionTable := #[], attributes := #[] }
def k1m1 : Method := { name := "line", desc := "(ICCCC)Ljava/lang/String;", sig := { parameters := [.int, .char, .char, .char, .char], returnType := some (.object "java/lang/String") }, accessFlags := 10, code := some k1c1 }
def k1c2 : Code := { maxStack := 6, maxLocals := 16, code := code, exceptionTable := #[], attributes := #[] }
def k1m2 : Method := { name := "law", desc := "(IIIJ)Z", sig := { parameters := [.int, .int, .int, .long], returnType := some .boolean }, accessFlags := 9, code := some k1c2 }
/-- com/example/riskscan/riskscan/io/FixedWidthRecordReachesPinLaw -/
def k1 : Class := { plain "com/example/riskscan/riskscan/io/FixedWidthRecordReachesPinLaw" (some 0) with
  accessFlags := 49
  interfaces := #[]
  cf := some (fileOf pool1 14 #[] #[{ accessFlags := 1, nameIndex := 5, descriptorIndex := 6, attributes := #[] }, { accessFlags := 10, nameIndex := 17, descriptorIndex := 18, attributes := #[] }, { accessFlags := 9, nameIndex := 33, descriptorIndex := 34, attributes := #[] }] 49 2 #[] #[])
  fields := #[]
  methods := #[k1m0, k1m1, k1m2]
  instanceTypes := #[]
  staticTypes := #[]
  resolved := Array.replicate 37 none
  statics := none }

def pool2 : Array CpInfo := pool [(1, .class_ 2), (0, u "java/io/Serializable"), (0, .class_ 4), (0, u "java/lang/Object")] 2

/-- java/io/Serializable -/
def k2 : Class := { plain "java/io/Serializable" (some 0) with
  accessFlags := 1537
  interfaces := #[]
  cf := some (fileOf pool2 1 #[] #[] 1537 3 #[] #[])
  fields := #[]
  methods := #[]
  instanceTypes := #[]
  staticTypes := #[]
  resolved := Array.replicate 7 none
  statics := none }

def pool3 : Array CpInfo := pool [(1, .class_ 2), (0, u "java/lang/Comparable"), (0, .class_ 4), (0, u "java/lang/Object")] 7

/-- java/lang/Comparable -/
def k3 : Class := { plain "java/lang/Comparable" (some 0) with
  accessFlags := 1537
  interfaces := #[]
  cf := some (fileOf pool3 1 #[] #[] 1537 3 #[] #[])
  fields := #[]
  methods := #[]
  instanceTypes := #[]
  staticTypes := #[]
  resolved := Array.replicate 12 none
  statics := none }

def pool4 : Array CpInfo := pool [(2, .class_ 4), (1, u "java/lang/CharSequence"), (42, .class_ 48), (0, u "java/lang/CharSequence$1CodePointIterator"), (10, .class_ 60), (0, u "java/lang/CharSequence$1CharIterator"), (5, .class_ 67), (0, u "java/lang/Object")] 63

/-- java/lang/CharSequence -/
def k4 : Class := { plain "java/lang/CharSequence" (some 0) with
  accessFlags := 1537
  interfaces := #[]
  cf := some (fileOf pool4 2 #[.nestMembers #[47, 59]] #[] 1537 66 #[] #[])
  fields := #[]
  methods := #[]
  instanceTypes := #[]
  staticTypes := #[]
  resolved := Array.replicate 131 none
  statics := none }

def pool5 : Array CpInfo := pool [(1, .class_ 2), (0, u "java/lang/constant/Constable"), (0, .class_ 4), (0, u "java/lang/Object")] 6

/-- java/lang/constant/Constable -/
def k5 : Class := { plain "java/lang/constant/Constable" (some 0) with
  accessFlags := 1537
  interfaces := #[]
  cf := some (fileOf pool5 1 #[] #[] 1537 3 #[] #[])
  fields := #[]
  methods := #[]
  instanceTypes := #[]
  staticTypes := #[]
  resolved := Array.replicate 11 none
  statics := none }

def pool6 : Array CpInfo := pool [(1, .class_ 2), (0, u "java/lang/constant/ConstantDesc"), (0, .class_ 4), (0, u "java/lang/Object")] 32

/-- java/lang/constant/ConstantDesc -/
def k6 : Class := { plain "java/lang/constant/ConstantDesc" (some 0) with
  accessFlags := 1537
  interfaces := #[]
  cf := some (fileOf pool6 1 #[] #[] 1537 3 #[] #[])
  fields := #[]
  methods := #[]
  instanceTypes := #[]
  staticTypes := #[]
  resolved := Array.replicate 37 none
  statics := none }

def pool7 : Array CpInfo := pool [(1, .methodref 2 3), (0, .class_ 4), (0, .nameAndType 5 6), (0, u "java/lang/Object"), (0, u "<init>"), (0, u "()V"), (0, .string 8), (0, u ""), (0, .fieldref 10 11), (0, .class_ 12), (0, .nameAndType 13 14), (0, u "java/lang/String"), (0, u "value"), (0, u "[B"), (0, .fieldref 10 16), (0, .nameAndType 17 18), (0, u "coder"), (0, u "B"), (2, u "hash"), (0, u "I"), (2, u "hashIsZero"), (0, u "Z"), (0, .methodref 10 28), (0, .nameAndType 5 29), (0, u "([CIILjava/lang/Void;)V"), (8, .fieldref 10 39), (0, .nameAndType 40 26), (0, u "COMPACT_STRINGS"), (1, .class_ 44), (1, u "java/lang/StringUTF16"), (0, u "compress"), (1, .methodref 42 48), (0, .nameAndType 49 50), (0, u "coderFromArrayLen"), (0, u "([BI)B"), (126, .methodref 42 178), (0, .nameAndType 45 179), (0, u "([CII)[B"), (154, u "()I"), (0, .methodref 10 336), (0, .nameAndType 17 337), (0, u "()B"), (169, u "length"), (67, .class_ 576), (0, u "java/lang/CharSequence"), (22, u "CASE_INSENSITIVE_ORDER"), (0, u "Ljava/util/Comparator;"), (409, u "([C)V"), (90, u "serialPersistentFields"), (0, u "[Ljava/io/ObjectStreamField;"), (0, .class_ 1104), (0, u "java/lang/String$CaseInsensitiveComparator"), (1, .class_ 1107), (0, u "java/io/Serializable"), (0, .class_ 1109), (0, u "java/lang/Comparable"), (0, .class_ 1111), (0, u "java/lang/constant/Constable"), (0, .class_ 1113), (0, u "java/lang/constant/ConstantDesc"), (2, u "serialVersionUID"), (0, u "J"), (3, u "REPL"), (0, u "C"), (2, u "LATIN1"), (1, u "UTF16")] 323

def k7m0 : Method := { name := "<init>", desc := "()V", sig := { parameters := [], returnType := none }, accessFlags := 1, code := none }
def k7c1 : Code := { maxStack := 5, maxLocals := 2, code := jdk_42_method_3_code, exceptionTable := #[], attributes := #[] }
def k7m1 : Method := { name := "<init>", desc := "([C)V", sig := { parameters := [(.array .char)], returnType := none }, accessFlags := 1, code := some k7c1 }
def k7c2 : Code := { maxStack := 2, maxLocals := 1, code := jdk_42_method_54_code, exceptionTable := #[], attributes := #[] }
def k7m2 : Method := { name := "length", desc := "()I", sig := { parameters := [], returnType := some .int }, accessFlags := 1, code := some k7c2 }
def k7c3 : Code := { maxStack := 4, maxLocals := 6, code := jdk_42_method_149_code, exceptionTable := #[], attributes := #[] }
def k7m3 : Method := { name := "<init>", desc := "([CIILjava/lang/Void;)V", sig := { parameters := [(.array .char), .int, .int, (.object "java/lang/Void")], returnType := none }, accessFlags := 2, code := some k7c3 }
def k7c4 : Code := { maxStack := 1, maxLocals := 1, code := jdk_42_method_152_code, exceptionTable := #[], attributes := #[] }
def k7m4 : Method := { name := "coder", desc := "()B", sig := { parameters := [], returnType := some .byte }, accessFlags := 0, code := some k7c4 }
/-- java/lang/String -/
def k7 : Class := { plain "java/lang/String" (some 0) with
  accessFlags := 49
  interfaces := #[2, 3, 4, 5, 6]
  cf := some (fileOf pool7 10 #[.nestMembers #[1103]] #[{ accessFlags := 1, nameIndex := 5, descriptorIndex := 6, attributes := #[] }, { accessFlags := 1, nameIndex := 5, descriptorIndex := 1010, attributes := #[] }, { accessFlags := 1, nameIndex := 507, descriptorIndex := 334, attributes := #[] }, { accessFlags := 2, nameIndex := 5, descriptorIndex := 29, attributes := #[] }, { accessFlags := 0, nameIndex := 17, descriptorIndex := 337, attributes := #[] }] 49 2 #[1106, 1108, 575, 1110, 1112] #[{ accessFlags := 18, nameIndex := 13, descriptorIndex := 14, attributes := #[] }, { accessFlags := 18, nameIndex := 17, descriptorIndex := 18, attributes := #[] }, { accessFlags := 2, nameIndex := 21, descriptorIndex := 22, attributes := #[] }, { accessFlags := 2, nameIndex := 25, descriptorIndex := 26, attributes := #[] }, { accessFlags := 26, nameIndex := 1116, descriptorIndex := 1117, attributes := #[] }, { accessFlags := 24, nameIndex := 40, descriptorIndex := 26, attributes := #[] }, { accessFlags := 26, nameIndex := 1101, descriptorIndex := 1102, attributes := #[] }, { accessFlags := 26, nameIndex := 1121, descriptorIndex := 1122, attributes := #[] }, { accessFlags := 25, nameIndex := 599, descriptorIndex := 600, attributes := #[] }, { accessFlags := 24, nameIndex := 1125, descriptorIndex := 18, attributes := #[] }, { accessFlags := 24, nameIndex := 1127, descriptorIndex := 18, attributes := #[] }])
  fields := #[{ name := "value", type := (.array .byte), accessFlags := 18, slot := 0, constantValue := 0 }, { name := "coder", type := .byte, accessFlags := 18, slot := 1, constantValue := 0 }, { name := "hash", type := .int, accessFlags := 2, slot := 2, constantValue := 0 }, { name := "hashIsZero", type := .boolean, accessFlags := 2, slot := 3, constantValue := 0 }, { name := "serialVersionUID", type := .long, accessFlags := 26, slot := 0, constantValue := 0 }, { name := "COMPACT_STRINGS", type := .boolean, accessFlags := 24, slot := 1, constantValue := 0 }, { name := "serialPersistentFields", type := (.array (.object "java/io/ObjectStreamField")), accessFlags := 26, slot := 2, constantValue := 0 }, { name := "REPL", type := .char, accessFlags := 26, slot := 3, constantValue := 0 }, { name := "CASE_INSENSITIVE_ORDER", type := (.object "java/util/Comparator"), accessFlags := 25, slot := 4, constantValue := 0 }, { name := "LATIN1", type := .byte, accessFlags := 24, slot := 5, constantValue := 0 }, { name := "UTF16", type := .byte, accessFlags := 24, slot := 6, constantValue := 0 }]
  methods := #[k7m0, k7m1, k7m2, k7m3, k7m4]
  instanceTypes := #[(.array .byte), .byte, .int, .boolean]
  staticTypes := #[.long, .boolean, (.array (.object "java/io/ObjectStreamField")), .char, (.object "java/util/Comparator"), .byte, .byte]
  resolved := Array.replicate 1451 none
  statics := some 0 }

def pool8 : Array CpInfo := pool [(1, .methodref 2 3), (0, .class_ 4), (0, .nameAndType 5 6), (0, u "java/lang/Object"), (0, u "<init>"), (0, u "()V"), (0, .fieldref 8 9), (0, .class_ 10), (0, .nameAndType 11 12), (0, u "com/example/riskscan/riskscan/io/FixedWidthRecord"), (0, u "file"), (0, u "Ljava/lang/String;"), (0, .fieldref 8 14), (0, .nameAndType 15 16), (0, u "line"), (0, u "J"), (0, .fieldref 8 18), (0, .nameAndType 19 12), (0, u "text"), (0, .methodref 21 22), (0, .class_ 23), (0, .nameAndType 24 25), (0, u "java/lang/String"), (0, u "length"), (0, u "()I"), (67, u "LONG_DIGITS"), (0, u "I"), (35, u "REAL"), (0, u "Ljava/util/regex/Pattern;"), (21, u "DIGITS"), (39, u "(Ljava/lang/String;JLjava/lang/String;)V"), (22, u "DATE_WIDTH"), (2, u "TIME_WIDTH"), (4, u "reaches"), (0, u "(I)Z")] 41

def k8c0 : Code := { maxStack := 3, maxLocals := 5, code := prog_51_method_1_code, exceptionTable := #[], attributes := #[] }
def k8m0 : Method := { name := "<init>", desc := "(Ljava/lang/String;JLjava/lang/String;)V", sig := { parameters := [(.object "java/lang/String"), .long, (.object "java/lang/String")], returnType := none }, accessFlags := 0, code := some k8c0 }
def k8c1 : Code := { maxStack := 2, maxLocals := 2, code := prog_51_method_4_code, exceptionTable := #[], attributes := #[] }
def k8m1 : Method := { name := "reaches", desc := "(I)Z", sig := { parameters := [.int], returnType := some .boolean }, accessFlags := 0, code := some k8c1 }
/-- com/example/riskscan/riskscan/io/FixedWidthRecord -/
def k8 : Class := { plain "com/example/riskscan/riskscan/io/FixedWidthRecord" (some 0) with
  accessFlags := 48
  interfaces := #[]
  cf := some (fileOf pool8 8 #[] #[{ accessFlags := 0, nameIndex := 5, descriptorIndex := 193, attributes := #[] }, { accessFlags := 0, nameIndex := 224, descriptorIndex := 225, attributes := #[] }] 48 2 #[] #[{ accessFlags := 26, nameIndex := 130, descriptorIndex := 131, attributes := #[] }, { accessFlags := 26, nameIndex := 153, descriptorIndex := 131, attributes := #[] }, { accessFlags := 26, nameIndex := 93, descriptorIndex := 94, attributes := #[] }, { accessFlags := 26, nameIndex := 216, descriptorIndex := 94, attributes := #[] }, { accessFlags := 26, nameIndex := 219, descriptorIndex := 94, attributes := #[] }, { accessFlags := 18, nameIndex := 11, descriptorIndex := 12, attributes := #[] }, { accessFlags := 18, nameIndex := 15, descriptorIndex := 16, attributes := #[] }, { accessFlags := 18, nameIndex := 19, descriptorIndex := 12, attributes := #[] }])
  fields := #[{ name := "REAL", type := (.object "java/util/regex/Pattern"), accessFlags := 26, slot := 0, constantValue := 0 }, { name := "DIGITS", type := (.object "java/util/regex/Pattern"), accessFlags := 26, slot := 1, constantValue := 0 }, { name := "LONG_DIGITS", type := .int, accessFlags := 26, slot := 2, constantValue := 0 }, { name := "DATE_WIDTH", type := .int, accessFlags := 26, slot := 3, constantValue := 0 }, { name := "TIME_WIDTH", type := .int, accessFlags := 26, slot := 4, constantValue := 0 }, { name := "file", type := (.object "java/lang/String"), accessFlags := 18, slot := 0, constantValue := 0 }, { name := "line", type := .long, accessFlags := 18, slot := 1, constantValue := 0 }, { name := "text", type := (.object "java/lang/String"), accessFlags := 18, slot := 2, constantValue := 0 }]
  methods := #[k8m0, k8m1]
  instanceTypes := #[(.object "java/lang/String"), .long, (.object "java/lang/String")]
  staticTypes := #[(.object "java/util/regex/Pattern"), (.object "java/util/regex/Pattern"), .int, .int, .int]
  resolved := Array.replicate 267 none
  statics := none }

def pool9 : Array CpInfo := pool [(6, .class_ 8), (1, u "java/lang/Object"), (0, u "<init>"), (0, u "()V"), (1, .class_ 14), (1, u "java/lang/StringUTF16"), (31, u "$assertionsDisabled"), (0, u "Z"), (13, u "HI_BYTE_SHIFT"), (0, u "I"), (2, u "LO_BYTE_SHIFT"), (49, .methodref 12 116), (0, .nameAndType 117 118), (0, u "compress"), (0, u "([CI[BII)I"), (3, u "([CII)[B"), (138, u "coderFromArrayLen"), (0, u "([BI)B"), (106, .class_ 371), (1, u "java/lang/StringUTF16$LinesSpliterator"), (58, u "MAX_LENGTH"), (196, .class_ 628), (0, u "java/lang/StringUTF16$CodePointsSpliterator"), (0, .class_ 630), (0, u "java/lang/StringUTF16$CharsSpliterator")] 4

def k9m0 : Method := { name := "<init>", desc := "()V", sig := { parameters := [], returnType := none }, accessFlags := 0, code := none }
def k9c1 : Code := { maxStack := 2, maxLocals := 2, code := jdk_52_method_15_code, exceptionTable := #[], attributes := #[] }
def k9m1 : Method := { name := "coderFromArrayLen", desc := "([BI)B", sig := { parameters := [(.array .byte), .int], returnType := some .byte }, accessFlags := 8, code := some k9c1 }
def k9c2 : Code := { maxStack := 5, maxLocals := 6, code := jdk_52_method_16_code, exceptionTable := #[], attributes := #[] }
def k9m2 : Method := { name := "compress", desc := "([CII)[B", sig := { parameters := [(.array .char), .int, .int], returnType := some (.array .byte) }, accessFlags := 9, code := some k9c2 }
def k9c3 : Code := { maxStack := 3, maxLocals := 7, code := jdk_52_method_21_code, exceptionTable := #[], attributes := #[] }
def k9m3 : Method := { name := "compress", desc := "([CI[BII)I", sig := { parameters := [(.array .char), .int, (.array .byte), .int, .int], returnType := some .int }, accessFlags := 9, code := some k9c3 }
/-- java/lang/StringUTF16 -/
def k9 : Class := { plain "java/lang/StringUTF16" (some 0) with
  accessFlags := 48
  interfaces := #[]
  cf := some (fileOf pool9 12 #[.nestMembers #[627, 629, 369]] #[{ accessFlags := 0, nameIndex := 9, descriptorIndex := 10, attributes := #[] }, { accessFlags := 8, nameIndex := 261, descriptorIndex := 262, attributes := #[] }, { accessFlags := 9, nameIndex := 117, descriptorIndex := 122, attributes := #[] }, { accessFlags := 9, nameIndex := 117, descriptorIndex := 118, attributes := #[] }] 48 6 #[] #[{ accessFlags := 26, nameIndex := 61, descriptorIndex := 62, attributes := #[] }, { accessFlags := 26, nameIndex := 65, descriptorIndex := 62, attributes := #[] }, { accessFlags := 24, nameIndex := 430, descriptorIndex := 62, attributes := #[] }, { accessFlags := 4120, nameIndex := 46, descriptorIndex := 47, attributes := #[] }])
  fields := #[{ name := "HI_BYTE_SHIFT", type := .int, accessFlags := 26, slot := 0, constantValue := 0 }, { name := "LO_BYTE_SHIFT", type := .int, accessFlags := 26, slot := 1, constantValue := 0 }, { name := "MAX_LENGTH", type := .int, accessFlags := 24, slot := 2, constantValue := 0 }, { name := "$assertionsDisabled", type := .boolean, accessFlags := 4120, slot := 3, constantValue := 0 }]
  methods := #[k9m0, k9m1, k9m2, k9m3]
  instanceTypes := #[]
  staticTypes := #[.int, .int, .int, .boolean]
  resolved := Array.replicate 635 none
  statics := none }

def pool10 : Array CpInfo := pool [(4, .class_ 6), (1, u "java/lang/Object"), (0, u "<init>"), (0, u "()V"), (5, .class_ 16), (1, u "java/lang/StringLatin1"), (104, u "$assertionsDisabled"), (0, u "Z"), (98, .class_ 223), (1, u "java/lang/StringLatin1$LinesSpliterator"), (166, .class_ 391), (0, u "java/lang/StringLatin1$CharsSpliterator")] 3

def k10m0 : Method := { name := "<init>", desc := "()V", sig := { parameters := [], returnType := none }, accessFlags := 0, code := none }
/-- java/lang/StringLatin1 -/
def k10 : Class := { plain "java/lang/StringLatin1" (some 0) with
  accessFlags := 48
  interfaces := #[]
  cf := some (fileOf pool10 14 #[.nestMembers #[390, 221]] #[{ accessFlags := 0, nameIndex := 7, descriptorIndex := 8, attributes := #[] }] 48 4 #[] #[{ accessFlags := 4120, nameIndex := 121, descriptorIndex := 122, attributes := #[] }])
  fields := #[{ name := "$assertionsDisabled", type := .boolean, accessFlags := 4120, slot := 0, constantValue := 0 }]
  methods := #[k10m0]
  instanceTypes := #[]
  staticTypes := #[.boolean]
  resolved := Array.replicate 395 none
  statics := none }

def pool11 : Array CpInfo := pool [(2, .class_ 4), (1, u "java/lang/Object"), (0, u "<init>"), (0, u "()V"), (17, .class_ 26), (1, u "jdk/internal/util/Preconditions"), (28, .class_ 56), (0, u "jdk/internal/util/Preconditions$4"), (57, .class_ 115), (0, u "jdk/internal/util/Preconditions$1"), (7, u "SIOOBE_FORMATTER"), (0, u "Ljava/util/function/BiFunction;"), (0, .class_ 126), (0, u "jdk/internal/util/Preconditions$2"), (3, u "AIOOBE_FORMATTER"), (0, .class_ 132), (0, u "jdk/internal/util/Preconditions$3"), (3, u "IOOBE_FORMATTER")] 57

def k11m0 : Method := { name := "<init>", desc := "()V", sig := { parameters := [], returnType := none }, accessFlags := 1, code := none }
/-- jdk/internal/util/Preconditions -/
def k11 : Class := { plain "jdk/internal/util/Preconditions" (some 0) with
  accessFlags := 33
  interfaces := #[]
  cf := some (fileOf pool11 24 #[.nestMembers #[55, 131, 125, 114]] #[{ accessFlags := 1, nameIndex := 5, descriptorIndex := 6, attributes := #[] }] 33 2 #[] #[{ accessFlags := 25, nameIndex := 123, descriptorIndex := 124, attributes := #[] }, { accessFlags := 25, nameIndex := 130, descriptorIndex := 124, attributes := #[] }, { accessFlags := 25, nameIndex := 136, descriptorIndex := 124, attributes := #[] }])
  fields := #[{ name := "SIOOBE_FORMATTER", type := (.object "java/util/function/BiFunction"), accessFlags := 25, slot := 0, constantValue := 0 }, { name := "AIOOBE_FORMATTER", type := (.object "java/util/function/BiFunction"), accessFlags := 25, slot := 1, constantValue := 0 }, { name := "IOOBE_FORMATTER", type := (.object "java/util/function/BiFunction"), accessFlags := 25, slot := 2, constantValue := 0 }]
  methods := #[k11m0]
  instanceTypes := #[]
  staticTypes := #[(.object "java/util/function/BiFunction"), (.object "java/util/function/BiFunction"), (.object "java/util/function/BiFunction")]
  resolved := Array.replicate 194 none
  statics := some 1 }

def pool12 : Array CpInfo := pool [(9, u "<init>"), (6, .class_ 18), (1, u "java/lang/Object"), (0, u "()V"), (1, .class_ 23), (1, u "jdk/internal/util/ArraysSupport"), (0, u "LOG2_ARRAY_LONG_INDEX_SCALE"), (0, u "I"), (2, u "U"), (0, u "Ljdk/internal/misc/Unsafe;"), (8, u "BIG_ENDIAN"), (0, u "Z"), (8, u "LOG2_BYTE_BIT_SIZE"), (4, u "LOG2_ARRAY_INT_INDEX_SCALE"), (54, u "JLA"), (0, u "Ljdk/internal/access/JavaLangAccess;"), (11, u "LOG2_ARRAY_BOOLEAN_INDEX_SCALE"), (9, u "LOG2_ARRAY_BYTE_INDEX_SCALE"), (5, u "LOG2_ARRAY_CHAR_INDEX_SCALE"), (5, u "LOG2_ARRAY_SHORT_INDEX_SCALE"), (18, u "LOG2_ARRAY_FLOAT_INDEX_SCALE"), (24, u "LOG2_ARRAY_DOUBLE_INDEX_SCALE"), (89, u "T_BOOLEAN"), (2, u "T_CHAR"), (1, u "T_FLOAT"), (1, u "T_DOUBLE"), (1, u "T_BYTE"), (1, u "T_SHORT"), (1, u "T_INT"), (1, u "T_LONG"), (1, u "SOFT_MAX_ARRAY_LENGTH")] 83

def k12m0 : Method := { name := "<init>", desc := "()V", sig := { parameters := [], returnType := none }, accessFlags := 2, code := none }
/-- jdk/internal/util/ArraysSupport -/
def k12 : Class := { plain "jdk/internal/util/ArraysSupport" (some 0) with
  accessFlags := 33
  interfaces := #[]
  cf := some (fileOf pool12 21 #[] #[{ accessFlags := 2, nameIndex := 9, descriptorIndex := 19, attributes := #[] }] 33 16 #[] #[{ accessFlags := 24, nameIndex := 28, descriptorIndex := 29, attributes := #[] }, { accessFlags := 26, nameIndex := 38, descriptorIndex := 39, attributes := #[] }, { accessFlags := 25, nameIndex := 121, descriptorIndex := 25, attributes := #[] }, { accessFlags := 25, nameIndex := 131, descriptorIndex := 25, attributes := #[] }, { accessFlags := 25, nameIndex := 137, descriptorIndex := 25, attributes := #[] }, { accessFlags := 25, nameIndex := 143, descriptorIndex := 25, attributes := #[] }, { accessFlags := 25, nameIndex := 53, descriptorIndex := 25, attributes := #[] }, { accessFlags := 25, nameIndex := 24, descriptorIndex := 25, attributes := #[] }, { accessFlags := 25, nameIndex := 162, descriptorIndex := 25, attributes := #[] }, { accessFlags := 25, nameIndex := 187, descriptorIndex := 25, attributes := #[] }, { accessFlags := 26, nameIndex := 48, descriptorIndex := 25, attributes := #[] }, { accessFlags := 25, nameIndex := 277, descriptorIndex := 25, attributes := #[] }, { accessFlags := 25, nameIndex := 280, descriptorIndex := 25, attributes := #[] }, { accessFlags := 25, nameIndex := 282, descriptorIndex := 25, attributes := #[] }, { accessFlags := 25, nameIndex := 284, descriptorIndex := 25, attributes := #[] }, { accessFlags := 25, nameIndex := 286, descriptorIndex := 25, attributes := #[] }, { accessFlags := 25, nameIndex := 288, descriptorIndex := 25, attributes := #[] }, { accessFlags := 25, nameIndex := 290, descriptorIndex := 25, attributes := #[] }, { accessFlags := 25, nameIndex := 292, descriptorIndex := 25, attributes := #[] }, { accessFlags := 26, nameIndex := 108, descriptorIndex := 109, attributes := #[] }, { accessFlags := 25, nameIndex := 294, descriptorIndex := 25, attributes := #[] }])
  fields := #[{ name := "U", type := (.object "jdk/internal/misc/Unsafe"), accessFlags := 24, slot := 0, constantValue := 0 }, { name := "BIG_ENDIAN", type := .boolean, accessFlags := 26, slot := 1, constantValue := 0 }, { name := "LOG2_ARRAY_BOOLEAN_INDEX_SCALE", type := .int, accessFlags := 25, slot := 2, constantValue := 0 }, { name := "LOG2_ARRAY_BYTE_INDEX_SCALE", type := .int, accessFlags := 25, slot := 3, constantValue := 0 }, { name := "LOG2_ARRAY_CHAR_INDEX_SCALE", type := .int, accessFlags := 25, slot := 4, constantValue := 0 }, { name := "LOG2_ARRAY_SHORT_INDEX_SCALE", type := .int, accessFlags := 25, slot := 5, constantValue := 0 }, { name := "LOG2_ARRAY_INT_INDEX_SCALE", type := .int, accessFlags := 25, slot := 6, constantValue := 0 }, { name := "LOG2_ARRAY_LONG_INDEX_SCALE", type := .int, accessFlags := 25, slot := 7, constantValue := 0 }, { name := "LOG2_ARRAY_FLOAT_INDEX_SCALE", type := .int, accessFlags := 25, slot := 8, constantValue := 0 }, { name := "LOG2_ARRAY_DOUBLE_INDEX_SCALE", type := .int, accessFlags := 25, slot := 9, constantValue := 0 }, { name := "LOG2_BYTE_BIT_SIZE", type := .int, accessFlags := 26, slot := 10, constantValue := 0 }, { name := "T_BOOLEAN", type := .int, accessFlags := 25, slot := 11, constantValue := 0 }, { name := "T_CHAR", type := .int, accessFlags := 25, slot := 12, constantValue := 0 }, { name := "T_FLOAT", type := .int, accessFlags := 25, slot := 13, constantValue := 0 }, { name := "T_DOUBLE", type := .int, accessFlags := 25, slot := 14, constantValue := 0 }, { name := "T_BYTE", type := .int, accessFlags := 25, slot := 15, constantValue := 0 }, { name := "T_SHORT", type := .int, accessFlags := 25, slot := 16, constantValue := 0 }, { name := "T_INT", type := .int, accessFlags := 25, slot := 17, constantValue := 0 }, { name := "T_LONG", type := .int, accessFlags := 25, slot := 18, constantValue := 0 }, { name := "JLA", type := (.object "jdk/internal/access/JavaLangAccess"), accessFlags := 26, slot := 19, constantValue := 0 }, { name := "SOFT_MAX_ARRAY_LENGTH", type := .int, accessFlags := 25, slot := 20, constantValue := 0 }]
  methods := #[k12m0]
  instanceTypes := #[]
  staticTypes := #[(.object "jdk/internal/misc/Unsafe"), .boolean, .int, .int, .int, .int, .int, .int, .int, .int, .int, .int, .int, .int, .int, .int, .int, .int, .int, (.object "jdk/internal/access/JavaLangAccess"), .int]
  resolved := Array.replicate 378 none
  statics := none }

def pool13 : Array CpInfo := pool [(1, u "java/lang/Cloneable"), (0, .class_ 1), (0, u "java/lang/Object"), (0, .class_ 3)] 3

/-- java/lang/Cloneable -/
def k13 : Class := { plain "java/lang/Cloneable" (some 0) with
  accessFlags := 1537
  interfaces := #[]
  cf := some (fileOf pool13 2 #[] #[] 1537 4 #[] #[])
  fields := #[]
  methods := #[]
  instanceTypes := #[]
  staticTypes := #[]
  resolved := Array.replicate 8 none
  statics := none }

/-- the primitive byte -/
def k14 : Class := { plain "byte" none with kind := .primitive 'B', accessFlags := 0x411 }
/-- [B -/
def k15 : Class := { plain "[B" (some 0) with kind := .array 14 .byte, interfaces := #[13, 2], accessFlags := 1041 }

/-- the primitive char -/
def k16 : Class := { plain "char" none with kind := .primitive 'C', accessFlags := 0x411 }
/-- [C -/
def k17 : Class := { plain "[C" (some 0) with kind := .array 16 .char, interfaces := #[13, 2], accessFlags := 1041 }

def heap : Heap := #[{ cls := 7, slots := #[.long 0, .int 1, .null, .int 0, .null, .int 0, .int 0], vm := .statics 7 },
  { cls := 11, slots := #[.null, .null, .null], vm := .statics 11 }]
def classes : Array Class := #[k0, k1, k2, k3, k4, k5, k6, k7, k8, k9, k10, k11, k12, k13, k14, k15, k16, k17]
def interned : List (Array UInt16 × Addr) := []
def slotsUsed : Nat := 10
def theMethod : MethodId := ⟨1, 2⟩
def args0 : Array Value := #[.int 1, .int 2, .int 3, .long 4]
def aboutOver (below : List Frame) : State where
  vm := { classes := classes, interned := interned.toArray }
  heap := heap
  slotsUsed := slotsUsed
  threads := #[{ frames := .invoking theMethod args0 :: below }]
def below0 : List Frame := [.native { method := ⟨0, 0⟩, args := #[] }]
def about1 : State := aboutOver below0
def p0 : Program := .bare "" "" ""
def e0 : Env := launch0.env 0 0 0
theorem w_frames : about1.frames = Frame.invoking theMethod args0 :: below0 := rfl
set_option maxRecDepth 65536 in
theorem w_args : argsFit about1.vm theMethod args0 = true := by decide +kernel
set_option maxRecDepth 65536 in
theorem w_heap : heapFits about1 = true := by decide +kernel
set_option maxRecDepth 65536 in
theorem w_runnable : about1.curStatus? = some .runnable := by decide +kernel
set_option maxRecDepth 65536 in
theorem w_alone : about1.alone = true := by decide +kernel
set_option maxRecDepth 65536 in
theorem w_named : about1.methodNamed? x = some theMethod := by decide +kernel
set_option maxRecDepth 65536 in
theorem w_hears : about1.hears theMethod below0 = true := by decide +kernel
set_option maxRecDepth 65536 in
theorem w_ripe : about1.ripe theMethod args0 below0 = true := by decide +kernel
theorem w_running : about1.status = .running := rfl
set_option maxRecDepth 65536 in
theorem w_room : about1.hasRoom e0.platform room_1 = true :=
  launch0.hasRoom_least _ room_1 (by decide +kernel) (by decide +kernel) (by decide +kernel) (by decide +kernel) (by decide +kernel) (by decide +kernel)
theorem allAtoms_all (ts : List Jvm.Cond) (a : Array Jvm.Value) (st : Jvm.State) : (allAtoms ts).before a st = ts.all (fun c => c.before a st) := by
  induction ts with
  | nil => rfl
  | cons c t ih =>
    show (Jvm.Cond.and c (allAtoms t)).before a st = _
    rw [Jvm.Cond.before_and, ih, List.all_cons]
def words1 : List Jvm.Cond := Jvm.Cond.code x code maxLocals ret :: tables_1
/-- a 'code' word, met by the world's own term for the bytes: nothing is compared byte by byte -/
theorem code_word {y : MethodName} {bytes : ByteArray} {mx : Nat} {rt : Option FieldType} {a : Array Value} {s : State} {m : MethodId} {meth : Method} {c : Code} (h1 : s.methodNamed? y = some m) (h2 : s.vm.method? m = some meth) (h3 : meth.code = some c) (h4 : c.code = bytes)
    (h5 : (c.maxLocals == mx && c.exceptionTable.isEmpty && decide (c.maxStack ≤ mostOperands) && decide (meth.sig.returnType = rt) && !meth.locks && decide (parseMethodDescriptor y.desc = some meth.sig)) = true) : (Jvm.Cond.code y bytes mx rt).before a s = true := by
  simp only [Bool.and_eq_true, beq_iff_eq, Bool.not_eq_true', decide_eq_true_eq] at h5
  obtain ⟨⟨⟨⟨⟨g1, g2⟩, g3⟩, g4⟩, g5⟩, g6⟩ := h5
  simp [Cond.before, Cond.holds, Cond.value, h1, h2, h3, h4, g1, g2, g3, g4, g5, g6]
def isCode : Jvm.Cond → Bool
  | .code _ _ _ _ => true
  | _ => false
theorem all_split {L : List Jvm.Cond} {P : Jvm.Cond → Bool} (h1 : L.all (fun c => isCode c || P c) = true) (h2 : ∀ c ∈ L.filter isCode, P c = true) : L.all P = true := by
  refine List.all_eq_true.mpr fun c hc => ?_
  have h := List.all_eq_true.mp h1 c hc
  rcases Bool.eq_false_or_eq_true (isCode c) with hi | hi
  · exact h2 c (List.mem_filter.mpr ⟨hc, hi⟩)
  · simpa [hi] using h
set_option maxRecDepth 65536 in
theorem w_c0 : (Jvm.Cond.code x code maxLocals ret).before args0 about1 = true := code_word (m := ⟨1, 2⟩) (meth := k1m2) (c := k1c2) (by decide +kernel) rfl rfl rfl (by decide +kernel)
set_option maxRecDepth 65536 in
theorem w_c1 : (Jvm.Cond.code ({ cls := "com/example/riskscan/riskscan/io/FixedWidthRecordReachesPinLaw", name := "line", desc := "(ICCCC)Ljava/lang/String;" } : Jvm.MethodName) method_2_code (5 : Nat) (Option.some (Jvm.ClassFile.FieldType.object "java/lang/String"))).before args0 about1 = true := code_word (m := ⟨1, 1⟩) (meth := k1m1) (c := k1c1) (by decide +kernel) rfl rfl rfl (by decide +kernel)
set_option maxRecDepth 65536 in
theorem w_c2 : (Jvm.Cond.code ({ cls := "java/lang/String", name := "<init>", desc := "([C)V" } : Jvm.MethodName) jdk_42_method_3_code (2 : Nat) (Option.none : Option Jvm.ClassFile.FieldType)).before args0 about1 = true := code_word (m := ⟨7, 1⟩) (meth := k7m1) (c := k7c1) (by decide +kernel) rfl rfl rfl (by decide +kernel)
set_option maxRecDepth 65536 in
theorem w_c3 : (Jvm.Cond.code ({ cls := "java/lang/String", name := "<init>", desc := "([CIILjava/lang/Void;)V" } : Jvm.MethodName) jdk_42_method_149_code (6 : Nat) (Option.none : Option Jvm.ClassFile.FieldType)).before args0 about1 = true := code_word (m := ⟨7, 3⟩) (meth := k7m3) (c := k7c3) (by decide +kernel) rfl rfl rfl (by decide +kernel)
set_option maxRecDepth 65536 in
theorem w_c4 : (Jvm.Cond.code ({ cls := "java/lang/Object", name := "<init>", desc := "()V" } : Jvm.MethodName) object_method_1_code (1 : Nat) (Option.none : Option Jvm.ClassFile.FieldType)).before args0 about1 = true := code_word (m := ⟨0, 0⟩) (meth := k0m0) (c := k0c0) (by decide +kernel) rfl rfl rfl (by decide +kernel)
set_option maxRecDepth 65536 in
theorem w_c5 : (Jvm.Cond.code ({ cls := "com/example/riskscan/riskscan/io/FixedWidthRecord", name := "<init>", desc := "(Ljava/lang/String;JLjava/lang/String;)V" } : Jvm.MethodName) prog_51_method_1_code (5 : Nat) (Option.none : Option Jvm.ClassFile.FieldType)).before args0 about1 = true := code_word (m := ⟨8, 0⟩) (meth := k8m0) (c := k8c0) (by decide +kernel) rfl rfl rfl (by decide +kernel)
set_option maxRecDepth 65536 in
theorem w_c6 : (Jvm.Cond.code ({ cls := "com/example/riskscan/riskscan/io/FixedWidthRecord", name := "reaches", desc := "(I)Z" } : Jvm.MethodName) prog_51_method_4_code (2 : Nat) (Option.some Jvm.ClassFile.FieldType.boolean)).before args0 about1 = true := code_word (m := ⟨8, 1⟩) (meth := k8m1) (c := k8c1) (by decide +kernel) rfl rfl rfl (by decide +kernel)
set_option maxRecDepth 65536 in
theorem w_c7 : (Jvm.Cond.code ({ cls := "java/lang/String", name := "length", desc := "()I" } : Jvm.MethodName) jdk_42_method_54_code (1 : Nat) (Option.some Jvm.ClassFile.FieldType.int)).before args0 about1 = true := code_word (m := ⟨7, 2⟩) (meth := k7m2) (c := k7c2) (by decide +kernel) rfl rfl rfl (by decide +kernel)
set_option maxRecDepth 65536 in
theorem w_c8 : (Jvm.Cond.code ({ cls := "java/lang/String", name := "coder", desc := "()B" } : Jvm.MethodName) jdk_42_method_152_code (1 : Nat) (Option.some Jvm.ClassFile.FieldType.byte)).before args0 about1 = true := code_word (m := ⟨7, 4⟩) (meth := k7m4) (c := k7c4) (by decide +kernel) rfl rfl rfl (by decide +kernel)
set_option maxRecDepth 65536 in
theorem w_c9 : (Jvm.Cond.code ({ cls := "java/lang/StringUTF16", name := "compress", desc := "([CII)[B" } : Jvm.MethodName) jdk_52_method_16_code (6 : Nat) (Option.some (Jvm.ClassFile.FieldType.array Jvm.ClassFile.FieldType.byte))).before args0 about1 = true := code_word (m := ⟨9, 2⟩) (meth := k9m2) (c := k9c2) (by decide +kernel) rfl rfl rfl (by decide +kernel)
set_option maxRecDepth 65536 in
theorem w_c10 : (Jvm.Cond.code ({ cls := "java/lang/StringUTF16", name := "compress", desc := "([CI[BII)I" } : Jvm.MethodName) jdk_52_method_21_code (7 : Nat) (Option.some Jvm.ClassFile.FieldType.int)).before args0 about1 = true := code_word (m := ⟨9, 3⟩) (meth := k9m3) (c := k9c3) (by decide +kernel) rfl rfl rfl (by decide +kernel)
set_option maxRecDepth 65536 in
theorem w_c11 : (Jvm.Cond.code ({ cls := "java/lang/StringUTF16", name := "coderFromArrayLen", desc := "([BI)B" } : Jvm.MethodName) jdk_52_method_15_code (2 : Nat) (Option.some Jvm.ClassFile.FieldType.byte)).before args0 about1 = true := code_word (m := ⟨9, 1⟩) (meth := k9m1) (c := k9c1) (by decide +kernel) rfl rfl rfl (by decide +kernel)
def codes1 : List Jvm.Cond := [Jvm.Cond.code x code maxLocals ret, Jvm.Cond.code ({ cls := "com/example/riskscan/riskscan/io/FixedWidthRecordReachesPinLaw", name := "line", desc := "(ICCCC)Ljava/lang/String;" } : Jvm.MethodName) method_2_code (5 : Nat) (Option.some (Jvm.ClassFile.FieldType.object "java/lang/String")), Jvm.Cond.code ({ cls := "java/lang/String", name := "<init>", desc := "([C)V" } : Jvm.MethodName) jdk_42_method_3_code (2 : Nat) (Option.none : Option Jvm.ClassFile.FieldType), Jvm.Cond.code ({ cls := "java/lang/String", name := "<init>", desc := "([CIILjava/lang/Void;)V" } : Jvm.MethodName) jdk_42_method_149_code (6 : Nat) (Option.none : Option Jvm.ClassFile.FieldType), Jvm.Cond.code ({ cls := "java/lang/Object", name := "<init>", desc := "()V" } : Jvm.MethodName) object_method_1_code (1 : Nat) (Option.none : Option Jvm.ClassFile.FieldType), Jvm.Cond.code ({ cls := "com/example/riskscan/riskscan/io/FixedWidthRecord", name := "<init>", desc := "(Ljava/lang/String;JLjava/lang/String;)V" } : Jvm.MethodName) prog_51_method_1_code (5 : Nat) (Option.none : Option Jvm.ClassFile.FieldType), Jvm.Cond.code ({ cls := "com/example/riskscan/riskscan/io/FixedWidthRecord", name := "reaches", desc := "(I)Z" } : Jvm.MethodName) prog_51_method_4_code (2 : Nat) (Option.some Jvm.ClassFile.FieldType.boolean), Jvm.Cond.code ({ cls := "java/lang/String", name := "length", desc := "()I" } : Jvm.MethodName) jdk_42_method_54_code (1 : Nat) (Option.some Jvm.ClassFile.FieldType.int), Jvm.Cond.code ({ cls := "java/lang/String", name := "coder", desc := "()B" } : Jvm.MethodName) jdk_42_method_152_code (1 : Nat) (Option.some Jvm.ClassFile.FieldType.byte), Jvm.Cond.code ({ cls := "java/lang/StringUTF16", name := "compress", desc := "([CII)[B" } : Jvm.MethodName) jdk_52_method_16_code (6 : Nat) (Option.some (Jvm.ClassFile.FieldType.array Jvm.ClassFile.FieldType.byte)), Jvm.Cond.code ({ cls := "java/lang/StringUTF16", name := "compress", desc := "([CI[BII)I" } : Jvm.MethodName) jdk_52_method_21_code (7 : Nat) (Option.some Jvm.ClassFile.FieldType.int), Jvm.Cond.code ({ cls := "java/lang/StringUTF16", name := "coderFromArrayLen", desc := "([BI)B" } : Jvm.MethodName) jdk_52_method_15_code (2 : Nat) (Option.some Jvm.ClassFile.FieldType.byte)]
set_option maxRecDepth 65536 in
theorem codes_eq : words1.filter isCode = codes1 := rfl
theorem w_codes : ∀ c ∈ words1.filter isCode, c.before args0 about1 = true := by
  rw [codes_eq]
  intro c hc
  simp only [codes1, List.mem_cons, List.not_mem_nil, or_false] at hc
  rcases hc with rfl | rfl | rfl | rfl | rfl | rfl | rfl | rfl | rfl | rfl | rfl | rfl
  · exact w_c0
  · exact w_c1
  · exact w_c2
  · exact w_c3
  · exact w_c4
  · exact w_c5
  · exact w_c6
  · exact w_c7
  · exact w_c8
  · exact w_c9
  · exact w_c10
  · exact w_c11
set_option maxRecDepth 65536 in
theorem w_t1 : (words1.take 24).all (fun c => isCode c || c.before args0 about1) = true := by decide +kernel
set_option maxRecDepth 65536 in
theorem w_t2 : ((words1.drop 24).take 24).all (fun c => isCode c || c.before args0 about1) = true := by decide +kernel
set_option maxRecDepth 65536 in
theorem w_t3 : ((words1.drop 24).drop 24).all (fun c => isCode c || c.before args0 about1) = true := by decide +kernel
theorem w_tables : (allAtoms (Jvm.Cond.code x code maxLocals ret :: tables_1)).before args0 about1 = true := by
  rw [allAtoms_all]
  show words1.all (fun c => c.before args0 about1) = true
  refine all_split ?_ w_codes
  rw [← List.take_append_drop 24 words1, List.all_append, w_t1, ← List.take_append_drop 24 (words1.drop 24), List.all_append, w_t2, w_t3]
  rfl
set_option maxRecDepth 65536 in
theorem w_rest : rest_1_c.before args0 about1 = true := by decide +kernel
set_option maxRecDepth 65536 in
theorem w_case : (Jvm.Cond.and given_1 narrow_1).before args0 about1 = true := by decide +kernel
set_option maxRecDepth 65536 in
theorem w_consts : constsHeld consts_1 about1 := Jvm.Lit.constsHeldB_iff.mp (by decide +kernel)
theorem w_applies : (headSpec (Jvm.Cond.code x code maxLocals ret :: tables_1) room_1).applies x e0.platform about1 = true :=
  (Spec.applies_iff w_frames).mpr ⟨w_running, w_runnable, w_alone, w_named, w_hears, w_ripe, w_room, w_tables⟩
theorem atStart : AtStart classFile x code maxLocals ret World_1 tables_1 room_1 Calls_1 rest_1 Pre_1 launch0 p0 e0 about1 theMethod args0 below0 :=
  ⟨lists_1, trivial, launch0.admits_env _ _ _, launch0.least_env, fairChoices_fair.cas, fairChoices_fair.clock, w_frames, w_args, w_heap, w_applies, ⟨w_consts, trivial⟩, w_rest, w_case⟩
end start1
theorem witness_1 : WitnessClaimed_1 := ⟨start1.p0, start1.e0, start1.about1, start1.theMethod, start1.args0, start1.below0, start1.atStart⟩
end Jvm.Pilot.@@N@@
