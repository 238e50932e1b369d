import JvmDerived
import JvmDerived.Pilot.@@N@@Statement
import JvmDerived.Pilot.@@N@@Code
set_option linter.unusedVariables false
set_option linter.unusedSimpArgs false
/- laws to paste: Road.backV (cut by pick.py; bodies as the Statement names them) -/
namespace Jvm.Pilot.@@N@@
namespace StrChars
open Jvm Sem ClassFile Op Lib Jvm.Stand Jvm.Free.XT Jvm.Free.ALB Jvm.Free.JM Jvm.Free
open Jvm.Lib.Cold (StaticIs)
/-- a char array whose places are chars -/
def Ch (a : Addr) (A : Cell) (U : State) : Prop := Arr .char a A U ∧ Typed .char A
theorem Ch.mv {a : Addr} {A : Cell} {U U' : State} (h : Ch a A U) (hal : U.vm.Alike U'.vm) (hh : U'.heap = U.heap) : Ch a A U' := ⟨h.1.mv hal hh, h.2⟩
theorem Ch.keep {a : Addr} {A : Cell} {U U' : State} (h : Ch a A U) (hal : U.vm.Alike U'.vm) (hk : U'.heap[a]? = some A) : Ch a A U' := ⟨h.1.keep hal hk, h.2⟩
/-- what place i of a char[]'s cell holds -/
def cv (A : Cell) (i : Nat) : Int32 := match A.slots[i]? with | some (.int x) => x | _ => 0
theorem Ch.get {a : Addr} {A : Cell} {U : State} (h : Ch a A U) {i : Nat} (hi : i < A.slots.size) : A.slots[i]? = some (.int (cv A i)) := by
  have e := Array.getElem?_eq_getElem hi
  have f := h.2 i _ e
  unfold cv; rw [e]
  generalize A.slots[i] = v at f
  cases v <;> simp [fits] at f ⊢
/-- the byte that i2b leaves of a char -/
def lo8 (x : Int32) : Int32 := x.toInt8.toInt32
theorem fits_lo8 (y : Int32) : fits .byte (.int (lo8 y)) = true := by
  have h1 := y.toInt8.le_toInt
  have h2 := y.toInt8.toInt_lt
  simp only [lo8, fits, Bool.and_eq_true, decide_eq_true_eq, Int32.le_iff_toInt_le, Int8.toInt_toInt32, show (-128 : Int32).toInt = -128 from by decide, show (127 : Int32).toInt = 127 from by decide]
  omega
/-- A' is A but that each place j of lo .. hi - 1 holds f j -/
def Laid (A A' : Cell) (lo hi : Nat) (f : Nat → Value) : Prop := A'.cls = A.cls ∧ A'.vm = A.vm ∧ A'.slots.size = A.slots.size ∧ ∀ i, A'.slots[i]? = if lo ≤ i ∧ i < hi then some (f i) else A.slots[i]?
theorem Laid.zero (A : Cell) (lo : Nat) (f : Nat → Value) : Laid A A lo (lo + 0) f := ⟨rfl, rfl, rfl, fun i => by rw [if_neg (by omega)]⟩
theorem Laid.step {A Ak : Cell} {lo k : Nat} {f : Nat → Value} {v : Value} (h : Laid A Ak lo k f) (hlo : lo ≤ k) (hk : k < Ak.slots.size) (hv : v = f k) : Laid A (Ak.setSlot k v) lo (k + 1) f := by
  refine ⟨h.1, h.2.1, by simpa [Cell.setSlot] using h.2.2.1, fun i => ?_⟩
  by_cases e : k = i
  · subst e; rw [Cell.slots_setSlot_self v hk, if_pos (by omega), hv]
  · rw [Cell.slots_setSlot_ne v e, h.2.2.2 i]
    by_cases q : lo ≤ i ∧ i < k
    · rw [if_pos q, if_pos (by omega)]
    · rw [if_neg q, if_neg (by omega)]
def U16 : String := "java/lang/StringUTF16"
namespace Cmp5
def yN : MethodName := ⟨"java/lang/StringUTF16", "compress", "([CI[BII)I"⟩
abbrev yB : ByteArray := jdk_52_method_21_code
theorem d0 : decode yB 0 = .ok (.iconst 0, 1) := by decide +kernel
theorem d1 : decode yB 1 = .ok (.istore 5, 2) := by decide +kernel
theorem d3 : decode yB 3 = .ok (.iload 5, 2) := by decide +kernel
theorem d5 : decode yB 5 = .ok (.iload 4, 2) := by decide +kernel
theorem d7 : decode yB 7 = .ok (.if_icmp (.ge) 37, 3) := by decide +kernel
theorem d10 : decode yB 10 = .ok (.aload_n 0, 1) := by decide +kernel
theorem d11 : decode yB 11 = .ok (.iload_n 1, 1) := by decide +kernel
theorem d12 : decode yB 12 = .ok (.caload, 1) := by decide +kernel
theorem d13 : decode yB 13 = .ok (.istore 6, 2) := by decide +kernel
theorem d15 : decode yB 15 = .ok (.iload 6, 2) := by decide +kernel
theorem d17 : decode yB 17 = .ok (.sipush 255, 3) := by decide +kernel
theorem d20 : decode yB 20 = .ok (.if_icmp (.le) 6, 3) := by decide +kernel
theorem d26 : decode yB 26 = .ok (.aload_n 2, 1) := by decide +kernel
theorem d27 : decode yB 27 = .ok (.iload_n 3, 1) := by decide +kernel
theorem d28 : decode yB 28 = .ok (.iload 6, 2) := by decide +kernel
theorem d30 : decode yB 30 = .ok (.i2b, 1) := by decide +kernel
theorem d31 : decode yB 31 = .ok (.bastore, 1) := by decide +kernel
theorem d32 : decode yB 32 = .ok (.iinc 1 1, 3) := by decide +kernel
theorem d35 : decode yB 35 = .ok (.iinc 3 1, 3) := by decide +kernel
theorem d38 : decode yB 38 = .ok (.iinc 5 1, 3) := by decide +kernel
theorem d41 : decode yB 41 = .ok (.goto (-38), 3) := by decide +kernel
theorem d44 : decode yB 44 = .ok (.iload 4, 2) := by decide +kernel
theorem d46 : decode yB 46 = .ok (.ireturn, 1) := by decide +kernel
def site : List Cond := []
def tab : Cond := tabOf yN yB 7 (some .int) site
def P (b : Addr) (A : Cell) (d : Addr) (B : Cell) (o q len : Nat) (args : Array Value) (s : State) : Prop := args = #[.ref b, .int (Int32.ofNat o), .ref d, .int (Int32.ofNat q), .int (Int32.ofNat len)] ∧ Ch b A s ∧ Arr .byte d B s ∧ b ≠ d ∧ o + len ≤ A.slots.size ∧ q + len ≤ B.slots.size ∧ ∀ i, i < len → ¬ 255 < cv A (o + i)
def E (b : Addr) (A : Cell) (d : Addr) (B : Cell) (o q len : Nat) (r : Option Value) (s u : State) : Prop := r = some (.int (Int32.ofNat len)) ∧ ∃ B', Put d B' s u ∧ Laid B B' q (q + len) (fun j => Value.int (lo8 (cv A (o + (j - q)))))
/-- no char of the range above 255: len; the places written hold each char's low byte -/
theorem law (l : Launch) (b : Addr) (A : Cell) (d : Addr) (B : Cell) (o q len : Nat) : Law l yN 5 5 0 0 yB 7 (some .int) site (P b A d B o q len) (E b A d B o q len) (copyLocs d q len) 0 0 := by
  refine Law.of_walk (plainFor_of_name (by decide +kernel)) (by decide +kernel) (by decide +kernel) (by decide) (fun _ _ h => by rw [h.1]; rfl) (fun _ U U' hal hh h => ⟨h.1, h.2.1.mv hal hh, h.2.2.1.mv hal hh, h.2.2.2⟩) (fun r U U' V V' h1 hal h2 h => ⟨h.1, h.2.elim fun B' q => ⟨B', q.1.mv h1 h2, q.2⟩⟩) ?_
  intro p e s m args below meth c s₁ X0 hexec hbytes hml hret hlk hnm hown hh0 W hP
  obtain ⟨rfl, hA, hB, hne, l1, l2, hp⟩ := hP
  have c1 : Steps p.tables e below (s₁.setTop (entryFrame m #[.ref b, .int (Int32.ofNat o), .ref d, .int (Int32.ofNat q), .int (Int32.ofNat len)] 7)) (s₁.setTop (mkF m 0 #[.val (.ref b), .val (.int (Int32.ofNat o)), .val (.ref d), .val (.int (Int32.ofNat q)), .val (.int (Int32.ofNat len)), .unset, .unset] [])) := entry rfl
  have hA0 := hA.1.mv X0.warmed.alike hh0
  have hB0 := hB.mv X0.warmed.alike hh0
  have a31 := hA.1.2.2.2
  have c2 : Steps p.tables e below (s₁.setTop (entryFrame m #[.ref b, .int (Int32.ofNat o), .ref d, .int (Int32.ofNat q), .int (Int32.ofNat len)] 7)) (s₁.setTop (mkF m 3 #[.val (.ref b), .val (.int (Int32.ofNat o)), .val (.ref d), .val (.int (Int32.ofNat q)), .val (.int (Int32.ofNat len)), .val (.int 0), .unset] [])) := c1.trans (by
    refine iconstV X0.here hexec rfl 0 (hb hbytes d0) (by decide) ?_
    refine XS.istore X0.here hexec rfl (hb hbytes d1) rfl rfl ?_
    exact Steps.refl _)
  have loop : ∀ (r i : Nat), i + r = len → ∀ (z : Slot), (z = .unset ∨ ∃ w, z = .val w ∧ w.category = 1) → ∀ (Tl : State) (Bk : Cell), Stand p l e { frames := 0, locals := 0, cells := 0, slots := 0 } s m #[.ref b, .int (Int32.ofNat o), .ref d, .int (Int32.ofNat q), .int (Int32.ofNat len)] below meth c Tl ([] ++ copyLocs d q i) 0 0 → Put d Bk s₁ Tl → Laid B Bk q (q + i) (fun j => Value.int (lo8 (cv A (o + (j - q))))) →
      Steps p.tables e below (s₁.setTop (entryFrame m #[.ref b, .int (Int32.ofNat o), .ref d, .int (Int32.ofNat q), .int (Int32.ofNat len)] 7)) (Tl.setTop (mkF m 3 #[.val (.ref b), .val (.int (Int32.ofNat (o + i))), .val (.ref d), .val (.int (Int32.ofNat (q + i))), .val (.int (Int32.ofNat len)), .val (.int (Int32.ofNat i)), z] [])) → ∃ (T' : State) (B' : Cell) (z' : Slot), Stand p l e { frames := 0, locals := 0, cells := 0, slots := 0 } s m #[.ref b, .int (Int32.ofNat o), .ref d, .int (Int32.ofNat q), .int (Int32.ofNat len)] below meth c T' ([] ++ copyLocs d q len) 0 0 ∧ Put d B' s₁ T' ∧ Laid B B' q (q + len) (fun j => Value.int (lo8 (cv A (o + (j - q))))) ∧
      Steps p.tables e below (s₁.setTop (entryFrame m #[.ref b, .int (Int32.ofNat o), .ref d, .int (Int32.ofNat q), .int (Int32.ofNat len)] 7)) (T'.setTop (mkF m 3 #[.val (.ref b), .val (.int (Int32.ofNat (o + len))), .val (.ref d), .val (.int (Int32.ofNat (q + len))), .val (.int (Int32.ofNat len)), .val (.int (Int32.ofNat len)), z'] [])) := by
    intro r
    induction r with
    | zero =>
      intro i hi z hz Tl Bk Xl pl fl cl
      have hil : i = len := by omega
      rw [hil] at Xl fl cl
      exact ⟨Tl, Bk, z, Xl, pl, fl, cl⟩
    | succ r ih =>
      intro i hi z hz Tl Bk Xl pl fl cl
      have all := X0.warmed.alike.symm.trans Xl.warmed.alike
      have hAl := hA0.keep all (pl.other hne hA0.1)
      have hBk := hB0.like all pl.1 fl.1 fl.2.1 fl.2.2.1
      have hlt : q + i < Bk.slots.size := by rw [fl.2.2.1]; omega
      have c3 : Steps p.tables e below (s₁.setTop (entryFrame m #[.ref b, .int (Int32.ofNat o), .ref d, .int (Int32.ofNat q), .int (Int32.ofNat len)] 7)) (Tl.setTop (mkF m 12 #[.val (.ref b), .val (.int (Int32.ofNat (o + i))), .val (.ref d), .val (.int (Int32.ofNat (q + i))), .val (.int (Int32.ofNat len)), .val (.int (Int32.ofNat i)), z] [.int (Int32.ofNat (o + i)), .ref b])) := cl.trans (by
        refine XS.iload Xl.here hexec rfl (hb hbytes d3) rfl ?_
        refine XS.iload Xl.here hexec rfl (hb hbytes d5) rfl ?_
        refine XS.icmpNo Xl.here hexec rfl (hb hbytes d7) rfl (ii_ge_f (lt32 (by omega) (by omega))) ?_
        refine XS.aloadN Xl.here hexec rfl (hb hbytes d10) rfl rfl ?_
        refine XS.iloadN Xl.here hexec rfl (hb hbytes d11) rfl ?_
        exact Steps.refl _)
      have c4 : Steps p.tables e below (s₁.setTop (entryFrame m #[.ref b, .int (Int32.ofNat o), .ref d, .int (Int32.ofNat q), .int (Int32.ofNat len)] 7)) (Tl.setTop (mkF m 13 #[.val (.ref b), .val (.int (Int32.ofNat (o + i))), .val (.ref d), .val (.int (Int32.ofNat (q + i))), .val (.int (Int32.ofNat len)), .val (.int (Int32.ofNat i)), z] [.int (cv A (o + i))])) := c3.trans (by
        refine Xl.aget hexec hAl rfl (hA.get (i := o + i) (by omega)) rfl rfl (hb hbytes d12) ?_
        exact Steps.refl _)
      have c5 : Steps p.tables e below (s₁.setTop (entryFrame m #[.ref b, .int (Int32.ofNat o), .ref d, .int (Int32.ofNat q), .int (Int32.ofNat len)] 7)) (Tl.setTop (mkF m 15 #[.val (.ref b), .val (.int (Int32.ofNat (o + i))), .val (.ref d), .val (.int (Int32.ofNat (q + i))), .val (.int (Int32.ofNat len)), .val (.int (Int32.ofNat i)), .val (.int (cv A (o + i)))] [])) := c4.trans (by
        refine XS.istoreS Xl.here hexec rfl (hb hbytes d13) rfl rfl hz ?_
        exact Steps.refl _)
      have c6 : Steps p.tables e below (s₁.setTop (entryFrame m #[.ref b, .int (Int32.ofNat o), .ref d, .int (Int32.ofNat q), .int (Int32.ofNat len)] 7)) (Tl.setTop (mkF m 31 #[.val (.ref b), .val (.int (Int32.ofNat (o + i))), .val (.ref d), .val (.int (Int32.ofNat (q + i))), .val (.int (Int32.ofNat len)), .val (.int (Int32.ofNat i)), .val (.int (cv A (o + i)))] [.int (lo8 (cv A (o + i))), .int (Int32.ofNat (q + i)), .ref d])) := c5.trans (by
        refine XS.iload Xl.here hexec rfl (hb hbytes d15) rfl ?_
        refine sipushV Xl.here hexec rfl 255 (hb hbytes d17) (by decide) ?_
        refine XS.icmpYes Xl.here hexec rfl (pc0 := 20) rfl (hb hbytes d20) rfl (ii_le_t (hp i (by omega))) (by decide) rfl ?_
        refine XS.aloadN Xl.here hexec rfl (hb hbytes d26) rfl rfl ?_
        refine XS.iloadN Xl.here hexec rfl (hb hbytes d27) rfl ?_
        refine XS.iload Xl.here hexec rfl (hb hbytes d28) rfl ?_
        refine i2b Xl.here hexec rfl (hb hbytes d30) rfl ?_
        exact Steps.refl _)
      obtain ⟨T7, X7, p7, st7⟩ := Xl.aput hexec hBk rfl hlt rfl (fits_lo8 (cv A (o + i))) (g := (mkF m 31 #[.val (.ref b), .val (.int (Int32.ofNat (o + i))), .val (.ref d), .val (.int (Int32.ofNat (q + i))), .val (.int (Int32.ofNat len)), .val (.int (Int32.ofNat i)), .val (.int (cv A (o + i)))] [.int (lo8 (cv A (o + i))), .int (Int32.ofNat (q + i)), .ref d])) rfl (rest := []) rfl (hb hbytes d31)
      have c8 : Steps p.tables e below (s₁.setTop (entryFrame m #[.ref b, .int (Int32.ofNat o), .ref d, .int (Int32.ofNat q), .int (Int32.ofNat len)] 7)) (T7.setTop (mkF m 32 #[.val (.ref b), .val (.int (Int32.ofNat (o + i))), .val (.ref d), .val (.int (Int32.ofNat (q + i))), .val (.int (Int32.ofNat len)), .val (.int (Int32.ofNat i)), .val (.int (cv A (o + i)))] [])) := c6.trans (st7 _ (Steps.refl _))
      have c9 : Steps p.tables e below (s₁.setTop (entryFrame m #[.ref b, .int (Int32.ofNat o), .ref d, .int (Int32.ofNat q), .int (Int32.ofNat len)] 7)) (T7.setTop (mkF m 3 #[.val (.ref b), .val (.int (Int32.ofNat (o + i) + 1)), .val (.ref d), .val (.int (Int32.ofNat (q + i) + 1)), .val (.int (Int32.ofNat len)), .val (.int (Int32.ofNat i + 1)), .val (.int (cv A (o + i)))] [])) := c8.trans (by
        refine iincV X7.here hexec rfl 1 (hb hbytes d32) (by decide) rfl rfl ?_
        refine iincV X7.here hexec rfl 1 (hb hbytes d35) (by decide) rfl rfl ?_
        refine iincV X7.here hexec rfl 1 (hb hbytes d38) (by decide) rfl rfl ?_
        refine XS.goto X7.here hexec rfl (pc0 := 41) rfl (hb hbytes d41) (by decide) rfl ?_
        exact Steps.refl _)
      have c10 : Steps p.tables e below (s₁.setTop (entryFrame m #[.ref b, .int (Int32.ofNat o), .ref d, .int (Int32.ofNat q), .int (Int32.ofNat len)] 7)) (T7.setTop (mkF m 3 #[.val (.ref b), .val (.int (Int32.ofNat (o + (i + 1)))), .val (.ref d), .val (.int (Int32.ofNat (q + (i + 1)))), .val (.int (Int32.ofNat len)), .val (.int (Int32.ofNat (i + 1))), .val (.int (cv A (o + i)))] [])) := by
        have := c9
        rw [succ32, succ32, succ32] at this
        exact this
      exact ih (i + 1) (by omega) _ (Or.inr ⟨_, rfl, rfl⟩) T7 _ (by rw [copyLocs_step, ← List.append_assoc]; exact X7) (pl.trans p7) (fl.step (by omega) hlt (by simp)) c10
  obtain ⟨T9, B9, z9, X9, p9, f9, g9⟩ := loop len 0 (by omega) .unset (Or.inl rfl) s₁ B (by simpa [copyLocs] using X0) ⟨hB0.1, fun _ _ => rfl, rfl⟩ (Laid.zero _ _ _) c2
  have c11 : Steps p.tables e below (s₁.setTop (entryFrame m #[.ref b, .int (Int32.ofNat o), .ref d, .int (Int32.ofNat q), .int (Int32.ofNat len)] 7)) (T9.setTop (mkF m 46 #[.val (.ref b), .val (.int (Int32.ofNat (o + len))), .val (.ref d), .val (.int (Int32.ofNat (q + len))), .val (.int (Int32.ofNat len)), .val (.int (Int32.ofNat len)), z9] [.int (Int32.ofNat len)])) := g9.trans (by
    refine XS.iload X9.here hexec rfl (hb hbytes d3) rfl ?_
    refine XS.iload X9.here hexec rfl (hb hbytes d5) rfl ?_
    refine XS.icmpYes X9.here hexec rfl (pc0 := 7) rfl (hb hbytes d7) rfl (ii_ge_t (nlt32 (by omega) (Nat.le_refl _))) (by decide) rfl ?_
    refine XS.iload X9.here hexec rfl (hb hbytes d44) rfl ?_
    exact Steps.refl _)
  exact ⟨T9, some (.int (Int32.ofNat len)), _, _, _, X9, by simp, rfl, rfl, (fun h => by cases h), ⟨rfl, B9, p9.from hh0, f9⟩, fun fs hl => c11.trans (X9.ireturnOut hexec hret rfl (Or.inl rfl) (hb hbytes d46) hl)⟩
end Cmp5
namespace Cmp3
def yN : MethodName := ⟨"java/lang/StringUTF16", "compress", "([CII)[B"⟩
abbrev yB : ByteArray := jdk_52_method_16_code
theorem d0 : decode yB 0 = .ok (.iload_n 2, 1) := by decide +kernel
theorem d1 : decode yB 1 = .ok (.newarray .byte, 2) := by decide +kernel
theorem d3 : decode yB 3 = .ok (.astore_n 3, 1) := by decide +kernel
theorem d4 : decode yB 4 = .ok (.aload_n 0, 1) := by decide +kernel
theorem d5 : decode yB 5 = .ok (.iload_n 1, 1) := by decide +kernel
theorem d6 : decode yB 6 = .ok (.aload_n 3, 1) := by decide +kernel
theorem d7 : decode yB 7 = .ok (.iconst 0, 1) := by decide +kernel
theorem d8 : decode yB 8 = .ok (.iload_n 2, 1) := by decide +kernel
theorem d9 : decode yB 9 = .ok (.invokestatic 115, 3) := by decide +kernel
theorem d12 : decode yB 12 = .ok (.istore 4, 2) := by decide +kernel
theorem d14 : decode yB 14 = .ok (.iload 4, 2) := by decide +kernel
theorem d16 : decode yB 16 = .ok (.iload_n 2, 1) := by decide +kernel
theorem d17 : decode yB 17 = .ok (.if_icmp (.eq) 40, 3) := by decide +kernel
theorem d57 : decode yB 57 = .ok (.aload_n 3, 1) := by decide +kernel
theorem d58 : decode yB 58 = .ok (.areturn, 1) := by decide +kernel
def site : List Cond := [.arrayClass .byte, Cmp5.tab] ++ staticW U16 115 Cmp5.yN
def tab : Cond := tabOf yN yB 6 (some (.array .byte)) site
def P (b : Addr) (A : Cell) (o len : Nat) (args : Array Value) (s : State) : Prop := args = #[.ref b, .int (Int32.ofNat o), .int (Int32.ofNat len)] ∧ Ch b A s ∧ o + len ≤ A.slots.size ∧ len ≤ 536870912 ∧ ∀ i, i < len → ¬ 255 < cv A (o + i)
def E (b : Addr) (A : Cell) (o len : Nat) (r : Option Value) (s u : State) : Prop := NewArr .byte "[B" len (fun j => .int (lo8 (cv A (o + j)))) r s u ∧ u.heap.size = s.heap.size + 1
/-- no char of the range above 255: a new byte[] of their low bytes -/
theorem law (l : Launch) (b : Addr) (A : Cell) (o len : Nat) : Law l yN 3 3 1 18 yB 6 (some (.array .byte)) site (P b A o len) (E b A o len) [] 1 len := by
  refine Law.of_walk (plainFor_of_name (by decide +kernel)) (by decide +kernel) (by decide +kernel) (by decide) (fun _ _ h => by rw [h.1]; rfl) (fun _ U U' hal hh h => ⟨h.1, h.2.1.mv hal hh, h.2.2⟩) (fun r U U' V V' h1 hal h2 h => ⟨NewArr.mv r U U' V V' h1 hal h2 h.1, by rw [h1, h2]; exact h.2⟩) ?_
  intro p e s m args below meth c s₁ X0 hexec hbytes hml hret hlk hnm hown hh0 W hP
  obtain ⟨rfl, hA, l1, l2, hp⟩ := hP
  have a31 := hA.1.2.2.2
  have c1 : Steps p.tables e below (s₁.setTop (entryFrame m #[.ref b, .int (Int32.ofNat o), .int (Int32.ofNat len)] 6)) (s₁.setTop (mkF m 0 #[.val (.ref b), .val (.int (Int32.ofNat o)), .val (.int (Int32.ofNat len)), .unset, .unset, .unset] [])) := entry rfl
  have c2 : Steps p.tables e below (s₁.setTop (entryFrame m #[.ref b, .int (Int32.ofNat o), .int (Int32.ofNat len)] 6)) (s₁.setTop (mkF m 1 #[.val (.ref b), .val (.int (Int32.ofNat o)), .val (.int (Int32.ofNat len)), .unset, .unset, .unset] [.int (Int32.ofNat len)])) := c1.trans (by
    refine XS.iloadN X0.here hexec rfl (hb hbytes d0) rfl ?_
    exact Steps.refl _)
  obtain ⟨T3, B3, X3, ba3, bs3, bv3, bh3, bf3, st3⟩ := X0.anew hexec (atype := .byte) (wk W (.arrayClass .byte)) rfl (by show len * 1 ≤ _; omega) (by omega) (g := (mkF m 1 #[.val (.ref b), .val (.int (Int32.ofNat o)), .val (.int (Int32.ofNat len)), .unset, .unset, .unset] [.int (Int32.ofNat len)])) rfl (hb hbytes d1) (rest := []) rfl (Nat.le_refl _) (by show 0 + len ≤ len; omega)
  rw [hh0] at ba3 st3
  have kp3 : XT.Kept s T3 := (XT.Kept.of_eq hh0).push bh3
  have hA3 := hA.keep X3.warmed.alike (kp3 _ _ hA.1.1)
  have hne : b ≠ s.heap.size := hA.1.ne
  have c4 : Steps p.tables e below (s₁.setTop (entryFrame m #[.ref b, .int (Int32.ofNat o), .int (Int32.ofNat len)] 6)) (T3.setTop (mkF m 3 #[.val (.ref b), .val (.int (Int32.ofNat o)), .val (.int (Int32.ofNat len)), .unset, .unset, .unset] [.ref s.heap.size])) := c2.trans (st3 _ (Steps.refl _))
  have c5 : Steps p.tables e below (s₁.setTop (entryFrame m #[.ref b, .int (Int32.ofNat o), .int (Int32.ofNat len)] 6)) (T3.setTop (mkF m 9 #[.val (.ref b), .val (.int (Int32.ofNat o)), .val (.int (Int32.ofNat len)), .val (.ref s.heap.size), .unset, .unset] [.int (Int32.ofNat len), .int 0, .ref s.heap.size, .int (Int32.ofNat o), .ref b])) := c4.trans (by
    refine XS.astoreN X3.here hexec rfl (hb hbytes d3) rfl rfl rfl ?_
    refine XS.aloadN X3.here hexec rfl (hb hbytes d4) rfl rfl ?_
    refine XS.iloadN X3.here hexec rfl (hb hbytes d5) rfl ?_
    refine XS.aloadN X3.here hexec rfl (hb hbytes d6) rfl rfl ?_
    refine iconstV X3.here hexec rfl 0 (hb hbytes d7) (by decide) ?_
    refine XS.iloadN X3.here hexec rfl (hb hbytes d8) rfl ?_
    exact Steps.refl _)
  obtain ⟨v6, T6, X6, E6, g6⟩ := X3.callS hexec (Cmp5.law l b A s.heap.size B3 o 0 len) hown (wks W (staticW U16 115 Cmp5.yN)) (wk W Cmp5.tab) (W := 0) (Nat.le_of_ble_eq_true rfl) (Nat.le_of_ble_eq_true rfl) (Nat.le_refl _) (by show 0 + len + 0 ≤ len; omega) (g := (mkF m 9 #[.val (.ref b), .val (.int (Int32.ofNat o)), .val (.int (Int32.ofNat len)), .val (.ref s.heap.size), .unset, .unset] [.int (Int32.ofNat len), .int (Int32.ofNat 0), .ref s.heap.size, .int (Int32.ofNat o), .ref b])) rfl (by rw [hml]; rfl) c5 (argsL := [.ref b, .int (Int32.ofNat o), .ref s.heap.size, .int (Int32.ofNat 0), .int (Int32.ofNat len)]) (rest := []) rfl rfl (by show 2 * 0 + 0 ≤ _; decide) (hb hbytes d9) (⟨rfl, hA3, ba3, hne, l1, by rw [bs3]; simp, hp⟩)
  obtain ⟨rfl, B6, p6, f6⟩ := E6
  have c7 : Steps p.tables e below (s₁.setTop (entryFrame m #[.ref b, .int (Int32.ofNat o), .int (Int32.ofNat len)] 6)) (T6.setTop (mkF m 12 #[.val (.ref b), .val (.int (Int32.ofNat o)), .val (.int (Int32.ofNat len)), .val (.ref s.heap.size), .unset, .unset] [.int (Int32.ofNat len)])) := g6
  have c8 : Steps p.tables e below (s₁.setTop (entryFrame m #[.ref b, .int (Int32.ofNat o), .int (Int32.ofNat len)] 6)) (T6.setTop (mkF m 58 #[.val (.ref b), .val (.int (Int32.ofNat o)), .val (.int (Int32.ofNat len)), .val (.ref s.heap.size), .val (.int (Int32.ofNat len)), .unset] [.ref s.heap.size])) := c7.trans (by
    refine XS.istore X6.here hexec rfl (hb hbytes d12) rfl rfl ?_
    refine XS.iload X6.here hexec rfl (hb hbytes d14) rfl ?_
    refine XS.iloadN X6.here hexec rfl (hb hbytes d16) rfl ?_
    refine XS.icmpYes X6.here hexec rfl (pc0 := 17) rfl (hb hbytes d17) rfl (ii_eq_t rfl) (by decide) rfl ?_
    refine XS.aloadN X6.here hexec rfl (hb hbytes d57) rfl rfl ?_
    exact Steps.refl _)
  have X8 := X6.wide (L' := []) (cells' := 1) (slots' := len) (fun x hx hlt => by
    simp only [List.nil_append, copyLocs, List.mem_map, List.mem_range] at hx
    obtain ⟨i, -, rfl⟩ := hx
    exact absurd hlt (Nat.lt_irrefl _)) (Nat.le_refl _) (by omega)
  exact ⟨T6, some (.ref s.heap.size), _, _, _, X8, rfl, rfl, rfl, (fun h => by cases h), ⟨⟨rfl, B6, ba3.like (X3.warmed.alike.symm.trans X6.warmed.alike) p6.1 f6.1 f6.2.1 f6.2.2.1, f6.2.1.trans bv3, by rw [X6.warmed.alike.findClass, f6.1]; exact bf3, by rw [f6.2.2.1, bs3]; simp, fun j hj => by rw [f6.2.2.2 j, if_pos (by omega)]; rfl, kp3.put p6 (Nat.le_refl _)⟩, by rw [p6.2.2, bh3, hh0]; simp⟩, fun fs hl => c8.trans (X8.areturnOut hexec rfl hret rfl (hb hbytes d58) hl)⟩
end Cmp3
namespace CodL
def yN : MethodName := ⟨"java/lang/StringUTF16", "coderFromArrayLen", "([BI)B"⟩
abbrev yB : ByteArray := jdk_52_method_15_code
theorem d0 : decode yB 0 = .ok (.iload_n 1, 1) := by decide +kernel
theorem d1 : decode yB 1 = .ok (.aload_n 0, 1) := by decide +kernel
theorem d2 : decode yB 2 = .ok (.arraylength, 1) := by decide +kernel
theorem d3 : decode yB 3 = .ok (.isub, 1) := by decide +kernel
theorem d4 : decode yB 4 = .ok (.bipush 31, 2) := by decide +kernel
theorem d6 : decode yB 6 = .ok (.iushr, 1) := by decide +kernel
theorem d7 : decode yB 7 = .ok (.i2b, 1) := by decide +kernel
theorem d8 : decode yB 8 = .ok (.ireturn, 1) := by decide +kernel
def site : List Cond := []
def tab : Cond := tabOf yN yB 2 (some .byte) site
def P (d : Addr) (B : Cell) (args : Array Value) (s : State) : Prop := args = #[.ref d, .int (Int32.ofNat B.slots.size)] ∧ Arr .byte d B s
def E (r : Option Value) (s u : State) : Prop := XT.PureE (some (.int 0)) r s u
/-- an array as long as the number of chars: LATIN1 -/
theorem law (l : Launch) (d : Addr) (B : Cell) : Law l yN 2 2 0 0 yB 2 (some .byte) site (P d B) E [] 0 0 := by
  refine Law.of_walk (plainFor_of_name (by decide +kernel)) (by decide +kernel) (by decide +kernel) (by decide) (fun _ _ h => by rw [h.1]; rfl) (fun _ U U' hal hh h => ⟨h.1, h.2.mv hal hh⟩) (fun r U U' V V' h1 hal h2 h => XT.PureE.mv r U U' V V' h1 hal h2 h) ?_
  intro p e s m args below meth c s₁ X0 hexec hbytes hml hret hlk hnm hown hh0 W hP
  obtain ⟨rfl, hB⟩ := hP
  have hB0 := hB.mv X0.warmed.alike hh0
  have c1 : Steps p.tables e below (s₁.setTop (entryFrame m #[.ref d, .int (Int32.ofNat B.slots.size)] 2)) (s₁.setTop (mkF m 0 #[.val (.ref d), .val (.int (Int32.ofNat B.slots.size))] [])) := entry rfl
  have c2 : Steps p.tables e below (s₁.setTop (entryFrame m #[.ref d, .int (Int32.ofNat B.slots.size)] 2)) (s₁.setTop (mkF m 2 #[.val (.ref d), .val (.int (Int32.ofNat B.slots.size))] [.ref d, .int (Int32.ofNat B.slots.size)])) := c1.trans (by
    refine XS.iloadN X0.here hexec rfl (hb hbytes d0) rfl ?_
    refine XS.aloadN X0.here hexec rfl (hb hbytes d1) rfl rfl ?_
    exact Steps.refl _)
  have c3 : Steps p.tables e below (s₁.setTop (entryFrame m #[.ref d, .int (Int32.ofNat B.slots.size)] 2)) (s₁.setTop (mkF m 8 #[.val (.ref d), .val (.int (Int32.ofNat B.slots.size))] [.int (lo8 (ushr (Int32.ofNat B.slots.size - Int32.ofNat B.slots.size) 31))])) := c2.trans (by
    refine X0.alen hexec hB0 rfl rfl (hb hbytes d2) ?_
    refine XS.isub X0.here hexec rfl (hb hbytes d3) rfl ?_
    refine bipushV X0.here hexec rfl 31 (hb hbytes d4) (by decide) ?_
    refine iushr X0.here hexec rfl (hb hbytes d6) rfl ?_
    refine i2b X0.here hexec rfl (hb hbytes d7) rfl ?_
    exact Steps.refl _)
  have e0 : lo8 (ushr (Int32.ofNat B.slots.size - Int32.ofNat B.slots.size) 31) = 0 := by rw [Int32.sub_self]; decide
  rw [e0] at c3
  exact ⟨s₁, some (.int 0), _, _, _, X0, rfl, rfl, rfl, (fun h => by cases h), ⟨rfl, hh0⟩, fun fs hl => c3.trans (X0.ireturnOut hexec hret rfl (Or.inr (Or.inr (Or.inl rfl))) (hb hbytes d8) hl)⟩
end CodL
/-- the String at a is Latin-1 over a new byte[] (the heap's one new cell): the low bytes of the len chars of A from o on; every cell but a is kept -/
def Got (a : Addr) (D : Cell) (fV fC : Field) (A : Cell) (o len : Nat) (r : Option Value) (s u : State) : Prop := r = none ∧ ∃ D' V : Cell, Blank "java/lang/String" a D' u ∧ Same D D' [fV.slot, fC.slot] ∧ D'.slots[fV.slot]? = some (.ref s.heap.size) ∧ D'.slots[fC.slot]? = some (.int 0) ∧ Arr .byte s.heap.size V u ∧ V.vm = .none ∧ u.vm.findClass "[B" = some V.cls ∧ V.slots.size = len ∧ (∀ j, j < len → V.slots[j]? = some (.int (lo8 (cv A (o + j))))) ∧ (∀ (y : Addr) (c : Cell), y ≠ a → s.heap[y]? = some c → u.heap[y]? = some c) ∧ u.heap.size = s.heap.size + 1
theorem Got.mv {a : Addr} {D A : Cell} {fV fC : Field} {o len : Nat} : ∀ r (U U' V V' : State), U'.heap = U.heap → V.vm.Alike V'.vm → V'.heap = V.heap → Got a D fV fC A o len r U V → Got a D fV fC A o len r U' V' :=
  fun r U U' V V' h1 hal h2 ⟨e0, D', X, a1, a2, a3, a4, a5, a6, a7, a8, a9, a10, a11⟩ => ⟨e0, D', X, a1.mv hal h2, a2, by rw [h1]; exact a3, a4, by rw [h1]; exact a5.mv hal h2, a6, by rw [hal.findClass]; exact a7, a8, a9, by rw [h1, h2]; exact a10, by rw [h1, h2]; exact a11⟩
namespace New4
def yN : MethodName := ⟨"java/lang/String", "<init>", "([CIILjava/lang/Void;)V"⟩
abbrev yB : ByteArray := jdk_42_method_149_code
theorem d0 : decode yB 0 = .ok (.aload_n 0, 1) := by decide +kernel
theorem d1 : decode yB 1 = .ok (.invokespecial 1, 3) := by decide +kernel
theorem d4 : decode yB 4 = .ok (.iload_n 3, 1) := by decide +kernel
theorem d5 : decode yB 5 = .ok (.ifCond (.ne) 22, 3) := by decide +kernel
theorem d27 : decode yB 27 = .ok (.getstatic 38, 3) := by decide +kernel
theorem d30 : decode yB 30 = .ok (.ifCond (.eq) 28, 3) := by decide +kernel
theorem d33 : decode yB 33 = .ok (.aload_n 1, 1) := by decide +kernel
theorem d34 : decode yB 34 = .ok (.iload_n 2, 1) := by decide +kernel
theorem d35 : decode yB 35 = .ok (.iload_n 3, 1) := by decide +kernel
theorem d36 : decode yB 36 = .ok (.invokestatic 177, 3) := by decide +kernel
theorem d39 : decode yB 39 = .ok (.astore 5, 2) := by decide +kernel
theorem d41 : decode yB 41 = .ok (.aload_n 0, 1) := by decide +kernel
theorem d42 : decode yB 42 = .ok (.aload 5, 2) := by decide +kernel
theorem d44 : decode yB 44 = .ok (.iload_n 3, 1) := by decide +kernel
theorem d45 : decode yB 45 = .ok (.invokestatic 47, 3) := by decide +kernel
theorem d48 : decode yB 48 = .ok (.putfield 15, 3) := by decide +kernel
theorem d51 : decode yB 51 = .ok (.aload_n 0, 1) := by decide +kernel
theorem d52 : decode yB 52 = .ok (.aload 5, 2) := by decide +kernel
theorem d54 : decode yB 54 = .ok (.putfield 9, 3) := by decide +kernel
theorem d57 : decode yB 57 = .ok (.return_, 1) := by decide +kernel
def site : List Cond := [.fieldLink "java/lang/String" 38 "java/lang/String" "COMPACT_STRINGS" "Z", Cmp3.tab, CodL.tab, .laysFinal "java/lang/String" "java/lang/String" "value" "[B", .fieldLink "java/lang/String" 9 "java/lang/String" "value" "[B", .laysFinal "java/lang/String" "java/lang/String" "coder" "B", .fieldLink "java/lang/String" 15 "java/lang/String" "coder" "B"] ++ objW "java/lang/String" 1 ++ staticW "java/lang/String" 177 Cmp3.yN ++ staticW "java/lang/String" 47 CodL.yN
def tab : Cond := tabOf yN yB 6 none site
def P (a : Addr) (D : Cell) (fV fC : Field) (b : Addr) (A : Cell) (z : Int32) (o len : Nat) (args : Array Value) (s : State) : Prop := args = #[.ref a, .ref b, .int (Int32.ofNat o), .int (Int32.ofNat len), .null] ∧ Blank "java/lang/String" a D s ∧ Found "java/lang/String" "value" "[B" fV s ∧ Found "java/lang/String" "coder" "B" fC s ∧ Ch b A s ∧ StaticIs s "java/lang/String" "COMPACT_STRINGS" "Z" (.int z) ∧ ¬ z = 0 ∧ 0 < len ∧ o + len ≤ A.slots.size ∧ len ≤ 536870912 ∧ ∀ i, i < len → ¬ 255 < cv A (o + i)
def E (a : Addr) (D : Cell) (fV fC : Field) (A : Cell) (o len : Nat) (r : Option Value) (s u : State) : Prop := Got a D fV fC A o len r s u
/-- len > 0, no char of the range above 255: a Latin-1 String of their low bytes -/
theorem law (l : Launch) (a : Addr) (D : Cell) (fV fC : Field) (b : Addr) (A : Cell) (z : Int32) (o len : Nat) : Law l yN 5 4 2 35 yB 6 none site (P a D fV fC b A z o len) (E a D fV fC A o len) [⟨a, fC.slot⟩, ⟨a, fV.slot⟩] 1 len := by
  refine Law.of_walk (plainFor_of_name (by decide +kernel)) (by decide +kernel) (by decide +kernel) (by decide) (fun _ _ h => by rw [h.1]; rfl) (fun _ U U' hal hh h => ⟨h.1, h.2.1.mv hal hh, h.2.2.1.al hal, h.2.2.2.1.al hal, h.2.2.2.2.1.mv hal hh, h.2.2.2.2.2.1.there hal hh, h.2.2.2.2.2.2⟩) (fun r U U' V V' h1 hal h2 h => Got.mv r U U' V V' h1 hal h2 h) ?_
  intro p e s m args below meth c s₁ X0 hexec hbytes hml hret hlk hnm hown hh0 W hP
  obtain ⟨rfl, hB, f1, f2, hA, s1, hz, l0, l1, l2, hp⟩ := hP
  have a31 := hA.1.2.2.2
  have c1 : Steps p.tables e below (s₁.setTop (entryFrame m #[.ref a, .ref b, .int (Int32.ofNat o), .int (Int32.ofNat len), .null] 6)) (s₁.setTop (mkF m 0 #[.val (.ref a), .val (.ref b), .val (.int (Int32.ofNat o)), .val (.int (Int32.ofNat len)), .val .null, .unset] [])) := entry rfl
  have c2 : Steps p.tables e below (s₁.setTop (entryFrame m #[.ref a, .ref b, .int (Int32.ofNat o), .int (Int32.ofNat len), .null] 6)) (s₁.setTop (mkF m 1 #[.val (.ref a), .val (.ref b), .val (.int (Int32.ofNat o)), .val (.int (Int32.ofNat len)), .val .null, .unset] [.ref a])) := c1.trans (by
    refine XS.aloadN X0.here hexec rfl (hb hbytes d0) rfl rfl ?_
    exact Steps.refl _)
  obtain ⟨T3, X3, q3, st3⟩ := X0.oinit hexec hown (wks W (objW "java/lang/String" 1)) (g := (mkF m 1 #[.val (.ref a), .val (.ref b), .val (.int (Int32.ofNat o)), .val (.int (Int32.ofNat len)), .val .null, .unset] [.ref a])) rfl (by rw [hml]; rfl) (rest := []) rfl (hb hbytes d1) (W := 0) (by show 2 * 0 + 0 ≤ _; decide) (Nat.le_of_ble_eq_true rfl) (Nat.le_of_ble_eq_true rfl)
  have hh3 := q3.trans hh0
  have c4 : Steps p.tables e below (s₁.setTop (entryFrame m #[.ref a, .ref b, .int (Int32.ofNat o), .int (Int32.ofNat len), .null] 6)) (T3.setTop (mkF m 27 #[.val (.ref a), .val (.ref b), .val (.int (Int32.ofNat o)), .val (.int (Int32.ofNat len)), .val .null, .unset] [])) := (c2.trans (st3 _ (Steps.refl _))).trans (by
    refine XS.iloadN X3.here hexec rfl (hb hbytes d4) rfl ?_
    refine XS.ifYes X3.here hexec rfl (pc0 := 5) rfl (hb hbytes d5) rfl (i0_ne_t (nz32 (by omega) l0)) (by decide) rfl ?_
    exact Steps.refl _)
  obtain ⟨T5, X5, q5, st5⟩ := X3.sget hexec hown (wk W (.fieldLink "java/lang/String" 38 "java/lang/String" "COMPACT_STRINGS" "Z")) s1 (fun _ _ h => by rw [hh3]; exact h) (g := (mkF m 27 #[.val (.ref a), .val (.ref b), .val (.int (Int32.ofNat o)), .val (.int (Int32.ofNat len)), .val .null, .unset] [])) rfl (hb hbytes d27)
  have hh5 := q5.trans hh3
  have c6 : Steps p.tables e below (s₁.setTop (entryFrame m #[.ref a, .ref b, .int (Int32.ofNat o), .int (Int32.ofNat len), .null] 6)) (T5.setTop (mkF m 30 #[.val (.ref a), .val (.ref b), .val (.int (Int32.ofNat o)), .val (.int (Int32.ofNat len)), .val .null, .unset] [.int z])) := c4.trans (st5 _ (Steps.refl _))
  have c7 : Steps p.tables e below (s₁.setTop (entryFrame m #[.ref a, .ref b, .int (Int32.ofNat o), .int (Int32.ofNat len), .null] 6)) (T5.setTop (mkF m 36 #[.val (.ref a), .val (.ref b), .val (.int (Int32.ofNat o)), .val (.int (Int32.ofNat len)), .val .null, .unset] [.int (Int32.ofNat len), .int (Int32.ofNat o), .ref b])) := c6.trans (by
    refine XS.ifNo X5.here hexec rfl (hb hbytes d30) rfl (i0_eq_f hz) ?_
    refine XS.aloadN X5.here hexec rfl (hb hbytes d33) rfl rfl ?_
    refine XS.iloadN X5.here hexec rfl (hb hbytes d34) rfl ?_
    refine XS.iloadN X5.here hexec rfl (hb hbytes d35) rfl ?_
    exact Steps.refl _)
  obtain ⟨v8, T8, X8, E8, g8⟩ := X5.callS hexec (Cmp3.law l b A o len) hown (wks W (staticW "java/lang/String" 177 Cmp3.yN)) (wk W Cmp3.tab) (W := 0) (Nat.le_of_ble_eq_true rfl) (Nat.le_of_ble_eq_true rfl) (Nat.le_refl _) (by show 0 + len ≤ len; omega) (g := (mkF m 36 #[.val (.ref a), .val (.ref b), .val (.int (Int32.ofNat o)), .val (.int (Int32.ofNat len)), .val .null, .unset] [.int (Int32.ofNat len), .int (Int32.ofNat o), .ref b])) rfl (by rw [hml]; rfl) c7 (argsL := [.ref b, .int (Int32.ofNat o), .int (Int32.ofNat len)]) (rest := []) rfl rfl (by show 2 * 0 + 0 ≤ _; decide) (hb hbytes d36) (⟨rfl, hA.mv X5.warmed.alike hh5, l1, l2, hp⟩)
  obtain ⟨e8, z8⟩ := E8
  obtain ⟨rfl, N, n1, n2, n3, n4, n5, n6⟩ := NewArr.mv _ T5 s _ _ hh5.symm (Vm.Alike.refl _) rfl e8
  rw [hh5] at z8
  have hB1 := hB.keep X8.warmed.alike (n6 _ _ hB.1)
  have hne : s.heap.size ≠ a := (Nat.ne_of_lt (Array.getElem?_eq_some_iff.mp hB.1).1).symm
  have c9 : Steps p.tables e below (s₁.setTop (entryFrame m #[.ref a, .ref b, .int (Int32.ofNat o), .int (Int32.ofNat len), .null] 6)) (T8.setTop (mkF m 39 #[.val (.ref a), .val (.ref b), .val (.int (Int32.ofNat o)), .val (.int (Int32.ofNat len)), .val .null, .unset] [.ref s.heap.size])) := g8
  have c10 : Steps p.tables e below (s₁.setTop (entryFrame m #[.ref a, .ref b, .int (Int32.ofNat o), .int (Int32.ofNat len), .null] 6)) (T8.setTop (mkF m 45 #[.val (.ref a), .val (.ref b), .val (.int (Int32.ofNat o)), .val (.int (Int32.ofNat len)), .val .null, .val (.ref s.heap.size)] [.int (Int32.ofNat N.slots.size), .ref s.heap.size, .ref a])) := by
    have hc : Steps p.tables e below (s₁.setTop (entryFrame m #[.ref a, .ref b, .int (Int32.ofNat o), .int (Int32.ofNat len), .null] 6)) (T8.setTop (mkF m 45 #[.val (.ref a), .val (.ref b), .val (.int (Int32.ofNat o)), .val (.int (Int32.ofNat len)), .val .null, .val (.ref s.heap.size)] [.int (Int32.ofNat len), .ref s.heap.size, .ref a])) := c9.trans (by
      refine XS.astore X8.here hexec rfl (hb hbytes d39) rfl rfl rfl ?_
      refine XS.aloadN X8.here hexec rfl (hb hbytes d41) rfl rfl ?_
      refine XS.aload X8.here hexec rfl (hb hbytes d42) rfl rfl ?_
      refine XS.iloadN X8.here hexec rfl (hb hbytes d44) rfl ?_
      exact Steps.refl _)
    rw [n4]; exact hc
  obtain ⟨v11, T11, X11, E11, g11⟩ := X8.callS hexec (CodL.law l s.heap.size N) hown (wks W (staticW "java/lang/String" 47 CodL.yN)) (wk W CodL.tab) (W := 1) (Nat.le_of_ble_eq_true rfl) (Nat.le_of_ble_eq_true rfl) (Nat.le_refl _) (by show 0 + len + 0 ≤ len; omega) (g := (mkF m 45 #[.val (.ref a), .val (.ref b), .val (.int (Int32.ofNat o)), .val (.int (Int32.ofNat len)), .val .null, .val (.ref s.heap.size)] [.int (Int32.ofNat N.slots.size), .ref s.heap.size, .ref a])) rfl (by rw [hml]; rfl) c10 (argsL := [.ref s.heap.size, .int (Int32.ofNat N.slots.size)]) (rest := [.ref a]) rfl rfl (by show 2 * 0 + (1 + 0) ≤ _; decide) (hb hbytes d45) (⟨rfl, n1⟩)
  obtain ⟨rfl, q11⟩ := E11
  have hB11 := hB1.mv (X8.warmed.alike.symm.trans X11.warmed.alike) q11
  have c12 : Steps p.tables e below (s₁.setTop (entryFrame m #[.ref a, .ref b, .int (Int32.ofNat o), .int (Int32.ofNat len), .null] 6)) (T11.setTop (mkF m 48 #[.val (.ref a), .val (.ref b), .val (.int (Int32.ofNat o)), .val (.int (Int32.ofNat len)), .val .null, .val (.ref s.heap.size)] [.int 0, .ref a])) := g11
  obtain ⟨T13, X13, p13, bl13, sl13, st13⟩ := X11.finit hexec hown (wk W (.fieldLink "java/lang/String" 15 "java/lang/String" "coder" "B")) (Or.inr ⟨_, (wk W (.laysFinal "java/lang/String" "java/lang/String" "coder" "B"))⟩) (Or.inl ⟨rfl, hnm⟩) f2 (Or.inl rfl) hB11 (t := .byte) (by decide +kernel) rfl (g := (mkF m 48 #[.val (.ref a), .val (.ref b), .val (.int (Int32.ofNat o)), .val (.int (Int32.ofNat len)), .val .null, .val (.ref s.heap.size)] [.int 0, .ref a])) rfl (rest := []) rfl (hb hbytes d48)
  have c14 : Steps p.tables e below (s₁.setTop (entryFrame m #[.ref a, .ref b, .int (Int32.ofNat o), .int (Int32.ofNat len), .null] 6)) (T13.setTop (mkF m 54 #[.val (.ref a), .val (.ref b), .val (.int (Int32.ofNat o)), .val (.int (Int32.ofNat len)), .val .null, .val (.ref s.heap.size)] [.ref s.heap.size, .ref a])) := (c12.trans (st13 _ (Steps.refl _))).trans (by
    refine XS.aloadN X13.here hexec rfl (hb hbytes d51) rfl rfl ?_
    refine XS.aload X13.here hexec rfl (hb hbytes d52) rfl rfl ?_
    exact Steps.refl _)
  obtain ⟨T15, X15, p15, bl15, sl15, st15⟩ := X13.finit hexec hown (wk W (.fieldLink "java/lang/String" 9 "java/lang/String" "value" "[B")) (Or.inr ⟨_, (wk W (.laysFinal "java/lang/String" "java/lang/String" "value" "[B"))⟩) (Or.inl ⟨rfl, hnm⟩) f1 (Or.inl rfl) bl13 (t := (.array .byte)) (by decide +kernel) rfl (g := (mkF m 54 #[.val (.ref a), .val (.ref b), .val (.int (Int32.ofNat o)), .val (.int (Int32.ofNat len)), .val .null, .val (.ref s.heap.size)] [.ref s.heap.size, .ref a])) rfl (rest := []) rfl (hb hbytes d54)
  have c16 : Steps p.tables e below (s₁.setTop (entryFrame m #[.ref a, .ref b, .int (Int32.ofNat o), .int (Int32.ofNat len), .null] 6)) (T15.setTop (mkF m 57 #[.val (.ref a), .val (.ref b), .val (.int (Int32.ofNat o)), .val (.int (Int32.ofNat len)), .val .null, .val (.ref s.heap.size)] [])) := c14.trans (st15 _ (Steps.refl _))
  have ap := apart (Or.inr ⟨_, (wk W (.laysFinal "java/lang/String" "java/lang/String" "value" "[B"))⟩) (Or.inr ⟨_, (wk W (.laysFinal "java/lang/String" "java/lang/String" "coder" "B"))⟩) f1 f2 (t₁ := .array .byte) (t₂ := .byte) (by decide +kernel) (by decide +kernel) (by decide)
  have al := X8.warmed.alike.symm.trans X15.warmed.alike
  have n7 : T11.heap[s.heap.size]? = some N := by rw [q11]; exact n1.1
  exact ⟨T15, none, _, _, _, X15, by simp, rfl, by omega, (fun _ => rfl), ⟨rfl, _, N, bl15, ((Same.refl D _).set _ (by simp)).set _ (by simp), sl15, (Cell.slots_setSlot_ne _ ap).trans sl13, n1.keep al (p15.other hne (p13.other hne n7)), n2, by rw [al.findClass]; exact n3, n4, n5, fun y c h1 h2 => p15.other h1 (p13.other h1 (by rw [q11]; exact n6 y c h2)), by rw [p15.2.2, p13.2.2, q11]; exact z8⟩, fun fs hl => c16.trans (X15.returnOut hexec hret (hb hbytes d57) hl)⟩
end New4
namespace New1
def yN : MethodName := ⟨"java/lang/String", "<init>", "([C)V"⟩
abbrev yB : ByteArray := jdk_42_method_3_code
theorem d0 : decode yB 0 = .ok (.aload_n 0, 1) := by decide +kernel
theorem d1 : decode yB 1 = .ok (.aload_n 1, 1) := by decide +kernel
theorem d2 : decode yB 2 = .ok (.iconst 0, 1) := by decide +kernel
theorem d3 : decode yB 3 = .ok (.aload_n 1, 1) := by decide +kernel
theorem d4 : decode yB 4 = .ok (.arraylength, 1) := by decide +kernel
theorem d5 : decode yB 5 = .ok (.aconst_null, 1) := by decide +kernel
theorem d6 : decode yB 6 = .ok (.invokespecial 27, 3) := by decide +kernel
theorem d9 : decode yB 9 = .ok (.return_, 1) := by decide +kernel
def site : List Cond := [New4.tab] ++ initW "java/lang/String" 27 New4.yN
def tab : Cond := tabOf yN yB 2 none site
def P (a : Addr) (D : Cell) (fV fC : Field) (b : Addr) (A : Cell) (z : Int32) (args : Array Value) (s : State) : Prop := args = #[.ref a, .ref b] ∧ Blank "java/lang/String" a D s ∧ Found "java/lang/String" "value" "[B" fV s ∧ Found "java/lang/String" "coder" "B" fC s ∧ Ch b A s ∧ StaticIs s "java/lang/String" "COMPACT_STRINGS" "Z" (.int z) ∧ ¬ z = 0 ∧ 0 < A.slots.size ∧ A.slots.size ≤ 536870912 ∧ ∀ i, i < A.slots.size → ¬ 255 < cv A i
def E (a : Addr) (D : Cell) (fV fC : Field) (A : Cell) (r : Option Value) (s u : State) : Prop := Got a D fV fC A 0 A.slots.size r s u
/-- new String(chars), not empty, no char above 255: a Latin-1 String of their low bytes -/
theorem law (l : Launch) (a : Addr) (D : Cell) (fV fC : Field) (b : Addr) (A : Cell) (z : Int32) : Law l yN 2 1 3 52 yB 2 none site (P a D fV fC b A z) (E a D fV fC A) [⟨a, fC.slot⟩, ⟨a, fV.slot⟩] 1 A.slots.size := by
  refine Law.of_walk (plainFor_of_name (by decide +kernel)) (by decide +kernel) (by decide +kernel) (by decide) (fun _ _ h => by rw [h.1]; rfl) (fun _ U U' hal hh h => ⟨h.1, h.2.1.mv hal hh, h.2.2.1.al hal, h.2.2.2.1.al hal, h.2.2.2.2.1.mv hal hh, h.2.2.2.2.2.1.there hal hh, h.2.2.2.2.2.2⟩) (fun r U U' V V' h1 hal h2 h => Got.mv r U U' V V' h1 hal h2 h) ?_
  intro p e s m args below meth c s₁ X0 hexec hbytes hml hret hlk hnm hown hh0 W hP
  obtain ⟨rfl, hB, f1, f2, hA, s1, hz, l0, l2, hp⟩ := hP
  have c1 : Steps p.tables e below (s₁.setTop (entryFrame m #[.ref a, .ref b] 2)) (s₁.setTop (mkF m 0 #[.val (.ref a), .val (.ref b)] [])) := entry rfl
  have c2 : Steps p.tables e below (s₁.setTop (entryFrame m #[.ref a, .ref b] 2)) (s₁.setTop (mkF m 6 #[.val (.ref a), .val (.ref b)] [.null, .int (Int32.ofNat A.slots.size), .int 0, .ref b, .ref a])) := c1.trans (by
    refine XS.aloadN X0.here hexec rfl (hb hbytes d0) rfl rfl ?_
    refine XS.aloadN X0.here hexec rfl (hb hbytes d1) rfl rfl ?_
    refine iconstV X0.here hexec rfl 0 (hb hbytes d2) (by decide) ?_
    refine XS.aloadN X0.here hexec rfl (hb hbytes d3) rfl rfl ?_
    refine X0.alen hexec (hA.1.mv X0.warmed.alike hh0) rfl rfl (hb hbytes d4) ?_
    refine XS.aconstNull X0.here hexec rfl (hb hbytes d5) ?_
    exact Steps.refl _)
  obtain ⟨v3, T3, X3, E3, g3⟩ := X0.callN hexec (New4.law l a D fV fC b A z 0 A.slots.size) rfl hown (wks W (initW "java/lang/String" 27 New4.yN)) (W New4.tab (by simp only [site, List.mem_cons, List.mem_append, true_or, or_true])) (W := 0) (Nat.le_of_ble_eq_true rfl) (Nat.le_of_ble_eq_true rfl) (Nat.le_refl _) (by show 0 + A.slots.size ≤ A.slots.size; omega) (g := (mkF m 6 #[.val (.ref a), .val (.ref b)] [.null, .int (Int32.ofNat A.slots.size), .int (Int32.ofNat 0), .ref b, .ref a])) rfl (by rw [hml]; rfl) c2 (argsL := [.ref b, .int (Int32.ofNat 0), .int (Int32.ofNat A.slots.size), .null]) (rest := []) rfl rfl (by show 2 * 0 + 0 ≤ _; decide) (hb hbytes d6) (⟨rfl, hB.mv X0.warmed.alike hh0, f1.al X0.warmed.alike, f2.al X0.warmed.alike, hA.mv X0.warmed.alike hh0, s1.there X0.warmed.alike hh0, hz, l0, by omega, l2, fun i hi => by rw [Nat.zero_add]; exact hp i hi⟩)
  have e0 := Got.mv _ s₁ s _ _ hh0.symm (Vm.Alike.refl _) rfl E3
  obtain rfl := e0.1
  have c4 : Steps p.tables e below (s₁.setTop (entryFrame m #[.ref a, .ref b] 2)) (T3.setTop (mkF m 9 #[.val (.ref a), .val (.ref b)] [])) := g3
  exact ⟨T3, none, _, _, _, X3, by simp, rfl, by omega, (fun _ => rfl), e0, fun fs hl => c4.trans (X3.returnOut hexec hret (hb hbytes d9) hl)⟩
theorem pays {l : Launch} {R : Room} {p : Program} {e : Env} {below : List Frame} {s : State} {sargs : Array Value} {len W : Nat} (a : Addr) (D : Cell) (fV fC : Field) (b : Addr) (A : Cell) (z : Int32) (htab : tab.before sargs s = true) (hfr : 4 ≤ R.frames) (hlo : W + 65 ≤ R.locals) :
    Back l R p e below s sargs yN len W (fun A₁ a₁ => A₁.cells + 1 ≤ R.cells ∧ A₁.slots + A.slots.size ≤ R.slots ∧ P a D fV fC b A z a₁ A₁.U) (fun A₁ _ v₁ B₁ => E a D fV fC A v₁ A₁.U B₁.U ∧ B₁.locs = A₁.locs ++ [⟨a, fC.slot⟩, ⟨a, fV.slot⟩] ∧ B₁.cells = A₁.cells + 1 ∧ B₁.slots = A₁.slots + A.slots.size) :=
  (law l a D fV fC b A z).pays htab hfr (by omega)
end New1
end StrChars
namespace StrChars.Road
open Jvm Sem ClassFile Op Lib Jvm.Stand Jvm.Free Jvm.Free.XT
open Jvm.Lib.Cold (StaticIs)
abbrev ST : String := "java/lang/String"
/-- every table word that New1's law asks, flat -/
abbrev words : List Jvm.Cond := [.code New1.yN New1.yB 2 none, .initialized ST, .methodLink ST 27 New4.yN, .instanceMethod New4.yN,
  .code New4.yN New4.yB 6 none, .fieldLink ST 38 ST "COMPACT_STRINGS" "Z", .laysFinal ST ST "value" "[B", .fieldLink ST 9 ST "value" "[B", .laysFinal ST ST "coder" "B", .fieldLink ST 15 ST "coder" "B",
  .methodLink ST 1 Lib.objectInit, .instanceMethod Lib.objectInit, .code Lib.objectInit ⟨#[0xb1]⟩ 1 none, .methodLink ST 177 Cmp3.yN, .static Cmp3.yN, .methodLink ST 47 CodL.yN, .static CodL.yN,
  .code Cmp3.yN Cmp3.yB 6 (some (.array .byte)), .initialized U16, .arrayClass .byte, .methodLink U16 115 Cmp5.yN, .static Cmp5.yN, .code Cmp5.yN Cmp5.yB 7 (some .int), .code CodL.yN CodL.yB 2 (some .byte)]
theorem tab_of {a : Array Value} {s : State} (h : ∀ w ∈ words, w.before a s = true) : New1.tab.before a s = true := by
  have h5 : Cmp5.tab.before a s = true := unparts (wk h (.code Cmp5.yN Cmp5.yB 7 (some .int))) (wks h (.initialized Cmp5.yN.cls :: Cmp5.site))
  have hc : CodL.tab.before a s = true := unparts (wk h (.code CodL.yN CodL.yB 2 (some .byte))) (wks h (.initialized CodL.yN.cls :: CodL.site))
  have q5 : ∀ w ∈ Cmp5.tab :: words, w.before a s = true := fun w hw => (List.mem_cons.mp hw).elim (fun e => e ▸ h5) (h w)
  have h3 : Cmp3.tab.before a s = true := unparts (wk q5 (.code Cmp3.yN Cmp3.yB 6 (some (.array .byte)))) (wks q5 (.initialized Cmp3.yN.cls :: Cmp3.site))
  have q3 : ∀ w ∈ Cmp3.tab :: CodL.tab :: words, w.before a s = true := fun w hw => (List.mem_cons.mp hw).elim (fun e => e ▸ h3) fun hw => (List.mem_cons.mp hw).elim (fun e => e ▸ hc) (h w)
  have h4 : New4.tab.before a s = true := unparts (wk q3 (.code New4.yN New4.yB 6 none)) (wks q3 (.initialized New4.yN.cls :: New4.site))
  have q4 : ∀ w ∈ New4.tab :: words, w.before a s = true := fun w hw => (List.mem_cons.mp hw).elim (fun e => e ▸ h4) (h w)
  exact unparts (wk q4 (.code New1.yN New1.yB 2 none)) (wks q4 (.initialized New1.yN.cls :: New1.site))
/-- the words ride from the start Z to the walk's own state -/
theorem moved {Z s : State} {a0 args : Array Value} (hZ : Z.Warmed39 s.vm) (hw : ∀ d ∈ words, d.before a0 Z = true) : ∀ d ∈ words, d.before args s = true := fun d hd => by
  have q := hw d hd
  have t : ∀ d ∈ words, d = .arrayClass .byte ∨ (d.onTables && d.keepsFace) = true := by decide +kernel
  rcases t d hd with rfl | t
  · exact RoadKit.mvA hZ q
  · exact RoadKit.mv hZ q t
/-- WHAT COMES BACK, over the tables of the start Z: h the heap at the call, h' behind it -/
def Q (Z : State) (x : Addr) (A : Cell) (h : Heap) (v : Option Value) (h' : Heap) (L : List Loc) : Prop := v = none ∧ (∀ y ∈ L, y.base = x) ∧ RoadKit.Keep h h' [x] ∧ h'.size = h.size + 1 ∧ RoadKit.Exa Z h' x ST ∧ RoadKit.Fld Z h' x ST "value" "[B" (.ref h.size) ∧ RoadKit.Fld Z h' x ST "coder" "B" (.int 0) ∧
  (∃ V : Cell, RoadKit.Arr Z h' h.size V .byte ∧ V.vm = .none ∧ Z.vm.findClass "[B" = some V.cls ∧ V.slots.size = A.slots.size ∧ ∀ j, j < A.slots.size → V.slots[j]? = some (.int (lo8 (cv A j)))) ∧
  ∀ (O n d : String) (w : Value), RoadKit.Fld Z h x O n d w → RoadKit.slotOf Z O n d ≠ RoadKit.slotOf Z ST "value" "[B" → RoadKit.slotOf Z O n d ≠ RoadKit.slotOf Z ST "coder" "B" → RoadKit.Fld Z h' x O n d w
/-- **new String(chars) AT A CALL, IN THE ROAD'S FORM**: for specialBack behind newO: x the fresh String, b the char[] with the cell A -/
theorem back {p : Program} {l : Launch} {e : Env} {R : Room} {s : State} {args : Array Value} {below : List Frame} {len W : Nat} {Z : State} {a0 : Array Value} {h : Heap} (hZ : Z.Warmed39 s.vm) (hw : ∀ d ∈ words, d.before a0 Z = true) {kI : Nat} (wi : (Jvm.Cond.instantiable ST kI).before a0 Z = true)
    {x b : Addr} {A : Cell} {z : Int32} {v0 c0 : Value} (E : RoadKit.Exa Z h x ST) (V : RoadKit.Fld Z h x ST "value" "[B" v0) (C : RoadKit.Fld Z h x ST "coder" "B" c0) (K : RoadKit.Arr Z h b A .char) (hty : Typed .char A) (S : RoadKit.Sta Z h ST "COMPACT_STRINGS" "Z" (.int z)) (hz : ¬ z = 0)
    (l0 : 0 < A.slots.size) (l2 : A.slots.size ≤ 536870912) (hp : ∀ i, i < A.slots.size → ¬ 255 < cv A i) (hfr : 4 ≤ R.frames) (hlo : W + 65 ≤ R.locals) :
    Back l R p e below s args New1.yN len W (fun P a => a = #[.ref x, .ref b] ∧ P.U.heap = h ∧ P.cells + 1 ≤ R.cells ∧ P.slots + A.slots.size ≤ R.slots)
      (fun P _ v B => ∃ L, Q Z x A h v B.U.heap L ∧ B.locs = P.locs ++ L ∧ B.cells = P.cells + 1 ∧ B.slots = P.slots + A.slots.size) := by
  intro m meth c P g ig mk a X hg hsize hdg hW hn hp'
  obtain ⟨rfl, rfl, r1, r2⟩ := hp'
  have al : Z.vm.Alike P.U.vm := hZ.alike.trans X.warmed.alike
  obtain ⟨D, cfV, kV, iV, fV, hD, gV, stV, knV, obV, asV, slV⟩ := id V
  obtain ⟨D', cfC, kC, iC, fC, hD', gC, stC, -, -, asC, slC⟩ := id C
  cases hD.symm.trans hD'
  obtain ⟨D2, kD, e1, e2, e3, e4, e5⟩ := id E
  cases hD.symm.trans e1
  obtain ⟨c2, k2, i1, i2, i3, -⟩ := Cond.instantiable_spec wi
  cases e2.symm.trans i1
  cases e3.symm.trans i2
  obtain ⟨kU, u1, u2⟩ := al.2.2 _ _ e3
  have hB : Blank ST x D P.U := ⟨hD, ⟨knV, fun q hq => by rw [hq] at obV; cases obV⟩, by rw [al.findClass]; exact e2, kU, u1, by rw [u2]; exact i3, by rw [u2]; exact e5 i3⟩
  have F1 : Found ST "value" "[B" fV P.U := ⟨SBG.found_only al ⟨cfV, kV, iV, gV⟩, stV⟩
  have F2 : Found ST "coder" "B" fC P.U := ⟨SBG.found_only al ⟨cfC, kC, iC, gC⟩, stC⟩
  have hA : Ch b A P.U := ⟨⟨K.1, State.isArrayOf_alike al K.2.1, K.2.2, by omega⟩, hty⟩
  have hS : StaticIs P.U ST "COMPACT_STRINGS" "Z" (.int z) := by
    obtain ⟨cfS, iS, kS, fS, st, cS, t1, t2, t3, t4, t5, t6, t7⟩ := S
    exact StaticIs.there (s := { Z with heap := P.U.heap }) ⟨cfS, iS, kS, fS, st, cS, t1, t2, t3, t4, t5, (fun q => by rw [q] at t6; cases t6), t7⟩ al rfl
  obtain ⟨v, B, X', ⟨⟨hv, E', V', q1, q2, q3, q4, q5, q6, q7, q8, q9, q10, q11⟩, hl, hc, hs⟩, st⟩ := New1.pays x D fV fC b A z (tab_of (moved hZ hw)) hfr hlo m meth c P g ig mk _ X hg hsize hdg hW hn ⟨r1, r2, rfl, hB, F1, F2, hA, hS, hz, l0, l2, hp⟩
  have al' : Z.vm.Alike B.U.vm := hZ.alike.trans X'.warmed.alike
  have hsz : E'.slots.size = D.slots.size := by
    obtain ⟨-, -, -, kB, w1, w2, w3⟩ := q1
    obtain ⟨kB', y1, y2⟩ := al'.2.2 _ _ e3
    rw [q2.2.1] at w1
    cases w1.symm.trans y1
    rw [w3, e5 i3, y2]
  refine ⟨v, B, X', ⟨_, ⟨hv, ?_, ⟨by omega, fun y cy hy hn' => q10 y cy (by simpa using hn') hy, fun y cy hy => ?_⟩, q11, ⟨E', _, q1.1, by rw [q2.2.1]; exact e2, by rw [q2.2.1]; exact e3, by rw [q2.1]; exact obV, fun _ => by rw [hsz]; exact e5 i3⟩,
    ⟨E', cfV, kV, iV, fV, q1.1, gV, stV, by rw [q2.1]; exact knV, by rw [q2.1]; exact obV, by rw [q2.2.1]; exact asV, q3⟩, ⟨E', cfC, kC, iC, fC, q1.1, gC, stC, by rw [q2.1]; exact knV, by rw [q2.1]; exact obV, by rw [q2.2.1]; exact asC, q4⟩,
    ⟨V', ⟨q5.1, State.isArrayOf_alike al'.symm q5.2.1, q5.2.2.1⟩, q6, by rw [← al'.findClass]; exact q7, q8, fun j hj => by have := q9 j hj; rwa [Nat.zero_add] at this⟩, fun O n d w F n1 n2 => ?_⟩, hl, hc, hs⟩, st⟩
  · intro y hy
    simp only [List.mem_cons, List.not_mem_nil, or_false] at hy
    rcases hy with rfl | rfl <;> rfl
  · by_cases q : y = x
    · subst q
      cases hD.symm.trans hy
      exact ⟨E', q1.1, q2.2.1, q2.1, hsz⟩
    · exact ⟨cy, q10 y cy q hy, rfl, rfl, rfl⟩
  · obtain ⟨D3, cf, k, i, f, g1, g2, g3, g4, g5, g6, g7⟩ := F
    cases hD.symm.trans g1
    simp only [RoadKit.slotOf, g2, gV, gC, Option.map_some, Option.getD_some] at n1 n2
    exact ⟨E', cf, k, i, f, q1.1, g2, g3, by rw [q2.1]; exact g4, by rw [q2.1]; exact g5, by rw [q2.2.1]; exact g6, by rw [q2.2.2 f.slot (by simp [n1, n2])]; exact g7⟩
end StrChars.Road
namespace StrChars.Road
open Jvm Sem ClassFile Op Lib Jvm.Stand Jvm.Free Jvm.Free.XT
/-- WHAT COMES BACK, the byte[] as a list of values -/
def QA (Z : State) (x : Addr) (zn : Int32) (cs : List Int32) (h : Heap) (v : Option Value) (h' : Heap) (L : List Loc) : Prop := v = none ∧ (∀ y ∈ L, y.base = x) ∧ RoadKit.Keep h h' [x] ∧ h'.size = h.size + 1 ∧ RoadKit.Exa Z h' x ST ∧ RoadKit.Fld Z h' x ST "value" "[B" (.ref h.size) ∧ RoadKit.Fld Z h' x ST "coder" "B" (.int 0) ∧
  (∃ kb, Z.vm.findClass "[B" = some kb ∧ RoadKit.Arv Z h' h.size kb .byte zn (cs.map fun c => .int (lo8 c)) (.int 0)) ∧
  ∀ (O n d : String) (w : Value), RoadKit.Fld Z h x O n d w → RoadKit.slotOf Z O n d ≠ RoadKit.slotOf Z ST "value" "[B" → RoadKit.slotOf Z O n d ≠ RoadKit.slotOf Z ST "coder" "B" → RoadKit.Fld Z h' x O n d w
/-- **new String(chars) AT A CALL, THE ARRAYS AS LISTS**: the char[] at b holds cs, not empty, no char above 255 -/
theorem backArv {p : Program} {l : Launch} {e : Env} {R : Room} {s : State} {args : Array Value} {below : List Frame} {len W : Nat} {Z : State} {a0 : Array Value} {h : Heap} (hZ : Z.Warmed39 s.vm) (hw : ∀ d ∈ words, d.before a0 Z = true) {kI : Nat} (wi : (Jvm.Cond.instantiable ST kI).before a0 Z = true)
    {x b : Addr} {k : ClassId} {zn z : Int32} {cs : List Int32} {dv v0 c0 : Value} (E : RoadKit.Exa Z h x ST) (V : RoadKit.Fld Z h x ST "value" "[B" v0) (C : RoadKit.Fld Z h x ST "coder" "B" c0) (K : RoadKit.Arv Z h b k .char zn (cs.map Value.int) dv) (S : RoadKit.Sta Z h ST "COMPACT_STRINGS" "Z" (.int z)) (hz : ¬ z = 0)
    (hlen : zn.toNatClampNeg = cs.length) (h0 : 0 < cs.length) (hbig : cs.length ≤ 536870912) (hall : ∀ c ∈ cs, ¬ 255 < c) (hfr : 4 ≤ R.frames) (hlo : W + 65 ≤ R.locals) :
    Back l R p e below s args New1.yN len W (fun P a => a = #[.ref x, .ref b] ∧ P.U.heap = h ∧ P.cells + 1 ≤ R.cells ∧ P.slots + cs.length ≤ R.slots)
      (fun P _ v B => ∃ L, QA Z x zn cs h v B.U.heap L ∧ B.locs = P.locs ++ L ∧ B.cells = P.cells + 1 ∧ B.slots = P.slots + cs.length) := by
  obtain ⟨A, K1, K2, K3, K4, K5, K6⟩ := K
  have e : A.slots.size = cs.length := K3.trans hlen
  have hat : ∀ (i : Nat) (hi : i < cs.length), A.slots[i]? = some (.int cs[i]) := fun i hi => by rw [K5 i (by omega)]; simp [List.getD_eq_getElem?_getD, hi]
  have hcv : ∀ (i : Nat) (hi : i < cs.length), cv A i = cs[i] := fun i hi => by unfold cv; rw [hat i hi]
  have hty : Typed .char A := fun i v hv => by
    have hi : i < A.slots.size := (Array.getElem?_eq_some_iff.mp hv).1
    have q := K5 i hi
    rw [hv] at q
    rw [Option.some.inj q]
    exact K6 i hi
  refine Back.mono (back hZ hw wi E V C K1 hty S hz (by omega) (by omega) (fun i hi => by rw [hcv i (by omega)]; exact hall _ (List.getElem_mem _)) hfr hlo) (fun P a hp => ⟨hp.1, hp.2.1, hp.2.2.1, by rw [e]; exact hp.2.2.2⟩) (fun P a v B hp hq => ?_)
  obtain ⟨L, ⟨q1, q2, q3, q4, q5, q6, q7, ⟨V', v1, v2, v3, v4, v5⟩, q9⟩, hl, hc, hs⟩ := hq
  refine ⟨L, ⟨q1, q2, q3, q4, q5, q6, q7, ⟨V'.cls, v3, V', v1, rfl, by rw [v4, e, hlen], K4, fun i hi => ?_, fun i hi => ?_⟩, q9⟩, hl, hc, by rw [hs, e]⟩
  · have hi' : i < cs.length := by omega
    rw [v5 i (by omega), hcv i hi']; simp [List.getD_eq_getElem?_getD, hi']
  · have hi' : i < cs.length := by omega
    simp only [List.getD_eq_getElem?_getD, List.getElem?_map, List.getElem?_eq_getElem hi', Option.map_some, Option.getD_some]
    exact fits_lo8 _
end StrChars.Road
namespace StrChars.Road
open Jvm Sem ClassFile Op Lib Jvm.Stand Jvm.Free Jvm.Free.XT
/-- WHAT COMES BACK, in the writer's own shape -/
def QV (Z : State) (x : Addr) (N : Int32) (bs : List Int32) (h : Heap) (n0 : Nat) (v : Option Value) (h' : Heap) (L : List Loc) : Prop := v = none ∧ RoadKit.Fr n0 L ∧ RoadKit.Keep h h' [x] ∧ RoadKit.Exa Z h' x ST ∧ RoadKit.Fld Z h' x ST "coder" "B" (.int 0) ∧
  ∃ (t : Addr) (kb : ClassId), n0 ≤ t ∧ h.size ≤ t ∧ ¬ t = x ∧ RoadKit.Fld Z h' x ST "value" "[B" (.ref t) ∧ RoadKit.Arv Z h' t kb .byte N (bs.map Value.int) (.int 0)
/-- **new String(chars) AT A CALL, FOR THE WRITER**: a char[] of n known ints, each 0 to 255 -/
theorem backV {p : Program} {l : Launch} {e : Env} {R : Room} {s : State} {args : Array Value} {below : List Frame} {len W : Nat} {Z : State} {a0 : Array Value} {h : Heap} (hZ : Z.Warmed39 s.vm) (hw : ∀ d ∈ words, d.before a0 Z = true) {kI : Nat} (wi : (Jvm.Cond.instantiable ST kI).before a0 Z = true)
    {x b : Addr} {kC : ClassId} {cs bs : List Int32} {d v0 c0 : Value} {z N : Int32} {n n0 : Nat} (hx0 : n0 ≤ x) (hh0 : n0 ≤ h.size) (E : RoadKit.Exa Z h x ST) (V : RoadKit.Fld Z h x ST "value" "[B" v0) (C : RoadKit.Fld Z h x ST "coder" "B" c0) (K : RoadKit.Arv Z h b kC .char N (cs.map Value.int) d) (S : RoadKit.Sta Z h ST "COMPACT_STRINGS" "Z" (.int z)) (hz : ¬ z = 0)
    (hn : cs.length = n) (hN : N = Int32.ofNat n) (l0 : 0 < n) (l2 : n ≤ 4000) (hp : ∀ c ∈ cs, ¬ c < 0 ∧ ¬ (255 : Int32) < c) (hb : bs = cs.map (fun c => c.toInt8.toInt32)) (hfr : 4 ≤ R.frames) (hlo : W + 65 ≤ R.locals) :
    Back l R p e below s args (⟨"java/lang/String", "<init>", "([C)V"⟩ : MethodName) len W (fun P a => a = #[.ref x, .ref b] ∧ P.U.heap = h ∧ P.cells + 1 ≤ R.cells ∧ P.slots + n ≤ R.slots)
      (fun P _ v B => ∃ L, QV Z x N bs h n0 v B.U.heap L ∧ B.locs = P.locs ++ L ∧ B.cells = P.cells + 1 ∧ B.slots = P.slots + n) := by
  subst hn hN hb
  refine Back.mono (backArv hZ hw wi E V C K S hz (n32 (by omega)) l0 (by omega) (fun c hc => (hp c hc).2) hfr hlo) (fun P a hp => hp) (fun P a v B hp hq => ?_)
  obtain ⟨L, ⟨q1, q2, q3, q4, q5, q6, q7, ⟨kb, v1, v2⟩, q9⟩, hl, hc, hs⟩ := hq
  exact ⟨L, ⟨q1, fun y hy => by rw [q2 y hy]; exact hx0, q3, q5, q7, h.size, kb, hh0, Nat.le_refl _, Nat.ne_of_gt E.lt, q6, by rw [List.map_map]; exact v2⟩, hl, hc, hs⟩
end StrChars.Road
end Jvm.Pilot.@@N@@

namespace Jvm.Pilot.@@N@@
open Jvm Jvm.ClassFile Sem Op Lib Jvm.Free Jvm.Stand Jvm.LawKit Jvm.RoadKit Bundle Jvm.Pilot.@@N@@.Jvm.D
theorem own_irr (x : Int32) : ¬ x < x := fun h => absurd (Int32.lt_iff_toInt_lt.mp h) (by omega)
theorem own_nn (x : Int32) : ¬ ((x &&& (2147483647 : Int32)) < (0 : Int32)) := fun h => by
  have h1 := Int32.lt_iff_toInt_lt.mp h
  have h2 := (c_and x 2147483647 (by decide)).1
  have h3 : (0 : Int32).toInt = 0 := rfl
  omega
def own_min (a b : Int32) : Int32 := if b < a then b else a
def own_max (a b : Int32) : Int32 := if a < b then b else a
theorem own_mm (a b : Int32) : ¬ (own_max a b < own_min a b) := fun h => by
  have h := Int32.lt_iff_toInt_lt.mp h
  unfold own_max own_min at h
  split at h <;> split at h <;> (simp only [Int32.lt_iff_toInt_lt] at *; omega)
theorem own_min_nn {a b : Int32} (ha : ¬ a < (0 : Int32)) (hb : ¬ b < (0 : Int32)) : ¬ (own_min a b < (0 : Int32)) := by unfold own_min; split <;> assumption
theorem own_max_nn {a b : Int32} (ha : ¬ a < (0 : Int32)) (hb : ¬ b < (0 : Int32)) : ¬ (own_max a b < (0 : Int32)) := by unfold own_max; split <;> assumption
theorem own_mod {x d k : Int32} {D : Int} (hd : d.toInt = D) (hD : 0 < D) (h : (x &&& (2147483647 : Int32)) % d = k) : 0 ≤ k.toInt ∧ k.toInt < D := by
  have h1 := (c_and x 2147483647 (by decide)).1
  have h2 := (c_irem (x &&& 2147483647) d D hd).1 h1
  rw [h] at h2
  rw [h2]
  exact ⟨Int.emod_nonneg _ (by omega), Int.emod_lt_of_pos _ hD⟩
theorem own_ne {k : Int32} (n : Nat) (hc : (Int32.ofNat n).toInt = (n : Int)) (h : ¬ k = Int32.ofNat n) : k.toInt ≠ (n : Int) := fun q => h (Int32.toInt_inj.mp (q.trans hc.symm))
theorem own_r255 {x c : Int32} (h : (x &&& (255 : Int32)) = c) : ¬ (c < (0 : Int32)) ∧ ¬ ((255 : Int32) < c) := by
  have h1 := c_and x 255 (by decide)
  rw [h] at h1
  have e1 : (255 : Int32).toInt = 255 := rfl
  have e0 : (0 : Int32).toInt = 0 := rfl
  simp only [Int32.lt_iff_toInt_lt]
  omega
theorem own_narc {c : Int32} (h : ¬ (c < (0 : Int32)) ∧ ¬ ((255 : Int32) < c)) : nar .char c = c := by
  have e1 : (255 : Int32).toInt = 255 := rfl
  have e0 : (0 : Int32).toInt = 0 := rfl
  have h1 := h.1
  have h2 := h.2
  simp only [Int32.lt_iff_toInt_lt] at h1 h2
  have h3 := c_i2c c
  apply Int32.toInt_inj.mp
  show c.toUInt32.toUInt16.toUInt32.toInt32.toInt = c.toInt
  omega
theorem own_fitc {c : Int32} (h : ¬ (c < (0 : Int32)) ∧ ¬ ((255 : Int32) < c)) : fits .char (.int c) = true := by
  have q := fits_nar_char c
  rw [own_narc h] at q
  exact q
theorem own_b8 (x : Int32) : x.toInt8.toInt32.toInt8.toInt32 = x.toInt8.toInt32 := Int32.toInt_inj.mp (by have a := c_i2b x; have b := c_i2b x.toInt8.toInt32; omega)
theorem own_shr0 (x : Int32) : x >>> ((0 : Int32) &&& 31) = x := Int32.toInt_inj.mp (by rw [c_ishr x 0 0 (by decide)]; simp)
theorem own_nar255 (x : Int32) : nar .char ((x &&& (255 : Int32)).toUInt32.toUInt16.toUInt32.toInt32) = x &&& (255 : Int32) := by rw [i2c_mask]; exact i2c_mask x
/-- from here the run comes to an end at which Q holds, at most so many cells and slots made -/
def own_Go (p : Program) (e : Env) (below : List Frame) (s : State) (Q : Option Value → Heap → List Loc → Prop) (C S : Nat) (A : State) : Prop :=
  ∃ s₂ o, Steps p.tables e below A s₂ ∧ s₂.status = .running ∧ Ended s₂ below o ∧ ∃ v L, o = .returned v ∧ Q v s₂.heap L ∧ FrameEnd s o s₂ L C S
theorem own_go {p : Program} {e : Env} {below : List Frame} {s : State} {Q : Option Value → Heap → List Loc → Prop} {C S : Nat} {A B : State} (k : ∀ t, Steps p.tables e below B t → Steps p.tables e below A t) (h : own_Go p e below s Q C S B) : own_Go p e below s Q C S A := by
  obtain ⟨s₂, o, h1, h2⟩ := h
  exact ⟨s₂, o, k _ h1, h2⟩
theorem own_fin {p : Program} {l : Launch} {e : Env} {R : Room} {s : State} {m : MethodId} {args : Array Value} {below : List Frame} {meth : Method} {c : Code} {T : State} {locs : List Loc} {cells slots : Nat} {Q : Option Value → Heap → List Loc → Prop} {C S : Nat} {A : State} {v : Option Value}
    (X : Stand p l e R s m args below meth c T locs cells slots) (hlocks : meth.locks = false) (hv : meth.sig.returnType = none → v = none)
    (st : ∀ fs, (∀ (f : JFrame) (acts : List Action), f.method = m → f.locked = none → f.entered = [] → (doReturn e (T.setTop f) acts v).1 = T.setFrames fs) → Steps p.tables e below A (T.setFrames fs))
    (hQ : Q v T.heap locs) (hc : cells ≤ C) (hs : slots ≤ S) : own_Go p e below s Q C S A := by
  obtain ⟨fs, hr, hrun, hended, hW, hsame⟩ := X.leave (v := v) hv hlocks
  exact ⟨_, _, st fs hr, hrun, hended, _, _, rfl, hQ, ⟨_, rfl⟩, hW, hsame.mono hc hs⟩
theorem own_eqI {args : Array Value} {first s : State} {o : Option Outcome} {idx : List Nat} {t : Term} {k : Int32} (h : (Jvm.Cond.eq t (.int k)).value args first o s idx = some true) : t.eval args first o idx s = some (.int k) := by
  obtain ⟨x, y, h1, h2, hk, hk'⟩ := cmp_v (Or.inl h)
  have e2 : y = .int k := (Option.some.inj ((Term.int_eval k).symm.trans h2)).symm
  subst e2
  obtain ⟨z, rfl⟩ := hk'
  simp only [Cond.value, h1, h2] at h
  have hz : z = k := by simpa using h
  rw [h1, hz]
theorem own_eqR {args : Array Value} {first s : State} {o : Option Outcome} {idx : List Nat} {t u : Term} {a : Addr} (h : (Jvm.Cond.eq t u).value args first o s idx = some true) (hu : u.eval args first o idx s = some (.ref a)) : t.eval args first o idx s = some (.ref a) := by
  obtain ⟨x, y, h1, h2, hk, hk'⟩ := cmp_v (Or.inl h)
  cases hu.symm.trans h2
  rw [h1, gotT (eq_R h1 hu hk'.2 rfl) h]
theorem own_len {args : Array Value} {s : State} {t : Term} {a : Addr} {cl : Cell} {k : Int32} {ty : FieldType} (h : (Term.length t).eval args s none [] s = some (.int k)) (ht : t.eval args s none [] s = some (.ref a)) (A : Arr s s.heap a cl ty) : cl.slots.size < 2 ^ 31 ∧ cl.slots.size.toInt32 = k := by
  have ha := A.fin (Vm.Alike.refl _)
  simp only [Term.eval, ht, ha, Option.bind_eq_bind, Option.bind_some] at h
  by_cases q : cl.slots.size < 2 ^ 31
  · simp [q] at h; exact ⟨q, h⟩
  · simp [q] at h
abbrev own_EL : List (String × Nat) := consts_1
/-- the same with String constants loaded on the way (RW14's invariant, kept) -/
def own_GoW (p : Program) (e : Env) (below : List Frame) (s Z : State) (Q : Option Value → Heap → List Loc → Prop) (C S : Nat) (A : State) : Prop :=
  ∃ s₂ o, Steps p.tables e below A s₂ ∧ s₂.status = .running ∧ Ended s₂ below o ∧ ∃ v L, o = .returned v ∧ Q v s₂.heap L ∧ CHr Z own_EL s.vm s.heap s₂.vm s₂.heap ∧ ReturnedEndW s o s₂ L C S
theorem own_goW {p : Program} {e : Env} {below : List Frame} {s Z : State} {Q : Option Value → Heap → List Loc → Prop} {C S : Nat} {A B : State} (k : ∀ t, Steps p.tables e below B t → Steps p.tables e below A t) (h : own_GoW p e below s Z Q C S B) : own_GoW p e below s Z Q C S A := by
  obtain ⟨s₂, o, h1, h2⟩ := h
  exact ⟨s₂, o, k _ h1, h2⟩
theorem own_finW {p : Program} {l : Launch} {e : Env} {R : Room} {s Z : State} {vm1 : Vm} {k0 : Nat} {m : MethodId} {args : Array Value} {below : List Frame} {meth : Method} {c : Code} {T : State} {locs : List Loc} {cells slots : Nat} {Q : Option Value → Heap → List Loc → Prop} {C S : Nat} {A : State} {v : Option Value}
    (X : Stand p l e R (s.setVm vm1) m args below meth c T locs cells slots) (hS : s.Since vm1 k0) (hk : k0 ≤ T.heap.size) (hR : CHr Z own_EL s.vm s.heap T.vm T.heap) (hlocks : meth.locks = false) (hv : meth.sig.returnType = none → v = none)
    (st : ∀ fs, (∀ (f : JFrame) (acts : List Action), f.method = m → f.locked = none → f.entered = [] → (doReturn e (T.setTop f) acts v).1 = T.setFrames fs) → Steps p.tables e below A (T.setFrames fs))
    (hQ : Q v T.heap locs) (hc : cells ≤ C) (hs : slots ≤ S) : own_GoW p e below s Z Q C S A := by
  obtain ⟨fs, hr, hrun, hended, h1, h2, h3, h4⟩ := X.leaveW hS hk (v := v) hv hlocks
  exact ⟨_, _, st fs hr, hrun, hended, _, _, rfl, hQ, hR, h1, h2, h3, h4.mono hc hs⟩
/-- a callee that loads String constants, paid at a call: the invariant from the caller's tables on -/
theorem own_backW {p : Program} {l : Launch} {e : Env} {R : Room} {s : State} {args : Array Value} {below : List Frame} {Z : State} {a0 : Array Value} {h : Heap} {vm0 : Vm} {y : MethodName} {bytes : ByteArray} {maxL : Nat} {ret : Option FieldType} {rm : Room} {len W : Nat} {as' : Array Value} {Q : Option Value → Heap → List Loc → Prop}
    (hM : MetFree l y (head1 [Jvm.Cond.code y bytes maxL ret] rm) (fun a U => a = as' ∧ Z.Warmed39 U.vm ∧ U.heap = h ∧ CHr Z own_EL vm0 h U.vm h) (fun _ _ _ _ _ => True) (fun _ U o U' => ∃ v L, o = .returned v ∧ Q v U'.heap L ∧ CHr Z own_EL U.vm U.heap U'.vm U'.heap ∧ ReturnedEndW U o U' L rm.cells rm.slots))
    (hZ : Z.Warmed39 vm0) (wc : (Jvm.Cond.code y bytes maxL ret).before a0 Z = true) (wz : (Jvm.Cond.initialized y.cls).before a0 Z = true) (hf : rm.frames + 1 ≤ R.frames) (hl : W + (maxL + 11) + rm.locals ≤ R.locals) (hEL : EW Z a0 own_EL) (H : CHv Z own_EL vm0 h) :
    BackS l R p e below (s.setVm vm0) args y len W (fun A a => a = as' ∧ A.U.heap = h ∧ A.cells + rm.cells ≤ R.cells ∧ A.slots + rm.slots ≤ R.slots)
      (fun A _ v B => ∃ L, Q v B.U.heap L ∧ B.locs = A.locs ++ L ∧ B.cells = A.cells + rm.cells ∧ B.slots = A.slots + rm.slots ∧ CHr Z own_EL vm0 h B.U.vm B.U.heap) := by
  refine BackS.of_freeW (bytes := bytes) (maxL := maxL) (ret := ret) (E := fun _ first o t L k n => k = rm.cells ∧ n = rm.slots ∧ (∃ v, o = .returned v ∧ Q v t.heap L) ∧ CHr Z own_EL first.vm first.heap t.vm t.heap) hM hf hl ?_ ?_ ?_ ?_ ?_
  · intro m meth c A a Y hp
    have hU : Z.Warmed39 A.U.vm := wtrans (s := s.setVm vm0) hZ Y.warmed
    exact ⟨by show (Jvm.Cond.and _ .tt).before a A.U = true; rw [Cond.before_and, mv hU wc]; rfl, mv hU wc, mv hU wz, hp.2.2.1, hp.2.2.2⟩
  · intro m meth c A a g mk Y hp
    exact ⟨hp.1, wtrans (s := s.setVm vm0) hZ Y.warmed, hp.2.1, (show CHr Z own_EL vm0 h A.U.vm h from CHv.at Y hZ hEL H)⟩
  · intro _ _ _ _ _ _ _ _ _
    trivial
  · rintro _ _ _ _ ⟨v, L, h1, h2, h3, h4⟩
    exact ⟨L, _, _, h4, rfl, rfl, ⟨v, h1, h2⟩, h3⟩
  · rintro m meth c A a g mk v t L k n Y hp _ _ ⟨e1, e2, ⟨v', e3, e4⟩, e5⟩
    cases e3
    subst e1 e2
    refine ⟨L, e4, rfl, rfl, rfl, (show CHr Z own_EL vm0 h A.U.vm h from CHv.at Y hZ hEL H).trans ?_⟩
    rw [← hp.2.1]
    exact e5
theorem own_safe_arv {Z : State} {EL : List (String × Nat)} {vm : Vm} {h : Heap} {a : Addr} {k : ClassId} {ty : FieldType} {z : Int32} {vs : List Value} {d : Value} (hal : Z.vm.Alike vm) (V : Arv Z h a k ty z vs d) (ht : ty ≠ .byte) : Safe Z EL vm h a := by
  obtain ⟨c, A, -⟩ := V
  exact Safe.arr hal A ht
theorem own_EW (Z : State) (a0 : Array Value) (hw : ∀ d ∈ tables_1, d.before a0 Z = true) : EW Z a0 own_EL := (EW.cons (hw _ (List.mem_of_getElem? (i := 67) rfl)) (by decide +kernel) (EW.cons (hw _ (List.mem_of_getElem? (i := 71) rfl)) (by decide +kernel) (EW.cons (hw _ (List.mem_of_getElem? (i := 83) rfl)) (by decide +kernel) EW.nil)))
theorem own_wS (Z : State) (a0 : Array Value) (hw : ∀ d ∈ tables_1, d.before a0 Z = true) : ∀ a ∈ Bundle.stringAtoms, a.before a0 Z = true := fun d hd => hw d ((by decide +kernel : ∀ d ∈ Bundle.stringAtoms, d ∈ tables_1) d hd)
theorem own_ofNat {q : Nat} (h : q < 2147483648) : (Int32.ofNat q).toInt = q ∧ (Int32.ofNat q).toNatClampNeg = q := by
  have e : (Int32.ofNat q).toInt = q := Int32.toInt_ofNat_small (by omega)
  exact ⟨e, by show (Int32.ofNat q).toInt.toNat = q; rw [e]; rfl⟩
theorem own_idx {q n : Nat} {N : Int32} (hN : N.toNatClampNeg = n) (hN0 : ¬ N < 0) (hq : q < n) : (¬ (Int32.ofNat q < (0 : Int32)) ∧ Int32.ofNat q < N) ∧ (Int32.ofNat q).toNatClampNeg = q := by
  have h1 := nat_of hN0
  have h2 := (rng32 N).2
  have h3 := own_ofNat (q := q) (by omega)
  refine ⟨⟨fun h => ?_, ?_⟩, h3.2⟩
  · have h4 := Int32.lt_iff_toInt_lt.mp h
    rw [h3.1] at h4
    have e0 : (0 : Int32).toInt = 0 := rfl
    omega
  · rw [Int32.lt_iff_toInt_lt, h3.1, h1, hN]; omega
theorem own_past {n : Nat} {N : Int32} (hN : N.toNatClampNeg = n) (hN0 : ¬ N < 0) : ¬ (Int32.ofNat n < N) := fun h => by
  have h1 := nat_of hN0
  have h2 := (rng32 N).2
  have h3 := own_ofNat (q := n) (by omega)
  have h4 := Int32.lt_iff_toInt_lt.mp h
  rw [h3.1, h1, hN] at h4
  omega
theorem own_incr {q n : Nat} {N : Int32} (hN : N.toNatClampNeg = n) (hN0 : ¬ N < 0) (hq : q < n) : Int32.ofNat q + (1 : Int32) = Int32.ofNat (q + 1) := by
  have h1 := nat_of hN0
  have h2 := (rng32 N).2
  have h3 := own_ofNat (q := q) (by omega)
  apply Int32.toInt_inj.mp
  have a := c_iadd (Int32.ofNat q) 1
  have b := rng32 (Int32.ofNat q + 1)
  have e1 : (1 : Int32).toInt = 1 := rfl
  by_cases hb : q + 1 < 2147483648
  · rw [(own_ofNat hb).1]; rw [h3.1] at a; omega
  · omega
theorem own_mapget (xs : List Int32) (q : Nat) : (xs.map Value.int).getD q (.int (0 : Int32)) = .int (xs.getD q 0) := by
  simp only [List.getD_eq_getElem?_getD, List.getElem?_map]
  cases xs[q]? <;> rfl
theorem own_listeq {xs ys : List Int32} (hl : xs.length = ys.length) (h : ∀ r, r < xs.length → xs.getD r 0 = ys.getD r 0) : xs = ys := by
  apply List.ext_getElem hl
  intro i h1 h2
  have := h i h1
  simpa [List.getD_eq_getElem?_getD, List.getElem?_eq_getElem h1, List.getElem?_eq_getElem h2] using this
def own_eqv (xs ys : List Int32) : Int32 := if xs = ys then 1 else 0
theorem own_fldeq {Z : State} {h : Heap} {a : Addr} {C n d : String} {v w : Value} (F : Fld Z h a C n d v) (G : Fld Z h a C n d w) : v = w := Classical.byContradiction fun q => Fld.ne F G q rfl
theorem own_same {Z : State} {h : Heap} {t : Addr} {k k' : ClassId} {N N' : Int32} {xs ys : List Int32} (F : Arv Z h t k .byte N (xs.map Value.int) (.int (0 : Int32))) (G : Arv Z h t k' .byte N' (ys.map Value.int) (.int (0 : Int32))) (h1 : N.toNatClampNeg = xs.length) (h2 : N'.toNatClampNeg = ys.length) : xs = ys := by
  obtain ⟨c, A, -, S, -, H, -⟩ := F
  obtain ⟨c', A', -, S', -, H', -⟩ := G
  cases A.1.symm.trans A'.1
  refine own_listeq (by omega) fun r hr => ?_
  have e := (H r (by omega)).symm.trans (H' r (by omega))
  rw [own_mapget, own_mapget] at e
  exact Value.int.inj (Option.some.inj e)
theorem own_nat_inj {N N' : Int32} (h : N.toNatClampNeg = N'.toNatClampNeg) (h0 : ¬ N < 0) (h0' : ¬ N' < 0) : N = N' := by
  apply Int32.toInt_inj.mp
  rw [nat_of h0, nat_of h0', h]
theorem own_an {P : Int32 → Prop} : ∀ c ∈ ([] : List Int32), P c := fun _ q => nomatch q
theorem own_ac {P : Int32 → Prop} {x : Int32} {L : List Int32} (h : P x) (r : ∀ c ∈ L, P c) : ∀ c ∈ x :: L, P c := fun c q => (List.mem_cons.mp q).elim (fun u => u ▸ h) (r c)
theorem own_hnew (Z : State) (a0 : Array Value) (hw : ∀ d ∈ tables_1, d.before a0 Z = true) : ∀ d ∈ StrChars.Road.words, d.before a0 Z = true := fun d hd => hw d ((by decide +kernel : ∀ d ∈ StrChars.Road.words, d ∈ tables_1) d hd)
theorem own_chr (y : Int64) : ¬ (nar .char ((y &&& (255 : Int64)).toInt32.toUInt32.toUInt16.toUInt32.toInt32) < (0 : Int32)) ∧ ¬ ((255 : Int32) < nar .char ((y &&& (255 : Int64)).toInt32.toUInt32.toUInt16.toUInt32.toInt32)) := by
  have h1 := c_maskL y 255 8 (by decide) (by decide)
  have h2 := c_l2i (y &&& 255)
  have h3 := rng32 (y &&& 255).toInt32
  have h4 := c_i2c (y &&& 255).toInt32
  have h5 := c_i2c (y &&& 255).toInt32.toUInt32.toUInt16.toUInt32.toInt32
  have e1 : (255 : Int32).toInt = 255 := rfl
  have e0 : (0 : Int32).toInt = 0 := rfl
  simp only [Int32.lt_iff_toInt_lt]
  show ¬ ((y &&& (255 : Int64)).toInt32.toUInt32.toUInt16.toUInt32.toInt32.toUInt32.toUInt16.toUInt32.toInt32).toInt < _ ∧ ¬ _ < ((y &&& (255 : Int64)).toInt32.toUInt32.toUInt16.toUInt32.toInt32.toUInt32.toUInt16.toUInt32.toInt32).toInt
  omega
theorem own_and15 {x c : Int32} (h : (x &&& (15 : Int32)) = c) : ¬ (c < (0 : Int32)) := by
  have h1 := c_and x 15 (by decide)
  rw [h] at h1
  have e0 : (0 : Int32).toInt = 0 := rfl
  rw [Int32.lt_iff_toInt_lt]
  omega
theorem own_set_rng {P : Int32 → Prop} {cs : List Int32} {i : Nat} {y : Int32} (h : ∀ c ∈ cs, P c) (hy : P y) : ∀ c ∈ cs.set i y, P c := fun c hc => by
  rcases List.mem_or_eq_of_mem_set hc with q | q
  · exact h c q
  · rw [q]; exact hy
theorem own_poslt {p : Int32} {n : Nat} (hn : n ≤ 8) (h0 : ¬ (p < (0 : Int32))) (h : p < Int32.ofNat n) : p.toNatClampNeg < n := by
  have h1 := nat_of h0
  have h2 := (own_ofNat (q := n) (by omega)).1
  rw [Int32.lt_iff_toInt_lt, h2, h1] at h
  omega
theorem own_d3_0 : decode jdk_42_method_149_code 0 = .ok (.aload_n 0, 1) := by decide +kernel
theorem own_d3_1 : decode jdk_42_method_149_code 1 = .ok (.invokespecial 1, 3) := by decide +kernel
theorem own_d3_4 : decode jdk_42_method_149_code 4 = .ok (.iload_n 3, 1) := by decide +kernel
theorem own_d3_5 : decode jdk_42_method_149_code 5 = .ok (.ifCond .ne 22, 3) := by decide +kernel
theorem own_d3_8 : decode jdk_42_method_149_code 8 = .ok (.aload_n 0, 1) := by decide +kernel
theorem own_d3_9 : decode jdk_42_method_149_code 9 = .ok (.ldc 7, 2) := by decide +kernel
theorem own_d3_11 : decode jdk_42_method_149_code 11 = .ok (.getfield 9, 3) := by decide +kernel
theorem own_d3_14 : decode jdk_42_method_149_code 14 = .ok (.putfield 9, 3) := by decide +kernel
theorem own_d3_17 : decode jdk_42_method_149_code 17 = .ok (.aload_n 0, 1) := by decide +kernel
theorem own_d3_18 : decode jdk_42_method_149_code 18 = .ok (.ldc 7, 2) := by decide +kernel
theorem own_d3_20 : decode jdk_42_method_149_code 20 = .ok (.getfield 15, 3) := by decide +kernel
theorem own_d3_23 : decode jdk_42_method_149_code 23 = .ok (.putfield 15, 3) := by decide +kernel
theorem own_d3_26 : decode jdk_42_method_149_code 26 = .ok (.return_, 1) := by decide +kernel
theorem own_pn_java_lang_String : plainName "java/lang/String" = true := by first | (simp [plainName, overriddenIn]; done) | decide +kernel
theorem own_ef_own_rn4e (m : MethodId) (a1 : Addr) (ar : Addr) : entryFrame m #[(.ref a1), (.ref ar), (.int (0 : Int32)), (.int (0 : Int32)), .null] 6 = mkF m 0 #[rv a1, rv ar, iv (0 : Int32), iv (0 : Int32), .val .null, .unset] [] := by first | (simp [entryFrame, mkF, argsToLocals, Value.category]; done) | rfl
def own_Q_own_rn4e (Z : State) (a1 : Addr) (ar : Addr) (h0 : Heap) (n0 : Nat) (v : Option Value) (h : Heap) (L : List Loc) : Prop := ∃ t kb, v = none ∧ Fr n0 L ∧ Keep h0 h [a1] ∧ Exa Z h a1 "java/lang/String" ∧ Fld Z h a1 "java/lang/String" "value" "[B" (.ref t) ∧ Fld Z h a1 "java/lang/String" "coder" "B" (.int (0 : Int32)) ∧ Arv Z h t kb .byte (0 : Int32) [] (.int (0 : Int32))
set_option maxRecDepth 65536 in
set_option maxHeartbeats 40000000 in
theorem own_rn4e (l : Launch) (Z : State) (a0 : Array Value) (hw : ∀ d ∈ tables_1, d.before a0 Z = true) (ws : List Jvm.Cond) (a1 : Addr) (ar : Addr) (vm0 : Vm) (h0 : Heap) (n0 : Nat) (Z0 : n0 ≤ h0.size) (Ex : Exa Z h0 a1 "java/lang/String") (Fv : Fld Z h0 a1 "java/lang/String" "value" "[B" .null) (Fc : Fld Z h0 a1 "java/lang/String" "coder" "B" (.int (0 : Int32))) (Sf : Safe Z own_EL vm0 h0 a1) (g_a1 : n0 ≤ a1) :
    MetFree l (⟨"java/lang/String", "<init>", "([CIILjava/lang/Void;)V"⟩ : MethodName) (head1 (Jvm.Cond.code (⟨"java/lang/String", "<init>", "([CIILjava/lang/Void;)V"⟩ : MethodName) jdk_42_method_149_code 6 none :: ws) ({ frames := 1, cells := 4, slots := 8, locals := 12 } : Room)) (fun a U => a = #[(.ref a1), (.ref ar), (.int (0 : Int32)), (.int (0 : Int32)), .null] ∧ Z.Warmed39 U.vm ∧ U.heap = h0 ∧ CHr Z own_EL vm0 h0 U.vm h0) (fun _ _ _ _ _ => True) (fun _ U o U' => ∃ v L, o = .returned v ∧ own_Q_own_rn4e Z a1 ar h0 n0 v U'.heap L ∧ CHr Z own_EL U.vm U.heap U'.vm U'.heap ∧ ReturnedEndW U o U' L ({ frames := 1, cells := 4, slots := 8, locals := 12 } : Room).cells ({ frames := 1, cells := 4, slots := 8, locals := 12 } : Room).slots) := by
  refine MetFree.of_bodySF (plainFor_of_name own_pn_java_lang_String) hisR ?_
  intro p e s m args below meth c s₁ Bd hml0 hP hK
  obtain ⟨rfl, hZ, hh, hCH⟩ := hP
  have hx := Bd.exec
  have hby := Bd.bytes
  have hml : c.maxLocals = 6 := hml0
  have hown : s.vm.findClass "java/lang/String" = some m.cls := findClass_of_methodNamed Bd.named
  have hnm := (name_of_methodNamed Bd.named Bd.method).1
  have X0 : Stand p l e ({ frames := 1, cells := 4, slots := 8, locals := 12 } : Room) (s.setVm s.vm) m #[(.ref a1), (.ref ar), (.int (0 : Int32)), (.int (0 : Int32)), .null] below meth c s₁ [] 0 0 := Stand.of_body Bd
  have e0 : s₁.heap = h0 := by rw [← hh, Bd.state]; rfl
  have N0 := Fr.nil n0
  have hEL := own_EW Z a0 hw
  have wS := own_wS Z a0 hw
  have hS : s.Since s.vm 0 := (State.WarmedH.refl s).since 0
  have hk : 0 ≤ h0.size := Nat.zero_le _
  have Rc : CHr Z own_EL s.vm h0 s.vm h0 := CHr.refl hCH.1
  replace Sf := CHr.safe hCH Ex.lt Sf
  have Kp : Keep h0 h0 [a1] := Keep.refl h0 _
  show own_GoW p e below s Z (own_Q_own_rn4e Z a1 ar h0 n0) ({ frames := 1, cells := 4, slots := 8, locals := 12 } : Room).cells ({ frames := 1, cells := 4, slots := 8, locals := 12 } : Room).slots (s₁.setTop (entryFrame m #[(.ref a1), (.ref ar), (.int (0 : Int32)), (.int (0 : Int32)), .null] 6))
  refine own_goW (fun zt zk => castTop (own_ef_own_rn4e m a1 ar) zk) ?_
  show own_GoW p e below s _ _ _ _ (s₁.setTop (mkF m 0 #[rv a1, rv ar, iv (0 : Int32), iv (0 : Int32), .val .null, .unset] []))
  refine own_goW (fun zt zk => (XS.aloadN X0.here hx rfl (hb hby own_d3_0) rfl rfl zk)) ?_
  show own_GoW p e below s _ _ _ _ (s₁.setTop (mkF m 1 #[rv a1, rv ar, iv (0 : Int32), iv (0 : Int32), .val .null, .unset] [(.ref a1)]))
  obtain ⟨T1, X1, e1, st1⟩ := initO X0 hx hZ hown (hw _ (List.mem_of_getElem? (i := 15) rfl)) (hw _ (List.mem_of_getElem? (i := 16) rfl)) (hw _ (List.mem_of_getElem? (i := 17) rfl)) e0 (g := (mkF m 1 #[rv a1, rv ar, iv (0 : Int32), iv (0 : Int32), .val .null, .unset] [(.ref a1)])) rfl (by rw [hml]; rfl) rfl (hb hby own_d3_1) (by decide) (W := 0) (by show 2 * 0 + _ ≤ _; exact Nat.le_of_eq rfl) (by decide)
  refine own_goW st1 ?_
  show own_GoW p e below s _ _ _ _ (T1.setTop (mkF m 4 #[rv a1, rv ar, iv (0 : Int32), iv (0 : Int32), .val .null, .unset] []))
  refine own_goW (fun zt zk => (XS.iloadN X1.here hx rfl (hb hby own_d3_4) rfl (XS.ifNo X1.here hx rfl (hb hby own_d3_5) rfl ((if0 _ _).trans (teq (rfl : (0 : Int32) = (0 : Int32))).2) (XS.aloadN X1.here hx rfl (hb hby own_d3_8) rfl rfl zk)))) ?_
  show own_GoW p e below s _ _ _ _ (T1.setTop (mkF m 9 #[rv a1, rv ar, iv (0 : Int32), iv (0 : Int32), .val .null, .unset] [(.ref a1)]))
  obtain ⟨a2, T2, h2, q2, b2, k2, X2, e2, E2, hS2, hk2, hZ2, hown2, Ex_a2, Fc_a2, Fv_a2, Va_b2, lta2, ltb2, A2, Li2, Sn2, st2⟩ := ldcCH X1 hx hZ hown (hw _ (List.mem_of_getElem? (i := 83) rfl)) wS e1 hS hk hEL (by decide +kernel) Rc.1 (vs := []) (z := (0 : Int32)) ⟨by decide +kernel, by decide +kernel⟩ (by decide) rfl (g := (mkF m 9 #[rv a1, rv ar, iv (0 : Int32), iv (0 : Int32), .val .null, .unset] [(.ref a1)])) rfl (hb hby own_d3_9) (n := 0) (by decide +kernel) (by decide) (by decide) (by decide)
  replace Sf := CHr.safe A2 Ex.lt Sf
  replace Ex := Ex.ext E2
  replace Fv := Fv.ext E2
  replace Fc := Fc.ext E2
  replace Kp := Kp.ext E2
  replace Rc := Rc.trans A2
  replace hS := hS2
  replace hk := hk2
  replace hZ := hZ2
  replace hown := hown2
  refine own_goW st2 ?_
  have ne_a1_a2 := (Sn2 a1 Sf).1
  have ne_a1_b2 := (Sn2 a1 Sf).2
  show own_GoW p e below s _ _ _ _ (T2.setTop (mkF m 11 #[rv a1, rv ar, iv (0 : Int32), iv (0 : Int32), .val .null, .unset] [(.ref a2), (.ref a1)]))
  obtain ⟨T3, X3, e3, st3⟩ := getF X2 hx hZ hown (host := "") (Or.inl (hw _ (List.mem_of_getElem? (i := 32) rfl))) Via.refl e2 Fv_a2 (g := (mkF m 11 #[rv a1, rv ar, iv (0 : Int32), iv (0 : Int32), .val .null, .unset] [(.ref a2), (.ref a1)])) rfl rfl (hb hby own_d3_11)
  refine own_goW st3 ?_
  show own_GoW p e below s _ _ _ _ (T3.setTop (mkF m 14 #[rv a1, rv ar, iv (0 : Int32), iv (0 : Int32), .val .null, .unset] [(.ref b2), (.ref a1)]))
  obtain ⟨T4, h4, X4, e4, W4, st4⟩ := putF X3 hx hZ hown (host := "") (Or.inl (hw _ (List.mem_of_getElem? (i := 32) rfl))) Via.refl e3 Fv Ex (Or.inr ⟨(hw _ (List.mem_of_getElem? (i := 33) rfl)), rfl, hnm⟩) (hw _ (List.mem_of_getElem? (i := 6) rfl)) (ty := (.array .byte)) (by decide) rfl rfl (g := (mkF m 14 #[rv a1, rv ar, iv (0 : Int32), iv (0 : Int32), .val .null, .unset] [(.ref b2), (.ref a1)])) rfl rfl (hb hby own_d3_14)
  refine own_goW st4 ?_
  have N4 := Fr.snoc X4 N0 g_a1
  have Sf' := Safe.wr W4 Sf Rc.1 Sf
  replace Rc := Rc.trans (CHr.wr W4 Sf Rc.1)
  replace hk := Nat.le_trans hk (Keep.of_wr W4).1
  replace Sf := Sf'
  replace Ex := Ex.wr W4
  replace Fc := Fc.other W4 (Or.inr (slot_ne (Or.inr (hw _ (List.mem_of_getElem? (i := 31) rfl))) (Or.inr (hw _ (List.mem_of_getElem? (i := 33) rfl))) (by decide) (t := .byte) (t' := (.array .byte)) (by decide) (by decide)))
  replace Kp := Kp.wr W4 (Or.inl (List.mem_of_getElem? (i := 0) rfl))
  replace Ex_a2 := Ex_a2.wr W4
  replace Fc_a2 := Fc_a2.other W4 (Or.inl (Ne.symm ne_a1_a2))
  replace Fv_a2 := Fv_a2.other W4 (Or.inl (Ne.symm ne_a1_a2))
  replace Va_b2 := Va_b2.other W4 (Ne.symm ne_a1_b2)
  replace Fv := Fv.same W4
  show own_GoW p e below s _ _ _ _ (T4.setTop (mkF m 17 #[rv a1, rv ar, iv (0 : Int32), iv (0 : Int32), .val .null, .unset] []))
  refine own_goW (fun zt zk => (XS.aloadN X4.here hx rfl (hb hby own_d3_17) rfl rfl zk)) ?_
  show own_GoW p e below s _ _ _ _ (T4.setTop (mkF m 18 #[rv a1, rv ar, iv (0 : Int32), iv (0 : Int32), .val .null, .unset] [(.ref a1)]))
  obtain ⟨a5, T5, h5, q5, b5, k5, X5, e5, E5, hS5, hk5, hZ5, hown5, Ex_a5, Fc_a5, Fv_a5, Va_b5, lta5, ltb5, A5, Li5, Sn5, st5⟩ := ldcCH X4 hx hZ hown (hw _ (List.mem_of_getElem? (i := 83) rfl)) wS e4 hS hk hEL (by decide +kernel) Rc.1 (vs := []) (z := (0 : Int32)) ⟨by decide +kernel, by decide +kernel⟩ (by decide) rfl (g := (mkF m 18 #[rv a1, rv ar, iv (0 : Int32), iv (0 : Int32), .val .null, .unset] [(.ref a1)])) rfl (hb hby own_d3_18) (n := 0) (by decide +kernel) (by decide) (by decide) (by decide)
  replace Sf := CHr.safe A5 Ex.lt Sf
  replace Ex := Ex.ext E5
  replace Fv := Fv.ext E5
  replace Fc := Fc.ext E5
  replace Kp := Kp.ext E5
  replace Ex_a2 := Ex_a2.ext E5
  replace Fc_a2 := Fc_a2.ext E5
  replace Fv_a2 := Fv_a2.ext E5
  replace Va_b2 := Va_b2.ext E5
  replace Rc := Rc.trans A5
  replace hS := hS5
  replace hk := hk5
  replace hZ := hZ5
  replace hown := hown5
  refine own_goW st5 ?_
  have ne_a1_a5 := (Sn5 a1 Sf).1
  have ne_a1_b5 := (Sn5 a1 Sf).2
  show own_GoW p e below s _ _ _ _ (T5.setTop (mkF m 20 #[rv a1, rv ar, iv (0 : Int32), iv (0 : Int32), .val .null, .unset] [(.ref a5), (.ref a1)]))
  obtain ⟨T6, X6, e6, st6⟩ := getF X5 hx hZ hown (host := "") (Or.inl (hw _ (List.mem_of_getElem? (i := 30) rfl))) Via.refl e5 Fc_a5 (g := (mkF m 20 #[rv a1, rv ar, iv (0 : Int32), iv (0 : Int32), .val .null, .unset] [(.ref a5), (.ref a1)])) rfl rfl (hb hby own_d3_20)
  refine own_goW st6 ?_
  show own_GoW p e below s _ _ _ _ (T6.setTop (mkF m 23 #[rv a1, rv ar, iv (0 : Int32), iv (0 : Int32), .val .null, .unset] [(.int (0 : Int32)), (.ref a1)]))
  obtain ⟨T7, h7, X7, e7, W7, st7⟩ := putFN X6 hx hZ hown (hw _ (List.mem_of_getElem? (i := 30) rfl)) Via.refl e6 Fc Ex (Or.inr ⟨(hw _ (List.mem_of_getElem? (i := 31) rfl)), rfl, hnm⟩) (hw _ (List.mem_of_getElem? (i := 6) rfl)) (ty := .byte) (v' := (.int (0 : Int32))) (by decide) rfl (by decide) (g := (mkF m 23 #[rv a1, rv ar, iv (0 : Int32), iv (0 : Int32), .val .null, .unset] [(.int (0 : Int32)), (.ref a1)])) rfl rfl (hb hby own_d3_23)
  refine own_goW st7 ?_
  have N7 := Fr.snoc X7 N4 g_a1
  have Sf' := Safe.wr W7 Sf Rc.1 Sf
  replace Rc := Rc.trans (CHr.wr W7 Sf Rc.1)
  replace hk := Nat.le_trans hk (Keep.of_wr W7).1
  replace Sf := Sf'
  replace Ex := Ex.wr W7
  replace Fv := Fv.other W7 (Or.inr (slot_ne (Or.inr (hw _ (List.mem_of_getElem? (i := 33) rfl))) (Or.inr (hw _ (List.mem_of_getElem? (i := 31) rfl))) (by decide) (t := (.array .byte)) (t' := .byte) (by decide) (by decide)))
  replace Kp := Kp.wr W7 (Or.inl (List.mem_of_getElem? (i := 0) rfl))
  replace Ex_a2 := Ex_a2.wr W7
  replace Fc_a2 := Fc_a2.other W7 (Or.inl (Ne.symm ne_a1_a2))
  replace Fv_a2 := Fv_a2.other W7 (Or.inl (Ne.symm ne_a1_a2))
  replace Va_b2 := Va_b2.other W7 (Ne.symm ne_a1_b2)
  replace Ex_a5 := Ex_a5.wr W7
  replace Fc_a5 := Fc_a5.other W7 (Or.inl (Ne.symm ne_a1_a5))
  replace Fv_a5 := Fv_a5.other W7 (Or.inl (Ne.symm ne_a1_a5))
  replace Va_b5 := Va_b5.other W7 (Ne.symm ne_a1_b5)
  replace Fc := Fc.same W7
  show own_GoW p e below s _ _ _ _ (T7.setTop (mkF m 26 #[rv a1, rv ar, iv (0 : Int32), iv (0 : Int32), .val .null, .unset] []))
  have Re := Rc.trans (CHv.at X7 hZ hEL Rc.1)
  exact own_finW X7 hS (by rw [e7]; exact hk) (by rw [e7, hh]; exact Re) Bd.notSynchronized (fun _ => rfl) (fun fs hr => X7.returnOut hx Bd.returns (hb hby own_d3_26) hr) (by rw [e7]; exact ⟨b2, k2, rfl, N7, Kp, Ex, Fv, Fc, Va_b2⟩) (by decide) (by decide)
theorem own_d2_0 : decode jdk_42_method_3_code 0 = .ok (.aload_n 0, 1) := by decide +kernel
theorem own_d2_1 : decode jdk_42_method_3_code 1 = .ok (.aload_n 1, 1) := by decide +kernel
theorem own_d2_2 : decode jdk_42_method_3_code 2 = .ok (.iconst 0, 1) := by decide +kernel
theorem own_d2_3 : decode jdk_42_method_3_code 3 = .ok (.aload_n 1, 1) := by decide +kernel
theorem own_d2_4 : decode jdk_42_method_3_code 4 = .ok (.arraylength, 1) := by decide +kernel
theorem own_d2_5 : decode jdk_42_method_3_code 5 = .ok (.aconst_null, 1) := by decide +kernel
theorem own_d2_6 : decode jdk_42_method_3_code 6 = .ok (.invokespecial 27, 3) := by decide +kernel
theorem own_pd___CIILjava_lang_Void__V : parseMethodDescriptor "([CIILjava/lang/Void;)V" = some ⟨[(.array .char), .int, .int, (.object "java/lang/Void")], none⟩ := by decide +kernel
theorem own_d2_9 : decode jdk_42_method_3_code 9 = .ok (.return_, 1) := by decide +kernel
theorem own_ef_own_rn1e (m : MethodId) (a1 : Addr) (ar : Addr) : entryFrame m #[(.ref a1), (.ref ar)] 2 = mkF m 0 #[rv a1, rv ar] [] := by first | (simp [entryFrame, mkF, argsToLocals, Value.category]; done) | rfl
def own_Q_own_rn1e (Z : State) (a1 : Addr) (ar : Addr) (ka : ClassId) (h0 : Heap) (n0 : Nat) (v : Option Value) (h : Heap) (L : List Loc) : Prop := ∃ t kb, v = none ∧ Fr n0 L ∧ Keep h0 h [a1] ∧ Exa Z h a1 "java/lang/String" ∧ Fld Z h a1 "java/lang/String" "value" "[B" (.ref t) ∧ Fld Z h a1 "java/lang/String" "coder" "B" (.int (0 : Int32)) ∧ Arv Z h t kb .byte (0 : Int32) [] (.int (0 : Int32))
set_option maxRecDepth 65536 in
set_option maxHeartbeats 40000000 in
theorem own_rn1e (l : Launch) (Z : State) (a0 : Array Value) (hw : ∀ d ∈ tables_1, d.before a0 Z = true) (ws : List Jvm.Cond) (a1 : Addr) (ar : Addr) (ka : ClassId) (vm0 : Vm) (h0 : Heap) (n0 : Nat) (Z0 : n0 ≤ h0.size) (Ex : Exa Z h0 a1 "java/lang/String") (Fv : Fld Z h0 a1 "java/lang/String" "value" "[B" .null) (Fc : Fld Z h0 a1 "java/lang/String" "coder" "B" (.int (0 : Int32))) (Sf : Safe Z own_EL vm0 h0 a1) (Va : Arv Z h0 ar ka .char (0 : Int32) [] (.int (0 : Int32))) (g_a1 : n0 ≤ a1) (hne : ar ≠ a1) :
    MetFree l (⟨"java/lang/String", "<init>", "([C)V"⟩ : MethodName) (head1 (Jvm.Cond.code (⟨"java/lang/String", "<init>", "([C)V"⟩ : MethodName) jdk_42_method_3_code 2 none :: ws) ({ frames := 2, cells := 4, slots := 8, locals := 29 } : Room)) (fun a U => a = #[(.ref a1), (.ref ar)] ∧ Z.Warmed39 U.vm ∧ U.heap = h0 ∧ CHr Z own_EL vm0 h0 U.vm h0) (fun _ _ _ _ _ => True) (fun _ U o U' => ∃ v L, o = .returned v ∧ own_Q_own_rn1e Z a1 ar ka h0 n0 v U'.heap L ∧ CHr Z own_EL U.vm U.heap U'.vm U'.heap ∧ ReturnedEndW U o U' L ({ frames := 2, cells := 4, slots := 8, locals := 29 } : Room).cells ({ frames := 2, cells := 4, slots := 8, locals := 29 } : Room).slots) := by
  refine MetFree.of_bodySF (plainFor_of_name own_pn_java_lang_String) hisR ?_
  intro p e s m args below meth c s₁ Bd hml0 hP hK
  obtain ⟨rfl, hZ, hh, hCH⟩ := hP
  have hx := Bd.exec
  have hby := Bd.bytes
  have hml : c.maxLocals = 2 := hml0
  have hown : s.vm.findClass "java/lang/String" = some m.cls := findClass_of_methodNamed Bd.named
  have hnm := (name_of_methodNamed Bd.named Bd.method).1
  have X0 : Stand p l e ({ frames := 2, cells := 4, slots := 8, locals := 29 } : Room) (s.setVm s.vm) m #[(.ref a1), (.ref ar)] below meth c s₁ [] 0 0 := Stand.of_body Bd
  have e0 : s₁.heap = h0 := by rw [← hh, Bd.state]; rfl
  have N0 := Fr.nil n0
  have hEL := own_EW Z a0 hw
  have wS := own_wS Z a0 hw
  have hS : s.Since s.vm 0 := (State.WarmedH.refl s).since 0
  have hk : 0 ≤ h0.size := Nat.zero_le _
  have Rc : CHr Z own_EL s.vm h0 s.vm h0 := CHr.refl hCH.1
  replace Sf := CHr.safe hCH Ex.lt Sf
  have Kp : Keep h0 h0 [a1] := Keep.refl h0 _
  show own_GoW p e below s Z (own_Q_own_rn1e Z a1 ar ka h0 n0) ({ frames := 2, cells := 4, slots := 8, locals := 29 } : Room).cells ({ frames := 2, cells := 4, slots := 8, locals := 29 } : Room).slots (s₁.setTop (entryFrame m #[(.ref a1), (.ref ar)] 2))
  refine own_goW (fun zt zk => castTop (own_ef_own_rn1e m a1 ar) zk) ?_
  show own_GoW p e below s _ _ _ _ (s₁.setTop (mkF m 0 #[rv a1, rv ar] []))
  refine own_goW (fun zt zk => (XS.aloadN X0.here hx rfl (hb hby own_d2_0) rfl rfl (XS.aloadN X0.here hx rfl (hb hby own_d2_1) rfl rfl (XS.iconst X0.here hx rfl (hb hby own_d2_2) (XS.aloadN X0.here hx rfl (hb hby own_d2_3) rfl rfl zk))))) ?_
  show own_GoW p e below s _ _ _ _ (s₁.setTop (mkF m 4 #[rv a1, rv ar] [(.ref ar), (.int (0 : Int32)), (.ref ar), (.ref a1)]))
  obtain ⟨cl1, Ar1, -, Sz1, Nz1, -, -⟩ := id Va
  refine own_goW (X0.arraylength hx (by rw [e0]; exact Ar1.1) (State.isArrayOf_alike hZ.alike Ar1.2.1) (g := (mkF m 4 #[rv a1, rv ar] [(.ref ar), (.int (0 : Int32)), (.ref ar), (.ref a1)])) rfl rfl (hb hby own_d2_4)) ?_
  rw [len_of Sz1 Nz1]
  show own_GoW p e below s _ _ _ _ (s₁.setTop (mkF m 5 #[rv a1, rv ar] [(.int (0 : Int32)), (.int (0 : Int32)), (.ref ar), (.ref a1)]))
  refine own_goW (fun zt zk => (XS.aconstNull X0.here hx rfl (hb hby own_d2_5) zk)) ?_
  show own_GoW p e below s _ _ _ _ (s₁.setTop (mkF m 6 #[rv a1, rv ar] [.null, (.int (0 : Int32)), (.int (0 : Int32)), (.ref ar), (.ref a1)]))
  obtain ⟨_, _, ⟨T2, L2, k2, n2⟩, -, X2, hSq2, hgq2, ⟨Lc2, hQ2, l2, y2, z2, A2⟩, st2⟩ := X0.specialBackS hx (y := (⟨"java/lang/String", "<init>", "([CIILjava/lang/Void;)V"⟩ : MethodName)) rfl hown (mvT hZ (hw _ (List.mem_of_getElem? (i := 11) rfl))) (mvT hZ (hw _ (List.mem_of_getElem? (i := 12) rfl))) (mvT hZ (hw _ (List.mem_of_getElem? (i := 14) rfl))) (by decide) (own_backW (s := s) (W := 0) (own_rn4e l Z a0 hw [] a1 ar  s.vm h0 n0 Z0 Ex Fv Fc Sf g_a1) hZ (hw _ (List.mem_of_getElem? (i := 14) rfl)) (hw _ (List.mem_of_getElem? (i := 7) rfl)) (by decide) (by decide) hEL Rc.1) (g := (mkF m 6 #[rv a1, rv ar] [.null, (.int (0 : Int32)), (.int (0 : Int32)), (.ref ar), (.ref a1)])) rfl (by rw [hml]; rfl) (Steps.refl _) (a := a1) (argsL := [(.ref ar), (.int (0 : Int32)), (.int (0 : Int32)), .null]) (rest := []) (lenOf own_pd___CIILjava_lang_Void__V rfl) rfl (by show 2 * 0 + _ ≤ _; exact Nat.le_of_eq rfl) (hb hby own_d2_6) (fun _ _ => ⟨rfl, e0, (by decide : 0 + 4 ≤ _), (by decide : 0 + 8 ≤ _)⟩)
  dsimp only [Pt.U, Pt.locs, Pt.cells, Pt.slots] at X2 l2 y2 z2 st2 hQ2 hSq2 hgq2 A2
  subst l2 y2 z2
  obtain ⟨X2, hS2, hZ2, hown2⟩ := rebS hS (by rw [e0]; exact hk) X2 hSq2 hgq2 hZ hown
  replace Sf := CHr.safe A2 Ex.lt Sf
  replace Rc := Rc.trans A2
  replace hS := hS2
  replace hZ := hZ2
  replace hown := hown2
  have hk : T2.heap.size ≤ T2.heap.size := Nat.le_refl _
  obtain ⟨t2, kb2, rfl, Nq2, K2, -, Fv, Fc, Va2⟩ := hQ2
  have N2 := Fr.app N0 Nq2
  refine own_goW (fun zt zk => st2.trans zk) ?_
  replace Ex := Ex.keep K2
  replace Va := Va.keep K2 (ninS hne nin0)
  replace Kp := Kp.trans K2 (allS (Or.inl (List.mem_of_getElem? (i := 0) rfl)) all0)
  show own_GoW p e below s _ _ _ _ (T2.setTop (mkF m 9 #[rv a1, rv ar] []))
  have Re := Rc.trans (CHv.at X2 hZ hEL Rc.1)
  exact own_finW X2 hS (hk) (by rw [hh]; exact Re) Bd.notSynchronized (fun _ => rfl) (fun fs hr => X2.returnOut hx Bd.returns (hb hby own_d2_9) hr) (⟨t2, kb2, rfl, N2, Kp, Ex, Fv, Fc, Va2⟩) (by decide) (by decide)
theorem own_d11_0 : decode jdk_43_method_13_code 0 = .ok (.aload_n 0, 1) := by decide +kernel
theorem own_d11_1 : decode jdk_43_method_13_code 1 = .ok (.arraylength, 1) := by decide +kernel
theorem own_d11_2 : decode jdk_43_method_13_code 2 = .ok (.aload_n 1, 1) := by decide +kernel
theorem own_d11_3 : decode jdk_43_method_13_code 3 = .ok (.arraylength, 1) := by decide +kernel
theorem own_d11_4 : decode jdk_43_method_13_code 4 = .ok (.if_icmp .ne 30, 3) := by decide +kernel
theorem own_d11_7 : decode jdk_43_method_13_code 7 = .ok (.iconst 0, 1) := by decide +kernel
theorem own_d11_8 : decode jdk_43_method_13_code 8 = .ok (.istore_n 2, 1) := by decide +kernel
theorem own_d11_9 : decode jdk_43_method_13_code 9 = .ok (.iload_n 2, 1) := by decide +kernel
theorem own_d11_10 : decode jdk_43_method_13_code 10 = .ok (.aload_n 0, 1) := by decide +kernel
theorem own_d11_11 : decode jdk_43_method_13_code 11 = .ok (.arraylength, 1) := by decide +kernel
theorem own_d11_12 : decode jdk_43_method_13_code 12 = .ok (.if_icmp .ge 20, 3) := by decide +kernel
theorem own_d11_32 : decode jdk_43_method_13_code 32 = .ok (.iconst 1, 1) := by decide +kernel
theorem own_d11_33 : decode jdk_43_method_13_code 33 = .ok (.ireturn, 1) := by decide +kernel
theorem own_d11_15 : decode jdk_43_method_13_code 15 = .ok (.aload_n 0, 1) := by decide +kernel
theorem own_d11_16 : decode jdk_43_method_13_code 16 = .ok (.iload_n 2, 1) := by decide +kernel
theorem own_d11_17 : decode jdk_43_method_13_code 17 = .ok (.baload, 1) := by decide +kernel
theorem own_d11_18 : decode jdk_43_method_13_code 18 = .ok (.aload_n 1, 1) := by decide +kernel
theorem own_d11_19 : decode jdk_43_method_13_code 19 = .ok (.iload_n 2, 1) := by decide +kernel
theorem own_d11_20 : decode jdk_43_method_13_code 20 = .ok (.baload, 1) := by decide +kernel
theorem own_d11_21 : decode jdk_43_method_13_code 21 = .ok (.if_icmp .eq 5, 3) := by decide +kernel
theorem own_d11_26 : decode jdk_43_method_13_code 26 = .ok (.iinc 2 1, 3) := by decide +kernel
theorem own_d11_29 : decode jdk_43_method_13_code 29 = .ok (.goto (-20), 3) := by decide +kernel
theorem own_d11_24 : decode jdk_43_method_13_code 24 = .ok (.iconst 0, 1) := by decide +kernel
theorem own_d11_25 : decode jdk_43_method_13_code 25 = .ok (.ireturn, 1) := by decide +kernel
theorem own_d11_34 : decode jdk_43_method_13_code 34 = .ok (.iconst 0, 1) := by decide +kernel
theorem own_d11_35 : decode jdk_43_method_13_code 35 = .ok (.ireturn, 1) := by decide +kernel
theorem own_pn_java_lang_StringLatin1 : plainName "java/lang/StringLatin1" = true := by first | (simp [plainName, overriddenIn]; done) | decide +kernel
theorem own_ef_own_rleq (m : MethodId) (t1 : Addr) (t2 : Addr) : entryFrame m #[(.ref t1), (.ref t2)] 3 = mkF m 0 #[rv t1, rv t2, .unset] [] := by first | (simp [entryFrame, mkF, argsToLocals, Value.category]; done) | rfl
def own_Q_own_rleq (Z : State) (t1 : Addr) (t2 : Addr) (k1 k2 : ClassId) (N1 N2 : Int32) (xs ys : List Int32) (h0 : Heap) (n0 : Nat) (v : Option Value) (h : Heap) (L : List Loc) : Prop := v = some (.int (own_eqv xs ys)) ∧ Fr n0 L ∧ h = h0
set_option maxRecDepth 65536 in
set_option maxHeartbeats 40000000 in
theorem own_rleq (l : Launch) (Z : State) (a0 : Array Value) (hw : ∀ d ∈ tables_1, d.before a0 Z = true) (ws : List Jvm.Cond) (t1 : Addr) (t2 : Addr) (k1 k2 : ClassId) (N1 N2 : Int32) (xs ys : List Int32) (h0 : Heap) (n0 : Nat) (Z0 : n0 ≤ h0.size) (Va1 : Arv Z h0 t1 k1 .byte N1 (xs.map Value.int) (.int (0 : Int32))) (Va2 : Arv Z h0 t2 k2 .byte N2 (ys.map Value.int) (.int (0 : Int32))) (hl1 : N1.toNatClampNeg = xs.length) (hl2 : N2.toNatClampNeg = ys.length) :
    MetFree l (⟨"java/lang/StringLatin1", "equals", "([B[B)Z"⟩ : MethodName) (head1 (Jvm.Cond.code (⟨"java/lang/StringLatin1", "equals", "([B[B)Z"⟩ : MethodName) jdk_43_method_13_code 3 (some .boolean) :: ws) ({ frames := 0, cells := 0, slots := 0, locals := 0 } : Room)) (fun a U => a = #[(.ref t1), (.ref t2)] ∧ Z.Warmed39 U.vm ∧ U.heap = h0) (fun _ _ _ _ _ => True) (fun _ U o U' => ∃ v L, o = .returned v ∧ own_Q_own_rleq Z t1 t2 k1 k2 N1 N2 xs ys h0 n0 v U'.heap L ∧ FrameEnd U o U' L ({ frames := 0, cells := 0, slots := 0, locals := 0 } : Room).cells ({ frames := 0, cells := 0, slots := 0, locals := 0 } : Room).slots) := by
  refine MetFree.of_bodySF (plainFor_of_name own_pn_java_lang_StringLatin1) hisR ?_
  intro p e s m args below meth c s₁ Bd hml0 hP hK
  obtain ⟨rfl, hZ, hh⟩ := hP
  have hx := Bd.exec
  have hby := Bd.bytes
  have hml : c.maxLocals = 3 := hml0
  have hown : s.vm.findClass "java/lang/StringLatin1" = some m.cls := findClass_of_methodNamed Bd.named
  have hnm := (name_of_methodNamed Bd.named Bd.method).1
  have X0 : Stand p l e ({ frames := 0, cells := 0, slots := 0, locals := 0 } : Room) s m #[(.ref t1), (.ref t2)] below meth c s₁ [] 0 0 := Stand.of_body Bd
  have e0 : s₁.heap = h0 := by rw [← hh, Bd.state]; rfl
  have N0 := Fr.nil n0
  show own_Go p e below s (own_Q_own_rleq Z t1 t2 k1 k2 N1 N2 xs ys h0 n0) ({ frames := 0, cells := 0, slots := 0, locals := 0 } : Room).cells ({ frames := 0, cells := 0, slots := 0, locals := 0 } : Room).slots (s₁.setTop (entryFrame m #[(.ref t1), (.ref t2)] 3))
  obtain ⟨-, -, -, -, Nz1, -, -⟩ := id Va1
  obtain ⟨-, -, -, -, Nz2, -, -⟩ := id Va2
  refine own_go (fun zt zk => castTop (own_ef_own_rleq m t1 t2) zk) ?_
  show own_Go p e below s _ _ _ (s₁.setTop (mkF m 0 #[rv t1, rv t2, .unset] []))
  refine own_go (fun zt zk => (XS.aloadN X0.here hx rfl (hb hby own_d11_0) rfl rfl zk)) ?_
  show own_Go p e below s _ _ _ (s₁.setTop (mkF m 1 #[rv t1, rv t2, .unset] [(.ref t1)]))
  obtain ⟨cl1, Ar1, -, Sz1, Nz1, -, -⟩ := id Va1
  refine own_go (X0.arraylength hx (by rw [e0]; exact Ar1.1) (State.isArrayOf_alike hZ.alike Ar1.2.1) (g := (mkF m 1 #[rv t1, rv t2, .unset] [(.ref t1)])) rfl rfl (hb hby own_d11_1)) ?_
  rw [len_of Sz1 Nz1]
  show own_Go p e below s _ _ _ (s₁.setTop (mkF m 2 #[rv t1, rv t2, .unset] [(.int N1)]))
  refine own_go (fun zt zk => (XS.aloadN X0.here hx rfl (hb hby own_d11_2) rfl rfl zk)) ?_
  show own_Go p e below s _ _ _ (s₁.setTop (mkF m 3 #[rv t1, rv t2, .unset] [(.ref t2), (.int N1)]))
  obtain ⟨cl2, Ar2, -, Sz2, Nz2, -, -⟩ := id Va2
  refine own_go (X0.arraylength hx (by rw [e0]; exact Ar2.1) (State.isArrayOf_alike hZ.alike Ar2.2.1) (g := (mkF m 3 #[rv t1, rv t2, .unset] [(.ref t2), (.int N1)])) rfl rfl (hb hby own_d11_3)) ?_
  rw [len_of Sz2 Nz2]
  show own_Go p e below s _ _ _ (s₁.setTop (mkF m 4 #[rv t1, rv t2, .unset] [(.int N2), (.int N1)]))
  by_cases hN : N1 = N2
  · have hll : xs.length = ys.length := by rw [← hl1, ← hl2, hN]
    refine own_go (fun zt zk => (XS.icmpNo X0.here hx rfl (hb hby own_d11_4) rfl (teq (hN : N1 = N2)).2 (XS.iconst X0.here hx rfl (hb hby own_d11_7) (XS.istoreN X0.here hx rfl (hb hby own_d11_8) rfl (l' := #[rv t1, rv t2, iv (0 : Int32)]) rfl zk)))) ?_
    show own_Go p e below s _ _ _ (s₁.setTop (mkF m 9 #[rv t1, rv t2, iv (0 : Int32)] []))
    have loop : ∀ (k q : Nat), q + k = xs.length → (∀ r, r < q → xs.getD r 0 = ys.getD r 0) → own_Go p e below s (own_Q_own_rleq Z t1 t2 k1 k2 N1 N2 xs ys h0 n0) ({ frames := 0, cells := 0, slots := 0, locals := 0 } : Room).cells ({ frames := 0, cells := 0, slots := 0, locals := 0 } : Room).slots (s₁.setTop (mkF m 9 #[.val (.ref t1), .val (.ref t2), .val (.int (Int32.ofNat q))] [])) := by
      intro k
      induction k with
      | zero =>
        intro q hq hr
        have hq' : q = xs.length := by omega
        show own_Go p e below s _ _ _ (s₁.setTop (mkF m 9 #[rv t1, rv t2, iv (Int32.ofNat q)] []))
        refine own_go (fun zt zk => (XS.iloadN X0.here hx rfl (hb hby own_d11_9) rfl (XS.aloadN X0.here hx rfl (hb hby own_d11_10) rfl rfl zk))) ?_
        show own_Go p e below s _ _ _ (s₁.setTop (mkF m 11 #[rv t1, rv t2, iv (Int32.ofNat q)] [(.ref t1), (.int (Int32.ofNat q))]))
        obtain ⟨cl3, Ar3, -, Sz3, Nz3, -, -⟩ := id Va1
        refine own_go (X0.arraylength hx (by rw [e0]; exact Ar3.1) (State.isArrayOf_alike hZ.alike Ar3.2.1) (g := (mkF m 11 #[rv t1, rv t2, iv (Int32.ofNat q)] [(.ref t1), (.int (Int32.ofNat q))])) rfl rfl (hb hby own_d11_11)) ?_
        rw [len_of Sz3 Nz3]
        show own_Go p e below s _ _ _ (s₁.setTop (mkF m 12 #[rv t1, rv t2, iv (Int32.ofNat q)] [(.int N1), (.int (Int32.ofNat q))]))
        refine own_go (fun zt zk => (XS.icmpYes X0.here hx rfl (pc0 := 12) (pc' := 32) rfl (hb hby own_d11_12) rfl (flt ((by rw [hq']; exact own_past hl1 Nz1) : ¬ ((Int32.ofNat q) < N1))).2.1 (by decide) (by decide) (XS.iconst X0.here hx rfl (hb hby own_d11_32) zk))) ?_
        show own_Go p e below s _ _ _ (s₁.setTop (mkF m 33 #[rv t1, rv t2, iv (Int32.ofNat q)] [(.int (1 : Int32))]))
        exact own_fin X0 Bd.notSynchronized (fun h => by rw [Bd.returns] at h; cases h) (fun fs hr => retN X0 hx (t := .boolean) Bd.returns (by simp) (hb hby own_d11_33) hr) (by rw [e0]; exact ⟨congrArg (fun z => some (Value.int z)) (if_pos (own_listeq hll (fun r h => hr r (by omega)))).symm, N0, rfl⟩) (by decide) (by decide)
      | succ k ih =>
        intro q hq hr
        have hq' : q < xs.length := by omega
        obtain ⟨hi1, hi3⟩ := own_idx hl1 Nz1 hq'
        obtain ⟨hi2, -⟩ := own_idx hl2 Nz2 (by omega : q < ys.length)
        show own_Go p e below s _ _ _ (s₁.setTop (mkF m 9 #[rv t1, rv t2, iv (Int32.ofNat q)] []))
        refine own_go (fun zt zk => (XS.iloadN X0.here hx rfl (hb hby own_d11_9) rfl (XS.aloadN X0.here hx rfl (hb hby own_d11_10) rfl rfl zk))) ?_
        show own_Go p e below s _ _ _ (s₁.setTop (mkF m 11 #[rv t1, rv t2, iv (Int32.ofNat q)] [(.ref t1), (.int (Int32.ofNat q))]))
        obtain ⟨cl4, Ar4, -, Sz4, Nz4, -, -⟩ := id Va1
        refine own_go (X0.arraylength hx (by rw [e0]; exact Ar4.1) (State.isArrayOf_alike hZ.alike Ar4.2.1) (g := (mkF m 11 #[rv t1, rv t2, iv (Int32.ofNat q)] [(.ref t1), (.int (Int32.ofNat q))])) rfl rfl (hb hby own_d11_11)) ?_
        rw [len_of Sz4 Nz4]
        show own_Go p e below s _ _ _ (s₁.setTop (mkF m 12 #[rv t1, rv t2, iv (Int32.ofNat q)] [(.int N1), (.int (Int32.ofNat q))]))
        refine own_go (fun zt zk => (XS.icmpNo X0.here hx rfl (hb hby own_d11_12) rfl (tlt (hi1.2 : (Int32.ofNat q) < N1)).2.1 (XS.aloadN X0.here hx rfl (hb hby own_d11_15) rfl rfl (XS.iloadN X0.here hx rfl (hb hby own_d11_16) rfl zk)))) ?_
        show own_Go p e below s _ _ _ (s₁.setTop (mkF m 17 #[rv t1, rv t2, iv (Int32.ofNat q)] [(.int (Int32.ofNat q)), (.ref t1)]))
        obtain ⟨cl5, Ar5, q5, Sz5, Nz5, Ha5, Ga5⟩ := id Va1
        have hin5 : ¬ ((Int32.ofNat q) < 0 ∨ cl5.slots.size ≤ ((Int32.ofNat q)).toNatClampNeg) := inb_of Sz5 hi1
        have hat5 : cl5.slots[((Int32.ofNat q)).toNatClampNeg]? = some (.int (xs.getD q 0)) := Has.at Ha5 hin5 (by rw [hi3]; exact own_mapget xs q)
        refine own_go (X0.baloadBytes hx (j := (Int32.ofNat q)) (v := (.int (xs.getD q 0))) (by rw [e0]; exact Ar5.1) (State.isArrayOf_alike hZ.alike Ar5.2.1) Ar5.2.2 hin5 hat5 (g := (mkF m 17 #[rv t1, rv t2, iv (Int32.ofNat q)] [(.int (Int32.ofNat q)), (.ref t1)])) rfl rfl (hb hby own_d11_17)) ?_
        show own_Go p e below s _ _ _ (s₁.setTop (mkF m 18 #[rv t1, rv t2, iv (Int32.ofNat q)] [(.int (xs.getD q 0))]))
        refine own_go (fun zt zk => (XS.aloadN X0.here hx rfl (hb hby own_d11_18) rfl rfl (XS.iloadN X0.here hx rfl (hb hby own_d11_19) rfl zk))) ?_
        show own_Go p e below s _ _ _ (s₁.setTop (mkF m 20 #[rv t1, rv t2, iv (Int32.ofNat q)] [(.int (Int32.ofNat q)), (.ref t2), (.int (xs.getD q 0))]))
        obtain ⟨cl6, Ar6, q6, Sz6, Nz6, Ha6, Ga6⟩ := id Va2
        have hin6 : ¬ ((Int32.ofNat q) < 0 ∨ cl6.slots.size ≤ ((Int32.ofNat q)).toNatClampNeg) := inb_of Sz6 hi2
        have hat6 : cl6.slots[((Int32.ofNat q)).toNatClampNeg]? = some (.int (ys.getD q 0)) := Has.at Ha6 hin6 (by rw [hi3]; exact own_mapget ys q)
        refine own_go (X0.baloadBytes hx (j := (Int32.ofNat q)) (v := (.int (ys.getD q 0))) (by rw [e0]; exact Ar6.1) (State.isArrayOf_alike hZ.alike Ar6.2.1) Ar6.2.2 hin6 hat6 (g := (mkF m 20 #[rv t1, rv t2, iv (Int32.ofNat q)] [(.int (Int32.ofNat q)), (.ref t2), (.int (xs.getD q 0))])) rfl rfl (hb hby own_d11_20)) ?_
        show own_Go p e below s _ _ _ (s₁.setTop (mkF m 21 #[rv t1, rv t2, iv (Int32.ofNat q)] [(.int (ys.getD q 0)), (.int (xs.getD q 0))]))
        by_cases heq : (xs.getD q 0) = (ys.getD q 0)
        · refine own_go (fun zt zk => (XS.icmpYes X0.here hx rfl (pc0 := 21) (pc' := 26) rfl (hb hby own_d11_21) rfl (teq (heq : (xs.getD q 0) = (ys.getD q 0))).1 (by decide) (by decide) (XS.iinc X0.here hx rfl (hb hby own_d11_26) rfl (l' := #[rv t1, rv t2, iv ((Int32.ofNat q) + (1 : Int32))]) rfl (XS.goto X0.here hx rfl (pc0 := 29) (pc' := 9) rfl (hb hby own_d11_29) (by decide) (by decide) zk)))) ?_
          show own_Go p e below s _ _ _ (s₁.setTop (mkF m 9 #[rv t1, rv t2, iv ((Int32.ofNat q) + (1 : Int32))] []))
          rw [own_incr hl1 Nz1 hq']
          refine ih (q + 1) (by omega) fun r h => ?_
          by_cases h2 : r < q
          · exact hr r h2
          · have h3 : r = q := by omega
            rw [h3]; exact heq
        · refine own_go (fun zt zk => (XS.icmpNo X0.here hx rfl (hb hby own_d11_21) rfl (feq (heq : ¬ ((xs.getD q 0) = (ys.getD q 0)))).1 (XS.iconst X0.here hx rfl (hb hby own_d11_24) zk))) ?_
          show own_Go p e below s _ _ _ (s₁.setTop (mkF m 25 #[rv t1, rv t2, iv (Int32.ofNat q)] [(.int (0 : Int32))]))
          exact own_fin X0 Bd.notSynchronized (fun h => by rw [Bd.returns] at h; cases h) (fun fs hr => retN X0 hx (t := .boolean) Bd.returns (by simp) (hb hby own_d11_25) hr) (by rw [e0]; exact ⟨congrArg (fun z => some (Value.int z)) (if_neg (fun q' => heq (by rw [q']))).symm, N0, rfl⟩) (by decide) (by decide)
    exact loop xs.length 0 (by omega) (fun r h => absurd h (Nat.not_lt_zero r))
  · refine own_go (fun zt zk => (XS.icmpYes X0.here hx rfl (pc0 := 4) (pc' := 34) rfl (hb hby own_d11_4) rfl (feq (hN : ¬ (N1 = N2))).2 (by decide) (by decide) (XS.iconst X0.here hx rfl (hb hby own_d11_34) zk))) ?_
    show own_Go p e below s _ _ _ (s₁.setTop (mkF m 35 #[rv t1, rv t2, .unset] [(.int (0 : Int32))]))
    exact own_fin X0 Bd.notSynchronized (fun h => by rw [Bd.returns] at h; cases h) (fun fs hr => retN X0 hx (t := .boolean) Bd.returns (by simp) (hb hby own_d11_35) hr) (by rw [e0]; exact ⟨congrArg (fun z => some (Value.int z)) (if_neg (fun q => hN ((own_nat_inj (hl1.trans ((congrArg List.length q).trans hl2.symm)) Nz1 Nz2)))).symm, N0, rfl⟩) (by decide) (by decide)
theorem own_d10_0 : decode jdk_42_method_66_code 0 = .ok (.aload_n 0, 1) := by decide +kernel
theorem own_d10_1 : decode jdk_42_method_66_code 1 = .ok (.aload_n 1, 1) := by decide +kernel
theorem own_d10_2 : decode jdk_42_method_66_code 2 = .ok (.if_acmp .ne 5, 3) := by decide +kernel
theorem own_d10_5 : decode jdk_42_method_66_code 5 = .ok (.iconst 1, 1) := by decide +kernel
theorem own_d10_6 : decode jdk_42_method_66_code 6 = .ok (.ireturn, 1) := by decide +kernel
theorem own_d10_7 : decode jdk_42_method_66_code 7 = .ok (.aload_n 1, 1) := by decide +kernel
theorem own_d10_8 : decode jdk_42_method_66_code 8 = .ok (.instanceof 10, 3) := by decide +kernel
theorem own_d10_11 : decode jdk_42_method_66_code 11 = .ok (.ifCond .eq 43, 3) := by decide +kernel
theorem own_d10_14 : decode jdk_42_method_66_code 14 = .ok (.aload_n 1, 1) := by decide +kernel
theorem own_d10_15 : decode jdk_42_method_66_code 15 = .ok (.checkcast 10, 3) := by decide +kernel
theorem own_d10_18 : decode jdk_42_method_66_code 18 = .ok (.astore_n 2, 1) := by decide +kernel
theorem own_d10_19 : decode jdk_42_method_66_code 19 = .ok (.getstatic 38, 3) := by decide +kernel
theorem own_d10_22 : decode jdk_42_method_66_code 22 = .ok (.ifCond .eq 14, 3) := by decide +kernel
theorem own_d10_25 : decode jdk_42_method_66_code 25 = .ok (.aload_n 0, 1) := by decide +kernel
theorem own_d10_26 : decode jdk_42_method_66_code 26 = .ok (.getfield 15, 3) := by decide +kernel
theorem own_d10_29 : decode jdk_42_method_66_code 29 = .ok (.aload_n 2, 1) := by decide +kernel
theorem own_d10_30 : decode jdk_42_method_66_code 30 = .ok (.getfield 15, 3) := by decide +kernel
theorem own_d10_33 : decode jdk_42_method_66_code 33 = .ok (.if_icmp .ne 21, 3) := by decide +kernel
theorem own_d10_36 : decode jdk_42_method_66_code 36 = .ok (.aload_n 0, 1) := by decide +kernel
theorem own_d10_37 : decode jdk_42_method_66_code 37 = .ok (.getfield 9, 3) := by decide +kernel
theorem own_d10_40 : decode jdk_42_method_66_code 40 = .ok (.aload_n 2, 1) := by decide +kernel
theorem own_d10_41 : decode jdk_42_method_66_code 41 = .ok (.getfield 9, 3) := by decide +kernel
theorem own_d10_44 : decode jdk_42_method_66_code 44 = .ok (.invokestatic 541, 3) := by decide +kernel
theorem own_pd___B_B_Z : parseMethodDescriptor "([B[B)Z" = some ⟨[(.array .byte), (.array .byte)], some .boolean⟩ := by decide +kernel
theorem own_d10_47 : decode jdk_42_method_66_code 47 = .ok (.ifCond .eq 7, 3) := by decide +kernel
theorem own_d10_50 : decode jdk_42_method_66_code 50 = .ok (.iconst 1, 1) := by decide +kernel
theorem own_d10_51 : decode jdk_42_method_66_code 51 = .ok (.goto 4, 3) := by decide +kernel
theorem own_d10_55 : decode jdk_42_method_66_code 55 = .ok (.ireturn, 1) := by decide +kernel
theorem own_d10_54 : decode jdk_42_method_66_code 54 = .ok (.iconst 0, 1) := by decide +kernel
theorem own_ef_own_req (m : MethodId) (a1 : Addr) (a2 : Addr) : entryFrame m #[(.ref a1), (.ref a2)] 3 = mkF m 0 #[rv a1, rv a2, .unset] [] := by first | (simp [entryFrame, mkF, argsToLocals, Value.category]; done) | rfl
def own_Q_own_req (Z : State) (a1 : Addr) (a2 : Addr) (cz : Int32) (t1 t2 : Addr) (k1 k2 : ClassId) (N1 N2 : Int32) (xs ys : List Int32) (h0 : Heap) (n0 : Nat) (v : Option Value) (h : Heap) (L : List Loc) : Prop := v = some (.int (own_eqv xs ys)) ∧ Fr n0 L ∧ h = h0
set_option maxRecDepth 65536 in
set_option maxHeartbeats 40000000 in
theorem own_req (l : Launch) (Z : State) (a0 : Array Value) (hw : ∀ d ∈ tables_1, d.before a0 Z = true) (ws : List Jvm.Cond) (a1 : Addr) (a2 : Addr) (cz : Int32) (t1 t2 : Addr) (k1 k2 : ClassId) (N1 N2 : Int32) (xs ys : List Int32) (h0 : Heap) (n0 : Nat) (Z0 : n0 ≤ h0.size) (O : Old Z n0 h0) (SC : Sta Z Z.heap "java/lang/String" "COMPACT_STRINGS" "Z" (.int cz)) (Ex1 : Exa Z h0 a1 "java/lang/String") (Fv1 : Fld Z h0 a1 "java/lang/String" "value" "[B" (.ref t1)) (Fc1 : Fld Z h0 a1 "java/lang/String" "coder" "B" (.int (0 : Int32))) (Va1 : Arv Z h0 t1 k1 .byte N1 (xs.map Value.int) (.int (0 : Int32))) (Ex2 : Exa Z h0 a2 "java/lang/String") (Fv2 : Fld Z h0 a2 "java/lang/String" "value" "[B" (.ref t2)) (Fc2 : Fld Z h0 a2 "java/lang/String" "coder" "B" (.int (0 : Int32))) (Va2 : Arv Z h0 t2 k2 .byte N2 (ys.map Value.int) (.int (0 : Int32))) (hz : ¬ (cz = (0 : Int32))) (hl1 : N1.toNatClampNeg = xs.length) (hl2 : N2.toNatClampNeg = ys.length) :
    MetFree l (⟨"java/lang/String", "equals", "(Ljava/lang/Object;)Z"⟩ : MethodName) (head1 (Jvm.Cond.code (⟨"java/lang/String", "equals", "(Ljava/lang/Object;)Z"⟩ : MethodName) jdk_42_method_66_code 3 (some .boolean) :: ws) ({ frames := 1, cells := 0, slots := 0, locals := 14 } : Room)) (fun a U => a = #[(.ref a1), (.ref a2)] ∧ Z.Warmed39 U.vm ∧ U.heap = h0) (fun _ _ _ _ _ => True) (fun _ U o U' => ∃ v L, o = .returned v ∧ own_Q_own_req Z a1 a2 cz t1 t2 k1 k2 N1 N2 xs ys h0 n0 v U'.heap L ∧ FrameEnd U o U' L ({ frames := 1, cells := 0, slots := 0, locals := 14 } : Room).cells ({ frames := 1, cells := 0, slots := 0, locals := 14 } : Room).slots) := by
  refine MetFree.of_bodySF (plainFor_of_name own_pn_java_lang_String) hisR ?_
  intro p e s m args below meth c s₁ Bd hml0 hP hK
  obtain ⟨rfl, hZ, hh⟩ := hP
  have hx := Bd.exec
  have hby := Bd.bytes
  have hml : c.maxLocals = 3 := hml0
  have hown : s.vm.findClass "java/lang/String" = some m.cls := findClass_of_methodNamed Bd.named
  have hnm := (name_of_methodNamed Bd.named Bd.method).1
  have X0 : Stand p l e ({ frames := 1, cells := 0, slots := 0, locals := 14 } : Room) s m #[(.ref a1), (.ref a2)] below meth c s₁ [] 0 0 := Stand.of_body Bd
  have e0 : s₁.heap = h0 := by rw [← hh, Bd.state]; rfl
  have N0 := Fr.nil n0
  show own_Go p e below s (own_Q_own_req Z a1 a2 cz t1 t2 k1 k2 N1 N2 xs ys h0 n0) ({ frames := 1, cells := 0, slots := 0, locals := 14 } : Room).cells ({ frames := 1, cells := 0, slots := 0, locals := 14 } : Room).slots (s₁.setTop (entryFrame m #[(.ref a1), (.ref a2)] 3))
  refine own_go (fun zt zk => castTop (own_ef_own_req m a1 a2) zk) ?_
  show own_Go p e below s _ _ _ (s₁.setTop (mkF m 0 #[rv a1, rv a2, .unset] []))
  refine own_go (fun zt zk => (XS.aloadN X0.here hx rfl (hb hby own_d10_0) rfl rfl (XS.aloadN X0.here hx rfl (hb hby own_d10_1) rfl rfl zk))) ?_
  show own_Go p e below s _ _ _ (s₁.setTop (mkF m 2 #[rv a1, rv a2, .unset] [(.ref a2), (.ref a1)]))
  by_cases hsame : a1 = a2
  · subst hsame
    have ht := Value.ref.inj (own_fldeq Fv1 Fv2)
    subst ht
    have hxy := own_same Va1 Va2 hl1 hl2
    show own_Go p e below s _ _ _ (s₁.setTop (mkF m 2 #[rv a1, rv a1, .unset] [(.ref a1), (.ref a1)]))
    refine own_go (fun zt zk => Jvm.RoadKit.acmp (g := (mkF m 2 #[rv a1, rv a1, .unset] [(.ref a1), (.ref a1)])) X0 hx rfl rfl rfl (pc0 := 2) (pc' := 5) (same := true) rfl (hb hby own_d10_2) rfl (decide_eq_true rfl) (by decide) (by decide) zk) ?_
    show own_Go p e below s _ _ _ (s₁.setTop (mkF m 5 #[rv a1, rv a1, .unset] []))
    refine own_go (fun zt zk => (XS.iconst X0.here hx rfl (hb hby own_d10_5) zk)) ?_
    show own_Go p e below s _ _ _ (s₁.setTop (mkF m 6 #[rv a1, rv a1, .unset] [(.int (1 : Int32))]))
    exact own_fin X0 Bd.notSynchronized (fun h => by rw [Bd.returns] at h; cases h) (fun fs hr => retN X0 hx (t := .boolean) Bd.returns (by simp) (hb hby own_d10_6) hr) (by rw [e0]; exact ⟨congrArg (fun z => some (Value.int z)) (if_pos hxy).symm, N0, rfl⟩) (by decide) (by decide)
  · refine own_go (fun zt zk => Jvm.RoadKit.acmp (g := (mkF m 2 #[rv a1, rv a2, .unset] [(.ref a2), (.ref a1)])) X0 hx rfl rfl rfl (pc0 := 2) (pc' := 7) (same := false) rfl (hb hby own_d10_2) rfl (decide_eq_false fun q => hsame (Value.ref.inj q)) (by decide) (by decide) zk) ?_
    show own_Go p e below s _ _ _ (s₁.setTop (mkF m 7 #[rv a1, rv a2, .unset] []))
    refine own_go (fun zt zk => (XS.aloadN X0.here hx rfl (hb hby own_d10_7) rfl rfl zk)) ?_
    show own_Go p e below s _ _ _ (s₁.setTop (mkF m 8 #[rv a1, rv a2, .unset] [(.ref a2)]))
    obtain ⟨T1, X1, e1, st1⟩ := instY X0 hx hZ hown (hw _ (List.mem_of_getElem? (i := 62) rfl)) e0 (Ins.self Ex2) (g := (mkF m 8 #[rv a1, rv a2, .unset] [(.ref a2)])) rfl rfl (hb hby own_d10_8)
    refine own_go st1 ?_
    show own_Go p e below s _ _ _ (T1.setTop (mkF m 11 #[rv a1, rv a2, .unset] [(.int (1 : Int32))]))
    refine own_go (fun zt zk => (XS.ifNo X1.here hx rfl (hb hby own_d10_11) rfl ((if0 _ _).trans (feq ((by decide) : ¬ ((1 : Int32) = (0 : Int32)))).1) (XS.aloadN X1.here hx rfl (hb hby own_d10_14) rfl rfl zk))) ?_
    show own_Go p e below s _ _ _ (T1.setTop (mkF m 15 #[rv a1, rv a2, .unset] [(.ref a2)]))
    obtain ⟨T2, X2, e2, st2⟩ := castY X1 hx hZ hown (hw _ (List.mem_of_getElem? (i := 62) rfl)) e1 (Ins.self Ex2) (g := (mkF m 15 #[rv a1, rv a2, .unset] [(.ref a2)])) rfl rfl (hb hby own_d10_15)
    refine own_go st2 ?_
    show own_Go p e below s _ _ _ (T2.setTop (mkF m 18 #[rv a1, rv a2, .unset] [(.ref a2)]))
    refine own_go (fun zt zk => (XS.astoreN X2.here hx rfl (hb hby own_d10_18) rfl rfl (l' := #[rv a1, rv a2, rv a2]) rfl zk)) ?_
    show own_Go p e below s _ _ _ (T2.setTop (mkF m 19 #[rv a1, rv a2, rv a2] []))
    obtain ⟨T3, X3, e3, st3⟩ := getS2 X2 hx hZ hown (host := "") (Or.inl (hw _ (List.mem_of_getElem? (i := 18) rfl))) Via.refl e2 (SC.ext O.2) (g := (mkF m 19 #[rv a1, rv a2, rv a2] [])) rfl (hb hby own_d10_19)
    refine own_go st3 ?_
    show own_Go p e below s _ _ _ (T3.setTop (mkF m 22 #[rv a1, rv a2, rv a2] [(.int cz)]))
    refine own_go (fun zt zk => (XS.ifNo X3.here hx rfl (hb hby own_d10_22) rfl ((if0 _ _).trans (feq (hz : ¬ (cz = (0 : Int32)))).1) (XS.aloadN X3.here hx rfl (hb hby own_d10_25) rfl rfl zk))) ?_
    show own_Go p e below s _ _ _ (T3.setTop (mkF m 26 #[rv a1, rv a2, rv a2] [(.ref a1)]))
    obtain ⟨T4, X4, e4, st4⟩ := getF X3 hx hZ hown (host := "") (Or.inl (hw _ (List.mem_of_getElem? (i := 30) rfl))) Via.refl e3 Fc1 (g := (mkF m 26 #[rv a1, rv a2, rv a2] [(.ref a1)])) rfl rfl (hb hby own_d10_26)
    refine own_go st4 ?_
    show own_Go p e below s _ _ _ (T4.setTop (mkF m 29 #[rv a1, rv a2, rv a2] [(.int (0 : Int32))]))
    refine own_go (fun zt zk => (XS.aloadN X4.here hx rfl (hb hby own_d10_29) rfl rfl zk)) ?_
    show own_Go p e below s _ _ _ (T4.setTop (mkF m 30 #[rv a1, rv a2, rv a2] [(.ref a2), (.int (0 : Int32))]))
    obtain ⟨T5, X5, e5, st5⟩ := getF X4 hx hZ hown (host := "") (Or.inl (hw _ (List.mem_of_getElem? (i := 30) rfl))) Via.refl e4 Fc2 (g := (mkF m 30 #[rv a1, rv a2, rv a2] [(.ref a2), (.int (0 : Int32))])) rfl rfl (hb hby own_d10_30)
    refine own_go st5 ?_
    show own_Go p e below s _ _ _ (T5.setTop (mkF m 33 #[rv a1, rv a2, rv a2] [(.int (0 : Int32)), (.int (0 : Int32))]))
    refine own_go (fun zt zk => (XS.icmpNo X5.here hx rfl (hb hby own_d10_33) rfl (teq (rfl : (0 : Int32) = (0 : Int32))).2 (XS.aloadN X5.here hx rfl (hb hby own_d10_36) rfl rfl zk))) ?_
    show own_Go p e below s _ _ _ (T5.setTop (mkF m 37 #[rv a1, rv a2, rv a2] [(.ref a1)]))
    obtain ⟨T6, X6, e6, st6⟩ := getF X5 hx hZ hown (host := "") (Or.inl (hw _ (List.mem_of_getElem? (i := 32) rfl))) Via.refl e5 Fv1 (g := (mkF m 37 #[rv a1, rv a2, rv a2] [(.ref a1)])) rfl rfl (hb hby own_d10_37)
    refine own_go st6 ?_
    show own_Go p e below s _ _ _ (T6.setTop (mkF m 40 #[rv a1, rv a2, rv a2] [(.ref t1)]))
    refine own_go (fun zt zk => (XS.aloadN X6.here hx rfl (hb hby own_d10_40) rfl rfl zk)) ?_
    show own_Go p e below s _ _ _ (T6.setTop (mkF m 41 #[rv a1, rv a2, rv a2] [(.ref a2), (.ref t1)]))
    obtain ⟨T7, X7, e7, st7⟩ := getF X6 hx hZ hown (host := "") (Or.inl (hw _ (List.mem_of_getElem? (i := 32) rfl))) Via.refl e6 Fv2 (g := (mkF m 41 #[rv a1, rv a2, rv a2] [(.ref a2), (.ref t1)])) rfl rfl (hb hby own_d10_41)
    refine own_go st7 ?_
    show own_Go p e below s _ _ _ (T7.setTop (mkF m 44 #[rv a1, rv a2, rv a2] [(.ref t2), (.ref t1)]))
    obtain ⟨_, _, ⟨T8, L8, k8, n8⟩, -, X8, ⟨Lc8, hQ8, l8, y8, z8⟩, st8⟩ := Jvm.LawKit.callS X7 hx (y := (⟨"java/lang/StringLatin1", "equals", "([B[B)Z"⟩ : MethodName)) hown (mvT hZ (hw _ (List.mem_of_getElem? (i := 63) rfl))) (mvT hZ (hw _ (List.mem_of_getElem? (i := 64) rfl))) (mvT hZ (hw _ (List.mem_of_getElem? (i := 65) rfl))) (mvT hZ (hw _ (List.mem_of_getElem? (i := 66) rfl))) (by decide) (backOf (W := 0) (own_rleq l Z a0 hw [] t1 t2 k1 k2 N1 N2 xs ys h0 n0 Z0 Va1 Va2 hl1 hl2) hZ (hw _ (List.mem_of_getElem? (i := 66) rfl)) (hw _ (List.mem_of_getElem? (i := 65) rfl)) (by decide) (by decide)) (g := (mkF m 44 #[rv a1, rv a2, rv a2] [(.ref t2), (.ref t1)])) rfl (by rw [hml]; rfl) (argsL := [(.ref t1), (.ref t2)]) (rest := []) (lenOf own_pd___B_B_Z rfl) rfl (by show 2 * 0 + _ ≤ _; exact Nat.le_of_eq rfl) (hb hby own_d10_44) (fun _ _ => ⟨rfl, e7, (by decide : 0 + 0 ≤ _), (by decide : 0 + 0 ≤ _)⟩)
    dsimp only [Pt.U, Pt.locs, Pt.cells, Pt.slots] at X8 l8 y8 z8 st8 hQ8
    subst l8 y8 z8
    obtain ⟨rfl, Nq8, e8⟩ := hQ8
    have N8 := Fr.app N0 Nq8
    refine own_go st8 ?_
    show own_Go p e below s _ _ _ (T8.setTop (mkF m 47 #[rv a1, rv a2, rv a2] [(.int (own_eqv xs ys))]))
    by_cases hxy : xs = ys
    · refine own_go (fun zt zk => (XS.ifNo X8.here hx rfl (hb hby own_d10_47) rfl ((if0 _ _).trans (feq ((by rw [show own_eqv xs ys = (1 : Int32) from if_pos hxy]; decide) : ¬ ((own_eqv xs ys) = (0 : Int32)))).1) (XS.iconst X8.here hx rfl (hb hby own_d10_50) (XS.goto X8.here hx rfl (pc0 := 51) (pc' := 55) rfl (hb hby own_d10_51) (by decide) (by decide) zk)))) ?_
      show own_Go p e below s _ _ _ (T8.setTop (mkF m 55 #[rv a1, rv a2, rv a2] [(.int (1 : Int32))]))
      exact own_fin X8 Bd.notSynchronized (fun h => by rw [Bd.returns] at h; cases h) (fun fs hr => retN X8 hx (t := .boolean) Bd.returns (by simp) (hb hby own_d10_55) hr) (by rw [e8]; exact ⟨congrArg (fun z => some (Value.int z)) (if_pos hxy).symm, N8, rfl⟩) (by decide) (by decide)
    · refine own_go (fun zt zk => (XS.ifYes X8.here hx rfl (pc0 := 47) (pc' := 54) rfl (hb hby own_d10_47) rfl ((if0 _ _).trans (teq ((if_neg hxy) : (own_eqv xs ys) = (0 : Int32))).1) (by decide) (by decide) (XS.iconst X8.here hx rfl (hb hby own_d10_54) zk))) ?_
      show own_Go p e below s _ _ _ (T8.setTop (mkF m 55 #[rv a1, rv a2, rv a2] [(.int (0 : Int32))]))
      exact own_fin X8 Bd.notSynchronized (fun h => by rw [Bd.returns] at h; cases h) (fun fs hr => retN X8 hx (t := .boolean) Bd.returns (by simp) (hb hby own_d10_55) hr) (by rw [e8]; exact ⟨congrArg (fun z => some (Value.int z)) (if_neg hxy).symm, N8, rfl⟩) (by decide) (by decide)
theorem own_d13_0 : decode method_2_code 0 = .ok (.lload_n 0, 1) := by decide +kernel
theorem own_d13_1 : decode method_2_code 1 = .ok (.bipush 8, 2) := by decide +kernel
theorem own_d13_3 : decode method_2_code 3 = .ok (.iload_n 2, 1) := by decide +kernel
theorem own_d13_4 : decode method_2_code 4 = .ok (.imul, 1) := by decide +kernel
theorem own_d13_5 : decode method_2_code 5 = .ok (.lushr, 1) := by decide +kernel
theorem own_d13_6 : decode method_2_code 6 = .ok (.ldc2_w 7, 3) := by decide +kernel
theorem own_d13_9 : decode method_2_code 9 = .ok (.land, 1) := by decide +kernel
theorem own_d13_10 : decode method_2_code 10 = .ok (.l2i, 1) := by decide +kernel
theorem own_d13_11 : decode method_2_code 11 = .ok (.i2c, 1) := by decide +kernel
theorem own_d13_12 : decode method_2_code 12 = .ok (.ireturn, 1) := by decide +kernel
theorem own_pn_com_example_riskscan_riskscan_model_ProfileOfCodePinLaw : plainName "com/example/riskscan/riskscan/model/ProfileOfCodePinLaw" = true := by first | (simp [plainName, overriddenIn]; done) | decide +kernel
theorem own_ef_own_rch (m : MethodId) (p1 : Int64) (p2 : Int32) : entryFrame m #[(.long p1), (.int p2)] 3 = mkF m 0 #[.val (.long p1), .second, iv p2] [] := by first | (simp [entryFrame, mkF, argsToLocals, Value.category]; done) | rfl
def own_Q_own_rch (Z : State) (p1 : Int64) (p2 : Int32) (h0 : Heap) (n0 : Nat) (v : Option Value) (h : Heap) (L : List Loc) : Prop := ∃ c, v = some (.int c) ∧ Fr n0 L ∧ h = h0 ∧ (¬ (c < (0 : Int32)) ∧ ¬ ((255 : Int32) < c))
set_option maxRecDepth 65536 in
set_option maxHeartbeats 40000000 in
theorem own_rch (l : Launch) (Z : State) (a0 : Array Value) (hw : ∀ d ∈ tables_1, d.before a0 Z = true) (ws : List Jvm.Cond) (p1 : Int64) (p2 : Int32) (h0 : Heap) (n0 : Nat) (Z0 : n0 ≤ h0.size)   :
    MetFree l (⟨"com/example/riskscan/riskscan/model/ProfileOfCodePinLaw", "ch", "(JI)C"⟩ : MethodName) (head1 (Jvm.Cond.code (⟨"com/example/riskscan/riskscan/model/ProfileOfCodePinLaw", "ch", "(JI)C"⟩ : MethodName) method_2_code 3 (some .char) :: ws) ({ frames := 0, cells := 0, slots := 0, locals := 0 } : Room)) (fun a U => a = #[(.long p1), (.int p2)] ∧ Z.Warmed39 U.vm ∧ U.heap = h0) (fun _ _ _ _ _ => True) (fun _ U o U' => ∃ v L, o = .returned v ∧ own_Q_own_rch Z p1 p2 h0 n0 v U'.heap L ∧ FrameEnd U o U' L ({ frames := 0, cells := 0, slots := 0, locals := 0 } : Room).cells ({ frames := 0, cells := 0, slots := 0, locals := 0 } : Room).slots) := by
  refine MetFree.of_bodySF (plainFor_of_name own_pn_com_example_riskscan_riskscan_model_ProfileOfCodePinLaw) hisR ?_
  intro p e s m args below meth c s₁ Bd hml0 hP hK
  obtain ⟨rfl, hZ, hh⟩ := hP
  have hx := Bd.exec
  have hby := Bd.bytes
  have hml : c.maxLocals = 3 := hml0
  have hown : s.vm.findClass "com/example/riskscan/riskscan/model/ProfileOfCodePinLaw" = some m.cls := findClass_of_methodNamed Bd.named
  have hnm := (name_of_methodNamed Bd.named Bd.method).1
  have X0 : Stand p l e ({ frames := 0, cells := 0, slots := 0, locals := 0 } : Room) s m #[(.long p1), (.int p2)] below meth c s₁ [] 0 0 := Stand.of_body Bd
  have e0 : s₁.heap = h0 := by rw [← hh, Bd.state]; rfl
  have N0 := Fr.nil n0
  show own_Go p e below s (own_Q_own_rch Z p1 p2 h0 n0) ({ frames := 0, cells := 0, slots := 0, locals := 0 } : Room).cells ({ frames := 0, cells := 0, slots := 0, locals := 0 } : Room).slots (s₁.setTop (entryFrame m #[(.long p1), (.int p2)] 3))
  refine own_go (fun zt zk => castTop (own_ef_own_rch m p1 p2) zk) ?_
  show own_Go p e below s _ _ _ (s₁.setTop (mkF m 0 #[.val (.long p1), .second, iv p2] []))
  refine own_go (fun zt zk => (XS.lloadN X0.here hx rfl (hb hby own_d13_0) rfl (XS.bipush X0.here hx rfl (hb hby own_d13_1) (XS.iloadN X0.here hx rfl (hb hby own_d13_3) rfl (XS.imul X0.here hx rfl (hb hby own_d13_4) rfl (XS.lushr X0.here hx rfl (hb hby own_d13_5) rfl (X0.ldc2J hx hown (mvT hZ (hw _ (List.mem_of_getElem? (i := 82) rfl))) (g := (mkF m 6 #[.val (.long p1), .second, iv p2] [(.long ((p1.toUInt64 >>> (((8 : Int32) * p2) &&& 0x3f).toInt64.toUInt64).toInt64))])) rfl (hb hby own_d13_6) (XS.land X0.here hx rfl (hb hby own_d13_9) rfl (XS.l2i X0.here hx rfl (hb hby own_d13_10) rfl (XS.i2c X0.here hx rfl (hb hby own_d13_11) rfl zk)))))))))) ?_
  show own_Go p e below s _ _ _ (s₁.setTop (mkF m 12 #[.val (.long p1), .second, iv p2] [(.int (((((p1.toUInt64 >>> (((8 : Int32) * p2) &&& 0x3f).toInt64.toUInt64).toInt64) &&& (255 : Int64)).toInt32).toUInt32.toUInt16.toUInt32.toInt32))]))
  exact own_fin X0 Bd.notSynchronized (fun h => by rw [Bd.returns] at h; cases h) (fun fs hr => retN X0 hx (t := .char) Bd.returns (by simp) (hb hby own_d13_12) hr) (by rw [e0]; exact ⟨_, rfl, N0, rfl, own_chr _⟩) (by decide) (by decide)
theorem own_d1_0 : decode method_3_code 0 = .ok (.iload_n 0, 1) := by decide +kernel
theorem own_d1_1 : decode method_3_code 1 = .ok (.ifCond .ne 185, 3) := by decide +kernel
theorem own_d1_4 : decode method_3_code 4 = .ok (.iload_n 1, 1) := by decide +kernel
theorem own_d1_5 : decode method_3_code 5 = .ok (.ifCond .ne 44, 3) := by decide +kernel
theorem own_d1_8 : decode method_3_code 8 = .ok (.bipush 7, 2) := by decide +kernel
theorem own_d1_10 : decode method_3_code 10 = .ok (.newarray .char, 2) := by decide +kernel
theorem own_d1_12 : decode method_3_code 12 = .ok (.dup, 1) := by decide +kernel
theorem own_d1_13 : decode method_3_code 13 = .ok (.iconst 0, 1) := by decide +kernel
theorem own_d1_14 : decode method_3_code 14 = .ok (.bipush 99, 2) := by decide +kernel
theorem own_d1_16 : decode method_3_code 16 = .ok (.castore, 1) := by decide +kernel
theorem own_d1_17 : decode method_3_code 17 = .ok (.dup, 1) := by decide +kernel
theorem own_d1_18 : decode method_3_code 18 = .ok (.iconst 1, 1) := by decide +kernel
theorem own_d1_19 : decode method_3_code 19 = .ok (.bipush 108, 2) := by decide +kernel
theorem own_d1_21 : decode method_3_code 21 = .ok (.castore, 1) := by decide +kernel
theorem own_d1_22 : decode method_3_code 22 = .ok (.dup, 1) := by decide +kernel
theorem own_d1_23 : decode method_3_code 23 = .ok (.iconst 2, 1) := by decide +kernel
theorem own_d1_24 : decode method_3_code 24 = .ok (.bipush 97, 2) := by decide +kernel
theorem own_d1_26 : decode method_3_code 26 = .ok (.castore, 1) := by decide +kernel
theorem own_d1_27 : decode method_3_code 27 = .ok (.dup, 1) := by decide +kernel
theorem own_d1_28 : decode method_3_code 28 = .ok (.iconst 3, 1) := by decide +kernel
theorem own_d1_29 : decode method_3_code 29 = .ok (.bipush 115, 2) := by decide +kernel
theorem own_d1_31 : decode method_3_code 31 = .ok (.castore, 1) := by decide +kernel
theorem own_d1_32 : decode method_3_code 32 = .ok (.dup, 1) := by decide +kernel
theorem own_d1_33 : decode method_3_code 33 = .ok (.iconst 4, 1) := by decide +kernel
theorem own_d1_34 : decode method_3_code 34 = .ok (.bipush 115, 2) := by decide +kernel
theorem own_d1_36 : decode method_3_code 36 = .ok (.castore, 1) := by decide +kernel
theorem own_d1_37 : decode method_3_code 37 = .ok (.dup, 1) := by decide +kernel
theorem own_d1_38 : decode method_3_code 38 = .ok (.iconst 5, 1) := by decide +kernel
theorem own_d1_39 : decode method_3_code 39 = .ok (.bipush 105, 2) := by decide +kernel
theorem own_d1_41 : decode method_3_code 41 = .ok (.castore, 1) := by decide +kernel
theorem own_d1_42 : decode method_3_code 42 = .ok (.dup, 1) := by decide +kernel
theorem own_d1_43 : decode method_3_code 43 = .ok (.bipush 6, 2) := by decide +kernel
theorem own_d1_45 : decode method_3_code 45 = .ok (.bipush 99, 2) := by decide +kernel
theorem own_d1_47 : decode method_3_code 47 = .ok (.castore, 1) := by decide +kernel
theorem own_d1_48 : decode method_3_code 48 = .ok (.areturn, 1) := by decide +kernel
theorem own_d1_49 : decode method_3_code 49 = .ok (.iload_n 1, 1) := by decide +kernel
theorem own_d1_50 : decode method_3_code 50 = .ok (.iconst 1, 1) := by decide +kernel
theorem own_d1_51 : decode method_3_code 51 = .ok (.if_icmp .ne 49, 3) := by decide +kernel
theorem own_d1_54 : decode method_3_code 54 = .ok (.bipush 8, 2) := by decide +kernel
theorem own_d1_56 : decode method_3_code 56 = .ok (.newarray .char, 2) := by decide +kernel
theorem own_d1_58 : decode method_3_code 58 = .ok (.dup, 1) := by decide +kernel
theorem own_d1_59 : decode method_3_code 59 = .ok (.iconst 0, 1) := by decide +kernel
theorem own_d1_60 : decode method_3_code 60 = .ok (.bipush 99, 2) := by decide +kernel
theorem own_d1_62 : decode method_3_code 62 = .ok (.castore, 1) := by decide +kernel
theorem own_d1_63 : decode method_3_code 63 = .ok (.dup, 1) := by decide +kernel
theorem own_d1_64 : decode method_3_code 64 = .ok (.iconst 1, 1) := by decide +kernel
theorem own_d1_65 : decode method_3_code 65 = .ok (.bipush 108, 2) := by decide +kernel
theorem own_d1_67 : decode method_3_code 67 = .ok (.castore, 1) := by decide +kernel
theorem own_d1_68 : decode method_3_code 68 = .ok (.dup, 1) := by decide +kernel
theorem own_d1_69 : decode method_3_code 69 = .ok (.iconst 2, 1) := by decide +kernel
theorem own_d1_70 : decode method_3_code 70 = .ok (.bipush 97, 2) := by decide +kernel
theorem own_d1_72 : decode method_3_code 72 = .ok (.castore, 1) := by decide +kernel
theorem own_d1_73 : decode method_3_code 73 = .ok (.dup, 1) := by decide +kernel
theorem own_d1_74 : decode method_3_code 74 = .ok (.iconst 3, 1) := by decide +kernel
theorem own_d1_75 : decode method_3_code 75 = .ok (.bipush 115, 2) := by decide +kernel
theorem own_d1_77 : decode method_3_code 77 = .ok (.castore, 1) := by decide +kernel
theorem own_d1_78 : decode method_3_code 78 = .ok (.dup, 1) := by decide +kernel
theorem own_d1_79 : decode method_3_code 79 = .ok (.iconst 4, 1) := by decide +kernel
theorem own_d1_80 : decode method_3_code 80 = .ok (.bipush 115, 2) := by decide +kernel
theorem own_d1_82 : decode method_3_code 82 = .ok (.castore, 1) := by decide +kernel
theorem own_d1_83 : decode method_3_code 83 = .ok (.dup, 1) := by decide +kernel
theorem own_d1_84 : decode method_3_code 84 = .ok (.iconst 5, 1) := by decide +kernel
theorem own_d1_85 : decode method_3_code 85 = .ok (.bipush 105, 2) := by decide +kernel
theorem own_d1_87 : decode method_3_code 87 = .ok (.castore, 1) := by decide +kernel
theorem own_d1_88 : decode method_3_code 88 = .ok (.dup, 1) := by decide +kernel
theorem own_d1_89 : decode method_3_code 89 = .ok (.bipush 6, 2) := by decide +kernel
theorem own_d1_91 : decode method_3_code 91 = .ok (.bipush 99, 2) := by decide +kernel
theorem own_d1_93 : decode method_3_code 93 = .ok (.castore, 1) := by decide +kernel
theorem own_d1_94 : decode method_3_code 94 = .ok (.dup, 1) := by decide +kernel
theorem own_d1_95 : decode method_3_code 95 = .ok (.bipush 7, 2) := by decide +kernel
theorem own_d1_97 : decode method_3_code 97 = .ok (.iload_n 2, 1) := by decide +kernel
theorem own_d1_98 : decode method_3_code 98 = .ok (.castore, 1) := by decide +kernel
theorem own_d1_99 : decode method_3_code 99 = .ok (.areturn, 1) := by decide +kernel
theorem own_d1_100 : decode method_3_code 100 = .ok (.iload_n 1, 1) := by decide +kernel
theorem own_d1_101 : decode method_3_code 101 = .ok (.iconst 2, 1) := by decide +kernel
theorem own_d1_102 : decode method_3_code 102 = .ok (.if_icmp .ne 38, 3) := by decide +kernel
theorem own_d1_105 : decode method_3_code 105 = .ok (.bipush 6, 2) := by decide +kernel
theorem own_d1_107 : decode method_3_code 107 = .ok (.newarray .char, 2) := by decide +kernel
theorem own_d1_109 : decode method_3_code 109 = .ok (.dup, 1) := by decide +kernel
theorem own_d1_110 : decode method_3_code 110 = .ok (.iconst 0, 1) := by decide +kernel
theorem own_d1_111 : decode method_3_code 111 = .ok (.bipush 99, 2) := by decide +kernel
theorem own_d1_113 : decode method_3_code 113 = .ok (.castore, 1) := by decide +kernel
theorem own_d1_114 : decode method_3_code 114 = .ok (.dup, 1) := by decide +kernel
theorem own_d1_115 : decode method_3_code 115 = .ok (.iconst 1, 1) := by decide +kernel
theorem own_d1_116 : decode method_3_code 116 = .ok (.bipush 108, 2) := by decide +kernel
theorem own_d1_118 : decode method_3_code 118 = .ok (.castore, 1) := by decide +kernel
theorem own_d1_119 : decode method_3_code 119 = .ok (.dup, 1) := by decide +kernel
theorem own_d1_120 : decode method_3_code 120 = .ok (.iconst 2, 1) := by decide +kernel
theorem own_d1_121 : decode method_3_code 121 = .ok (.bipush 97, 2) := by decide +kernel
theorem own_d1_123 : decode method_3_code 123 = .ok (.castore, 1) := by decide +kernel
theorem own_d1_124 : decode method_3_code 124 = .ok (.dup, 1) := by decide +kernel
theorem own_d1_125 : decode method_3_code 125 = .ok (.iconst 3, 1) := by decide +kernel
theorem own_d1_126 : decode method_3_code 126 = .ok (.bipush 115, 2) := by decide +kernel
theorem own_d1_128 : decode method_3_code 128 = .ok (.castore, 1) := by decide +kernel
theorem own_d1_129 : decode method_3_code 129 = .ok (.dup, 1) := by decide +kernel
theorem own_d1_130 : decode method_3_code 130 = .ok (.iconst 4, 1) := by decide +kernel
theorem own_d1_131 : decode method_3_code 131 = .ok (.bipush 115, 2) := by decide +kernel
theorem own_d1_133 : decode method_3_code 133 = .ok (.castore, 1) := by decide +kernel
theorem own_d1_134 : decode method_3_code 134 = .ok (.dup, 1) := by decide +kernel
theorem own_d1_135 : decode method_3_code 135 = .ok (.iconst 5, 1) := by decide +kernel
theorem own_d1_136 : decode method_3_code 136 = .ok (.bipush 105, 2) := by decide +kernel
theorem own_d1_138 : decode method_3_code 138 = .ok (.castore, 1) := by decide +kernel
theorem own_d1_139 : decode method_3_code 139 = .ok (.areturn, 1) := by decide +kernel
theorem own_d1_140 : decode method_3_code 140 = .ok (.bipush 8, 2) := by decide +kernel
theorem own_d1_142 : decode method_3_code 142 = .ok (.newarray .char, 2) := by decide +kernel
theorem own_d1_144 : decode method_3_code 144 = .ok (.dup, 1) := by decide +kernel
theorem own_d1_145 : decode method_3_code 145 = .ok (.iconst 0, 1) := by decide +kernel
theorem own_d1_146 : decode method_3_code 146 = .ok (.iload_n 2, 1) := by decide +kernel
theorem own_d1_147 : decode method_3_code 147 = .ok (.castore, 1) := by decide +kernel
theorem own_d1_148 : decode method_3_code 148 = .ok (.dup, 1) := by decide +kernel
theorem own_d1_149 : decode method_3_code 149 = .ok (.iconst 1, 1) := by decide +kernel
theorem own_d1_150 : decode method_3_code 150 = .ok (.bipush 99, 2) := by decide +kernel
theorem own_d1_152 : decode method_3_code 152 = .ok (.castore, 1) := by decide +kernel
theorem own_d1_153 : decode method_3_code 153 = .ok (.dup, 1) := by decide +kernel
theorem own_d1_154 : decode method_3_code 154 = .ok (.iconst 2, 1) := by decide +kernel
theorem own_d1_155 : decode method_3_code 155 = .ok (.bipush 108, 2) := by decide +kernel
theorem own_d1_157 : decode method_3_code 157 = .ok (.castore, 1) := by decide +kernel
theorem own_d1_158 : decode method_3_code 158 = .ok (.dup, 1) := by decide +kernel
theorem own_d1_159 : decode method_3_code 159 = .ok (.iconst 3, 1) := by decide +kernel
theorem own_d1_160 : decode method_3_code 160 = .ok (.bipush 97, 2) := by decide +kernel
theorem own_d1_162 : decode method_3_code 162 = .ok (.castore, 1) := by decide +kernel
theorem own_d1_163 : decode method_3_code 163 = .ok (.dup, 1) := by decide +kernel
theorem own_d1_164 : decode method_3_code 164 = .ok (.iconst 4, 1) := by decide +kernel
theorem own_d1_165 : decode method_3_code 165 = .ok (.bipush 115, 2) := by decide +kernel
theorem own_d1_167 : decode method_3_code 167 = .ok (.castore, 1) := by decide +kernel
theorem own_d1_168 : decode method_3_code 168 = .ok (.dup, 1) := by decide +kernel
theorem own_d1_169 : decode method_3_code 169 = .ok (.iconst 5, 1) := by decide +kernel
theorem own_d1_170 : decode method_3_code 170 = .ok (.bipush 115, 2) := by decide +kernel
theorem own_d1_172 : decode method_3_code 172 = .ok (.castore, 1) := by decide +kernel
theorem own_d1_173 : decode method_3_code 173 = .ok (.dup, 1) := by decide +kernel
theorem own_d1_174 : decode method_3_code 174 = .ok (.bipush 6, 2) := by decide +kernel
theorem own_d1_176 : decode method_3_code 176 = .ok (.bipush 105, 2) := by decide +kernel
theorem own_d1_178 : decode method_3_code 178 = .ok (.castore, 1) := by decide +kernel
theorem own_d1_179 : decode method_3_code 179 = .ok (.dup, 1) := by decide +kernel
theorem own_d1_180 : decode method_3_code 180 = .ok (.bipush 7, 2) := by decide +kernel
theorem own_d1_182 : decode method_3_code 182 = .ok (.bipush 99, 2) := by decide +kernel
theorem own_d1_184 : decode method_3_code 184 = .ok (.castore, 1) := by decide +kernel
theorem own_d1_185 : decode method_3_code 185 = .ok (.areturn, 1) := by decide +kernel
theorem own_d1_186 : decode method_3_code 186 = .ok (.iload_n 0, 1) := by decide +kernel
theorem own_d1_187 : decode method_3_code 187 = .ok (.iconst 1, 1) := by decide +kernel
theorem own_d1_188 : decode method_3_code 188 = .ok (.if_icmp .ne 161, 3) := by decide +kernel
theorem own_d1_191 : decode method_3_code 191 = .ok (.iload_n 1, 1) := by decide +kernel
theorem own_d1_192 : decode method_3_code 192 = .ok (.ifCond .ne 38, 3) := by decide +kernel
theorem own_d1_195 : decode method_3_code 195 = .ok (.bipush 6, 2) := by decide +kernel
theorem own_d1_197 : decode method_3_code 197 = .ok (.newarray .char, 2) := by decide +kernel
theorem own_d1_199 : decode method_3_code 199 = .ok (.dup, 1) := by decide +kernel
theorem own_d1_200 : decode method_3_code 200 = .ok (.iconst 0, 1) := by decide +kernel
theorem own_d1_201 : decode method_3_code 201 = .ok (.bipush 116, 2) := by decide +kernel
theorem own_d1_203 : decode method_3_code 203 = .ok (.castore, 1) := by decide +kernel
theorem own_d1_204 : decode method_3_code 204 = .ok (.dup, 1) := by decide +kernel
theorem own_d1_205 : decode method_3_code 205 = .ok (.iconst 1, 1) := by decide +kernel
theorem own_d1_206 : decode method_3_code 206 = .ok (.bipush 105, 2) := by decide +kernel
theorem own_d1_208 : decode method_3_code 208 = .ok (.castore, 1) := by decide +kernel
theorem own_d1_209 : decode method_3_code 209 = .ok (.dup, 1) := by decide +kernel
theorem own_d1_210 : decode method_3_code 210 = .ok (.iconst 2, 1) := by decide +kernel
theorem own_d1_211 : decode method_3_code 211 = .ok (.bipush 101, 2) := by decide +kernel
theorem own_d1_213 : decode method_3_code 213 = .ok (.castore, 1) := by decide +kernel
theorem own_d1_214 : decode method_3_code 214 = .ok (.dup, 1) := by decide +kernel
theorem own_d1_215 : decode method_3_code 215 = .ok (.iconst 3, 1) := by decide +kernel
theorem own_d1_216 : decode method_3_code 216 = .ok (.bipush 114, 2) := by decide +kernel
theorem own_d1_218 : decode method_3_code 218 = .ok (.castore, 1) := by decide +kernel
theorem own_d1_219 : decode method_3_code 219 = .ok (.dup, 1) := by decide +kernel
theorem own_d1_220 : decode method_3_code 220 = .ok (.iconst 4, 1) := by decide +kernel
theorem own_d1_221 : decode method_3_code 221 = .ok (.bipush 101, 2) := by decide +kernel
theorem own_d1_223 : decode method_3_code 223 = .ok (.castore, 1) := by decide +kernel
theorem own_d1_224 : decode method_3_code 224 = .ok (.dup, 1) := by decide +kernel
theorem own_d1_225 : decode method_3_code 225 = .ok (.iconst 5, 1) := by decide +kernel
theorem own_d1_226 : decode method_3_code 226 = .ok (.bipush 100, 2) := by decide +kernel
theorem own_d1_228 : decode method_3_code 228 = .ok (.castore, 1) := by decide +kernel
theorem own_d1_229 : decode method_3_code 229 = .ok (.areturn, 1) := by decide +kernel
theorem own_d1_230 : decode method_3_code 230 = .ok (.iload_n 1, 1) := by decide +kernel
theorem own_d1_231 : decode method_3_code 231 = .ok (.iconst 1, 1) := by decide +kernel
theorem own_d1_232 : decode method_3_code 232 = .ok (.if_icmp .ne 43, 3) := by decide +kernel
theorem own_d1_235 : decode method_3_code 235 = .ok (.bipush 7, 2) := by decide +kernel
theorem own_d1_237 : decode method_3_code 237 = .ok (.newarray .char, 2) := by decide +kernel
theorem own_d1_239 : decode method_3_code 239 = .ok (.dup, 1) := by decide +kernel
theorem own_d1_240 : decode method_3_code 240 = .ok (.iconst 0, 1) := by decide +kernel
theorem own_d1_241 : decode method_3_code 241 = .ok (.bipush 116, 2) := by decide +kernel
theorem own_d1_243 : decode method_3_code 243 = .ok (.castore, 1) := by decide +kernel
theorem own_d1_244 : decode method_3_code 244 = .ok (.dup, 1) := by decide +kernel
theorem own_d1_245 : decode method_3_code 245 = .ok (.iconst 1, 1) := by decide +kernel
theorem own_d1_246 : decode method_3_code 246 = .ok (.bipush 105, 2) := by decide +kernel
theorem own_d1_248 : decode method_3_code 248 = .ok (.castore, 1) := by decide +kernel
theorem own_d1_249 : decode method_3_code 249 = .ok (.dup, 1) := by decide +kernel
theorem own_d1_250 : decode method_3_code 250 = .ok (.iconst 2, 1) := by decide +kernel
theorem own_d1_251 : decode method_3_code 251 = .ok (.bipush 101, 2) := by decide +kernel
theorem own_d1_253 : decode method_3_code 253 = .ok (.castore, 1) := by decide +kernel
theorem own_d1_254 : decode method_3_code 254 = .ok (.dup, 1) := by decide +kernel
theorem own_d1_255 : decode method_3_code 255 = .ok (.iconst 3, 1) := by decide +kernel
theorem own_d1_256 : decode method_3_code 256 = .ok (.bipush 114, 2) := by decide +kernel
theorem own_d1_258 : decode method_3_code 258 = .ok (.castore, 1) := by decide +kernel
theorem own_d1_259 : decode method_3_code 259 = .ok (.dup, 1) := by decide +kernel
theorem own_d1_260 : decode method_3_code 260 = .ok (.iconst 4, 1) := by decide +kernel
theorem own_d1_261 : decode method_3_code 261 = .ok (.bipush 101, 2) := by decide +kernel
theorem own_d1_263 : decode method_3_code 263 = .ok (.castore, 1) := by decide +kernel
theorem own_d1_264 : decode method_3_code 264 = .ok (.dup, 1) := by decide +kernel
theorem own_d1_265 : decode method_3_code 265 = .ok (.iconst 5, 1) := by decide +kernel
theorem own_d1_266 : decode method_3_code 266 = .ok (.bipush 100, 2) := by decide +kernel
theorem own_d1_268 : decode method_3_code 268 = .ok (.castore, 1) := by decide +kernel
theorem own_d1_269 : decode method_3_code 269 = .ok (.dup, 1) := by decide +kernel
theorem own_d1_270 : decode method_3_code 270 = .ok (.bipush 6, 2) := by decide +kernel
theorem own_d1_272 : decode method_3_code 272 = .ok (.iload_n 2, 1) := by decide +kernel
theorem own_d1_273 : decode method_3_code 273 = .ok (.castore, 1) := by decide +kernel
theorem own_d1_274 : decode method_3_code 274 = .ok (.areturn, 1) := by decide +kernel
theorem own_d1_275 : decode method_3_code 275 = .ok (.iload_n 1, 1) := by decide +kernel
theorem own_d1_276 : decode method_3_code 276 = .ok (.iconst 2, 1) := by decide +kernel
theorem own_d1_277 : decode method_3_code 277 = .ok (.if_icmp .ne 32, 3) := by decide +kernel
theorem own_d1_280 : decode method_3_code 280 = .ok (.iconst 5, 1) := by decide +kernel
theorem own_d1_281 : decode method_3_code 281 = .ok (.newarray .char, 2) := by decide +kernel
theorem own_d1_283 : decode method_3_code 283 = .ok (.dup, 1) := by decide +kernel
theorem own_d1_284 : decode method_3_code 284 = .ok (.iconst 0, 1) := by decide +kernel
theorem own_d1_285 : decode method_3_code 285 = .ok (.bipush 116, 2) := by decide +kernel
theorem own_d1_287 : decode method_3_code 287 = .ok (.castore, 1) := by decide +kernel
theorem own_d1_288 : decode method_3_code 288 = .ok (.dup, 1) := by decide +kernel
theorem own_d1_289 : decode method_3_code 289 = .ok (.iconst 1, 1) := by decide +kernel
theorem own_d1_290 : decode method_3_code 290 = .ok (.bipush 105, 2) := by decide +kernel
theorem own_d1_292 : decode method_3_code 292 = .ok (.castore, 1) := by decide +kernel
theorem own_d1_293 : decode method_3_code 293 = .ok (.dup, 1) := by decide +kernel
theorem own_d1_294 : decode method_3_code 294 = .ok (.iconst 2, 1) := by decide +kernel
theorem own_d1_295 : decode method_3_code 295 = .ok (.bipush 101, 2) := by decide +kernel
theorem own_d1_297 : decode method_3_code 297 = .ok (.castore, 1) := by decide +kernel
theorem own_d1_298 : decode method_3_code 298 = .ok (.dup, 1) := by decide +kernel
theorem own_d1_299 : decode method_3_code 299 = .ok (.iconst 3, 1) := by decide +kernel
theorem own_d1_300 : decode method_3_code 300 = .ok (.bipush 114, 2) := by decide +kernel
theorem own_d1_302 : decode method_3_code 302 = .ok (.castore, 1) := by decide +kernel
theorem own_d1_303 : decode method_3_code 303 = .ok (.dup, 1) := by decide +kernel
theorem own_d1_304 : decode method_3_code 304 = .ok (.iconst 4, 1) := by decide +kernel
theorem own_d1_305 : decode method_3_code 305 = .ok (.bipush 101, 2) := by decide +kernel
theorem own_d1_307 : decode method_3_code 307 = .ok (.castore, 1) := by decide +kernel
theorem own_d1_308 : decode method_3_code 308 = .ok (.areturn, 1) := by decide +kernel
theorem own_d1_309 : decode method_3_code 309 = .ok (.bipush 7, 2) := by decide +kernel
theorem own_d1_311 : decode method_3_code 311 = .ok (.newarray .char, 2) := by decide +kernel
theorem own_d1_313 : decode method_3_code 313 = .ok (.dup, 1) := by decide +kernel
theorem own_d1_314 : decode method_3_code 314 = .ok (.iconst 0, 1) := by decide +kernel
theorem own_d1_315 : decode method_3_code 315 = .ok (.iload_n 2, 1) := by decide +kernel
theorem own_d1_316 : decode method_3_code 316 = .ok (.castore, 1) := by decide +kernel
theorem own_d1_317 : decode method_3_code 317 = .ok (.dup, 1) := by decide +kernel
theorem own_d1_318 : decode method_3_code 318 = .ok (.iconst 1, 1) := by decide +kernel
theorem own_d1_319 : decode method_3_code 319 = .ok (.bipush 116, 2) := by decide +kernel
theorem own_d1_321 : decode method_3_code 321 = .ok (.castore, 1) := by decide +kernel
theorem own_d1_322 : decode method_3_code 322 = .ok (.dup, 1) := by decide +kernel
theorem own_d1_323 : decode method_3_code 323 = .ok (.iconst 2, 1) := by decide +kernel
theorem own_d1_324 : decode method_3_code 324 = .ok (.bipush 105, 2) := by decide +kernel
theorem own_d1_326 : decode method_3_code 326 = .ok (.castore, 1) := by decide +kernel
theorem own_d1_327 : decode method_3_code 327 = .ok (.dup, 1) := by decide +kernel
theorem own_d1_328 : decode method_3_code 328 = .ok (.iconst 3, 1) := by decide +kernel
theorem own_d1_329 : decode method_3_code 329 = .ok (.bipush 101, 2) := by decide +kernel
theorem own_d1_331 : decode method_3_code 331 = .ok (.castore, 1) := by decide +kernel
theorem own_d1_332 : decode method_3_code 332 = .ok (.dup, 1) := by decide +kernel
theorem own_d1_333 : decode method_3_code 333 = .ok (.iconst 4, 1) := by decide +kernel
theorem own_d1_334 : decode method_3_code 334 = .ok (.bipush 114, 2) := by decide +kernel
theorem own_d1_336 : decode method_3_code 336 = .ok (.castore, 1) := by decide +kernel
theorem own_d1_337 : decode method_3_code 337 = .ok (.dup, 1) := by decide +kernel
theorem own_d1_338 : decode method_3_code 338 = .ok (.iconst 5, 1) := by decide +kernel
theorem own_d1_339 : decode method_3_code 339 = .ok (.bipush 101, 2) := by decide +kernel
theorem own_d1_341 : decode method_3_code 341 = .ok (.castore, 1) := by decide +kernel
theorem own_d1_342 : decode method_3_code 342 = .ok (.dup, 1) := by decide +kernel
theorem own_d1_343 : decode method_3_code 343 = .ok (.bipush 6, 2) := by decide +kernel
theorem own_d1_345 : decode method_3_code 345 = .ok (.bipush 100, 2) := by decide +kernel
theorem own_d1_347 : decode method_3_code 347 = .ok (.castore, 1) := by decide +kernel
theorem own_d1_348 : decode method_3_code 348 = .ok (.areturn, 1) := by decide +kernel
theorem own_d1_349 : decode method_3_code 349 = .ok (.iload_n 1, 1) := by decide +kernel
theorem own_d1_350 : decode method_3_code 350 = .ok (.ifCond .ne 7, 3) := by decide +kernel
theorem own_d1_353 : decode method_3_code 353 = .ok (.iconst 0, 1) := by decide +kernel
theorem own_d1_354 : decode method_3_code 354 = .ok (.newarray .char, 2) := by decide +kernel
theorem own_d1_356 : decode method_3_code 356 = .ok (.areturn, 1) := by decide +kernel
theorem own_d1_357 : decode method_3_code 357 = .ok (.iload_n 1, 1) := by decide +kernel
theorem own_d1_358 : decode method_3_code 358 = .ok (.iconst 1, 1) := by decide +kernel
theorem own_d1_359 : decode method_3_code 359 = .ok (.if_icmp .ne 11, 3) := by decide +kernel
theorem own_d1_362 : decode method_3_code 362 = .ok (.iconst 1, 1) := by decide +kernel
theorem own_d1_363 : decode method_3_code 363 = .ok (.newarray .char, 2) := by decide +kernel
theorem own_d1_365 : decode method_3_code 365 = .ok (.dup, 1) := by decide +kernel
theorem own_d1_366 : decode method_3_code 366 = .ok (.iconst 0, 1) := by decide +kernel
theorem own_d1_367 : decode method_3_code 367 = .ok (.iload_n 2, 1) := by decide +kernel
theorem own_d1_368 : decode method_3_code 368 = .ok (.castore, 1) := by decide +kernel
theorem own_d1_369 : decode method_3_code 369 = .ok (.areturn, 1) := by decide +kernel
theorem own_d1_370 : decode method_3_code 370 = .ok (.iload_n 1, 1) := by decide +kernel
theorem own_d1_371 : decode method_3_code 371 = .ok (.iconst 2, 1) := by decide +kernel
theorem own_d1_372 : decode method_3_code 372 = .ok (.if_icmp .ne 56, 3) := by decide +kernel
theorem own_d1_375 : decode method_3_code 375 = .ok (.bipush 6, 2) := by decide +kernel
theorem own_d1_377 : decode method_3_code 377 = .ok (.newarray .char, 2) := by decide +kernel
theorem own_d1_379 : decode method_3_code 379 = .ok (.dup, 1) := by decide +kernel
theorem own_d1_380 : decode method_3_code 380 = .ok (.iconst 0, 1) := by decide +kernel
theorem own_d1_381 : decode method_3_code 381 = .ok (.lload_n 3, 1) := by decide +kernel
theorem own_d1_382 : decode method_3_code 382 = .ok (.iconst 0, 1) := by decide +kernel
theorem own_d1_383 : decode method_3_code 383 = .ok (.invokestatic 9, 3) := by decide +kernel
theorem own_pd__JI_C : parseMethodDescriptor "(JI)C" = some ⟨[.long, .int], some .char⟩ := by decide +kernel
theorem own_d1_386 : decode method_3_code 386 = .ok (.castore, 1) := by decide +kernel
theorem own_d1_387 : decode method_3_code 387 = .ok (.dup, 1) := by decide +kernel
theorem own_d1_388 : decode method_3_code 388 = .ok (.iconst 1, 1) := by decide +kernel
theorem own_d1_389 : decode method_3_code 389 = .ok (.lload_n 3, 1) := by decide +kernel
theorem own_d1_390 : decode method_3_code 390 = .ok (.iconst 1, 1) := by decide +kernel
theorem own_d1_391 : decode method_3_code 391 = .ok (.invokestatic 9, 3) := by decide +kernel
theorem own_d1_394 : decode method_3_code 394 = .ok (.castore, 1) := by decide +kernel
theorem own_d1_395 : decode method_3_code 395 = .ok (.dup, 1) := by decide +kernel
theorem own_d1_396 : decode method_3_code 396 = .ok (.iconst 2, 1) := by decide +kernel
theorem own_d1_397 : decode method_3_code 397 = .ok (.lload_n 3, 1) := by decide +kernel
theorem own_d1_398 : decode method_3_code 398 = .ok (.iconst 2, 1) := by decide +kernel
theorem own_d1_399 : decode method_3_code 399 = .ok (.invokestatic 9, 3) := by decide +kernel
theorem own_d1_402 : decode method_3_code 402 = .ok (.castore, 1) := by decide +kernel
theorem own_d1_403 : decode method_3_code 403 = .ok (.dup, 1) := by decide +kernel
theorem own_d1_404 : decode method_3_code 404 = .ok (.iconst 3, 1) := by decide +kernel
theorem own_d1_405 : decode method_3_code 405 = .ok (.lload_n 3, 1) := by decide +kernel
theorem own_d1_406 : decode method_3_code 406 = .ok (.iconst 3, 1) := by decide +kernel
theorem own_d1_407 : decode method_3_code 407 = .ok (.invokestatic 9, 3) := by decide +kernel
theorem own_d1_410 : decode method_3_code 410 = .ok (.castore, 1) := by decide +kernel
theorem own_d1_411 : decode method_3_code 411 = .ok (.dup, 1) := by decide +kernel
theorem own_d1_412 : decode method_3_code 412 = .ok (.iconst 4, 1) := by decide +kernel
theorem own_d1_413 : decode method_3_code 413 = .ok (.lload_n 3, 1) := by decide +kernel
theorem own_d1_414 : decode method_3_code 414 = .ok (.iconst 4, 1) := by decide +kernel
theorem own_d1_415 : decode method_3_code 415 = .ok (.invokestatic 9, 3) := by decide +kernel
theorem own_d1_418 : decode method_3_code 418 = .ok (.castore, 1) := by decide +kernel
theorem own_d1_419 : decode method_3_code 419 = .ok (.dup, 1) := by decide +kernel
theorem own_d1_420 : decode method_3_code 420 = .ok (.iconst 5, 1) := by decide +kernel
theorem own_d1_421 : decode method_3_code 421 = .ok (.lload_n 3, 1) := by decide +kernel
theorem own_d1_422 : decode method_3_code 422 = .ok (.iconst 5, 1) := by decide +kernel
theorem own_d1_423 : decode method_3_code 423 = .ok (.invokestatic 9, 3) := by decide +kernel
theorem own_d1_426 : decode method_3_code 426 = .ok (.castore, 1) := by decide +kernel
theorem own_d1_427 : decode method_3_code 427 = .ok (.areturn, 1) := by decide +kernel
theorem own_d1_428 : decode method_3_code 428 = .ok (.bipush 7, 2) := by decide +kernel
theorem own_d1_430 : decode method_3_code 430 = .ok (.newarray .char, 2) := by decide +kernel
theorem own_d1_432 : decode method_3_code 432 = .ok (.dup, 1) := by decide +kernel
theorem own_d1_433 : decode method_3_code 433 = .ok (.iconst 0, 1) := by decide +kernel
theorem own_d1_434 : decode method_3_code 434 = .ok (.lload_n 3, 1) := by decide +kernel
theorem own_d1_435 : decode method_3_code 435 = .ok (.iconst 0, 1) := by decide +kernel
theorem own_d1_436 : decode method_3_code 436 = .ok (.invokestatic 9, 3) := by decide +kernel
theorem own_d1_439 : decode method_3_code 439 = .ok (.castore, 1) := by decide +kernel
theorem own_d1_440 : decode method_3_code 440 = .ok (.dup, 1) := by decide +kernel
theorem own_d1_441 : decode method_3_code 441 = .ok (.iconst 1, 1) := by decide +kernel
theorem own_d1_442 : decode method_3_code 442 = .ok (.lload_n 3, 1) := by decide +kernel
theorem own_d1_443 : decode method_3_code 443 = .ok (.iconst 1, 1) := by decide +kernel
theorem own_d1_444 : decode method_3_code 444 = .ok (.invokestatic 9, 3) := by decide +kernel
theorem own_d1_447 : decode method_3_code 447 = .ok (.castore, 1) := by decide +kernel
theorem own_d1_448 : decode method_3_code 448 = .ok (.dup, 1) := by decide +kernel
theorem own_d1_449 : decode method_3_code 449 = .ok (.iconst 2, 1) := by decide +kernel
theorem own_d1_450 : decode method_3_code 450 = .ok (.lload_n 3, 1) := by decide +kernel
theorem own_d1_451 : decode method_3_code 451 = .ok (.iconst 2, 1) := by decide +kernel
theorem own_d1_452 : decode method_3_code 452 = .ok (.invokestatic 9, 3) := by decide +kernel
theorem own_d1_455 : decode method_3_code 455 = .ok (.castore, 1) := by decide +kernel
theorem own_d1_456 : decode method_3_code 456 = .ok (.dup, 1) := by decide +kernel
theorem own_d1_457 : decode method_3_code 457 = .ok (.iconst 3, 1) := by decide +kernel
theorem own_d1_458 : decode method_3_code 458 = .ok (.lload_n 3, 1) := by decide +kernel
theorem own_d1_459 : decode method_3_code 459 = .ok (.iconst 3, 1) := by decide +kernel
theorem own_d1_460 : decode method_3_code 460 = .ok (.invokestatic 9, 3) := by decide +kernel
theorem own_d1_463 : decode method_3_code 463 = .ok (.castore, 1) := by decide +kernel
theorem own_d1_464 : decode method_3_code 464 = .ok (.dup, 1) := by decide +kernel
theorem own_d1_465 : decode method_3_code 465 = .ok (.iconst 4, 1) := by decide +kernel
theorem own_d1_466 : decode method_3_code 466 = .ok (.lload_n 3, 1) := by decide +kernel
theorem own_d1_467 : decode method_3_code 467 = .ok (.iconst 4, 1) := by decide +kernel
theorem own_d1_468 : decode method_3_code 468 = .ok (.invokestatic 9, 3) := by decide +kernel
theorem own_d1_471 : decode method_3_code 471 = .ok (.castore, 1) := by decide +kernel
theorem own_d1_472 : decode method_3_code 472 = .ok (.dup, 1) := by decide +kernel
theorem own_d1_473 : decode method_3_code 473 = .ok (.iconst 5, 1) := by decide +kernel
theorem own_d1_474 : decode method_3_code 474 = .ok (.lload_n 3, 1) := by decide +kernel
theorem own_d1_475 : decode method_3_code 475 = .ok (.iconst 5, 1) := by decide +kernel
theorem own_d1_476 : decode method_3_code 476 = .ok (.invokestatic 9, 3) := by decide +kernel
theorem own_d1_479 : decode method_3_code 479 = .ok (.castore, 1) := by decide +kernel
theorem own_d1_480 : decode method_3_code 480 = .ok (.dup, 1) := by decide +kernel
theorem own_d1_481 : decode method_3_code 481 = .ok (.bipush 6, 2) := by decide +kernel
theorem own_d1_483 : decode method_3_code 483 = .ok (.lload_n 3, 1) := by decide +kernel
theorem own_d1_484 : decode method_3_code 484 = .ok (.bipush 6, 2) := by decide +kernel
theorem own_d1_486 : decode method_3_code 486 = .ok (.invokestatic 9, 3) := by decide +kernel
theorem own_d1_489 : decode method_3_code 489 = .ok (.castore, 1) := by decide +kernel
theorem own_d1_490 : decode method_3_code 490 = .ok (.areturn, 1) := by decide +kernel
theorem own_ef_own_rmake (m : MethodId) (p1 : Int32) (p2 : Int32) (p3 : Int32) (p4 : Int64) : entryFrame m #[(.int p1), (.int p2), (.int p3), (.long p4)] 5 = mkF m 0 #[iv p1, iv p2, iv p3, .val (.long p4), .second] [] := by first | (simp [entryFrame, mkF, argsToLocals, Value.category]; done) | rfl
def own_Q_own_rmake (Z : State) (p1 : Int32) (p2 : Int32) (p3 : Int32) (p4 : Int64) (h0 : Heap) (n0 : Nat) (v : Option Value) (h : Heap) (L : List Loc) : Prop := ∃ b k, ∃ cs : List Int32, v = some (.ref b) ∧ Fr n0 L ∧ Keep h0 h [] ∧ h0.size ≤ b ∧ cs.length ≤ 8 ∧ Arv Z h b k .char (Int32.ofNat cs.length) (cs.map Value.int) (.int (0 : Int32)) ∧ ∀ c ∈ cs, ¬ (c < (0 : Int32)) ∧ ¬ ((255 : Int32) < c)
set_option maxRecDepth 65536 in
set_option maxHeartbeats 40000000 in
theorem own_rmake (l : Launch) (Z : State) (a0 : Array Value) (hw : ∀ d ∈ tables_1, d.before a0 Z = true) (ws : List Jvm.Cond) (p1 : Int32) (p2 : Int32) (p3 : Int32) (p4 : Int64) (h0 : Heap) (n0 : Nat) (Z0 : n0 ≤ h0.size)  (hr_p3 : ¬ (p3 < (0 : Int32)) ∧ ¬ ((255 : Int32) < p3)) :
    MetFree l (⟨"com/example/riskscan/riskscan/model/ProfileOfCodePinLaw", "make", "(IICJ)[C"⟩ : MethodName) (head1 (Jvm.Cond.code (⟨"com/example/riskscan/riskscan/model/ProfileOfCodePinLaw", "make", "(IICJ)[C"⟩ : MethodName) method_3_code 5 (some (.array .char)) :: ws) ({ frames := 1, cells := 1, slots := 8, locals := 17 } : Room)) (fun a U => a = #[(.int p1), (.int p2), (.int p3), (.long p4)] ∧ Z.Warmed39 U.vm ∧ U.heap = h0) (fun _ _ _ _ _ => True) (fun _ U o U' => ∃ v L, o = .returned v ∧ own_Q_own_rmake Z p1 p2 p3 p4 h0 n0 v U'.heap L ∧ FrameEnd U o U' L ({ frames := 1, cells := 1, slots := 8, locals := 17 } : Room).cells ({ frames := 1, cells := 1, slots := 8, locals := 17 } : Room).slots) := by
  refine MetFree.of_bodySF (plainFor_of_name own_pn_com_example_riskscan_riskscan_model_ProfileOfCodePinLaw) hisR ?_
  intro p e s m args below meth c s₁ Bd hml0 hP hK
  obtain ⟨rfl, hZ, hh⟩ := hP
  have hx := Bd.exec
  have hby := Bd.bytes
  have hml : c.maxLocals = 5 := hml0
  have hown : s.vm.findClass "com/example/riskscan/riskscan/model/ProfileOfCodePinLaw" = some m.cls := findClass_of_methodNamed Bd.named
  have hnm := (name_of_methodNamed Bd.named Bd.method).1
  have X0 : Stand p l e ({ frames := 1, cells := 1, slots := 8, locals := 17 } : Room) s m #[(.int p1), (.int p2), (.int p3), (.long p4)] below meth c s₁ [] 0 0 := Stand.of_body Bd
  have e0 : s₁.heap = h0 := by rw [← hh, Bd.state]; rfl
  have N0 := Fr.nil n0
  have Kp : Keep h0 h0 [] := Keep.refl h0 _
  show own_Go p e below s (own_Q_own_rmake Z p1 p2 p3 p4 h0 n0) ({ frames := 1, cells := 1, slots := 8, locals := 17 } : Room).cells ({ frames := 1, cells := 1, slots := 8, locals := 17 } : Room).slots (s₁.setTop (entryFrame m #[(.int p1), (.int p2), (.int p3), (.long p4)] 5))
  refine own_go (fun zt zk => castTop (own_ef_own_rmake m p1 p2 p3 p4) zk) ?_
  show own_Go p e below s _ _ _ (s₁.setTop (mkF m 0 #[iv p1, iv p2, iv p3, .val (.long p4), .second] []))
  refine own_go (fun zt zk => (XS.iloadN X0.here hx rfl (hb hby own_d1_0) rfl zk)) ?_
  show own_Go p e below s _ _ _ (s₁.setTop (mkF m 1 #[iv p1, iv p2, iv p3, .val (.long p4), .second] [(.int p1)]))
  by_cases hb1 : p1 = (0 : Int32)
  · refine own_go (fun zt zk => (XS.ifNo X0.here hx rfl (hb hby own_d1_1) rfl ((if0 _ _).trans (teq (hb1 : p1 = (0 : Int32))).2) (XS.iloadN X0.here hx rfl (hb hby own_d1_4) rfl zk))) ?_
    show own_Go p e below s _ _ _ (s₁.setTop (mkF m 5 #[iv p1, iv p2, iv p3, .val (.long p4), .second] [(.int p2)]))
    by_cases hb5 : p2 = (0 : Int32)
    · refine own_go (fun zt zk => (XS.ifNo X0.here hx rfl (hb hby own_d1_5) rfl ((if0 _ _).trans (teq (hb5 : p2 = (0 : Int32))).2) (XS.bipush X0.here hx rfl (hb hby own_d1_8) zk))) ?_
      show own_Go p e below s _ _ _ (s₁.setTop (mkF m 10 #[iv p1, iv p2, iv p3, .val (.long p4), .second] [(.int (7 : Int32))]))
      obtain ⟨T1, h1, k1, X1, e1, E1, A1, Ea1, st1⟩ := newPE X0 hx hZ (hw _ (List.mem_of_getElem? (i := 4) rfl)) e0 (g := (mkF m 10 #[iv p1, iv p2, iv p3, .val (.long p4), .second] [(.int (7 : Int32))])) rfl (hb hby own_d1_10) rfl (by decide) (cap := 7) (by decide) (by decide) (by decide) (by decide) (ad := "[C") (by decide)
      obtain ⟨b1, g1⟩ : ∃ z, z = h0.size := ⟨_, rfl⟩
      rw [← g1] at A1 Ea1 st1
      refine own_go st1 ?_
      have sz_b1 : h0.size ≤ b1 := Nat.le_trans Kp.1 (Nat.le_of_eq g1.symm)
      have g_b1 : n0 ≤ b1 := Nat.le_trans Z0 sz_b1
      replace Kp := Kp.ext E1
      have V_b1 : Arv Z h1 b1 k1 .char (7 : Int32) [(.int (0 : Int32)), (.int (0 : Int32)), (.int (0 : Int32)), (.int (0 : Int32)), (.int (0 : Int32)), (.int (0 : Int32)), (.int (0 : Int32))] (.int (0 : Int32)) := (Arv.new A1 (by decide)).pad (pad_rep [] (.int (0 : Int32)) 7)
      have Ea_b1 := Ea1
      show own_Go p e below s _ _ _ (T1.setTop (mkF m 12 #[iv p1, iv p2, iv p3, .val (.long p4), .second] [(.ref b1)]))
      refine own_go (fun zt zk => (XS.dup X1.here hx rfl (hb hby own_d1_12) rfl rfl (XS.iconst X1.here hx rfl (hb hby own_d1_13) (XS.bipush X1.here hx rfl (hb hby own_d1_14) zk)))) ?_
      show own_Go p e below s _ _ _ (T1.setTop (mkF m 16 #[iv p1, iv p2, iv p3, .val (.long p4), .second] [(.int (99 : Int32)), (.int (0 : Int32)), (.ref b1), (.ref b1)]))
      obtain ⟨cl2, Ar2, q2, Sz2, Nz2, Ha2, Ga2⟩ := id V_b1
      have hin2 : ¬ ((0 : Int32) < 0 ∨ cl2.slots.size ≤ ((0 : Int32)).toNatClampNeg) := inb_of Sz2 ⟨by decide, by decide⟩
      obtain ⟨T3, h3, X3, e3, W3, st3⟩ := stC X1 hx hZ e1 Ar2 (j := (0 : Int32)) hin2 (g := (mkF m 16 #[iv p1, iv p2, iv p3, .val (.long p4), .second] [(.int (99 : Int32)), (.int (0 : Int32)), (.ref b1), (.ref b1)])) rfl rfl (hb hby own_d1_16)
      refine own_go st3 ?_
      replace W3 : Wr h1 h3 b1 _ (.int (99 : Int32)) := W3
      have V3 := Arv.set Ar2 q2 Sz2 Nz2 Ha2 Ga2 (by decide) W3 0 rfl (Nat.le_of_ble_eq_true rfl)
      have N3 := Fr.snoc X3 N0 g_b1
      replace Kp := Kp.wr W3 (Or.inr sz_b1)
      replace Ea_b1 := Ea_b1.wr W3
      replace V_b1 : Arv Z h3 b1 k1 .char (7 : Int32) [(.int (99 : Int32)), (.int (0 : Int32)), (.int (0 : Int32)), (.int (0 : Int32)), (.int (0 : Int32)), (.int (0 : Int32)), (.int (0 : Int32))] (.int (0 : Int32)) := V3
      show own_Go p e below s _ _ _ (T3.setTop (mkF m 17 #[iv p1, iv p2, iv p3, .val (.long p4), .second] [(.ref b1)]))
      refine own_go (fun zt zk => (XS.dup X3.here hx rfl (hb hby own_d1_17) rfl rfl (XS.iconst X3.here hx rfl (hb hby own_d1_18) (XS.bipush X3.here hx rfl (hb hby own_d1_19) zk)))) ?_
      show own_Go p e below s _ _ _ (T3.setTop (mkF m 21 #[iv p1, iv p2, iv p3, .val (.long p4), .second] [(.int (108 : Int32)), (.int (1 : Int32)), (.ref b1), (.ref b1)]))
      obtain ⟨cl4, Ar4, q4, Sz4, Nz4, Ha4, Ga4⟩ := id V_b1
      have hin4 : ¬ ((1 : Int32) < 0 ∨ cl4.slots.size ≤ ((1 : Int32)).toNatClampNeg) := inb_of Sz4 ⟨by decide, by decide⟩
      obtain ⟨T5, h5, X5, e5, W5, st5⟩ := stC X3 hx hZ e3 Ar4 (j := (1 : Int32)) hin4 (g := (mkF m 21 #[iv p1, iv p2, iv p3, .val (.long p4), .second] [(.int (108 : Int32)), (.int (1 : Int32)), (.ref b1), (.ref b1)])) rfl rfl (hb hby own_d1_21)
      refine own_go st5 ?_
      replace W5 : Wr h3 h5 b1 _ (.int (108 : Int32)) := W5
      have V5 := Arv.set Ar4 q4 Sz4 Nz4 Ha4 Ga4 (by decide) W5 1 rfl (Nat.le_of_ble_eq_true rfl)
      have N5 := Fr.snoc X5 N3 g_b1
      replace Kp := Kp.wr W5 (Or.inr sz_b1)
      replace Ea_b1 := Ea_b1.wr W5
      replace V_b1 : Arv Z h5 b1 k1 .char (7 : Int32) [(.int (99 : Int32)), (.int (108 : Int32)), (.int (0 : Int32)), (.int (0 : Int32)), (.int (0 : Int32)), (.int (0 : Int32)), (.int (0 : Int32))] (.int (0 : Int32)) := V5
      show own_Go p e below s _ _ _ (T5.setTop (mkF m 22 #[iv p1, iv p2, iv p3, .val (.long p4), .second] [(.ref b1)]))
      refine own_go (fun zt zk => (XS.dup X5.here hx rfl (hb hby own_d1_22) rfl rfl (XS.iconst X5.here hx rfl (hb hby own_d1_23) (XS.bipush X5.here hx rfl (hb hby own_d1_24) zk)))) ?_
      show own_Go p e below s _ _ _ (T5.setTop (mkF m 26 #[iv p1, iv p2, iv p3, .val (.long p4), .second] [(.int (97 : Int32)), (.int (2 : Int32)), (.ref b1), (.ref b1)]))
      obtain ⟨cl6, Ar6, q6, Sz6, Nz6, Ha6, Ga6⟩ := id V_b1
      have hin6 : ¬ ((2 : Int32) < 0 ∨ cl6.slots.size ≤ ((2 : Int32)).toNatClampNeg) := inb_of Sz6 ⟨by decide, by decide⟩
      obtain ⟨T7, h7, X7, e7, W7, st7⟩ := stC X5 hx hZ e5 Ar6 (j := (2 : Int32)) hin6 (g := (mkF m 26 #[iv p1, iv p2, iv p3, .val (.long p4), .second] [(.int (97 : Int32)), (.int (2 : Int32)), (.ref b1), (.ref b1)])) rfl rfl (hb hby own_d1_26)
      refine own_go st7 ?_
      replace W7 : Wr h5 h7 b1 _ (.int (97 : Int32)) := W7
      have V7 := Arv.set Ar6 q6 Sz6 Nz6 Ha6 Ga6 (by decide) W7 2 rfl (Nat.le_of_ble_eq_true rfl)
      have N7 := Fr.snoc X7 N5 g_b1
      replace Kp := Kp.wr W7 (Or.inr sz_b1)
      replace Ea_b1 := Ea_b1.wr W7
      replace V_b1 : Arv Z h7 b1 k1 .char (7 : Int32) [(.int (99 : Int32)), (.int (108 : Int32)), (.int (97 : Int32)), (.int (0 : Int32)), (.int (0 : Int32)), (.int (0 : Int32)), (.int (0 : Int32))] (.int (0 : Int32)) := V7
      show own_Go p e below s _ _ _ (T7.setTop (mkF m 27 #[iv p1, iv p2, iv p3, .val (.long p4), .second] [(.ref b1)]))
      refine own_go (fun zt zk => (XS.dup X7.here hx rfl (hb hby own_d1_27) rfl rfl (XS.iconst X7.here hx rfl (hb hby own_d1_28) (XS.bipush X7.here hx rfl (hb hby own_d1_29) zk)))) ?_
      show own_Go p e below s _ _ _ (T7.setTop (mkF m 31 #[iv p1, iv p2, iv p3, .val (.long p4), .second] [(.int (115 : Int32)), (.int (3 : Int32)), (.ref b1), (.ref b1)]))
      obtain ⟨cl8, Ar8, q8, Sz8, Nz8, Ha8, Ga8⟩ := id V_b1
      have hin8 : ¬ ((3 : Int32) < 0 ∨ cl8.slots.size ≤ ((3 : Int32)).toNatClampNeg) := inb_of Sz8 ⟨by decide, by decide⟩
      obtain ⟨T9, h9, X9, e9, W9, st9⟩ := stC X7 hx hZ e7 Ar8 (j := (3 : Int32)) hin8 (g := (mkF m 31 #[iv p1, iv p2, iv p3, .val (.long p4), .second] [(.int (115 : Int32)), (.int (3 : Int32)), (.ref b1), (.ref b1)])) rfl rfl (hb hby own_d1_31)
      refine own_go st9 ?_
      replace W9 : Wr h7 h9 b1 _ (.int (115 : Int32)) := W9
      have V9 := Arv.set Ar8 q8 Sz8 Nz8 Ha8 Ga8 (by decide) W9 3 rfl (Nat.le_of_ble_eq_true rfl)
      have N9 := Fr.snoc X9 N7 g_b1
      replace Kp := Kp.wr W9 (Or.inr sz_b1)
      replace Ea_b1 := Ea_b1.wr W9
      replace V_b1 : Arv Z h9 b1 k1 .char (7 : Int32) [(.int (99 : Int32)), (.int (108 : Int32)), (.int (97 : Int32)), (.int (115 : Int32)), (.int (0 : Int32)), (.int (0 : Int32)), (.int (0 : Int32))] (.int (0 : Int32)) := V9
      show own_Go p e below s _ _ _ (T9.setTop (mkF m 32 #[iv p1, iv p2, iv p3, .val (.long p4), .second] [(.ref b1)]))
      refine own_go (fun zt zk => (XS.dup X9.here hx rfl (hb hby own_d1_32) rfl rfl (XS.iconst X9.here hx rfl (hb hby own_d1_33) (XS.bipush X9.here hx rfl (hb hby own_d1_34) zk)))) ?_
      show own_Go p e below s _ _ _ (T9.setTop (mkF m 36 #[iv p1, iv p2, iv p3, .val (.long p4), .second] [(.int (115 : Int32)), (.int (4 : Int32)), (.ref b1), (.ref b1)]))
      obtain ⟨cl10, Ar10, q10, Sz10, Nz10, Ha10, Ga10⟩ := id V_b1
      have hin10 : ¬ ((4 : Int32) < 0 ∨ cl10.slots.size ≤ ((4 : Int32)).toNatClampNeg) := inb_of Sz10 ⟨by decide, by decide⟩
      obtain ⟨T11, h11, X11, e11, W11, st11⟩ := stC X9 hx hZ e9 Ar10 (j := (4 : Int32)) hin10 (g := (mkF m 36 #[iv p1, iv p2, iv p3, .val (.long p4), .second] [(.int (115 : Int32)), (.int (4 : Int32)), (.ref b1), (.ref b1)])) rfl rfl (hb hby own_d1_36)
      refine own_go st11 ?_
      replace W11 : Wr h9 h11 b1 _ (.int (115 : Int32)) := W11
      have V11 := Arv.set Ar10 q10 Sz10 Nz10 Ha10 Ga10 (by decide) W11 4 rfl (Nat.le_of_ble_eq_true rfl)
      have N11 := Fr.snoc X11 N9 g_b1
      replace Kp := Kp.wr W11 (Or.inr sz_b1)
      replace Ea_b1 := Ea_b1.wr W11
      replace V_b1 : Arv Z h11 b1 k1 .char (7 : Int32) [(.int (99 : Int32)), (.int (108 : Int32)), (.int (97 : Int32)), (.int (115 : Int32)), (.int (115 : Int32)), (.int (0 : Int32)), (.int (0 : Int32))] (.int (0 : Int32)) := V11
      show own_Go p e below s _ _ _ (T11.setTop (mkF m 37 #[iv p1, iv p2, iv p3, .val (.long p4), .second] [(.ref b1)]))
      refine own_go (fun zt zk => (XS.dup X11.here hx rfl (hb hby own_d1_37) rfl rfl (XS.iconst X11.here hx rfl (hb hby own_d1_38) (XS.bipush X11.here hx rfl (hb hby own_d1_39) zk)))) ?_
      show own_Go p e below s _ _ _ (T11.setTop (mkF m 41 #[iv p1, iv p2, iv p3, .val (.long p4), .second] [(.int (105 : Int32)), (.int (5 : Int32)), (.ref b1), (.ref b1)]))
      obtain ⟨cl12, Ar12, q12, Sz12, Nz12, Ha12, Ga12⟩ := id V_b1
      have hin12 : ¬ ((5 : Int32) < 0 ∨ cl12.slots.size ≤ ((5 : Int32)).toNatClampNeg) := inb_of Sz12 ⟨by decide, by decide⟩
      obtain ⟨T13, h13, X13, e13, W13, st13⟩ := stC X11 hx hZ e11 Ar12 (j := (5 : Int32)) hin12 (g := (mkF m 41 #[iv p1, iv p2, iv p3, .val (.long p4), .second] [(.int (105 : Int32)), (.int (5 : Int32)), (.ref b1), (.ref b1)])) rfl rfl (hb hby own_d1_41)
      refine own_go st13 ?_
      replace W13 : Wr h11 h13 b1 _ (.int (105 : Int32)) := W13
      have V13 := Arv.set Ar12 q12 Sz12 Nz12 Ha12 Ga12 (by decide) W13 5 rfl (Nat.le_of_ble_eq_true rfl)
      have N13 := Fr.snoc X13 N11 g_b1
      replace Kp := Kp.wr W13 (Or.inr sz_b1)
      replace Ea_b1 := Ea_b1.wr W13
      replace V_b1 : Arv Z h13 b1 k1 .char (7 : Int32) [(.int (99 : Int32)), (.int (108 : Int32)), (.int (97 : Int32)), (.int (115 : Int32)), (.int (115 : Int32)), (.int (105 : Int32)), (.int (0 : Int32))] (.int (0 : Int32)) := V13
      show own_Go p e below s _ _ _ (T13.setTop (mkF m 42 #[iv p1, iv p2, iv p3, .val (.long p4), .second] [(.ref b1)]))
      refine own_go (fun zt zk => (XS.dup X13.here hx rfl (hb hby own_d1_42) rfl rfl (XS.bipush X13.here hx rfl (hb hby own_d1_43) (XS.bipush X13.here hx rfl (hb hby own_d1_45) zk)))) ?_
      show own_Go p e below s _ _ _ (T13.setTop (mkF m 47 #[iv p1, iv p2, iv p3, .val (.long p4), .second] [(.int (99 : Int32)), (.int (6 : Int32)), (.ref b1), (.ref b1)]))
      obtain ⟨cl14, Ar14, q14, Sz14, Nz14, Ha14, Ga14⟩ := id V_b1
      have hin14 : ¬ ((6 : Int32) < 0 ∨ cl14.slots.size ≤ ((6 : Int32)).toNatClampNeg) := inb_of Sz14 ⟨by decide, by decide⟩
      obtain ⟨T15, h15, X15, e15, W15, st15⟩ := stC X13 hx hZ e13 Ar14 (j := (6 : Int32)) hin14 (g := (mkF m 47 #[iv p1, iv p2, iv p3, .val (.long p4), .second] [(.int (99 : Int32)), (.int (6 : Int32)), (.ref b1), (.ref b1)])) rfl rfl (hb hby own_d1_47)
      refine own_go st15 ?_
      replace W15 : Wr h13 h15 b1 _ (.int (99 : Int32)) := W15
      have V15 := Arv.set Ar14 q14 Sz14 Nz14 Ha14 Ga14 (by decide) W15 6 rfl (Nat.le_of_ble_eq_true rfl)
      have N15 := Fr.snoc X15 N13 g_b1
      replace Kp := Kp.wr W15 (Or.inr sz_b1)
      replace Ea_b1 := Ea_b1.wr W15
      replace V_b1 : Arv Z h15 b1 k1 .char (7 : Int32) [(.int (99 : Int32)), (.int (108 : Int32)), (.int (97 : Int32)), (.int (115 : Int32)), (.int (115 : Int32)), (.int (105 : Int32)), (.int (99 : Int32))] (.int (0 : Int32)) := V15
      show own_Go p e below s _ _ _ (T15.setTop (mkF m 48 #[iv p1, iv p2, iv p3, .val (.long p4), .second] [(.ref b1)]))
      exact own_fin X15 Bd.notSynchronized (fun h => by rw [Bd.returns] at h; cases h) (fun fs hr => retOut X15 hx (t := (.array .char)) (w := (.ref b1)) Bd.returns rfl (Or.inr (Or.inr (Or.inr (Or.inr ⟨rfl, rfl, rfl⟩)))) (hb hby own_d1_48) hr) (by rw [e15]; exact ⟨_, _, [(99 : Int32), (108 : Int32), (97 : Int32), (115 : Int32), (115 : Int32), (105 : Int32), (99 : Int32)], rfl, N15, Kp, sz_b1, Nat.le_of_ble_eq_true rfl, V_b1, (own_ac (by decide) (own_ac (by decide) (own_ac (by decide) (own_ac (by decide) (own_ac (by decide) (own_ac (by decide) (own_ac (by decide) own_an)))))))⟩) (by decide) (by decide)
    · refine own_go (fun zt zk => (XS.ifYes X0.here hx rfl (pc0 := 5) (pc' := 49) rfl (hb hby own_d1_5) rfl ((if0 _ _).trans (feq (hb5 : ¬ (p2 = (0 : Int32)))).2) (by decide) (by decide) (XS.iloadN X0.here hx rfl (hb hby own_d1_49) rfl (XS.iconst X0.here hx rfl (hb hby own_d1_50) zk)))) ?_
      show own_Go p e below s _ _ _ (s₁.setTop (mkF m 51 #[iv p1, iv p2, iv p3, .val (.long p4), .second] [(.int (1 : Int32)), (.int p2)]))
      by_cases hb51 : p2 = (1 : Int32)
      · refine own_go (fun zt zk => (XS.icmpNo X0.here hx rfl (hb hby own_d1_51) rfl (teq (hb51 : p2 = (1 : Int32))).2 (XS.bipush X0.here hx rfl (hb hby own_d1_54) zk))) ?_
        show own_Go p e below s _ _ _ (s₁.setTop (mkF m 56 #[iv p1, iv p2, iv p3, .val (.long p4), .second] [(.int (8 : Int32))]))
        obtain ⟨T16, h16, k16, X16, e16, E16, A16, Ea16, st16⟩ := newPE X0 hx hZ (hw _ (List.mem_of_getElem? (i := 4) rfl)) e0 (g := (mkF m 56 #[iv p1, iv p2, iv p3, .val (.long p4), .second] [(.int (8 : Int32))])) rfl (hb hby own_d1_56) rfl (by decide) (cap := 8) (by decide) (by decide) (by decide) (by decide) (ad := "[C") (by decide)
        obtain ⟨b16, g16⟩ : ∃ z, z = h0.size := ⟨_, rfl⟩
        rw [← g16] at A16 Ea16 st16
        refine own_go st16 ?_
        have sz_b16 : h0.size ≤ b16 := Nat.le_trans Kp.1 (Nat.le_of_eq g16.symm)
        have g_b16 : n0 ≤ b16 := Nat.le_trans Z0 sz_b16
        replace Kp := Kp.ext E16
        have V_b16 : Arv Z h16 b16 k16 .char (8 : Int32) [(.int (0 : Int32)), (.int (0 : Int32)), (.int (0 : Int32)), (.int (0 : Int32)), (.int (0 : Int32)), (.int (0 : Int32)), (.int (0 : Int32)), (.int (0 : Int32))] (.int (0 : Int32)) := (Arv.new A16 (by decide)).pad (pad_rep [] (.int (0 : Int32)) 8)
        have Ea_b16 := Ea16
        show own_Go p e below s _ _ _ (T16.setTop (mkF m 58 #[iv p1, iv p2, iv p3, .val (.long p4), .second] [(.ref b16)]))
        refine own_go (fun zt zk => (XS.dup X16.here hx rfl (hb hby own_d1_58) rfl rfl (XS.iconst X16.here hx rfl (hb hby own_d1_59) (XS.bipush X16.here hx rfl (hb hby own_d1_60) zk)))) ?_
        show own_Go p e below s _ _ _ (T16.setTop (mkF m 62 #[iv p1, iv p2, iv p3, .val (.long p4), .second] [(.int (99 : Int32)), (.int (0 : Int32)), (.ref b16), (.ref b16)]))
        obtain ⟨cl17, Ar17, q17, Sz17, Nz17, Ha17, Ga17⟩ := id V_b16
        have hin17 : ¬ ((0 : Int32) < 0 ∨ cl17.slots.size ≤ ((0 : Int32)).toNatClampNeg) := inb_of Sz17 ⟨by decide, by decide⟩
        obtain ⟨T18, h18, X18, e18, W18, st18⟩ := stC X16 hx hZ e16 Ar17 (j := (0 : Int32)) hin17 (g := (mkF m 62 #[iv p1, iv p2, iv p3, .val (.long p4), .second] [(.int (99 : Int32)), (.int (0 : Int32)), (.ref b16), (.ref b16)])) rfl rfl (hb hby own_d1_62)
        refine own_go st18 ?_
        replace W18 : Wr h16 h18 b16 _ (.int (99 : Int32)) := W18
        have V18 := Arv.set Ar17 q17 Sz17 Nz17 Ha17 Ga17 (by decide) W18 0 rfl (Nat.le_of_ble_eq_true rfl)
        have N18 := Fr.snoc X18 N0 g_b16
        replace Kp := Kp.wr W18 (Or.inr sz_b16)
        replace Ea_b16 := Ea_b16.wr W18
        replace V_b16 : Arv Z h18 b16 k16 .char (8 : Int32) [(.int (99 : Int32)), (.int (0 : Int32)), (.int (0 : Int32)), (.int (0 : Int32)), (.int (0 : Int32)), (.int (0 : Int32)), (.int (0 : Int32)), (.int (0 : Int32))] (.int (0 : Int32)) := V18
        show own_Go p e below s _ _ _ (T18.setTop (mkF m 63 #[iv p1, iv p2, iv p3, .val (.long p4), .second] [(.ref b16)]))
        refine own_go (fun zt zk => (XS.dup X18.here hx rfl (hb hby own_d1_63) rfl rfl (XS.iconst X18.here hx rfl (hb hby own_d1_64) (XS.bipush X18.here hx rfl (hb hby own_d1_65) zk)))) ?_
        show own_Go p e below s _ _ _ (T18.setTop (mkF m 67 #[iv p1, iv p2, iv p3, .val (.long p4), .second] [(.int (108 : Int32)), (.int (1 : Int32)), (.ref b16), (.ref b16)]))
        obtain ⟨cl19, Ar19, q19, Sz19, Nz19, Ha19, Ga19⟩ := id V_b16
        have hin19 : ¬ ((1 : Int32) < 0 ∨ cl19.slots.size ≤ ((1 : Int32)).toNatClampNeg) := inb_of Sz19 ⟨by decide, by decide⟩
        obtain ⟨T20, h20, X20, e20, W20, st20⟩ := stC X18 hx hZ e18 Ar19 (j := (1 : Int32)) hin19 (g := (mkF m 67 #[iv p1, iv p2, iv p3, .val (.long p4), .second] [(.int (108 : Int32)), (.int (1 : Int32)), (.ref b16), (.ref b16)])) rfl rfl (hb hby own_d1_67)
        refine own_go st20 ?_
        replace W20 : Wr h18 h20 b16 _ (.int (108 : Int32)) := W20
        have V20 := Arv.set Ar19 q19 Sz19 Nz19 Ha19 Ga19 (by decide) W20 1 rfl (Nat.le_of_ble_eq_true rfl)
        have N20 := Fr.snoc X20 N18 g_b16
        replace Kp := Kp.wr W20 (Or.inr sz_b16)
        replace Ea_b16 := Ea_b16.wr W20
        replace V_b16 : Arv Z h20 b16 k16 .char (8 : Int32) [(.int (99 : Int32)), (.int (108 : Int32)), (.int (0 : Int32)), (.int (0 : Int32)), (.int (0 : Int32)), (.int (0 : Int32)), (.int (0 : Int32)), (.int (0 : Int32))] (.int (0 : Int32)) := V20
        show own_Go p e below s _ _ _ (T20.setTop (mkF m 68 #[iv p1, iv p2, iv p3, .val (.long p4), .second] [(.ref b16)]))
        refine own_go (fun zt zk => (XS.dup X20.here hx rfl (hb hby own_d1_68) rfl rfl (XS.iconst X20.here hx rfl (hb hby own_d1_69) (XS.bipush X20.here hx rfl (hb hby own_d1_70) zk)))) ?_
        show own_Go p e below s _ _ _ (T20.setTop (mkF m 72 #[iv p1, iv p2, iv p3, .val (.long p4), .second] [(.int (97 : Int32)), (.int (2 : Int32)), (.ref b16), (.ref b16)]))
        obtain ⟨cl21, Ar21, q21, Sz21, Nz21, Ha21, Ga21⟩ := id V_b16
        have hin21 : ¬ ((2 : Int32) < 0 ∨ cl21.slots.size ≤ ((2 : Int32)).toNatClampNeg) := inb_of Sz21 ⟨by decide, by decide⟩
        obtain ⟨T22, h22, X22, e22, W22, st22⟩ := stC X20 hx hZ e20 Ar21 (j := (2 : Int32)) hin21 (g := (mkF m 72 #[iv p1, iv p2, iv p3, .val (.long p4), .second] [(.int (97 : Int32)), (.int (2 : Int32)), (.ref b16), (.ref b16)])) rfl rfl (hb hby own_d1_72)
        refine own_go st22 ?_
        replace W22 : Wr h20 h22 b16 _ (.int (97 : Int32)) := W22
        have V22 := Arv.set Ar21 q21 Sz21 Nz21 Ha21 Ga21 (by decide) W22 2 rfl (Nat.le_of_ble_eq_true rfl)
        have N22 := Fr.snoc X22 N20 g_b16
        replace Kp := Kp.wr W22 (Or.inr sz_b16)
        replace Ea_b16 := Ea_b16.wr W22
        replace V_b16 : Arv Z h22 b16 k16 .char (8 : Int32) [(.int (99 : Int32)), (.int (108 : Int32)), (.int (97 : Int32)), (.int (0 : Int32)), (.int (0 : Int32)), (.int (0 : Int32)), (.int (0 : Int32)), (.int (0 : Int32))] (.int (0 : Int32)) := V22
        show own_Go p e below s _ _ _ (T22.setTop (mkF m 73 #[iv p1, iv p2, iv p3, .val (.long p4), .second] [(.ref b16)]))
        refine own_go (fun zt zk => (XS.dup X22.here hx rfl (hb hby own_d1_73) rfl rfl (XS.iconst X22.here hx rfl (hb hby own_d1_74) (XS.bipush X22.here hx rfl (hb hby own_d1_75) zk)))) ?_
        show own_Go p e below s _ _ _ (T22.setTop (mkF m 77 #[iv p1, iv p2, iv p3, .val (.long p4), .second] [(.int (115 : Int32)), (.int (3 : Int32)), (.ref b16), (.ref b16)]))
        obtain ⟨cl23, Ar23, q23, Sz23, Nz23, Ha23, Ga23⟩ := id V_b16
        have hin23 : ¬ ((3 : Int32) < 0 ∨ cl23.slots.size ≤ ((3 : Int32)).toNatClampNeg) := inb_of Sz23 ⟨by decide, by decide⟩
        obtain ⟨T24, h24, X24, e24, W24, st24⟩ := stC X22 hx hZ e22 Ar23 (j := (3 : Int32)) hin23 (g := (mkF m 77 #[iv p1, iv p2, iv p3, .val (.long p4), .second] [(.int (115 : Int32)), (.int (3 : Int32)), (.ref b16), (.ref b16)])) rfl rfl (hb hby own_d1_77)
        refine own_go st24 ?_
        replace W24 : Wr h22 h24 b16 _ (.int (115 : Int32)) := W24
        have V24 := Arv.set Ar23 q23 Sz23 Nz23 Ha23 Ga23 (by decide) W24 3 rfl (Nat.le_of_ble_eq_true rfl)
        have N24 := Fr.snoc X24 N22 g_b16
        replace Kp := Kp.wr W24 (Or.inr sz_b16)
        replace Ea_b16 := Ea_b16.wr W24
        replace V_b16 : Arv Z h24 b16 k16 .char (8 : Int32) [(.int (99 : Int32)), (.int (108 : Int32)), (.int (97 : Int32)), (.int (115 : Int32)), (.int (0 : Int32)), (.int (0 : Int32)), (.int (0 : Int32)), (.int (0 : Int32))] (.int (0 : Int32)) := V24
        show own_Go p e below s _ _ _ (T24.setTop (mkF m 78 #[iv p1, iv p2, iv p3, .val (.long p4), .second] [(.ref b16)]))
        refine own_go (fun zt zk => (XS.dup X24.here hx rfl (hb hby own_d1_78) rfl rfl (XS.iconst X24.here hx rfl (hb hby own_d1_79) (XS.bipush X24.here hx rfl (hb hby own_d1_80) zk)))) ?_
        show own_Go p e below s _ _ _ (T24.setTop (mkF m 82 #[iv p1, iv p2, iv p3, .val (.long p4), .second] [(.int (115 : Int32)), (.int (4 : Int32)), (.ref b16), (.ref b16)]))
        obtain ⟨cl25, Ar25, q25, Sz25, Nz25, Ha25, Ga25⟩ := id V_b16
        have hin25 : ¬ ((4 : Int32) < 0 ∨ cl25.slots.size ≤ ((4 : Int32)).toNatClampNeg) := inb_of Sz25 ⟨by decide, by decide⟩
        obtain ⟨T26, h26, X26, e26, W26, st26⟩ := stC X24 hx hZ e24 Ar25 (j := (4 : Int32)) hin25 (g := (mkF m 82 #[iv p1, iv p2, iv p3, .val (.long p4), .second] [(.int (115 : Int32)), (.int (4 : Int32)), (.ref b16), (.ref b16)])) rfl rfl (hb hby own_d1_82)
        refine own_go st26 ?_
        replace W26 : Wr h24 h26 b16 _ (.int (115 : Int32)) := W26
        have V26 := Arv.set Ar25 q25 Sz25 Nz25 Ha25 Ga25 (by decide) W26 4 rfl (Nat.le_of_ble_eq_true rfl)
        have N26 := Fr.snoc X26 N24 g_b16
        replace Kp := Kp.wr W26 (Or.inr sz_b16)
        replace Ea_b16 := Ea_b16.wr W26
        replace V_b16 : Arv Z h26 b16 k16 .char (8 : Int32) [(.int (99 : Int32)), (.int (108 : Int32)), (.int (97 : Int32)), (.int (115 : Int32)), (.int (115 : Int32)), (.int (0 : Int32)), (.int (0 : Int32)), (.int (0 : Int32))] (.int (0 : Int32)) := V26
        show own_Go p e below s _ _ _ (T26.setTop (mkF m 83 #[iv p1, iv p2, iv p3, .val (.long p4), .second] [(.ref b16)]))
        refine own_go (fun zt zk => (XS.dup X26.here hx rfl (hb hby own_d1_83) rfl rfl (XS.iconst X26.here hx rfl (hb hby own_d1_84) (XS.bipush X26.here hx rfl (hb hby own_d1_85) zk)))) ?_
        show own_Go p e below s _ _ _ (T26.setTop (mkF m 87 #[iv p1, iv p2, iv p3, .val (.long p4), .second] [(.int (105 : Int32)), (.int (5 : Int32)), (.ref b16), (.ref b16)]))
        obtain ⟨cl27, Ar27, q27, Sz27, Nz27, Ha27, Ga27⟩ := id V_b16
        have hin27 : ¬ ((5 : Int32) < 0 ∨ cl27.slots.size ≤ ((5 : Int32)).toNatClampNeg) := inb_of Sz27 ⟨by decide, by decide⟩
        obtain ⟨T28, h28, X28, e28, W28, st28⟩ := stC X26 hx hZ e26 Ar27 (j := (5 : Int32)) hin27 (g := (mkF m 87 #[iv p1, iv p2, iv p3, .val (.long p4), .second] [(.int (105 : Int32)), (.int (5 : Int32)), (.ref b16), (.ref b16)])) rfl rfl (hb hby own_d1_87)
        refine own_go st28 ?_
        replace W28 : Wr h26 h28 b16 _ (.int (105 : Int32)) := W28
        have V28 := Arv.set Ar27 q27 Sz27 Nz27 Ha27 Ga27 (by decide) W28 5 rfl (Nat.le_of_ble_eq_true rfl)
        have N28 := Fr.snoc X28 N26 g_b16
        replace Kp := Kp.wr W28 (Or.inr sz_b16)
        replace Ea_b16 := Ea_b16.wr W28
        replace V_b16 : Arv Z h28 b16 k16 .char (8 : Int32) [(.int (99 : Int32)), (.int (108 : Int32)), (.int (97 : Int32)), (.int (115 : Int32)), (.int (115 : Int32)), (.int (105 : Int32)), (.int (0 : Int32)), (.int (0 : Int32))] (.int (0 : Int32)) := V28
        show own_Go p e below s _ _ _ (T28.setTop (mkF m 88 #[iv p1, iv p2, iv p3, .val (.long p4), .second] [(.ref b16)]))
        refine own_go (fun zt zk => (XS.dup X28.here hx rfl (hb hby own_d1_88) rfl rfl (XS.bipush X28.here hx rfl (hb hby own_d1_89) (XS.bipush X28.here hx rfl (hb hby own_d1_91) zk)))) ?_
        show own_Go p e below s _ _ _ (T28.setTop (mkF m 93 #[iv p1, iv p2, iv p3, .val (.long p4), .second] [(.int (99 : Int32)), (.int (6 : Int32)), (.ref b16), (.ref b16)]))
        obtain ⟨cl29, Ar29, q29, Sz29, Nz29, Ha29, Ga29⟩ := id V_b16
        have hin29 : ¬ ((6 : Int32) < 0 ∨ cl29.slots.size ≤ ((6 : Int32)).toNatClampNeg) := inb_of Sz29 ⟨by decide, by decide⟩
        obtain ⟨T30, h30, X30, e30, W30, st30⟩ := stC X28 hx hZ e28 Ar29 (j := (6 : Int32)) hin29 (g := (mkF m 93 #[iv p1, iv p2, iv p3, .val (.long p4), .second] [(.int (99 : Int32)), (.int (6 : Int32)), (.ref b16), (.ref b16)])) rfl rfl (hb hby own_d1_93)
        refine own_go st30 ?_
        replace W30 : Wr h28 h30 b16 _ (.int (99 : Int32)) := W30
        have V30 := Arv.set Ar29 q29 Sz29 Nz29 Ha29 Ga29 (by decide) W30 6 rfl (Nat.le_of_ble_eq_true rfl)
        have N30 := Fr.snoc X30 N28 g_b16
        replace Kp := Kp.wr W30 (Or.inr sz_b16)
        replace Ea_b16 := Ea_b16.wr W30
        replace V_b16 : Arv Z h30 b16 k16 .char (8 : Int32) [(.int (99 : Int32)), (.int (108 : Int32)), (.int (97 : Int32)), (.int (115 : Int32)), (.int (115 : Int32)), (.int (105 : Int32)), (.int (99 : Int32)), (.int (0 : Int32))] (.int (0 : Int32)) := V30
        show own_Go p e below s _ _ _ (T30.setTop (mkF m 94 #[iv p1, iv p2, iv p3, .val (.long p4), .second] [(.ref b16)]))
        refine own_go (fun zt zk => (XS.dup X30.here hx rfl (hb hby own_d1_94) rfl rfl (XS.bipush X30.here hx rfl (hb hby own_d1_95) (XS.iloadN X30.here hx rfl (hb hby own_d1_97) rfl zk)))) ?_
        show own_Go p e below s _ _ _ (T30.setTop (mkF m 98 #[iv p1, iv p2, iv p3, .val (.long p4), .second] [(.int p3), (.int (7 : Int32)), (.ref b16), (.ref b16)]))
        obtain ⟨cl31, Ar31, q31, Sz31, Nz31, Ha31, Ga31⟩ := id V_b16
        have hin31 : ¬ ((7 : Int32) < 0 ∨ cl31.slots.size ≤ ((7 : Int32)).toNatClampNeg) := inb_of Sz31 ⟨by decide, by decide⟩
        obtain ⟨T32, h32, X32, e32, W32, st32⟩ := stC X30 hx hZ e30 Ar31 (j := (7 : Int32)) hin31 (g := (mkF m 98 #[iv p1, iv p2, iv p3, .val (.long p4), .second] [(.int p3), (.int (7 : Int32)), (.ref b16), (.ref b16)])) rfl rfl (hb hby own_d1_98)
        refine own_go st32 ?_
        rw [show nar .char p3 = p3 from own_narc hr_p3] at W32
        have V32 := Arv.set Ar31 q31 Sz31 Nz31 Ha31 Ga31 (own_fitc hr_p3) W32 7 rfl (Nat.le_of_ble_eq_true rfl)
        have N32 := Fr.snoc X32 N30 g_b16
        replace Kp := Kp.wr W32 (Or.inr sz_b16)
        replace Ea_b16 := Ea_b16.wr W32
        replace V_b16 : Arv Z h32 b16 k16 .char (8 : Int32) [(.int (99 : Int32)), (.int (108 : Int32)), (.int (97 : Int32)), (.int (115 : Int32)), (.int (115 : Int32)), (.int (105 : Int32)), (.int (99 : Int32)), (.int p3)] (.int (0 : Int32)) := V32
        show own_Go p e below s _ _ _ (T32.setTop (mkF m 99 #[iv p1, iv p2, iv p3, .val (.long p4), .second] [(.ref b16)]))
        exact own_fin X32 Bd.notSynchronized (fun h => by rw [Bd.returns] at h; cases h) (fun fs hr => retOut X32 hx (t := (.array .char)) (w := (.ref b16)) Bd.returns rfl (Or.inr (Or.inr (Or.inr (Or.inr ⟨rfl, rfl, rfl⟩)))) (hb hby own_d1_99) hr) (by rw [e32]; exact ⟨_, _, [(99 : Int32), (108 : Int32), (97 : Int32), (115 : Int32), (115 : Int32), (105 : Int32), (99 : Int32), p3], rfl, N32, Kp, sz_b16, Nat.le_of_ble_eq_true rfl, V_b16, (own_ac (by decide) (own_ac (by decide) (own_ac (by decide) (own_ac (by decide) (own_ac (by decide) (own_ac (by decide) (own_ac (by decide) (own_ac hr_p3 own_an))))))))⟩) (by decide) (by decide)
      · refine own_go (fun zt zk => (XS.icmpYes X0.here hx rfl (pc0 := 51) (pc' := 100) rfl (hb hby own_d1_51) rfl (feq (hb51 : ¬ (p2 = (1 : Int32)))).2 (by decide) (by decide) (XS.iloadN X0.here hx rfl (hb hby own_d1_100) rfl (XS.iconst X0.here hx rfl (hb hby own_d1_101) zk)))) ?_
        show own_Go p e below s _ _ _ (s₁.setTop (mkF m 102 #[iv p1, iv p2, iv p3, .val (.long p4), .second] [(.int (2 : Int32)), (.int p2)]))
        by_cases hb102 : p2 = (2 : Int32)
        · refine own_go (fun zt zk => (XS.icmpNo X0.here hx rfl (hb hby own_d1_102) rfl (teq (hb102 : p2 = (2 : Int32))).2 (XS.bipush X0.here hx rfl (hb hby own_d1_105) zk))) ?_
          show own_Go p e below s _ _ _ (s₁.setTop (mkF m 107 #[iv p1, iv p2, iv p3, .val (.long p4), .second] [(.int (6 : Int32))]))
          obtain ⟨T33, h33, k33, X33, e33, E33, A33, Ea33, st33⟩ := newPE X0 hx hZ (hw _ (List.mem_of_getElem? (i := 4) rfl)) e0 (g := (mkF m 107 #[iv p1, iv p2, iv p3, .val (.long p4), .second] [(.int (6 : Int32))])) rfl (hb hby own_d1_107) rfl (by decide) (cap := 6) (by decide) (by decide) (by decide) (by decide) (ad := "[C") (by decide)
          obtain ⟨b33, g33⟩ : ∃ z, z = h0.size := ⟨_, rfl⟩
          rw [← g33] at A33 Ea33 st33
          refine own_go st33 ?_
          have sz_b33 : h0.size ≤ b33 := Nat.le_trans Kp.1 (Nat.le_of_eq g33.symm)
          have g_b33 : n0 ≤ b33 := Nat.le_trans Z0 sz_b33
          replace Kp := Kp.ext E33
          have V_b33 : Arv Z h33 b33 k33 .char (6 : Int32) [(.int (0 : Int32)), (.int (0 : Int32)), (.int (0 : Int32)), (.int (0 : Int32)), (.int (0 : Int32)), (.int (0 : Int32))] (.int (0 : Int32)) := (Arv.new A33 (by decide)).pad (pad_rep [] (.int (0 : Int32)) 6)
          have Ea_b33 := Ea33
          show own_Go p e below s _ _ _ (T33.setTop (mkF m 109 #[iv p1, iv p2, iv p3, .val (.long p4), .second] [(.ref b33)]))
          refine own_go (fun zt zk => (XS.dup X33.here hx rfl (hb hby own_d1_109) rfl rfl (XS.iconst X33.here hx rfl (hb hby own_d1_110) (XS.bipush X33.here hx rfl (hb hby own_d1_111) zk)))) ?_
          show own_Go p e below s _ _ _ (T33.setTop (mkF m 113 #[iv p1, iv p2, iv p3, .val (.long p4), .second] [(.int (99 : Int32)), (.int (0 : Int32)), (.ref b33), (.ref b33)]))
          obtain ⟨cl34, Ar34, q34, Sz34, Nz34, Ha34, Ga34⟩ := id V_b33
          have hin34 : ¬ ((0 : Int32) < 0 ∨ cl34.slots.size ≤ ((0 : Int32)).toNatClampNeg) := inb_of Sz34 ⟨by decide, by decide⟩
          obtain ⟨T35, h35, X35, e35, W35, st35⟩ := stC X33 hx hZ e33 Ar34 (j := (0 : Int32)) hin34 (g := (mkF m 113 #[iv p1, iv p2, iv p3, .val (.long p4), .second] [(.int (99 : Int32)), (.int (0 : Int32)), (.ref b33), (.ref b33)])) rfl rfl (hb hby own_d1_113)
          refine own_go st35 ?_
          replace W35 : Wr h33 h35 b33 _ (.int (99 : Int32)) := W35
          have V35 := Arv.set Ar34 q34 Sz34 Nz34 Ha34 Ga34 (by decide) W35 0 rfl (Nat.le_of_ble_eq_true rfl)
          have N35 := Fr.snoc X35 N0 g_b33
          replace Kp := Kp.wr W35 (Or.inr sz_b33)
          replace Ea_b33 := Ea_b33.wr W35
          replace V_b33 : Arv Z h35 b33 k33 .char (6 : Int32) [(.int (99 : Int32)), (.int (0 : Int32)), (.int (0 : Int32)), (.int (0 : Int32)), (.int (0 : Int32)), (.int (0 : Int32))] (.int (0 : Int32)) := V35
          show own_Go p e below s _ _ _ (T35.setTop (mkF m 114 #[iv p1, iv p2, iv p3, .val (.long p4), .second] [(.ref b33)]))
          refine own_go (fun zt zk => (XS.dup X35.here hx rfl (hb hby own_d1_114) rfl rfl (XS.iconst X35.here hx rfl (hb hby own_d1_115) (XS.bipush X35.here hx rfl (hb hby own_d1_116) zk)))) ?_
          show own_Go p e below s _ _ _ (T35.setTop (mkF m 118 #[iv p1, iv p2, iv p3, .val (.long p4), .second] [(.int (108 : Int32)), (.int (1 : Int32)), (.ref b33), (.ref b33)]))
          obtain ⟨cl36, Ar36, q36, Sz36, Nz36, Ha36, Ga36⟩ := id V_b33
          have hin36 : ¬ ((1 : Int32) < 0 ∨ cl36.slots.size ≤ ((1 : Int32)).toNatClampNeg) := inb_of Sz36 ⟨by decide, by decide⟩
          obtain ⟨T37, h37, X37, e37, W37, st37⟩ := stC X35 hx hZ e35 Ar36 (j := (1 : Int32)) hin36 (g := (mkF m 118 #[iv p1, iv p2, iv p3, .val (.long p4), .second] [(.int (108 : Int32)), (.int (1 : Int32)), (.ref b33), (.ref b33)])) rfl rfl (hb hby own_d1_118)
          refine own_go st37 ?_
          replace W37 : Wr h35 h37 b33 _ (.int (108 : Int32)) := W37
          have V37 := Arv.set Ar36 q36 Sz36 Nz36 Ha36 Ga36 (by decide) W37 1 rfl (Nat.le_of_ble_eq_true rfl)
          have N37 := Fr.snoc X37 N35 g_b33
          replace Kp := Kp.wr W37 (Or.inr sz_b33)
          replace Ea_b33 := Ea_b33.wr W37
          replace V_b33 : Arv Z h37 b33 k33 .char (6 : Int32) [(.int (99 : Int32)), (.int (108 : Int32)), (.int (0 : Int32)), (.int (0 : Int32)), (.int (0 : Int32)), (.int (0 : Int32))] (.int (0 : Int32)) := V37
          show own_Go p e below s _ _ _ (T37.setTop (mkF m 119 #[iv p1, iv p2, iv p3, .val (.long p4), .second] [(.ref b33)]))
          refine own_go (fun zt zk => (XS.dup X37.here hx rfl (hb hby own_d1_119) rfl rfl (XS.iconst X37.here hx rfl (hb hby own_d1_120) (XS.bipush X37.here hx rfl (hb hby own_d1_121) zk)))) ?_
          show own_Go p e below s _ _ _ (T37.setTop (mkF m 123 #[iv p1, iv p2, iv p3, .val (.long p4), .second] [(.int (97 : Int32)), (.int (2 : Int32)), (.ref b33), (.ref b33)]))
          obtain ⟨cl38, Ar38, q38, Sz38, Nz38, Ha38, Ga38⟩ := id V_b33
          have hin38 : ¬ ((2 : Int32) < 0 ∨ cl38.slots.size ≤ ((2 : Int32)).toNatClampNeg) := inb_of Sz38 ⟨by decide, by decide⟩
          obtain ⟨T39, h39, X39, e39, W39, st39⟩ := stC X37 hx hZ e37 Ar38 (j := (2 : Int32)) hin38 (g := (mkF m 123 #[iv p1, iv p2, iv p3, .val (.long p4), .second] [(.int (97 : Int32)), (.int (2 : Int32)), (.ref b33), (.ref b33)])) rfl rfl (hb hby own_d1_123)
          refine own_go st39 ?_
          replace W39 : Wr h37 h39 b33 _ (.int (97 : Int32)) := W39
          have V39 := Arv.set Ar38 q38 Sz38 Nz38 Ha38 Ga38 (by decide) W39 2 rfl (Nat.le_of_ble_eq_true rfl)
          have N39 := Fr.snoc X39 N37 g_b33
          replace Kp := Kp.wr W39 (Or.inr sz_b33)
          replace Ea_b33 := Ea_b33.wr W39
          replace V_b33 : Arv Z h39 b33 k33 .char (6 : Int32) [(.int (99 : Int32)), (.int (108 : Int32)), (.int (97 : Int32)), (.int (0 : Int32)), (.int (0 : Int32)), (.int (0 : Int32))] (.int (0 : Int32)) := V39
          show own_Go p e below s _ _ _ (T39.setTop (mkF m 124 #[iv p1, iv p2, iv p3, .val (.long p4), .second] [(.ref b33)]))
          refine own_go (fun zt zk => (XS.dup X39.here hx rfl (hb hby own_d1_124) rfl rfl (XS.iconst X39.here hx rfl (hb hby own_d1_125) (XS.bipush X39.here hx rfl (hb hby own_d1_126) zk)))) ?_
          show own_Go p e below s _ _ _ (T39.setTop (mkF m 128 #[iv p1, iv p2, iv p3, .val (.long p4), .second] [(.int (115 : Int32)), (.int (3 : Int32)), (.ref b33), (.ref b33)]))
          obtain ⟨cl40, Ar40, q40, Sz40, Nz40, Ha40, Ga40⟩ := id V_b33
          have hin40 : ¬ ((3 : Int32) < 0 ∨ cl40.slots.size ≤ ((3 : Int32)).toNatClampNeg) := inb_of Sz40 ⟨by decide, by decide⟩
          obtain ⟨T41, h41, X41, e41, W41, st41⟩ := stC X39 hx hZ e39 Ar40 (j := (3 : Int32)) hin40 (g := (mkF m 128 #[iv p1, iv p2, iv p3, .val (.long p4), .second] [(.int (115 : Int32)), (.int (3 : Int32)), (.ref b33), (.ref b33)])) rfl rfl (hb hby own_d1_128)
          refine own_go st41 ?_
          replace W41 : Wr h39 h41 b33 _ (.int (115 : Int32)) := W41
          have V41 := Arv.set Ar40 q40 Sz40 Nz40 Ha40 Ga40 (by decide) W41 3 rfl (Nat.le_of_ble_eq_true rfl)
          have N41 := Fr.snoc X41 N39 g_b33
          replace Kp := Kp.wr W41 (Or.inr sz_b33)
          replace Ea_b33 := Ea_b33.wr W41
          replace V_b33 : Arv Z h41 b33 k33 .char (6 : Int32) [(.int (99 : Int32)), (.int (108 : Int32)), (.int (97 : Int32)), (.int (115 : Int32)), (.int (0 : Int32)), (.int (0 : Int32))] (.int (0 : Int32)) := V41
          show own_Go p e below s _ _ _ (T41.setTop (mkF m 129 #[iv p1, iv p2, iv p3, .val (.long p4), .second] [(.ref b33)]))
          refine own_go (fun zt zk => (XS.dup X41.here hx rfl (hb hby own_d1_129) rfl rfl (XS.iconst X41.here hx rfl (hb hby own_d1_130) (XS.bipush X41.here hx rfl (hb hby own_d1_131) zk)))) ?_
          show own_Go p e below s _ _ _ (T41.setTop (mkF m 133 #[iv p1, iv p2, iv p3, .val (.long p4), .second] [(.int (115 : Int32)), (.int (4 : Int32)), (.ref b33), (.ref b33)]))
          obtain ⟨cl42, Ar42, q42, Sz42, Nz42, Ha42, Ga42⟩ := id V_b33
          have hin42 : ¬ ((4 : Int32) < 0 ∨ cl42.slots.size ≤ ((4 : Int32)).toNatClampNeg) := inb_of Sz42 ⟨by decide, by decide⟩
          obtain ⟨T43, h43, X43, e43, W43, st43⟩ := stC X41 hx hZ e41 Ar42 (j := (4 : Int32)) hin42 (g := (mkF m 133 #[iv p1, iv p2, iv p3, .val (.long p4), .second] [(.int (115 : Int32)), (.int (4 : Int32)), (.ref b33), (.ref b33)])) rfl rfl (hb hby own_d1_133)
          refine own_go st43 ?_
          replace W43 : Wr h41 h43 b33 _ (.int (115 : Int32)) := W43
          have V43 := Arv.set Ar42 q42 Sz42 Nz42 Ha42 Ga42 (by decide) W43 4 rfl (Nat.le_of_ble_eq_true rfl)
          have N43 := Fr.snoc X43 N41 g_b33
          replace Kp := Kp.wr W43 (Or.inr sz_b33)
          replace Ea_b33 := Ea_b33.wr W43
          replace V_b33 : Arv Z h43 b33 k33 .char (6 : Int32) [(.int (99 : Int32)), (.int (108 : Int32)), (.int (97 : Int32)), (.int (115 : Int32)), (.int (115 : Int32)), (.int (0 : Int32))] (.int (0 : Int32)) := V43
          show own_Go p e below s _ _ _ (T43.setTop (mkF m 134 #[iv p1, iv p2, iv p3, .val (.long p4), .second] [(.ref b33)]))
          refine own_go (fun zt zk => (XS.dup X43.here hx rfl (hb hby own_d1_134) rfl rfl (XS.iconst X43.here hx rfl (hb hby own_d1_135) (XS.bipush X43.here hx rfl (hb hby own_d1_136) zk)))) ?_
          show own_Go p e below s _ _ _ (T43.setTop (mkF m 138 #[iv p1, iv p2, iv p3, .val (.long p4), .second] [(.int (105 : Int32)), (.int (5 : Int32)), (.ref b33), (.ref b33)]))
          obtain ⟨cl44, Ar44, q44, Sz44, Nz44, Ha44, Ga44⟩ := id V_b33
          have hin44 : ¬ ((5 : Int32) < 0 ∨ cl44.slots.size ≤ ((5 : Int32)).toNatClampNeg) := inb_of Sz44 ⟨by decide, by decide⟩
          obtain ⟨T45, h45, X45, e45, W45, st45⟩ := stC X43 hx hZ e43 Ar44 (j := (5 : Int32)) hin44 (g := (mkF m 138 #[iv p1, iv p2, iv p3, .val (.long p4), .second] [(.int (105 : Int32)), (.int (5 : Int32)), (.ref b33), (.ref b33)])) rfl rfl (hb hby own_d1_138)
          refine own_go st45 ?_
          replace W45 : Wr h43 h45 b33 _ (.int (105 : Int32)) := W45
          have V45 := Arv.set Ar44 q44 Sz44 Nz44 Ha44 Ga44 (by decide) W45 5 rfl (Nat.le_of_ble_eq_true rfl)
          have N45 := Fr.snoc X45 N43 g_b33
          replace Kp := Kp.wr W45 (Or.inr sz_b33)
          replace Ea_b33 := Ea_b33.wr W45
          replace V_b33 : Arv Z h45 b33 k33 .char (6 : Int32) [(.int (99 : Int32)), (.int (108 : Int32)), (.int (97 : Int32)), (.int (115 : Int32)), (.int (115 : Int32)), (.int (105 : Int32))] (.int (0 : Int32)) := V45
          show own_Go p e below s _ _ _ (T45.setTop (mkF m 139 #[iv p1, iv p2, iv p3, .val (.long p4), .second] [(.ref b33)]))
          exact own_fin X45 Bd.notSynchronized (fun h => by rw [Bd.returns] at h; cases h) (fun fs hr => retOut X45 hx (t := (.array .char)) (w := (.ref b33)) Bd.returns rfl (Or.inr (Or.inr (Or.inr (Or.inr ⟨rfl, rfl, rfl⟩)))) (hb hby own_d1_139) hr) (by rw [e45]; exact ⟨_, _, [(99 : Int32), (108 : Int32), (97 : Int32), (115 : Int32), (115 : Int32), (105 : Int32)], rfl, N45, Kp, sz_b33, Nat.le_of_ble_eq_true rfl, V_b33, (own_ac (by decide) (own_ac (by decide) (own_ac (by decide) (own_ac (by decide) (own_ac (by decide) (own_ac (by decide) own_an))))))⟩) (by decide) (by decide)
        · refine own_go (fun zt zk => (XS.icmpYes X0.here hx rfl (pc0 := 102) (pc' := 140) rfl (hb hby own_d1_102) rfl (feq (hb102 : ¬ (p2 = (2 : Int32)))).2 (by decide) (by decide) (XS.bipush X0.here hx rfl (hb hby own_d1_140) zk))) ?_
          show own_Go p e below s _ _ _ (s₁.setTop (mkF m 142 #[iv p1, iv p2, iv p3, .val (.long p4), .second] [(.int (8 : Int32))]))
          obtain ⟨T46, h46, k46, X46, e46, E46, A46, Ea46, st46⟩ := newPE X0 hx hZ (hw _ (List.mem_of_getElem? (i := 4) rfl)) e0 (g := (mkF m 142 #[iv p1, iv p2, iv p3, .val (.long p4), .second] [(.int (8 : Int32))])) rfl (hb hby own_d1_142) rfl (by decide) (cap := 8) (by decide) (by decide) (by decide) (by decide) (ad := "[C") (by decide)
          obtain ⟨b46, g46⟩ : ∃ z, z = h0.size := ⟨_, rfl⟩
          rw [← g46] at A46 Ea46 st46
          refine own_go st46 ?_
          have sz_b46 : h0.size ≤ b46 := Nat.le_trans Kp.1 (Nat.le_of_eq g46.symm)
          have g_b46 : n0 ≤ b46 := Nat.le_trans Z0 sz_b46
          replace Kp := Kp.ext E46
          have V_b46 : Arv Z h46 b46 k46 .char (8 : Int32) [(.int (0 : Int32)), (.int (0 : Int32)), (.int (0 : Int32)), (.int (0 : Int32)), (.int (0 : Int32)), (.int (0 : Int32)), (.int (0 : Int32)), (.int (0 : Int32))] (.int (0 : Int32)) := (Arv.new A46 (by decide)).pad (pad_rep [] (.int (0 : Int32)) 8)
          have Ea_b46 := Ea46
          show own_Go p e below s _ _ _ (T46.setTop (mkF m 144 #[iv p1, iv p2, iv p3, .val (.long p4), .second] [(.ref b46)]))
          refine own_go (fun zt zk => (XS.dup X46.here hx rfl (hb hby own_d1_144) rfl rfl (XS.iconst X46.here hx rfl (hb hby own_d1_145) (XS.iloadN X46.here hx rfl (hb hby own_d1_146) rfl zk)))) ?_
          show own_Go p e below s _ _ _ (T46.setTop (mkF m 147 #[iv p1, iv p2, iv p3, .val (.long p4), .second] [(.int p3), (.int (0 : Int32)), (.ref b46), (.ref b46)]))
          obtain ⟨cl47, Ar47, q47, Sz47, Nz47, Ha47, Ga47⟩ := id V_b46
          have hin47 : ¬ ((0 : Int32) < 0 ∨ cl47.slots.size ≤ ((0 : Int32)).toNatClampNeg) := inb_of Sz47 ⟨by decide, by decide⟩
          obtain ⟨T48, h48, X48, e48, W48, st48⟩ := stC X46 hx hZ e46 Ar47 (j := (0 : Int32)) hin47 (g := (mkF m 147 #[iv p1, iv p2, iv p3, .val (.long p4), .second] [(.int p3), (.int (0 : Int32)), (.ref b46), (.ref b46)])) rfl rfl (hb hby own_d1_147)
          refine own_go st48 ?_
          rw [show nar .char p3 = p3 from own_narc hr_p3] at W48
          have V48 := Arv.set Ar47 q47 Sz47 Nz47 Ha47 Ga47 (own_fitc hr_p3) W48 0 rfl (Nat.le_of_ble_eq_true rfl)
          have N48 := Fr.snoc X48 N0 g_b46
          replace Kp := Kp.wr W48 (Or.inr sz_b46)
          replace Ea_b46 := Ea_b46.wr W48
          replace V_b46 : Arv Z h48 b46 k46 .char (8 : Int32) [(.int p3), (.int (0 : Int32)), (.int (0 : Int32)), (.int (0 : Int32)), (.int (0 : Int32)), (.int (0 : Int32)), (.int (0 : Int32)), (.int (0 : Int32))] (.int (0 : Int32)) := V48
          show own_Go p e below s _ _ _ (T48.setTop (mkF m 148 #[iv p1, iv p2, iv p3, .val (.long p4), .second] [(.ref b46)]))
          refine own_go (fun zt zk => (XS.dup X48.here hx rfl (hb hby own_d1_148) rfl rfl (XS.iconst X48.here hx rfl (hb hby own_d1_149) (XS.bipush X48.here hx rfl (hb hby own_d1_150) zk)))) ?_
          show own_Go p e below s _ _ _ (T48.setTop (mkF m 152 #[iv p1, iv p2, iv p3, .val (.long p4), .second] [(.int (99 : Int32)), (.int (1 : Int32)), (.ref b46), (.ref b46)]))
          obtain ⟨cl49, Ar49, q49, Sz49, Nz49, Ha49, Ga49⟩ := id V_b46
          have hin49 : ¬ ((1 : Int32) < 0 ∨ cl49.slots.size ≤ ((1 : Int32)).toNatClampNeg) := inb_of Sz49 ⟨by decide, by decide⟩
          obtain ⟨T50, h50, X50, e50, W50, st50⟩ := stC X48 hx hZ e48 Ar49 (j := (1 : Int32)) hin49 (g := (mkF m 152 #[iv p1, iv p2, iv p3, .val (.long p4), .second] [(.int (99 : Int32)), (.int (1 : Int32)), (.ref b46), (.ref b46)])) rfl rfl (hb hby own_d1_152)
          refine own_go st50 ?_
          replace W50 : Wr h48 h50 b46 _ (.int (99 : Int32)) := W50
          have V50 := Arv.set Ar49 q49 Sz49 Nz49 Ha49 Ga49 (by decide) W50 1 rfl (Nat.le_of_ble_eq_true rfl)
          have N50 := Fr.snoc X50 N48 g_b46
          replace Kp := Kp.wr W50 (Or.inr sz_b46)
          replace Ea_b46 := Ea_b46.wr W50
          replace V_b46 : Arv Z h50 b46 k46 .char (8 : Int32) [(.int p3), (.int (99 : Int32)), (.int (0 : Int32)), (.int (0 : Int32)), (.int (0 : Int32)), (.int (0 : Int32)), (.int (0 : Int32)), (.int (0 : Int32))] (.int (0 : Int32)) := V50
          show own_Go p e below s _ _ _ (T50.setTop (mkF m 153 #[iv p1, iv p2, iv p3, .val (.long p4), .second] [(.ref b46)]))
          refine own_go (fun zt zk => (XS.dup X50.here hx rfl (hb hby own_d1_153) rfl rfl (XS.iconst X50.here hx rfl (hb hby own_d1_154) (XS.bipush X50.here hx rfl (hb hby own_d1_155) zk)))) ?_
          show own_Go p e below s _ _ _ (T50.setTop (mkF m 157 #[iv p1, iv p2, iv p3, .val (.long p4), .second] [(.int (108 : Int32)), (.int (2 : Int32)), (.ref b46), (.ref b46)]))
          obtain ⟨cl51, Ar51, q51, Sz51, Nz51, Ha51, Ga51⟩ := id V_b46
          have hin51 : ¬ ((2 : Int32) < 0 ∨ cl51.slots.size ≤ ((2 : Int32)).toNatClampNeg) := inb_of Sz51 ⟨by decide, by decide⟩
          obtain ⟨T52, h52, X52, e52, W52, st52⟩ := stC X50 hx hZ e50 Ar51 (j := (2 : Int32)) hin51 (g := (mkF m 157 #[iv p1, iv p2, iv p3, .val (.long p4), .second] [(.int (108 : Int32)), (.int (2 : Int32)), (.ref b46), (.ref b46)])) rfl rfl (hb hby own_d1_157)
          refine own_go st52 ?_
          replace W52 : Wr h50 h52 b46 _ (.int (108 : Int32)) := W52
          have V52 := Arv.set Ar51 q51 Sz51 Nz51 Ha51 Ga51 (by decide) W52 2 rfl (Nat.le_of_ble_eq_true rfl)
          have N52 := Fr.snoc X52 N50 g_b46
          replace Kp := Kp.wr W52 (Or.inr sz_b46)
          replace Ea_b46 := Ea_b46.wr W52
          replace V_b46 : Arv Z h52 b46 k46 .char (8 : Int32) [(.int p3), (.int (99 : Int32)), (.int (108 : Int32)), (.int (0 : Int32)), (.int (0 : Int32)), (.int (0 : Int32)), (.int (0 : Int32)), (.int (0 : Int32))] (.int (0 : Int32)) := V52
          show own_Go p e below s _ _ _ (T52.setTop (mkF m 158 #[iv p1, iv p2, iv p3, .val (.long p4), .second] [(.ref b46)]))
          refine own_go (fun zt zk => (XS.dup X52.here hx rfl (hb hby own_d1_158) rfl rfl (XS.iconst X52.here hx rfl (hb hby own_d1_159) (XS.bipush X52.here hx rfl (hb hby own_d1_160) zk)))) ?_
          show own_Go p e below s _ _ _ (T52.setTop (mkF m 162 #[iv p1, iv p2, iv p3, .val (.long p4), .second] [(.int (97 : Int32)), (.int (3 : Int32)), (.ref b46), (.ref b46)]))
          obtain ⟨cl53, Ar53, q53, Sz53, Nz53, Ha53, Ga53⟩ := id V_b46
          have hin53 : ¬ ((3 : Int32) < 0 ∨ cl53.slots.size ≤ ((3 : Int32)).toNatClampNeg) := inb_of Sz53 ⟨by decide, by decide⟩
          obtain ⟨T54, h54, X54, e54, W54, st54⟩ := stC X52 hx hZ e52 Ar53 (j := (3 : Int32)) hin53 (g := (mkF m 162 #[iv p1, iv p2, iv p3, .val (.long p4), .second] [(.int (97 : Int32)), (.int (3 : Int32)), (.ref b46), (.ref b46)])) rfl rfl (hb hby own_d1_162)
          refine own_go st54 ?_
          replace W54 : Wr h52 h54 b46 _ (.int (97 : Int32)) := W54
          have V54 := Arv.set Ar53 q53 Sz53 Nz53 Ha53 Ga53 (by decide) W54 3 rfl (Nat.le_of_ble_eq_true rfl)
          have N54 := Fr.snoc X54 N52 g_b46
          replace Kp := Kp.wr W54 (Or.inr sz_b46)
          replace Ea_b46 := Ea_b46.wr W54
          replace V_b46 : Arv Z h54 b46 k46 .char (8 : Int32) [(.int p3), (.int (99 : Int32)), (.int (108 : Int32)), (.int (97 : Int32)), (.int (0 : Int32)), (.int (0 : Int32)), (.int (0 : Int32)), (.int (0 : Int32))] (.int (0 : Int32)) := V54
          show own_Go p e below s _ _ _ (T54.setTop (mkF m 163 #[iv p1, iv p2, iv p3, .val (.long p4), .second] [(.ref b46)]))
          refine own_go (fun zt zk => (XS.dup X54.here hx rfl (hb hby own_d1_163) rfl rfl (XS.iconst X54.here hx rfl (hb hby own_d1_164) (XS.bipush X54.here hx rfl (hb hby own_d1_165) zk)))) ?_
          show own_Go p e below s _ _ _ (T54.setTop (mkF m 167 #[iv p1, iv p2, iv p3, .val (.long p4), .second] [(.int (115 : Int32)), (.int (4 : Int32)), (.ref b46), (.ref b46)]))
          obtain ⟨cl55, Ar55, q55, Sz55, Nz55, Ha55, Ga55⟩ := id V_b46
          have hin55 : ¬ ((4 : Int32) < 0 ∨ cl55.slots.size ≤ ((4 : Int32)).toNatClampNeg) := inb_of Sz55 ⟨by decide, by decide⟩
          obtain ⟨T56, h56, X56, e56, W56, st56⟩ := stC X54 hx hZ e54 Ar55 (j := (4 : Int32)) hin55 (g := (mkF m 167 #[iv p1, iv p2, iv p3, .val (.long p4), .second] [(.int (115 : Int32)), (.int (4 : Int32)), (.ref b46), (.ref b46)])) rfl rfl (hb hby own_d1_167)
          refine own_go st56 ?_
          replace W56 : Wr h54 h56 b46 _ (.int (115 : Int32)) := W56
          have V56 := Arv.set Ar55 q55 Sz55 Nz55 Ha55 Ga55 (by decide) W56 4 rfl (Nat.le_of_ble_eq_true rfl)
          have N56 := Fr.snoc X56 N54 g_b46
          replace Kp := Kp.wr W56 (Or.inr sz_b46)
          replace Ea_b46 := Ea_b46.wr W56
          replace V_b46 : Arv Z h56 b46 k46 .char (8 : Int32) [(.int p3), (.int (99 : Int32)), (.int (108 : Int32)), (.int (97 : Int32)), (.int (115 : Int32)), (.int (0 : Int32)), (.int (0 : Int32)), (.int (0 : Int32))] (.int (0 : Int32)) := V56
          show own_Go p e below s _ _ _ (T56.setTop (mkF m 168 #[iv p1, iv p2, iv p3, .val (.long p4), .second] [(.ref b46)]))
          refine own_go (fun zt zk => (XS.dup X56.here hx rfl (hb hby own_d1_168) rfl rfl (XS.iconst X56.here hx rfl (hb hby own_d1_169) (XS.bipush X56.here hx rfl (hb hby own_d1_170) zk)))) ?_
          show own_Go p e below s _ _ _ (T56.setTop (mkF m 172 #[iv p1, iv p2, iv p3, .val (.long p4), .second] [(.int (115 : Int32)), (.int (5 : Int32)), (.ref b46), (.ref b46)]))
          obtain ⟨cl57, Ar57, q57, Sz57, Nz57, Ha57, Ga57⟩ := id V_b46
          have hin57 : ¬ ((5 : Int32) < 0 ∨ cl57.slots.size ≤ ((5 : Int32)).toNatClampNeg) := inb_of Sz57 ⟨by decide, by decide⟩
          obtain ⟨T58, h58, X58, e58, W58, st58⟩ := stC X56 hx hZ e56 Ar57 (j := (5 : Int32)) hin57 (g := (mkF m 172 #[iv p1, iv p2, iv p3, .val (.long p4), .second] [(.int (115 : Int32)), (.int (5 : Int32)), (.ref b46), (.ref b46)])) rfl rfl (hb hby own_d1_172)
          refine own_go st58 ?_
          replace W58 : Wr h56 h58 b46 _ (.int (115 : Int32)) := W58
          have V58 := Arv.set Ar57 q57 Sz57 Nz57 Ha57 Ga57 (by decide) W58 5 rfl (Nat.le_of_ble_eq_true rfl)
          have N58 := Fr.snoc X58 N56 g_b46
          replace Kp := Kp.wr W58 (Or.inr sz_b46)
          replace Ea_b46 := Ea_b46.wr W58
          replace V_b46 : Arv Z h58 b46 k46 .char (8 : Int32) [(.int p3), (.int (99 : Int32)), (.int (108 : Int32)), (.int (97 : Int32)), (.int (115 : Int32)), (.int (115 : Int32)), (.int (0 : Int32)), (.int (0 : Int32))] (.int (0 : Int32)) := V58
          show own_Go p e below s _ _ _ (T58.setTop (mkF m 173 #[iv p1, iv p2, iv p3, .val (.long p4), .second] [(.ref b46)]))
          refine own_go (fun zt zk => (XS.dup X58.here hx rfl (hb hby own_d1_173) rfl rfl (XS.bipush X58.here hx rfl (hb hby own_d1_174) (XS.bipush X58.here hx rfl (hb hby own_d1_176) zk)))) ?_
          show own_Go p e below s _ _ _ (T58.setTop (mkF m 178 #[iv p1, iv p2, iv p3, .val (.long p4), .second] [(.int (105 : Int32)), (.int (6 : Int32)), (.ref b46), (.ref b46)]))
          obtain ⟨cl59, Ar59, q59, Sz59, Nz59, Ha59, Ga59⟩ := id V_b46
          have hin59 : ¬ ((6 : Int32) < 0 ∨ cl59.slots.size ≤ ((6 : Int32)).toNatClampNeg) := inb_of Sz59 ⟨by decide, by decide⟩
          obtain ⟨T60, h60, X60, e60, W60, st60⟩ := stC X58 hx hZ e58 Ar59 (j := (6 : Int32)) hin59 (g := (mkF m 178 #[iv p1, iv p2, iv p3, .val (.long p4), .second] [(.int (105 : Int32)), (.int (6 : Int32)), (.ref b46), (.ref b46)])) rfl rfl (hb hby own_d1_178)
          refine own_go st60 ?_
          replace W60 : Wr h58 h60 b46 _ (.int (105 : Int32)) := W60
          have V60 := Arv.set Ar59 q59 Sz59 Nz59 Ha59 Ga59 (by decide) W60 6 rfl (Nat.le_of_ble_eq_true rfl)
          have N60 := Fr.snoc X60 N58 g_b46
          replace Kp := Kp.wr W60 (Or.inr sz_b46)
          replace Ea_b46 := Ea_b46.wr W60
          replace V_b46 : Arv Z h60 b46 k46 .char (8 : Int32) [(.int p3), (.int (99 : Int32)), (.int (108 : Int32)), (.int (97 : Int32)), (.int (115 : Int32)), (.int (115 : Int32)), (.int (105 : Int32)), (.int (0 : Int32))] (.int (0 : Int32)) := V60
          show own_Go p e below s _ _ _ (T60.setTop (mkF m 179 #[iv p1, iv p2, iv p3, .val (.long p4), .second] [(.ref b46)]))
          refine own_go (fun zt zk => (XS.dup X60.here hx rfl (hb hby own_d1_179) rfl rfl (XS.bipush X60.here hx rfl (hb hby own_d1_180) (XS.bipush X60.here hx rfl (hb hby own_d1_182) zk)))) ?_
          show own_Go p e below s _ _ _ (T60.setTop (mkF m 184 #[iv p1, iv p2, iv p3, .val (.long p4), .second] [(.int (99 : Int32)), (.int (7 : Int32)), (.ref b46), (.ref b46)]))
          obtain ⟨cl61, Ar61, q61, Sz61, Nz61, Ha61, Ga61⟩ := id V_b46
          have hin61 : ¬ ((7 : Int32) < 0 ∨ cl61.slots.size ≤ ((7 : Int32)).toNatClampNeg) := inb_of Sz61 ⟨by decide, by decide⟩
          obtain ⟨T62, h62, X62, e62, W62, st62⟩ := stC X60 hx hZ e60 Ar61 (j := (7 : Int32)) hin61 (g := (mkF m 184 #[iv p1, iv p2, iv p3, .val (.long p4), .second] [(.int (99 : Int32)), (.int (7 : Int32)), (.ref b46), (.ref b46)])) rfl rfl (hb hby own_d1_184)
          refine own_go st62 ?_
          replace W62 : Wr h60 h62 b46 _ (.int (99 : Int32)) := W62
          have V62 := Arv.set Ar61 q61 Sz61 Nz61 Ha61 Ga61 (by decide) W62 7 rfl (Nat.le_of_ble_eq_true rfl)
          have N62 := Fr.snoc X62 N60 g_b46
          replace Kp := Kp.wr W62 (Or.inr sz_b46)
          replace Ea_b46 := Ea_b46.wr W62
          replace V_b46 : Arv Z h62 b46 k46 .char (8 : Int32) [(.int p3), (.int (99 : Int32)), (.int (108 : Int32)), (.int (97 : Int32)), (.int (115 : Int32)), (.int (115 : Int32)), (.int (105 : Int32)), (.int (99 : Int32))] (.int (0 : Int32)) := V62
          show own_Go p e below s _ _ _ (T62.setTop (mkF m 185 #[iv p1, iv p2, iv p3, .val (.long p4), .second] [(.ref b46)]))
          exact own_fin X62 Bd.notSynchronized (fun h => by rw [Bd.returns] at h; cases h) (fun fs hr => retOut X62 hx (t := (.array .char)) (w := (.ref b46)) Bd.returns rfl (Or.inr (Or.inr (Or.inr (Or.inr ⟨rfl, rfl, rfl⟩)))) (hb hby own_d1_185) hr) (by rw [e62]; exact ⟨_, _, [p3, (99 : Int32), (108 : Int32), (97 : Int32), (115 : Int32), (115 : Int32), (105 : Int32), (99 : Int32)], rfl, N62, Kp, sz_b46, Nat.le_of_ble_eq_true rfl, V_b46, (own_ac hr_p3 (own_ac (by decide) (own_ac (by decide) (own_ac (by decide) (own_ac (by decide) (own_ac (by decide) (own_ac (by decide) (own_ac (by decide) own_an))))))))⟩) (by decide) (by decide)
  · refine own_go (fun zt zk => (XS.ifYes X0.here hx rfl (pc0 := 1) (pc' := 186) rfl (hb hby own_d1_1) rfl ((if0 _ _).trans (feq (hb1 : ¬ (p1 = (0 : Int32)))).2) (by decide) (by decide) (XS.iloadN X0.here hx rfl (hb hby own_d1_186) rfl (XS.iconst X0.here hx rfl (hb hby own_d1_187) zk)))) ?_
    show own_Go p e below s _ _ _ (s₁.setTop (mkF m 188 #[iv p1, iv p2, iv p3, .val (.long p4), .second] [(.int (1 : Int32)), (.int p1)]))
    by_cases hb188 : p1 = (1 : Int32)
    · refine own_go (fun zt zk => (XS.icmpNo X0.here hx rfl (hb hby own_d1_188) rfl (teq (hb188 : p1 = (1 : Int32))).2 (XS.iloadN X0.here hx rfl (hb hby own_d1_191) rfl zk))) ?_
      show own_Go p e below s _ _ _ (s₁.setTop (mkF m 192 #[iv p1, iv p2, iv p3, .val (.long p4), .second] [(.int p2)]))
      by_cases hb192 : p2 = (0 : Int32)
      · refine own_go (fun zt zk => (XS.ifNo X0.here hx rfl (hb hby own_d1_192) rfl ((if0 _ _).trans (teq (hb192 : p2 = (0 : Int32))).2) (XS.bipush X0.here hx rfl (hb hby own_d1_195) zk))) ?_
        show own_Go p e below s _ _ _ (s₁.setTop (mkF m 197 #[iv p1, iv p2, iv p3, .val (.long p4), .second] [(.int (6 : Int32))]))
        obtain ⟨T63, h63, k63, X63, e63, E63, A63, Ea63, st63⟩ := newPE X0 hx hZ (hw _ (List.mem_of_getElem? (i := 4) rfl)) e0 (g := (mkF m 197 #[iv p1, iv p2, iv p3, .val (.long p4), .second] [(.int (6 : Int32))])) rfl (hb hby own_d1_197) rfl (by decide) (cap := 6) (by decide) (by decide) (by decide) (by decide) (ad := "[C") (by decide)
        obtain ⟨b63, g63⟩ : ∃ z, z = h0.size := ⟨_, rfl⟩
        rw [← g63] at A63 Ea63 st63
        refine own_go st63 ?_
        have sz_b63 : h0.size ≤ b63 := Nat.le_trans Kp.1 (Nat.le_of_eq g63.symm)
        have g_b63 : n0 ≤ b63 := Nat.le_trans Z0 sz_b63
        replace Kp := Kp.ext E63
        have V_b63 : Arv Z h63 b63 k63 .char (6 : Int32) [(.int (0 : Int32)), (.int (0 : Int32)), (.int (0 : Int32)), (.int (0 : Int32)), (.int (0 : Int32)), (.int (0 : Int32))] (.int (0 : Int32)) := (Arv.new A63 (by decide)).pad (pad_rep [] (.int (0 : Int32)) 6)
        have Ea_b63 := Ea63
        show own_Go p e below s _ _ _ (T63.setTop (mkF m 199 #[iv p1, iv p2, iv p3, .val (.long p4), .second] [(.ref b63)]))
        refine own_go (fun zt zk => (XS.dup X63.here hx rfl (hb hby own_d1_199) rfl rfl (XS.iconst X63.here hx rfl (hb hby own_d1_200) (XS.bipush X63.here hx rfl (hb hby own_d1_201) zk)))) ?_
        show own_Go p e below s _ _ _ (T63.setTop (mkF m 203 #[iv p1, iv p2, iv p3, .val (.long p4), .second] [(.int (116 : Int32)), (.int (0 : Int32)), (.ref b63), (.ref b63)]))
        obtain ⟨cl64, Ar64, q64, Sz64, Nz64, Ha64, Ga64⟩ := id V_b63
        have hin64 : ¬ ((0 : Int32) < 0 ∨ cl64.slots.size ≤ ((0 : Int32)).toNatClampNeg) := inb_of Sz64 ⟨by decide, by decide⟩
        obtain ⟨T65, h65, X65, e65, W65, st65⟩ := stC X63 hx hZ e63 Ar64 (j := (0 : Int32)) hin64 (g := (mkF m 203 #[iv p1, iv p2, iv p3, .val (.long p4), .second] [(.int (116 : Int32)), (.int (0 : Int32)), (.ref b63), (.ref b63)])) rfl rfl (hb hby own_d1_203)
        refine own_go st65 ?_
        replace W65 : Wr h63 h65 b63 _ (.int (116 : Int32)) := W65
        have V65 := Arv.set Ar64 q64 Sz64 Nz64 Ha64 Ga64 (by decide) W65 0 rfl (Nat.le_of_ble_eq_true rfl)
        have N65 := Fr.snoc X65 N0 g_b63
        replace Kp := Kp.wr W65 (Or.inr sz_b63)
        replace Ea_b63 := Ea_b63.wr W65
        replace V_b63 : Arv Z h65 b63 k63 .char (6 : Int32) [(.int (116 : Int32)), (.int (0 : Int32)), (.int (0 : Int32)), (.int (0 : Int32)), (.int (0 : Int32)), (.int (0 : Int32))] (.int (0 : Int32)) := V65
        show own_Go p e below s _ _ _ (T65.setTop (mkF m 204 #[iv p1, iv p2, iv p3, .val (.long p4), .second] [(.ref b63)]))
        refine own_go (fun zt zk => (XS.dup X65.here hx rfl (hb hby own_d1_204) rfl rfl (XS.iconst X65.here hx rfl (hb hby own_d1_205) (XS.bipush X65.here hx rfl (hb hby own_d1_206) zk)))) ?_
        show own_Go p e below s _ _ _ (T65.setTop (mkF m 208 #[iv p1, iv p2, iv p3, .val (.long p4), .second] [(.int (105 : Int32)), (.int (1 : Int32)), (.ref b63), (.ref b63)]))
        obtain ⟨cl66, Ar66, q66, Sz66, Nz66, Ha66, Ga66⟩ := id V_b63
        have hin66 : ¬ ((1 : Int32) < 0 ∨ cl66.slots.size ≤ ((1 : Int32)).toNatClampNeg) := inb_of Sz66 ⟨by decide, by decide⟩
        obtain ⟨T67, h67, X67, e67, W67, st67⟩ := stC X65 hx hZ e65 Ar66 (j := (1 : Int32)) hin66 (g := (mkF m 208 #[iv p1, iv p2, iv p3, .val (.long p4), .second] [(.int (105 : Int32)), (.int (1 : Int32)), (.ref b63), (.ref b63)])) rfl rfl (hb hby own_d1_208)
        refine own_go st67 ?_
        replace W67 : Wr h65 h67 b63 _ (.int (105 : Int32)) := W67
        have V67 := Arv.set Ar66 q66 Sz66 Nz66 Ha66 Ga66 (by decide) W67 1 rfl (Nat.le_of_ble_eq_true rfl)
        have N67 := Fr.snoc X67 N65 g_b63
        replace Kp := Kp.wr W67 (Or.inr sz_b63)
        replace Ea_b63 := Ea_b63.wr W67
        replace V_b63 : Arv Z h67 b63 k63 .char (6 : Int32) [(.int (116 : Int32)), (.int (105 : Int32)), (.int (0 : Int32)), (.int (0 : Int32)), (.int (0 : Int32)), (.int (0 : Int32))] (.int (0 : Int32)) := V67
        show own_Go p e below s _ _ _ (T67.setTop (mkF m 209 #[iv p1, iv p2, iv p3, .val (.long p4), .second] [(.ref b63)]))
        refine own_go (fun zt zk => (XS.dup X67.here hx rfl (hb hby own_d1_209) rfl rfl (XS.iconst X67.here hx rfl (hb hby own_d1_210) (XS.bipush X67.here hx rfl (hb hby own_d1_211) zk)))) ?_
        show own_Go p e below s _ _ _ (T67.setTop (mkF m 213 #[iv p1, iv p2, iv p3, .val (.long p4), .second] [(.int (101 : Int32)), (.int (2 : Int32)), (.ref b63), (.ref b63)]))
        obtain ⟨cl68, Ar68, q68, Sz68, Nz68, Ha68, Ga68⟩ := id V_b63
        have hin68 : ¬ ((2 : Int32) < 0 ∨ cl68.slots.size ≤ ((2 : Int32)).toNatClampNeg) := inb_of Sz68 ⟨by decide, by decide⟩
        obtain ⟨T69, h69, X69, e69, W69, st69⟩ := stC X67 hx hZ e67 Ar68 (j := (2 : Int32)) hin68 (g := (mkF m 213 #[iv p1, iv p2, iv p3, .val (.long p4), .second] [(.int (101 : Int32)), (.int (2 : Int32)), (.ref b63), (.ref b63)])) rfl rfl (hb hby own_d1_213)
        refine own_go st69 ?_
        replace W69 : Wr h67 h69 b63 _ (.int (101 : Int32)) := W69
        have V69 := Arv.set Ar68 q68 Sz68 Nz68 Ha68 Ga68 (by decide) W69 2 rfl (Nat.le_of_ble_eq_true rfl)
        have N69 := Fr.snoc X69 N67 g_b63
        replace Kp := Kp.wr W69 (Or.inr sz_b63)
        replace Ea_b63 := Ea_b63.wr W69
        replace V_b63 : Arv Z h69 b63 k63 .char (6 : Int32) [(.int (116 : Int32)), (.int (105 : Int32)), (.int (101 : Int32)), (.int (0 : Int32)), (.int (0 : Int32)), (.int (0 : Int32))] (.int (0 : Int32)) := V69
        show own_Go p e below s _ _ _ (T69.setTop (mkF m 214 #[iv p1, iv p2, iv p3, .val (.long p4), .second] [(.ref b63)]))
        refine own_go (fun zt zk => (XS.dup X69.here hx rfl (hb hby own_d1_214) rfl rfl (XS.iconst X69.here hx rfl (hb hby own_d1_215) (XS.bipush X69.here hx rfl (hb hby own_d1_216) zk)))) ?_
        show own_Go p e below s _ _ _ (T69.setTop (mkF m 218 #[iv p1, iv p2, iv p3, .val (.long p4), .second] [(.int (114 : Int32)), (.int (3 : Int32)), (.ref b63), (.ref b63)]))
        obtain ⟨cl70, Ar70, q70, Sz70, Nz70, Ha70, Ga70⟩ := id V_b63
        have hin70 : ¬ ((3 : Int32) < 0 ∨ cl70.slots.size ≤ ((3 : Int32)).toNatClampNeg) := inb_of Sz70 ⟨by decide, by decide⟩
        obtain ⟨T71, h71, X71, e71, W71, st71⟩ := stC X69 hx hZ e69 Ar70 (j := (3 : Int32)) hin70 (g := (mkF m 218 #[iv p1, iv p2, iv p3, .val (.long p4), .second] [(.int (114 : Int32)), (.int (3 : Int32)), (.ref b63), (.ref b63)])) rfl rfl (hb hby own_d1_218)
        refine own_go st71 ?_
        replace W71 : Wr h69 h71 b63 _ (.int (114 : Int32)) := W71
        have V71 := Arv.set Ar70 q70 Sz70 Nz70 Ha70 Ga70 (by decide) W71 3 rfl (Nat.le_of_ble_eq_true rfl)
        have N71 := Fr.snoc X71 N69 g_b63
        replace Kp := Kp.wr W71 (Or.inr sz_b63)
        replace Ea_b63 := Ea_b63.wr W71
        replace V_b63 : Arv Z h71 b63 k63 .char (6 : Int32) [(.int (116 : Int32)), (.int (105 : Int32)), (.int (101 : Int32)), (.int (114 : Int32)), (.int (0 : Int32)), (.int (0 : Int32))] (.int (0 : Int32)) := V71
        show own_Go p e below s _ _ _ (T71.setTop (mkF m 219 #[iv p1, iv p2, iv p3, .val (.long p4), .second] [(.ref b63)]))
        refine own_go (fun zt zk => (XS.dup X71.here hx rfl (hb hby own_d1_219) rfl rfl (XS.iconst X71.here hx rfl (hb hby own_d1_220) (XS.bipush X71.here hx rfl (hb hby own_d1_221) zk)))) ?_
        show own_Go p e below s _ _ _ (T71.setTop (mkF m 223 #[iv p1, iv p2, iv p3, .val (.long p4), .second] [(.int (101 : Int32)), (.int (4 : Int32)), (.ref b63), (.ref b63)]))
        obtain ⟨cl72, Ar72, q72, Sz72, Nz72, Ha72, Ga72⟩ := id V_b63
        have hin72 : ¬ ((4 : Int32) < 0 ∨ cl72.slots.size ≤ ((4 : Int32)).toNatClampNeg) := inb_of Sz72 ⟨by decide, by decide⟩
        obtain ⟨T73, h73, X73, e73, W73, st73⟩ := stC X71 hx hZ e71 Ar72 (j := (4 : Int32)) hin72 (g := (mkF m 223 #[iv p1, iv p2, iv p3, .val (.long p4), .second] [(.int (101 : Int32)), (.int (4 : Int32)), (.ref b63), (.ref b63)])) rfl rfl (hb hby own_d1_223)
        refine own_go st73 ?_
        replace W73 : Wr h71 h73 b63 _ (.int (101 : Int32)) := W73
        have V73 := Arv.set Ar72 q72 Sz72 Nz72 Ha72 Ga72 (by decide) W73 4 rfl (Nat.le_of_ble_eq_true rfl)
        have N73 := Fr.snoc X73 N71 g_b63
        replace Kp := Kp.wr W73 (Or.inr sz_b63)
        replace Ea_b63 := Ea_b63.wr W73
        replace V_b63 : Arv Z h73 b63 k63 .char (6 : Int32) [(.int (116 : Int32)), (.int (105 : Int32)), (.int (101 : Int32)), (.int (114 : Int32)), (.int (101 : Int32)), (.int (0 : Int32))] (.int (0 : Int32)) := V73
        show own_Go p e below s _ _ _ (T73.setTop (mkF m 224 #[iv p1, iv p2, iv p3, .val (.long p4), .second] [(.ref b63)]))
        refine own_go (fun zt zk => (XS.dup X73.here hx rfl (hb hby own_d1_224) rfl rfl (XS.iconst X73.here hx rfl (hb hby own_d1_225) (XS.bipush X73.here hx rfl (hb hby own_d1_226) zk)))) ?_
        show own_Go p e below s _ _ _ (T73.setTop (mkF m 228 #[iv p1, iv p2, iv p3, .val (.long p4), .second] [(.int (100 : Int32)), (.int (5 : Int32)), (.ref b63), (.ref b63)]))
        obtain ⟨cl74, Ar74, q74, Sz74, Nz74, Ha74, Ga74⟩ := id V_b63
        have hin74 : ¬ ((5 : Int32) < 0 ∨ cl74.slots.size ≤ ((5 : Int32)).toNatClampNeg) := inb_of Sz74 ⟨by decide, by decide⟩
        obtain ⟨T75, h75, X75, e75, W75, st75⟩ := stC X73 hx hZ e73 Ar74 (j := (5 : Int32)) hin74 (g := (mkF m 228 #[iv p1, iv p2, iv p3, .val (.long p4), .second] [(.int (100 : Int32)), (.int (5 : Int32)), (.ref b63), (.ref b63)])) rfl rfl (hb hby own_d1_228)
        refine own_go st75 ?_
        replace W75 : Wr h73 h75 b63 _ (.int (100 : Int32)) := W75
        have V75 := Arv.set Ar74 q74 Sz74 Nz74 Ha74 Ga74 (by decide) W75 5 rfl (Nat.le_of_ble_eq_true rfl)
        have N75 := Fr.snoc X75 N73 g_b63
        replace Kp := Kp.wr W75 (Or.inr sz_b63)
        replace Ea_b63 := Ea_b63.wr W75
        replace V_b63 : Arv Z h75 b63 k63 .char (6 : Int32) [(.int (116 : Int32)), (.int (105 : Int32)), (.int (101 : Int32)), (.int (114 : Int32)), (.int (101 : Int32)), (.int (100 : Int32))] (.int (0 : Int32)) := V75
        show own_Go p e below s _ _ _ (T75.setTop (mkF m 229 #[iv p1, iv p2, iv p3, .val (.long p4), .second] [(.ref b63)]))
        exact own_fin X75 Bd.notSynchronized (fun h => by rw [Bd.returns] at h; cases h) (fun fs hr => retOut X75 hx (t := (.array .char)) (w := (.ref b63)) Bd.returns rfl (Or.inr (Or.inr (Or.inr (Or.inr ⟨rfl, rfl, rfl⟩)))) (hb hby own_d1_229) hr) (by rw [e75]; exact ⟨_, _, [(116 : Int32), (105 : Int32), (101 : Int32), (114 : Int32), (101 : Int32), (100 : Int32)], rfl, N75, Kp, sz_b63, Nat.le_of_ble_eq_true rfl, V_b63, (own_ac (by decide) (own_ac (by decide) (own_ac (by decide) (own_ac (by decide) (own_ac (by decide) (own_ac (by decide) own_an))))))⟩) (by decide) (by decide)
      · refine own_go (fun zt zk => (XS.ifYes X0.here hx rfl (pc0 := 192) (pc' := 230) rfl (hb hby own_d1_192) rfl ((if0 _ _).trans (feq (hb192 : ¬ (p2 = (0 : Int32)))).2) (by decide) (by decide) (XS.iloadN X0.here hx rfl (hb hby own_d1_230) rfl (XS.iconst X0.here hx rfl (hb hby own_d1_231) zk)))) ?_
        show own_Go p e below s _ _ _ (s₁.setTop (mkF m 232 #[iv p1, iv p2, iv p3, .val (.long p4), .second] [(.int (1 : Int32)), (.int p2)]))
        by_cases hb232 : p2 = (1 : Int32)
        · refine own_go (fun zt zk => (XS.icmpNo X0.here hx rfl (hb hby own_d1_232) rfl (teq (hb232 : p2 = (1 : Int32))).2 (XS.bipush X0.here hx rfl (hb hby own_d1_235) zk))) ?_
          show own_Go p e below s _ _ _ (s₁.setTop (mkF m 237 #[iv p1, iv p2, iv p3, .val (.long p4), .second] [(.int (7 : Int32))]))
          obtain ⟨T76, h76, k76, X76, e76, E76, A76, Ea76, st76⟩ := newPE X0 hx hZ (hw _ (List.mem_of_getElem? (i := 4) rfl)) e0 (g := (mkF m 237 #[iv p1, iv p2, iv p3, .val (.long p4), .second] [(.int (7 : Int32))])) rfl (hb hby own_d1_237) rfl (by decide) (cap := 7) (by decide) (by decide) (by decide) (by decide) (ad := "[C") (by decide)
          obtain ⟨b76, g76⟩ : ∃ z, z = h0.size := ⟨_, rfl⟩
          rw [← g76] at A76 Ea76 st76
          refine own_go st76 ?_
          have sz_b76 : h0.size ≤ b76 := Nat.le_trans Kp.1 (Nat.le_of_eq g76.symm)
          have g_b76 : n0 ≤ b76 := Nat.le_trans Z0 sz_b76
          replace Kp := Kp.ext E76
          have V_b76 : Arv Z h76 b76 k76 .char (7 : Int32) [(.int (0 : Int32)), (.int (0 : Int32)), (.int (0 : Int32)), (.int (0 : Int32)), (.int (0 : Int32)), (.int (0 : Int32)), (.int (0 : Int32))] (.int (0 : Int32)) := (Arv.new A76 (by decide)).pad (pad_rep [] (.int (0 : Int32)) 7)
          have Ea_b76 := Ea76
          show own_Go p e below s _ _ _ (T76.setTop (mkF m 239 #[iv p1, iv p2, iv p3, .val (.long p4), .second] [(.ref b76)]))
          refine own_go (fun zt zk => (XS.dup X76.here hx rfl (hb hby own_d1_239) rfl rfl (XS.iconst X76.here hx rfl (hb hby own_d1_240) (XS.bipush X76.here hx rfl (hb hby own_d1_241) zk)))) ?_
          show own_Go p e below s _ _ _ (T76.setTop (mkF m 243 #[iv p1, iv p2, iv p3, .val (.long p4), .second] [(.int (116 : Int32)), (.int (0 : Int32)), (.ref b76), (.ref b76)]))
          obtain ⟨cl77, Ar77, q77, Sz77, Nz77, Ha77, Ga77⟩ := id V_b76
          have hin77 : ¬ ((0 : Int32) < 0 ∨ cl77.slots.size ≤ ((0 : Int32)).toNatClampNeg) := inb_of Sz77 ⟨by decide, by decide⟩
          obtain ⟨T78, h78, X78, e78, W78, st78⟩ := stC X76 hx hZ e76 Ar77 (j := (0 : Int32)) hin77 (g := (mkF m 243 #[iv p1, iv p2, iv p3, .val (.long p4), .second] [(.int (116 : Int32)), (.int (0 : Int32)), (.ref b76), (.ref b76)])) rfl rfl (hb hby own_d1_243)
          refine own_go st78 ?_
          replace W78 : Wr h76 h78 b76 _ (.int (116 : Int32)) := W78
          have V78 := Arv.set Ar77 q77 Sz77 Nz77 Ha77 Ga77 (by decide) W78 0 rfl (Nat.le_of_ble_eq_true rfl)
          have N78 := Fr.snoc X78 N0 g_b76
          replace Kp := Kp.wr W78 (Or.inr sz_b76)
          replace Ea_b76 := Ea_b76.wr W78
          replace V_b76 : Arv Z h78 b76 k76 .char (7 : Int32) [(.int (116 : Int32)), (.int (0 : Int32)), (.int (0 : Int32)), (.int (0 : Int32)), (.int (0 : Int32)), (.int (0 : Int32)), (.int (0 : Int32))] (.int (0 : Int32)) := V78
          show own_Go p e below s _ _ _ (T78.setTop (mkF m 244 #[iv p1, iv p2, iv p3, .val (.long p4), .second] [(.ref b76)]))
          refine own_go (fun zt zk => (XS.dup X78.here hx rfl (hb hby own_d1_244) rfl rfl (XS.iconst X78.here hx rfl (hb hby own_d1_245) (XS.bipush X78.here hx rfl (hb hby own_d1_246) zk)))) ?_
          show own_Go p e below s _ _ _ (T78.setTop (mkF m 248 #[iv p1, iv p2, iv p3, .val (.long p4), .second] [(.int (105 : Int32)), (.int (1 : Int32)), (.ref b76), (.ref b76)]))
          obtain ⟨cl79, Ar79, q79, Sz79, Nz79, Ha79, Ga79⟩ := id V_b76
          have hin79 : ¬ ((1 : Int32) < 0 ∨ cl79.slots.size ≤ ((1 : Int32)).toNatClampNeg) := inb_of Sz79 ⟨by decide, by decide⟩
          obtain ⟨T80, h80, X80, e80, W80, st80⟩ := stC X78 hx hZ e78 Ar79 (j := (1 : Int32)) hin79 (g := (mkF m 248 #[iv p1, iv p2, iv p3, .val (.long p4), .second] [(.int (105 : Int32)), (.int (1 : Int32)), (.ref b76), (.ref b76)])) rfl rfl (hb hby own_d1_248)
          refine own_go st80 ?_
          replace W80 : Wr h78 h80 b76 _ (.int (105 : Int32)) := W80
          have V80 := Arv.set Ar79 q79 Sz79 Nz79 Ha79 Ga79 (by decide) W80 1 rfl (Nat.le_of_ble_eq_true rfl)
          have N80 := Fr.snoc X80 N78 g_b76
          replace Kp := Kp.wr W80 (Or.inr sz_b76)
          replace Ea_b76 := Ea_b76.wr W80
          replace V_b76 : Arv Z h80 b76 k76 .char (7 : Int32) [(.int (116 : Int32)), (.int (105 : Int32)), (.int (0 : Int32)), (.int (0 : Int32)), (.int (0 : Int32)), (.int (0 : Int32)), (.int (0 : Int32))] (.int (0 : Int32)) := V80
          show own_Go p e below s _ _ _ (T80.setTop (mkF m 249 #[iv p1, iv p2, iv p3, .val (.long p4), .second] [(.ref b76)]))
          refine own_go (fun zt zk => (XS.dup X80.here hx rfl (hb hby own_d1_249) rfl rfl (XS.iconst X80.here hx rfl (hb hby own_d1_250) (XS.bipush X80.here hx rfl (hb hby own_d1_251) zk)))) ?_
          show own_Go p e below s _ _ _ (T80.setTop (mkF m 253 #[iv p1, iv p2, iv p3, .val (.long p4), .second] [(.int (101 : Int32)), (.int (2 : Int32)), (.ref b76), (.ref b76)]))
          obtain ⟨cl81, Ar81, q81, Sz81, Nz81, Ha81, Ga81⟩ := id V_b76
          have hin81 : ¬ ((2 : Int32) < 0 ∨ cl81.slots.size ≤ ((2 : Int32)).toNatClampNeg) := inb_of Sz81 ⟨by decide, by decide⟩
          obtain ⟨T82, h82, X82, e82, W82, st82⟩ := stC X80 hx hZ e80 Ar81 (j := (2 : Int32)) hin81 (g := (mkF m 253 #[iv p1, iv p2, iv p3, .val (.long p4), .second] [(.int (101 : Int32)), (.int (2 : Int32)), (.ref b76), (.ref b76)])) rfl rfl (hb hby own_d1_253)
          refine own_go st82 ?_
          replace W82 : Wr h80 h82 b76 _ (.int (101 : Int32)) := W82
          have V82 := Arv.set Ar81 q81 Sz81 Nz81 Ha81 Ga81 (by decide) W82 2 rfl (Nat.le_of_ble_eq_true rfl)
          have N82 := Fr.snoc X82 N80 g_b76
          replace Kp := Kp.wr W82 (Or.inr sz_b76)
          replace Ea_b76 := Ea_b76.wr W82
          replace V_b76 : Arv Z h82 b76 k76 .char (7 : Int32) [(.int (116 : Int32)), (.int (105 : Int32)), (.int (101 : Int32)), (.int (0 : Int32)), (.int (0 : Int32)), (.int (0 : Int32)), (.int (0 : Int32))] (.int (0 : Int32)) := V82
          show own_Go p e below s _ _ _ (T82.setTop (mkF m 254 #[iv p1, iv p2, iv p3, .val (.long p4), .second] [(.ref b76)]))
          refine own_go (fun zt zk => (XS.dup X82.here hx rfl (hb hby own_d1_254) rfl rfl (XS.iconst X82.here hx rfl (hb hby own_d1_255) (XS.bipush X82.here hx rfl (hb hby own_d1_256) zk)))) ?_
          show own_Go p e below s _ _ _ (T82.setTop (mkF m 258 #[iv p1, iv p2, iv p3, .val (.long p4), .second] [(.int (114 : Int32)), (.int (3 : Int32)), (.ref b76), (.ref b76)]))
          obtain ⟨cl83, Ar83, q83, Sz83, Nz83, Ha83, Ga83⟩ := id V_b76
          have hin83 : ¬ ((3 : Int32) < 0 ∨ cl83.slots.size ≤ ((3 : Int32)).toNatClampNeg) := inb_of Sz83 ⟨by decide, by decide⟩
          obtain ⟨T84, h84, X84, e84, W84, st84⟩ := stC X82 hx hZ e82 Ar83 (j := (3 : Int32)) hin83 (g := (mkF m 258 #[iv p1, iv p2, iv p3, .val (.long p4), .second] [(.int (114 : Int32)), (.int (3 : Int32)), (.ref b76), (.ref b76)])) rfl rfl (hb hby own_d1_258)
          refine own_go st84 ?_
          replace W84 : Wr h82 h84 b76 _ (.int (114 : Int32)) := W84
          have V84 := Arv.set Ar83 q83 Sz83 Nz83 Ha83 Ga83 (by decide) W84 3 rfl (Nat.le_of_ble_eq_true rfl)
          have N84 := Fr.snoc X84 N82 g_b76
          replace Kp := Kp.wr W84 (Or.inr sz_b76)
          replace Ea_b76 := Ea_b76.wr W84
          replace V_b76 : Arv Z h84 b76 k76 .char (7 : Int32) [(.int (116 : Int32)), (.int (105 : Int32)), (.int (101 : Int32)), (.int (114 : Int32)), (.int (0 : Int32)), (.int (0 : Int32)), (.int (0 : Int32))] (.int (0 : Int32)) := V84
          show own_Go p e below s _ _ _ (T84.setTop (mkF m 259 #[iv p1, iv p2, iv p3, .val (.long p4), .second] [(.ref b76)]))
          refine own_go (fun zt zk => (XS.dup X84.here hx rfl (hb hby own_d1_259) rfl rfl (XS.iconst X84.here hx rfl (hb hby own_d1_260) (XS.bipush X84.here hx rfl (hb hby own_d1_261) zk)))) ?_
          show own_Go p e below s _ _ _ (T84.setTop (mkF m 263 #[iv p1, iv p2, iv p3, .val (.long p4), .second] [(.int (101 : Int32)), (.int (4 : Int32)), (.ref b76), (.ref b76)]))
          obtain ⟨cl85, Ar85, q85, Sz85, Nz85, Ha85, Ga85⟩ := id V_b76
          have hin85 : ¬ ((4 : Int32) < 0 ∨ cl85.slots.size ≤ ((4 : Int32)).toNatClampNeg) := inb_of Sz85 ⟨by decide, by decide⟩
          obtain ⟨T86, h86, X86, e86, W86, st86⟩ := stC X84 hx hZ e84 Ar85 (j := (4 : Int32)) hin85 (g := (mkF m 263 #[iv p1, iv p2, iv p3, .val (.long p4), .second] [(.int (101 : Int32)), (.int (4 : Int32)), (.ref b76), (.ref b76)])) rfl rfl (hb hby own_d1_263)
          refine own_go st86 ?_
          replace W86 : Wr h84 h86 b76 _ (.int (101 : Int32)) := W86
          have V86 := Arv.set Ar85 q85 Sz85 Nz85 Ha85 Ga85 (by decide) W86 4 rfl (Nat.le_of_ble_eq_true rfl)
          have N86 := Fr.snoc X86 N84 g_b76
          replace Kp := Kp.wr W86 (Or.inr sz_b76)
          replace Ea_b76 := Ea_b76.wr W86
          replace V_b76 : Arv Z h86 b76 k76 .char (7 : Int32) [(.int (116 : Int32)), (.int (105 : Int32)), (.int (101 : Int32)), (.int (114 : Int32)), (.int (101 : Int32)), (.int (0 : Int32)), (.int (0 : Int32))] (.int (0 : Int32)) := V86
          show own_Go p e below s _ _ _ (T86.setTop (mkF m 264 #[iv p1, iv p2, iv p3, .val (.long p4), .second] [(.ref b76)]))
          refine own_go (fun zt zk => (XS.dup X86.here hx rfl (hb hby own_d1_264) rfl rfl (XS.iconst X86.here hx rfl (hb hby own_d1_265) (XS.bipush X86.here hx rfl (hb hby own_d1_266) zk)))) ?_
          show own_Go p e below s _ _ _ (T86.setTop (mkF m 268 #[iv p1, iv p2, iv p3, .val (.long p4), .second] [(.int (100 : Int32)), (.int (5 : Int32)), (.ref b76), (.ref b76)]))
          obtain ⟨cl87, Ar87, q87, Sz87, Nz87, Ha87, Ga87⟩ := id V_b76
          have hin87 : ¬ ((5 : Int32) < 0 ∨ cl87.slots.size ≤ ((5 : Int32)).toNatClampNeg) := inb_of Sz87 ⟨by decide, by decide⟩
          obtain ⟨T88, h88, X88, e88, W88, st88⟩ := stC X86 hx hZ e86 Ar87 (j := (5 : Int32)) hin87 (g := (mkF m 268 #[iv p1, iv p2, iv p3, .val (.long p4), .second] [(.int (100 : Int32)), (.int (5 : Int32)), (.ref b76), (.ref b76)])) rfl rfl (hb hby own_d1_268)
          refine own_go st88 ?_
          replace W88 : Wr h86 h88 b76 _ (.int (100 : Int32)) := W88
          have V88 := Arv.set Ar87 q87 Sz87 Nz87 Ha87 Ga87 (by decide) W88 5 rfl (Nat.le_of_ble_eq_true rfl)
          have N88 := Fr.snoc X88 N86 g_b76
          replace Kp := Kp.wr W88 (Or.inr sz_b76)
          replace Ea_b76 := Ea_b76.wr W88
          replace V_b76 : Arv Z h88 b76 k76 .char (7 : Int32) [(.int (116 : Int32)), (.int (105 : Int32)), (.int (101 : Int32)), (.int (114 : Int32)), (.int (101 : Int32)), (.int (100 : Int32)), (.int (0 : Int32))] (.int (0 : Int32)) := V88
          show own_Go p e below s _ _ _ (T88.setTop (mkF m 269 #[iv p1, iv p2, iv p3, .val (.long p4), .second] [(.ref b76)]))
          refine own_go (fun zt zk => (XS.dup X88.here hx rfl (hb hby own_d1_269) rfl rfl (XS.bipush X88.here hx rfl (hb hby own_d1_270) (XS.iloadN X88.here hx rfl (hb hby own_d1_272) rfl zk)))) ?_
          show own_Go p e below s _ _ _ (T88.setTop (mkF m 273 #[iv p1, iv p2, iv p3, .val (.long p4), .second] [(.int p3), (.int (6 : Int32)), (.ref b76), (.ref b76)]))
          obtain ⟨cl89, Ar89, q89, Sz89, Nz89, Ha89, Ga89⟩ := id V_b76
          have hin89 : ¬ ((6 : Int32) < 0 ∨ cl89.slots.size ≤ ((6 : Int32)).toNatClampNeg) := inb_of Sz89 ⟨by decide, by decide⟩
          obtain ⟨T90, h90, X90, e90, W90, st90⟩ := stC X88 hx hZ e88 Ar89 (j := (6 : Int32)) hin89 (g := (mkF m 273 #[iv p1, iv p2, iv p3, .val (.long p4), .second] [(.int p3), (.int (6 : Int32)), (.ref b76), (.ref b76)])) rfl rfl (hb hby own_d1_273)
          refine own_go st90 ?_
          rw [show nar .char p3 = p3 from own_narc hr_p3] at W90
          have V90 := Arv.set Ar89 q89 Sz89 Nz89 Ha89 Ga89 (own_fitc hr_p3) W90 6 rfl (Nat.le_of_ble_eq_true rfl)
          have N90 := Fr.snoc X90 N88 g_b76
          replace Kp := Kp.wr W90 (Or.inr sz_b76)
          replace Ea_b76 := Ea_b76.wr W90
          replace V_b76 : Arv Z h90 b76 k76 .char (7 : Int32) [(.int (116 : Int32)), (.int (105 : Int32)), (.int (101 : Int32)), (.int (114 : Int32)), (.int (101 : Int32)), (.int (100 : Int32)), (.int p3)] (.int (0 : Int32)) := V90
          show own_Go p e below s _ _ _ (T90.setTop (mkF m 274 #[iv p1, iv p2, iv p3, .val (.long p4), .second] [(.ref b76)]))
          exact own_fin X90 Bd.notSynchronized (fun h => by rw [Bd.returns] at h; cases h) (fun fs hr => retOut X90 hx (t := (.array .char)) (w := (.ref b76)) Bd.returns rfl (Or.inr (Or.inr (Or.inr (Or.inr ⟨rfl, rfl, rfl⟩)))) (hb hby own_d1_274) hr) (by rw [e90]; exact ⟨_, _, [(116 : Int32), (105 : Int32), (101 : Int32), (114 : Int32), (101 : Int32), (100 : Int32), p3], rfl, N90, Kp, sz_b76, Nat.le_of_ble_eq_true rfl, V_b76, (own_ac (by decide) (own_ac (by decide) (own_ac (by decide) (own_ac (by decide) (own_ac (by decide) (own_ac (by decide) (own_ac hr_p3 own_an)))))))⟩) (by decide) (by decide)
        · refine own_go (fun zt zk => (XS.icmpYes X0.here hx rfl (pc0 := 232) (pc' := 275) rfl (hb hby own_d1_232) rfl (feq (hb232 : ¬ (p2 = (1 : Int32)))).2 (by decide) (by decide) (XS.iloadN X0.here hx rfl (hb hby own_d1_275) rfl (XS.iconst X0.here hx rfl (hb hby own_d1_276) zk)))) ?_
          show own_Go p e below s _ _ _ (s₁.setTop (mkF m 277 #[iv p1, iv p2, iv p3, .val (.long p4), .second] [(.int (2 : Int32)), (.int p2)]))
          by_cases hb277 : p2 = (2 : Int32)
          · refine own_go (fun zt zk => (XS.icmpNo X0.here hx rfl (hb hby own_d1_277) rfl (teq (hb277 : p2 = (2 : Int32))).2 (XS.iconst X0.here hx rfl (hb hby own_d1_280) zk))) ?_
            show own_Go p e below s _ _ _ (s₁.setTop (mkF m 281 #[iv p1, iv p2, iv p3, .val (.long p4), .second] [(.int (5 : Int32))]))
            obtain ⟨T91, h91, k91, X91, e91, E91, A91, Ea91, st91⟩ := newPE X0 hx hZ (hw _ (List.mem_of_getElem? (i := 4) rfl)) e0 (g := (mkF m 281 #[iv p1, iv p2, iv p3, .val (.long p4), .second] [(.int (5 : Int32))])) rfl (hb hby own_d1_281) rfl (by decide) (cap := 5) (by decide) (by decide) (by decide) (by decide) (ad := "[C") (by decide)
            obtain ⟨b91, g91⟩ : ∃ z, z = h0.size := ⟨_, rfl⟩
            rw [← g91] at A91 Ea91 st91
            refine own_go st91 ?_
            have sz_b91 : h0.size ≤ b91 := Nat.le_trans Kp.1 (Nat.le_of_eq g91.symm)
            have g_b91 : n0 ≤ b91 := Nat.le_trans Z0 sz_b91
            replace Kp := Kp.ext E91
            have V_b91 : Arv Z h91 b91 k91 .char (5 : Int32) [(.int (0 : Int32)), (.int (0 : Int32)), (.int (0 : Int32)), (.int (0 : Int32)), (.int (0 : Int32))] (.int (0 : Int32)) := (Arv.new A91 (by decide)).pad (pad_rep [] (.int (0 : Int32)) 5)
            have Ea_b91 := Ea91
            show own_Go p e below s _ _ _ (T91.setTop (mkF m 283 #[iv p1, iv p2, iv p3, .val (.long p4), .second] [(.ref b91)]))
            refine own_go (fun zt zk => (XS.dup X91.here hx rfl (hb hby own_d1_283) rfl rfl (XS.iconst X91.here hx rfl (hb hby own_d1_284) (XS.bipush X91.here hx rfl (hb hby own_d1_285) zk)))) ?_
            show own_Go p e below s _ _ _ (T91.setTop (mkF m 287 #[iv p1, iv p2, iv p3, .val (.long p4), .second] [(.int (116 : Int32)), (.int (0 : Int32)), (.ref b91), (.ref b91)]))
            obtain ⟨cl92, Ar92, q92, Sz92, Nz92, Ha92, Ga92⟩ := id V_b91
            have hin92 : ¬ ((0 : Int32) < 0 ∨ cl92.slots.size ≤ ((0 : Int32)).toNatClampNeg) := inb_of Sz92 ⟨by decide, by decide⟩
            obtain ⟨T93, h93, X93, e93, W93, st93⟩ := stC X91 hx hZ e91 Ar92 (j := (0 : Int32)) hin92 (g := (mkF m 287 #[iv p1, iv p2, iv p3, .val (.long p4), .second] [(.int (116 : Int32)), (.int (0 : Int32)), (.ref b91), (.ref b91)])) rfl rfl (hb hby own_d1_287)
            refine own_go st93 ?_
            replace W93 : Wr h91 h93 b91 _ (.int (116 : Int32)) := W93
            have V93 := Arv.set Ar92 q92 Sz92 Nz92 Ha92 Ga92 (by decide) W93 0 rfl (Nat.le_of_ble_eq_true rfl)
            have N93 := Fr.snoc X93 N0 g_b91
            replace Kp := Kp.wr W93 (Or.inr sz_b91)
            replace Ea_b91 := Ea_b91.wr W93
            replace V_b91 : Arv Z h93 b91 k91 .char (5 : Int32) [(.int (116 : Int32)), (.int (0 : Int32)), (.int (0 : Int32)), (.int (0 : Int32)), (.int (0 : Int32))] (.int (0 : Int32)) := V93
            show own_Go p e below s _ _ _ (T93.setTop (mkF m 288 #[iv p1, iv p2, iv p3, .val (.long p4), .second] [(.ref b91)]))
            refine own_go (fun zt zk => (XS.dup X93.here hx rfl (hb hby own_d1_288) rfl rfl (XS.iconst X93.here hx rfl (hb hby own_d1_289) (XS.bipush X93.here hx rfl (hb hby own_d1_290) zk)))) ?_
            show own_Go p e below s _ _ _ (T93.setTop (mkF m 292 #[iv p1, iv p2, iv p3, .val (.long p4), .second] [(.int (105 : Int32)), (.int (1 : Int32)), (.ref b91), (.ref b91)]))
            obtain ⟨cl94, Ar94, q94, Sz94, Nz94, Ha94, Ga94⟩ := id V_b91
            have hin94 : ¬ ((1 : Int32) < 0 ∨ cl94.slots.size ≤ ((1 : Int32)).toNatClampNeg) := inb_of Sz94 ⟨by decide, by decide⟩
            obtain ⟨T95, h95, X95, e95, W95, st95⟩ := stC X93 hx hZ e93 Ar94 (j := (1 : Int32)) hin94 (g := (mkF m 292 #[iv p1, iv p2, iv p3, .val (.long p4), .second] [(.int (105 : Int32)), (.int (1 : Int32)), (.ref b91), (.ref b91)])) rfl rfl (hb hby own_d1_292)
            refine own_go st95 ?_
            replace W95 : Wr h93 h95 b91 _ (.int (105 : Int32)) := W95
            have V95 := Arv.set Ar94 q94 Sz94 Nz94 Ha94 Ga94 (by decide) W95 1 rfl (Nat.le_of_ble_eq_true rfl)
            have N95 := Fr.snoc X95 N93 g_b91
            replace Kp := Kp.wr W95 (Or.inr sz_b91)
            replace Ea_b91 := Ea_b91.wr W95
            replace V_b91 : Arv Z h95 b91 k91 .char (5 : Int32) [(.int (116 : Int32)), (.int (105 : Int32)), (.int (0 : Int32)), (.int (0 : Int32)), (.int (0 : Int32))] (.int (0 : Int32)) := V95
            show own_Go p e below s _ _ _ (T95.setTop (mkF m 293 #[iv p1, iv p2, iv p3, .val (.long p4), .second] [(.ref b91)]))
            refine own_go (fun zt zk => (XS.dup X95.here hx rfl (hb hby own_d1_293) rfl rfl (XS.iconst X95.here hx rfl (hb hby own_d1_294) (XS.bipush X95.here hx rfl (hb hby own_d1_295) zk)))) ?_
            show own_Go p e below s _ _ _ (T95.setTop (mkF m 297 #[iv p1, iv p2, iv p3, .val (.long p4), .second] [(.int (101 : Int32)), (.int (2 : Int32)), (.ref b91), (.ref b91)]))
            obtain ⟨cl96, Ar96, q96, Sz96, Nz96, Ha96, Ga96⟩ := id V_b91
            have hin96 : ¬ ((2 : Int32) < 0 ∨ cl96.slots.size ≤ ((2 : Int32)).toNatClampNeg) := inb_of Sz96 ⟨by decide, by decide⟩
            obtain ⟨T97, h97, X97, e97, W97, st97⟩ := stC X95 hx hZ e95 Ar96 (j := (2 : Int32)) hin96 (g := (mkF m 297 #[iv p1, iv p2, iv p3, .val (.long p4), .second] [(.int (101 : Int32)), (.int (2 : Int32)), (.ref b91), (.ref b91)])) rfl rfl (hb hby own_d1_297)
            refine own_go st97 ?_
            replace W97 : Wr h95 h97 b91 _ (.int (101 : Int32)) := W97
            have V97 := Arv.set Ar96 q96 Sz96 Nz96 Ha96 Ga96 (by decide) W97 2 rfl (Nat.le_of_ble_eq_true rfl)
            have N97 := Fr.snoc X97 N95 g_b91
            replace Kp := Kp.wr W97 (Or.inr sz_b91)
            replace Ea_b91 := Ea_b91.wr W97
            replace V_b91 : Arv Z h97 b91 k91 .char (5 : Int32) [(.int (116 : Int32)), (.int (105 : Int32)), (.int (101 : Int32)), (.int (0 : Int32)), (.int (0 : Int32))] (.int (0 : Int32)) := V97
            show own_Go p e below s _ _ _ (T97.setTop (mkF m 298 #[iv p1, iv p2, iv p3, .val (.long p4), .second] [(.ref b91)]))
            refine own_go (fun zt zk => (XS.dup X97.here hx rfl (hb hby own_d1_298) rfl rfl (XS.iconst X97.here hx rfl (hb hby own_d1_299) (XS.bipush X97.here hx rfl (hb hby own_d1_300) zk)))) ?_
            show own_Go p e below s _ _ _ (T97.setTop (mkF m 302 #[iv p1, iv p2, iv p3, .val (.long p4), .second] [(.int (114 : Int32)), (.int (3 : Int32)), (.ref b91), (.ref b91)]))
            obtain ⟨cl98, Ar98, q98, Sz98, Nz98, Ha98, Ga98⟩ := id V_b91
            have hin98 : ¬ ((3 : Int32) < 0 ∨ cl98.slots.size ≤ ((3 : Int32)).toNatClampNeg) := inb_of Sz98 ⟨by decide, by decide⟩
            obtain ⟨T99, h99, X99, e99, W99, st99⟩ := stC X97 hx hZ e97 Ar98 (j := (3 : Int32)) hin98 (g := (mkF m 302 #[iv p1, iv p2, iv p3, .val (.long p4), .second] [(.int (114 : Int32)), (.int (3 : Int32)), (.ref b91), (.ref b91)])) rfl rfl (hb hby own_d1_302)
            refine own_go st99 ?_
            replace W99 : Wr h97 h99 b91 _ (.int (114 : Int32)) := W99
            have V99 := Arv.set Ar98 q98 Sz98 Nz98 Ha98 Ga98 (by decide) W99 3 rfl (Nat.le_of_ble_eq_true rfl)
            have N99 := Fr.snoc X99 N97 g_b91
            replace Kp := Kp.wr W99 (Or.inr sz_b91)
            replace Ea_b91 := Ea_b91.wr W99
            replace V_b91 : Arv Z h99 b91 k91 .char (5 : Int32) [(.int (116 : Int32)), (.int (105 : Int32)), (.int (101 : Int32)), (.int (114 : Int32)), (.int (0 : Int32))] (.int (0 : Int32)) := V99
            show own_Go p e below s _ _ _ (T99.setTop (mkF m 303 #[iv p1, iv p2, iv p3, .val (.long p4), .second] [(.ref b91)]))
            refine own_go (fun zt zk => (XS.dup X99.here hx rfl (hb hby own_d1_303) rfl rfl (XS.iconst X99.here hx rfl (hb hby own_d1_304) (XS.bipush X99.here hx rfl (hb hby own_d1_305) zk)))) ?_
            show own_Go p e below s _ _ _ (T99.setTop (mkF m 307 #[iv p1, iv p2, iv p3, .val (.long p4), .second] [(.int (101 : Int32)), (.int (4 : Int32)), (.ref b91), (.ref b91)]))
            obtain ⟨cl100, Ar100, q100, Sz100, Nz100, Ha100, Ga100⟩ := id V_b91
            have hin100 : ¬ ((4 : Int32) < 0 ∨ cl100.slots.size ≤ ((4 : Int32)).toNatClampNeg) := inb_of Sz100 ⟨by decide, by decide⟩
            obtain ⟨T101, h101, X101, e101, W101, st101⟩ := stC X99 hx hZ e99 Ar100 (j := (4 : Int32)) hin100 (g := (mkF m 307 #[iv p1, iv p2, iv p3, .val (.long p4), .second] [(.int (101 : Int32)), (.int (4 : Int32)), (.ref b91), (.ref b91)])) rfl rfl (hb hby own_d1_307)
            refine own_go st101 ?_
            replace W101 : Wr h99 h101 b91 _ (.int (101 : Int32)) := W101
            have V101 := Arv.set Ar100 q100 Sz100 Nz100 Ha100 Ga100 (by decide) W101 4 rfl (Nat.le_of_ble_eq_true rfl)
            have N101 := Fr.snoc X101 N99 g_b91
            replace Kp := Kp.wr W101 (Or.inr sz_b91)
            replace Ea_b91 := Ea_b91.wr W101
            replace V_b91 : Arv Z h101 b91 k91 .char (5 : Int32) [(.int (116 : Int32)), (.int (105 : Int32)), (.int (101 : Int32)), (.int (114 : Int32)), (.int (101 : Int32))] (.int (0 : Int32)) := V101
            show own_Go p e below s _ _ _ (T101.setTop (mkF m 308 #[iv p1, iv p2, iv p3, .val (.long p4), .second] [(.ref b91)]))
            exact own_fin X101 Bd.notSynchronized (fun h => by rw [Bd.returns] at h; cases h) (fun fs hr => retOut X101 hx (t := (.array .char)) (w := (.ref b91)) Bd.returns rfl (Or.inr (Or.inr (Or.inr (Or.inr ⟨rfl, rfl, rfl⟩)))) (hb hby own_d1_308) hr) (by rw [e101]; exact ⟨_, _, [(116 : Int32), (105 : Int32), (101 : Int32), (114 : Int32), (101 : Int32)], rfl, N101, Kp, sz_b91, Nat.le_of_ble_eq_true rfl, V_b91, (own_ac (by decide) (own_ac (by decide) (own_ac (by decide) (own_ac (by decide) (own_ac (by decide) own_an)))))⟩) (by decide) (by decide)
          · refine own_go (fun zt zk => (XS.icmpYes X0.here hx rfl (pc0 := 277) (pc' := 309) rfl (hb hby own_d1_277) rfl (feq (hb277 : ¬ (p2 = (2 : Int32)))).2 (by decide) (by decide) (XS.bipush X0.here hx rfl (hb hby own_d1_309) zk))) ?_
            show own_Go p e below s _ _ _ (s₁.setTop (mkF m 311 #[iv p1, iv p2, iv p3, .val (.long p4), .second] [(.int (7 : Int32))]))
            obtain ⟨T102, h102, k102, X102, e102, E102, A102, Ea102, st102⟩ := newPE X0 hx hZ (hw _ (List.mem_of_getElem? (i := 4) rfl)) e0 (g := (mkF m 311 #[iv p1, iv p2, iv p3, .val (.long p4), .second] [(.int (7 : Int32))])) rfl (hb hby own_d1_311) rfl (by decide) (cap := 7) (by decide) (by decide) (by decide) (by decide) (ad := "[C") (by decide)
            obtain ⟨b102, g102⟩ : ∃ z, z = h0.size := ⟨_, rfl⟩
            rw [← g102] at A102 Ea102 st102
            refine own_go st102 ?_
            have sz_b102 : h0.size ≤ b102 := Nat.le_trans Kp.1 (Nat.le_of_eq g102.symm)
            have g_b102 : n0 ≤ b102 := Nat.le_trans Z0 sz_b102
            replace Kp := Kp.ext E102
            have V_b102 : Arv Z h102 b102 k102 .char (7 : Int32) [(.int (0 : Int32)), (.int (0 : Int32)), (.int (0 : Int32)), (.int (0 : Int32)), (.int (0 : Int32)), (.int (0 : Int32)), (.int (0 : Int32))] (.int (0 : Int32)) := (Arv.new A102 (by decide)).pad (pad_rep [] (.int (0 : Int32)) 7)
            have Ea_b102 := Ea102
            show own_Go p e below s _ _ _ (T102.setTop (mkF m 313 #[iv p1, iv p2, iv p3, .val (.long p4), .second] [(.ref b102)]))
            refine own_go (fun zt zk => (XS.dup X102.here hx rfl (hb hby own_d1_313) rfl rfl (XS.iconst X102.here hx rfl (hb hby own_d1_314) (XS.iloadN X102.here hx rfl (hb hby own_d1_315) rfl zk)))) ?_
            show own_Go p e below s _ _ _ (T102.setTop (mkF m 316 #[iv p1, iv p2, iv p3, .val (.long p4), .second] [(.int p3), (.int (0 : Int32)), (.ref b102), (.ref b102)]))
            obtain ⟨cl103, Ar103, q103, Sz103, Nz103, Ha103, Ga103⟩ := id V_b102
            have hin103 : ¬ ((0 : Int32) < 0 ∨ cl103.slots.size ≤ ((0 : Int32)).toNatClampNeg) := inb_of Sz103 ⟨by decide, by decide⟩
            obtain ⟨T104, h104, X104, e104, W104, st104⟩ := stC X102 hx hZ e102 Ar103 (j := (0 : Int32)) hin103 (g := (mkF m 316 #[iv p1, iv p2, iv p3, .val (.long p4), .second] [(.int p3), (.int (0 : Int32)), (.ref b102), (.ref b102)])) rfl rfl (hb hby own_d1_316)
            refine own_go st104 ?_
            rw [show nar .char p3 = p3 from own_narc hr_p3] at W104
            have V104 := Arv.set Ar103 q103 Sz103 Nz103 Ha103 Ga103 (own_fitc hr_p3) W104 0 rfl (Nat.le_of_ble_eq_true rfl)
            have N104 := Fr.snoc X104 N0 g_b102
            replace Kp := Kp.wr W104 (Or.inr sz_b102)
            replace Ea_b102 := Ea_b102.wr W104
            replace V_b102 : Arv Z h104 b102 k102 .char (7 : Int32) [(.int p3), (.int (0 : Int32)), (.int (0 : Int32)), (.int (0 : Int32)), (.int (0 : Int32)), (.int (0 : Int32)), (.int (0 : Int32))] (.int (0 : Int32)) := V104
            show own_Go p e below s _ _ _ (T104.setTop (mkF m 317 #[iv p1, iv p2, iv p3, .val (.long p4), .second] [(.ref b102)]))
            refine own_go (fun zt zk => (XS.dup X104.here hx rfl (hb hby own_d1_317) rfl rfl (XS.iconst X104.here hx rfl (hb hby own_d1_318) (XS.bipush X104.here hx rfl (hb hby own_d1_319) zk)))) ?_
            show own_Go p e below s _ _ _ (T104.setTop (mkF m 321 #[iv p1, iv p2, iv p3, .val (.long p4), .second] [(.int (116 : Int32)), (.int (1 : Int32)), (.ref b102), (.ref b102)]))
            obtain ⟨cl105, Ar105, q105, Sz105, Nz105, Ha105, Ga105⟩ := id V_b102
            have hin105 : ¬ ((1 : Int32) < 0 ∨ cl105.slots.size ≤ ((1 : Int32)).toNatClampNeg) := inb_of Sz105 ⟨by decide, by decide⟩
            obtain ⟨T106, h106, X106, e106, W106, st106⟩ := stC X104 hx hZ e104 Ar105 (j := (1 : Int32)) hin105 (g := (mkF m 321 #[iv p1, iv p2, iv p3, .val (.long p4), .second] [(.int (116 : Int32)), (.int (1 : Int32)), (.ref b102), (.ref b102)])) rfl rfl (hb hby own_d1_321)
            refine own_go st106 ?_
            replace W106 : Wr h104 h106 b102 _ (.int (116 : Int32)) := W106
            have V106 := Arv.set Ar105 q105 Sz105 Nz105 Ha105 Ga105 (by decide) W106 1 rfl (Nat.le_of_ble_eq_true rfl)
            have N106 := Fr.snoc X106 N104 g_b102
            replace Kp := Kp.wr W106 (Or.inr sz_b102)
            replace Ea_b102 := Ea_b102.wr W106
            replace V_b102 : Arv Z h106 b102 k102 .char (7 : Int32) [(.int p3), (.int (116 : Int32)), (.int (0 : Int32)), (.int (0 : Int32)), (.int (0 : Int32)), (.int (0 : Int32)), (.int (0 : Int32))] (.int (0 : Int32)) := V106
            show own_Go p e below s _ _ _ (T106.setTop (mkF m 322 #[iv p1, iv p2, iv p3, .val (.long p4), .second] [(.ref b102)]))
            refine own_go (fun zt zk => (XS.dup X106.here hx rfl (hb hby own_d1_322) rfl rfl (XS.iconst X106.here hx rfl (hb hby own_d1_323) (XS.bipush X106.here hx rfl (hb hby own_d1_324) zk)))) ?_
            show own_Go p e below s _ _ _ (T106.setTop (mkF m 326 #[iv p1, iv p2, iv p3, .val (.long p4), .second] [(.int (105 : Int32)), (.int (2 : Int32)), (.ref b102), (.ref b102)]))
            obtain ⟨cl107, Ar107, q107, Sz107, Nz107, Ha107, Ga107⟩ := id V_b102
            have hin107 : ¬ ((2 : Int32) < 0 ∨ cl107.slots.size ≤ ((2 : Int32)).toNatClampNeg) := inb_of Sz107 ⟨by decide, by decide⟩
            obtain ⟨T108, h108, X108, e108, W108, st108⟩ := stC X106 hx hZ e106 Ar107 (j := (2 : Int32)) hin107 (g := (mkF m 326 #[iv p1, iv p2, iv p3, .val (.long p4), .second] [(.int (105 : Int32)), (.int (2 : Int32)), (.ref b102), (.ref b102)])) rfl rfl (hb hby own_d1_326)
            refine own_go st108 ?_
            replace W108 : Wr h106 h108 b102 _ (.int (105 : Int32)) := W108
            have V108 := Arv.set Ar107 q107 Sz107 Nz107 Ha107 Ga107 (by decide) W108 2 rfl (Nat.le_of_ble_eq_true rfl)
            have N108 := Fr.snoc X108 N106 g_b102
            replace Kp := Kp.wr W108 (Or.inr sz_b102)
            replace Ea_b102 := Ea_b102.wr W108
            replace V_b102 : Arv Z h108 b102 k102 .char (7 : Int32) [(.int p3), (.int (116 : Int32)), (.int (105 : Int32)), (.int (0 : Int32)), (.int (0 : Int32)), (.int (0 : Int32)), (.int (0 : Int32))] (.int (0 : Int32)) := V108
            show own_Go p e below s _ _ _ (T108.setTop (mkF m 327 #[iv p1, iv p2, iv p3, .val (.long p4), .second] [(.ref b102)]))
            refine own_go (fun zt zk => (XS.dup X108.here hx rfl (hb hby own_d1_327) rfl rfl (XS.iconst X108.here hx rfl (hb hby own_d1_328) (XS.bipush X108.here hx rfl (hb hby own_d1_329) zk)))) ?_
            show own_Go p e below s _ _ _ (T108.setTop (mkF m 331 #[iv p1, iv p2, iv p3, .val (.long p4), .second] [(.int (101 : Int32)), (.int (3 : Int32)), (.ref b102), (.ref b102)]))
            obtain ⟨cl109, Ar109, q109, Sz109, Nz109, Ha109, Ga109⟩ := id V_b102
            have hin109 : ¬ ((3 : Int32) < 0 ∨ cl109.slots.size ≤ ((3 : Int32)).toNatClampNeg) := inb_of Sz109 ⟨by decide, by decide⟩
            obtain ⟨T110, h110, X110, e110, W110, st110⟩ := stC X108 hx hZ e108 Ar109 (j := (3 : Int32)) hin109 (g := (mkF m 331 #[iv p1, iv p2, iv p3, .val (.long p4), .second] [(.int (101 : Int32)), (.int (3 : Int32)), (.ref b102), (.ref b102)])) rfl rfl (hb hby own_d1_331)
            refine own_go st110 ?_
            replace W110 : Wr h108 h110 b102 _ (.int (101 : Int32)) := W110
            have V110 := Arv.set Ar109 q109 Sz109 Nz109 Ha109 Ga109 (by decide) W110 3 rfl (Nat.le_of_ble_eq_true rfl)
            have N110 := Fr.snoc X110 N108 g_b102
            replace Kp := Kp.wr W110 (Or.inr sz_b102)
            replace Ea_b102 := Ea_b102.wr W110
            replace V_b102 : Arv Z h110 b102 k102 .char (7 : Int32) [(.int p3), (.int (116 : Int32)), (.int (105 : Int32)), (.int (101 : Int32)), (.int (0 : Int32)), (.int (0 : Int32)), (.int (0 : Int32))] (.int (0 : Int32)) := V110
            show own_Go p e below s _ _ _ (T110.setTop (mkF m 332 #[iv p1, iv p2, iv p3, .val (.long p4), .second] [(.ref b102)]))
            refine own_go (fun zt zk => (XS.dup X110.here hx rfl (hb hby own_d1_332) rfl rfl (XS.iconst X110.here hx rfl (hb hby own_d1_333) (XS.bipush X110.here hx rfl (hb hby own_d1_334) zk)))) ?_
            show own_Go p e below s _ _ _ (T110.setTop (mkF m 336 #[iv p1, iv p2, iv p3, .val (.long p4), .second] [(.int (114 : Int32)), (.int (4 : Int32)), (.ref b102), (.ref b102)]))
            obtain ⟨cl111, Ar111, q111, Sz111, Nz111, Ha111, Ga111⟩ := id V_b102
            have hin111 : ¬ ((4 : Int32) < 0 ∨ cl111.slots.size ≤ ((4 : Int32)).toNatClampNeg) := inb_of Sz111 ⟨by decide, by decide⟩
            obtain ⟨T112, h112, X112, e112, W112, st112⟩ := stC X110 hx hZ e110 Ar111 (j := (4 : Int32)) hin111 (g := (mkF m 336 #[iv p1, iv p2, iv p3, .val (.long p4), .second] [(.int (114 : Int32)), (.int (4 : Int32)), (.ref b102), (.ref b102)])) rfl rfl (hb hby own_d1_336)
            refine own_go st112 ?_
            replace W112 : Wr h110 h112 b102 _ (.int (114 : Int32)) := W112
            have V112 := Arv.set Ar111 q111 Sz111 Nz111 Ha111 Ga111 (by decide) W112 4 rfl (Nat.le_of_ble_eq_true rfl)
            have N112 := Fr.snoc X112 N110 g_b102
            replace Kp := Kp.wr W112 (Or.inr sz_b102)
            replace Ea_b102 := Ea_b102.wr W112
            replace V_b102 : Arv Z h112 b102 k102 .char (7 : Int32) [(.int p3), (.int (116 : Int32)), (.int (105 : Int32)), (.int (101 : Int32)), (.int (114 : Int32)), (.int (0 : Int32)), (.int (0 : Int32))] (.int (0 : Int32)) := V112
            show own_Go p e below s _ _ _ (T112.setTop (mkF m 337 #[iv p1, iv p2, iv p3, .val (.long p4), .second] [(.ref b102)]))
            refine own_go (fun zt zk => (XS.dup X112.here hx rfl (hb hby own_d1_337) rfl rfl (XS.iconst X112.here hx rfl (hb hby own_d1_338) (XS.bipush X112.here hx rfl (hb hby own_d1_339) zk)))) ?_
            show own_Go p e below s _ _ _ (T112.setTop (mkF m 341 #[iv p1, iv p2, iv p3, .val (.long p4), .second] [(.int (101 : Int32)), (.int (5 : Int32)), (.ref b102), (.ref b102)]))
            obtain ⟨cl113, Ar113, q113, Sz113, Nz113, Ha113, Ga113⟩ := id V_b102
            have hin113 : ¬ ((5 : Int32) < 0 ∨ cl113.slots.size ≤ ((5 : Int32)).toNatClampNeg) := inb_of Sz113 ⟨by decide, by decide⟩
            obtain ⟨T114, h114, X114, e114, W114, st114⟩ := stC X112 hx hZ e112 Ar113 (j := (5 : Int32)) hin113 (g := (mkF m 341 #[iv p1, iv p2, iv p3, .val (.long p4), .second] [(.int (101 : Int32)), (.int (5 : Int32)), (.ref b102), (.ref b102)])) rfl rfl (hb hby own_d1_341)
            refine own_go st114 ?_
            replace W114 : Wr h112 h114 b102 _ (.int (101 : Int32)) := W114
            have V114 := Arv.set Ar113 q113 Sz113 Nz113 Ha113 Ga113 (by decide) W114 5 rfl (Nat.le_of_ble_eq_true rfl)
            have N114 := Fr.snoc X114 N112 g_b102
            replace Kp := Kp.wr W114 (Or.inr sz_b102)
            replace Ea_b102 := Ea_b102.wr W114
            replace V_b102 : Arv Z h114 b102 k102 .char (7 : Int32) [(.int p3), (.int (116 : Int32)), (.int (105 : Int32)), (.int (101 : Int32)), (.int (114 : Int32)), (.int (101 : Int32)), (.int (0 : Int32))] (.int (0 : Int32)) := V114
            show own_Go p e below s _ _ _ (T114.setTop (mkF m 342 #[iv p1, iv p2, iv p3, .val (.long p4), .second] [(.ref b102)]))
            refine own_go (fun zt zk => (XS.dup X114.here hx rfl (hb hby own_d1_342) rfl rfl (XS.bipush X114.here hx rfl (hb hby own_d1_343) (XS.bipush X114.here hx rfl (hb hby own_d1_345) zk)))) ?_
            show own_Go p e below s _ _ _ (T114.setTop (mkF m 347 #[iv p1, iv p2, iv p3, .val (.long p4), .second] [(.int (100 : Int32)), (.int (6 : Int32)), (.ref b102), (.ref b102)]))
            obtain ⟨cl115, Ar115, q115, Sz115, Nz115, Ha115, Ga115⟩ := id V_b102
            have hin115 : ¬ ((6 : Int32) < 0 ∨ cl115.slots.size ≤ ((6 : Int32)).toNatClampNeg) := inb_of Sz115 ⟨by decide, by decide⟩
            obtain ⟨T116, h116, X116, e116, W116, st116⟩ := stC X114 hx hZ e114 Ar115 (j := (6 : Int32)) hin115 (g := (mkF m 347 #[iv p1, iv p2, iv p3, .val (.long p4), .second] [(.int (100 : Int32)), (.int (6 : Int32)), (.ref b102), (.ref b102)])) rfl rfl (hb hby own_d1_347)
            refine own_go st116 ?_
            replace W116 : Wr h114 h116 b102 _ (.int (100 : Int32)) := W116
            have V116 := Arv.set Ar115 q115 Sz115 Nz115 Ha115 Ga115 (by decide) W116 6 rfl (Nat.le_of_ble_eq_true rfl)
            have N116 := Fr.snoc X116 N114 g_b102
            replace Kp := Kp.wr W116 (Or.inr sz_b102)
            replace Ea_b102 := Ea_b102.wr W116
            replace V_b102 : Arv Z h116 b102 k102 .char (7 : Int32) [(.int p3), (.int (116 : Int32)), (.int (105 : Int32)), (.int (101 : Int32)), (.int (114 : Int32)), (.int (101 : Int32)), (.int (100 : Int32))] (.int (0 : Int32)) := V116
            show own_Go p e below s _ _ _ (T116.setTop (mkF m 348 #[iv p1, iv p2, iv p3, .val (.long p4), .second] [(.ref b102)]))
            exact own_fin X116 Bd.notSynchronized (fun h => by rw [Bd.returns] at h; cases h) (fun fs hr => retOut X116 hx (t := (.array .char)) (w := (.ref b102)) Bd.returns rfl (Or.inr (Or.inr (Or.inr (Or.inr ⟨rfl, rfl, rfl⟩)))) (hb hby own_d1_348) hr) (by rw [e116]; exact ⟨_, _, [p3, (116 : Int32), (105 : Int32), (101 : Int32), (114 : Int32), (101 : Int32), (100 : Int32)], rfl, N116, Kp, sz_b102, Nat.le_of_ble_eq_true rfl, V_b102, (own_ac hr_p3 (own_ac (by decide) (own_ac (by decide) (own_ac (by decide) (own_ac (by decide) (own_ac (by decide) (own_ac (by decide) own_an)))))))⟩) (by decide) (by decide)
    · refine own_go (fun zt zk => (XS.icmpYes X0.here hx rfl (pc0 := 188) (pc' := 349) rfl (hb hby own_d1_188) rfl (feq (hb188 : ¬ (p1 = (1 : Int32)))).2 (by decide) (by decide) (XS.iloadN X0.here hx rfl (hb hby own_d1_349) rfl zk))) ?_
      show own_Go p e below s _ _ _ (s₁.setTop (mkF m 350 #[iv p1, iv p2, iv p3, .val (.long p4), .second] [(.int p2)]))
      by_cases hb350 : p2 = (0 : Int32)
      · refine own_go (fun zt zk => (XS.ifNo X0.here hx rfl (hb hby own_d1_350) rfl ((if0 _ _).trans (teq (hb350 : p2 = (0 : Int32))).2) (XS.iconst X0.here hx rfl (hb hby own_d1_353) zk))) ?_
        show own_Go p e below s _ _ _ (s₁.setTop (mkF m 354 #[iv p1, iv p2, iv p3, .val (.long p4), .second] [(.int (0 : Int32))]))
        obtain ⟨T117, h117, k117, X117, e117, E117, A117, Ea117, st117⟩ := newPE X0 hx hZ (hw _ (List.mem_of_getElem? (i := 4) rfl)) e0 (g := (mkF m 354 #[iv p1, iv p2, iv p3, .val (.long p4), .second] [(.int (0 : Int32))])) rfl (hb hby own_d1_354) rfl (by decide) (cap := 0) (by decide) (by decide) (by decide) (by decide) (ad := "[C") (by decide)
        obtain ⟨b117, g117⟩ : ∃ z, z = h0.size := ⟨_, rfl⟩
        rw [← g117] at A117 Ea117 st117
        refine own_go st117 ?_
        have sz_b117 : h0.size ≤ b117 := Nat.le_trans Kp.1 (Nat.le_of_eq g117.symm)
        have g_b117 : n0 ≤ b117 := Nat.le_trans Z0 sz_b117
        replace Kp := Kp.ext E117
        have V_b117 : Arv Z h117 b117 k117 .char (0 : Int32) [] (.int (0 : Int32)) := (Arv.new A117 (by decide)).pad (pad_rep [] (.int (0 : Int32)) 0)
        have Ea_b117 := Ea117
        show own_Go p e below s _ _ _ (T117.setTop (mkF m 356 #[iv p1, iv p2, iv p3, .val (.long p4), .second] [(.ref b117)]))
        exact own_fin X117 Bd.notSynchronized (fun h => by rw [Bd.returns] at h; cases h) (fun fs hr => retOut X117 hx (t := (.array .char)) (w := (.ref b117)) Bd.returns rfl (Or.inr (Or.inr (Or.inr (Or.inr ⟨rfl, rfl, rfl⟩)))) (hb hby own_d1_356) hr) (by rw [e117]; exact ⟨_, _, [], rfl, N0, Kp, sz_b117, Nat.le_of_ble_eq_true rfl, V_b117, own_an⟩) (by decide) (by decide)
      · refine own_go (fun zt zk => (XS.ifYes X0.here hx rfl (pc0 := 350) (pc' := 357) rfl (hb hby own_d1_350) rfl ((if0 _ _).trans (feq (hb350 : ¬ (p2 = (0 : Int32)))).2) (by decide) (by decide) (XS.iloadN X0.here hx rfl (hb hby own_d1_357) rfl (XS.iconst X0.here hx rfl (hb hby own_d1_358) zk)))) ?_
        show own_Go p e below s _ _ _ (s₁.setTop (mkF m 359 #[iv p1, iv p2, iv p3, .val (.long p4), .second] [(.int (1 : Int32)), (.int p2)]))
        by_cases hb359 : p2 = (1 : Int32)
        · refine own_go (fun zt zk => (XS.icmpNo X0.here hx rfl (hb hby own_d1_359) rfl (teq (hb359 : p2 = (1 : Int32))).2 (XS.iconst X0.here hx rfl (hb hby own_d1_362) zk))) ?_
          show own_Go p e below s _ _ _ (s₁.setTop (mkF m 363 #[iv p1, iv p2, iv p3, .val (.long p4), .second] [(.int (1 : Int32))]))
          obtain ⟨T118, h118, k118, X118, e118, E118, A118, Ea118, st118⟩ := newPE X0 hx hZ (hw _ (List.mem_of_getElem? (i := 4) rfl)) e0 (g := (mkF m 363 #[iv p1, iv p2, iv p3, .val (.long p4), .second] [(.int (1 : Int32))])) rfl (hb hby own_d1_363) rfl (by decide) (cap := 1) (by decide) (by decide) (by decide) (by decide) (ad := "[C") (by decide)
          obtain ⟨b118, g118⟩ : ∃ z, z = h0.size := ⟨_, rfl⟩
          rw [← g118] at A118 Ea118 st118
          refine own_go st118 ?_
          have sz_b118 : h0.size ≤ b118 := Nat.le_trans Kp.1 (Nat.le_of_eq g118.symm)
          have g_b118 : n0 ≤ b118 := Nat.le_trans Z0 sz_b118
          replace Kp := Kp.ext E118
          have V_b118 : Arv Z h118 b118 k118 .char (1 : Int32) [(.int (0 : Int32))] (.int (0 : Int32)) := (Arv.new A118 (by decide)).pad (pad_rep [] (.int (0 : Int32)) 1)
          have Ea_b118 := Ea118
          show own_Go p e below s _ _ _ (T118.setTop (mkF m 365 #[iv p1, iv p2, iv p3, .val (.long p4), .second] [(.ref b118)]))
          refine own_go (fun zt zk => (XS.dup X118.here hx rfl (hb hby own_d1_365) rfl rfl (XS.iconst X118.here hx rfl (hb hby own_d1_366) (XS.iloadN X118.here hx rfl (hb hby own_d1_367) rfl zk)))) ?_
          show own_Go p e below s _ _ _ (T118.setTop (mkF m 368 #[iv p1, iv p2, iv p3, .val (.long p4), .second] [(.int p3), (.int (0 : Int32)), (.ref b118), (.ref b118)]))
          obtain ⟨cl119, Ar119, q119, Sz119, Nz119, Ha119, Ga119⟩ := id V_b118
          have hin119 : ¬ ((0 : Int32) < 0 ∨ cl119.slots.size ≤ ((0 : Int32)).toNatClampNeg) := inb_of Sz119 ⟨by decide, by decide⟩
          obtain ⟨T120, h120, X120, e120, W120, st120⟩ := stC X118 hx hZ e118 Ar119 (j := (0 : Int32)) hin119 (g := (mkF m 368 #[iv p1, iv p2, iv p3, .val (.long p4), .second] [(.int p3), (.int (0 : Int32)), (.ref b118), (.ref b118)])) rfl rfl (hb hby own_d1_368)
          refine own_go st120 ?_
          rw [show nar .char p3 = p3 from own_narc hr_p3] at W120
          have V120 := Arv.set Ar119 q119 Sz119 Nz119 Ha119 Ga119 (own_fitc hr_p3) W120 0 rfl (Nat.le_of_ble_eq_true rfl)
          have N120 := Fr.snoc X120 N0 g_b118
          replace Kp := Kp.wr W120 (Or.inr sz_b118)
          replace Ea_b118 := Ea_b118.wr W120
          replace V_b118 : Arv Z h120 b118 k118 .char (1 : Int32) [(.int p3)] (.int (0 : Int32)) := V120
          show own_Go p e below s _ _ _ (T120.setTop (mkF m 369 #[iv p1, iv p2, iv p3, .val (.long p4), .second] [(.ref b118)]))
          exact own_fin X120 Bd.notSynchronized (fun h => by rw [Bd.returns] at h; cases h) (fun fs hr => retOut X120 hx (t := (.array .char)) (w := (.ref b118)) Bd.returns rfl (Or.inr (Or.inr (Or.inr (Or.inr ⟨rfl, rfl, rfl⟩)))) (hb hby own_d1_369) hr) (by rw [e120]; exact ⟨_, _, [p3], rfl, N120, Kp, sz_b118, Nat.le_of_ble_eq_true rfl, V_b118, (own_ac hr_p3 own_an)⟩) (by decide) (by decide)
        · refine own_go (fun zt zk => (XS.icmpYes X0.here hx rfl (pc0 := 359) (pc' := 370) rfl (hb hby own_d1_359) rfl (feq (hb359 : ¬ (p2 = (1 : Int32)))).2 (by decide) (by decide) (XS.iloadN X0.here hx rfl (hb hby own_d1_370) rfl (XS.iconst X0.here hx rfl (hb hby own_d1_371) zk)))) ?_
          show own_Go p e below s _ _ _ (s₁.setTop (mkF m 372 #[iv p1, iv p2, iv p3, .val (.long p4), .second] [(.int (2 : Int32)), (.int p2)]))
          by_cases hb372 : p2 = (2 : Int32)
          · refine own_go (fun zt zk => (XS.icmpNo X0.here hx rfl (hb hby own_d1_372) rfl (teq (hb372 : p2 = (2 : Int32))).2 (XS.bipush X0.here hx rfl (hb hby own_d1_375) zk))) ?_
            show own_Go p e below s _ _ _ (s₁.setTop (mkF m 377 #[iv p1, iv p2, iv p3, .val (.long p4), .second] [(.int (6 : Int32))]))
            obtain ⟨T121, h121, k121, X121, e121, E121, A121, Ea121, st121⟩ := newPE X0 hx hZ (hw _ (List.mem_of_getElem? (i := 4) rfl)) e0 (g := (mkF m 377 #[iv p1, iv p2, iv p3, .val (.long p4), .second] [(.int (6 : Int32))])) rfl (hb hby own_d1_377) rfl (by decide) (cap := 6) (by decide) (by decide) (by decide) (by decide) (ad := "[C") (by decide)
            obtain ⟨b121, g121⟩ : ∃ z, z = h0.size := ⟨_, rfl⟩
            rw [← g121] at A121 Ea121 st121
            refine own_go st121 ?_
            have sz_b121 : h0.size ≤ b121 := Nat.le_trans Kp.1 (Nat.le_of_eq g121.symm)
            have g_b121 : n0 ≤ b121 := Nat.le_trans Z0 sz_b121
            replace Kp := Kp.ext E121
            have V_b121 : Arv Z h121 b121 k121 .char (6 : Int32) [(.int (0 : Int32)), (.int (0 : Int32)), (.int (0 : Int32)), (.int (0 : Int32)), (.int (0 : Int32)), (.int (0 : Int32))] (.int (0 : Int32)) := (Arv.new A121 (by decide)).pad (pad_rep [] (.int (0 : Int32)) 6)
            have Ea_b121 := Ea121
            show own_Go p e below s _ _ _ (T121.setTop (mkF m 379 #[iv p1, iv p2, iv p3, .val (.long p4), .second] [(.ref b121)]))
            refine own_go (fun zt zk => (XS.dup X121.here hx rfl (hb hby own_d1_379) rfl rfl (XS.iconst X121.here hx rfl (hb hby own_d1_380) (XS.lloadN X121.here hx rfl (hb hby own_d1_381) rfl (XS.iconst X121.here hx rfl (hb hby own_d1_382) zk))))) ?_
            show own_Go p e below s _ _ _ (T121.setTop (mkF m 383 #[iv p1, iv p2, iv p3, .val (.long p4), .second] [(.int (0 : Int32)), (.long p4), (.int (0 : Int32)), (.ref b121), (.ref b121)]))
            obtain ⟨_, _, ⟨T122, L122, k122, n122⟩, -, X122, ⟨Lc122, hQ122, l122, y122, z122⟩, st122⟩ := Jvm.LawKit.callS X121 hx (y := (⟨"com/example/riskscan/riskscan/model/ProfileOfCodePinLaw", "ch", "(JI)C"⟩ : MethodName)) hown (mvT hZ (hw _ (List.mem_of_getElem? (i := 79) rfl))) (mvT hZ (hw _ (List.mem_of_getElem? (i := 80) rfl))) (mvT hZ (hw _ (List.mem_of_getElem? (i := 2) rfl))) (mvT hZ (hw _ (List.mem_of_getElem? (i := 81) rfl))) (by decide) (backOf (W := 3) (own_rch l Z a0 hw [] p4 (0 : Int32)  h121 n0 (Nat.le_trans Z0 Kp.1) ) hZ (hw _ (List.mem_of_getElem? (i := 81) rfl)) (hw _ (List.mem_of_getElem? (i := 2) rfl)) (by decide) (by decide)) (g := (mkF m 383 #[iv p1, iv p2, iv p3, .val (.long p4), .second] [(.int (0 : Int32)), (.long p4), (.int (0 : Int32)), (.ref b121), (.ref b121)])) rfl (by rw [hml]; rfl) (argsL := [(.long p4), (.int (0 : Int32))]) (rest := [(.int (0 : Int32)), (.ref b121), (.ref b121)]) (lenOf own_pd__JI_C rfl) rfl (by show 2 * 0 + _ ≤ _; exact Nat.le_of_eq rfl) (hb hby own_d1_383) (fun _ _ => ⟨rfl, e121, (by decide : 1 + 0 ≤ _), (by decide : 6 + 0 ≤ _)⟩)
            dsimp only [Pt.U, Pt.locs, Pt.cells, Pt.slots] at X122 l122 y122 z122 st122 hQ122
            subst l122 y122 z122
            obtain ⟨c122, rfl, Nq122, e122, hr_c122⟩ := hQ122
            have N122 := Fr.app N0 Nq122
            refine own_go st122 ?_
            show own_Go p e below s _ _ _ (T122.setTop (mkF m 386 #[iv p1, iv p2, iv p3, .val (.long p4), .second] [(.int c122), (.int (0 : Int32)), (.ref b121), (.ref b121)]))
            obtain ⟨cl123, Ar123, q123, Sz123, Nz123, Ha123, Ga123⟩ := id V_b121
            have hin123 : ¬ ((0 : Int32) < 0 ∨ cl123.slots.size ≤ ((0 : Int32)).toNatClampNeg) := inb_of Sz123 ⟨by decide, by decide⟩
            obtain ⟨T124, h124, X124, e124, W124, st124⟩ := stC X122 hx hZ e122 Ar123 (j := (0 : Int32)) hin123 (g := (mkF m 386 #[iv p1, iv p2, iv p3, .val (.long p4), .second] [(.int c122), (.int (0 : Int32)), (.ref b121), (.ref b121)])) rfl rfl (hb hby own_d1_386)
            refine own_go st124 ?_
            rw [show nar .char c122 = c122 from own_narc hr_c122] at W124
            have V124 := Arv.set Ar123 q123 Sz123 Nz123 Ha123 Ga123 (own_fitc hr_c122) W124 0 rfl (Nat.le_of_ble_eq_true rfl)
            have N124 := Fr.snoc X124 N122 g_b121
            replace Kp := Kp.wr W124 (Or.inr sz_b121)
            replace Ea_b121 := Ea_b121.wr W124
            replace V_b121 : Arv Z h124 b121 k121 .char (6 : Int32) [(.int c122), (.int (0 : Int32)), (.int (0 : Int32)), (.int (0 : Int32)), (.int (0 : Int32)), (.int (0 : Int32))] (.int (0 : Int32)) := V124
            show own_Go p e below s _ _ _ (T124.setTop (mkF m 387 #[iv p1, iv p2, iv p3, .val (.long p4), .second] [(.ref b121)]))
            refine own_go (fun zt zk => (XS.dup X124.here hx rfl (hb hby own_d1_387) rfl rfl (XS.iconst X124.here hx rfl (hb hby own_d1_388) (XS.lloadN X124.here hx rfl (hb hby own_d1_389) rfl (XS.iconst X124.here hx rfl (hb hby own_d1_390) zk))))) ?_
            show own_Go p e below s _ _ _ (T124.setTop (mkF m 391 #[iv p1, iv p2, iv p3, .val (.long p4), .second] [(.int (1 : Int32)), (.long p4), (.int (1 : Int32)), (.ref b121), (.ref b121)]))
            obtain ⟨_, _, ⟨T125, L125, k125, n125⟩, -, X125, ⟨Lc125, hQ125, l125, y125, z125⟩, st125⟩ := Jvm.LawKit.callS X124 hx (y := (⟨"com/example/riskscan/riskscan/model/ProfileOfCodePinLaw", "ch", "(JI)C"⟩ : MethodName)) hown (mvT hZ (hw _ (List.mem_of_getElem? (i := 79) rfl))) (mvT hZ (hw _ (List.mem_of_getElem? (i := 80) rfl))) (mvT hZ (hw _ (List.mem_of_getElem? (i := 2) rfl))) (mvT hZ (hw _ (List.mem_of_getElem? (i := 81) rfl))) (by decide) (backOf (W := 3) (own_rch l Z a0 hw [] p4 (1 : Int32)  h124 n0 (Nat.le_trans Z0 Kp.1) ) hZ (hw _ (List.mem_of_getElem? (i := 81) rfl)) (hw _ (List.mem_of_getElem? (i := 2) rfl)) (by decide) (by decide)) (g := (mkF m 391 #[iv p1, iv p2, iv p3, .val (.long p4), .second] [(.int (1 : Int32)), (.long p4), (.int (1 : Int32)), (.ref b121), (.ref b121)])) rfl (by rw [hml]; rfl) (argsL := [(.long p4), (.int (1 : Int32))]) (rest := [(.int (1 : Int32)), (.ref b121), (.ref b121)]) (lenOf own_pd__JI_C rfl) rfl (by show 2 * 0 + _ ≤ _; exact Nat.le_of_eq rfl) (hb hby own_d1_391) (fun _ _ => ⟨rfl, e124, (by decide : 1 + 0 ≤ _), (by decide : 6 + 0 ≤ _)⟩)
            dsimp only [Pt.U, Pt.locs, Pt.cells, Pt.slots] at X125 l125 y125 z125 st125 hQ125
            subst l125 y125 z125
            obtain ⟨c125, rfl, Nq125, e125, hr_c125⟩ := hQ125
            have N125 := Fr.app N124 Nq125
            refine own_go st125 ?_
            show own_Go p e below s _ _ _ (T125.setTop (mkF m 394 #[iv p1, iv p2, iv p3, .val (.long p4), .second] [(.int c125), (.int (1 : Int32)), (.ref b121), (.ref b121)]))
            obtain ⟨cl126, Ar126, q126, Sz126, Nz126, Ha126, Ga126⟩ := id V_b121
            have hin126 : ¬ ((1 : Int32) < 0 ∨ cl126.slots.size ≤ ((1 : Int32)).toNatClampNeg) := inb_of Sz126 ⟨by decide, by decide⟩
            obtain ⟨T127, h127, X127, e127, W127, st127⟩ := stC X125 hx hZ e125 Ar126 (j := (1 : Int32)) hin126 (g := (mkF m 394 #[iv p1, iv p2, iv p3, .val (.long p4), .second] [(.int c125), (.int (1 : Int32)), (.ref b121), (.ref b121)])) rfl rfl (hb hby own_d1_394)
            refine own_go st127 ?_
            rw [show nar .char c125 = c125 from own_narc hr_c125] at W127
            have V127 := Arv.set Ar126 q126 Sz126 Nz126 Ha126 Ga126 (own_fitc hr_c125) W127 1 rfl (Nat.le_of_ble_eq_true rfl)
            have N127 := Fr.snoc X127 N125 g_b121
            replace Kp := Kp.wr W127 (Or.inr sz_b121)
            replace Ea_b121 := Ea_b121.wr W127
            replace V_b121 : Arv Z h127 b121 k121 .char (6 : Int32) [(.int c122), (.int c125), (.int (0 : Int32)), (.int (0 : Int32)), (.int (0 : Int32)), (.int (0 : Int32))] (.int (0 : Int32)) := V127
            show own_Go p e below s _ _ _ (T127.setTop (mkF m 395 #[iv p1, iv p2, iv p3, .val (.long p4), .second] [(.ref b121)]))
            refine own_go (fun zt zk => (XS.dup X127.here hx rfl (hb hby own_d1_395) rfl rfl (XS.iconst X127.here hx rfl (hb hby own_d1_396) (XS.lloadN X127.here hx rfl (hb hby own_d1_397) rfl (XS.iconst X127.here hx rfl (hb hby own_d1_398) zk))))) ?_
            show own_Go p e below s _ _ _ (T127.setTop (mkF m 399 #[iv p1, iv p2, iv p3, .val (.long p4), .second] [(.int (2 : Int32)), (.long p4), (.int (2 : Int32)), (.ref b121), (.ref b121)]))
            obtain ⟨_, _, ⟨T128, L128, k128, n128⟩, -, X128, ⟨Lc128, hQ128, l128, y128, z128⟩, st128⟩ := Jvm.LawKit.callS X127 hx (y := (⟨"com/example/riskscan/riskscan/model/ProfileOfCodePinLaw", "ch", "(JI)C"⟩ : MethodName)) hown (mvT hZ (hw _ (List.mem_of_getElem? (i := 79) rfl))) (mvT hZ (hw _ (List.mem_of_getElem? (i := 80) rfl))) (mvT hZ (hw _ (List.mem_of_getElem? (i := 2) rfl))) (mvT hZ (hw _ (List.mem_of_getElem? (i := 81) rfl))) (by decide) (backOf (W := 3) (own_rch l Z a0 hw [] p4 (2 : Int32)  h127 n0 (Nat.le_trans Z0 Kp.1) ) hZ (hw _ (List.mem_of_getElem? (i := 81) rfl)) (hw _ (List.mem_of_getElem? (i := 2) rfl)) (by decide) (by decide)) (g := (mkF m 399 #[iv p1, iv p2, iv p3, .val (.long p4), .second] [(.int (2 : Int32)), (.long p4), (.int (2 : Int32)), (.ref b121), (.ref b121)])) rfl (by rw [hml]; rfl) (argsL := [(.long p4), (.int (2 : Int32))]) (rest := [(.int (2 : Int32)), (.ref b121), (.ref b121)]) (lenOf own_pd__JI_C rfl) rfl (by show 2 * 0 + _ ≤ _; exact Nat.le_of_eq rfl) (hb hby own_d1_399) (fun _ _ => ⟨rfl, e127, (by decide : 1 + 0 ≤ _), (by decide : 6 + 0 ≤ _)⟩)
            dsimp only [Pt.U, Pt.locs, Pt.cells, Pt.slots] at X128 l128 y128 z128 st128 hQ128
            subst l128 y128 z128
            obtain ⟨c128, rfl, Nq128, e128, hr_c128⟩ := hQ128
            have N128 := Fr.app N127 Nq128
            refine own_go st128 ?_
            show own_Go p e below s _ _ _ (T128.setTop (mkF m 402 #[iv p1, iv p2, iv p3, .val (.long p4), .second] [(.int c128), (.int (2 : Int32)), (.ref b121), (.ref b121)]))
            obtain ⟨cl129, Ar129, q129, Sz129, Nz129, Ha129, Ga129⟩ := id V_b121
            have hin129 : ¬ ((2 : Int32) < 0 ∨ cl129.slots.size ≤ ((2 : Int32)).toNatClampNeg) := inb_of Sz129 ⟨by decide, by decide⟩
            obtain ⟨T130, h130, X130, e130, W130, st130⟩ := stC X128 hx hZ e128 Ar129 (j := (2 : Int32)) hin129 (g := (mkF m 402 #[iv p1, iv p2, iv p3, .val (.long p4), .second] [(.int c128), (.int (2 : Int32)), (.ref b121), (.ref b121)])) rfl rfl (hb hby own_d1_402)
            refine own_go st130 ?_
            rw [show nar .char c128 = c128 from own_narc hr_c128] at W130
            have V130 := Arv.set Ar129 q129 Sz129 Nz129 Ha129 Ga129 (own_fitc hr_c128) W130 2 rfl (Nat.le_of_ble_eq_true rfl)
            have N130 := Fr.snoc X130 N128 g_b121
            replace Kp := Kp.wr W130 (Or.inr sz_b121)
            replace Ea_b121 := Ea_b121.wr W130
            replace V_b121 : Arv Z h130 b121 k121 .char (6 : Int32) [(.int c122), (.int c125), (.int c128), (.int (0 : Int32)), (.int (0 : Int32)), (.int (0 : Int32))] (.int (0 : Int32)) := V130
            show own_Go p e below s _ _ _ (T130.setTop (mkF m 403 #[iv p1, iv p2, iv p3, .val (.long p4), .second] [(.ref b121)]))
            refine own_go (fun zt zk => (XS.dup X130.here hx rfl (hb hby own_d1_403) rfl rfl (XS.iconst X130.here hx rfl (hb hby own_d1_404) (XS.lloadN X130.here hx rfl (hb hby own_d1_405) rfl (XS.iconst X130.here hx rfl (hb hby own_d1_406) zk))))) ?_
            show own_Go p e below s _ _ _ (T130.setTop (mkF m 407 #[iv p1, iv p2, iv p3, .val (.long p4), .second] [(.int (3 : Int32)), (.long p4), (.int (3 : Int32)), (.ref b121), (.ref b121)]))
            obtain ⟨_, _, ⟨T131, L131, k131, n131⟩, -, X131, ⟨Lc131, hQ131, l131, y131, z131⟩, st131⟩ := Jvm.LawKit.callS X130 hx (y := (⟨"com/example/riskscan/riskscan/model/ProfileOfCodePinLaw", "ch", "(JI)C"⟩ : MethodName)) hown (mvT hZ (hw _ (List.mem_of_getElem? (i := 79) rfl))) (mvT hZ (hw _ (List.mem_of_getElem? (i := 80) rfl))) (mvT hZ (hw _ (List.mem_of_getElem? (i := 2) rfl))) (mvT hZ (hw _ (List.mem_of_getElem? (i := 81) rfl))) (by decide) (backOf (W := 3) (own_rch l Z a0 hw [] p4 (3 : Int32)  h130 n0 (Nat.le_trans Z0 Kp.1) ) hZ (hw _ (List.mem_of_getElem? (i := 81) rfl)) (hw _ (List.mem_of_getElem? (i := 2) rfl)) (by decide) (by decide)) (g := (mkF m 407 #[iv p1, iv p2, iv p3, .val (.long p4), .second] [(.int (3 : Int32)), (.long p4), (.int (3 : Int32)), (.ref b121), (.ref b121)])) rfl (by rw [hml]; rfl) (argsL := [(.long p4), (.int (3 : Int32))]) (rest := [(.int (3 : Int32)), (.ref b121), (.ref b121)]) (lenOf own_pd__JI_C rfl) rfl (by show 2 * 0 + _ ≤ _; exact Nat.le_of_eq rfl) (hb hby own_d1_407) (fun _ _ => ⟨rfl, e130, (by decide : 1 + 0 ≤ _), (by decide : 6 + 0 ≤ _)⟩)
            dsimp only [Pt.U, Pt.locs, Pt.cells, Pt.slots] at X131 l131 y131 z131 st131 hQ131
            subst l131 y131 z131
            obtain ⟨c131, rfl, Nq131, e131, hr_c131⟩ := hQ131
            have N131 := Fr.app N130 Nq131
            refine own_go st131 ?_
            show own_Go p e below s _ _ _ (T131.setTop (mkF m 410 #[iv p1, iv p2, iv p3, .val (.long p4), .second] [(.int c131), (.int (3 : Int32)), (.ref b121), (.ref b121)]))
            obtain ⟨cl132, Ar132, q132, Sz132, Nz132, Ha132, Ga132⟩ := id V_b121
            have hin132 : ¬ ((3 : Int32) < 0 ∨ cl132.slots.size ≤ ((3 : Int32)).toNatClampNeg) := inb_of Sz132 ⟨by decide, by decide⟩
            obtain ⟨T133, h133, X133, e133, W133, st133⟩ := stC X131 hx hZ e131 Ar132 (j := (3 : Int32)) hin132 (g := (mkF m 410 #[iv p1, iv p2, iv p3, .val (.long p4), .second] [(.int c131), (.int (3 : Int32)), (.ref b121), (.ref b121)])) rfl rfl (hb hby own_d1_410)
            refine own_go st133 ?_
            rw [show nar .char c131 = c131 from own_narc hr_c131] at W133
            have V133 := Arv.set Ar132 q132 Sz132 Nz132 Ha132 Ga132 (own_fitc hr_c131) W133 3 rfl (Nat.le_of_ble_eq_true rfl)
            have N133 := Fr.snoc X133 N131 g_b121
            replace Kp := Kp.wr W133 (Or.inr sz_b121)
            replace Ea_b121 := Ea_b121.wr W133
            replace V_b121 : Arv Z h133 b121 k121 .char (6 : Int32) [(.int c122), (.int c125), (.int c128), (.int c131), (.int (0 : Int32)), (.int (0 : Int32))] (.int (0 : Int32)) := V133
            show own_Go p e below s _ _ _ (T133.setTop (mkF m 411 #[iv p1, iv p2, iv p3, .val (.long p4), .second] [(.ref b121)]))
            refine own_go (fun zt zk => (XS.dup X133.here hx rfl (hb hby own_d1_411) rfl rfl (XS.iconst X133.here hx rfl (hb hby own_d1_412) (XS.lloadN X133.here hx rfl (hb hby own_d1_413) rfl (XS.iconst X133.here hx rfl (hb hby own_d1_414) zk))))) ?_
            show own_Go p e below s _ _ _ (T133.setTop (mkF m 415 #[iv p1, iv p2, iv p3, .val (.long p4), .second] [(.int (4 : Int32)), (.long p4), (.int (4 : Int32)), (.ref b121), (.ref b121)]))
            obtain ⟨_, _, ⟨T134, L134, k134, n134⟩, -, X134, ⟨Lc134, hQ134, l134, y134, z134⟩, st134⟩ := Jvm.LawKit.callS X133 hx (y := (⟨"com/example/riskscan/riskscan/model/ProfileOfCodePinLaw", "ch", "(JI)C"⟩ : MethodName)) hown (mvT hZ (hw _ (List.mem_of_getElem? (i := 79) rfl))) (mvT hZ (hw _ (List.mem_of_getElem? (i := 80) rfl))) (mvT hZ (hw _ (List.mem_of_getElem? (i := 2) rfl))) (mvT hZ (hw _ (List.mem_of_getElem? (i := 81) rfl))) (by decide) (backOf (W := 3) (own_rch l Z a0 hw [] p4 (4 : Int32)  h133 n0 (Nat.le_trans Z0 Kp.1) ) hZ (hw _ (List.mem_of_getElem? (i := 81) rfl)) (hw _ (List.mem_of_getElem? (i := 2) rfl)) (by decide) (by decide)) (g := (mkF m 415 #[iv p1, iv p2, iv p3, .val (.long p4), .second] [(.int (4 : Int32)), (.long p4), (.int (4 : Int32)), (.ref b121), (.ref b121)])) rfl (by rw [hml]; rfl) (argsL := [(.long p4), (.int (4 : Int32))]) (rest := [(.int (4 : Int32)), (.ref b121), (.ref b121)]) (lenOf own_pd__JI_C rfl) rfl (by show 2 * 0 + _ ≤ _; exact Nat.le_of_eq rfl) (hb hby own_d1_415) (fun _ _ => ⟨rfl, e133, (by decide : 1 + 0 ≤ _), (by decide : 6 + 0 ≤ _)⟩)
            dsimp only [Pt.U, Pt.locs, Pt.cells, Pt.slots] at X134 l134 y134 z134 st134 hQ134
            subst l134 y134 z134
            obtain ⟨c134, rfl, Nq134, e134, hr_c134⟩ := hQ134
            have N134 := Fr.app N133 Nq134
            refine own_go st134 ?_
            show own_Go p e below s _ _ _ (T134.setTop (mkF m 418 #[iv p1, iv p2, iv p3, .val (.long p4), .second] [(.int c134), (.int (4 : Int32)), (.ref b121), (.ref b121)]))
            obtain ⟨cl135, Ar135, q135, Sz135, Nz135, Ha135, Ga135⟩ := id V_b121
            have hin135 : ¬ ((4 : Int32) < 0 ∨ cl135.slots.size ≤ ((4 : Int32)).toNatClampNeg) := inb_of Sz135 ⟨by decide, by decide⟩
            obtain ⟨T136, h136, X136, e136, W136, st136⟩ := stC X134 hx hZ e134 Ar135 (j := (4 : Int32)) hin135 (g := (mkF m 418 #[iv p1, iv p2, iv p3, .val (.long p4), .second] [(.int c134), (.int (4 : Int32)), (.ref b121), (.ref b121)])) rfl rfl (hb hby own_d1_418)
            refine own_go st136 ?_
            rw [show nar .char c134 = c134 from own_narc hr_c134] at W136
            have V136 := Arv.set Ar135 q135 Sz135 Nz135 Ha135 Ga135 (own_fitc hr_c134) W136 4 rfl (Nat.le_of_ble_eq_true rfl)
            have N136 := Fr.snoc X136 N134 g_b121
            replace Kp := Kp.wr W136 (Or.inr sz_b121)
            replace Ea_b121 := Ea_b121.wr W136
            replace V_b121 : Arv Z h136 b121 k121 .char (6 : Int32) [(.int c122), (.int c125), (.int c128), (.int c131), (.int c134), (.int (0 : Int32))] (.int (0 : Int32)) := V136
            show own_Go p e below s _ _ _ (T136.setTop (mkF m 419 #[iv p1, iv p2, iv p3, .val (.long p4), .second] [(.ref b121)]))
            refine own_go (fun zt zk => (XS.dup X136.here hx rfl (hb hby own_d1_419) rfl rfl (XS.iconst X136.here hx rfl (hb hby own_d1_420) (XS.lloadN X136.here hx rfl (hb hby own_d1_421) rfl (XS.iconst X136.here hx rfl (hb hby own_d1_422) zk))))) ?_
            show own_Go p e below s _ _ _ (T136.setTop (mkF m 423 #[iv p1, iv p2, iv p3, .val (.long p4), .second] [(.int (5 : Int32)), (.long p4), (.int (5 : Int32)), (.ref b121), (.ref b121)]))
            obtain ⟨_, _, ⟨T137, L137, k137, n137⟩, -, X137, ⟨Lc137, hQ137, l137, y137, z137⟩, st137⟩ := Jvm.LawKit.callS X136 hx (y := (⟨"com/example/riskscan/riskscan/model/ProfileOfCodePinLaw", "ch", "(JI)C"⟩ : MethodName)) hown (mvT hZ (hw _ (List.mem_of_getElem? (i := 79) rfl))) (mvT hZ (hw _ (List.mem_of_getElem? (i := 80) rfl))) (mvT hZ (hw _ (List.mem_of_getElem? (i := 2) rfl))) (mvT hZ (hw _ (List.mem_of_getElem? (i := 81) rfl))) (by decide) (backOf (W := 3) (own_rch l Z a0 hw [] p4 (5 : Int32)  h136 n0 (Nat.le_trans Z0 Kp.1) ) hZ (hw _ (List.mem_of_getElem? (i := 81) rfl)) (hw _ (List.mem_of_getElem? (i := 2) rfl)) (by decide) (by decide)) (g := (mkF m 423 #[iv p1, iv p2, iv p3, .val (.long p4), .second] [(.int (5 : Int32)), (.long p4), (.int (5 : Int32)), (.ref b121), (.ref b121)])) rfl (by rw [hml]; rfl) (argsL := [(.long p4), (.int (5 : Int32))]) (rest := [(.int (5 : Int32)), (.ref b121), (.ref b121)]) (lenOf own_pd__JI_C rfl) rfl (by show 2 * 0 + _ ≤ _; exact Nat.le_of_eq rfl) (hb hby own_d1_423) (fun _ _ => ⟨rfl, e136, (by decide : 1 + 0 ≤ _), (by decide : 6 + 0 ≤ _)⟩)
            dsimp only [Pt.U, Pt.locs, Pt.cells, Pt.slots] at X137 l137 y137 z137 st137 hQ137
            subst l137 y137 z137
            obtain ⟨c137, rfl, Nq137, e137, hr_c137⟩ := hQ137
            have N137 := Fr.app N136 Nq137
            refine own_go st137 ?_
            show own_Go p e below s _ _ _ (T137.setTop (mkF m 426 #[iv p1, iv p2, iv p3, .val (.long p4), .second] [(.int c137), (.int (5 : Int32)), (.ref b121), (.ref b121)]))
            obtain ⟨cl138, Ar138, q138, Sz138, Nz138, Ha138, Ga138⟩ := id V_b121
            have hin138 : ¬ ((5 : Int32) < 0 ∨ cl138.slots.size ≤ ((5 : Int32)).toNatClampNeg) := inb_of Sz138 ⟨by decide, by decide⟩
            obtain ⟨T139, h139, X139, e139, W139, st139⟩ := stC X137 hx hZ e137 Ar138 (j := (5 : Int32)) hin138 (g := (mkF m 426 #[iv p1, iv p2, iv p3, .val (.long p4), .second] [(.int c137), (.int (5 : Int32)), (.ref b121), (.ref b121)])) rfl rfl (hb hby own_d1_426)
            refine own_go st139 ?_
            rw [show nar .char c137 = c137 from own_narc hr_c137] at W139
            have V139 := Arv.set Ar138 q138 Sz138 Nz138 Ha138 Ga138 (own_fitc hr_c137) W139 5 rfl (Nat.le_of_ble_eq_true rfl)
            have N139 := Fr.snoc X139 N137 g_b121
            replace Kp := Kp.wr W139 (Or.inr sz_b121)
            replace Ea_b121 := Ea_b121.wr W139
            replace V_b121 : Arv Z h139 b121 k121 .char (6 : Int32) [(.int c122), (.int c125), (.int c128), (.int c131), (.int c134), (.int c137)] (.int (0 : Int32)) := V139
            show own_Go p e below s _ _ _ (T139.setTop (mkF m 427 #[iv p1, iv p2, iv p3, .val (.long p4), .second] [(.ref b121)]))
            exact own_fin X139 Bd.notSynchronized (fun h => by rw [Bd.returns] at h; cases h) (fun fs hr => retOut X139 hx (t := (.array .char)) (w := (.ref b121)) Bd.returns rfl (Or.inr (Or.inr (Or.inr (Or.inr ⟨rfl, rfl, rfl⟩)))) (hb hby own_d1_427) hr) (by rw [e139]; exact ⟨_, _, [c122, c125, c128, c131, c134, c137], rfl, N139, Kp, sz_b121, Nat.le_of_ble_eq_true rfl, V_b121, (own_ac hr_c122 (own_ac hr_c125 (own_ac hr_c128 (own_ac hr_c131 (own_ac hr_c134 (own_ac hr_c137 own_an))))))⟩) (by decide) (by decide)
          · refine own_go (fun zt zk => (XS.icmpYes X0.here hx rfl (pc0 := 372) (pc' := 428) rfl (hb hby own_d1_372) rfl (feq (hb372 : ¬ (p2 = (2 : Int32)))).2 (by decide) (by decide) (XS.bipush X0.here hx rfl (hb hby own_d1_428) zk))) ?_
            show own_Go p e below s _ _ _ (s₁.setTop (mkF m 430 #[iv p1, iv p2, iv p3, .val (.long p4), .second] [(.int (7 : Int32))]))
            obtain ⟨T140, h140, k140, X140, e140, E140, A140, Ea140, st140⟩ := newPE X0 hx hZ (hw _ (List.mem_of_getElem? (i := 4) rfl)) e0 (g := (mkF m 430 #[iv p1, iv p2, iv p3, .val (.long p4), .second] [(.int (7 : Int32))])) rfl (hb hby own_d1_430) rfl (by decide) (cap := 7) (by decide) (by decide) (by decide) (by decide) (ad := "[C") (by decide)
            obtain ⟨b140, g140⟩ : ∃ z, z = h0.size := ⟨_, rfl⟩
            rw [← g140] at A140 Ea140 st140
            refine own_go st140 ?_
            have sz_b140 : h0.size ≤ b140 := Nat.le_trans Kp.1 (Nat.le_of_eq g140.symm)
            have g_b140 : n0 ≤ b140 := Nat.le_trans Z0 sz_b140
            replace Kp := Kp.ext E140
            have V_b140 : Arv Z h140 b140 k140 .char (7 : Int32) [(.int (0 : Int32)), (.int (0 : Int32)), (.int (0 : Int32)), (.int (0 : Int32)), (.int (0 : Int32)), (.int (0 : Int32)), (.int (0 : Int32))] (.int (0 : Int32)) := (Arv.new A140 (by decide)).pad (pad_rep [] (.int (0 : Int32)) 7)
            have Ea_b140 := Ea140
            show own_Go p e below s _ _ _ (T140.setTop (mkF m 432 #[iv p1, iv p2, iv p3, .val (.long p4), .second] [(.ref b140)]))
            refine own_go (fun zt zk => (XS.dup X140.here hx rfl (hb hby own_d1_432) rfl rfl (XS.iconst X140.here hx rfl (hb hby own_d1_433) (XS.lloadN X140.here hx rfl (hb hby own_d1_434) rfl (XS.iconst X140.here hx rfl (hb hby own_d1_435) zk))))) ?_
            show own_Go p e below s _ _ _ (T140.setTop (mkF m 436 #[iv p1, iv p2, iv p3, .val (.long p4), .second] [(.int (0 : Int32)), (.long p4), (.int (0 : Int32)), (.ref b140), (.ref b140)]))
            obtain ⟨_, _, ⟨T141, L141, k141, n141⟩, -, X141, ⟨Lc141, hQ141, l141, y141, z141⟩, st141⟩ := Jvm.LawKit.callS X140 hx (y := (⟨"com/example/riskscan/riskscan/model/ProfileOfCodePinLaw", "ch", "(JI)C"⟩ : MethodName)) hown (mvT hZ (hw _ (List.mem_of_getElem? (i := 79) rfl))) (mvT hZ (hw _ (List.mem_of_getElem? (i := 80) rfl))) (mvT hZ (hw _ (List.mem_of_getElem? (i := 2) rfl))) (mvT hZ (hw _ (List.mem_of_getElem? (i := 81) rfl))) (by decide) (backOf (W := 3) (own_rch l Z a0 hw [] p4 (0 : Int32)  h140 n0 (Nat.le_trans Z0 Kp.1) ) hZ (hw _ (List.mem_of_getElem? (i := 81) rfl)) (hw _ (List.mem_of_getElem? (i := 2) rfl)) (by decide) (by decide)) (g := (mkF m 436 #[iv p1, iv p2, iv p3, .val (.long p4), .second] [(.int (0 : Int32)), (.long p4), (.int (0 : Int32)), (.ref b140), (.ref b140)])) rfl (by rw [hml]; rfl) (argsL := [(.long p4), (.int (0 : Int32))]) (rest := [(.int (0 : Int32)), (.ref b140), (.ref b140)]) (lenOf own_pd__JI_C rfl) rfl (by show 2 * 0 + _ ≤ _; exact Nat.le_of_eq rfl) (hb hby own_d1_436) (fun _ _ => ⟨rfl, e140, (by decide : 1 + 0 ≤ _), (by decide : 7 + 0 ≤ _)⟩)
            dsimp only [Pt.U, Pt.locs, Pt.cells, Pt.slots] at X141 l141 y141 z141 st141 hQ141
            subst l141 y141 z141
            obtain ⟨c141, rfl, Nq141, e141, hr_c141⟩ := hQ141
            have N141 := Fr.app N0 Nq141
            refine own_go st141 ?_
            show own_Go p e below s _ _ _ (T141.setTop (mkF m 439 #[iv p1, iv p2, iv p3, .val (.long p4), .second] [(.int c141), (.int (0 : Int32)), (.ref b140), (.ref b140)]))
            obtain ⟨cl142, Ar142, q142, Sz142, Nz142, Ha142, Ga142⟩ := id V_b140
            have hin142 : ¬ ((0 : Int32) < 0 ∨ cl142.slots.size ≤ ((0 : Int32)).toNatClampNeg) := inb_of Sz142 ⟨by decide, by decide⟩
            obtain ⟨T143, h143, X143, e143, W143, st143⟩ := stC X141 hx hZ e141 Ar142 (j := (0 : Int32)) hin142 (g := (mkF m 439 #[iv p1, iv p2, iv p3, .val (.long p4), .second] [(.int c141), (.int (0 : Int32)), (.ref b140), (.ref b140)])) rfl rfl (hb hby own_d1_439)
            refine own_go st143 ?_
            rw [show nar .char c141 = c141 from own_narc hr_c141] at W143
            have V143 := Arv.set Ar142 q142 Sz142 Nz142 Ha142 Ga142 (own_fitc hr_c141) W143 0 rfl (Nat.le_of_ble_eq_true rfl)
            have N143 := Fr.snoc X143 N141 g_b140
            replace Kp := Kp.wr W143 (Or.inr sz_b140)
            replace Ea_b140 := Ea_b140.wr W143
            replace V_b140 : Arv Z h143 b140 k140 .char (7 : Int32) [(.int c141), (.int (0 : Int32)), (.int (0 : Int32)), (.int (0 : Int32)), (.int (0 : Int32)), (.int (0 : Int32)), (.int (0 : Int32))] (.int (0 : Int32)) := V143
            show own_Go p e below s _ _ _ (T143.setTop (mkF m 440 #[iv p1, iv p2, iv p3, .val (.long p4), .second] [(.ref b140)]))
            refine own_go (fun zt zk => (XS.dup X143.here hx rfl (hb hby own_d1_440) rfl rfl (XS.iconst X143.here hx rfl (hb hby own_d1_441) (XS.lloadN X143.here hx rfl (hb hby own_d1_442) rfl (XS.iconst X143.here hx rfl (hb hby own_d1_443) zk))))) ?_
            show own_Go p e below s _ _ _ (T143.setTop (mkF m 444 #[iv p1, iv p2, iv p3, .val (.long p4), .second] [(.int (1 : Int32)), (.long p4), (.int (1 : Int32)), (.ref b140), (.ref b140)]))
            obtain ⟨_, _, ⟨T144, L144, k144, n144⟩, -, X144, ⟨Lc144, hQ144, l144, y144, z144⟩, st144⟩ := Jvm.LawKit.callS X143 hx (y := (⟨"com/example/riskscan/riskscan/model/ProfileOfCodePinLaw", "ch", "(JI)C"⟩ : MethodName)) hown (mvT hZ (hw _ (List.mem_of_getElem? (i := 79) rfl))) (mvT hZ (hw _ (List.mem_of_getElem? (i := 80) rfl))) (mvT hZ (hw _ (List.mem_of_getElem? (i := 2) rfl))) (mvT hZ (hw _ (List.mem_of_getElem? (i := 81) rfl))) (by decide) (backOf (W := 3) (own_rch l Z a0 hw [] p4 (1 : Int32)  h143 n0 (Nat.le_trans Z0 Kp.1) ) hZ (hw _ (List.mem_of_getElem? (i := 81) rfl)) (hw _ (List.mem_of_getElem? (i := 2) rfl)) (by decide) (by decide)) (g := (mkF m 444 #[iv p1, iv p2, iv p3, .val (.long p4), .second] [(.int (1 : Int32)), (.long p4), (.int (1 : Int32)), (.ref b140), (.ref b140)])) rfl (by rw [hml]; rfl) (argsL := [(.long p4), (.int (1 : Int32))]) (rest := [(.int (1 : Int32)), (.ref b140), (.ref b140)]) (lenOf own_pd__JI_C rfl) rfl (by show 2 * 0 + _ ≤ _; exact Nat.le_of_eq rfl) (hb hby own_d1_444) (fun _ _ => ⟨rfl, e143, (by decide : 1 + 0 ≤ _), (by decide : 7 + 0 ≤ _)⟩)
            dsimp only [Pt.U, Pt.locs, Pt.cells, Pt.slots] at X144 l144 y144 z144 st144 hQ144
            subst l144 y144 z144
            obtain ⟨c144, rfl, Nq144, e144, hr_c144⟩ := hQ144
            have N144 := Fr.app N143 Nq144
            refine own_go st144 ?_
            show own_Go p e below s _ _ _ (T144.setTop (mkF m 447 #[iv p1, iv p2, iv p3, .val (.long p4), .second] [(.int c144), (.int (1 : Int32)), (.ref b140), (.ref b140)]))
            obtain ⟨cl145, Ar145, q145, Sz145, Nz145, Ha145, Ga145⟩ := id V_b140
            have hin145 : ¬ ((1 : Int32) < 0 ∨ cl145.slots.size ≤ ((1 : Int32)).toNatClampNeg) := inb_of Sz145 ⟨by decide, by decide⟩
            obtain ⟨T146, h146, X146, e146, W146, st146⟩ := stC X144 hx hZ e144 Ar145 (j := (1 : Int32)) hin145 (g := (mkF m 447 #[iv p1, iv p2, iv p3, .val (.long p4), .second] [(.int c144), (.int (1 : Int32)), (.ref b140), (.ref b140)])) rfl rfl (hb hby own_d1_447)
            refine own_go st146 ?_
            rw [show nar .char c144 = c144 from own_narc hr_c144] at W146
            have V146 := Arv.set Ar145 q145 Sz145 Nz145 Ha145 Ga145 (own_fitc hr_c144) W146 1 rfl (Nat.le_of_ble_eq_true rfl)
            have N146 := Fr.snoc X146 N144 g_b140
            replace Kp := Kp.wr W146 (Or.inr sz_b140)
            replace Ea_b140 := Ea_b140.wr W146
            replace V_b140 : Arv Z h146 b140 k140 .char (7 : Int32) [(.int c141), (.int c144), (.int (0 : Int32)), (.int (0 : Int32)), (.int (0 : Int32)), (.int (0 : Int32)), (.int (0 : Int32))] (.int (0 : Int32)) := V146
            show own_Go p e below s _ _ _ (T146.setTop (mkF m 448 #[iv p1, iv p2, iv p3, .val (.long p4), .second] [(.ref b140)]))
            refine own_go (fun zt zk => (XS.dup X146.here hx rfl (hb hby own_d1_448) rfl rfl (XS.iconst X146.here hx rfl (hb hby own_d1_449) (XS.lloadN X146.here hx rfl (hb hby own_d1_450) rfl (XS.iconst X146.here hx rfl (hb hby own_d1_451) zk))))) ?_
            show own_Go p e below s _ _ _ (T146.setTop (mkF m 452 #[iv p1, iv p2, iv p3, .val (.long p4), .second] [(.int (2 : Int32)), (.long p4), (.int (2 : Int32)), (.ref b140), (.ref b140)]))
            obtain ⟨_, _, ⟨T147, L147, k147, n147⟩, -, X147, ⟨Lc147, hQ147, l147, y147, z147⟩, st147⟩ := Jvm.LawKit.callS X146 hx (y := (⟨"com/example/riskscan/riskscan/model/ProfileOfCodePinLaw", "ch", "(JI)C"⟩ : MethodName)) hown (mvT hZ (hw _ (List.mem_of_getElem? (i := 79) rfl))) (mvT hZ (hw _ (List.mem_of_getElem? (i := 80) rfl))) (mvT hZ (hw _ (List.mem_of_getElem? (i := 2) rfl))) (mvT hZ (hw _ (List.mem_of_getElem? (i := 81) rfl))) (by decide) (backOf (W := 3) (own_rch l Z a0 hw [] p4 (2 : Int32)  h146 n0 (Nat.le_trans Z0 Kp.1) ) hZ (hw _ (List.mem_of_getElem? (i := 81) rfl)) (hw _ (List.mem_of_getElem? (i := 2) rfl)) (by decide) (by decide)) (g := (mkF m 452 #[iv p1, iv p2, iv p3, .val (.long p4), .second] [(.int (2 : Int32)), (.long p4), (.int (2 : Int32)), (.ref b140), (.ref b140)])) rfl (by rw [hml]; rfl) (argsL := [(.long p4), (.int (2 : Int32))]) (rest := [(.int (2 : Int32)), (.ref b140), (.ref b140)]) (lenOf own_pd__JI_C rfl) rfl (by show 2 * 0 + _ ≤ _; exact Nat.le_of_eq rfl) (hb hby own_d1_452) (fun _ _ => ⟨rfl, e146, (by decide : 1 + 0 ≤ _), (by decide : 7 + 0 ≤ _)⟩)
            dsimp only [Pt.U, Pt.locs, Pt.cells, Pt.slots] at X147 l147 y147 z147 st147 hQ147
            subst l147 y147 z147
            obtain ⟨c147, rfl, Nq147, e147, hr_c147⟩ := hQ147
            have N147 := Fr.app N146 Nq147
            refine own_go st147 ?_
            show own_Go p e below s _ _ _ (T147.setTop (mkF m 455 #[iv p1, iv p2, iv p3, .val (.long p4), .second] [(.int c147), (.int (2 : Int32)), (.ref b140), (.ref b140)]))
            obtain ⟨cl148, Ar148, q148, Sz148, Nz148, Ha148, Ga148⟩ := id V_b140
            have hin148 : ¬ ((2 : Int32) < 0 ∨ cl148.slots.size ≤ ((2 : Int32)).toNatClampNeg) := inb_of Sz148 ⟨by decide, by decide⟩
            obtain ⟨T149, h149, X149, e149, W149, st149⟩ := stC X147 hx hZ e147 Ar148 (j := (2 : Int32)) hin148 (g := (mkF m 455 #[iv p1, iv p2, iv p3, .val (.long p4), .second] [(.int c147), (.int (2 : Int32)), (.ref b140), (.ref b140)])) rfl rfl (hb hby own_d1_455)
            refine own_go st149 ?_
            rw [show nar .char c147 = c147 from own_narc hr_c147] at W149
            have V149 := Arv.set Ar148 q148 Sz148 Nz148 Ha148 Ga148 (own_fitc hr_c147) W149 2 rfl (Nat.le_of_ble_eq_true rfl)
            have N149 := Fr.snoc X149 N147 g_b140
            replace Kp := Kp.wr W149 (Or.inr sz_b140)
            replace Ea_b140 := Ea_b140.wr W149
            replace V_b140 : Arv Z h149 b140 k140 .char (7 : Int32) [(.int c141), (.int c144), (.int c147), (.int (0 : Int32)), (.int (0 : Int32)), (.int (0 : Int32)), (.int (0 : Int32))] (.int (0 : Int32)) := V149
            show own_Go p e below s _ _ _ (T149.setTop (mkF m 456 #[iv p1, iv p2, iv p3, .val (.long p4), .second] [(.ref b140)]))
            refine own_go (fun zt zk => (XS.dup X149.here hx rfl (hb hby own_d1_456) rfl rfl (XS.iconst X149.here hx rfl (hb hby own_d1_457) (XS.lloadN X149.here hx rfl (hb hby own_d1_458) rfl (XS.iconst X149.here hx rfl (hb hby own_d1_459) zk))))) ?_
            show own_Go p e below s _ _ _ (T149.setTop (mkF m 460 #[iv p1, iv p2, iv p3, .val (.long p4), .second] [(.int (3 : Int32)), (.long p4), (.int (3 : Int32)), (.ref b140), (.ref b140)]))
            obtain ⟨_, _, ⟨T150, L150, k150, n150⟩, -, X150, ⟨Lc150, hQ150, l150, y150, z150⟩, st150⟩ := Jvm.LawKit.callS X149 hx (y := (⟨"com/example/riskscan/riskscan/model/ProfileOfCodePinLaw", "ch", "(JI)C"⟩ : MethodName)) hown (mvT hZ (hw _ (List.mem_of_getElem? (i := 79) rfl))) (mvT hZ (hw _ (List.mem_of_getElem? (i := 80) rfl))) (mvT hZ (hw _ (List.mem_of_getElem? (i := 2) rfl))) (mvT hZ (hw _ (List.mem_of_getElem? (i := 81) rfl))) (by decide) (backOf (W := 3) (own_rch l Z a0 hw [] p4 (3 : Int32)  h149 n0 (Nat.le_trans Z0 Kp.1) ) hZ (hw _ (List.mem_of_getElem? (i := 81) rfl)) (hw _ (List.mem_of_getElem? (i := 2) rfl)) (by decide) (by decide)) (g := (mkF m 460 #[iv p1, iv p2, iv p3, .val (.long p4), .second] [(.int (3 : Int32)), (.long p4), (.int (3 : Int32)), (.ref b140), (.ref b140)])) rfl (by rw [hml]; rfl) (argsL := [(.long p4), (.int (3 : Int32))]) (rest := [(.int (3 : Int32)), (.ref b140), (.ref b140)]) (lenOf own_pd__JI_C rfl) rfl (by show 2 * 0 + _ ≤ _; exact Nat.le_of_eq rfl) (hb hby own_d1_460) (fun _ _ => ⟨rfl, e149, (by decide : 1 + 0 ≤ _), (by decide : 7 + 0 ≤ _)⟩)
            dsimp only [Pt.U, Pt.locs, Pt.cells, Pt.slots] at X150 l150 y150 z150 st150 hQ150
            subst l150 y150 z150
            obtain ⟨c150, rfl, Nq150, e150, hr_c150⟩ := hQ150
            have N150 := Fr.app N149 Nq150
            refine own_go st150 ?_
            show own_Go p e below s _ _ _ (T150.setTop (mkF m 463 #[iv p1, iv p2, iv p3, .val (.long p4), .second] [(.int c150), (.int (3 : Int32)), (.ref b140), (.ref b140)]))
            obtain ⟨cl151, Ar151, q151, Sz151, Nz151, Ha151, Ga151⟩ := id V_b140
            have hin151 : ¬ ((3 : Int32) < 0 ∨ cl151.slots.size ≤ ((3 : Int32)).toNatClampNeg) := inb_of Sz151 ⟨by decide, by decide⟩
            obtain ⟨T152, h152, X152, e152, W152, st152⟩ := stC X150 hx hZ e150 Ar151 (j := (3 : Int32)) hin151 (g := (mkF m 463 #[iv p1, iv p2, iv p3, .val (.long p4), .second] [(.int c150), (.int (3 : Int32)), (.ref b140), (.ref b140)])) rfl rfl (hb hby own_d1_463)
            refine own_go st152 ?_
            rw [show nar .char c150 = c150 from own_narc hr_c150] at W152
            have V152 := Arv.set Ar151 q151 Sz151 Nz151 Ha151 Ga151 (own_fitc hr_c150) W152 3 rfl (Nat.le_of_ble_eq_true rfl)
            have N152 := Fr.snoc X152 N150 g_b140
            replace Kp := Kp.wr W152 (Or.inr sz_b140)
            replace Ea_b140 := Ea_b140.wr W152
            replace V_b140 : Arv Z h152 b140 k140 .char (7 : Int32) [(.int c141), (.int c144), (.int c147), (.int c150), (.int (0 : Int32)), (.int (0 : Int32)), (.int (0 : Int32))] (.int (0 : Int32)) := V152
            show own_Go p e below s _ _ _ (T152.setTop (mkF m 464 #[iv p1, iv p2, iv p3, .val (.long p4), .second] [(.ref b140)]))
            refine own_go (fun zt zk => (XS.dup X152.here hx rfl (hb hby own_d1_464) rfl rfl (XS.iconst X152.here hx rfl (hb hby own_d1_465) (XS.lloadN X152.here hx rfl (hb hby own_d1_466) rfl (XS.iconst X152.here hx rfl (hb hby own_d1_467) zk))))) ?_
            show own_Go p e below s _ _ _ (T152.setTop (mkF m 468 #[iv p1, iv p2, iv p3, .val (.long p4), .second] [(.int (4 : Int32)), (.long p4), (.int (4 : Int32)), (.ref b140), (.ref b140)]))
            obtain ⟨_, _, ⟨T153, L153, k153, n153⟩, -, X153, ⟨Lc153, hQ153, l153, y153, z153⟩, st153⟩ := Jvm.LawKit.callS X152 hx (y := (⟨"com/example/riskscan/riskscan/model/ProfileOfCodePinLaw", "ch", "(JI)C"⟩ : MethodName)) hown (mvT hZ (hw _ (List.mem_of_getElem? (i := 79) rfl))) (mvT hZ (hw _ (List.mem_of_getElem? (i := 80) rfl))) (mvT hZ (hw _ (List.mem_of_getElem? (i := 2) rfl))) (mvT hZ (hw _ (List.mem_of_getElem? (i := 81) rfl))) (by decide) (backOf (W := 3) (own_rch l Z a0 hw [] p4 (4 : Int32)  h152 n0 (Nat.le_trans Z0 Kp.1) ) hZ (hw _ (List.mem_of_getElem? (i := 81) rfl)) (hw _ (List.mem_of_getElem? (i := 2) rfl)) (by decide) (by decide)) (g := (mkF m 468 #[iv p1, iv p2, iv p3, .val (.long p4), .second] [(.int (4 : Int32)), (.long p4), (.int (4 : Int32)), (.ref b140), (.ref b140)])) rfl (by rw [hml]; rfl) (argsL := [(.long p4), (.int (4 : Int32))]) (rest := [(.int (4 : Int32)), (.ref b140), (.ref b140)]) (lenOf own_pd__JI_C rfl) rfl (by show 2 * 0 + _ ≤ _; exact Nat.le_of_eq rfl) (hb hby own_d1_468) (fun _ _ => ⟨rfl, e152, (by decide : 1 + 0 ≤ _), (by decide : 7 + 0 ≤ _)⟩)
            dsimp only [Pt.U, Pt.locs, Pt.cells, Pt.slots] at X153 l153 y153 z153 st153 hQ153
            subst l153 y153 z153
            obtain ⟨c153, rfl, Nq153, e153, hr_c153⟩ := hQ153
            have N153 := Fr.app N152 Nq153
            refine own_go st153 ?_
            show own_Go p e below s _ _ _ (T153.setTop (mkF m 471 #[iv p1, iv p2, iv p3, .val (.long p4), .second] [(.int c153), (.int (4 : Int32)), (.ref b140), (.ref b140)]))
            obtain ⟨cl154, Ar154, q154, Sz154, Nz154, Ha154, Ga154⟩ := id V_b140
            have hin154 : ¬ ((4 : Int32) < 0 ∨ cl154.slots.size ≤ ((4 : Int32)).toNatClampNeg) := inb_of Sz154 ⟨by decide, by decide⟩
            obtain ⟨T155, h155, X155, e155, W155, st155⟩ := stC X153 hx hZ e153 Ar154 (j := (4 : Int32)) hin154 (g := (mkF m 471 #[iv p1, iv p2, iv p3, .val (.long p4), .second] [(.int c153), (.int (4 : Int32)), (.ref b140), (.ref b140)])) rfl rfl (hb hby own_d1_471)
            refine own_go st155 ?_
            rw [show nar .char c153 = c153 from own_narc hr_c153] at W155
            have V155 := Arv.set Ar154 q154 Sz154 Nz154 Ha154 Ga154 (own_fitc hr_c153) W155 4 rfl (Nat.le_of_ble_eq_true rfl)
            have N155 := Fr.snoc X155 N153 g_b140
            replace Kp := Kp.wr W155 (Or.inr sz_b140)
            replace Ea_b140 := Ea_b140.wr W155
            replace V_b140 : Arv Z h155 b140 k140 .char (7 : Int32) [(.int c141), (.int c144), (.int c147), (.int c150), (.int c153), (.int (0 : Int32)), (.int (0 : Int32))] (.int (0 : Int32)) := V155
            show own_Go p e below s _ _ _ (T155.setTop (mkF m 472 #[iv p1, iv p2, iv p3, .val (.long p4), .second] [(.ref b140)]))
            refine own_go (fun zt zk => (XS.dup X155.here hx rfl (hb hby own_d1_472) rfl rfl (XS.iconst X155.here hx rfl (hb hby own_d1_473) (XS.lloadN X155.here hx rfl (hb hby own_d1_474) rfl (XS.iconst X155.here hx rfl (hb hby own_d1_475) zk))))) ?_
            show own_Go p e below s _ _ _ (T155.setTop (mkF m 476 #[iv p1, iv p2, iv p3, .val (.long p4), .second] [(.int (5 : Int32)), (.long p4), (.int (5 : Int32)), (.ref b140), (.ref b140)]))
            obtain ⟨_, _, ⟨T156, L156, k156, n156⟩, -, X156, ⟨Lc156, hQ156, l156, y156, z156⟩, st156⟩ := Jvm.LawKit.callS X155 hx (y := (⟨"com/example/riskscan/riskscan/model/ProfileOfCodePinLaw", "ch", "(JI)C"⟩ : MethodName)) hown (mvT hZ (hw _ (List.mem_of_getElem? (i := 79) rfl))) (mvT hZ (hw _ (List.mem_of_getElem? (i := 80) rfl))) (mvT hZ (hw _ (List.mem_of_getElem? (i := 2) rfl))) (mvT hZ (hw _ (List.mem_of_getElem? (i := 81) rfl))) (by decide) (backOf (W := 3) (own_rch l Z a0 hw [] p4 (5 : Int32)  h155 n0 (Nat.le_trans Z0 Kp.1) ) hZ (hw _ (List.mem_of_getElem? (i := 81) rfl)) (hw _ (List.mem_of_getElem? (i := 2) rfl)) (by decide) (by decide)) (g := (mkF m 476 #[iv p1, iv p2, iv p3, .val (.long p4), .second] [(.int (5 : Int32)), (.long p4), (.int (5 : Int32)), (.ref b140), (.ref b140)])) rfl (by rw [hml]; rfl) (argsL := [(.long p4), (.int (5 : Int32))]) (rest := [(.int (5 : Int32)), (.ref b140), (.ref b140)]) (lenOf own_pd__JI_C rfl) rfl (by show 2 * 0 + _ ≤ _; exact Nat.le_of_eq rfl) (hb hby own_d1_476) (fun _ _ => ⟨rfl, e155, (by decide : 1 + 0 ≤ _), (by decide : 7 + 0 ≤ _)⟩)
            dsimp only [Pt.U, Pt.locs, Pt.cells, Pt.slots] at X156 l156 y156 z156 st156 hQ156
            subst l156 y156 z156
            obtain ⟨c156, rfl, Nq156, e156, hr_c156⟩ := hQ156
            have N156 := Fr.app N155 Nq156
            refine own_go st156 ?_
            show own_Go p e below s _ _ _ (T156.setTop (mkF m 479 #[iv p1, iv p2, iv p3, .val (.long p4), .second] [(.int c156), (.int (5 : Int32)), (.ref b140), (.ref b140)]))
            obtain ⟨cl157, Ar157, q157, Sz157, Nz157, Ha157, Ga157⟩ := id V_b140
            have hin157 : ¬ ((5 : Int32) < 0 ∨ cl157.slots.size ≤ ((5 : Int32)).toNatClampNeg) := inb_of Sz157 ⟨by decide, by decide⟩
            obtain ⟨T158, h158, X158, e158, W158, st158⟩ := stC X156 hx hZ e156 Ar157 (j := (5 : Int32)) hin157 (g := (mkF m 479 #[iv p1, iv p2, iv p3, .val (.long p4), .second] [(.int c156), (.int (5 : Int32)), (.ref b140), (.ref b140)])) rfl rfl (hb hby own_d1_479)
            refine own_go st158 ?_
            rw [show nar .char c156 = c156 from own_narc hr_c156] at W158
            have V158 := Arv.set Ar157 q157 Sz157 Nz157 Ha157 Ga157 (own_fitc hr_c156) W158 5 rfl (Nat.le_of_ble_eq_true rfl)
            have N158 := Fr.snoc X158 N156 g_b140
            replace Kp := Kp.wr W158 (Or.inr sz_b140)
            replace Ea_b140 := Ea_b140.wr W158
            replace V_b140 : Arv Z h158 b140 k140 .char (7 : Int32) [(.int c141), (.int c144), (.int c147), (.int c150), (.int c153), (.int c156), (.int (0 : Int32))] (.int (0 : Int32)) := V158
            show own_Go p e below s _ _ _ (T158.setTop (mkF m 480 #[iv p1, iv p2, iv p3, .val (.long p4), .second] [(.ref b140)]))
            refine own_go (fun zt zk => (XS.dup X158.here hx rfl (hb hby own_d1_480) rfl rfl (XS.bipush X158.here hx rfl (hb hby own_d1_481) (XS.lloadN X158.here hx rfl (hb hby own_d1_483) rfl (XS.bipush X158.here hx rfl (hb hby own_d1_484) zk))))) ?_
            show own_Go p e below s _ _ _ (T158.setTop (mkF m 486 #[iv p1, iv p2, iv p3, .val (.long p4), .second] [(.int (6 : Int32)), (.long p4), (.int (6 : Int32)), (.ref b140), (.ref b140)]))
            obtain ⟨_, _, ⟨T159, L159, k159, n159⟩, -, X159, ⟨Lc159, hQ159, l159, y159, z159⟩, st159⟩ := Jvm.LawKit.callS X158 hx (y := (⟨"com/example/riskscan/riskscan/model/ProfileOfCodePinLaw", "ch", "(JI)C"⟩ : MethodName)) hown (mvT hZ (hw _ (List.mem_of_getElem? (i := 79) rfl))) (mvT hZ (hw _ (List.mem_of_getElem? (i := 80) rfl))) (mvT hZ (hw _ (List.mem_of_getElem? (i := 2) rfl))) (mvT hZ (hw _ (List.mem_of_getElem? (i := 81) rfl))) (by decide) (backOf (W := 3) (own_rch l Z a0 hw [] p4 (6 : Int32)  h158 n0 (Nat.le_trans Z0 Kp.1) ) hZ (hw _ (List.mem_of_getElem? (i := 81) rfl)) (hw _ (List.mem_of_getElem? (i := 2) rfl)) (by decide) (by decide)) (g := (mkF m 486 #[iv p1, iv p2, iv p3, .val (.long p4), .second] [(.int (6 : Int32)), (.long p4), (.int (6 : Int32)), (.ref b140), (.ref b140)])) rfl (by rw [hml]; rfl) (argsL := [(.long p4), (.int (6 : Int32))]) (rest := [(.int (6 : Int32)), (.ref b140), (.ref b140)]) (lenOf own_pd__JI_C rfl) rfl (by show 2 * 0 + _ ≤ _; exact Nat.le_of_eq rfl) (hb hby own_d1_486) (fun _ _ => ⟨rfl, e158, (by decide : 1 + 0 ≤ _), (by decide : 7 + 0 ≤ _)⟩)
            dsimp only [Pt.U, Pt.locs, Pt.cells, Pt.slots] at X159 l159 y159 z159 st159 hQ159
            subst l159 y159 z159
            obtain ⟨c159, rfl, Nq159, e159, hr_c159⟩ := hQ159
            have N159 := Fr.app N158 Nq159
            refine own_go st159 ?_
            show own_Go p e below s _ _ _ (T159.setTop (mkF m 489 #[iv p1, iv p2, iv p3, .val (.long p4), .second] [(.int c159), (.int (6 : Int32)), (.ref b140), (.ref b140)]))
            obtain ⟨cl160, Ar160, q160, Sz160, Nz160, Ha160, Ga160⟩ := id V_b140
            have hin160 : ¬ ((6 : Int32) < 0 ∨ cl160.slots.size ≤ ((6 : Int32)).toNatClampNeg) := inb_of Sz160 ⟨by decide, by decide⟩
            obtain ⟨T161, h161, X161, e161, W161, st161⟩ := stC X159 hx hZ e159 Ar160 (j := (6 : Int32)) hin160 (g := (mkF m 489 #[iv p1, iv p2, iv p3, .val (.long p4), .second] [(.int c159), (.int (6 : Int32)), (.ref b140), (.ref b140)])) rfl rfl (hb hby own_d1_489)
            refine own_go st161 ?_
            rw [show nar .char c159 = c159 from own_narc hr_c159] at W161
            have V161 := Arv.set Ar160 q160 Sz160 Nz160 Ha160 Ga160 (own_fitc hr_c159) W161 6 rfl (Nat.le_of_ble_eq_true rfl)
            have N161 := Fr.snoc X161 N159 g_b140
            replace Kp := Kp.wr W161 (Or.inr sz_b140)
            replace Ea_b140 := Ea_b140.wr W161
            replace V_b140 : Arv Z h161 b140 k140 .char (7 : Int32) [(.int c141), (.int c144), (.int c147), (.int c150), (.int c153), (.int c156), (.int c159)] (.int (0 : Int32)) := V161
            show own_Go p e below s _ _ _ (T161.setTop (mkF m 490 #[iv p1, iv p2, iv p3, .val (.long p4), .second] [(.ref b140)]))
            exact own_fin X161 Bd.notSynchronized (fun h => by rw [Bd.returns] at h; cases h) (fun fs hr => retOut X161 hx (t := (.array .char)) (w := (.ref b140)) Bd.returns rfl (Or.inr (Or.inr (Or.inr (Or.inr ⟨rfl, rfl, rfl⟩)))) (hb hby own_d1_490) hr) (by rw [e161]; exact ⟨_, _, [c141, c144, c147, c150, c153, c156, c159], rfl, N161, Kp, sz_b140, Nat.le_of_ble_eq_true rfl, V_b140, (own_ac hr_c141 (own_ac hr_c144 (own_ac hr_c147 (own_ac hr_c150 (own_ac hr_c153 (own_ac hr_c156 (own_ac hr_c159 own_an)))))))⟩) (by decide) (by decide)
theorem own_d9_0 : decode prog_93_method_1_code 0 = .ok (.getstatic 10, 3) := by decide +kernel
theorem own_d9_3 : decode prog_93_method_1_code 3 = .ok (.invokevirtual 14, 3) := by decide +kernel
theorem own_d9_6 : decode prog_93_method_1_code 6 = .ok (.checkcast 15, 3) := by decide +kernel
theorem own_d9_9 : decode prog_93_method_1_code 9 = .ok (.areturn, 1) := by decide +kernel
theorem own_pn_com_example_riskscan_riskscan_model_Profile : plainName "com/example/riskscan/riskscan/model/Profile" = true := by first | (simp [plainName, overriddenIn]; done) | decide +kernel
theorem own_ef_own_rvalues (m : MethodId)  : entryFrame m #[] 0 = mkF m 0 #[] [] := by first | (simp [entryFrame, mkF, argsToLocals, Value.category]; done) | rfl
def own_Q_own_rvalues (Z : State) (o__VALUES : Addr) (k_o__VALUES : ClassId) (o_CLASSIC o_TIERED : Addr) (h0 : Heap) (n0 : Nat) (v : Option Value) (h : Heap) (L : List Loc) : Prop := ∃ b, v = some (.ref b) ∧ Fr n0 L ∧ Keep h0 h [] ∧ h0.size ≤ b ∧ Exa Z h b "[Lcom/example/riskscan/riskscan/model/Profile;" ∧ Arv Z h b k_o__VALUES (.object "com/example/riskscan/riskscan/model/Profile") (2 : Int32) [(.ref o_CLASSIC), (.ref o_TIERED)] .null
set_option maxRecDepth 65536 in
set_option maxHeartbeats 40000000 in
theorem own_rvalues (l : Launch) (Z : State) (a0 : Array Value) (hw : ∀ d ∈ tables_1, d.before a0 Z = true) (ws : List Jvm.Cond) (o__VALUES : Addr) (k_o__VALUES : ClassId) (o_CLASSIC o_TIERED : Addr) (h0 : Heap) (n0 : Nat) (Z0 : n0 ≤ h0.size) (O : Old Z n0 h0) (S_o__VALUES : Sta Z Z.heap "com/example/riskscan/riskscan/model/Profile" "$VALUES" "[Lcom/example/riskscan/riskscan/model/Profile;" (.ref o__VALUES)) (V_o__VALUES : Arv Z Z.heap o__VALUES k_o__VALUES (.object "com/example/riskscan/riskscan/model/Profile") (2 : Int32) [(.ref o_CLASSIC), (.ref o_TIERED)] .null) (Ex_o__VALUES : Exa Z Z.heap o__VALUES "[Lcom/example/riskscan/riskscan/model/Profile;")  :
    MetFree l (⟨"com/example/riskscan/riskscan/model/Profile", "values", "()[Lcom/example/riskscan/riskscan/model/Profile;"⟩ : MethodName) (head1 (Jvm.Cond.code (⟨"com/example/riskscan/riskscan/model/Profile", "values", "()[Lcom/example/riskscan/riskscan/model/Profile;"⟩ : MethodName) prog_93_method_1_code 0 (some (.array (.object "com/example/riskscan/riskscan/model/Profile"))) :: ws) ({ frames := 1, cells := 1, slots := 2, locals := 14 } : Room)) (fun a U => a = #[] ∧ Z.Warmed39 U.vm ∧ U.heap = h0) (fun _ _ _ _ _ => True) (fun _ U o U' => ∃ v L, o = .returned v ∧ own_Q_own_rvalues Z o__VALUES k_o__VALUES o_CLASSIC o_TIERED h0 n0 v U'.heap L ∧ FrameEnd U o U' L ({ frames := 1, cells := 1, slots := 2, locals := 14 } : Room).cells ({ frames := 1, cells := 1, slots := 2, locals := 14 } : Room).slots) := by
  refine MetFree.of_bodySF (plainFor_of_name own_pn_com_example_riskscan_riskscan_model_Profile) hisR ?_
  intro p e s m args below meth c s₁ Bd hml0 hP hK
  obtain ⟨rfl, hZ, hh⟩ := hP
  have hx := Bd.exec
  have hby := Bd.bytes
  have hml : c.maxLocals = 0 := hml0
  have hown : s.vm.findClass "com/example/riskscan/riskscan/model/Profile" = some m.cls := findClass_of_methodNamed Bd.named
  have hnm := (name_of_methodNamed Bd.named Bd.method).1
  have X0 : Stand p l e ({ frames := 1, cells := 1, slots := 2, locals := 14 } : Room) s m #[] below meth c s₁ [] 0 0 := Stand.of_body Bd
  have e0 : s₁.heap = h0 := by rw [← hh, Bd.state]; rfl
  have N0 := Fr.nil n0
  have Kp : Keep h0 h0 [] := Keep.refl h0 _
  show own_Go p e below s (own_Q_own_rvalues Z o__VALUES k_o__VALUES o_CLASSIC o_TIERED h0 n0) ({ frames := 1, cells := 1, slots := 2, locals := 14 } : Room).cells ({ frames := 1, cells := 1, slots := 2, locals := 14 } : Room).slots (s₁.setTop (entryFrame m #[] 0))
  refine own_go (fun zt zk => castTop (own_ef_own_rvalues m) zk) ?_
  show own_Go p e below s _ _ _ (s₁.setTop (mkF m 0 #[] []))
  obtain ⟨T1, X1, e1, st1⟩ := getS2 X0 hx hZ hown (host := "") (Or.inl (hw _ (List.mem_of_getElem? (i := 41) rfl))) Via.refl e0 (S_o__VALUES.ext O.2) (g := (mkF m 0 #[] [])) rfl (hb hby own_d9_0)
  refine own_go st1 ?_
  show own_Go p e below s _ _ _ (T1.setTop (mkF m 3 #[] [(.ref o__VALUES)]))
  obtain ⟨T2, h2, X2, e2, E2, A2, Ea2, st2⟩ := cloneH X1 hx hZ hown (hw _ (List.mem_of_getElem? (i := 43) rfl)) (hw _ (List.mem_of_getElem? (i := 44) rfl)) (hw _ (List.mem_of_getElem? (i := 48) rfl)) (hw _ (List.mem_of_getElem? (i := 46) rfl)) (hw _ (List.mem_of_getElem? (i := 47) rfl)) (hw _ (List.mem_of_getElem? (i := 49) rfl)) e1 (Arv.arh (V_o__VALUES.ext O.2)) (Ex_o__VALUES.ext O.2) (g := (mkF m 3 #[] [(.ref o__VALUES)])) rfl (by rw [hml]; rfl) rfl (hb hby own_d9_3) (by decide) (W := 0) (cap := 2) (by show 2 * 0 + _ ≤ _; exact Nat.le_of_eq rfl) (by decide) (by decide) (by decide) (by decide)
  obtain ⟨b2, g2⟩ : ∃ z, z = h0.size := ⟨_, rfl⟩
  rw [← g2] at A2 Ea2 st2
  refine own_go st2 ?_
  have ne_o__VALUES_b2 : o__VALUES ≠ b2 := Nat.ne_of_lt (Nat.lt_of_lt_of_le (V_o__VALUES.ext O.2).lt (Nat.le_of_eq g2.symm))
  have sz_b2 : h0.size ≤ b2 := Nat.le_trans Kp.1 (Nat.le_of_eq g2.symm)
  have g_b2 : n0 ≤ b2 := Nat.le_trans Z0 sz_b2
  replace O := O.ext E2
  replace Kp := Kp.ext E2
  have V_b2 : Arv Z h2 b2 k_o__VALUES (.object "com/example/riskscan/riskscan/model/Profile") (2 : Int32) [(.ref o_CLASSIC), (.ref o_TIERED)] .null := A2
  have Ea_b2 := Ea2
  show own_Go p e below s _ _ _ (T2.setTop (mkF m 6 #[] [(.ref b2)]))
  obtain ⟨T3, X3, e3, st3⟩ := castY X2 hx hZ hown (hw _ (List.mem_of_getElem? (i := 53) rfl)) e2 (Ins.self Ea_b2) (g := (mkF m 6 #[] [(.ref b2)])) rfl rfl (hb hby own_d9_6)
  refine own_go st3 ?_
  show own_Go p e below s _ _ _ (T3.setTop (mkF m 9 #[] [(.ref b2)]))
  exact own_fin X3 Bd.notSynchronized (fun h => by rw [Bd.returns] at h; cases h) (fun fs hr => retOut X3 hx (t := (.array (.object "com/example/riskscan/riskscan/model/Profile"))) (w := (.ref b2)) Bd.returns rfl (Or.inr (Or.inr (Or.inr (Or.inr ⟨rfl, rfl, rfl⟩)))) (hb hby own_d9_9) hr) (by rw [e3]; exact ⟨_, rfl, N0, Kp, sz_b2, Ea_b2, V_b2⟩) (by decide) (by decide)
theorem own_d12_0 : decode prog_93_method_4_code 0 = .ok (.aload_n 0, 1) := by decide +kernel
theorem own_d12_1 : decode prog_93_method_4_code 1 = .ok (.getfield 29, 3) := by decide +kernel
theorem own_d12_4 : decode prog_93_method_4_code 4 = .ok (.areturn, 1) := by decide +kernel
theorem own_ef_own_gcode (m : MethodId) (a1 : Addr) : entryFrame m #[(.ref a1)] 1 = mkF m 0 #[rv a1] [] := by first | (simp [entryFrame, mkF, argsToLocals, Value.category]; done) | rfl
def own_Q_own_gcode (Z : State) (a1 : Addr) (b : Addr) (h0 : Heap) (n0 : Nat) (v : Option Value) (h : Heap) (L : List Loc) : Prop := v = some (.ref b) ∧ Fr n0 L ∧ h = h0
set_option maxRecDepth 65536 in
set_option maxHeartbeats 40000000 in
theorem own_gcode (l : Launch) (Z : State) (a0 : Array Value) (hw : ∀ d ∈ tables_1, d.before a0 Z = true) (ws : List Jvm.Cond) (a1 : Addr) (b : Addr) (h0 : Heap) (n0 : Nat) (Z0 : n0 ≤ h0.size) (F1 : Fld Z h0 a1 "com/example/riskscan/riskscan/model/Profile" "code" "Ljava/lang/String;" (.ref b))  :
    MetFree l (⟨"com/example/riskscan/riskscan/model/Profile", "code", "()Ljava/lang/String;"⟩ : MethodName) (head1 (Jvm.Cond.code (⟨"com/example/riskscan/riskscan/model/Profile", "code", "()Ljava/lang/String;"⟩ : MethodName) prog_93_method_4_code 1 (some (.object "java/lang/String")) :: ws) ({ frames := 0, cells := 0, slots := 0, locals := 0 } : Room)) (fun a U => a = #[(.ref a1)] ∧ Z.Warmed39 U.vm ∧ U.heap = h0) (fun _ _ _ _ _ => True) (fun _ U o U' => ∃ v L, o = .returned v ∧ own_Q_own_gcode Z a1 b h0 n0 v U'.heap L ∧ FrameEnd U o U' L ({ frames := 0, cells := 0, slots := 0, locals := 0 } : Room).cells ({ frames := 0, cells := 0, slots := 0, locals := 0 } : Room).slots) := by
  refine MetFree.of_bodySF (plainFor_of_name own_pn_com_example_riskscan_riskscan_model_Profile) hisR ?_
  intro p e s m args below meth c s₁ Bd hml0 hP hK
  obtain ⟨rfl, hZ, hh⟩ := hP
  have hx := Bd.exec
  have hby := Bd.bytes
  have hml : c.maxLocals = 1 := hml0
  have hown : s.vm.findClass "com/example/riskscan/riskscan/model/Profile" = some m.cls := findClass_of_methodNamed Bd.named
  have hnm := (name_of_methodNamed Bd.named Bd.method).1
  have X0 : Stand p l e ({ frames := 0, cells := 0, slots := 0, locals := 0 } : Room) s m #[(.ref a1)] below meth c s₁ [] 0 0 := Stand.of_body Bd
  have e0 : s₁.heap = h0 := by rw [← hh, Bd.state]; rfl
  have N0 := Fr.nil n0
  show own_Go p e below s (own_Q_own_gcode Z a1 b h0 n0) ({ frames := 0, cells := 0, slots := 0, locals := 0 } : Room).cells ({ frames := 0, cells := 0, slots := 0, locals := 0 } : Room).slots (s₁.setTop (entryFrame m #[(.ref a1)] 1))
  refine own_go (fun zt zk => castTop (own_ef_own_gcode m a1) zk) ?_
  show own_Go p e below s _ _ _ (s₁.setTop (mkF m 0 #[rv a1] []))
  refine own_go (fun zt zk => (XS.aloadN X0.here hx rfl (hb hby own_d12_0) rfl rfl zk)) ?_
  show own_Go p e below s _ _ _ (s₁.setTop (mkF m 1 #[rv a1] [(.ref a1)]))
  obtain ⟨T1, X1, e1, st1⟩ := getF X0 hx hZ hown (host := "") (Or.inl (hw _ (List.mem_of_getElem? (i := 55) rfl))) Via.refl e0 F1 (g := (mkF m 1 #[rv a1] [(.ref a1)])) rfl rfl (hb hby own_d12_1)
  refine own_go st1 ?_
  show own_Go p e below s _ _ _ (T1.setTop (mkF m 4 #[rv a1] [(.ref b)]))
  exact own_fin X1 Bd.notSynchronized (fun h => by rw [Bd.returns] at h; cases h) (fun fs hr => retOut X1 hx (t := (.object "java/lang/String")) (w := (.ref b)) Bd.returns rfl (Or.inr (Or.inr (Or.inr (Or.inr ⟨rfl, rfl, rfl⟩)))) (hb hby own_d12_4) hr) (by rw [e1]; exact ⟨rfl, N0, rfl⟩) (by decide) (by decide)
theorem own_ef_own_reqn (m : MethodId) (a1 : Addr) : entryFrame m #[(.ref a1), .null] 3 = mkF m 0 #[rv a1, .val .null, .unset] [] := by first | (simp [entryFrame, mkF, argsToLocals, Value.category]; done) | rfl
def own_Q_own_reqn (Z : State) (a1 : Addr) (h0 : Heap) (n0 : Nat) (v : Option Value) (h : Heap) (L : List Loc) : Prop := v = some (.int (0 : Int32)) ∧ Fr n0 L ∧ h = h0
set_option maxRecDepth 65536 in
set_option maxHeartbeats 40000000 in
theorem own_reqn (l : Launch) (Z : State) (a0 : Array Value) (hw : ∀ d ∈ tables_1, d.before a0 Z = true) (ws : List Jvm.Cond) (a1 : Addr) (h0 : Heap) (n0 : Nat) (Z0 : n0 ≤ h0.size)   :
    MetFree l (⟨"java/lang/String", "equals", "(Ljava/lang/Object;)Z"⟩ : MethodName) (head1 (Jvm.Cond.code (⟨"java/lang/String", "equals", "(Ljava/lang/Object;)Z"⟩ : MethodName) jdk_42_method_66_code 3 (some .boolean) :: ws) ({ frames := 0, cells := 0, slots := 0, locals := 0 } : Room)) (fun a U => a = #[(.ref a1), .null] ∧ Z.Warmed39 U.vm ∧ U.heap = h0) (fun _ _ _ _ _ => True) (fun _ U o U' => ∃ v L, o = .returned v ∧ own_Q_own_reqn Z a1 h0 n0 v U'.heap L ∧ FrameEnd U o U' L ({ frames := 0, cells := 0, slots := 0, locals := 0 } : Room).cells ({ frames := 0, cells := 0, slots := 0, locals := 0 } : Room).slots) := by
  refine MetFree.of_bodySF (plainFor_of_name own_pn_java_lang_String) hisR ?_
  intro p e s m args below meth c s₁ Bd hml0 hP hK
  obtain ⟨rfl, hZ, hh⟩ := hP
  have hx := Bd.exec
  have hby := Bd.bytes
  have hml : c.maxLocals = 3 := hml0
  have hown : s.vm.findClass "java/lang/String" = some m.cls := findClass_of_methodNamed Bd.named
  have hnm := (name_of_methodNamed Bd.named Bd.method).1
  have X0 : Stand p l e ({ frames := 0, cells := 0, slots := 0, locals := 0 } : Room) s m #[(.ref a1), .null] below meth c s₁ [] 0 0 := Stand.of_body Bd
  have e0 : s₁.heap = h0 := by rw [← hh, Bd.state]; rfl
  have N0 := Fr.nil n0
  show own_Go p e below s (own_Q_own_reqn Z a1 h0 n0) ({ frames := 0, cells := 0, slots := 0, locals := 0 } : Room).cells ({ frames := 0, cells := 0, slots := 0, locals := 0 } : Room).slots (s₁.setTop (entryFrame m #[(.ref a1), .null] 3))
  refine own_go (fun zt zk => castTop (own_ef_own_reqn m a1) zk) ?_
  show own_Go p e below s _ _ _ (s₁.setTop (mkF m 0 #[rv a1, .val .null, .unset] []))
  refine own_go (fun zt zk => (XS.aloadN X0.here hx rfl (hb hby own_d10_0) rfl rfl (XS.aloadN X0.here hx rfl (hb hby own_d10_1) rfl rfl zk))) ?_
  show own_Go p e below s _ _ _ (s₁.setTop (mkF m 2 #[rv a1, .val .null, .unset] [.null, (.ref a1)]))
  refine own_go (fun zt zk => Jvm.RoadKit.acmp (g := (mkF m 2 #[rv a1, .val .null, .unset] [.null, (.ref a1)])) X0 hx rfl rfl rfl (pc0 := 2) (pc' := 7) (same := false) rfl (hb hby own_d10_2) rfl (decide_eq_false nofun) (by decide) (by decide) zk) ?_
  show own_Go p e below s _ _ _ (s₁.setTop (mkF m 7 #[rv a1, .val .null, .unset] []))
  refine own_go (fun zt zk => (XS.aloadN X0.here hx rfl (hb hby own_d10_7) rfl rfl zk)) ?_
  show own_Go p e below s _ _ _ (s₁.setTop (mkF m 8 #[rv a1, .val .null, .unset] [.null]))
  refine own_go (X0.instanceofNull hx (g := (mkF m 8 #[rv a1, .val .null, .unset] [.null])) rfl rfl (hb hby own_d10_8)) ?_
  show own_Go p e below s _ _ _ (s₁.setTop (mkF m 11 #[rv a1, .val .null, .unset] [(.int (0 : Int32))]))
  refine own_go (fun zt zk => (XS.ifYes X0.here hx rfl (pc0 := 11) (pc' := 54) rfl (hb hby own_d10_11) rfl ((if0 _ _).trans (teq (rfl : (0 : Int32) = (0 : Int32))).1) (by decide) (by decide) (XS.iconst X0.here hx rfl (hb hby own_d10_54) zk))) ?_
  show own_Go p e below s _ _ _ (s₁.setTop (mkF m 55 #[rv a1, .val .null, .unset] [(.int (0 : Int32))]))
  exact own_fin X0 Bd.notSynchronized (fun h => by rw [Bd.returns] at h; cases h) (fun fs hr => retN X0 hx (t := .boolean) Bd.returns (by simp) (hb hby own_d10_55) hr) (by rw [e0]; exact ⟨rfl, N0, rfl⟩) (by decide) (by decide)
theorem own_d8_0 : decode prog_93_method_5_code 0 = .ok (.invokestatic 33, 3) := by decide +kernel
theorem own_pd____Lcom_example_riskscan_riskscan_model_Profile_ : parseMethodDescriptor "()[Lcom/example/riskscan/riskscan/model/Profile;" = some ⟨[], some (.array (.object "com/example/riskscan/riskscan/model/Profile"))⟩ := by decide +kernel
theorem own_d8_3 : decode prog_93_method_5_code 3 = .ok (.astore_n 1, 1) := by decide +kernel
theorem own_d8_4 : decode prog_93_method_5_code 4 = .ok (.aload_n 1, 1) := by decide +kernel
theorem own_d8_5 : decode prog_93_method_5_code 5 = .ok (.arraylength, 1) := by decide +kernel
theorem own_d8_6 : decode prog_93_method_5_code 6 = .ok (.istore_n 2, 1) := by decide +kernel
theorem own_d8_7 : decode prog_93_method_5_code 7 = .ok (.iconst 0, 1) := by decide +kernel
theorem own_d8_8 : decode prog_93_method_5_code 8 = .ok (.istore_n 3, 1) := by decide +kernel
theorem own_d8_9 : decode prog_93_method_5_code 9 = .ok (.iload_n 3, 1) := by decide +kernel
theorem own_d8_10 : decode prog_93_method_5_code 10 = .ok (.iload_n 2, 1) := by decide +kernel
theorem own_d8_11 : decode prog_93_method_5_code 11 = .ok (.if_icmp .ge 29, 3) := by decide +kernel
theorem own_d8_14 : decode prog_93_method_5_code 14 = .ok (.aload_n 1, 1) := by decide +kernel
theorem own_d8_15 : decode prog_93_method_5_code 15 = .ok (.iload_n 3, 1) := by decide +kernel
theorem own_d8_16 : decode prog_93_method_5_code 16 = .ok (.aaload, 1) := by decide +kernel
theorem own_d8_17 : decode prog_93_method_5_code 17 = .ok (.astore 4, 2) := by decide +kernel
theorem own_d8_19 : decode prog_93_method_5_code 19 = .ok (.aload 4, 2) := by decide +kernel
theorem own_d8_21 : decode prog_93_method_5_code 21 = .ok (.getfield 29, 3) := by decide +kernel
theorem own_d8_24 : decode prog_93_method_5_code 24 = .ok (.aload_n 0, 1) := by decide +kernel
theorem own_d8_25 : decode prog_93_method_5_code 25 = .ok (.invokevirtual 37, 3) := by decide +kernel
theorem own_pd__Ljava_lang_Object__Z : parseMethodDescriptor "(Ljava/lang/Object;)Z" = some ⟨[(.object "java/lang/Object")], some .boolean⟩ := by decide +kernel
theorem own_d8_28 : decode prog_93_method_5_code 28 = .ok (.ifCond .eq 6, 3) := by decide +kernel
theorem own_d8_31 : decode prog_93_method_5_code 31 = .ok (.aload 4, 2) := by decide +kernel
theorem own_d8_33 : decode prog_93_method_5_code 33 = .ok (.areturn, 1) := by decide +kernel
theorem own_ef_own_rof0 (m : MethodId) (a1 : Addr) : entryFrame m #[(.ref a1)] 5 = mkF m 0 #[rv a1, .unset, .unset, .unset, .unset] [] := by first | (simp [entryFrame, mkF, argsToLocals, Value.category]; done) | rfl
def own_Q_own_rof0 (Z : State) (a1 : Addr) (t : Addr) (kb : ClassId) (N : Int32) (xs : List Int32) (o_COMPACT_STRINGS : Int32) (o__VALUES : Addr) (k_o__VALUES : ClassId) (o_CLASSIC o_CLASSIC_code o_CLASSIC_code_value : Addr) (k_o_CLASSIC_code_value : ClassId) (o_TIERED o_TIERED_code o_TIERED_code_value : Addr) (k_o_TIERED_code_value : ClassId) (h0 : Heap) (n0 : Nat) (v : Option Value) (h : Heap) (L : List Loc) : Prop := v = some (.ref o_CLASSIC) ∧ Fr n0 L ∧ Keep h0 h []
set_option maxRecDepth 65536 in
set_option maxHeartbeats 40000000 in
theorem own_rof0 (l : Launch) (Z : State) (a0 : Array Value) (hw : ∀ d ∈ tables_1, d.before a0 Z = true) (ws : List Jvm.Cond) (a1 : Addr) (t : Addr) (kb : ClassId) (N : Int32) (xs : List Int32) (o_COMPACT_STRINGS : Int32) (o__VALUES : Addr) (k_o__VALUES : ClassId) (o_CLASSIC o_CLASSIC_code o_CLASSIC_code_value : Addr) (k_o_CLASSIC_code_value : ClassId) (o_TIERED o_TIERED_code o_TIERED_code_value : Addr) (k_o_TIERED_code_value : ClassId) (h0 : Heap) (n0 : Nat) (Z0 : n0 ≤ h0.size) (O : Old Z n0 h0) (S_o_COMPACT_STRINGS : Sta Z Z.heap "java/lang/String" "COMPACT_STRINGS" "Z" (.int o_COMPACT_STRINGS)) (S_o__VALUES : Sta Z Z.heap "com/example/riskscan/riskscan/model/Profile" "$VALUES" "[Lcom/example/riskscan/riskscan/model/Profile;" (.ref o__VALUES)) (V_o__VALUES : Arv Z Z.heap o__VALUES k_o__VALUES (.object "com/example/riskscan/riskscan/model/Profile") (2 : Int32) [(.ref o_CLASSIC), (.ref o_TIERED)] .null) (Ex_o__VALUES : Exa Z Z.heap o__VALUES "[Lcom/example/riskscan/riskscan/model/Profile;") (Ex_o_CLASSIC : Exa Z Z.heap o_CLASSIC "com/example/riskscan/riskscan/model/Profile") (F_o_CLASSIC_code : Fld Z Z.heap o_CLASSIC "com/example/riskscan/riskscan/model/Profile" "code" "Ljava/lang/String;" (.ref o_CLASSIC_code)) (Ex_o_CLASSIC_code : Exa Z Z.heap o_CLASSIC_code "java/lang/String") (F_o_CLASSIC_code_coder : Fld Z Z.heap o_CLASSIC_code "java/lang/String" "coder" "B" (.int (0 : Int32))) (F_o_CLASSIC_code_value : Fld Z Z.heap o_CLASSIC_code "java/lang/String" "value" "[B" (.ref o_CLASSIC_code_value)) (V_o_CLASSIC_code_value : Arv Z Z.heap o_CLASSIC_code_value k_o_CLASSIC_code_value .byte (7 : Int32) [(.int (99 : Int32)), (.int (108 : Int32)), (.int (97 : Int32)), (.int (115 : Int32)), (.int (115 : Int32)), (.int (105 : Int32)), (.int (99 : Int32))] (.int (0 : Int32))) (Ex_o_TIERED : Exa Z Z.heap o_TIERED "com/example/riskscan/riskscan/model/Profile") (F_o_TIERED_code : Fld Z Z.heap o_TIERED "com/example/riskscan/riskscan/model/Profile" "code" "Ljava/lang/String;" (.ref o_TIERED_code)) (Ex_o_TIERED_code : Exa Z Z.heap o_TIERED_code "java/lang/String") (F_o_TIERED_code_coder : Fld Z Z.heap o_TIERED_code "java/lang/String" "coder" "B" (.int (0 : Int32))) (F_o_TIERED_code_value : Fld Z Z.heap o_TIERED_code "java/lang/String" "value" "[B" (.ref o_TIERED_code_value)) (V_o_TIERED_code_value : Arv Z Z.heap o_TIERED_code_value k_o_TIERED_code_value .byte (6 : Int32) [(.int (116 : Int32)), (.int (105 : Int32)), (.int (101 : Int32)), (.int (114 : Int32)), (.int (101 : Int32)), (.int (100 : Int32))] (.int (0 : Int32))) (Ex : Exa Z h0 a1 "java/lang/String") (Fv : Fld Z h0 a1 "java/lang/String" "value" "[B" (.ref t)) (Fc : Fld Z h0 a1 "java/lang/String" "coder" "B" (.int (0 : Int32))) (Va : Arv Z h0 t kb .byte N (xs.map Value.int) (.int (0 : Int32))) (nz_o_COMPACT_STRINGS : ¬ (o_COMPACT_STRINGS = (0 : Int32))) (hl : N.toNatClampNeg = xs.length) (hxq0 : [(99 : Int32), (108 : Int32), (97 : Int32), (115 : Int32), (115 : Int32), (105 : Int32), (99 : Int32)] = xs) :
    MetFree l (⟨"com/example/riskscan/riskscan/model/Profile", "ofCode", "(Ljava/lang/String;)Lcom/example/riskscan/riskscan/model/Profile;"⟩ : MethodName) (head1 (Jvm.Cond.code (⟨"com/example/riskscan/riskscan/model/Profile", "ofCode", "(Ljava/lang/String;)Lcom/example/riskscan/riskscan/model/Profile;"⟩ : MethodName) prog_93_method_5_code 5 (some (.object "com/example/riskscan/riskscan/model/Profile")) :: ws) ({ frames := 2, cells := 1, slots := 2, locals := 28 } : Room)) (fun a U => a = #[(.ref a1)] ∧ Z.Warmed39 U.vm ∧ U.heap = h0) (fun _ _ _ _ _ => True) (fun _ U o U' => ∃ v L, o = .returned v ∧ own_Q_own_rof0 Z a1 t kb N xs o_COMPACT_STRINGS o__VALUES k_o__VALUES o_CLASSIC o_CLASSIC_code o_CLASSIC_code_value k_o_CLASSIC_code_value o_TIERED o_TIERED_code o_TIERED_code_value k_o_TIERED_code_value h0 n0 v U'.heap L ∧ FrameEnd U o U' L ({ frames := 2, cells := 1, slots := 2, locals := 28 } : Room).cells ({ frames := 2, cells := 1, slots := 2, locals := 28 } : Room).slots) := by
  refine MetFree.of_bodySF (plainFor_of_name own_pn_com_example_riskscan_riskscan_model_Profile) hisR ?_
  intro p e s m args below meth c s₁ Bd hml0 hP hK
  obtain ⟨rfl, hZ, hh⟩ := hP
  have hx := Bd.exec
  have hby := Bd.bytes
  have hml : c.maxLocals = 5 := hml0
  have hown : s.vm.findClass "com/example/riskscan/riskscan/model/Profile" = some m.cls := findClass_of_methodNamed Bd.named
  have hnm := (name_of_methodNamed Bd.named Bd.method).1
  have X0 : Stand p l e ({ frames := 2, cells := 1, slots := 2, locals := 28 } : Room) s m #[(.ref a1)] below meth c s₁ [] 0 0 := Stand.of_body Bd
  have e0 : s₁.heap = h0 := by rw [← hh, Bd.state]; rfl
  have N0 := Fr.nil n0
  have Kp : Keep h0 h0 [] := Keep.refl h0 _
  show own_Go p e below s (own_Q_own_rof0 Z a1 t kb N xs o_COMPACT_STRINGS o__VALUES k_o__VALUES o_CLASSIC o_CLASSIC_code o_CLASSIC_code_value k_o_CLASSIC_code_value o_TIERED o_TIERED_code o_TIERED_code_value k_o_TIERED_code_value h0 n0) ({ frames := 2, cells := 1, slots := 2, locals := 28 } : Room).cells ({ frames := 2, cells := 1, slots := 2, locals := 28 } : Room).slots (s₁.setTop (entryFrame m #[(.ref a1)] 5))
  refine own_go (fun zt zk => castTop (own_ef_own_rof0 m a1) zk) ?_
  show own_Go p e below s _ _ _ (s₁.setTop (mkF m 0 #[rv a1, .unset, .unset, .unset, .unset] []))
  obtain ⟨_, _, ⟨T1, L1, k1, n1⟩, -, X1, ⟨Lc1, hQ1, l1, y1, z1⟩, st1⟩ := Jvm.LawKit.callS X0 hx (y := (⟨"com/example/riskscan/riskscan/model/Profile", "values", "()[Lcom/example/riskscan/riskscan/model/Profile;"⟩ : MethodName)) hown (mvT hZ (hw _ (List.mem_of_getElem? (i := 38) rfl))) (mvT hZ (hw _ (List.mem_of_getElem? (i := 39) rfl))) (mvT hZ (hw _ (List.mem_of_getElem? (i := 36) rfl))) (mvT hZ (hw _ (List.mem_of_getElem? (i := 40) rfl))) (by decide) (backOf (W := 0) (own_rvalues l Z a0 hw []  o__VALUES k_o__VALUES o_CLASSIC o_TIERED h0 n0 Z0 O S_o__VALUES V_o__VALUES Ex_o__VALUES) hZ (hw _ (List.mem_of_getElem? (i := 40) rfl)) (hw _ (List.mem_of_getElem? (i := 36) rfl)) (by decide) (by decide)) (g := (mkF m 0 #[rv a1, .unset, .unset, .unset, .unset] [])) rfl (by rw [hml]; rfl) (argsL := []) (rest := []) (lenOf own_pd____Lcom_example_riskscan_riskscan_model_Profile_ rfl) rfl (by show 2 * 0 + _ ≤ _; exact Nat.le_of_eq rfl) (hb hby own_d8_0) (fun _ _ => ⟨rfl, e0, (by decide : 0 + 1 ≤ _), (by decide : 0 + 2 ≤ _)⟩)
  dsimp only [Pt.U, Pt.locs, Pt.cells, Pt.slots] at X1 l1 y1 z1 st1 hQ1
  subst l1 y1 z1
  obtain ⟨b1, rfl, Nq1, K1, sb1, Ea_b1, V_b1⟩ := hQ1
  have N1 := Fr.app N0 Nq1
  refine own_go st1 ?_
  replace O := O.keep K1 all0
  replace Ex := Ex.keep K1
  replace Fv := Fv.keep K1 nin0
  replace Fc := Fc.keep K1 nin0
  replace Va := Va.keep K1 nin0
  replace Kp := Kp.trans K1 all0
  show own_Go p e below s _ _ _ (T1.setTop (mkF m 3 #[rv a1, .unset, .unset, .unset, .unset] [(.ref b1)]))
  refine own_go (fun zt zk => (XS.astoreN X1.here hx rfl (hb hby own_d8_3) rfl rfl (l' := #[rv a1, rv b1, .unset, .unset, .unset]) rfl (XS.aloadN X1.here hx rfl (hb hby own_d8_4) rfl rfl zk))) ?_
  show own_Go p e below s _ _ _ (T1.setTop (mkF m 5 #[rv a1, rv b1, .unset, .unset, .unset] [(.ref b1)]))
  obtain ⟨cl2, Ar2, -, Sz2, Nz2, -, -⟩ := id V_b1
  refine own_go (X1.arraylength hx (by exact Ar2.1) (State.isArrayOf_alike hZ.alike Ar2.2.1) (g := (mkF m 5 #[rv a1, rv b1, .unset, .unset, .unset] [(.ref b1)])) rfl rfl (hb hby own_d8_5)) ?_
  rw [len_of Sz2 Nz2]
  show own_Go p e below s _ _ _ (T1.setTop (mkF m 6 #[rv a1, rv b1, .unset, .unset, .unset] [(.int (2 : Int32))]))
  refine own_go (fun zt zk => (XS.istoreN X1.here hx rfl (hb hby own_d8_6) rfl (l' := #[rv a1, rv b1, iv (2 : Int32), .unset, .unset]) rfl (XS.iconst X1.here hx rfl (hb hby own_d8_7) (XS.istoreN X1.here hx rfl (hb hby own_d8_8) rfl (l' := #[rv a1, rv b1, iv (2 : Int32), iv (0 : Int32), .unset]) rfl (XS.iloadN X1.here hx rfl (hb hby own_d8_9) rfl (XS.iloadN X1.here hx rfl (hb hby own_d8_10) rfl (XS.icmpNo X1.here hx rfl (hb hby own_d8_11) rfl (tlt ((by decide) : (0 : Int32) < (2 : Int32))).2.1 (XS.aloadN X1.here hx rfl (hb hby own_d8_14) rfl rfl (XS.iloadN X1.here hx rfl (hb hby own_d8_15) rfl zk))))))))) ?_
  show own_Go p e below s _ _ _ (T1.setTop (mkF m 16 #[rv a1, rv b1, iv (2 : Int32), iv (0 : Int32), .unset] [(.int (0 : Int32)), (.ref b1)]))
  obtain ⟨cl3, Ar3, q3, Sz3, Nz3, Ha3, Ga3⟩ := id V_b1
  have hin3 : ¬ ((0 : Int32) < 0 ∨ cl3.slots.size ≤ ((0 : Int32)).toNatClampNeg) := inb_of Sz3 ⟨by decide, by decide⟩
  have hat3 : cl3.slots[((0 : Int32)).toNatClampNeg]? = some (.ref o_CLASSIC) := Has.at Ha3 hin3 rfl
  refine own_go (X1.aaload hx (j := (0 : Int32)) (v := (.ref o_CLASSIC)) (by exact Ar3.1) (State.isArrayOf_alike hZ.alike Ar3.2.1) rfl Ar3.2.2 hin3 hat3 (g := (mkF m 16 #[rv a1, rv b1, iv (2 : Int32), iv (0 : Int32), .unset] [(.int (0 : Int32)), (.ref b1)])) rfl rfl (hb hby own_d8_16)) ?_
  show own_Go p e below s _ _ _ (T1.setTop (mkF m 17 #[rv a1, rv b1, iv (2 : Int32), iv (0 : Int32), .unset] [(.ref o_CLASSIC)]))
  refine own_go (fun zt zk => (XS.astore X1.here hx rfl (hb hby own_d8_17) rfl rfl (l' := #[rv a1, rv b1, iv (2 : Int32), iv (0 : Int32), rv o_CLASSIC]) rfl (XS.aload X1.here hx rfl (hb hby own_d8_19) rfl rfl zk))) ?_
  show own_Go p e below s _ _ _ (T1.setTop (mkF m 21 #[rv a1, rv b1, iv (2 : Int32), iv (0 : Int32), rv o_CLASSIC] [(.ref o_CLASSIC)]))
  obtain ⟨T4, X4, e4, st4⟩ := getF X1 hx hZ hown (host := "") (Or.inl (hw _ (List.mem_of_getElem? (i := 55) rfl))) Via.refl rfl (F_o_CLASSIC_code.ext O.2) (g := (mkF m 21 #[rv a1, rv b1, iv (2 : Int32), iv (0 : Int32), rv o_CLASSIC] [(.ref o_CLASSIC)])) rfl rfl (hb hby own_d8_21)
  refine own_go st4 ?_
  show own_Go p e below s _ _ _ (T4.setTop (mkF m 24 #[rv a1, rv b1, iv (2 : Int32), iv (0 : Int32), rv o_CLASSIC] [(.ref o_CLASSIC_code)]))
  refine own_go (fun zt zk => (XS.aloadN X4.here hx rfl (hb hby own_d8_24) rfl rfl zk)) ?_
  show own_Go p e below s _ _ _ (T4.setTop (mkF m 25 #[rv a1, rv b1, iv (2 : Int32), iv (0 : Int32), rv o_CLASSIC] [(.ref a1), (.ref o_CLASSIC_code)]))
  obtain ⟨cq5, kq5, qa5, qb5, qc5⟩ := isOf hZ e4 (Ex_o_CLASSIC_code.ext O.2)
  obtain ⟨_, _, ⟨T5, L5, k5, n5⟩, -, X5, ⟨Lc5, hQ5, l5, y5, z5⟩, st5⟩ := X4.virtualBack hx (y := (⟨"java/lang/String", "equals", "(Ljava/lang/Object;)Z"⟩ : MethodName)) (z := (⟨"java/lang/String", "equals", "(Ljava/lang/Object;)Z"⟩ : MethodName)) hown (mvT hZ (hw _ (List.mem_of_getElem? (i := 57) rfl))) (mvT hZ (hw _ (List.mem_of_getElem? (i := 58) rfl))) (notFace_of_selects (args := #[]) (mvT hZ (hw _ (List.mem_of_getElem? (i := 60) rfl)))) (mvT hZ (hw _ (List.mem_of_getElem? (i := 60) rfl))) (mvT hZ (hw _ (List.mem_of_getElem? (i := 59) rfl))) (by decide) (backOf (W := 0) (own_req l Z a0 hw [] o_CLASSIC_code a1 o_COMPACT_STRINGS o_CLASSIC_code_value t k_o_CLASSIC_code_value kb (7 : Int32) N [(99 : Int32), (108 : Int32), (97 : Int32), (115 : Int32), (115 : Int32), (105 : Int32), (99 : Int32)] xs T1.heap n0 (Nat.le_trans Z0 Kp.1) O S_o_COMPACT_STRINGS (Ex_o_CLASSIC_code.ext O.2) (F_o_CLASSIC_code_value.ext O.2) (F_o_CLASSIC_code_coder.ext O.2) (V_o_CLASSIC_code_value.ext O.2) Ex Fv Fc Va nz_o_COMPACT_STRINGS rfl hl) hZ (hw _ (List.mem_of_getElem? (i := 61) rfl)) (hw _ (List.mem_of_getElem? (i := 7) rfl)) (by decide) (by decide)) qa5 qc5 (g := (mkF m 25 #[rv a1, rv b1, iv (2 : Int32), iv (0 : Int32), rv o_CLASSIC] [(.ref a1), (.ref o_CLASSIC_code)])) rfl (by rw [hml]; rfl) (Steps.refl _) (argsL := [(.ref a1)]) (rest := []) (lenOf own_pd__Ljava_lang_Object__Z rfl) rfl (by show 2 * 0 + _ ≤ _; exact Nat.le_of_eq rfl) (hb hby own_d8_25) (fun _ _ => ⟨rfl, e4, (by decide : 1 + 0 ≤ _), (by decide : 2 + 0 ≤ _)⟩)
  dsimp only [Pt.U, Pt.locs, Pt.cells, Pt.slots] at X5 l5 y5 z5 st5 hQ5
  subst l5 y5 z5
  obtain ⟨hv5, Nq5, e5⟩ := hQ5
  rw [show own_eqv _ _ = (1 : Int32) from if_pos hxq0] at hv5
  subst hv5
  have N5 := Fr.app N1 Nq5
  refine own_go (fun zt zk => st5.trans zk) ?_
  show own_Go p e below s _ _ _ (T5.setTop (mkF m 28 #[rv a1, rv b1, iv (2 : Int32), iv (0 : Int32), rv o_CLASSIC] [(.int (1 : Int32))]))
  refine own_go (fun zt zk => (XS.ifNo X5.here hx rfl (hb hby own_d8_28) rfl ((if0 _ _).trans (feq ((by decide) : ¬ ((1 : Int32) = (0 : Int32)))).1) (XS.aload X5.here hx rfl (hb hby own_d8_31) rfl rfl zk))) ?_
  show own_Go p e below s _ _ _ (T5.setTop (mkF m 33 #[rv a1, rv b1, iv (2 : Int32), iv (0 : Int32), rv o_CLASSIC] [(.ref o_CLASSIC)]))
  exact own_fin X5 Bd.notSynchronized (fun h => by rw [Bd.returns] at h; cases h) (fun fs hr => retOut X5 hx (t := (.object "com/example/riskscan/riskscan/model/Profile")) (w := (.ref o_CLASSIC)) Bd.returns rfl (Or.inr (Or.inr (Or.inr (Or.inr ⟨rfl, rfl, rfl⟩)))) (hb hby own_d8_33) hr) (by rw [e5]; exact ⟨rfl, N5, Kp⟩) (by decide) (by decide)
theorem own_d8_34 : decode prog_93_method_5_code 34 = .ok (.iinc 3 1, 3) := by decide +kernel
theorem own_d8_37 : decode prog_93_method_5_code 37 = .ok (.goto (-28), 3) := by decide +kernel
theorem own_ef_own_rof1 (m : MethodId) (a1 : Addr) : entryFrame m #[(.ref a1)] 5 = mkF m 0 #[rv a1, .unset, .unset, .unset, .unset] [] := by first | (simp [entryFrame, mkF, argsToLocals, Value.category]; done) | rfl
def own_Q_own_rof1 (Z : State) (a1 : Addr) (t : Addr) (kb : ClassId) (N : Int32) (xs : List Int32) (o_COMPACT_STRINGS : Int32) (o__VALUES : Addr) (k_o__VALUES : ClassId) (o_CLASSIC o_CLASSIC_code o_CLASSIC_code_value : Addr) (k_o_CLASSIC_code_value : ClassId) (o_TIERED o_TIERED_code o_TIERED_code_value : Addr) (k_o_TIERED_code_value : ClassId) (h0 : Heap) (n0 : Nat) (v : Option Value) (h : Heap) (L : List Loc) : Prop := v = some (.ref o_TIERED) ∧ Fr n0 L ∧ Keep h0 h []
set_option maxRecDepth 65536 in
set_option maxHeartbeats 40000000 in
theorem own_rof1 (l : Launch) (Z : State) (a0 : Array Value) (hw : ∀ d ∈ tables_1, d.before a0 Z = true) (ws : List Jvm.Cond) (a1 : Addr) (t : Addr) (kb : ClassId) (N : Int32) (xs : List Int32) (o_COMPACT_STRINGS : Int32) (o__VALUES : Addr) (k_o__VALUES : ClassId) (o_CLASSIC o_CLASSIC_code o_CLASSIC_code_value : Addr) (k_o_CLASSIC_code_value : ClassId) (o_TIERED o_TIERED_code o_TIERED_code_value : Addr) (k_o_TIERED_code_value : ClassId) (h0 : Heap) (n0 : Nat) (Z0 : n0 ≤ h0.size) (O : Old Z n0 h0) (S_o_COMPACT_STRINGS : Sta Z Z.heap "java/lang/String" "COMPACT_STRINGS" "Z" (.int o_COMPACT_STRINGS)) (S_o__VALUES : Sta Z Z.heap "com/example/riskscan/riskscan/model/Profile" "$VALUES" "[Lcom/example/riskscan/riskscan/model/Profile;" (.ref o__VALUES)) (V_o__VALUES : Arv Z Z.heap o__VALUES k_o__VALUES (.object "com/example/riskscan/riskscan/model/Profile") (2 : Int32) [(.ref o_CLASSIC), (.ref o_TIERED)] .null) (Ex_o__VALUES : Exa Z Z.heap o__VALUES "[Lcom/example/riskscan/riskscan/model/Profile;") (Ex_o_CLASSIC : Exa Z Z.heap o_CLASSIC "com/example/riskscan/riskscan/model/Profile") (F_o_CLASSIC_code : Fld Z Z.heap o_CLASSIC "com/example/riskscan/riskscan/model/Profile" "code" "Ljava/lang/String;" (.ref o_CLASSIC_code)) (Ex_o_CLASSIC_code : Exa Z Z.heap o_CLASSIC_code "java/lang/String") (F_o_CLASSIC_code_coder : Fld Z Z.heap o_CLASSIC_code "java/lang/String" "coder" "B" (.int (0 : Int32))) (F_o_CLASSIC_code_value : Fld Z Z.heap o_CLASSIC_code "java/lang/String" "value" "[B" (.ref o_CLASSIC_code_value)) (V_o_CLASSIC_code_value : Arv Z Z.heap o_CLASSIC_code_value k_o_CLASSIC_code_value .byte (7 : Int32) [(.int (99 : Int32)), (.int (108 : Int32)), (.int (97 : Int32)), (.int (115 : Int32)), (.int (115 : Int32)), (.int (105 : Int32)), (.int (99 : Int32))] (.int (0 : Int32))) (Ex_o_TIERED : Exa Z Z.heap o_TIERED "com/example/riskscan/riskscan/model/Profile") (F_o_TIERED_code : Fld Z Z.heap o_TIERED "com/example/riskscan/riskscan/model/Profile" "code" "Ljava/lang/String;" (.ref o_TIERED_code)) (Ex_o_TIERED_code : Exa Z Z.heap o_TIERED_code "java/lang/String") (F_o_TIERED_code_coder : Fld Z Z.heap o_TIERED_code "java/lang/String" "coder" "B" (.int (0 : Int32))) (F_o_TIERED_code_value : Fld Z Z.heap o_TIERED_code "java/lang/String" "value" "[B" (.ref o_TIERED_code_value)) (V_o_TIERED_code_value : Arv Z Z.heap o_TIERED_code_value k_o_TIERED_code_value .byte (6 : Int32) [(.int (116 : Int32)), (.int (105 : Int32)), (.int (101 : Int32)), (.int (114 : Int32)), (.int (101 : Int32)), (.int (100 : Int32))] (.int (0 : Int32))) (Ex : Exa Z h0 a1 "java/lang/String") (Fv : Fld Z h0 a1 "java/lang/String" "value" "[B" (.ref t)) (Fc : Fld Z h0 a1 "java/lang/String" "coder" "B" (.int (0 : Int32))) (Va : Arv Z h0 t kb .byte N (xs.map Value.int) (.int (0 : Int32))) (nz_o_COMPACT_STRINGS : ¬ (o_COMPACT_STRINGS = (0 : Int32))) (hl : N.toNatClampNeg = xs.length) (hxq0 : ¬ ([(99 : Int32), (108 : Int32), (97 : Int32), (115 : Int32), (115 : Int32), (105 : Int32), (99 : Int32)] = xs)) (hxq1 : [(116 : Int32), (105 : Int32), (101 : Int32), (114 : Int32), (101 : Int32), (100 : Int32)] = xs) :
    MetFree l (⟨"com/example/riskscan/riskscan/model/Profile", "ofCode", "(Ljava/lang/String;)Lcom/example/riskscan/riskscan/model/Profile;"⟩ : MethodName) (head1 (Jvm.Cond.code (⟨"com/example/riskscan/riskscan/model/Profile", "ofCode", "(Ljava/lang/String;)Lcom/example/riskscan/riskscan/model/Profile;"⟩ : MethodName) prog_93_method_5_code 5 (some (.object "com/example/riskscan/riskscan/model/Profile")) :: ws) ({ frames := 2, cells := 1, slots := 2, locals := 28 } : Room)) (fun a U => a = #[(.ref a1)] ∧ Z.Warmed39 U.vm ∧ U.heap = h0) (fun _ _ _ _ _ => True) (fun _ U o U' => ∃ v L, o = .returned v ∧ own_Q_own_rof1 Z a1 t kb N xs o_COMPACT_STRINGS o__VALUES k_o__VALUES o_CLASSIC o_CLASSIC_code o_CLASSIC_code_value k_o_CLASSIC_code_value o_TIERED o_TIERED_code o_TIERED_code_value k_o_TIERED_code_value h0 n0 v U'.heap L ∧ FrameEnd U o U' L ({ frames := 2, cells := 1, slots := 2, locals := 28 } : Room).cells ({ frames := 2, cells := 1, slots := 2, locals := 28 } : Room).slots) := by
  refine MetFree.of_bodySF (plainFor_of_name own_pn_com_example_riskscan_riskscan_model_Profile) hisR ?_
  intro p e s m args below meth c s₁ Bd hml0 hP hK
  obtain ⟨rfl, hZ, hh⟩ := hP
  have hx := Bd.exec
  have hby := Bd.bytes
  have hml : c.maxLocals = 5 := hml0
  have hown : s.vm.findClass "com/example/riskscan/riskscan/model/Profile" = some m.cls := findClass_of_methodNamed Bd.named
  have hnm := (name_of_methodNamed Bd.named Bd.method).1
  have X0 : Stand p l e ({ frames := 2, cells := 1, slots := 2, locals := 28 } : Room) s m #[(.ref a1)] below meth c s₁ [] 0 0 := Stand.of_body Bd
  have e0 : s₁.heap = h0 := by rw [← hh, Bd.state]; rfl
  have N0 := Fr.nil n0
  have Kp : Keep h0 h0 [] := Keep.refl h0 _
  show own_Go p e below s (own_Q_own_rof1 Z a1 t kb N xs o_COMPACT_STRINGS o__VALUES k_o__VALUES o_CLASSIC o_CLASSIC_code o_CLASSIC_code_value k_o_CLASSIC_code_value o_TIERED o_TIERED_code o_TIERED_code_value k_o_TIERED_code_value h0 n0) ({ frames := 2, cells := 1, slots := 2, locals := 28 } : Room).cells ({ frames := 2, cells := 1, slots := 2, locals := 28 } : Room).slots (s₁.setTop (entryFrame m #[(.ref a1)] 5))
  refine own_go (fun zt zk => castTop (own_ef_own_rof1 m a1) zk) ?_
  show own_Go p e below s _ _ _ (s₁.setTop (mkF m 0 #[rv a1, .unset, .unset, .unset, .unset] []))
  obtain ⟨_, _, ⟨T1, L1, k1, n1⟩, -, X1, ⟨Lc1, hQ1, l1, y1, z1⟩, st1⟩ := Jvm.LawKit.callS X0 hx (y := (⟨"com/example/riskscan/riskscan/model/Profile", "values", "()[Lcom/example/riskscan/riskscan/model/Profile;"⟩ : MethodName)) hown (mvT hZ (hw _ (List.mem_of_getElem? (i := 38) rfl))) (mvT hZ (hw _ (List.mem_of_getElem? (i := 39) rfl))) (mvT hZ (hw _ (List.mem_of_getElem? (i := 36) rfl))) (mvT hZ (hw _ (List.mem_of_getElem? (i := 40) rfl))) (by decide) (backOf (W := 0) (own_rvalues l Z a0 hw []  o__VALUES k_o__VALUES o_CLASSIC o_TIERED h0 n0 Z0 O S_o__VALUES V_o__VALUES Ex_o__VALUES) hZ (hw _ (List.mem_of_getElem? (i := 40) rfl)) (hw _ (List.mem_of_getElem? (i := 36) rfl)) (by decide) (by decide)) (g := (mkF m 0 #[rv a1, .unset, .unset, .unset, .unset] [])) rfl (by rw [hml]; rfl) (argsL := []) (rest := []) (lenOf own_pd____Lcom_example_riskscan_riskscan_model_Profile_ rfl) rfl (by show 2 * 0 + _ ≤ _; exact Nat.le_of_eq rfl) (hb hby own_d8_0) (fun _ _ => ⟨rfl, e0, (by decide : 0 + 1 ≤ _), (by decide : 0 + 2 ≤ _)⟩)
  dsimp only [Pt.U, Pt.locs, Pt.cells, Pt.slots] at X1 l1 y1 z1 st1 hQ1
  subst l1 y1 z1
  obtain ⟨b1, rfl, Nq1, K1, sb1, Ea_b1, V_b1⟩ := hQ1
  have N1 := Fr.app N0 Nq1
  refine own_go st1 ?_
  replace O := O.keep K1 all0
  replace Ex := Ex.keep K1
  replace Fv := Fv.keep K1 nin0
  replace Fc := Fc.keep K1 nin0
  replace Va := Va.keep K1 nin0
  replace Kp := Kp.trans K1 all0
  show own_Go p e below s _ _ _ (T1.setTop (mkF m 3 #[rv a1, .unset, .unset, .unset, .unset] [(.ref b1)]))
  refine own_go (fun zt zk => (XS.astoreN X1.here hx rfl (hb hby own_d8_3) rfl rfl (l' := #[rv a1, rv b1, .unset, .unset, .unset]) rfl (XS.aloadN X1.here hx rfl (hb hby own_d8_4) rfl rfl zk))) ?_
  show own_Go p e below s _ _ _ (T1.setTop (mkF m 5 #[rv a1, rv b1, .unset, .unset, .unset] [(.ref b1)]))
  obtain ⟨cl2, Ar2, -, Sz2, Nz2, -, -⟩ := id V_b1
  refine own_go (X1.arraylength hx (by exact Ar2.1) (State.isArrayOf_alike hZ.alike Ar2.2.1) (g := (mkF m 5 #[rv a1, rv b1, .unset, .unset, .unset] [(.ref b1)])) rfl rfl (hb hby own_d8_5)) ?_
  rw [len_of Sz2 Nz2]
  show own_Go p e below s _ _ _ (T1.setTop (mkF m 6 #[rv a1, rv b1, .unset, .unset, .unset] [(.int (2 : Int32))]))
  refine own_go (fun zt zk => (XS.istoreN X1.here hx rfl (hb hby own_d8_6) rfl (l' := #[rv a1, rv b1, iv (2 : Int32), .unset, .unset]) rfl (XS.iconst X1.here hx rfl (hb hby own_d8_7) (XS.istoreN X1.here hx rfl (hb hby own_d8_8) rfl (l' := #[rv a1, rv b1, iv (2 : Int32), iv (0 : Int32), .unset]) rfl (XS.iloadN X1.here hx rfl (hb hby own_d8_9) rfl (XS.iloadN X1.here hx rfl (hb hby own_d8_10) rfl (XS.icmpNo X1.here hx rfl (hb hby own_d8_11) rfl (tlt ((by decide) : (0 : Int32) < (2 : Int32))).2.1 (XS.aloadN X1.here hx rfl (hb hby own_d8_14) rfl rfl (XS.iloadN X1.here hx rfl (hb hby own_d8_15) rfl zk))))))))) ?_
  show own_Go p e below s _ _ _ (T1.setTop (mkF m 16 #[rv a1, rv b1, iv (2 : Int32), iv (0 : Int32), .unset] [(.int (0 : Int32)), (.ref b1)]))
  obtain ⟨cl3, Ar3, q3, Sz3, Nz3, Ha3, Ga3⟩ := id V_b1
  have hin3 : ¬ ((0 : Int32) < 0 ∨ cl3.slots.size ≤ ((0 : Int32)).toNatClampNeg) := inb_of Sz3 ⟨by decide, by decide⟩
  have hat3 : cl3.slots[((0 : Int32)).toNatClampNeg]? = some (.ref o_CLASSIC) := Has.at Ha3 hin3 rfl
  refine own_go (X1.aaload hx (j := (0 : Int32)) (v := (.ref o_CLASSIC)) (by exact Ar3.1) (State.isArrayOf_alike hZ.alike Ar3.2.1) rfl Ar3.2.2 hin3 hat3 (g := (mkF m 16 #[rv a1, rv b1, iv (2 : Int32), iv (0 : Int32), .unset] [(.int (0 : Int32)), (.ref b1)])) rfl rfl (hb hby own_d8_16)) ?_
  show own_Go p e below s _ _ _ (T1.setTop (mkF m 17 #[rv a1, rv b1, iv (2 : Int32), iv (0 : Int32), .unset] [(.ref o_CLASSIC)]))
  refine own_go (fun zt zk => (XS.astore X1.here hx rfl (hb hby own_d8_17) rfl rfl (l' := #[rv a1, rv b1, iv (2 : Int32), iv (0 : Int32), rv o_CLASSIC]) rfl (XS.aload X1.here hx rfl (hb hby own_d8_19) rfl rfl zk))) ?_
  show own_Go p e below s _ _ _ (T1.setTop (mkF m 21 #[rv a1, rv b1, iv (2 : Int32), iv (0 : Int32), rv o_CLASSIC] [(.ref o_CLASSIC)]))
  obtain ⟨T4, X4, e4, st4⟩ := getF X1 hx hZ hown (host := "") (Or.inl (hw _ (List.mem_of_getElem? (i := 55) rfl))) Via.refl rfl (F_o_CLASSIC_code.ext O.2) (g := (mkF m 21 #[rv a1, rv b1, iv (2 : Int32), iv (0 : Int32), rv o_CLASSIC] [(.ref o_CLASSIC)])) rfl rfl (hb hby own_d8_21)
  refine own_go st4 ?_
  show own_Go p e below s _ _ _ (T4.setTop (mkF m 24 #[rv a1, rv b1, iv (2 : Int32), iv (0 : Int32), rv o_CLASSIC] [(.ref o_CLASSIC_code)]))
  refine own_go (fun zt zk => (XS.aloadN X4.here hx rfl (hb hby own_d8_24) rfl rfl zk)) ?_
  show own_Go p e below s _ _ _ (T4.setTop (mkF m 25 #[rv a1, rv b1, iv (2 : Int32), iv (0 : Int32), rv o_CLASSIC] [(.ref a1), (.ref o_CLASSIC_code)]))
  obtain ⟨cq5, kq5, qa5, qb5, qc5⟩ := isOf hZ e4 (Ex_o_CLASSIC_code.ext O.2)
  obtain ⟨_, _, ⟨T5, L5, k5, n5⟩, -, X5, ⟨Lc5, hQ5, l5, y5, z5⟩, st5⟩ := X4.virtualBack hx (y := (⟨"java/lang/String", "equals", "(Ljava/lang/Object;)Z"⟩ : MethodName)) (z := (⟨"java/lang/String", "equals", "(Ljava/lang/Object;)Z"⟩ : MethodName)) hown (mvT hZ (hw _ (List.mem_of_getElem? (i := 57) rfl))) (mvT hZ (hw _ (List.mem_of_getElem? (i := 58) rfl))) (notFace_of_selects (args := #[]) (mvT hZ (hw _ (List.mem_of_getElem? (i := 60) rfl)))) (mvT hZ (hw _ (List.mem_of_getElem? (i := 60) rfl))) (mvT hZ (hw _ (List.mem_of_getElem? (i := 59) rfl))) (by decide) (backOf (W := 0) (own_req l Z a0 hw [] o_CLASSIC_code a1 o_COMPACT_STRINGS o_CLASSIC_code_value t k_o_CLASSIC_code_value kb (7 : Int32) N [(99 : Int32), (108 : Int32), (97 : Int32), (115 : Int32), (115 : Int32), (105 : Int32), (99 : Int32)] xs T1.heap n0 (Nat.le_trans Z0 Kp.1) O S_o_COMPACT_STRINGS (Ex_o_CLASSIC_code.ext O.2) (F_o_CLASSIC_code_value.ext O.2) (F_o_CLASSIC_code_coder.ext O.2) (V_o_CLASSIC_code_value.ext O.2) Ex Fv Fc Va nz_o_COMPACT_STRINGS rfl hl) hZ (hw _ (List.mem_of_getElem? (i := 61) rfl)) (hw _ (List.mem_of_getElem? (i := 7) rfl)) (by decide) (by decide)) qa5 qc5 (g := (mkF m 25 #[rv a1, rv b1, iv (2 : Int32), iv (0 : Int32), rv o_CLASSIC] [(.ref a1), (.ref o_CLASSIC_code)])) rfl (by rw [hml]; rfl) (Steps.refl _) (argsL := [(.ref a1)]) (rest := []) (lenOf own_pd__Ljava_lang_Object__Z rfl) rfl (by show 2 * 0 + _ ≤ _; exact Nat.le_of_eq rfl) (hb hby own_d8_25) (fun _ _ => ⟨rfl, e4, (by decide : 1 + 0 ≤ _), (by decide : 2 + 0 ≤ _)⟩)
  dsimp only [Pt.U, Pt.locs, Pt.cells, Pt.slots] at X5 l5 y5 z5 st5 hQ5
  subst l5 y5 z5
  obtain ⟨hv5, Nq5, e5⟩ := hQ5
  rw [show own_eqv _ _ = (0 : Int32) from if_neg hxq0] at hv5
  subst hv5
  have N5 := Fr.app N1 Nq5
  refine own_go (fun zt zk => st5.trans zk) ?_
  show own_Go p e below s _ _ _ (T5.setTop (mkF m 28 #[rv a1, rv b1, iv (2 : Int32), iv (0 : Int32), rv o_CLASSIC] [(.int (0 : Int32))]))
  refine own_go (fun zt zk => (XS.ifYes X5.here hx rfl (pc0 := 28) (pc' := 34) rfl (hb hby own_d8_28) rfl ((if0 _ _).trans (teq (rfl : (0 : Int32) = (0 : Int32))).1) (by decide) (by decide) (XS.iinc X5.here hx rfl (hb hby own_d8_34) rfl (l' := #[rv a1, rv b1, iv (2 : Int32), iv (1 : Int32), rv o_CLASSIC]) rfl (XS.goto X5.here hx rfl (pc0 := 37) (pc' := 9) rfl (hb hby own_d8_37) (by decide) (by decide) (XS.iloadN X5.here hx rfl (hb hby own_d8_9) rfl (XS.iloadN X5.here hx rfl (hb hby own_d8_10) rfl (XS.icmpNo X5.here hx rfl (hb hby own_d8_11) rfl (tlt ((by decide) : (1 : Int32) < (2 : Int32))).2.1 (XS.aloadN X5.here hx rfl (hb hby own_d8_14) rfl rfl (XS.iloadN X5.here hx rfl (hb hby own_d8_15) rfl zk))))))))) ?_
  show own_Go p e below s _ _ _ (T5.setTop (mkF m 16 #[rv a1, rv b1, iv (2 : Int32), iv (1 : Int32), rv o_CLASSIC] [(.int (1 : Int32)), (.ref b1)]))
  obtain ⟨cl6, Ar6, q6, Sz6, Nz6, Ha6, Ga6⟩ := id V_b1
  have hin6 : ¬ ((1 : Int32) < 0 ∨ cl6.slots.size ≤ ((1 : Int32)).toNatClampNeg) := inb_of Sz6 ⟨by decide, by decide⟩
  have hat6 : cl6.slots[((1 : Int32)).toNatClampNeg]? = some (.ref o_TIERED) := Has.at Ha6 hin6 rfl
  refine own_go (X5.aaload hx (j := (1 : Int32)) (v := (.ref o_TIERED)) (by rw [e5]; exact Ar6.1) (State.isArrayOf_alike hZ.alike Ar6.2.1) rfl Ar6.2.2 hin6 hat6 (g := (mkF m 16 #[rv a1, rv b1, iv (2 : Int32), iv (1 : Int32), rv o_CLASSIC] [(.int (1 : Int32)), (.ref b1)])) rfl rfl (hb hby own_d8_16)) ?_
  show own_Go p e below s _ _ _ (T5.setTop (mkF m 17 #[rv a1, rv b1, iv (2 : Int32), iv (1 : Int32), rv o_CLASSIC] [(.ref o_TIERED)]))
  refine own_go (fun zt zk => (XS.astore X5.here hx rfl (hb hby own_d8_17) rfl rfl (l' := #[rv a1, rv b1, iv (2 : Int32), iv (1 : Int32), rv o_TIERED]) rfl (XS.aload X5.here hx rfl (hb hby own_d8_19) rfl rfl zk))) ?_
  show own_Go p e below s _ _ _ (T5.setTop (mkF m 21 #[rv a1, rv b1, iv (2 : Int32), iv (1 : Int32), rv o_TIERED] [(.ref o_TIERED)]))
  obtain ⟨T7, X7, e7, st7⟩ := getF X5 hx hZ hown (host := "") (Or.inl (hw _ (List.mem_of_getElem? (i := 55) rfl))) Via.refl e5 (F_o_TIERED_code.ext O.2) (g := (mkF m 21 #[rv a1, rv b1, iv (2 : Int32), iv (1 : Int32), rv o_TIERED] [(.ref o_TIERED)])) rfl rfl (hb hby own_d8_21)
  refine own_go st7 ?_
  show own_Go p e below s _ _ _ (T7.setTop (mkF m 24 #[rv a1, rv b1, iv (2 : Int32), iv (1 : Int32), rv o_TIERED] [(.ref o_TIERED_code)]))
  refine own_go (fun zt zk => (XS.aloadN X7.here hx rfl (hb hby own_d8_24) rfl rfl zk)) ?_
  show own_Go p e below s _ _ _ (T7.setTop (mkF m 25 #[rv a1, rv b1, iv (2 : Int32), iv (1 : Int32), rv o_TIERED] [(.ref a1), (.ref o_TIERED_code)]))
  obtain ⟨cq8, kq8, qa8, qb8, qc8⟩ := isOf hZ e7 (Ex_o_TIERED_code.ext O.2)
  obtain ⟨_, _, ⟨T8, L8, k8, n8⟩, -, X8, ⟨Lc8, hQ8, l8, y8, z8⟩, st8⟩ := X7.virtualBack hx (y := (⟨"java/lang/String", "equals", "(Ljava/lang/Object;)Z"⟩ : MethodName)) (z := (⟨"java/lang/String", "equals", "(Ljava/lang/Object;)Z"⟩ : MethodName)) hown (mvT hZ (hw _ (List.mem_of_getElem? (i := 57) rfl))) (mvT hZ (hw _ (List.mem_of_getElem? (i := 58) rfl))) (notFace_of_selects (args := #[]) (mvT hZ (hw _ (List.mem_of_getElem? (i := 60) rfl)))) (mvT hZ (hw _ (List.mem_of_getElem? (i := 60) rfl))) (mvT hZ (hw _ (List.mem_of_getElem? (i := 59) rfl))) (by decide) (backOf (W := 0) (own_req l Z a0 hw [] o_TIERED_code a1 o_COMPACT_STRINGS o_TIERED_code_value t k_o_TIERED_code_value kb (6 : Int32) N [(116 : Int32), (105 : Int32), (101 : Int32), (114 : Int32), (101 : Int32), (100 : Int32)] xs T1.heap n0 (Nat.le_trans Z0 Kp.1) O S_o_COMPACT_STRINGS (Ex_o_TIERED_code.ext O.2) (F_o_TIERED_code_value.ext O.2) (F_o_TIERED_code_coder.ext O.2) (V_o_TIERED_code_value.ext O.2) Ex Fv Fc Va nz_o_COMPACT_STRINGS rfl hl) hZ (hw _ (List.mem_of_getElem? (i := 61) rfl)) (hw _ (List.mem_of_getElem? (i := 7) rfl)) (by decide) (by decide)) qa8 qc8 (g := (mkF m 25 #[rv a1, rv b1, iv (2 : Int32), iv (1 : Int32), rv o_TIERED] [(.ref a1), (.ref o_TIERED_code)])) rfl (by rw [hml]; rfl) (Steps.refl _) (argsL := [(.ref a1)]) (rest := []) (lenOf own_pd__Ljava_lang_Object__Z rfl) rfl (by show 2 * 0 + _ ≤ _; exact Nat.le_of_eq rfl) (hb hby own_d8_25) (fun _ _ => ⟨rfl, e7, (by decide : 1 + 0 ≤ _), (by decide : 2 + 0 ≤ _)⟩)
  dsimp only [Pt.U, Pt.locs, Pt.cells, Pt.slots] at X8 l8 y8 z8 st8 hQ8
  subst l8 y8 z8
  obtain ⟨hv8, Nq8, e8⟩ := hQ8
  rw [show own_eqv _ _ = (1 : Int32) from if_pos hxq1] at hv8
  subst hv8
  have N8 := Fr.app N5 Nq8
  refine own_go (fun zt zk => st8.trans zk) ?_
  show own_Go p e below s _ _ _ (T8.setTop (mkF m 28 #[rv a1, rv b1, iv (2 : Int32), iv (1 : Int32), rv o_TIERED] [(.int (1 : Int32))]))
  refine own_go (fun zt zk => (XS.ifNo X8.here hx rfl (hb hby own_d8_28) rfl ((if0 _ _).trans (feq ((by decide) : ¬ ((1 : Int32) = (0 : Int32)))).1) (XS.aload X8.here hx rfl (hb hby own_d8_31) rfl rfl zk))) ?_
  show own_Go p e below s _ _ _ (T8.setTop (mkF m 33 #[rv a1, rv b1, iv (2 : Int32), iv (1 : Int32), rv o_TIERED] [(.ref o_TIERED)]))
  exact own_fin X8 Bd.notSynchronized (fun h => by rw [Bd.returns] at h; cases h) (fun fs hr => retOut X8 hx (t := (.object "com/example/riskscan/riskscan/model/Profile")) (w := (.ref o_TIERED)) Bd.returns rfl (Or.inr (Or.inr (Or.inr (Or.inr ⟨rfl, rfl, rfl⟩)))) (hb hby own_d8_33) hr) (by rw [e8]; exact ⟨rfl, N8, Kp⟩) (by decide) (by decide)
theorem own_d8_40 : decode prog_93_method_5_code 40 = .ok (.aconst_null, 1) := by decide +kernel
theorem own_d8_41 : decode prog_93_method_5_code 41 = .ok (.areturn, 1) := by decide +kernel
theorem own_ef_own_rof2 (m : MethodId) (a1 : Addr) : entryFrame m #[(.ref a1)] 5 = mkF m 0 #[rv a1, .unset, .unset, .unset, .unset] [] := by first | (simp [entryFrame, mkF, argsToLocals, Value.category]; done) | rfl
def own_Q_own_rof2 (Z : State) (a1 : Addr) (t : Addr) (kb : ClassId) (N : Int32) (xs : List Int32) (o_COMPACT_STRINGS : Int32) (o__VALUES : Addr) (k_o__VALUES : ClassId) (o_CLASSIC o_CLASSIC_code o_CLASSIC_code_value : Addr) (k_o_CLASSIC_code_value : ClassId) (o_TIERED o_TIERED_code o_TIERED_code_value : Addr) (k_o_TIERED_code_value : ClassId) (h0 : Heap) (n0 : Nat) (v : Option Value) (h : Heap) (L : List Loc) : Prop := v = some .null ∧ Fr n0 L ∧ Keep h0 h []
set_option maxRecDepth 65536 in
set_option maxHeartbeats 40000000 in
theorem own_rof2 (l : Launch) (Z : State) (a0 : Array Value) (hw : ∀ d ∈ tables_1, d.before a0 Z = true) (ws : List Jvm.Cond) (a1 : Addr) (t : Addr) (kb : ClassId) (N : Int32) (xs : List Int32) (o_COMPACT_STRINGS : Int32) (o__VALUES : Addr) (k_o__VALUES : ClassId) (o_CLASSIC o_CLASSIC_code o_CLASSIC_code_value : Addr) (k_o_CLASSIC_code_value : ClassId) (o_TIERED o_TIERED_code o_TIERED_code_value : Addr) (k_o_TIERED_code_value : ClassId) (h0 : Heap) (n0 : Nat) (Z0 : n0 ≤ h0.size) (O : Old Z n0 h0) (S_o_COMPACT_STRINGS : Sta Z Z.heap "java/lang/String" "COMPACT_STRINGS" "Z" (.int o_COMPACT_STRINGS)) (S_o__VALUES : Sta Z Z.heap "com/example/riskscan/riskscan/model/Profile" "$VALUES" "[Lcom/example/riskscan/riskscan/model/Profile;" (.ref o__VALUES)) (V_o__VALUES : Arv Z Z.heap o__VALUES k_o__VALUES (.object "com/example/riskscan/riskscan/model/Profile") (2 : Int32) [(.ref o_CLASSIC), (.ref o_TIERED)] .null) (Ex_o__VALUES : Exa Z Z.heap o__VALUES "[Lcom/example/riskscan/riskscan/model/Profile;") (Ex_o_CLASSIC : Exa Z Z.heap o_CLASSIC "com/example/riskscan/riskscan/model/Profile") (F_o_CLASSIC_code : Fld Z Z.heap o_CLASSIC "com/example/riskscan/riskscan/model/Profile" "code" "Ljava/lang/String;" (.ref o_CLASSIC_code)) (Ex_o_CLASSIC_code : Exa Z Z.heap o_CLASSIC_code "java/lang/String") (F_o_CLASSIC_code_coder : Fld Z Z.heap o_CLASSIC_code "java/lang/String" "coder" "B" (.int (0 : Int32))) (F_o_CLASSIC_code_value : Fld Z Z.heap o_CLASSIC_code "java/lang/String" "value" "[B" (.ref o_CLASSIC_code_value)) (V_o_CLASSIC_code_value : Arv Z Z.heap o_CLASSIC_code_value k_o_CLASSIC_code_value .byte (7 : Int32) [(.int (99 : Int32)), (.int (108 : Int32)), (.int (97 : Int32)), (.int (115 : Int32)), (.int (115 : Int32)), (.int (105 : Int32)), (.int (99 : Int32))] (.int (0 : Int32))) (Ex_o_TIERED : Exa Z Z.heap o_TIERED "com/example/riskscan/riskscan/model/Profile") (F_o_TIERED_code : Fld Z Z.heap o_TIERED "com/example/riskscan/riskscan/model/Profile" "code" "Ljava/lang/String;" (.ref o_TIERED_code)) (Ex_o_TIERED_code : Exa Z Z.heap o_TIERED_code "java/lang/String") (F_o_TIERED_code_coder : Fld Z Z.heap o_TIERED_code "java/lang/String" "coder" "B" (.int (0 : Int32))) (F_o_TIERED_code_value : Fld Z Z.heap o_TIERED_code "java/lang/String" "value" "[B" (.ref o_TIERED_code_value)) (V_o_TIERED_code_value : Arv Z Z.heap o_TIERED_code_value k_o_TIERED_code_value .byte (6 : Int32) [(.int (116 : Int32)), (.int (105 : Int32)), (.int (101 : Int32)), (.int (114 : Int32)), (.int (101 : Int32)), (.int (100 : Int32))] (.int (0 : Int32))) (Ex : Exa Z h0 a1 "java/lang/String") (Fv : Fld Z h0 a1 "java/lang/String" "value" "[B" (.ref t)) (Fc : Fld Z h0 a1 "java/lang/String" "coder" "B" (.int (0 : Int32))) (Va : Arv Z h0 t kb .byte N (xs.map Value.int) (.int (0 : Int32))) (nz_o_COMPACT_STRINGS : ¬ (o_COMPACT_STRINGS = (0 : Int32))) (hl : N.toNatClampNeg = xs.length) (hxq0 : ¬ ([(99 : Int32), (108 : Int32), (97 : Int32), (115 : Int32), (115 : Int32), (105 : Int32), (99 : Int32)] = xs)) (hxq1 : ¬ ([(116 : Int32), (105 : Int32), (101 : Int32), (114 : Int32), (101 : Int32), (100 : Int32)] = xs)) :
    MetFree l (⟨"com/example/riskscan/riskscan/model/Profile", "ofCode", "(Ljava/lang/String;)Lcom/example/riskscan/riskscan/model/Profile;"⟩ : MethodName) (head1 (Jvm.Cond.code (⟨"com/example/riskscan/riskscan/model/Profile", "ofCode", "(Ljava/lang/String;)Lcom/example/riskscan/riskscan/model/Profile;"⟩ : MethodName) prog_93_method_5_code 5 (some (.object "com/example/riskscan/riskscan/model/Profile")) :: ws) ({ frames := 2, cells := 1, slots := 2, locals := 28 } : Room)) (fun a U => a = #[(.ref a1)] ∧ Z.Warmed39 U.vm ∧ U.heap = h0) (fun _ _ _ _ _ => True) (fun _ U o U' => ∃ v L, o = .returned v ∧ own_Q_own_rof2 Z a1 t kb N xs o_COMPACT_STRINGS o__VALUES k_o__VALUES o_CLASSIC o_CLASSIC_code o_CLASSIC_code_value k_o_CLASSIC_code_value o_TIERED o_TIERED_code o_TIERED_code_value k_o_TIERED_code_value h0 n0 v U'.heap L ∧ FrameEnd U o U' L ({ frames := 2, cells := 1, slots := 2, locals := 28 } : Room).cells ({ frames := 2, cells := 1, slots := 2, locals := 28 } : Room).slots) := by
  refine MetFree.of_bodySF (plainFor_of_name own_pn_com_example_riskscan_riskscan_model_Profile) hisR ?_
  intro p e s m args below meth c s₁ Bd hml0 hP hK
  obtain ⟨rfl, hZ, hh⟩ := hP
  have hx := Bd.exec
  have hby := Bd.bytes
  have hml : c.maxLocals = 5 := hml0
  have hown : s.vm.findClass "com/example/riskscan/riskscan/model/Profile" = some m.cls := findClass_of_methodNamed Bd.named
  have hnm := (name_of_methodNamed Bd.named Bd.method).1
  have X0 : Stand p l e ({ frames := 2, cells := 1, slots := 2, locals := 28 } : Room) s m #[(.ref a1)] below meth c s₁ [] 0 0 := Stand.of_body Bd
  have e0 : s₁.heap = h0 := by rw [← hh, Bd.state]; rfl
  have N0 := Fr.nil n0
  have Kp : Keep h0 h0 [] := Keep.refl h0 _
  show own_Go p e below s (own_Q_own_rof2 Z a1 t kb N xs o_COMPACT_STRINGS o__VALUES k_o__VALUES o_CLASSIC o_CLASSIC_code o_CLASSIC_code_value k_o_CLASSIC_code_value o_TIERED o_TIERED_code o_TIERED_code_value k_o_TIERED_code_value h0 n0) ({ frames := 2, cells := 1, slots := 2, locals := 28 } : Room).cells ({ frames := 2, cells := 1, slots := 2, locals := 28 } : Room).slots (s₁.setTop (entryFrame m #[(.ref a1)] 5))
  refine own_go (fun zt zk => castTop (own_ef_own_rof2 m a1) zk) ?_
  show own_Go p e below s _ _ _ (s₁.setTop (mkF m 0 #[rv a1, .unset, .unset, .unset, .unset] []))
  obtain ⟨_, _, ⟨T1, L1, k1, n1⟩, -, X1, ⟨Lc1, hQ1, l1, y1, z1⟩, st1⟩ := Jvm.LawKit.callS X0 hx (y := (⟨"com/example/riskscan/riskscan/model/Profile", "values", "()[Lcom/example/riskscan/riskscan/model/Profile;"⟩ : MethodName)) hown (mvT hZ (hw _ (List.mem_of_getElem? (i := 38) rfl))) (mvT hZ (hw _ (List.mem_of_getElem? (i := 39) rfl))) (mvT hZ (hw _ (List.mem_of_getElem? (i := 36) rfl))) (mvT hZ (hw _ (List.mem_of_getElem? (i := 40) rfl))) (by decide) (backOf (W := 0) (own_rvalues l Z a0 hw []  o__VALUES k_o__VALUES o_CLASSIC o_TIERED h0 n0 Z0 O S_o__VALUES V_o__VALUES Ex_o__VALUES) hZ (hw _ (List.mem_of_getElem? (i := 40) rfl)) (hw _ (List.mem_of_getElem? (i := 36) rfl)) (by decide) (by decide)) (g := (mkF m 0 #[rv a1, .unset, .unset, .unset, .unset] [])) rfl (by rw [hml]; rfl) (argsL := []) (rest := []) (lenOf own_pd____Lcom_example_riskscan_riskscan_model_Profile_ rfl) rfl (by show 2 * 0 + _ ≤ _; exact Nat.le_of_eq rfl) (hb hby own_d8_0) (fun _ _ => ⟨rfl, e0, (by decide : 0 + 1 ≤ _), (by decide : 0 + 2 ≤ _)⟩)
  dsimp only [Pt.U, Pt.locs, Pt.cells, Pt.slots] at X1 l1 y1 z1 st1 hQ1
  subst l1 y1 z1
  obtain ⟨b1, rfl, Nq1, K1, sb1, Ea_b1, V_b1⟩ := hQ1
  have N1 := Fr.app N0 Nq1
  refine own_go st1 ?_
  replace O := O.keep K1 all0
  replace Ex := Ex.keep K1
  replace Fv := Fv.keep K1 nin0
  replace Fc := Fc.keep K1 nin0
  replace Va := Va.keep K1 nin0
  replace Kp := Kp.trans K1 all0
  show own_Go p e below s _ _ _ (T1.setTop (mkF m 3 #[rv a1, .unset, .unset, .unset, .unset] [(.ref b1)]))
  refine own_go (fun zt zk => (XS.astoreN X1.here hx rfl (hb hby own_d8_3) rfl rfl (l' := #[rv a1, rv b1, .unset, .unset, .unset]) rfl (XS.aloadN X1.here hx rfl (hb hby own_d8_4) rfl rfl zk))) ?_
  show own_Go p e below s _ _ _ (T1.setTop (mkF m 5 #[rv a1, rv b1, .unset, .unset, .unset] [(.ref b1)]))
  obtain ⟨cl2, Ar2, -, Sz2, Nz2, -, -⟩ := id V_b1
  refine own_go (X1.arraylength hx (by exact Ar2.1) (State.isArrayOf_alike hZ.alike Ar2.2.1) (g := (mkF m 5 #[rv a1, rv b1, .unset, .unset, .unset] [(.ref b1)])) rfl rfl (hb hby own_d8_5)) ?_
  rw [len_of Sz2 Nz2]
  show own_Go p e below s _ _ _ (T1.setTop (mkF m 6 #[rv a1, rv b1, .unset, .unset, .unset] [(.int (2 : Int32))]))
  refine own_go (fun zt zk => (XS.istoreN X1.here hx rfl (hb hby own_d8_6) rfl (l' := #[rv a1, rv b1, iv (2 : Int32), .unset, .unset]) rfl (XS.iconst X1.here hx rfl (hb hby own_d8_7) (XS.istoreN X1.here hx rfl (hb hby own_d8_8) rfl (l' := #[rv a1, rv b1, iv (2 : Int32), iv (0 : Int32), .unset]) rfl (XS.iloadN X1.here hx rfl (hb hby own_d8_9) rfl (XS.iloadN X1.here hx rfl (hb hby own_d8_10) rfl (XS.icmpNo X1.here hx rfl (hb hby own_d8_11) rfl (tlt ((by decide) : (0 : Int32) < (2 : Int32))).2.1 (XS.aloadN X1.here hx rfl (hb hby own_d8_14) rfl rfl (XS.iloadN X1.here hx rfl (hb hby own_d8_15) rfl zk))))))))) ?_
  show own_Go p e below s _ _ _ (T1.setTop (mkF m 16 #[rv a1, rv b1, iv (2 : Int32), iv (0 : Int32), .unset] [(.int (0 : Int32)), (.ref b1)]))
  obtain ⟨cl3, Ar3, q3, Sz3, Nz3, Ha3, Ga3⟩ := id V_b1
  have hin3 : ¬ ((0 : Int32) < 0 ∨ cl3.slots.size ≤ ((0 : Int32)).toNatClampNeg) := inb_of Sz3 ⟨by decide, by decide⟩
  have hat3 : cl3.slots[((0 : Int32)).toNatClampNeg]? = some (.ref o_CLASSIC) := Has.at Ha3 hin3 rfl
  refine own_go (X1.aaload hx (j := (0 : Int32)) (v := (.ref o_CLASSIC)) (by exact Ar3.1) (State.isArrayOf_alike hZ.alike Ar3.2.1) rfl Ar3.2.2 hin3 hat3 (g := (mkF m 16 #[rv a1, rv b1, iv (2 : Int32), iv (0 : Int32), .unset] [(.int (0 : Int32)), (.ref b1)])) rfl rfl (hb hby own_d8_16)) ?_
  show own_Go p e below s _ _ _ (T1.setTop (mkF m 17 #[rv a1, rv b1, iv (2 : Int32), iv (0 : Int32), .unset] [(.ref o_CLASSIC)]))
  refine own_go (fun zt zk => (XS.astore X1.here hx rfl (hb hby own_d8_17) rfl rfl (l' := #[rv a1, rv b1, iv (2 : Int32), iv (0 : Int32), rv o_CLASSIC]) rfl (XS.aload X1.here hx rfl (hb hby own_d8_19) rfl rfl zk))) ?_
  show own_Go p e below s _ _ _ (T1.setTop (mkF m 21 #[rv a1, rv b1, iv (2 : Int32), iv (0 : Int32), rv o_CLASSIC] [(.ref o_CLASSIC)]))
  obtain ⟨T4, X4, e4, st4⟩ := getF X1 hx hZ hown (host := "") (Or.inl (hw _ (List.mem_of_getElem? (i := 55) rfl))) Via.refl rfl (F_o_CLASSIC_code.ext O.2) (g := (mkF m 21 #[rv a1, rv b1, iv (2 : Int32), iv (0 : Int32), rv o_CLASSIC] [(.ref o_CLASSIC)])) rfl rfl (hb hby own_d8_21)
  refine own_go st4 ?_
  show own_Go p e below s _ _ _ (T4.setTop (mkF m 24 #[rv a1, rv b1, iv (2 : Int32), iv (0 : Int32), rv o_CLASSIC] [(.ref o_CLASSIC_code)]))
  refine own_go (fun zt zk => (XS.aloadN X4.here hx rfl (hb hby own_d8_24) rfl rfl zk)) ?_
  show own_Go p e below s _ _ _ (T4.setTop (mkF m 25 #[rv a1, rv b1, iv (2 : Int32), iv (0 : Int32), rv o_CLASSIC] [(.ref a1), (.ref o_CLASSIC_code)]))
  obtain ⟨cq5, kq5, qa5, qb5, qc5⟩ := isOf hZ e4 (Ex_o_CLASSIC_code.ext O.2)
  obtain ⟨_, _, ⟨T5, L5, k5, n5⟩, -, X5, ⟨Lc5, hQ5, l5, y5, z5⟩, st5⟩ := X4.virtualBack hx (y := (⟨"java/lang/String", "equals", "(Ljava/lang/Object;)Z"⟩ : MethodName)) (z := (⟨"java/lang/String", "equals", "(Ljava/lang/Object;)Z"⟩ : MethodName)) hown (mvT hZ (hw _ (List.mem_of_getElem? (i := 57) rfl))) (mvT hZ (hw _ (List.mem_of_getElem? (i := 58) rfl))) (notFace_of_selects (args := #[]) (mvT hZ (hw _ (List.mem_of_getElem? (i := 60) rfl)))) (mvT hZ (hw _ (List.mem_of_getElem? (i := 60) rfl))) (mvT hZ (hw _ (List.mem_of_getElem? (i := 59) rfl))) (by decide) (backOf (W := 0) (own_req l Z a0 hw [] o_CLASSIC_code a1 o_COMPACT_STRINGS o_CLASSIC_code_value t k_o_CLASSIC_code_value kb (7 : Int32) N [(99 : Int32), (108 : Int32), (97 : Int32), (115 : Int32), (115 : Int32), (105 : Int32), (99 : Int32)] xs T1.heap n0 (Nat.le_trans Z0 Kp.1) O S_o_COMPACT_STRINGS (Ex_o_CLASSIC_code.ext O.2) (F_o_CLASSIC_code_value.ext O.2) (F_o_CLASSIC_code_coder.ext O.2) (V_o_CLASSIC_code_value.ext O.2) Ex Fv Fc Va nz_o_COMPACT_STRINGS rfl hl) hZ (hw _ (List.mem_of_getElem? (i := 61) rfl)) (hw _ (List.mem_of_getElem? (i := 7) rfl)) (by decide) (by decide)) qa5 qc5 (g := (mkF m 25 #[rv a1, rv b1, iv (2 : Int32), iv (0 : Int32), rv o_CLASSIC] [(.ref a1), (.ref o_CLASSIC_code)])) rfl (by rw [hml]; rfl) (Steps.refl _) (argsL := [(.ref a1)]) (rest := []) (lenOf own_pd__Ljava_lang_Object__Z rfl) rfl (by show 2 * 0 + _ ≤ _; exact Nat.le_of_eq rfl) (hb hby own_d8_25) (fun _ _ => ⟨rfl, e4, (by decide : 1 + 0 ≤ _), (by decide : 2 + 0 ≤ _)⟩)
  dsimp only [Pt.U, Pt.locs, Pt.cells, Pt.slots] at X5 l5 y5 z5 st5 hQ5
  subst l5 y5 z5
  obtain ⟨hv5, Nq5, e5⟩ := hQ5
  rw [show own_eqv _ _ = (0 : Int32) from if_neg hxq0] at hv5
  subst hv5
  have N5 := Fr.app N1 Nq5
  refine own_go (fun zt zk => st5.trans zk) ?_
  show own_Go p e below s _ _ _ (T5.setTop (mkF m 28 #[rv a1, rv b1, iv (2 : Int32), iv (0 : Int32), rv o_CLASSIC] [(.int (0 : Int32))]))
  refine own_go (fun zt zk => (XS.ifYes X5.here hx rfl (pc0 := 28) (pc' := 34) rfl (hb hby own_d8_28) rfl ((if0 _ _).trans (teq (rfl : (0 : Int32) = (0 : Int32))).1) (by decide) (by decide) (XS.iinc X5.here hx rfl (hb hby own_d8_34) rfl (l' := #[rv a1, rv b1, iv (2 : Int32), iv (1 : Int32), rv o_CLASSIC]) rfl (XS.goto X5.here hx rfl (pc0 := 37) (pc' := 9) rfl (hb hby own_d8_37) (by decide) (by decide) (XS.iloadN X5.here hx rfl (hb hby own_d8_9) rfl (XS.iloadN X5.here hx rfl (hb hby own_d8_10) rfl (XS.icmpNo X5.here hx rfl (hb hby own_d8_11) rfl (tlt ((by decide) : (1 : Int32) < (2 : Int32))).2.1 (XS.aloadN X5.here hx rfl (hb hby own_d8_14) rfl rfl (XS.iloadN X5.here hx rfl (hb hby own_d8_15) rfl zk))))))))) ?_
  show own_Go p e below s _ _ _ (T5.setTop (mkF m 16 #[rv a1, rv b1, iv (2 : Int32), iv (1 : Int32), rv o_CLASSIC] [(.int (1 : Int32)), (.ref b1)]))
  obtain ⟨cl6, Ar6, q6, Sz6, Nz6, Ha6, Ga6⟩ := id V_b1
  have hin6 : ¬ ((1 : Int32) < 0 ∨ cl6.slots.size ≤ ((1 : Int32)).toNatClampNeg) := inb_of Sz6 ⟨by decide, by decide⟩
  have hat6 : cl6.slots[((1 : Int32)).toNatClampNeg]? = some (.ref o_TIERED) := Has.at Ha6 hin6 rfl
  refine own_go (X5.aaload hx (j := (1 : Int32)) (v := (.ref o_TIERED)) (by rw [e5]; exact Ar6.1) (State.isArrayOf_alike hZ.alike Ar6.2.1) rfl Ar6.2.2 hin6 hat6 (g := (mkF m 16 #[rv a1, rv b1, iv (2 : Int32), iv (1 : Int32), rv o_CLASSIC] [(.int (1 : Int32)), (.ref b1)])) rfl rfl (hb hby own_d8_16)) ?_
  show own_Go p e below s _ _ _ (T5.setTop (mkF m 17 #[rv a1, rv b1, iv (2 : Int32), iv (1 : Int32), rv o_CLASSIC] [(.ref o_TIERED)]))
  refine own_go (fun zt zk => (XS.astore X5.here hx rfl (hb hby own_d8_17) rfl rfl (l' := #[rv a1, rv b1, iv (2 : Int32), iv (1 : Int32), rv o_TIERED]) rfl (XS.aload X5.here hx rfl (hb hby own_d8_19) rfl rfl zk))) ?_
  show own_Go p e below s _ _ _ (T5.setTop (mkF m 21 #[rv a1, rv b1, iv (2 : Int32), iv (1 : Int32), rv o_TIERED] [(.ref o_TIERED)]))
  obtain ⟨T7, X7, e7, st7⟩ := getF X5 hx hZ hown (host := "") (Or.inl (hw _ (List.mem_of_getElem? (i := 55) rfl))) Via.refl e5 (F_o_TIERED_code.ext O.2) (g := (mkF m 21 #[rv a1, rv b1, iv (2 : Int32), iv (1 : Int32), rv o_TIERED] [(.ref o_TIERED)])) rfl rfl (hb hby own_d8_21)
  refine own_go st7 ?_
  show own_Go p e below s _ _ _ (T7.setTop (mkF m 24 #[rv a1, rv b1, iv (2 : Int32), iv (1 : Int32), rv o_TIERED] [(.ref o_TIERED_code)]))
  refine own_go (fun zt zk => (XS.aloadN X7.here hx rfl (hb hby own_d8_24) rfl rfl zk)) ?_
  show own_Go p e below s _ _ _ (T7.setTop (mkF m 25 #[rv a1, rv b1, iv (2 : Int32), iv (1 : Int32), rv o_TIERED] [(.ref a1), (.ref o_TIERED_code)]))
  obtain ⟨cq8, kq8, qa8, qb8, qc8⟩ := isOf hZ e7 (Ex_o_TIERED_code.ext O.2)
  obtain ⟨_, _, ⟨T8, L8, k8, n8⟩, -, X8, ⟨Lc8, hQ8, l8, y8, z8⟩, st8⟩ := X7.virtualBack hx (y := (⟨"java/lang/String", "equals", "(Ljava/lang/Object;)Z"⟩ : MethodName)) (z := (⟨"java/lang/String", "equals", "(Ljava/lang/Object;)Z"⟩ : MethodName)) hown (mvT hZ (hw _ (List.mem_of_getElem? (i := 57) rfl))) (mvT hZ (hw _ (List.mem_of_getElem? (i := 58) rfl))) (notFace_of_selects (args := #[]) (mvT hZ (hw _ (List.mem_of_getElem? (i := 60) rfl)))) (mvT hZ (hw _ (List.mem_of_getElem? (i := 60) rfl))) (mvT hZ (hw _ (List.mem_of_getElem? (i := 59) rfl))) (by decide) (backOf (W := 0) (own_req l Z a0 hw [] o_TIERED_code a1 o_COMPACT_STRINGS o_TIERED_code_value t k_o_TIERED_code_value kb (6 : Int32) N [(116 : Int32), (105 : Int32), (101 : Int32), (114 : Int32), (101 : Int32), (100 : Int32)] xs T1.heap n0 (Nat.le_trans Z0 Kp.1) O S_o_COMPACT_STRINGS (Ex_o_TIERED_code.ext O.2) (F_o_TIERED_code_value.ext O.2) (F_o_TIERED_code_coder.ext O.2) (V_o_TIERED_code_value.ext O.2) Ex Fv Fc Va nz_o_COMPACT_STRINGS rfl hl) hZ (hw _ (List.mem_of_getElem? (i := 61) rfl)) (hw _ (List.mem_of_getElem? (i := 7) rfl)) (by decide) (by decide)) qa8 qc8 (g := (mkF m 25 #[rv a1, rv b1, iv (2 : Int32), iv (1 : Int32), rv o_TIERED] [(.ref a1), (.ref o_TIERED_code)])) rfl (by rw [hml]; rfl) (Steps.refl _) (argsL := [(.ref a1)]) (rest := []) (lenOf own_pd__Ljava_lang_Object__Z rfl) rfl (by show 2 * 0 + _ ≤ _; exact Nat.le_of_eq rfl) (hb hby own_d8_25) (fun _ _ => ⟨rfl, e7, (by decide : 1 + 0 ≤ _), (by decide : 2 + 0 ≤ _)⟩)
  dsimp only [Pt.U, Pt.locs, Pt.cells, Pt.slots] at X8 l8 y8 z8 st8 hQ8
  subst l8 y8 z8
  obtain ⟨hv8, Nq8, e8⟩ := hQ8
  rw [show own_eqv _ _ = (0 : Int32) from if_neg hxq1] at hv8
  subst hv8
  have N8 := Fr.app N5 Nq8
  refine own_go (fun zt zk => st8.trans zk) ?_
  show own_Go p e below s _ _ _ (T8.setTop (mkF m 28 #[rv a1, rv b1, iv (2 : Int32), iv (1 : Int32), rv o_TIERED] [(.int (0 : Int32))]))
  refine own_go (fun zt zk => (XS.ifYes X8.here hx rfl (pc0 := 28) (pc' := 34) rfl (hb hby own_d8_28) rfl ((if0 _ _).trans (teq (rfl : (0 : Int32) = (0 : Int32))).1) (by decide) (by decide) (XS.iinc X8.here hx rfl (hb hby own_d8_34) rfl (l' := #[rv a1, rv b1, iv (2 : Int32), iv (2 : Int32), rv o_TIERED]) rfl (XS.goto X8.here hx rfl (pc0 := 37) (pc' := 9) rfl (hb hby own_d8_37) (by decide) (by decide) (XS.iloadN X8.here hx rfl (hb hby own_d8_9) rfl (XS.iloadN X8.here hx rfl (hb hby own_d8_10) rfl (XS.icmpYes X8.here hx rfl (pc0 := 11) (pc' := 40) rfl (hb hby own_d8_11) rfl (flt ((own_irr _) : ¬ ((2 : Int32) < (2 : Int32)))).2.1 (by decide) (by decide) (XS.aconstNull X8.here hx rfl (hb hby own_d8_40) zk)))))))) ?_
  show own_Go p e below s _ _ _ (T8.setTop (mkF m 41 #[rv a1, rv b1, iv (2 : Int32), iv (2 : Int32), rv o_TIERED] [.null]))
  exact own_fin X8 Bd.notSynchronized (fun h => by rw [Bd.returns] at h; cases h) (fun fs hr => retOut X8 hx (t := (.object "com/example/riskscan/riskscan/model/Profile")) (w := .null) Bd.returns rfl (Or.inr (Or.inr (Or.inr (Or.inr ⟨rfl, rfl, rfl⟩)))) (hb hby own_d8_41) hr) (by rw [e8]; exact ⟨rfl, N8, Kp⟩) (by decide) (by decide)
theorem own_ef_own_rofnull (m : MethodId)  : entryFrame m #[.null] 5 = mkF m 0 #[.val .null, .unset, .unset, .unset, .unset] [] := by first | (simp [entryFrame, mkF, argsToLocals, Value.category]; done) | rfl
def own_Q_own_rofnull (Z : State) (o_COMPACT_STRINGS : Int32) (o__VALUES : Addr) (k_o__VALUES : ClassId) (o_CLASSIC o_CLASSIC_code o_CLASSIC_code_value : Addr) (k_o_CLASSIC_code_value : ClassId) (o_TIERED o_TIERED_code o_TIERED_code_value : Addr) (k_o_TIERED_code_value : ClassId) (h0 : Heap) (n0 : Nat) (v : Option Value) (h : Heap) (L : List Loc) : Prop := v = some .null ∧ Fr n0 L ∧ Keep h0 h []
set_option maxRecDepth 65536 in
set_option maxHeartbeats 40000000 in
theorem own_rofnull (l : Launch) (Z : State) (a0 : Array Value) (hw : ∀ d ∈ tables_1, d.before a0 Z = true) (ws : List Jvm.Cond) (o_COMPACT_STRINGS : Int32) (o__VALUES : Addr) (k_o__VALUES : ClassId) (o_CLASSIC o_CLASSIC_code o_CLASSIC_code_value : Addr) (k_o_CLASSIC_code_value : ClassId) (o_TIERED o_TIERED_code o_TIERED_code_value : Addr) (k_o_TIERED_code_value : ClassId) (h0 : Heap) (n0 : Nat) (Z0 : n0 ≤ h0.size) (O : Old Z n0 h0) (S_o_COMPACT_STRINGS : Sta Z Z.heap "java/lang/String" "COMPACT_STRINGS" "Z" (.int o_COMPACT_STRINGS)) (S_o__VALUES : Sta Z Z.heap "com/example/riskscan/riskscan/model/Profile" "$VALUES" "[Lcom/example/riskscan/riskscan/model/Profile;" (.ref o__VALUES)) (V_o__VALUES : Arv Z Z.heap o__VALUES k_o__VALUES (.object "com/example/riskscan/riskscan/model/Profile") (2 : Int32) [(.ref o_CLASSIC), (.ref o_TIERED)] .null) (Ex_o__VALUES : Exa Z Z.heap o__VALUES "[Lcom/example/riskscan/riskscan/model/Profile;") (Ex_o_CLASSIC : Exa Z Z.heap o_CLASSIC "com/example/riskscan/riskscan/model/Profile") (F_o_CLASSIC_code : Fld Z Z.heap o_CLASSIC "com/example/riskscan/riskscan/model/Profile" "code" "Ljava/lang/String;" (.ref o_CLASSIC_code)) (Ex_o_CLASSIC_code : Exa Z Z.heap o_CLASSIC_code "java/lang/String") (F_o_CLASSIC_code_coder : Fld Z Z.heap o_CLASSIC_code "java/lang/String" "coder" "B" (.int (0 : Int32))) (F_o_CLASSIC_code_value : Fld Z Z.heap o_CLASSIC_code "java/lang/String" "value" "[B" (.ref o_CLASSIC_code_value)) (V_o_CLASSIC_code_value : Arv Z Z.heap o_CLASSIC_code_value k_o_CLASSIC_code_value .byte (7 : Int32) [(.int (99 : Int32)), (.int (108 : Int32)), (.int (97 : Int32)), (.int (115 : Int32)), (.int (115 : Int32)), (.int (105 : Int32)), (.int (99 : Int32))] (.int (0 : Int32))) (Ex_o_TIERED : Exa Z Z.heap o_TIERED "com/example/riskscan/riskscan/model/Profile") (F_o_TIERED_code : Fld Z Z.heap o_TIERED "com/example/riskscan/riskscan/model/Profile" "code" "Ljava/lang/String;" (.ref o_TIERED_code)) (Ex_o_TIERED_code : Exa Z Z.heap o_TIERED_code "java/lang/String") (F_o_TIERED_code_coder : Fld Z Z.heap o_TIERED_code "java/lang/String" "coder" "B" (.int (0 : Int32))) (F_o_TIERED_code_value : Fld Z Z.heap o_TIERED_code "java/lang/String" "value" "[B" (.ref o_TIERED_code_value)) (V_o_TIERED_code_value : Arv Z Z.heap o_TIERED_code_value k_o_TIERED_code_value .byte (6 : Int32) [(.int (116 : Int32)), (.int (105 : Int32)), (.int (101 : Int32)), (.int (114 : Int32)), (.int (101 : Int32)), (.int (100 : Int32))] (.int (0 : Int32))) (nz_o_COMPACT_STRINGS : ¬ (o_COMPACT_STRINGS = (0 : Int32))) :
    MetFree l (⟨"com/example/riskscan/riskscan/model/Profile", "ofCode", "(Ljava/lang/String;)Lcom/example/riskscan/riskscan/model/Profile;"⟩ : MethodName) (head1 (Jvm.Cond.code (⟨"com/example/riskscan/riskscan/model/Profile", "ofCode", "(Ljava/lang/String;)Lcom/example/riskscan/riskscan/model/Profile;"⟩ : MethodName) prog_93_method_5_code 5 (some (.object "com/example/riskscan/riskscan/model/Profile")) :: ws) ({ frames := 2, cells := 1, slots := 2, locals := 25 } : Room)) (fun a U => a = #[.null] ∧ Z.Warmed39 U.vm ∧ U.heap = h0) (fun _ _ _ _ _ => True) (fun _ U o U' => ∃ v L, o = .returned v ∧ own_Q_own_rofnull Z o_COMPACT_STRINGS o__VALUES k_o__VALUES o_CLASSIC o_CLASSIC_code o_CLASSIC_code_value k_o_CLASSIC_code_value o_TIERED o_TIERED_code o_TIERED_code_value k_o_TIERED_code_value h0 n0 v U'.heap L ∧ FrameEnd U o U' L ({ frames := 2, cells := 1, slots := 2, locals := 25 } : Room).cells ({ frames := 2, cells := 1, slots := 2, locals := 25 } : Room).slots) := by
  refine MetFree.of_bodySF (plainFor_of_name own_pn_com_example_riskscan_riskscan_model_Profile) hisR ?_
  intro p e s m args below meth c s₁ Bd hml0 hP hK
  obtain ⟨rfl, hZ, hh⟩ := hP
  have hx := Bd.exec
  have hby := Bd.bytes
  have hml : c.maxLocals = 5 := hml0
  have hown : s.vm.findClass "com/example/riskscan/riskscan/model/Profile" = some m.cls := findClass_of_methodNamed Bd.named
  have hnm := (name_of_methodNamed Bd.named Bd.method).1
  have X0 : Stand p l e ({ frames := 2, cells := 1, slots := 2, locals := 25 } : Room) s m #[.null] below meth c s₁ [] 0 0 := Stand.of_body Bd
  have e0 : s₁.heap = h0 := by rw [← hh, Bd.state]; rfl
  have N0 := Fr.nil n0
  have Kp : Keep h0 h0 [] := Keep.refl h0 _
  show own_Go p e below s (own_Q_own_rofnull Z o_COMPACT_STRINGS o__VALUES k_o__VALUES o_CLASSIC o_CLASSIC_code o_CLASSIC_code_value k_o_CLASSIC_code_value o_TIERED o_TIERED_code o_TIERED_code_value k_o_TIERED_code_value h0 n0) ({ frames := 2, cells := 1, slots := 2, locals := 25 } : Room).cells ({ frames := 2, cells := 1, slots := 2, locals := 25 } : Room).slots (s₁.setTop (entryFrame m #[.null] 5))
  refine own_go (fun zt zk => castTop (own_ef_own_rofnull m) zk) ?_
  show own_Go p e below s _ _ _ (s₁.setTop (mkF m 0 #[.val .null, .unset, .unset, .unset, .unset] []))
  obtain ⟨_, _, ⟨T1, L1, k1, n1⟩, -, X1, ⟨Lc1, hQ1, l1, y1, z1⟩, st1⟩ := Jvm.LawKit.callS X0 hx (y := (⟨"com/example/riskscan/riskscan/model/Profile", "values", "()[Lcom/example/riskscan/riskscan/model/Profile;"⟩ : MethodName)) hown (mvT hZ (hw _ (List.mem_of_getElem? (i := 38) rfl))) (mvT hZ (hw _ (List.mem_of_getElem? (i := 39) rfl))) (mvT hZ (hw _ (List.mem_of_getElem? (i := 36) rfl))) (mvT hZ (hw _ (List.mem_of_getElem? (i := 40) rfl))) (by decide) (backOf (W := 0) (own_rvalues l Z a0 hw []  o__VALUES k_o__VALUES o_CLASSIC o_TIERED h0 n0 Z0 O S_o__VALUES V_o__VALUES Ex_o__VALUES) hZ (hw _ (List.mem_of_getElem? (i := 40) rfl)) (hw _ (List.mem_of_getElem? (i := 36) rfl)) (by decide) (by decide)) (g := (mkF m 0 #[.val .null, .unset, .unset, .unset, .unset] [])) rfl (by rw [hml]; rfl) (argsL := []) (rest := []) (lenOf own_pd____Lcom_example_riskscan_riskscan_model_Profile_ rfl) rfl (by show 2 * 0 + _ ≤ _; exact Nat.le_of_eq rfl) (hb hby own_d8_0) (fun _ _ => ⟨rfl, e0, (by decide : 0 + 1 ≤ _), (by decide : 0 + 2 ≤ _)⟩)
  dsimp only [Pt.U, Pt.locs, Pt.cells, Pt.slots] at X1 l1 y1 z1 st1 hQ1
  subst l1 y1 z1
  obtain ⟨b1, rfl, Nq1, K1, sb1, Ea_b1, V_b1⟩ := hQ1
  have N1 := Fr.app N0 Nq1
  refine own_go st1 ?_
  replace O := O.keep K1 all0
  replace Kp := Kp.trans K1 all0
  show own_Go p e below s _ _ _ (T1.setTop (mkF m 3 #[.val .null, .unset, .unset, .unset, .unset] [(.ref b1)]))
  refine own_go (fun zt zk => (XS.astoreN X1.here hx rfl (hb hby own_d8_3) rfl rfl (l' := #[.val .null, rv b1, .unset, .unset, .unset]) rfl (XS.aloadN X1.here hx rfl (hb hby own_d8_4) rfl rfl zk))) ?_
  show own_Go p e below s _ _ _ (T1.setTop (mkF m 5 #[.val .null, rv b1, .unset, .unset, .unset] [(.ref b1)]))
  obtain ⟨cl2, Ar2, -, Sz2, Nz2, -, -⟩ := id V_b1
  refine own_go (X1.arraylength hx (by exact Ar2.1) (State.isArrayOf_alike hZ.alike Ar2.2.1) (g := (mkF m 5 #[.val .null, rv b1, .unset, .unset, .unset] [(.ref b1)])) rfl rfl (hb hby own_d8_5)) ?_
  rw [len_of Sz2 Nz2]
  show own_Go p e below s _ _ _ (T1.setTop (mkF m 6 #[.val .null, rv b1, .unset, .unset, .unset] [(.int (2 : Int32))]))
  refine own_go (fun zt zk => (XS.istoreN X1.here hx rfl (hb hby own_d8_6) rfl (l' := #[.val .null, rv b1, iv (2 : Int32), .unset, .unset]) rfl (XS.iconst X1.here hx rfl (hb hby own_d8_7) (XS.istoreN X1.here hx rfl (hb hby own_d8_8) rfl (l' := #[.val .null, rv b1, iv (2 : Int32), iv (0 : Int32), .unset]) rfl (XS.iloadN X1.here hx rfl (hb hby own_d8_9) rfl (XS.iloadN X1.here hx rfl (hb hby own_d8_10) rfl (XS.icmpNo X1.here hx rfl (hb hby own_d8_11) rfl (tlt ((by decide) : (0 : Int32) < (2 : Int32))).2.1 (XS.aloadN X1.here hx rfl (hb hby own_d8_14) rfl rfl (XS.iloadN X1.here hx rfl (hb hby own_d8_15) rfl zk))))))))) ?_
  show own_Go p e below s _ _ _ (T1.setTop (mkF m 16 #[.val .null, rv b1, iv (2 : Int32), iv (0 : Int32), .unset] [(.int (0 : Int32)), (.ref b1)]))
  obtain ⟨cl3, Ar3, q3, Sz3, Nz3, Ha3, Ga3⟩ := id V_b1
  have hin3 : ¬ ((0 : Int32) < 0 ∨ cl3.slots.size ≤ ((0 : Int32)).toNatClampNeg) := inb_of Sz3 ⟨by decide, by decide⟩
  have hat3 : cl3.slots[((0 : Int32)).toNatClampNeg]? = some (.ref o_CLASSIC) := Has.at Ha3 hin3 rfl
  refine own_go (X1.aaload hx (j := (0 : Int32)) (v := (.ref o_CLASSIC)) (by exact Ar3.1) (State.isArrayOf_alike hZ.alike Ar3.2.1) rfl Ar3.2.2 hin3 hat3 (g := (mkF m 16 #[.val .null, rv b1, iv (2 : Int32), iv (0 : Int32), .unset] [(.int (0 : Int32)), (.ref b1)])) rfl rfl (hb hby own_d8_16)) ?_
  show own_Go p e below s _ _ _ (T1.setTop (mkF m 17 #[.val .null, rv b1, iv (2 : Int32), iv (0 : Int32), .unset] [(.ref o_CLASSIC)]))
  refine own_go (fun zt zk => (XS.astore X1.here hx rfl (hb hby own_d8_17) rfl rfl (l' := #[.val .null, rv b1, iv (2 : Int32), iv (0 : Int32), rv o_CLASSIC]) rfl (XS.aload X1.here hx rfl (hb hby own_d8_19) rfl rfl zk))) ?_
  show own_Go p e below s _ _ _ (T1.setTop (mkF m 21 #[.val .null, rv b1, iv (2 : Int32), iv (0 : Int32), rv o_CLASSIC] [(.ref o_CLASSIC)]))
  obtain ⟨T4, X4, e4, st4⟩ := getF X1 hx hZ hown (host := "") (Or.inl (hw _ (List.mem_of_getElem? (i := 55) rfl))) Via.refl rfl (F_o_CLASSIC_code.ext O.2) (g := (mkF m 21 #[.val .null, rv b1, iv (2 : Int32), iv (0 : Int32), rv o_CLASSIC] [(.ref o_CLASSIC)])) rfl rfl (hb hby own_d8_21)
  refine own_go st4 ?_
  show own_Go p e below s _ _ _ (T4.setTop (mkF m 24 #[.val .null, rv b1, iv (2 : Int32), iv (0 : Int32), rv o_CLASSIC] [(.ref o_CLASSIC_code)]))
  refine own_go (fun zt zk => (XS.aloadN X4.here hx rfl (hb hby own_d8_24) rfl rfl zk)) ?_
  show own_Go p e below s _ _ _ (T4.setTop (mkF m 25 #[.val .null, rv b1, iv (2 : Int32), iv (0 : Int32), rv o_CLASSIC] [.null, (.ref o_CLASSIC_code)]))
  obtain ⟨cq5, kq5, qa5, qb5, qc5⟩ := isOf hZ e4 (Ex_o_CLASSIC_code.ext O.2)
  obtain ⟨_, _, ⟨T5, L5, k5, n5⟩, -, X5, ⟨Lc5, hQ5, l5, y5, z5⟩, st5⟩ := X4.virtualBack hx (y := (⟨"java/lang/String", "equals", "(Ljava/lang/Object;)Z"⟩ : MethodName)) (z := (⟨"java/lang/String", "equals", "(Ljava/lang/Object;)Z"⟩ : MethodName)) hown (mvT hZ (hw _ (List.mem_of_getElem? (i := 57) rfl))) (mvT hZ (hw _ (List.mem_of_getElem? (i := 58) rfl))) (notFace_of_selects (args := #[]) (mvT hZ (hw _ (List.mem_of_getElem? (i := 60) rfl)))) (mvT hZ (hw _ (List.mem_of_getElem? (i := 60) rfl))) (mvT hZ (hw _ (List.mem_of_getElem? (i := 59) rfl))) (by decide) (backOf (W := 0) (own_reqn l Z a0 hw [] o_CLASSIC_code  T1.heap n0 (Nat.le_trans Z0 Kp.1) ) hZ (hw _ (List.mem_of_getElem? (i := 61) rfl)) (hw _ (List.mem_of_getElem? (i := 7) rfl)) (by decide) (by decide)) qa5 qc5 (g := (mkF m 25 #[.val .null, rv b1, iv (2 : Int32), iv (0 : Int32), rv o_CLASSIC] [.null, (.ref o_CLASSIC_code)])) rfl (by rw [hml]; rfl) (Steps.refl _) (argsL := [.null]) (rest := []) (lenOf own_pd__Ljava_lang_Object__Z rfl) rfl (by show 2 * 0 + _ ≤ _; exact Nat.le_of_eq rfl) (hb hby own_d8_25) (fun _ _ => ⟨rfl, e4, (by decide : 1 + 0 ≤ _), (by decide : 2 + 0 ≤ _)⟩)
  dsimp only [Pt.U, Pt.locs, Pt.cells, Pt.slots] at X5 l5 y5 z5 st5 hQ5
  subst l5 y5 z5
  obtain ⟨rfl, Nq5, e5⟩ := hQ5
  have N5 := Fr.app N1 Nq5
  refine own_go (fun zt zk => st5.trans zk) ?_
  show own_Go p e below s _ _ _ (T5.setTop (mkF m 28 #[.val .null, rv b1, iv (2 : Int32), iv (0 : Int32), rv o_CLASSIC] [(.int (0 : Int32))]))
  refine own_go (fun zt zk => (XS.ifYes X5.here hx rfl (pc0 := 28) (pc' := 34) rfl (hb hby own_d8_28) rfl ((if0 _ _).trans (teq (rfl : (0 : Int32) = (0 : Int32))).1) (by decide) (by decide) (XS.iinc X5.here hx rfl (hb hby own_d8_34) rfl (l' := #[.val .null, rv b1, iv (2 : Int32), iv (1 : Int32), rv o_CLASSIC]) rfl (XS.goto X5.here hx rfl (pc0 := 37) (pc' := 9) rfl (hb hby own_d8_37) (by decide) (by decide) (XS.iloadN X5.here hx rfl (hb hby own_d8_9) rfl (XS.iloadN X5.here hx rfl (hb hby own_d8_10) rfl (XS.icmpNo X5.here hx rfl (hb hby own_d8_11) rfl (tlt ((by decide) : (1 : Int32) < (2 : Int32))).2.1 (XS.aloadN X5.here hx rfl (hb hby own_d8_14) rfl rfl (XS.iloadN X5.here hx rfl (hb hby own_d8_15) rfl zk))))))))) ?_
  show own_Go p e below s _ _ _ (T5.setTop (mkF m 16 #[.val .null, rv b1, iv (2 : Int32), iv (1 : Int32), rv o_CLASSIC] [(.int (1 : Int32)), (.ref b1)]))
  obtain ⟨cl6, Ar6, q6, Sz6, Nz6, Ha6, Ga6⟩ := id V_b1
  have hin6 : ¬ ((1 : Int32) < 0 ∨ cl6.slots.size ≤ ((1 : Int32)).toNatClampNeg) := inb_of Sz6 ⟨by decide, by decide⟩
  have hat6 : cl6.slots[((1 : Int32)).toNatClampNeg]? = some (.ref o_TIERED) := Has.at Ha6 hin6 rfl
  refine own_go (X5.aaload hx (j := (1 : Int32)) (v := (.ref o_TIERED)) (by rw [e5]; exact Ar6.1) (State.isArrayOf_alike hZ.alike Ar6.2.1) rfl Ar6.2.2 hin6 hat6 (g := (mkF m 16 #[.val .null, rv b1, iv (2 : Int32), iv (1 : Int32), rv o_CLASSIC] [(.int (1 : Int32)), (.ref b1)])) rfl rfl (hb hby own_d8_16)) ?_
  show own_Go p e below s _ _ _ (T5.setTop (mkF m 17 #[.val .null, rv b1, iv (2 : Int32), iv (1 : Int32), rv o_CLASSIC] [(.ref o_TIERED)]))
  refine own_go (fun zt zk => (XS.astore X5.here hx rfl (hb hby own_d8_17) rfl rfl (l' := #[.val .null, rv b1, iv (2 : Int32), iv (1 : Int32), rv o_TIERED]) rfl (XS.aload X5.here hx rfl (hb hby own_d8_19) rfl rfl zk))) ?_
  show own_Go p e below s _ _ _ (T5.setTop (mkF m 21 #[.val .null, rv b1, iv (2 : Int32), iv (1 : Int32), rv o_TIERED] [(.ref o_TIERED)]))
  obtain ⟨T7, X7, e7, st7⟩ := getF X5 hx hZ hown (host := "") (Or.inl (hw _ (List.mem_of_getElem? (i := 55) rfl))) Via.refl e5 (F_o_TIERED_code.ext O.2) (g := (mkF m 21 #[.val .null, rv b1, iv (2 : Int32), iv (1 : Int32), rv o_TIERED] [(.ref o_TIERED)])) rfl rfl (hb hby own_d8_21)
  refine own_go st7 ?_
  show own_Go p e below s _ _ _ (T7.setTop (mkF m 24 #[.val .null, rv b1, iv (2 : Int32), iv (1 : Int32), rv o_TIERED] [(.ref o_TIERED_code)]))
  refine own_go (fun zt zk => (XS.aloadN X7.here hx rfl (hb hby own_d8_24) rfl rfl zk)) ?_
  show own_Go p e below s _ _ _ (T7.setTop (mkF m 25 #[.val .null, rv b1, iv (2 : Int32), iv (1 : Int32), rv o_TIERED] [.null, (.ref o_TIERED_code)]))
  obtain ⟨cq8, kq8, qa8, qb8, qc8⟩ := isOf hZ e7 (Ex_o_TIERED_code.ext O.2)
  obtain ⟨_, _, ⟨T8, L8, k8, n8⟩, -, X8, ⟨Lc8, hQ8, l8, y8, z8⟩, st8⟩ := X7.virtualBack hx (y := (⟨"java/lang/String", "equals", "(Ljava/lang/Object;)Z"⟩ : MethodName)) (z := (⟨"java/lang/String", "equals", "(Ljava/lang/Object;)Z"⟩ : MethodName)) hown (mvT hZ (hw _ (List.mem_of_getElem? (i := 57) rfl))) (mvT hZ (hw _ (List.mem_of_getElem? (i := 58) rfl))) (notFace_of_selects (args := #[]) (mvT hZ (hw _ (List.mem_of_getElem? (i := 60) rfl)))) (mvT hZ (hw _ (List.mem_of_getElem? (i := 60) rfl))) (mvT hZ (hw _ (List.mem_of_getElem? (i := 59) rfl))) (by decide) (backOf (W := 0) (own_reqn l Z a0 hw [] o_TIERED_code  T1.heap n0 (Nat.le_trans Z0 Kp.1) ) hZ (hw _ (List.mem_of_getElem? (i := 61) rfl)) (hw _ (List.mem_of_getElem? (i := 7) rfl)) (by decide) (by decide)) qa8 qc8 (g := (mkF m 25 #[.val .null, rv b1, iv (2 : Int32), iv (1 : Int32), rv o_TIERED] [.null, (.ref o_TIERED_code)])) rfl (by rw [hml]; rfl) (Steps.refl _) (argsL := [.null]) (rest := []) (lenOf own_pd__Ljava_lang_Object__Z rfl) rfl (by show 2 * 0 + _ ≤ _; exact Nat.le_of_eq rfl) (hb hby own_d8_25) (fun _ _ => ⟨rfl, e7, (by decide : 1 + 0 ≤ _), (by decide : 2 + 0 ≤ _)⟩)
  dsimp only [Pt.U, Pt.locs, Pt.cells, Pt.slots] at X8 l8 y8 z8 st8 hQ8
  subst l8 y8 z8
  obtain ⟨rfl, Nq8, e8⟩ := hQ8
  have N8 := Fr.app N5 Nq8
  refine own_go (fun zt zk => st8.trans zk) ?_
  show own_Go p e below s _ _ _ (T8.setTop (mkF m 28 #[.val .null, rv b1, iv (2 : Int32), iv (1 : Int32), rv o_TIERED] [(.int (0 : Int32))]))
  refine own_go (fun zt zk => (XS.ifYes X8.here hx rfl (pc0 := 28) (pc' := 34) rfl (hb hby own_d8_28) rfl ((if0 _ _).trans (teq (rfl : (0 : Int32) = (0 : Int32))).1) (by decide) (by decide) (XS.iinc X8.here hx rfl (hb hby own_d8_34) rfl (l' := #[.val .null, rv b1, iv (2 : Int32), iv (2 : Int32), rv o_TIERED]) rfl (XS.goto X8.here hx rfl (pc0 := 37) (pc' := 9) rfl (hb hby own_d8_37) (by decide) (by decide) (XS.iloadN X8.here hx rfl (hb hby own_d8_9) rfl (XS.iloadN X8.here hx rfl (hb hby own_d8_10) rfl (XS.icmpYes X8.here hx rfl (pc0 := 11) (pc' := 40) rfl (hb hby own_d8_11) rfl (flt ((own_irr _) : ¬ ((2 : Int32) < (2 : Int32)))).2.1 (by decide) (by decide) (XS.aconstNull X8.here hx rfl (hb hby own_d8_40) zk)))))))) ?_
  show own_Go p e below s _ _ _ (T8.setTop (mkF m 41 #[.val .null, rv b1, iv (2 : Int32), iv (2 : Int32), rv o_TIERED] [.null]))
  exact own_fin X8 Bd.notSynchronized (fun h => by rw [Bd.returns] at h; cases h) (fun fs hr => retOut X8 hx (t := (.object "com/example/riskscan/riskscan/model/Profile")) (w := .null) Bd.returns rfl (Or.inr (Or.inr (Or.inr (Or.inr ⟨rfl, rfl, rfl⟩)))) (hb hby own_d8_41) hr) (by rw [e8]; exact ⟨rfl, N8, Kp⟩) (by decide) (by decide)
theorem own_pd__Ljava_lang_String__Lcom_example_riskscan_riskscan_model_Profile_ : parseMethodDescriptor "(Ljava/lang/String;)Lcom/example/riskscan/riskscan/model/Profile;" = some ⟨[(.object "java/lang/String")], some (.object "com/example/riskscan/riskscan/model/Profile")⟩ := by decide +kernel
theorem own_pd___Ljava_lang_String_ : parseMethodDescriptor "()Ljava/lang/String;" = some ⟨[], some (.object "java/lang/String")⟩ := by decide +kernel
theorem own_pd__IICJ__C : parseMethodDescriptor "(IICJ)[C" = some ⟨[.int, .int, .char, .long], some (.array .char)⟩ := by decide +kernel
theorem own_pd___C_V : parseMethodDescriptor "([C)V" = some ⟨[(.array .char)], none⟩ := by decide +kernel
theorem own_ef_own_law (m : MethodId) (p1 : Int32) (p2 : Int64) (p3 : Int32) : entryFrame m #[(.int p1), (.long p2), (.int p3)] maxLocals = mkF m 0 #[iv p1, .val (.long p2), .second, iv p3, .unset, .unset, .unset, .unset, .unset, .unset, .unset, .unset, .unset] [] := by first | (simp [entryFrame, mkF, argsToLocals, Value.category, maxLocals]; done) | rfl
def own_Q_own_law (Z : State) (p1 : Int32) (p2 : Int64) (p3 : Int32) (o__VALUES : Addr) (o_CLASSIC : Addr) (o_TIERED : Addr) (o_CLASSIC_code : Addr) (o_CLASSIC_code_value : Addr) (o_TIERED_code : Addr) (o_TIERED_code_value : Addr) (o_COMPACT_STRINGS : Int32) (o_SIOOBE_FORMATTER : Value) (k_o__VALUES : ClassId) (k_o_CLASSIC_code_value : ClassId) (k_o_TIERED_code_value : ClassId) (h0 : Heap) (n0 : Nat) (v : Option Value) (h : Heap) (L : List Loc) : Prop := v = some (.int 1) ∧ Fr n0 L
set_option maxRecDepth 65536 in
set_option maxHeartbeats 40000000 in
theorem own_law (l : Launch) (Z : State) (a0 : Array Value) (hw : ∀ d ∈ tables_1, d.before a0 Z = true) (ws : List Jvm.Cond) (p1 : Int32) (p2 : Int64) (p3 : Int32) (o__VALUES : Addr) (o_CLASSIC : Addr) (o_TIERED : Addr) (o_CLASSIC_code : Addr) (o_CLASSIC_code_value : Addr) (o_TIERED_code : Addr) (o_TIERED_code_value : Addr) (o_COMPACT_STRINGS : Int32) (o_SIOOBE_FORMATTER : Value) (k_o__VALUES : ClassId) (k_o_CLASSIC_code_value : ClassId) (k_o_TIERED_code_value : ClassId) (vm0 : Vm) (h0 : Heap) (n0 : Nat) (Z0 : n0 ≤ h0.size) (O : Old Z n0 h0) (S_o__VALUES : Sta Z Z.heap "com/example/riskscan/riskscan/model/Profile" "$VALUES" "[Lcom/example/riskscan/riskscan/model/Profile;" (.ref o__VALUES)) (Ex_o__VALUES : Exa Z Z.heap o__VALUES "[Lcom/example/riskscan/riskscan/model/Profile;") (S_o_CLASSIC : Sta Z Z.heap "com/example/riskscan/riskscan/model/Profile" "CLASSIC" "Lcom/example/riskscan/riskscan/model/Profile;" (.ref o_CLASSIC)) (Ex_o_CLASSIC : Exa Z Z.heap o_CLASSIC "com/example/riskscan/riskscan/model/Profile") (S_o_TIERED : Sta Z Z.heap "com/example/riskscan/riskscan/model/Profile" "TIERED" "Lcom/example/riskscan/riskscan/model/Profile;" (.ref o_TIERED)) (Ex_o_TIERED : Exa Z Z.heap o_TIERED "com/example/riskscan/riskscan/model/Profile") (F_o_CLASSIC_code : Fld Z Z.heap o_CLASSIC "com/example/riskscan/riskscan/model/Profile" "code" "Ljava/lang/String;" (.ref o_CLASSIC_code)) (Ex_o_CLASSIC_code : Exa Z Z.heap o_CLASSIC_code "java/lang/String") (F_o_CLASSIC_code_coder : Fld Z Z.heap o_CLASSIC_code "java/lang/String" "coder" "B" (.int (0 : Int32))) (F_o_CLASSIC_code_value : Fld Z Z.heap o_CLASSIC_code "java/lang/String" "value" "[B" (.ref o_CLASSIC_code_value)) (F_o_TIERED_code : Fld Z Z.heap o_TIERED "com/example/riskscan/riskscan/model/Profile" "code" "Ljava/lang/String;" (.ref o_TIERED_code)) (Ex_o_TIERED_code : Exa Z Z.heap o_TIERED_code "java/lang/String") (F_o_TIERED_code_coder : Fld Z Z.heap o_TIERED_code "java/lang/String" "coder" "B" (.int (0 : Int32))) (F_o_TIERED_code_value : Fld Z Z.heap o_TIERED_code "java/lang/String" "value" "[B" (.ref o_TIERED_code_value)) (S_o_COMPACT_STRINGS : Sta Z Z.heap "java/lang/String" "COMPACT_STRINGS" "Z" (.int o_COMPACT_STRINGS)) (S_o_SIOOBE_FORMATTER : Sta Z Z.heap "jdk/internal/util/Preconditions" "SIOOBE_FORMATTER" "Ljava/util/function/BiFunction;" o_SIOOBE_FORMATTER) (V_o__VALUES : Arv Z Z.heap o__VALUES k_o__VALUES (.object "com/example/riskscan/riskscan/model/Profile") (2 : Int32) [(.ref o_CLASSIC), (.ref o_TIERED)] .null) (V_o_CLASSIC_code_value : Arv Z Z.heap o_CLASSIC_code_value k_o_CLASSIC_code_value .byte (7 : Int32) [(.int (99 : Int32)), (.int (108 : Int32)), (.int (97 : Int32)), (.int (115 : Int32)), (.int (115 : Int32)), (.int (105 : Int32)), (.int (99 : Int32))] (.int (0 : Int32))) (V_o_TIERED_code_value : Arv Z Z.heap o_TIERED_code_value k_o_TIERED_code_value .byte (6 : Int32) [(.int (116 : Int32)), (.int (105 : Int32)), (.int (101 : Int32)), (.int (114 : Int32)), (.int (101 : Int32)), (.int (100 : Int32))] (.int (0 : Int32))) (ne_o_CLASSIC_code_o_TIERED_code : ¬ (o_CLASSIC_code = o_TIERED_code)) (nz_o_COMPACT_STRINGS : ¬ (o_COMPACT_STRINGS = (0 : Int32))) (r_o_SIOOBE_FORMATTER : o_SIOOBE_FORMATTER.isRef = true) :
    MetFree l x (head1 (Jvm.Cond.code x code maxLocals ret :: ws) room_1) (fun a U => a = #[(.int p1), (.long p2), (.int p3)] ∧ Z.Warmed39 U.vm ∧ U.heap = h0 ∧ CHr Z own_EL vm0 h0 U.vm h0) (fun _ _ _ _ _ => True) (fun _ U o U' => ∃ v L, o = .returned v ∧ own_Q_own_law Z p1 p2 p3 o__VALUES o_CLASSIC o_TIERED o_CLASSIC_code o_CLASSIC_code_value o_TIERED_code o_TIERED_code_value o_COMPACT_STRINGS o_SIOOBE_FORMATTER k_o__VALUES k_o_CLASSIC_code_value k_o_TIERED_code_value h0 n0 v U'.heap L ∧ CHr Z own_EL U.vm U.heap U'.vm U'.heap ∧ ReturnedEndW U o U' L room_1.cells room_1.slots) := by
  refine MetFree.of_bodySF (plainFor_of_name own_pn_com_example_riskscan_riskscan_model_ProfileOfCodePinLaw) hisR ?_
  intro p e s m args below meth c s₁ Bd hml0 hP hK
  obtain ⟨rfl, hZ, hh, hCH⟩ := hP
  have hx := Bd.exec
  have hby := Bd.bytes
  have hml : c.maxLocals = 13 := hml0
  have hown : s.vm.findClass "com/example/riskscan/riskscan/model/ProfileOfCodePinLaw" = some m.cls := findClass_of_methodNamed Bd.named
  have hnm := (name_of_methodNamed Bd.named Bd.method).1
  have X0 : Stand p l e room_1 (s.setVm s.vm) m #[(.int p1), (.long p2), (.int p3)] below meth c s₁ [] 0 0 := Stand.of_body Bd
  have e0 : s₁.heap = h0 := by rw [← hh, Bd.state]; rfl
  have N0 := Fr.nil n0
  have hEL := own_EW Z a0 hw
  have wS := own_wS Z a0 hw
  have hS : s.Since s.vm 0 := (State.WarmedH.refl s).since 0
  have hk : 0 ≤ h0.size := Nat.zero_le _
  have Rc : CHr Z own_EL s.vm h0 s.vm h0 := CHr.refl hCH.1
  have Kp : Keep h0 h0 [] := Keep.refl h0 _
  show own_GoW p e below s Z (own_Q_own_law Z p1 p2 p3 o__VALUES o_CLASSIC o_TIERED o_CLASSIC_code o_CLASSIC_code_value o_TIERED_code o_TIERED_code_value o_COMPACT_STRINGS o_SIOOBE_FORMATTER k_o__VALUES k_o_CLASSIC_code_value k_o_TIERED_code_value h0 n0) room_1.cells room_1.slots (s₁.setTop (entryFrame m #[(.int p1), (.long p2), (.int p3)] maxLocals))
  refine own_goW (fun zt zk => castTop (own_ef_own_law m p1 p2 p3) zk) ?_
  show own_GoW p e below s _ _ _ _ (s₁.setTop (mkF m 0 #[iv p1, .val (.long p2), .second, iv p3, .unset, .unset, .unset, .unset, .unset, .unset, .unset, .unset, .unset] []))
  refine own_goW (fun zt zk => (XS.iloadN X0.here hx rfl (hb hby at_0) rfl (XS.iconst X0.here hx rfl (hb hby at_1) (XS.iand X0.here hx rfl (hb hby at_2) rfl (XS.istore X0.here hx rfl (hb hby at_3) rfl (l' := #[iv p1, .val (.long p2), .second, iv p3, iv (p1 &&& (3 : Int32)), .unset, .unset, .unset, .unset, .unset, .unset, .unset, .unset]) rfl zk))))) ?_
  show own_GoW p e below s _ _ _ _ (s₁.setTop (mkF m 5 #[iv p1, .val (.long p2), .second, iv p3, iv (p1 &&& (3 : Int32)), .unset, .unset, .unset, .unset, .unset, .unset, .unset, .unset] []))
  generalize hv_kd : (p1 &&& (3 : Int32)) = kd
  show own_GoW p e below s _ _ _ _ (s₁.setTop (mkF m 5 #[iv p1, .val (.long p2), .second, iv p3, iv kd, .unset, .unset, .unset, .unset, .unset, .unset, .unset, .unset] []))
  refine own_goW (fun zt zk => (XS.iloadN X0.here hx rfl (hb hby at_5) rfl (XS.iconst X0.here hx rfl (hb hby at_6) (XS.iushr X0.here hx rfl (hb hby at_7) rfl (XS.iconst X0.here hx rfl (hb hby at_8) (XS.iand X0.here hx rfl (hb hby at_9) rfl (XS.istore X0.here hx rfl (hb hby at_10) rfl (l' := #[iv p1, .val (.long p2), .second, iv p3, iv kd, iv (((p1.toUInt32 >>> ((2 : Int32) &&& 31).toUInt32).toInt32) &&& (3 : Int32)), .unset, .unset, .unset, .unset, .unset, .unset, .unset]) rfl zk))))))) ?_
  show own_GoW p e below s _ _ _ _ (s₁.setTop (mkF m 12 #[iv p1, .val (.long p2), .second, iv p3, iv kd, iv (((p1.toUInt32 >>> ((2 : Int32) &&& 31).toUInt32).toInt32) &&& (3 : Int32)), .unset, .unset, .unset, .unset, .unset, .unset, .unset] []))
  generalize hv_sh : (((p1.toUInt32 >>> ((2 : Int32) &&& 31).toUInt32).toInt32) &&& (3 : Int32)) = sh
  show own_GoW p e below s _ _ _ _ (s₁.setTop (mkF m 12 #[iv p1, .val (.long p2), .second, iv p3, iv kd, iv sh, .unset, .unset, .unset, .unset, .unset, .unset, .unset] []))
  refine own_goW (fun zt zk => (XS.iloadN X0.here hx rfl (hb hby at_12) rfl (XS.iconst X0.here hx rfl (hb hby at_13) (XS.iushr X0.here hx rfl (hb hby at_14) rfl (XS.bipush X0.here hx rfl (hb hby at_15) (XS.iand X0.here hx rfl (hb hby at_17) rfl (XS.istore X0.here hx rfl (hb hby at_18) rfl (l' := #[iv p1, .val (.long p2), .second, iv p3, iv kd, iv sh, iv (((p1.toUInt32 >>> ((4 : Int32) &&& 31).toUInt32).toInt32) &&& (15 : Int32)), .unset, .unset, .unset, .unset, .unset, .unset]) rfl zk))))))) ?_
  show own_GoW p e below s _ _ _ _ (s₁.setTop (mkF m 20 #[iv p1, .val (.long p2), .second, iv p3, iv kd, iv sh, iv (((p1.toUInt32 >>> ((4 : Int32) &&& 31).toUInt32).toInt32) &&& (15 : Int32)), .unset, .unset, .unset, .unset, .unset, .unset] []))
  generalize hv_ps : (((p1.toUInt32 >>> ((4 : Int32) &&& 31).toUInt32).toInt32) &&& (15 : Int32)) = ps
  have hps := own_and15 hv_ps
  show own_GoW p e below s _ _ _ _ (s₁.setTop (mkF m 20 #[iv p1, .val (.long p2), .second, iv p3, iv kd, iv sh, iv ps, .unset, .unset, .unset, .unset, .unset, .unset] []))
  refine own_goW (fun zt zk => (XS.iloadN X0.here hx rfl (hb hby at_20) rfl (XS.sipush X0.here hx rfl (hb hby at_21) (XS.iand X0.here hx rfl (hb hby at_24) rfl (XS.i2c X0.here hx rfl (hb hby at_25) rfl zk))))) ?_
  show own_GoW p e below s _ _ _ _ (s₁.setTop (mkF m 26 #[iv p1, .val (.long p2), .second, iv p3, iv kd, iv sh, iv ps, .unset, .unset, .unset, .unset, .unset, .unset] [(.int ((p3 &&& (255 : Int32)).toUInt32.toUInt16.toUInt32.toInt32))]))
  rw [i2c_mask]
  generalize hv_c1 : (p3 &&& (255 : Int32)) = c1
  have hr_c1 := own_r255 hv_c1
  show own_GoW p e below s _ _ _ _ (s₁.setTop (mkF m 26 #[iv p1, .val (.long p2), .second, iv p3, iv kd, iv sh, iv ps, .unset, .unset, .unset, .unset, .unset, .unset] [(.int c1)]))
  refine own_goW (fun zt zk => (XS.istore X0.here hx rfl (hb hby at_26) rfl (l' := #[iv p1, .val (.long p2), .second, iv p3, iv kd, iv sh, iv ps, iv c1, .unset, .unset, .unset, .unset, .unset]) rfl (XS.iloadN X0.here hx rfl (hb hby at_28) rfl (XS.bipush X0.here hx rfl (hb hby at_29) (XS.iushr X0.here hx rfl (hb hby at_31) rfl (XS.sipush X0.here hx rfl (hb hby at_32) (XS.iand X0.here hx rfl (hb hby at_35) rfl (XS.i2c X0.here hx rfl (hb hby at_36) rfl zk)))))))) ?_
  show own_GoW p e below s _ _ _ _ (s₁.setTop (mkF m 37 #[iv p1, .val (.long p2), .second, iv p3, iv kd, iv sh, iv ps, iv c1, .unset, .unset, .unset, .unset, .unset] [(.int ((((p3.toUInt32 >>> ((8 : Int32) &&& 31).toUInt32).toInt32) &&& (255 : Int32)).toUInt32.toUInt16.toUInt32.toInt32))]))
  rw [i2c_mask]
  generalize hv_c2 : (((p3.toUInt32 >>> ((8 : Int32) &&& 31).toUInt32).toInt32) &&& (255 : Int32)) = c2
  have hr_c2 := own_r255 hv_c2
  show own_GoW p e below s _ _ _ _ (s₁.setTop (mkF m 37 #[iv p1, .val (.long p2), .second, iv p3, iv kd, iv sh, iv ps, iv c1, .unset, .unset, .unset, .unset, .unset] [(.int c2)]))
  refine own_goW (fun zt zk => (XS.istore X0.here hx rfl (hb hby at_37) rfl (l' := #[iv p1, .val (.long p2), .second, iv p3, iv kd, iv sh, iv ps, iv c1, iv c2, .unset, .unset, .unset, .unset]) rfl (XS.aconstNull X0.here hx rfl (hb hby at_39) (XS.astore X0.here hx rfl (hb hby at_40) rfl rfl (l' := #[iv p1, .val (.long p2), .second, iv p3, iv kd, iv sh, iv ps, iv c1, iv c2, .val .null, .unset, .unset, .unset]) rfl (XS.iload X0.here hx rfl (hb hby at_42) rfl (XS.iconst X0.here hx rfl (hb hby at_44) zk)))))) ?_
  show own_GoW p e below s _ _ _ _ (s₁.setTop (mkF m 45 #[iv p1, .val (.long p2), .second, iv p3, iv kd, iv sh, iv ps, iv c1, iv c2, .val .null, .unset, .unset, .unset] [(.int (3 : Int32)), (.int kd)]))
  by_cases hkd : kd = (3 : Int32)
  · refine own_goW (fun zt zk => (XS.icmpYes X0.here hx rfl (pc0 := 45) (pc' := 86) rfl (hb hby at_45) rfl (teq (hkd : kd = (3 : Int32))).1 (by decide) (by decide) (XS.aload X0.here hx rfl (hb hby at_86) rfl rfl zk))) ?_
    show own_GoW p e below s _ _ _ _ (s₁.setTop (mkF m 88 #[iv p1, .val (.long p2), .second, iv p3, iv kd, iv sh, iv ps, iv c1, iv c2, .val .null, .unset, .unset, .unset] [.null]))
    obtain ⟨_, _, ⟨T3, L3, k3, n3⟩, -, X3, ⟨Lc3, hQ3, l3, y3, z3⟩, st3⟩ := Jvm.LawKit.callS X0 hx (y := (⟨"com/example/riskscan/riskscan/model/Profile", "ofCode", "(Ljava/lang/String;)Lcom/example/riskscan/riskscan/model/Profile;"⟩ : MethodName)) hown (mvT hZ (hw _ (List.mem_of_getElem? (i := 34) rfl))) (mvT hZ (hw _ (List.mem_of_getElem? (i := 35) rfl))) (mvT hZ (hw _ (List.mem_of_getElem? (i := 36) rfl))) (mvT hZ (hw _ (List.mem_of_getElem? (i := 37) rfl))) (by decide) (backOf (W := 0) (own_rofnull l Z a0 hw []  o_COMPACT_STRINGS o__VALUES k_o__VALUES o_CLASSIC o_CLASSIC_code o_CLASSIC_code_value k_o_CLASSIC_code_value o_TIERED o_TIERED_code o_TIERED_code_value k_o_TIERED_code_value h0 n0 Z0 O S_o_COMPACT_STRINGS S_o__VALUES V_o__VALUES Ex_o__VALUES Ex_o_CLASSIC F_o_CLASSIC_code Ex_o_CLASSIC_code F_o_CLASSIC_code_coder F_o_CLASSIC_code_value V_o_CLASSIC_code_value Ex_o_TIERED F_o_TIERED_code Ex_o_TIERED_code F_o_TIERED_code_coder F_o_TIERED_code_value V_o_TIERED_code_value nz_o_COMPACT_STRINGS) hZ (hw _ (List.mem_of_getElem? (i := 37) rfl)) (hw _ (List.mem_of_getElem? (i := 36) rfl)) (by decide) (by decide)) (g := (mkF m 88 #[iv p1, .val (.long p2), .second, iv p3, iv kd, iv sh, iv ps, iv c1, iv c2, .val .null, .unset, .unset, .unset] [.null])) rfl (by rw [hml]; rfl) (argsL := [.null]) (rest := []) (lenOf own_pd__Ljava_lang_String__Lcom_example_riskscan_riskscan_model_Profile_ rfl) rfl (by show 2 * 0 + _ ≤ _; exact Nat.le_of_eq rfl) (hb hby at_88) (fun _ _ => ⟨rfl, e0, (by decide : 0 + 1 ≤ _), (by decide : 0 + 2 ≤ _)⟩)
    dsimp only [Pt.U, Pt.locs, Pt.cells, Pt.slots] at X3 l3 y3 z3 st3 hQ3
    subst l3 y3 z3
    obtain ⟨rfl, Nq3, K3⟩ := hQ3
    have N3 := Fr.app N0 Nq3
    refine own_goW st3 ?_
    replace Rc := Rc.trans (CHr.keep K3 all0 Rc.1)
    replace hk := Nat.le_trans hk K3.1
    replace O := O.keep K3 all0
    replace Kp := Kp.trans K3 all0
    show own_GoW p e below s _ _ _ _ (T3.setTop (mkF m 91 #[iv p1, .val (.long p2), .second, iv p3, iv kd, iv sh, iv ps, iv c1, iv c2, .val .null, .unset, .unset, .unset] [.null]))
    refine own_goW (fun zt zk => (XS.astore X3.here hx rfl (hb hby at_91) rfl rfl (l' := #[iv p1, .val (.long p2), .second, iv p3, iv kd, iv sh, iv ps, iv c1, iv c2, .val .null, .val .null, .unset, .unset]) rfl (XS.aconstNull X3.here hx rfl (hb hby at_93) (XS.astore X3.here hx rfl (hb hby at_94) rfl rfl (l' := #[iv p1, .val (.long p2), .second, iv p3, iv kd, iv sh, iv ps, iv c1, iv c2, .val .null, .val .null, .val .null, .unset]) rfl (XS.aload X3.here hx rfl (hb hby at_96) rfl rfl (XS.ifnullYes X3.here hx rfl (pc0 := 98) (pc' := 134) rfl (hb hby at_98) rfl (by decide) (by decide) zk)))))) ?_
    show own_GoW p e below s _ _ _ _ (T3.setTop (mkF m 134 #[iv p1, .val (.long p2), .second, iv p3, iv kd, iv sh, iv ps, iv c1, iv c2, .val .null, .val .null, .val .null, .unset] []))
    obtain ⟨T4, X4, e4, st4⟩ := getS2 X3 hx hZ hown (host := "") (Or.inl (hw _ (List.mem_of_getElem? (i := 72) rfl))) Via.refl rfl (S_o_CLASSIC.ext O.2) (g := (mkF m 134 #[iv p1, .val (.long p2), .second, iv p3, iv kd, iv sh, iv ps, iv c1, iv c2, .val .null, .val .null, .val .null, .unset] [])) rfl (hb hby at_134)
    refine own_goW st4 ?_
    show own_GoW p e below s _ _ _ _ (T4.setTop (mkF m 137 #[iv p1, .val (.long p2), .second, iv p3, iv kd, iv sh, iv ps, iv c1, iv c2, .val .null, .val .null, .val .null, .unset] [(.ref o_CLASSIC)]))
    obtain ⟨cq5, kq5, qa5, qb5, qc5⟩ := isOf hZ e4 (Ex_o_CLASSIC.ext O.2)
    obtain ⟨_, _, ⟨T5, L5, k5, n5⟩, -, X5, ⟨Lc5, hQ5, l5, y5, z5⟩, st5⟩ := X4.virtualBack hx (y := (⟨"com/example/riskscan/riskscan/model/Profile", "code", "()Ljava/lang/String;"⟩ : MethodName)) (z := (⟨"com/example/riskscan/riskscan/model/Profile", "code", "()Ljava/lang/String;"⟩ : MethodName)) hown (mvT hZ (hw _ (List.mem_of_getElem? (i := 73) rfl))) (mvT hZ (hw _ (List.mem_of_getElem? (i := 74) rfl))) (notFace_of_selects (args := #[]) (mvT hZ (hw _ (List.mem_of_getElem? (i := 76) rfl)))) (mvT hZ (hw _ (List.mem_of_getElem? (i := 76) rfl))) (mvT hZ (hw _ (List.mem_of_getElem? (i := 75) rfl))) (by decide) (backOf (W := 0) (own_gcode l Z a0 hw [] o_CLASSIC o_CLASSIC_code T3.heap n0 (Nat.le_trans Z0 Kp.1) (F_o_CLASSIC_code.ext O.2)) hZ (hw _ (List.mem_of_getElem? (i := 77) rfl)) (hw _ (List.mem_of_getElem? (i := 36) rfl)) (by decide) (by decide)) qa5 qc5 (g := (mkF m 137 #[iv p1, .val (.long p2), .second, iv p3, iv kd, iv sh, iv ps, iv c1, iv c2, .val .null, .val .null, .val .null, .unset] [(.ref o_CLASSIC)])) rfl (by rw [hml]; rfl) (Steps.refl _) (argsL := []) (rest := []) (lenOf own_pd___Ljava_lang_String_ rfl) rfl (by show 2 * 0 + _ ≤ _; exact Nat.le_of_eq rfl) (hb hby at_137) (fun _ _ => ⟨rfl, e4, (by decide : 1 + 0 ≤ _), (by decide : 2 + 0 ≤ _)⟩)
    dsimp only [Pt.U, Pt.locs, Pt.cells, Pt.slots] at X5 l5 y5 z5 st5 hQ5
    subst l5 y5 z5
    obtain ⟨rfl, Nq5, e5⟩ := hQ5
    have N5 := Fr.app N3 Nq5
    refine own_goW (fun zt zk => st5.trans zk) ?_
    show own_GoW p e below s _ _ _ _ (T5.setTop (mkF m 140 #[iv p1, .val (.long p2), .second, iv p3, iv kd, iv sh, iv ps, iv c1, iv c2, .val .null, .val .null, .val .null, .unset] [(.ref o_CLASSIC_code)]))
    obtain ⟨_, _, ⟨T6, L6, k6, n6⟩, -, X6, ⟨Lc6, hQ6, l6, y6, z6⟩, st6⟩ := Jvm.LawKit.callS X5 hx (y := (⟨"com/example/riskscan/riskscan/model/Profile", "ofCode", "(Ljava/lang/String;)Lcom/example/riskscan/riskscan/model/Profile;"⟩ : MethodName)) hown (mvT hZ (hw _ (List.mem_of_getElem? (i := 34) rfl))) (mvT hZ (hw _ (List.mem_of_getElem? (i := 35) rfl))) (mvT hZ (hw _ (List.mem_of_getElem? (i := 36) rfl))) (mvT hZ (hw _ (List.mem_of_getElem? (i := 37) rfl))) (by decide) (backOf (W := 0) (own_rof0 l Z a0 hw [] o_CLASSIC_code o_CLASSIC_code_value k_o_CLASSIC_code_value (7 : Int32) [(99 : Int32), (108 : Int32), (97 : Int32), (115 : Int32), (115 : Int32), (105 : Int32), (99 : Int32)] o_COMPACT_STRINGS o__VALUES k_o__VALUES o_CLASSIC o_CLASSIC_code o_CLASSIC_code_value k_o_CLASSIC_code_value o_TIERED o_TIERED_code o_TIERED_code_value k_o_TIERED_code_value T3.heap n0 (Nat.le_trans Z0 Kp.1) O S_o_COMPACT_STRINGS S_o__VALUES V_o__VALUES Ex_o__VALUES Ex_o_CLASSIC F_o_CLASSIC_code Ex_o_CLASSIC_code F_o_CLASSIC_code_coder F_o_CLASSIC_code_value V_o_CLASSIC_code_value Ex_o_TIERED F_o_TIERED_code Ex_o_TIERED_code F_o_TIERED_code_coder F_o_TIERED_code_value V_o_TIERED_code_value (Ex_o_CLASSIC_code.ext O.2) (F_o_CLASSIC_code_value.ext O.2) (F_o_CLASSIC_code_coder.ext O.2) (V_o_CLASSIC_code_value.ext O.2) nz_o_COMPACT_STRINGS rfl rfl) hZ (hw _ (List.mem_of_getElem? (i := 37) rfl)) (hw _ (List.mem_of_getElem? (i := 36) rfl)) (by decide) (by decide)) (g := (mkF m 140 #[iv p1, .val (.long p2), .second, iv p3, iv kd, iv sh, iv ps, iv c1, iv c2, .val .null, .val .null, .val .null, .unset] [(.ref o_CLASSIC_code)])) rfl (by rw [hml]; rfl) (argsL := [(.ref o_CLASSIC_code)]) (rest := []) (lenOf own_pd__Ljava_lang_String__Lcom_example_riskscan_riskscan_model_Profile_ rfl) rfl (by show 2 * 0 + _ ≤ _; exact Nat.le_of_eq rfl) (hb hby at_140) (fun _ _ => ⟨rfl, e5, (by decide : 1 + 1 ≤ _), (by decide : 2 + 2 ≤ _)⟩)
    dsimp only [Pt.U, Pt.locs, Pt.cells, Pt.slots] at X6 l6 y6 z6 st6 hQ6
    subst l6 y6 z6
    obtain ⟨rfl, Nq6, K6⟩ := hQ6
    have N6 := Fr.app N5 Nq6
    refine own_goW st6 ?_
    replace Rc := Rc.trans (CHr.keep K6 all0 Rc.1)
    replace hk := Nat.le_trans hk K6.1
    replace O := O.keep K6 all0
    replace Kp := Kp.trans K6 all0
    show own_GoW p e below s _ _ _ _ (T6.setTop (mkF m 143 #[iv p1, .val (.long p2), .second, iv p3, iv kd, iv sh, iv ps, iv c1, iv c2, .val .null, .val .null, .val .null, .unset] [(.ref o_CLASSIC)]))
    obtain ⟨T7, X7, e7, st7⟩ := getS2 X6 hx hZ hown (host := "") (Or.inl (hw _ (List.mem_of_getElem? (i := 72) rfl))) Via.refl rfl (S_o_CLASSIC.ext O.2) (g := (mkF m 143 #[iv p1, .val (.long p2), .second, iv p3, iv kd, iv sh, iv ps, iv c1, iv c2, .val .null, .val .null, .val .null, .unset] [(.ref o_CLASSIC)])) rfl (hb hby at_143)
    refine own_goW st7 ?_
    show own_GoW p e below s _ _ _ _ (T7.setTop (mkF m 146 #[iv p1, .val (.long p2), .second, iv p3, iv kd, iv sh, iv ps, iv c1, iv c2, .val .null, .val .null, .val .null, .unset] [(.ref o_CLASSIC), (.ref o_CLASSIC)]))
    refine own_goW (fun zt zk => Jvm.RoadKit.acmp (g := (mkF m 146 #[iv p1, .val (.long p2), .second, iv p3, iv kd, iv sh, iv ps, iv c1, iv c2, .val .null, .val .null, .val .null, .unset] [(.ref o_CLASSIC), (.ref o_CLASSIC)])) X7 hx rfl rfl rfl (pc0 := 146) (pc' := 149) (same := true) rfl (hb hby at_146) rfl (decide_eq_true rfl) (by decide) (by decide) zk) ?_
    show own_GoW p e below s _ _ _ _ (T7.setTop (mkF m 149 #[iv p1, .val (.long p2), .second, iv p3, iv kd, iv sh, iv ps, iv c1, iv c2, .val .null, .val .null, .val .null, .unset] []))
    obtain ⟨T8, X8, e8, st8⟩ := getS2 X7 hx hZ hown (host := "") (Or.inl (hw _ (List.mem_of_getElem? (i := 78) rfl))) Via.refl e7 (S_o_TIERED.ext O.2) (g := (mkF m 149 #[iv p1, .val (.long p2), .second, iv p3, iv kd, iv sh, iv ps, iv c1, iv c2, .val .null, .val .null, .val .null, .unset] [])) rfl (hb hby at_149)
    refine own_goW st8 ?_
    show own_GoW p e below s _ _ _ _ (T8.setTop (mkF m 152 #[iv p1, .val (.long p2), .second, iv p3, iv kd, iv sh, iv ps, iv c1, iv c2, .val .null, .val .null, .val .null, .unset] [(.ref o_TIERED)]))
    obtain ⟨cq9, kq9, qa9, qb9, qc9⟩ := isOf hZ e8 (Ex_o_TIERED.ext O.2)
    obtain ⟨_, _, ⟨T9, L9, k9, n9⟩, -, X9, ⟨Lc9, hQ9, l9, y9, z9⟩, st9⟩ := X8.virtualBack hx (y := (⟨"com/example/riskscan/riskscan/model/Profile", "code", "()Ljava/lang/String;"⟩ : MethodName)) (z := (⟨"com/example/riskscan/riskscan/model/Profile", "code", "()Ljava/lang/String;"⟩ : MethodName)) hown (mvT hZ (hw _ (List.mem_of_getElem? (i := 73) rfl))) (mvT hZ (hw _ (List.mem_of_getElem? (i := 74) rfl))) (notFace_of_selects (args := #[]) (mvT hZ (hw _ (List.mem_of_getElem? (i := 76) rfl)))) (mvT hZ (hw _ (List.mem_of_getElem? (i := 76) rfl))) (mvT hZ (hw _ (List.mem_of_getElem? (i := 75) rfl))) (by decide) (backOf (W := 0) (own_gcode l Z a0 hw [] o_TIERED o_TIERED_code T6.heap n0 (Nat.le_trans Z0 Kp.1) (F_o_TIERED_code.ext O.2)) hZ (hw _ (List.mem_of_getElem? (i := 77) rfl)) (hw _ (List.mem_of_getElem? (i := 36) rfl)) (by decide) (by decide)) qa9 qc9 (g := (mkF m 152 #[iv p1, .val (.long p2), .second, iv p3, iv kd, iv sh, iv ps, iv c1, iv c2, .val .null, .val .null, .val .null, .unset] [(.ref o_TIERED)])) rfl (by rw [hml]; rfl) (Steps.refl _) (argsL := []) (rest := []) (lenOf own_pd___Ljava_lang_String_ rfl) rfl (by show 2 * 0 + _ ≤ _; exact Nat.le_of_eq rfl) (hb hby at_152) (fun _ _ => ⟨rfl, e8, (by decide : 2 + 0 ≤ _), (by decide : 4 + 0 ≤ _)⟩)
    dsimp only [Pt.U, Pt.locs, Pt.cells, Pt.slots] at X9 l9 y9 z9 st9 hQ9
    subst l9 y9 z9
    obtain ⟨rfl, Nq9, e9⟩ := hQ9
    have N9 := Fr.app N6 Nq9
    refine own_goW (fun zt zk => st9.trans zk) ?_
    show own_GoW p e below s _ _ _ _ (T9.setTop (mkF m 155 #[iv p1, .val (.long p2), .second, iv p3, iv kd, iv sh, iv ps, iv c1, iv c2, .val .null, .val .null, .val .null, .unset] [(.ref o_TIERED_code)]))
    obtain ⟨_, _, ⟨T10, L10, k10, n10⟩, -, X10, ⟨Lc10, hQ10, l10, y10, z10⟩, st10⟩ := Jvm.LawKit.callS X9 hx (y := (⟨"com/example/riskscan/riskscan/model/Profile", "ofCode", "(Ljava/lang/String;)Lcom/example/riskscan/riskscan/model/Profile;"⟩ : MethodName)) hown (mvT hZ (hw _ (List.mem_of_getElem? (i := 34) rfl))) (mvT hZ (hw _ (List.mem_of_getElem? (i := 35) rfl))) (mvT hZ (hw _ (List.mem_of_getElem? (i := 36) rfl))) (mvT hZ (hw _ (List.mem_of_getElem? (i := 37) rfl))) (by decide) (backOf (W := 0) (own_rof1 l Z a0 hw [] o_TIERED_code o_TIERED_code_value k_o_TIERED_code_value (6 : Int32) [(116 : Int32), (105 : Int32), (101 : Int32), (114 : Int32), (101 : Int32), (100 : Int32)] o_COMPACT_STRINGS o__VALUES k_o__VALUES o_CLASSIC o_CLASSIC_code o_CLASSIC_code_value k_o_CLASSIC_code_value o_TIERED o_TIERED_code o_TIERED_code_value k_o_TIERED_code_value T6.heap n0 (Nat.le_trans Z0 Kp.1) O S_o_COMPACT_STRINGS S_o__VALUES V_o__VALUES Ex_o__VALUES Ex_o_CLASSIC F_o_CLASSIC_code Ex_o_CLASSIC_code F_o_CLASSIC_code_coder F_o_CLASSIC_code_value V_o_CLASSIC_code_value Ex_o_TIERED F_o_TIERED_code Ex_o_TIERED_code F_o_TIERED_code_coder F_o_TIERED_code_value V_o_TIERED_code_value (Ex_o_TIERED_code.ext O.2) (F_o_TIERED_code_value.ext O.2) (F_o_TIERED_code_coder.ext O.2) (V_o_TIERED_code_value.ext O.2) nz_o_COMPACT_STRINGS rfl (by decide) rfl) hZ (hw _ (List.mem_of_getElem? (i := 37) rfl)) (hw _ (List.mem_of_getElem? (i := 36) rfl)) (by decide) (by decide)) (g := (mkF m 155 #[iv p1, .val (.long p2), .second, iv p3, iv kd, iv sh, iv ps, iv c1, iv c2, .val .null, .val .null, .val .null, .unset] [(.ref o_TIERED_code)])) rfl (by rw [hml]; rfl) (argsL := [(.ref o_TIERED_code)]) (rest := []) (lenOf own_pd__Ljava_lang_String__Lcom_example_riskscan_riskscan_model_Profile_ rfl) rfl (by show 2 * 0 + _ ≤ _; exact Nat.le_of_eq rfl) (hb hby at_155) (fun _ _ => ⟨rfl, e9, (by decide : 2 + 1 ≤ _), (by decide : 4 + 2 ≤ _)⟩)
    dsimp only [Pt.U, Pt.locs, Pt.cells, Pt.slots] at X10 l10 y10 z10 st10 hQ10
    subst l10 y10 z10
    obtain ⟨rfl, Nq10, K10⟩ := hQ10
    have N10 := Fr.app N9 Nq10
    refine own_goW st10 ?_
    replace Rc := Rc.trans (CHr.keep K10 all0 Rc.1)
    replace hk := Nat.le_trans hk K10.1
    replace O := O.keep K10 all0
    replace Kp := Kp.trans K10 all0
    show own_GoW p e below s _ _ _ _ (T10.setTop (mkF m 158 #[iv p1, .val (.long p2), .second, iv p3, iv kd, iv sh, iv ps, iv c1, iv c2, .val .null, .val .null, .val .null, .unset] [(.ref o_TIERED)]))
    obtain ⟨T11, X11, e11, st11⟩ := getS2 X10 hx hZ hown (host := "") (Or.inl (hw _ (List.mem_of_getElem? (i := 78) rfl))) Via.refl rfl (S_o_TIERED.ext O.2) (g := (mkF m 158 #[iv p1, .val (.long p2), .second, iv p3, iv kd, iv sh, iv ps, iv c1, iv c2, .val .null, .val .null, .val .null, .unset] [(.ref o_TIERED)])) rfl (hb hby at_158)
    refine own_goW st11 ?_
    show own_GoW p e below s _ _ _ _ (T11.setTop (mkF m 161 #[iv p1, .val (.long p2), .second, iv p3, iv kd, iv sh, iv ps, iv c1, iv c2, .val .null, .val .null, .val .null, .unset] [(.ref o_TIERED), (.ref o_TIERED)]))
    refine own_goW (fun zt zk => Jvm.RoadKit.acmp (g := (mkF m 161 #[iv p1, .val (.long p2), .second, iv p3, iv kd, iv sh, iv ps, iv c1, iv c2, .val .null, .val .null, .val .null, .unset] [(.ref o_TIERED), (.ref o_TIERED)])) X11 hx rfl rfl rfl (pc0 := 161) (pc' := 164) (same := true) rfl (hb hby at_161) rfl (decide_eq_true rfl) (by decide) (by decide) zk) ?_
    show own_GoW p e below s _ _ _ _ (T11.setTop (mkF m 164 #[iv p1, .val (.long p2), .second, iv p3, iv kd, iv sh, iv ps, iv c1, iv c2, .val .null, .val .null, .val .null, .unset] []))
    refine own_goW (fun zt zk => (XS.iconst X11.here hx rfl (hb hby at_164) (XS.goto X11.here hx rfl (pc0 := 165) (pc' := 169) rfl (hb hby at_165) (by decide) (by decide) (XS.istore X11.here hx rfl (hb hby at_169) rfl (l' := #[iv p1, .val (.long p2), .second, iv p3, iv kd, iv sh, iv ps, iv c1, iv c2, .val .null, .val .null, .val .null, iv (1 : Int32)]) rfl (XS.aload X11.here hx rfl (hb hby at_171) rfl rfl (XS.aload X11.here hx rfl (hb hby at_173) rfl rfl zk)))))) ?_
    show own_GoW p e below s _ _ _ _ (T11.setTop (mkF m 175 #[iv p1, .val (.long p2), .second, iv p3, iv kd, iv sh, iv ps, iv c1, iv c2, .val .null, .val .null, .val .null, iv (1 : Int32)] [.null, .null]))
    refine own_goW (fun zt zk => Jvm.RoadKit.acmp (g := (mkF m 175 #[iv p1, .val (.long p2), .second, iv p3, iv kd, iv sh, iv ps, iv c1, iv c2, .val .null, .val .null, .val .null, iv (1 : Int32)] [.null, .null])) X11 hx rfl rfl rfl (pc0 := 175) (pc' := 178) (same := true) rfl (hb hby at_175) rfl (decide_eq_true rfl) (by decide) (by decide) zk) ?_
    show own_GoW p e below s _ _ _ _ (T11.setTop (mkF m 178 #[iv p1, .val (.long p2), .second, iv p3, iv kd, iv sh, iv ps, iv c1, iv c2, .val .null, .val .null, .val .null, iv (1 : Int32)] []))
    refine own_goW (fun zt zk => (XS.iload X11.here hx rfl (hb hby at_178) rfl (XS.ifNo X11.here hx rfl (hb hby at_180) rfl ((if0 _ _).trans (feq ((by decide) : ¬ ((1 : Int32) = (0 : Int32)))).1) (XS.iconst X11.here hx rfl (hb hby at_183) (XS.goto X11.here hx rfl (pc0 := 184) (pc' := 188) rfl (hb hby at_184) (by decide) (by decide) zk))))) ?_
    show own_GoW p e below s _ _ _ _ (T11.setTop (mkF m 188 #[iv p1, .val (.long p2), .second, iv p3, iv kd, iv sh, iv ps, iv c1, iv c2, .val .null, .val .null, .val .null, iv (1 : Int32)] [(.int (1 : Int32))]))
    have Re := Rc.trans (CHv.at X11 hZ hEL Rc.1)
    exact own_finW X11 hS (by rw [e11]; exact hk) (by rw [e11, hh]; exact Re) Bd.notSynchronized (fun h => by rw [Bd.returns] at h; cases h) (fun fs hr => retN X11 hx (t := .boolean) Bd.returns (by simp) (hb hby at_188) hr) (by rw [e11]; exact ⟨rfl, N10⟩) (by decide) (by decide)
  · refine own_goW (fun zt zk => (XS.icmpNo X0.here hx rfl (hb hby at_45) rfl (feq (hkd : ¬ (kd = (3 : Int32)))).1 (XS.iload X0.here hx rfl (hb hby at_48) rfl (XS.iload X0.here hx rfl (hb hby at_50) rfl (XS.iload X0.here hx rfl (hb hby at_52) rfl (XS.lloadN X0.here hx rfl (hb hby at_54) rfl zk)))))) ?_
    show own_GoW p e below s _ _ _ _ (s₁.setTop (mkF m 55 #[iv p1, .val (.long p2), .second, iv p3, iv kd, iv sh, iv ps, iv c1, iv c2, .val .null, .unset, .unset, .unset] [(.long p2), (.int c1), (.int sh), (.int kd)]))
    obtain ⟨_, _, ⟨T12, L12, k12, n12⟩, -, X12, ⟨Lc12, hQ12, l12, y12, z12⟩, st12⟩ := Jvm.LawKit.callS X0 hx (y := (⟨"com/example/riskscan/riskscan/model/ProfileOfCodePinLaw", "make", "(IICJ)[C"⟩ : MethodName)) hown (mvT hZ (hw _ (List.mem_of_getElem? (i := 0) rfl))) (mvT hZ (hw _ (List.mem_of_getElem? (i := 1) rfl))) (mvT hZ (hw _ (List.mem_of_getElem? (i := 2) rfl))) (mvT hZ (hw _ (List.mem_of_getElem? (i := 3) rfl))) (by decide) (backOf (W := 0) (own_rmake l Z a0 hw [] kd sh c1 p2  h0 n0 Z0 hr_c1) hZ (hw _ (List.mem_of_getElem? (i := 3) rfl)) (hw _ (List.mem_of_getElem? (i := 2) rfl)) (by decide) (by decide)) (g := (mkF m 55 #[iv p1, .val (.long p2), .second, iv p3, iv kd, iv sh, iv ps, iv c1, iv c2, .val .null, .unset, .unset, .unset] [(.long p2), (.int c1), (.int sh), (.int kd)])) rfl (by rw [hml]; rfl) (argsL := [(.int kd), (.int sh), (.int c1), (.long p2)]) (rest := []) (lenOf own_pd__IICJ__C rfl) rfl (by show 2 * 0 + _ ≤ _; exact Nat.le_of_eq rfl) (hb hby at_55) (fun _ _ => ⟨rfl, e0, (by decide : 0 + 1 ≤ _), (by decide : 0 + 8 ≤ _)⟩)
    dsimp only [Pt.U, Pt.locs, Pt.cells, Pt.slots] at X12 l12 y12 z12 st12 hQ12
    subst l12 y12 z12
    obtain ⟨b12, kc12, cs12, rfl, Nq12, K12, sb12, hlen12, V_b12, hcr12⟩ := hQ12
    have sz_b12 : h0.size ≤ b12 := Nat.le_trans Kp.1 sb12
    have g_b12 : n0 ≤ b12 := Nat.le_trans Z0 sz_b12
    have N12 := Fr.app N0 Nq12
    refine own_goW st12 ?_
    replace Rc := Rc.trans (CHr.keep K12 all0 Rc.1)
    replace hk := Nat.le_trans hk K12.1
    replace O := O.keep K12 all0
    replace Kp := Kp.trans K12 all0
    show own_GoW p e below s _ _ _ _ (T12.setTop (mkF m 58 #[iv p1, .val (.long p2), .second, iv p3, iv kd, iv sh, iv ps, iv c1, iv c2, .val .null, .unset, .unset, .unset] [(.ref b12)]))
    refine own_goW (fun zt zk => (XS.astore X12.here hx rfl (hb hby at_58) rfl rfl (l' := #[iv p1, .val (.long p2), .second, iv p3, iv kd, iv sh, iv ps, iv c1, iv c2, .val .null, rv b12, .unset, .unset]) rfl (XS.iload X12.here hx rfl (hb hby at_60) rfl (XS.aload X12.here hx rfl (hb hby at_62) rfl rfl zk)))) ?_
    show own_GoW p e below s _ _ _ _ (T12.setTop (mkF m 64 #[iv p1, .val (.long p2), .second, iv p3, iv kd, iv sh, iv ps, iv c1, iv c2, .val .null, rv b12, .unset, .unset] [(.ref b12), (.int ps)]))
    obtain ⟨cl13, Ar13, -, Sz13, Nz13, -, -⟩ := id V_b12
    refine own_goW (X12.arraylength hx (by exact Ar13.1) (State.isArrayOf_alike hZ.alike Ar13.2.1) (g := (mkF m 64 #[iv p1, .val (.long p2), .second, iv p3, iv kd, iv sh, iv ps, iv c1, iv c2, .val .null, rv b12, .unset, .unset] [(.ref b12), (.int ps)])) rfl rfl (hb hby at_64)) ?_
    rw [len_of Sz13 Nz13]
    show own_GoW p e below s _ _ _ _ (T12.setTop (mkF m 65 #[iv p1, .val (.long p2), .second, iv p3, iv kd, iv sh, iv ps, iv c1, iv c2, .val .null, rv b12, .unset, .unset] [(.int (Int32.ofNat cs12.length)), (.int ps)]))
    by_cases hpos : ps < (Int32.ofNat cs12.length)
    · refine own_goW (fun zt zk => (XS.icmpNo X12.here hx rfl (hb hby at_65) rfl (tlt (hpos : ps < (Int32.ofNat cs12.length))).2.1 (XS.aload X12.here hx rfl (hb hby at_68) rfl rfl (XS.iload X12.here hx rfl (hb hby at_70) rfl (XS.iload X12.here hx rfl (hb hby at_72) rfl zk))))) ?_
      show own_GoW p e below s _ _ _ _ (T12.setTop (mkF m 74 #[iv p1, .val (.long p2), .second, iv p3, iv kd, iv sh, iv ps, iv c1, iv c2, .val .null, rv b12, .unset, .unset] [(.int c2), (.int ps), (.ref b12)]))
      obtain ⟨cl14, Ar14, qq14, Sz14, Nz14, Ha14, Ga14⟩ := id V_b12
      have hin14 : ¬ (ps < 0 ∨ cl14.slots.size ≤ (ps).toNatClampNeg) := inb_of Sz14 ⟨hps, hpos⟩
      have hpl := own_poslt hlen12 hps hpos
      obtain ⟨T15, h15, X15, e15, W15, st15⟩ := stC X12 hx hZ rfl Ar14 (j := ps) hin14 (g := (mkF m 74 #[iv p1, .val (.long p2), .second, iv p3, iv kd, iv sh, iv ps, iv c1, iv c2, .val .null, rv b12, .unset, .unset] [(.int c2), (.int ps), (.ref b12)])) rfl rfl (hb hby at_74)
      refine own_goW st15 ?_
      rw [show nar .char c2 = c2 from own_narc hr_c2] at W15
      have V15 := Arv.set Ar14 qq14 Sz14 Nz14 Ha14 Ga14 (own_fitc hr_c2) W15 (ps.toNatClampNeg) rfl (by rw [List.length_map]; exact hpl)
      have N15 := Fr.snoc X15 N12 g_b12
      replace Rc := Rc.trans (CHr.wr W15 (own_safe_arv hZ.alike V_b12 (by decide)) Rc.1)
      replace hk := Nat.le_trans hk (Keep.of_wr W15).1
      replace O := O.wr W15 g_b12
      replace Kp := Kp.wr W15 (Or.inr sz_b12)
      obtain ⟨ds, hds⟩ : ∃ z, z = cs12.set ps.toNatClampNeg c2 := ⟨_, rfl⟩
      replace V_b12 : Arv Z h15 b12 kc12 .char (Int32.ofNat ds.length) (ds.map Value.int) (.int (0 : Int32)) := by rw [hds, List.length_set, List.map_set]; exact V15
      have hdl : ds.length ≤ 8 := by rw [hds, List.length_set]; exact hlen12
      have hdr : ∀ c ∈ ds, ¬ (c < (0 : Int32)) ∧ ¬ ((255 : Int32) < c) := by rw [hds]; exact own_set_rng hcr12 hr_c2
      show own_GoW p e below s _ _ _ _ (T15.setTop (mkF m 75 #[iv p1, .val (.long p2), .second, iv p3, iv kd, iv sh, iv ps, iv c1, iv c2, .val .null, rv b12, .unset, .unset] []))
      obtain ⟨T16, h16, X16, e16, E16, A16, D16, -, st16⟩ := newO X15 hx hZ hown (hw _ (List.mem_of_getElem? (i := 5) rfl)) (hw _ (List.mem_of_getElem? (i := 6) rfl)) (hw _ (List.mem_of_getElem? (i := 7) rfl)) e15 (g := (mkF m 75 #[iv p1, .val (.long p2), .second, iv p3, iv kd, iv sh, iv ps, iv c1, iv c2, .val .null, rv b12, .unset, .unset] [])) rfl (hb hby at_75) (by decide) (by decide)
      obtain ⟨b16, g16⟩ : ∃ z, z = h15.size := ⟨_, rfl⟩
      rw [← g16] at A16 D16 st16
      refine own_goW st16 ?_
      have ne_o__VALUES_b16 : o__VALUES ≠ b16 := Nat.ne_of_lt (Nat.lt_of_lt_of_le (Ex_o__VALUES.ext O.2).lt (Nat.le_of_eq g16.symm))
      have ne_o_CLASSIC_b16 : o_CLASSIC ≠ b16 := Nat.ne_of_lt (Nat.lt_of_lt_of_le (Ex_o_CLASSIC.ext O.2).lt (Nat.le_of_eq g16.symm))
      have ne_o_TIERED_b16 : o_TIERED ≠ b16 := Nat.ne_of_lt (Nat.lt_of_lt_of_le (Ex_o_TIERED.ext O.2).lt (Nat.le_of_eq g16.symm))
      have ne_o_CLASSIC_code_b16 : o_CLASSIC_code ≠ b16 := Nat.ne_of_lt (Nat.lt_of_lt_of_le (Ex_o_CLASSIC_code.ext O.2).lt (Nat.le_of_eq g16.symm))
      have ne_o_TIERED_code_b16 : o_TIERED_code ≠ b16 := Nat.ne_of_lt (Nat.lt_of_lt_of_le (Ex_o_TIERED_code.ext O.2).lt (Nat.le_of_eq g16.symm))
      have ne_o_CLASSIC_code_value_b16 : o_CLASSIC_code_value ≠ b16 := Nat.ne_of_lt (Nat.lt_of_lt_of_le (V_o_CLASSIC_code_value.ext O.2).lt (Nat.le_of_eq g16.symm))
      have ne_o_TIERED_code_value_b16 : o_TIERED_code_value ≠ b16 := Nat.ne_of_lt (Nat.lt_of_lt_of_le (V_o_TIERED_code_value.ext O.2).lt (Nat.le_of_eq g16.symm))
      have ne_b12_b16 : b12 ≠ b16 := Nat.ne_of_lt (Nat.lt_of_lt_of_le V_b12.lt (Nat.le_of_eq g16.symm))
      have sz_b16 : h0.size ≤ b16 := Nat.le_trans Kp.1 (Nat.le_of_eq g16.symm)
      have g_b16 : n0 ≤ b16 := Nat.le_trans Z0 sz_b16
      have Sf_b16 : Safe Z own_EL s.vm h15 b16 := Safe.new (Nat.le_of_eq g16.symm)
      replace O := O.ext E16
      replace Kp := Kp.ext E16
      replace V_b12 := V_b12.ext E16
      replace Sf_b16 := Safe.ext E16 Rc.1 Sf_b16
      replace Rc := Rc.trans (CHr.ext E16 Rc.1)
      replace hk := Nat.le_trans hk E16.1
      have Ex_b16 := A16
      have F_coder_b16 : Fld Z h16 b16 "java/lang/String" "coder" "B" (.int (0 : Int32)) := D16 (Or.inr (hw _ (List.mem_of_getElem? (i := 31) rfl))) (ty := .byte) (by decide)
      have F_value_b16 : Fld Z h16 b16 "java/lang/String" "value" "[B" .null := D16 (Or.inr (hw _ (List.mem_of_getElem? (i := 33) rfl))) (ty := (.array .byte)) (by decide)
      show own_GoW p e below s _ _ _ _ (T16.setTop (mkF m 78 #[iv p1, .val (.long p2), .second, iv p3, iv kd, iv sh, iv ps, iv c1, iv c2, .val .null, rv b12, .unset, .unset] [(.ref b16)]))
      refine own_goW (fun zt zk => (XS.dup X16.here hx rfl (hb hby at_78) rfl rfl (XS.aload X16.here hx rfl (hb hby at_79) rfl rfl zk))) ?_
      show own_GoW p e below s _ _ _ _ (T16.setTop (mkF m 81 #[iv p1, .val (.long p2), .second, iv p3, iv kd, iv sh, iv ps, iv c1, iv c2, .val .null, rv b12, .unset, .unset] [(.ref b12), (.ref b16), (.ref b16)]))
      by_cases hz : ds.length = 0
      · have hnil := List.eq_nil_of_length_eq_zero hz
        subst hnil
        replace V_b12 : Arv Z h16 b12 kc12 .char (0 : Int32) [] (.int (0 : Int32)) := V_b12
        show own_GoW p e below s _ _ _ _ (T16.setTop (mkF m 81 #[iv p1, .val (.long p2), .second, iv p3, iv kd, iv sh, iv ps, iv c1, iv c2, .val .null, rv b12, .unset, .unset] [(.ref b12), (.ref b16), (.ref b16)]))
        obtain ⟨_, _, ⟨T17, L17, k17, n17⟩, -, X17, hSq17, hgq17, ⟨Lc17, hQ17, l17, y17, z17, A17⟩, st17⟩ := X16.specialBackS hx (y := (⟨"java/lang/String", "<init>", "([C)V"⟩ : MethodName)) rfl hown (mvT hZ (hw _ (List.mem_of_getElem? (i := 8) rfl))) (mvT hZ (hw _ (List.mem_of_getElem? (i := 9) rfl))) (mvT hZ (hw _ (List.mem_of_getElem? (i := 10) rfl))) (by decide) (own_backW (s := s) (W := 1) (own_rn1e l Z a0 hw [] b16 b12 kc12 s.vm h16 n0 (Nat.le_trans Z0 Kp.1) Ex_b16 F_value_b16 F_coder_b16 Sf_b16 V_b12 g_b16 ne_b12_b16) hZ (hw _ (List.mem_of_getElem? (i := 10) rfl)) (hw _ (List.mem_of_getElem? (i := 7) rfl)) (by decide) (by decide) hEL Rc.1) (g := (mkF m 81 #[iv p1, .val (.long p2), .second, iv p3, iv kd, iv sh, iv ps, iv c1, iv c2, .val .null, rv b12, .unset, .unset] [(.ref b12), (.ref b16), (.ref b16)])) rfl (by rw [hml]; rfl) (Steps.refl _) (a := b16) (argsL := [(.ref b12)]) (rest := [(.ref b16)]) (lenOf own_pd___C_V rfl) rfl (by show 2 * 0 + _ ≤ _; exact Nat.le_of_eq rfl) (hb hby at_81) (fun _ _ => ⟨rfl, e16, (by decide : 2 + 4 ≤ _), (by decide : 12 + 8 ≤ _)⟩)
        dsimp only [Pt.U, Pt.locs, Pt.cells, Pt.slots] at X17 l17 y17 z17 st17 hQ17 hSq17 hgq17 A17
        subst l17 y17 z17
        obtain ⟨X17, hS17, hZ17, hown17⟩ := rebS hS (by rw [e16]; exact hk) X17 hSq17 hgq17 hZ hown
        replace Sf_b16 := CHr.safe A17 Ex_b16.lt Sf_b16
        replace Rc := Rc.trans A17
        replace hS := hS17
        replace hZ := hZ17
        replace hown := hown17
        have hk : T17.heap.size ≤ T17.heap.size := Nat.le_refl _
        obtain ⟨t17, kb17, rfl, Nq17, K17, -, F_value_b16, F_coder_b16, Va17⟩ := hQ17
        have N17 := Fr.app N15 Nq17
        refine own_goW (fun zt zk => st17.trans zk) ?_
        replace O := O.keep K17 (allS g_b16 all0)
        replace Kp := Kp.trans K17 (allS (Or.inr sz_b16) all0)
        replace V_b12 := V_b12.keep K17 (ninS ne_b12_b16 nin0)
        replace Ex_b16 := Ex_b16.keep K17
        show own_GoW p e below s _ _ _ _ (T17.setTop (mkF m 84 #[iv p1, .val (.long p2), .second, iv p3, iv kd, iv sh, iv ps, iv c1, iv c2, .val .null, rv b12, .unset, .unset] [(.ref b16)]))
        refine own_goW (fun zt zk => (XS.astore X17.here hx rfl (hb hby at_84) rfl rfl (l' := #[iv p1, .val (.long p2), .second, iv p3, iv kd, iv sh, iv ps, iv c1, iv c2, rv b16, rv b12, .unset, .unset]) rfl (XS.aload X17.here hx rfl (hb hby at_86) rfl rfl zk))) ?_
        show own_GoW p e below s _ _ _ _ (T17.setTop (mkF m 88 #[iv p1, .val (.long p2), .second, iv p3, iv kd, iv sh, iv ps, iv c1, iv c2, rv b16, rv b12, .unset, .unset] [(.ref b16)]))
        by_cases hC : [(99 : Int32), (108 : Int32), (97 : Int32), (115 : Int32), (115 : Int32), (105 : Int32), (99 : Int32)] = ([] : List Int32)
        · obtain ⟨_, _, ⟨T18, L18, k18, n18⟩, -, X18, ⟨Lc18, hQ18, l18, y18, z18⟩, st18⟩ := Jvm.LawKit.callS X17 hx (y := (⟨"com/example/riskscan/riskscan/model/Profile", "ofCode", "(Ljava/lang/String;)Lcom/example/riskscan/riskscan/model/Profile;"⟩ : MethodName)) hown (mvT hZ (hw _ (List.mem_of_getElem? (i := 34) rfl))) (mvT hZ (hw _ (List.mem_of_getElem? (i := 35) rfl))) (mvT hZ (hw _ (List.mem_of_getElem? (i := 36) rfl))) (mvT hZ (hw _ (List.mem_of_getElem? (i := 37) rfl))) (by decide) (backOf (W := 0) (own_rof0 l Z a0 hw [] b16 t17 kb17 (0 : Int32) ([] : List Int32) o_COMPACT_STRINGS o__VALUES k_o__VALUES o_CLASSIC o_CLASSIC_code o_CLASSIC_code_value k_o_CLASSIC_code_value o_TIERED o_TIERED_code o_TIERED_code_value k_o_TIERED_code_value T17.heap n0 (Nat.le_trans Z0 Kp.1) O S_o_COMPACT_STRINGS S_o__VALUES V_o__VALUES Ex_o__VALUES Ex_o_CLASSIC F_o_CLASSIC_code Ex_o_CLASSIC_code F_o_CLASSIC_code_coder F_o_CLASSIC_code_value V_o_CLASSIC_code_value Ex_o_TIERED F_o_TIERED_code Ex_o_TIERED_code F_o_TIERED_code_coder F_o_TIERED_code_value V_o_TIERED_code_value Ex_b16 F_value_b16 F_coder_b16 Va17 nz_o_COMPACT_STRINGS rfl hC) hZ (hw _ (List.mem_of_getElem? (i := 37) rfl)) (hw _ (List.mem_of_getElem? (i := 36) rfl)) (by decide) (by decide)) (g := (mkF m 88 #[iv p1, .val (.long p2), .second, iv p3, iv kd, iv sh, iv ps, iv c1, iv c2, rv b16, rv b12, .unset, .unset] [(.ref b16)])) rfl (by rw [hml]; rfl) (argsL := [(.ref b16)]) (rest := []) (lenOf own_pd__Ljava_lang_String__Lcom_example_riskscan_riskscan_model_Profile_ rfl) rfl (by show 2 * 0 + _ ≤ _; exact Nat.le_of_eq rfl) (hb hby at_88) (fun _ _ => ⟨rfl, rfl, (by decide : 6 + 1 ≤ _), (by decide : 20 + 2 ≤ _)⟩)
          dsimp only [Pt.U, Pt.locs, Pt.cells, Pt.slots] at X18 l18 y18 z18 st18 hQ18
          subst l18 y18 z18
          obtain ⟨rfl, Nq18, K18⟩ := hQ18
          have N18 := Fr.app N17 Nq18
          refine own_goW st18 ?_
          have Sf_b16' := Safe.keep K18 all0 Rc.1 Sf_b16
          replace Rc := Rc.trans (CHr.keep K18 all0 Rc.1)
          replace hk := Nat.le_trans hk K18.1
          replace Sf_b16 := Sf_b16'
          replace O := O.keep K18 all0
          replace Kp := Kp.trans K18 all0
          replace V_b12 := V_b12.keep K18 nin0
          replace Ex_b16 := Ex_b16.keep K18
          replace F_value_b16 := F_value_b16.keep K18 nin0
          replace F_coder_b16 := F_coder_b16.keep K18 nin0
          replace Va17 := Va17.keep K18 nin0
          show own_GoW p e below s _ _ _ _ (T18.setTop (mkF m 91 #[iv p1, .val (.long p2), .second, iv p3, iv kd, iv sh, iv ps, iv c1, iv c2, rv b16, rv b12, .unset, .unset] [(.ref o_CLASSIC)]))
          refine own_goW (fun zt zk => (XS.astore X18.here hx rfl (hb hby at_91) rfl rfl (l' := #[iv p1, .val (.long p2), .second, iv p3, iv kd, iv sh, iv ps, iv c1, iv c2, rv b16, rv o_CLASSIC, .unset, .unset]) rfl (XS.aconstNull X18.here hx rfl (hb hby at_93) (XS.astore X18.here hx rfl (hb hby at_94) rfl rfl (l' := #[iv p1, .val (.long p2), .second, iv p3, iv kd, iv sh, iv ps, iv c1, iv c2, rv b16, rv o_CLASSIC, .val .null, .unset]) rfl (XS.aload X18.here hx rfl (hb hby at_96) rfl rfl (XS.ifnullNo X18.here hx rfl (hb hby at_98) rfl (XS.aload X18.here hx rfl (hb hby at_101) rfl rfl zk))))))) ?_
          show own_GoW p e below s _ _ _ _ (T18.setTop (mkF m 103 #[iv p1, .val (.long p2), .second, iv p3, iv kd, iv sh, iv ps, iv c1, iv c2, rv b16, rv o_CLASSIC, .val .null, .unset] [(.ref b16)]))
          obtain ⟨a19, T19, h19, q19, b19, k19, X19, e19, E19, hS19, hk19, hZ19, hown19, Ex_a19, Fc_a19, Fv_a19, Va_b19, lta19, ltb19, A19, Li19, Sn19, st19⟩ := ldcCH X18 hx hZ hown (hw _ (List.mem_of_getElem? (i := 67) rfl)) wS rfl hS hk hEL (by decide +kernel) Rc.1 (vs := [(.int (99 : Int32)), (.int (108 : Int32)), (.int (97 : Int32)), (.int (115 : Int32)), (.int (115 : Int32)), (.int (105 : Int32)), (.int (99 : Int32))]) (z := (7 : Int32)) ⟨by decide +kernel, by decide +kernel⟩ (by decide) rfl (g := (mkF m 103 #[iv p1, .val (.long p2), .second, iv p3, iv kd, iv sh, iv ps, iv c1, iv c2, rv b16, rv o_CLASSIC, .val .null, .unset] [(.ref b16)])) rfl (hb hby at_103) (n := 28) (by decide +kernel) (by decide) (by decide) (by decide)
          replace Sf_b16 := CHr.safe A19 Ex_b16.lt Sf_b16
          replace O := O.ext E19
          replace Kp := Kp.ext E19
          replace V_b12 := V_b12.ext E19
          replace Ex_b16 := Ex_b16.ext E19
          replace F_value_b16 := F_value_b16.ext E19
          replace F_coder_b16 := F_coder_b16.ext E19
          replace Va17 := Va17.ext E19
          replace Rc := Rc.trans A19
          replace hS := hS19
          replace hk := hk19
          replace hZ := hZ19
          replace hown := hown19
          refine own_goW st19 ?_
          have ne_b16_a19 := (Sn19 b16 Sf_b16).1
          have ne_b16_b19 := (Sn19 b16 Sf_b16).2
          show own_GoW p e below s _ _ _ _ (T19.setTop (mkF m 105 #[iv p1, .val (.long p2), .second, iv p3, iv kd, iv sh, iv ps, iv c1, iv c2, rv b16, rv o_CLASSIC, .val .null, .unset] [(.ref a19), (.ref b16)]))
          obtain ⟨cq20, kq20, qa20, qb20, qc20⟩ := isOf hZ e19 Ex_b16
          obtain ⟨_, _, ⟨T20, L20, k20, n20⟩, -, X20, ⟨Lc20, hQ20, l20, y20, z20⟩, st20⟩ := X19.virtualBack hx (y := (⟨"java/lang/String", "equals", "(Ljava/lang/Object;)Z"⟩ : MethodName)) (z := (⟨"java/lang/String", "equals", "(Ljava/lang/Object;)Z"⟩ : MethodName)) hown (mvT hZ (hw _ (List.mem_of_getElem? (i := 70) rfl))) (mvT hZ (hw _ (List.mem_of_getElem? (i := 58) rfl))) (notFace_of_selects (args := #[]) (mvT hZ (hw _ (List.mem_of_getElem? (i := 60) rfl)))) (mvT hZ (hw _ (List.mem_of_getElem? (i := 60) rfl))) (mvT hZ (hw _ (List.mem_of_getElem? (i := 59) rfl))) (by decide) (backOf (W := 0) (own_req l Z a0 hw [] b16 a19 o_COMPACT_STRINGS t17 b19 kb17 k19 (0 : Int32) (7 : Int32) ([] : List Int32) [(99 : Int32), (108 : Int32), (97 : Int32), (115 : Int32), (115 : Int32), (105 : Int32), (99 : Int32)] h19 n0 (Nat.le_trans Z0 Kp.1) O S_o_COMPACT_STRINGS Ex_b16 F_value_b16 F_coder_b16 Va17 Ex_a19 Fv_a19 Fc_a19 Va_b19 nz_o_COMPACT_STRINGS rfl rfl) hZ (hw _ (List.mem_of_getElem? (i := 61) rfl)) (hw _ (List.mem_of_getElem? (i := 7) rfl)) (by decide) (by decide)) qa20 qc20 (g := (mkF m 105 #[iv p1, .val (.long p2), .second, iv p3, iv kd, iv sh, iv ps, iv c1, iv c2, rv b16, rv o_CLASSIC, .val .null, .unset] [(.ref a19), (.ref b16)])) rfl (by rw [hml]; rfl) (Steps.refl _) (argsL := [(.ref a19)]) (rest := []) (lenOf own_pd__Ljava_lang_Object__Z rfl) rfl (by show 2 * 0 + _ ≤ _; exact Nat.le_of_eq rfl) (hb hby at_105) (fun _ _ => ⟨rfl, e19, (by decide : 9 + 0 ≤ _), (by decide : 54 + 0 ≤ _)⟩)
          dsimp only [Pt.U, Pt.locs, Pt.cells, Pt.slots] at X20 l20 y20 z20 st20 hQ20
          subst l20 y20 z20
          obtain ⟨hv20, Nq20, e20⟩ := hQ20
          rw [show own_eqv _ _ = (1 : Int32) from if_pos hC.symm] at hv20
          subst hv20
          have N20 := Fr.app N18 Nq20
          refine own_goW (fun zt zk => st20.trans zk) ?_
          show own_GoW p e below s _ _ _ _ (T20.setTop (mkF m 108 #[iv p1, .val (.long p2), .second, iv p3, iv kd, iv sh, iv ps, iv c1, iv c2, rv b16, rv o_CLASSIC, .val .null, .unset] [(.int (1 : Int32))]))
          refine own_goW (fun zt zk => (XS.ifNo X20.here hx rfl (hb hby at_108) rfl ((if0 _ _).trans (feq ((by decide) : ¬ ((1 : Int32) = (0 : Int32)))).1) zk)) ?_
          show own_GoW p e below s _ _ _ _ (T20.setTop (mkF m 111 #[iv p1, .val (.long p2), .second, iv p3, iv kd, iv sh, iv ps, iv c1, iv c2, rv b16, rv o_CLASSIC, .val .null, .unset] []))
          obtain ⟨T21, X21, e21, st21⟩ := getS2 X20 hx hZ hown (host := "") (Or.inl (hw _ (List.mem_of_getElem? (i := 72) rfl))) Via.refl e20 (S_o_CLASSIC.ext O.2) (g := (mkF m 111 #[iv p1, .val (.long p2), .second, iv p3, iv kd, iv sh, iv ps, iv c1, iv c2, rv b16, rv o_CLASSIC, .val .null, .unset] [])) rfl (hb hby at_111)
          refine own_goW st21 ?_
          show own_GoW p e below s _ _ _ _ (T21.setTop (mkF m 114 #[iv p1, .val (.long p2), .second, iv p3, iv kd, iv sh, iv ps, iv c1, iv c2, rv b16, rv o_CLASSIC, .val .null, .unset] [(.ref o_CLASSIC)]))
          refine own_goW (fun zt zk => (XS.astore X21.here hx rfl (hb hby at_114) rfl rfl (l' := #[iv p1, .val (.long p2), .second, iv p3, iv kd, iv sh, iv ps, iv c1, iv c2, rv b16, rv o_CLASSIC, rv o_CLASSIC, .unset]) rfl (XS.goto X21.here hx rfl (pc0 := 116) (pc' := 134) rfl (hb hby at_116) (by decide) (by decide) zk))) ?_
          show own_GoW p e below s _ _ _ _ (T21.setTop (mkF m 134 #[iv p1, .val (.long p2), .second, iv p3, iv kd, iv sh, iv ps, iv c1, iv c2, rv b16, rv o_CLASSIC, rv o_CLASSIC, .unset] []))
          obtain ⟨T22, X22, e22, st22⟩ := getS2 X21 hx hZ hown (host := "") (Or.inl (hw _ (List.mem_of_getElem? (i := 72) rfl))) Via.refl e21 (S_o_CLASSIC.ext O.2) (g := (mkF m 134 #[iv p1, .val (.long p2), .second, iv p3, iv kd, iv sh, iv ps, iv c1, iv c2, rv b16, rv o_CLASSIC, rv o_CLASSIC, .unset] [])) rfl (hb hby at_134)
          refine own_goW st22 ?_
          show own_GoW p e below s _ _ _ _ (T22.setTop (mkF m 137 #[iv p1, .val (.long p2), .second, iv p3, iv kd, iv sh, iv ps, iv c1, iv c2, rv b16, rv o_CLASSIC, rv o_CLASSIC, .unset] [(.ref o_CLASSIC)]))
          obtain ⟨cq23, kq23, qa23, qb23, qc23⟩ := isOf hZ e22 (Ex_o_CLASSIC.ext O.2)
          obtain ⟨_, _, ⟨T23, L23, k23, n23⟩, -, X23, ⟨Lc23, hQ23, l23, y23, z23⟩, st23⟩ := X22.virtualBack hx (y := (⟨"com/example/riskscan/riskscan/model/Profile", "code", "()Ljava/lang/String;"⟩ : MethodName)) (z := (⟨"com/example/riskscan/riskscan/model/Profile", "code", "()Ljava/lang/String;"⟩ : MethodName)) hown (mvT hZ (hw _ (List.mem_of_getElem? (i := 73) rfl))) (mvT hZ (hw _ (List.mem_of_getElem? (i := 74) rfl))) (notFace_of_selects (args := #[]) (mvT hZ (hw _ (List.mem_of_getElem? (i := 76) rfl)))) (mvT hZ (hw _ (List.mem_of_getElem? (i := 76) rfl))) (mvT hZ (hw _ (List.mem_of_getElem? (i := 75) rfl))) (by decide) (backOf (W := 0) (own_gcode l Z a0 hw [] o_CLASSIC o_CLASSIC_code h19 n0 (Nat.le_trans Z0 Kp.1) (F_o_CLASSIC_code.ext O.2)) hZ (hw _ (List.mem_of_getElem? (i := 77) rfl)) (hw _ (List.mem_of_getElem? (i := 36) rfl)) (by decide) (by decide)) qa23 qc23 (g := (mkF m 137 #[iv p1, .val (.long p2), .second, iv p3, iv kd, iv sh, iv ps, iv c1, iv c2, rv b16, rv o_CLASSIC, rv o_CLASSIC, .unset] [(.ref o_CLASSIC)])) rfl (by rw [hml]; rfl) (Steps.refl _) (argsL := []) (rest := []) (lenOf own_pd___Ljava_lang_String_ rfl) rfl (by show 2 * 0 + _ ≤ _; exact Nat.le_of_eq rfl) (hb hby at_137) (fun _ _ => ⟨rfl, e22, (by decide : 9 + 0 ≤ _), (by decide : 54 + 0 ≤ _)⟩)
          dsimp only [Pt.U, Pt.locs, Pt.cells, Pt.slots] at X23 l23 y23 z23 st23 hQ23
          subst l23 y23 z23
          obtain ⟨rfl, Nq23, e23⟩ := hQ23
          have N23 := Fr.app N20 Nq23
          refine own_goW (fun zt zk => st23.trans zk) ?_
          show own_GoW p e below s _ _ _ _ (T23.setTop (mkF m 140 #[iv p1, .val (.long p2), .second, iv p3, iv kd, iv sh, iv ps, iv c1, iv c2, rv b16, rv o_CLASSIC, rv o_CLASSIC, .unset] [(.ref o_CLASSIC_code)]))
          obtain ⟨_, _, ⟨T24, L24, k24, n24⟩, -, X24, ⟨Lc24, hQ24, l24, y24, z24⟩, st24⟩ := Jvm.LawKit.callS X23 hx (y := (⟨"com/example/riskscan/riskscan/model/Profile", "ofCode", "(Ljava/lang/String;)Lcom/example/riskscan/riskscan/model/Profile;"⟩ : MethodName)) hown (mvT hZ (hw _ (List.mem_of_getElem? (i := 34) rfl))) (mvT hZ (hw _ (List.mem_of_getElem? (i := 35) rfl))) (mvT hZ (hw _ (List.mem_of_getElem? (i := 36) rfl))) (mvT hZ (hw _ (List.mem_of_getElem? (i := 37) rfl))) (by decide) (backOf (W := 0) (own_rof0 l Z a0 hw [] o_CLASSIC_code o_CLASSIC_code_value k_o_CLASSIC_code_value (7 : Int32) [(99 : Int32), (108 : Int32), (97 : Int32), (115 : Int32), (115 : Int32), (105 : Int32), (99 : Int32)] o_COMPACT_STRINGS o__VALUES k_o__VALUES o_CLASSIC o_CLASSIC_code o_CLASSIC_code_value k_o_CLASSIC_code_value o_TIERED o_TIERED_code o_TIERED_code_value k_o_TIERED_code_value h19 n0 (Nat.le_trans Z0 Kp.1) O S_o_COMPACT_STRINGS S_o__VALUES V_o__VALUES Ex_o__VALUES Ex_o_CLASSIC F_o_CLASSIC_code Ex_o_CLASSIC_code F_o_CLASSIC_code_coder F_o_CLASSIC_code_value V_o_CLASSIC_code_value Ex_o_TIERED F_o_TIERED_code Ex_o_TIERED_code F_o_TIERED_code_coder F_o_TIERED_code_value V_o_TIERED_code_value (Ex_o_CLASSIC_code.ext O.2) (F_o_CLASSIC_code_value.ext O.2) (F_o_CLASSIC_code_coder.ext O.2) (V_o_CLASSIC_code_value.ext O.2) nz_o_COMPACT_STRINGS rfl rfl) hZ (hw _ (List.mem_of_getElem? (i := 37) rfl)) (hw _ (List.mem_of_getElem? (i := 36) rfl)) (by decide) (by decide)) (g := (mkF m 140 #[iv p1, .val (.long p2), .second, iv p3, iv kd, iv sh, iv ps, iv c1, iv c2, rv b16, rv o_CLASSIC, rv o_CLASSIC, .unset] [(.ref o_CLASSIC_code)])) rfl (by rw [hml]; rfl) (argsL := [(.ref o_CLASSIC_code)]) (rest := []) (lenOf own_pd__Ljava_lang_String__Lcom_example_riskscan_riskscan_model_Profile_ rfl) rfl (by show 2 * 0 + _ ≤ _; exact Nat.le_of_eq rfl) (hb hby at_140) (fun _ _ => ⟨rfl, e23, (by decide : 9 + 1 ≤ _), (by decide : 54 + 2 ≤ _)⟩)
          dsimp only [Pt.U, Pt.locs, Pt.cells, Pt.slots] at X24 l24 y24 z24 st24 hQ24
          subst l24 y24 z24
          obtain ⟨rfl, Nq24, K24⟩ := hQ24
          have N24 := Fr.app N23 Nq24
          refine own_goW st24 ?_
          have Sf_b16' := Safe.keep K24 all0 Rc.1 Sf_b16
          replace Rc := Rc.trans (CHr.keep K24 all0 Rc.1)
          replace hk := Nat.le_trans hk K24.1
          replace Sf_b16 := Sf_b16'
          replace O := O.keep K24 all0
          replace Kp := Kp.trans K24 all0
          replace V_b12 := V_b12.keep K24 nin0
          replace Ex_b16 := Ex_b16.keep K24
          replace F_value_b16 := F_value_b16.keep K24 nin0
          replace F_coder_b16 := F_coder_b16.keep K24 nin0
          replace Va17 := Va17.keep K24 nin0
          replace Ex_a19 := Ex_a19.keep K24
          replace Fc_a19 := Fc_a19.keep K24 nin0
          replace Fv_a19 := Fv_a19.keep K24 nin0
          replace Va_b19 := Va_b19.keep K24 nin0
          show own_GoW p e below s _ _ _ _ (T24.setTop (mkF m 143 #[iv p1, .val (.long p2), .second, iv p3, iv kd, iv sh, iv ps, iv c1, iv c2, rv b16, rv o_CLASSIC, rv o_CLASSIC, .unset] [(.ref o_CLASSIC)]))
          obtain ⟨T25, X25, e25, st25⟩ := getS2 X24 hx hZ hown (host := "") (Or.inl (hw _ (List.mem_of_getElem? (i := 72) rfl))) Via.refl rfl (S_o_CLASSIC.ext O.2) (g := (mkF m 143 #[iv p1, .val (.long p2), .second, iv p3, iv kd, iv sh, iv ps, iv c1, iv c2, rv b16, rv o_CLASSIC, rv o_CLASSIC, .unset] [(.ref o_CLASSIC)])) rfl (hb hby at_143)
          refine own_goW st25 ?_
          show own_GoW p e below s _ _ _ _ (T25.setTop (mkF m 146 #[iv p1, .val (.long p2), .second, iv p3, iv kd, iv sh, iv ps, iv c1, iv c2, rv b16, rv o_CLASSIC, rv o_CLASSIC, .unset] [(.ref o_CLASSIC), (.ref o_CLASSIC)]))
          refine own_goW (fun zt zk => Jvm.RoadKit.acmp (g := (mkF m 146 #[iv p1, .val (.long p2), .second, iv p3, iv kd, iv sh, iv ps, iv c1, iv c2, rv b16, rv o_CLASSIC, rv o_CLASSIC, .unset] [(.ref o_CLASSIC), (.ref o_CLASSIC)])) X25 hx rfl rfl rfl (pc0 := 146) (pc' := 149) (same := true) rfl (hb hby at_146) rfl (decide_eq_true rfl) (by decide) (by decide) zk) ?_
          show own_GoW p e below s _ _ _ _ (T25.setTop (mkF m 149 #[iv p1, .val (.long p2), .second, iv p3, iv kd, iv sh, iv ps, iv c1, iv c2, rv b16, rv o_CLASSIC, rv o_CLASSIC, .unset] []))
          obtain ⟨T26, X26, e26, st26⟩ := getS2 X25 hx hZ hown (host := "") (Or.inl (hw _ (List.mem_of_getElem? (i := 78) rfl))) Via.refl e25 (S_o_TIERED.ext O.2) (g := (mkF m 149 #[iv p1, .val (.long p2), .second, iv p3, iv kd, iv sh, iv ps, iv c1, iv c2, rv b16, rv o_CLASSIC, rv o_CLASSIC, .unset] [])) rfl (hb hby at_149)
          refine own_goW st26 ?_
          show own_GoW p e below s _ _ _ _ (T26.setTop (mkF m 152 #[iv p1, .val (.long p2), .second, iv p3, iv kd, iv sh, iv ps, iv c1, iv c2, rv b16, rv o_CLASSIC, rv o_CLASSIC, .unset] [(.ref o_TIERED)]))
          obtain ⟨cq27, kq27, qa27, qb27, qc27⟩ := isOf hZ e26 (Ex_o_TIERED.ext O.2)
          obtain ⟨_, _, ⟨T27, L27, k27, n27⟩, -, X27, ⟨Lc27, hQ27, l27, y27, z27⟩, st27⟩ := X26.virtualBack hx (y := (⟨"com/example/riskscan/riskscan/model/Profile", "code", "()Ljava/lang/String;"⟩ : MethodName)) (z := (⟨"com/example/riskscan/riskscan/model/Profile", "code", "()Ljava/lang/String;"⟩ : MethodName)) hown (mvT hZ (hw _ (List.mem_of_getElem? (i := 73) rfl))) (mvT hZ (hw _ (List.mem_of_getElem? (i := 74) rfl))) (notFace_of_selects (args := #[]) (mvT hZ (hw _ (List.mem_of_getElem? (i := 76) rfl)))) (mvT hZ (hw _ (List.mem_of_getElem? (i := 76) rfl))) (mvT hZ (hw _ (List.mem_of_getElem? (i := 75) rfl))) (by decide) (backOf (W := 0) (own_gcode l Z a0 hw [] o_TIERED o_TIERED_code T24.heap n0 (Nat.le_trans Z0 Kp.1) (F_o_TIERED_code.ext O.2)) hZ (hw _ (List.mem_of_getElem? (i := 77) rfl)) (hw _ (List.mem_of_getElem? (i := 36) rfl)) (by decide) (by decide)) qa27 qc27 (g := (mkF m 152 #[iv p1, .val (.long p2), .second, iv p3, iv kd, iv sh, iv ps, iv c1, iv c2, rv b16, rv o_CLASSIC, rv o_CLASSIC, .unset] [(.ref o_TIERED)])) rfl (by rw [hml]; rfl) (Steps.refl _) (argsL := []) (rest := []) (lenOf own_pd___Ljava_lang_String_ rfl) rfl (by show 2 * 0 + _ ≤ _; exact Nat.le_of_eq rfl) (hb hby at_152) (fun _ _ => ⟨rfl, e26, (by decide : 10 + 0 ≤ _), (by decide : 56 + 0 ≤ _)⟩)
          dsimp only [Pt.U, Pt.locs, Pt.cells, Pt.slots] at X27 l27 y27 z27 st27 hQ27
          subst l27 y27 z27
          obtain ⟨rfl, Nq27, e27⟩ := hQ27
          have N27 := Fr.app N24 Nq27
          refine own_goW (fun zt zk => st27.trans zk) ?_
          show own_GoW p e below s _ _ _ _ (T27.setTop (mkF m 155 #[iv p1, .val (.long p2), .second, iv p3, iv kd, iv sh, iv ps, iv c1, iv c2, rv b16, rv o_CLASSIC, rv o_CLASSIC, .unset] [(.ref o_TIERED_code)]))
          obtain ⟨_, _, ⟨T28, L28, k28, n28⟩, -, X28, ⟨Lc28, hQ28, l28, y28, z28⟩, st28⟩ := Jvm.LawKit.callS X27 hx (y := (⟨"com/example/riskscan/riskscan/model/Profile", "ofCode", "(Ljava/lang/String;)Lcom/example/riskscan/riskscan/model/Profile;"⟩ : MethodName)) hown (mvT hZ (hw _ (List.mem_of_getElem? (i := 34) rfl))) (mvT hZ (hw _ (List.mem_of_getElem? (i := 35) rfl))) (mvT hZ (hw _ (List.mem_of_getElem? (i := 36) rfl))) (mvT hZ (hw _ (List.mem_of_getElem? (i := 37) rfl))) (by decide) (backOf (W := 0) (own_rof1 l Z a0 hw [] o_TIERED_code o_TIERED_code_value k_o_TIERED_code_value (6 : Int32) [(116 : Int32), (105 : Int32), (101 : Int32), (114 : Int32), (101 : Int32), (100 : Int32)] o_COMPACT_STRINGS o__VALUES k_o__VALUES o_CLASSIC o_CLASSIC_code o_CLASSIC_code_value k_o_CLASSIC_code_value o_TIERED o_TIERED_code o_TIERED_code_value k_o_TIERED_code_value T24.heap n0 (Nat.le_trans Z0 Kp.1) O S_o_COMPACT_STRINGS S_o__VALUES V_o__VALUES Ex_o__VALUES Ex_o_CLASSIC F_o_CLASSIC_code Ex_o_CLASSIC_code F_o_CLASSIC_code_coder F_o_CLASSIC_code_value V_o_CLASSIC_code_value Ex_o_TIERED F_o_TIERED_code Ex_o_TIERED_code F_o_TIERED_code_coder F_o_TIERED_code_value V_o_TIERED_code_value (Ex_o_TIERED_code.ext O.2) (F_o_TIERED_code_value.ext O.2) (F_o_TIERED_code_coder.ext O.2) (V_o_TIERED_code_value.ext O.2) nz_o_COMPACT_STRINGS rfl (by decide) rfl) hZ (hw _ (List.mem_of_getElem? (i := 37) rfl)) (hw _ (List.mem_of_getElem? (i := 36) rfl)) (by decide) (by decide)) (g := (mkF m 155 #[iv p1, .val (.long p2), .second, iv p3, iv kd, iv sh, iv ps, iv c1, iv c2, rv b16, rv o_CLASSIC, rv o_CLASSIC, .unset] [(.ref o_TIERED_code)])) rfl (by rw [hml]; rfl) (argsL := [(.ref o_TIERED_code)]) (rest := []) (lenOf own_pd__Ljava_lang_String__Lcom_example_riskscan_riskscan_model_Profile_ rfl) rfl (by show 2 * 0 + _ ≤ _; exact Nat.le_of_eq rfl) (hb hby at_155) (fun _ _ => ⟨rfl, e27, (by decide : 10 + 1 ≤ _), (by decide : 56 + 2 ≤ _)⟩)
          dsimp only [Pt.U, Pt.locs, Pt.cells, Pt.slots] at X28 l28 y28 z28 st28 hQ28
          subst l28 y28 z28
          obtain ⟨rfl, Nq28, K28⟩ := hQ28
          have N28 := Fr.app N27 Nq28
          refine own_goW st28 ?_
          have Sf_b16' := Safe.keep K28 all0 Rc.1 Sf_b16
          replace Rc := Rc.trans (CHr.keep K28 all0 Rc.1)
          replace hk := Nat.le_trans hk K28.1
          replace Sf_b16 := Sf_b16'
          replace O := O.keep K28 all0
          replace Kp := Kp.trans K28 all0
          replace V_b12 := V_b12.keep K28 nin0
          replace Ex_b16 := Ex_b16.keep K28
          replace F_value_b16 := F_value_b16.keep K28 nin0
          replace F_coder_b16 := F_coder_b16.keep K28 nin0
          replace Va17 := Va17.keep K28 nin0
          replace Ex_a19 := Ex_a19.keep K28
          replace Fc_a19 := Fc_a19.keep K28 nin0
          replace Fv_a19 := Fv_a19.keep K28 nin0
          replace Va_b19 := Va_b19.keep K28 nin0
          show own_GoW p e below s _ _ _ _ (T28.setTop (mkF m 158 #[iv p1, .val (.long p2), .second, iv p3, iv kd, iv sh, iv ps, iv c1, iv c2, rv b16, rv o_CLASSIC, rv o_CLASSIC, .unset] [(.ref o_TIERED)]))
          obtain ⟨T29, X29, e29, st29⟩ := getS2 X28 hx hZ hown (host := "") (Or.inl (hw _ (List.mem_of_getElem? (i := 78) rfl))) Via.refl rfl (S_o_TIERED.ext O.2) (g := (mkF m 158 #[iv p1, .val (.long p2), .second, iv p3, iv kd, iv sh, iv ps, iv c1, iv c2, rv b16, rv o_CLASSIC, rv o_CLASSIC, .unset] [(.ref o_TIERED)])) rfl (hb hby at_158)
          refine own_goW st29 ?_
          show own_GoW p e below s _ _ _ _ (T29.setTop (mkF m 161 #[iv p1, .val (.long p2), .second, iv p3, iv kd, iv sh, iv ps, iv c1, iv c2, rv b16, rv o_CLASSIC, rv o_CLASSIC, .unset] [(.ref o_TIERED), (.ref o_TIERED)]))
          refine own_goW (fun zt zk => Jvm.RoadKit.acmp (g := (mkF m 161 #[iv p1, .val (.long p2), .second, iv p3, iv kd, iv sh, iv ps, iv c1, iv c2, rv b16, rv o_CLASSIC, rv o_CLASSIC, .unset] [(.ref o_TIERED), (.ref o_TIERED)])) X29 hx rfl rfl rfl (pc0 := 161) (pc' := 164) (same := true) rfl (hb hby at_161) rfl (decide_eq_true rfl) (by decide) (by decide) zk) ?_
          show own_GoW p e below s _ _ _ _ (T29.setTop (mkF m 164 #[iv p1, .val (.long p2), .second, iv p3, iv kd, iv sh, iv ps, iv c1, iv c2, rv b16, rv o_CLASSIC, rv o_CLASSIC, .unset] []))
          refine own_goW (fun zt zk => (XS.iconst X29.here hx rfl (hb hby at_164) (XS.goto X29.here hx rfl (pc0 := 165) (pc' := 169) rfl (hb hby at_165) (by decide) (by decide) (XS.istore X29.here hx rfl (hb hby at_169) rfl (l' := #[iv p1, .val (.long p2), .second, iv p3, iv kd, iv sh, iv ps, iv c1, iv c2, rv b16, rv o_CLASSIC, rv o_CLASSIC, iv (1 : Int32)]) rfl (XS.aload X29.here hx rfl (hb hby at_171) rfl rfl (XS.aload X29.here hx rfl (hb hby at_173) rfl rfl zk)))))) ?_
          show own_GoW p e below s _ _ _ _ (T29.setTop (mkF m 175 #[iv p1, .val (.long p2), .second, iv p3, iv kd, iv sh, iv ps, iv c1, iv c2, rv b16, rv o_CLASSIC, rv o_CLASSIC, iv (1 : Int32)] [(.ref o_CLASSIC), (.ref o_CLASSIC)]))
          refine own_goW (fun zt zk => Jvm.RoadKit.acmp (g := (mkF m 175 #[iv p1, .val (.long p2), .second, iv p3, iv kd, iv sh, iv ps, iv c1, iv c2, rv b16, rv o_CLASSIC, rv o_CLASSIC, iv (1 : Int32)] [(.ref o_CLASSIC), (.ref o_CLASSIC)])) X29 hx rfl rfl rfl (pc0 := 175) (pc' := 178) (same := true) rfl (hb hby at_175) rfl (decide_eq_true rfl) (by decide) (by decide) zk) ?_
          show own_GoW p e below s _ _ _ _ (T29.setTop (mkF m 178 #[iv p1, .val (.long p2), .second, iv p3, iv kd, iv sh, iv ps, iv c1, iv c2, rv b16, rv o_CLASSIC, rv o_CLASSIC, iv (1 : Int32)] []))
          refine own_goW (fun zt zk => (XS.iload X29.here hx rfl (hb hby at_178) rfl (XS.ifNo X29.here hx rfl (hb hby at_180) rfl ((if0 _ _).trans (feq ((by decide) : ¬ ((1 : Int32) = (0 : Int32)))).1) (XS.iconst X29.here hx rfl (hb hby at_183) (XS.goto X29.here hx rfl (pc0 := 184) (pc' := 188) rfl (hb hby at_184) (by decide) (by decide) zk))))) ?_
          show own_GoW p e below s _ _ _ _ (T29.setTop (mkF m 188 #[iv p1, .val (.long p2), .second, iv p3, iv kd, iv sh, iv ps, iv c1, iv c2, rv b16, rv o_CLASSIC, rv o_CLASSIC, iv (1 : Int32)] [(.int (1 : Int32))]))
          have Re := Rc.trans (CHv.at X29 hZ hEL Rc.1)
          exact own_finW X29 hS (by rw [e29]; exact hk) (by rw [e29, hh]; exact Re) Bd.notSynchronized (fun h => by rw [Bd.returns] at h; cases h) (fun fs hr => retN X29 hx (t := .boolean) Bd.returns (by simp) (hb hby at_188) hr) (by rw [e29]; exact ⟨rfl, N28⟩) (by decide) (by decide)
        · by_cases hT : [(116 : Int32), (105 : Int32), (101 : Int32), (114 : Int32), (101 : Int32), (100 : Int32)] = ([] : List Int32)
          · obtain ⟨_, _, ⟨T30, L30, k30, n30⟩, -, X30, ⟨Lc30, hQ30, l30, y30, z30⟩, st30⟩ := Jvm.LawKit.callS X17 hx (y := (⟨"com/example/riskscan/riskscan/model/Profile", "ofCode", "(Ljava/lang/String;)Lcom/example/riskscan/riskscan/model/Profile;"⟩ : MethodName)) hown (mvT hZ (hw _ (List.mem_of_getElem? (i := 34) rfl))) (mvT hZ (hw _ (List.mem_of_getElem? (i := 35) rfl))) (mvT hZ (hw _ (List.mem_of_getElem? (i := 36) rfl))) (mvT hZ (hw _ (List.mem_of_getElem? (i := 37) rfl))) (by decide) (backOf (W := 0) (own_rof1 l Z a0 hw [] b16 t17 kb17 (0 : Int32) ([] : List Int32) o_COMPACT_STRINGS o__VALUES k_o__VALUES o_CLASSIC o_CLASSIC_code o_CLASSIC_code_value k_o_CLASSIC_code_value o_TIERED o_TIERED_code o_TIERED_code_value k_o_TIERED_code_value T17.heap n0 (Nat.le_trans Z0 Kp.1) O S_o_COMPACT_STRINGS S_o__VALUES V_o__VALUES Ex_o__VALUES Ex_o_CLASSIC F_o_CLASSIC_code Ex_o_CLASSIC_code F_o_CLASSIC_code_coder F_o_CLASSIC_code_value V_o_CLASSIC_code_value Ex_o_TIERED F_o_TIERED_code Ex_o_TIERED_code F_o_TIERED_code_coder F_o_TIERED_code_value V_o_TIERED_code_value Ex_b16 F_value_b16 F_coder_b16 Va17 nz_o_COMPACT_STRINGS rfl hC hT) hZ (hw _ (List.mem_of_getElem? (i := 37) rfl)) (hw _ (List.mem_of_getElem? (i := 36) rfl)) (by decide) (by decide)) (g := (mkF m 88 #[iv p1, .val (.long p2), .second, iv p3, iv kd, iv sh, iv ps, iv c1, iv c2, rv b16, rv b12, .unset, .unset] [(.ref b16)])) rfl (by rw [hml]; rfl) (argsL := [(.ref b16)]) (rest := []) (lenOf own_pd__Ljava_lang_String__Lcom_example_riskscan_riskscan_model_Profile_ rfl) rfl (by show 2 * 0 + _ ≤ _; exact Nat.le_of_eq rfl) (hb hby at_88) (fun _ _ => ⟨rfl, rfl, (by decide : 6 + 1 ≤ _), (by decide : 20 + 2 ≤ _)⟩)
            dsimp only [Pt.U, Pt.locs, Pt.cells, Pt.slots] at X30 l30 y30 z30 st30 hQ30
            subst l30 y30 z30
            obtain ⟨rfl, Nq30, K30⟩ := hQ30
            have N30 := Fr.app N17 Nq30
            refine own_goW st30 ?_
            have Sf_b16' := Safe.keep K30 all0 Rc.1 Sf_b16
            replace Rc := Rc.trans (CHr.keep K30 all0 Rc.1)
            replace hk := Nat.le_trans hk K30.1
            replace Sf_b16 := Sf_b16'
            replace O := O.keep K30 all0
            replace Kp := Kp.trans K30 all0
            replace V_b12 := V_b12.keep K30 nin0
            replace Ex_b16 := Ex_b16.keep K30
            replace F_value_b16 := F_value_b16.keep K30 nin0
            replace F_coder_b16 := F_coder_b16.keep K30 nin0
            replace Va17 := Va17.keep K30 nin0
            show own_GoW p e below s _ _ _ _ (T30.setTop (mkF m 91 #[iv p1, .val (.long p2), .second, iv p3, iv kd, iv sh, iv ps, iv c1, iv c2, rv b16, rv b12, .unset, .unset] [(.ref o_TIERED)]))
            refine own_goW (fun zt zk => (XS.astore X30.here hx rfl (hb hby at_91) rfl rfl (l' := #[iv p1, .val (.long p2), .second, iv p3, iv kd, iv sh, iv ps, iv c1, iv c2, rv b16, rv o_TIERED, .unset, .unset]) rfl (XS.aconstNull X30.here hx rfl (hb hby at_93) (XS.astore X30.here hx rfl (hb hby at_94) rfl rfl (l' := #[iv p1, .val (.long p2), .second, iv p3, iv kd, iv sh, iv ps, iv c1, iv c2, rv b16, rv o_TIERED, .val .null, .unset]) rfl (XS.aload X30.here hx rfl (hb hby at_96) rfl rfl (XS.ifnullNo X30.here hx rfl (hb hby at_98) rfl (XS.aload X30.here hx rfl (hb hby at_101) rfl rfl zk))))))) ?_
            show own_GoW p e below s _ _ _ _ (T30.setTop (mkF m 103 #[iv p1, .val (.long p2), .second, iv p3, iv kd, iv sh, iv ps, iv c1, iv c2, rv b16, rv o_TIERED, .val .null, .unset] [(.ref b16)]))
            obtain ⟨a31, T31, h31, q31, b31, k31, X31, e31, E31, hS31, hk31, hZ31, hown31, Ex_a31, Fc_a31, Fv_a31, Va_b31, lta31, ltb31, A31, Li31, Sn31, st31⟩ := ldcCH X30 hx hZ hown (hw _ (List.mem_of_getElem? (i := 67) rfl)) wS rfl hS hk hEL (by decide +kernel) Rc.1 (vs := [(.int (99 : Int32)), (.int (108 : Int32)), (.int (97 : Int32)), (.int (115 : Int32)), (.int (115 : Int32)), (.int (105 : Int32)), (.int (99 : Int32))]) (z := (7 : Int32)) ⟨by decide +kernel, by decide +kernel⟩ (by decide) rfl (g := (mkF m 103 #[iv p1, .val (.long p2), .second, iv p3, iv kd, iv sh, iv ps, iv c1, iv c2, rv b16, rv o_TIERED, .val .null, .unset] [(.ref b16)])) rfl (hb hby at_103) (n := 28) (by decide +kernel) (by decide) (by decide) (by decide)
            replace Sf_b16 := CHr.safe A31 Ex_b16.lt Sf_b16
            replace O := O.ext E31
            replace Kp := Kp.ext E31
            replace V_b12 := V_b12.ext E31
            replace Ex_b16 := Ex_b16.ext E31
            replace F_value_b16 := F_value_b16.ext E31
            replace F_coder_b16 := F_coder_b16.ext E31
            replace Va17 := Va17.ext E31
            replace Rc := Rc.trans A31
            replace hS := hS31
            replace hk := hk31
            replace hZ := hZ31
            replace hown := hown31
            refine own_goW st31 ?_
            have ne_b16_a31 := (Sn31 b16 Sf_b16).1
            have ne_b16_b31 := (Sn31 b16 Sf_b16).2
            show own_GoW p e below s _ _ _ _ (T31.setTop (mkF m 105 #[iv p1, .val (.long p2), .second, iv p3, iv kd, iv sh, iv ps, iv c1, iv c2, rv b16, rv o_TIERED, .val .null, .unset] [(.ref a31), (.ref b16)]))
            obtain ⟨cq32, kq32, qa32, qb32, qc32⟩ := isOf hZ e31 Ex_b16
            obtain ⟨_, _, ⟨T32, L32, k32, n32⟩, -, X32, ⟨Lc32, hQ32, l32, y32, z32⟩, st32⟩ := X31.virtualBack hx (y := (⟨"java/lang/String", "equals", "(Ljava/lang/Object;)Z"⟩ : MethodName)) (z := (⟨"java/lang/String", "equals", "(Ljava/lang/Object;)Z"⟩ : MethodName)) hown (mvT hZ (hw _ (List.mem_of_getElem? (i := 70) rfl))) (mvT hZ (hw _ (List.mem_of_getElem? (i := 58) rfl))) (notFace_of_selects (args := #[]) (mvT hZ (hw _ (List.mem_of_getElem? (i := 60) rfl)))) (mvT hZ (hw _ (List.mem_of_getElem? (i := 60) rfl))) (mvT hZ (hw _ (List.mem_of_getElem? (i := 59) rfl))) (by decide) (backOf (W := 0) (own_req l Z a0 hw [] b16 a31 o_COMPACT_STRINGS t17 b31 kb17 k31 (0 : Int32) (7 : Int32) ([] : List Int32) [(99 : Int32), (108 : Int32), (97 : Int32), (115 : Int32), (115 : Int32), (105 : Int32), (99 : Int32)] h31 n0 (Nat.le_trans Z0 Kp.1) O S_o_COMPACT_STRINGS Ex_b16 F_value_b16 F_coder_b16 Va17 Ex_a31 Fv_a31 Fc_a31 Va_b31 nz_o_COMPACT_STRINGS rfl rfl) hZ (hw _ (List.mem_of_getElem? (i := 61) rfl)) (hw _ (List.mem_of_getElem? (i := 7) rfl)) (by decide) (by decide)) qa32 qc32 (g := (mkF m 105 #[iv p1, .val (.long p2), .second, iv p3, iv kd, iv sh, iv ps, iv c1, iv c2, rv b16, rv o_TIERED, .val .null, .unset] [(.ref a31), (.ref b16)])) rfl (by rw [hml]; rfl) (Steps.refl _) (argsL := [(.ref a31)]) (rest := []) (lenOf own_pd__Ljava_lang_Object__Z rfl) rfl (by show 2 * 0 + _ ≤ _; exact Nat.le_of_eq rfl) (hb hby at_105) (fun _ _ => ⟨rfl, e31, (by decide : 9 + 0 ≤ _), (by decide : 54 + 0 ≤ _)⟩)
            dsimp only [Pt.U, Pt.locs, Pt.cells, Pt.slots] at X32 l32 y32 z32 st32 hQ32
            subst l32 y32 z32
            obtain ⟨hv32, Nq32, e32⟩ := hQ32
            rw [show own_eqv _ _ = (0 : Int32) from if_neg (fun q => hC q.symm)] at hv32
            subst hv32
            have N32 := Fr.app N30 Nq32
            refine own_goW (fun zt zk => st32.trans zk) ?_
            show own_GoW p e below s _ _ _ _ (T32.setTop (mkF m 108 #[iv p1, .val (.long p2), .second, iv p3, iv kd, iv sh, iv ps, iv c1, iv c2, rv b16, rv o_TIERED, .val .null, .unset] [(.int (0 : Int32))]))
            refine own_goW (fun zt zk => (XS.ifYes X32.here hx rfl (pc0 := 108) (pc' := 119) rfl (hb hby at_108) rfl ((if0 _ _).trans (teq (rfl : (0 : Int32) = (0 : Int32))).1) (by decide) (by decide) (XS.aload X32.here hx rfl (hb hby at_119) rfl rfl zk))) ?_
            show own_GoW p e below s _ _ _ _ (T32.setTop (mkF m 121 #[iv p1, .val (.long p2), .second, iv p3, iv kd, iv sh, iv ps, iv c1, iv c2, rv b16, rv o_TIERED, .val .null, .unset] [(.ref b16)]))
            obtain ⟨a33, T33, h33, q33, b33, k33, X33, e33, E33, hS33, hk33, hZ33, hown33, Ex_a33, Fc_a33, Fv_a33, Va_b33, lta33, ltb33, A33, Li33, Sn33, st33⟩ := ldcCH X32 hx hZ hown (hw _ (List.mem_of_getElem? (i := 71) rfl)) wS e32 hS hk hEL (by decide +kernel) Rc.1 (vs := [(.int (116 : Int32)), (.int (105 : Int32)), (.int (101 : Int32)), (.int (114 : Int32)), (.int (101 : Int32)), (.int (100 : Int32))]) (z := (6 : Int32)) ⟨by decide +kernel, by decide +kernel⟩ (by decide) rfl (g := (mkF m 121 #[iv p1, .val (.long p2), .second, iv p3, iv kd, iv sh, iv ps, iv c1, iv c2, rv b16, rv o_TIERED, .val .null, .unset] [(.ref b16)])) rfl (hb hby at_121) (n := 24) (by decide +kernel) (by decide) (by decide) (by decide)
            replace Sf_b16 := CHr.safe A33 Ex_b16.lt Sf_b16
            replace O := O.ext E33
            replace Kp := Kp.ext E33
            replace V_b12 := V_b12.ext E33
            replace Ex_b16 := Ex_b16.ext E33
            replace F_value_b16 := F_value_b16.ext E33
            replace F_coder_b16 := F_coder_b16.ext E33
            replace Va17 := Va17.ext E33
            replace Ex_a31 := Ex_a31.ext E33
            replace Fc_a31 := Fc_a31.ext E33
            replace Fv_a31 := Fv_a31.ext E33
            replace Va_b31 := Va_b31.ext E33
            replace Rc := Rc.trans A33
            replace hS := hS33
            replace hk := hk33
            replace hZ := hZ33
            replace hown := hown33
            refine own_goW st33 ?_
            have ne_b16_a33 := (Sn33 b16 Sf_b16).1
            have ne_b16_b33 := (Sn33 b16 Sf_b16).2
            show own_GoW p e below s _ _ _ _ (T33.setTop (mkF m 123 #[iv p1, .val (.long p2), .second, iv p3, iv kd, iv sh, iv ps, iv c1, iv c2, rv b16, rv o_TIERED, .val .null, .unset] [(.ref a33), (.ref b16)]))
            obtain ⟨cq34, kq34, qa34, qb34, qc34⟩ := isOf hZ e33 Ex_b16
            obtain ⟨_, _, ⟨T34, L34, k34, n34⟩, -, X34, ⟨Lc34, hQ34, l34, y34, z34⟩, st34⟩ := X33.virtualBack hx (y := (⟨"java/lang/String", "equals", "(Ljava/lang/Object;)Z"⟩ : MethodName)) (z := (⟨"java/lang/String", "equals", "(Ljava/lang/Object;)Z"⟩ : MethodName)) hown (mvT hZ (hw _ (List.mem_of_getElem? (i := 70) rfl))) (mvT hZ (hw _ (List.mem_of_getElem? (i := 58) rfl))) (notFace_of_selects (args := #[]) (mvT hZ (hw _ (List.mem_of_getElem? (i := 60) rfl)))) (mvT hZ (hw _ (List.mem_of_getElem? (i := 60) rfl))) (mvT hZ (hw _ (List.mem_of_getElem? (i := 59) rfl))) (by decide) (backOf (W := 0) (own_req l Z a0 hw [] b16 a33 o_COMPACT_STRINGS t17 b33 kb17 k33 (0 : Int32) (6 : Int32) ([] : List Int32) [(116 : Int32), (105 : Int32), (101 : Int32), (114 : Int32), (101 : Int32), (100 : Int32)] h33 n0 (Nat.le_trans Z0 Kp.1) O S_o_COMPACT_STRINGS Ex_b16 F_value_b16 F_coder_b16 Va17 Ex_a33 Fv_a33 Fc_a33 Va_b33 nz_o_COMPACT_STRINGS rfl rfl) hZ (hw _ (List.mem_of_getElem? (i := 61) rfl)) (hw _ (List.mem_of_getElem? (i := 7) rfl)) (by decide) (by decide)) qa34 qc34 (g := (mkF m 123 #[iv p1, .val (.long p2), .second, iv p3, iv kd, iv sh, iv ps, iv c1, iv c2, rv b16, rv o_TIERED, .val .null, .unset] [(.ref a33), (.ref b16)])) rfl (by rw [hml]; rfl) (Steps.refl _) (argsL := [(.ref a33)]) (rest := []) (lenOf own_pd__Ljava_lang_Object__Z rfl) rfl (by show 2 * 0 + _ ≤ _; exact Nat.le_of_eq rfl) (hb hby at_123) (fun _ _ => ⟨rfl, e33, (by decide : 11 + 0 ≤ _), (by decide : 82 + 0 ≤ _)⟩)
            dsimp only [Pt.U, Pt.locs, Pt.cells, Pt.slots] at X34 l34 y34 z34 st34 hQ34
            subst l34 y34 z34
            obtain ⟨hv34, Nq34, e34⟩ := hQ34
            rw [show own_eqv _ _ = (1 : Int32) from if_pos hT.symm] at hv34
            subst hv34
            have N34 := Fr.app N32 Nq34
            refine own_goW (fun zt zk => st34.trans zk) ?_
            show own_GoW p e below s _ _ _ _ (T34.setTop (mkF m 126 #[iv p1, .val (.long p2), .second, iv p3, iv kd, iv sh, iv ps, iv c1, iv c2, rv b16, rv o_TIERED, .val .null, .unset] [(.int (1 : Int32))]))
            refine own_goW (fun zt zk => (XS.ifNo X34.here hx rfl (hb hby at_126) rfl ((if0 _ _).trans (feq ((by decide) : ¬ ((1 : Int32) = (0 : Int32)))).1) zk)) ?_
            show own_GoW p e below s _ _ _ _ (T34.setTop (mkF m 129 #[iv p1, .val (.long p2), .second, iv p3, iv kd, iv sh, iv ps, iv c1, iv c2, rv b16, rv o_TIERED, .val .null, .unset] []))
            obtain ⟨T35, X35, e35, st35⟩ := getS2 X34 hx hZ hown (host := "") (Or.inl (hw _ (List.mem_of_getElem? (i := 78) rfl))) Via.refl e34 (S_o_TIERED.ext O.2) (g := (mkF m 129 #[iv p1, .val (.long p2), .second, iv p3, iv kd, iv sh, iv ps, iv c1, iv c2, rv b16, rv o_TIERED, .val .null, .unset] [])) rfl (hb hby at_129)
            refine own_goW st35 ?_
            show own_GoW p e below s _ _ _ _ (T35.setTop (mkF m 132 #[iv p1, .val (.long p2), .second, iv p3, iv kd, iv sh, iv ps, iv c1, iv c2, rv b16, rv o_TIERED, .val .null, .unset] [(.ref o_TIERED)]))
            refine own_goW (fun zt zk => (XS.astore X35.here hx rfl (hb hby at_132) rfl rfl (l' := #[iv p1, .val (.long p2), .second, iv p3, iv kd, iv sh, iv ps, iv c1, iv c2, rv b16, rv o_TIERED, rv o_TIERED, .unset]) rfl zk)) ?_
            show own_GoW p e below s _ _ _ _ (T35.setTop (mkF m 134 #[iv p1, .val (.long p2), .second, iv p3, iv kd, iv sh, iv ps, iv c1, iv c2, rv b16, rv o_TIERED, rv o_TIERED, .unset] []))
            obtain ⟨T36, X36, e36, st36⟩ := getS2 X35 hx hZ hown (host := "") (Or.inl (hw _ (List.mem_of_getElem? (i := 72) rfl))) Via.refl e35 (S_o_CLASSIC.ext O.2) (g := (mkF m 134 #[iv p1, .val (.long p2), .second, iv p3, iv kd, iv sh, iv ps, iv c1, iv c2, rv b16, rv o_TIERED, rv o_TIERED, .unset] [])) rfl (hb hby at_134)
            refine own_goW st36 ?_
            show own_GoW p e below s _ _ _ _ (T36.setTop (mkF m 137 #[iv p1, .val (.long p2), .second, iv p3, iv kd, iv sh, iv ps, iv c1, iv c2, rv b16, rv o_TIERED, rv o_TIERED, .unset] [(.ref o_CLASSIC)]))
            obtain ⟨cq37, kq37, qa37, qb37, qc37⟩ := isOf hZ e36 (Ex_o_CLASSIC.ext O.2)
            obtain ⟨_, _, ⟨T37, L37, k37, n37⟩, -, X37, ⟨Lc37, hQ37, l37, y37, z37⟩, st37⟩ := X36.virtualBack hx (y := (⟨"com/example/riskscan/riskscan/model/Profile", "code", "()Ljava/lang/String;"⟩ : MethodName)) (z := (⟨"com/example/riskscan/riskscan/model/Profile", "code", "()Ljava/lang/String;"⟩ : MethodName)) hown (mvT hZ (hw _ (List.mem_of_getElem? (i := 73) rfl))) (mvT hZ (hw _ (List.mem_of_getElem? (i := 74) rfl))) (notFace_of_selects (args := #[]) (mvT hZ (hw _ (List.mem_of_getElem? (i := 76) rfl)))) (mvT hZ (hw _ (List.mem_of_getElem? (i := 76) rfl))) (mvT hZ (hw _ (List.mem_of_getElem? (i := 75) rfl))) (by decide) (backOf (W := 0) (own_gcode l Z a0 hw [] o_CLASSIC o_CLASSIC_code h33 n0 (Nat.le_trans Z0 Kp.1) (F_o_CLASSIC_code.ext O.2)) hZ (hw _ (List.mem_of_getElem? (i := 77) rfl)) (hw _ (List.mem_of_getElem? (i := 36) rfl)) (by decide) (by decide)) qa37 qc37 (g := (mkF m 137 #[iv p1, .val (.long p2), .second, iv p3, iv kd, iv sh, iv ps, iv c1, iv c2, rv b16, rv o_TIERED, rv o_TIERED, .unset] [(.ref o_CLASSIC)])) rfl (by rw [hml]; rfl) (Steps.refl _) (argsL := []) (rest := []) (lenOf own_pd___Ljava_lang_String_ rfl) rfl (by show 2 * 0 + _ ≤ _; exact Nat.le_of_eq rfl) (hb hby at_137) (fun _ _ => ⟨rfl, e36, (by decide : 11 + 0 ≤ _), (by decide : 82 + 0 ≤ _)⟩)
            dsimp only [Pt.U, Pt.locs, Pt.cells, Pt.slots] at X37 l37 y37 z37 st37 hQ37
            subst l37 y37 z37
            obtain ⟨rfl, Nq37, e37⟩ := hQ37
            have N37 := Fr.app N34 Nq37
            refine own_goW (fun zt zk => st37.trans zk) ?_
            show own_GoW p e below s _ _ _ _ (T37.setTop (mkF m 140 #[iv p1, .val (.long p2), .second, iv p3, iv kd, iv sh, iv ps, iv c1, iv c2, rv b16, rv o_TIERED, rv o_TIERED, .unset] [(.ref o_CLASSIC_code)]))
            obtain ⟨_, _, ⟨T38, L38, k38, n38⟩, -, X38, ⟨Lc38, hQ38, l38, y38, z38⟩, st38⟩ := Jvm.LawKit.callS X37 hx (y := (⟨"com/example/riskscan/riskscan/model/Profile", "ofCode", "(Ljava/lang/String;)Lcom/example/riskscan/riskscan/model/Profile;"⟩ : MethodName)) hown (mvT hZ (hw _ (List.mem_of_getElem? (i := 34) rfl))) (mvT hZ (hw _ (List.mem_of_getElem? (i := 35) rfl))) (mvT hZ (hw _ (List.mem_of_getElem? (i := 36) rfl))) (mvT hZ (hw _ (List.mem_of_getElem? (i := 37) rfl))) (by decide) (backOf (W := 0) (own_rof0 l Z a0 hw [] o_CLASSIC_code o_CLASSIC_code_value k_o_CLASSIC_code_value (7 : Int32) [(99 : Int32), (108 : Int32), (97 : Int32), (115 : Int32), (115 : Int32), (105 : Int32), (99 : Int32)] o_COMPACT_STRINGS o__VALUES k_o__VALUES o_CLASSIC o_CLASSIC_code o_CLASSIC_code_value k_o_CLASSIC_code_value o_TIERED o_TIERED_code o_TIERED_code_value k_o_TIERED_code_value h33 n0 (Nat.le_trans Z0 Kp.1) O S_o_COMPACT_STRINGS S_o__VALUES V_o__VALUES Ex_o__VALUES Ex_o_CLASSIC F_o_CLASSIC_code Ex_o_CLASSIC_code F_o_CLASSIC_code_coder F_o_CLASSIC_code_value V_o_CLASSIC_code_value Ex_o_TIERED F_o_TIERED_code Ex_o_TIERED_code F_o_TIERED_code_coder F_o_TIERED_code_value V_o_TIERED_code_value (Ex_o_CLASSIC_code.ext O.2) (F_o_CLASSIC_code_value.ext O.2) (F_o_CLASSIC_code_coder.ext O.2) (V_o_CLASSIC_code_value.ext O.2) nz_o_COMPACT_STRINGS rfl rfl) hZ (hw _ (List.mem_of_getElem? (i := 37) rfl)) (hw _ (List.mem_of_getElem? (i := 36) rfl)) (by decide) (by decide)) (g := (mkF m 140 #[iv p1, .val (.long p2), .second, iv p3, iv kd, iv sh, iv ps, iv c1, iv c2, rv b16, rv o_TIERED, rv o_TIERED, .unset] [(.ref o_CLASSIC_code)])) rfl (by rw [hml]; rfl) (argsL := [(.ref o_CLASSIC_code)]) (rest := []) (lenOf own_pd__Ljava_lang_String__Lcom_example_riskscan_riskscan_model_Profile_ rfl) rfl (by show 2 * 0 + _ ≤ _; exact Nat.le_of_eq rfl) (hb hby at_140) (fun _ _ => ⟨rfl, e37, (by decide : 11 + 1 ≤ _), (by decide : 82 + 2 ≤ _)⟩)
            dsimp only [Pt.U, Pt.locs, Pt.cells, Pt.slots] at X38 l38 y38 z38 st38 hQ38
            subst l38 y38 z38
            obtain ⟨rfl, Nq38, K38⟩ := hQ38
            have N38 := Fr.app N37 Nq38
            refine own_goW st38 ?_
            have Sf_b16' := Safe.keep K38 all0 Rc.1 Sf_b16
            replace Rc := Rc.trans (CHr.keep K38 all0 Rc.1)
            replace hk := Nat.le_trans hk K38.1
            replace Sf_b16 := Sf_b16'
            replace O := O.keep K38 all0
            replace Kp := Kp.trans K38 all0
            replace V_b12 := V_b12.keep K38 nin0
            replace Ex_b16 := Ex_b16.keep K38
            replace F_value_b16 := F_value_b16.keep K38 nin0
            replace F_coder_b16 := F_coder_b16.keep K38 nin0
            replace Va17 := Va17.keep K38 nin0
            replace Ex_a31 := Ex_a31.keep K38
            replace Fc_a31 := Fc_a31.keep K38 nin0
            replace Fv_a31 := Fv_a31.keep K38 nin0
            replace Va_b31 := Va_b31.keep K38 nin0
            replace Ex_a33 := Ex_a33.keep K38
            replace Fc_a33 := Fc_a33.keep K38 nin0
            replace Fv_a33 := Fv_a33.keep K38 nin0
            replace Va_b33 := Va_b33.keep K38 nin0
            show own_GoW p e below s _ _ _ _ (T38.setTop (mkF m 143 #[iv p1, .val (.long p2), .second, iv p3, iv kd, iv sh, iv ps, iv c1, iv c2, rv b16, rv o_TIERED, rv o_TIERED, .unset] [(.ref o_CLASSIC)]))
            obtain ⟨T39, X39, e39, st39⟩ := getS2 X38 hx hZ hown (host := "") (Or.inl (hw _ (List.mem_of_getElem? (i := 72) rfl))) Via.refl rfl (S_o_CLASSIC.ext O.2) (g := (mkF m 143 #[iv p1, .val (.long p2), .second, iv p3, iv kd, iv sh, iv ps, iv c1, iv c2, rv b16, rv o_TIERED, rv o_TIERED, .unset] [(.ref o_CLASSIC)])) rfl (hb hby at_143)
            refine own_goW st39 ?_
            show own_GoW p e below s _ _ _ _ (T39.setTop (mkF m 146 #[iv p1, .val (.long p2), .second, iv p3, iv kd, iv sh, iv ps, iv c1, iv c2, rv b16, rv o_TIERED, rv o_TIERED, .unset] [(.ref o_CLASSIC), (.ref o_CLASSIC)]))
            refine own_goW (fun zt zk => Jvm.RoadKit.acmp (g := (mkF m 146 #[iv p1, .val (.long p2), .second, iv p3, iv kd, iv sh, iv ps, iv c1, iv c2, rv b16, rv o_TIERED, rv o_TIERED, .unset] [(.ref o_CLASSIC), (.ref o_CLASSIC)])) X39 hx rfl rfl rfl (pc0 := 146) (pc' := 149) (same := true) rfl (hb hby at_146) rfl (decide_eq_true rfl) (by decide) (by decide) zk) ?_
            show own_GoW p e below s _ _ _ _ (T39.setTop (mkF m 149 #[iv p1, .val (.long p2), .second, iv p3, iv kd, iv sh, iv ps, iv c1, iv c2, rv b16, rv o_TIERED, rv o_TIERED, .unset] []))
            obtain ⟨T40, X40, e40, st40⟩ := getS2 X39 hx hZ hown (host := "") (Or.inl (hw _ (List.mem_of_getElem? (i := 78) rfl))) Via.refl e39 (S_o_TIERED.ext O.2) (g := (mkF m 149 #[iv p1, .val (.long p2), .second, iv p3, iv kd, iv sh, iv ps, iv c1, iv c2, rv b16, rv o_TIERED, rv o_TIERED, .unset] [])) rfl (hb hby at_149)
            refine own_goW st40 ?_
            show own_GoW p e below s _ _ _ _ (T40.setTop (mkF m 152 #[iv p1, .val (.long p2), .second, iv p3, iv kd, iv sh, iv ps, iv c1, iv c2, rv b16, rv o_TIERED, rv o_TIERED, .unset] [(.ref o_TIERED)]))
            obtain ⟨cq41, kq41, qa41, qb41, qc41⟩ := isOf hZ e40 (Ex_o_TIERED.ext O.2)
            obtain ⟨_, _, ⟨T41, L41, k41, n41⟩, -, X41, ⟨Lc41, hQ41, l41, y41, z41⟩, st41⟩ := X40.virtualBack hx (y := (⟨"com/example/riskscan/riskscan/model/Profile", "code", "()Ljava/lang/String;"⟩ : MethodName)) (z := (⟨"com/example/riskscan/riskscan/model/Profile", "code", "()Ljava/lang/String;"⟩ : MethodName)) hown (mvT hZ (hw _ (List.mem_of_getElem? (i := 73) rfl))) (mvT hZ (hw _ (List.mem_of_getElem? (i := 74) rfl))) (notFace_of_selects (args := #[]) (mvT hZ (hw _ (List.mem_of_getElem? (i := 76) rfl)))) (mvT hZ (hw _ (List.mem_of_getElem? (i := 76) rfl))) (mvT hZ (hw _ (List.mem_of_getElem? (i := 75) rfl))) (by decide) (backOf (W := 0) (own_gcode l Z a0 hw [] o_TIERED o_TIERED_code T38.heap n0 (Nat.le_trans Z0 Kp.1) (F_o_TIERED_code.ext O.2)) hZ (hw _ (List.mem_of_getElem? (i := 77) rfl)) (hw _ (List.mem_of_getElem? (i := 36) rfl)) (by decide) (by decide)) qa41 qc41 (g := (mkF m 152 #[iv p1, .val (.long p2), .second, iv p3, iv kd, iv sh, iv ps, iv c1, iv c2, rv b16, rv o_TIERED, rv o_TIERED, .unset] [(.ref o_TIERED)])) rfl (by rw [hml]; rfl) (Steps.refl _) (argsL := []) (rest := []) (lenOf own_pd___Ljava_lang_String_ rfl) rfl (by show 2 * 0 + _ ≤ _; exact Nat.le_of_eq rfl) (hb hby at_152) (fun _ _ => ⟨rfl, e40, (by decide : 12 + 0 ≤ _), (by decide : 84 + 0 ≤ _)⟩)
            dsimp only [Pt.U, Pt.locs, Pt.cells, Pt.slots] at X41 l41 y41 z41 st41 hQ41
            subst l41 y41 z41
            obtain ⟨rfl, Nq41, e41⟩ := hQ41
            have N41 := Fr.app N38 Nq41
            refine own_goW (fun zt zk => st41.trans zk) ?_
            show own_GoW p e below s _ _ _ _ (T41.setTop (mkF m 155 #[iv p1, .val (.long p2), .second, iv p3, iv kd, iv sh, iv ps, iv c1, iv c2, rv b16, rv o_TIERED, rv o_TIERED, .unset] [(.ref o_TIERED_code)]))
            obtain ⟨_, _, ⟨T42, L42, k42, n42⟩, -, X42, ⟨Lc42, hQ42, l42, y42, z42⟩, st42⟩ := Jvm.LawKit.callS X41 hx (y := (⟨"com/example/riskscan/riskscan/model/Profile", "ofCode", "(Ljava/lang/String;)Lcom/example/riskscan/riskscan/model/Profile;"⟩ : MethodName)) hown (mvT hZ (hw _ (List.mem_of_getElem? (i := 34) rfl))) (mvT hZ (hw _ (List.mem_of_getElem? (i := 35) rfl))) (mvT hZ (hw _ (List.mem_of_getElem? (i := 36) rfl))) (mvT hZ (hw _ (List.mem_of_getElem? (i := 37) rfl))) (by decide) (backOf (W := 0) (own_rof1 l Z a0 hw [] o_TIERED_code o_TIERED_code_value k_o_TIERED_code_value (6 : Int32) [(116 : Int32), (105 : Int32), (101 : Int32), (114 : Int32), (101 : Int32), (100 : Int32)] o_COMPACT_STRINGS o__VALUES k_o__VALUES o_CLASSIC o_CLASSIC_code o_CLASSIC_code_value k_o_CLASSIC_code_value o_TIERED o_TIERED_code o_TIERED_code_value k_o_TIERED_code_value T38.heap n0 (Nat.le_trans Z0 Kp.1) O S_o_COMPACT_STRINGS S_o__VALUES V_o__VALUES Ex_o__VALUES Ex_o_CLASSIC F_o_CLASSIC_code Ex_o_CLASSIC_code F_o_CLASSIC_code_coder F_o_CLASSIC_code_value V_o_CLASSIC_code_value Ex_o_TIERED F_o_TIERED_code Ex_o_TIERED_code F_o_TIERED_code_coder F_o_TIERED_code_value V_o_TIERED_code_value (Ex_o_TIERED_code.ext O.2) (F_o_TIERED_code_value.ext O.2) (F_o_TIERED_code_coder.ext O.2) (V_o_TIERED_code_value.ext O.2) nz_o_COMPACT_STRINGS rfl (by decide) rfl) hZ (hw _ (List.mem_of_getElem? (i := 37) rfl)) (hw _ (List.mem_of_getElem? (i := 36) rfl)) (by decide) (by decide)) (g := (mkF m 155 #[iv p1, .val (.long p2), .second, iv p3, iv kd, iv sh, iv ps, iv c1, iv c2, rv b16, rv o_TIERED, rv o_TIERED, .unset] [(.ref o_TIERED_code)])) rfl (by rw [hml]; rfl) (argsL := [(.ref o_TIERED_code)]) (rest := []) (lenOf own_pd__Ljava_lang_String__Lcom_example_riskscan_riskscan_model_Profile_ rfl) rfl (by show 2 * 0 + _ ≤ _; exact Nat.le_of_eq rfl) (hb hby at_155) (fun _ _ => ⟨rfl, e41, (by decide : 12 + 1 ≤ _), (by decide : 84 + 2 ≤ _)⟩)
            dsimp only [Pt.U, Pt.locs, Pt.cells, Pt.slots] at X42 l42 y42 z42 st42 hQ42
            subst l42 y42 z42
            obtain ⟨rfl, Nq42, K42⟩ := hQ42
            have N42 := Fr.app N41 Nq42
            refine own_goW st42 ?_
            have Sf_b16' := Safe.keep K42 all0 Rc.1 Sf_b16
            replace Rc := Rc.trans (CHr.keep K42 all0 Rc.1)
            replace hk := Nat.le_trans hk K42.1
            replace Sf_b16 := Sf_b16'
            replace O := O.keep K42 all0
            replace Kp := Kp.trans K42 all0
            replace V_b12 := V_b12.keep K42 nin0
            replace Ex_b16 := Ex_b16.keep K42
            replace F_value_b16 := F_value_b16.keep K42 nin0
            replace F_coder_b16 := F_coder_b16.keep K42 nin0
            replace Va17 := Va17.keep K42 nin0
            replace Ex_a31 := Ex_a31.keep K42
            replace Fc_a31 := Fc_a31.keep K42 nin0
            replace Fv_a31 := Fv_a31.keep K42 nin0
            replace Va_b31 := Va_b31.keep K42 nin0
            replace Ex_a33 := Ex_a33.keep K42
            replace Fc_a33 := Fc_a33.keep K42 nin0
            replace Fv_a33 := Fv_a33.keep K42 nin0
            replace Va_b33 := Va_b33.keep K42 nin0
            show own_GoW p e below s _ _ _ _ (T42.setTop (mkF m 158 #[iv p1, .val (.long p2), .second, iv p3, iv kd, iv sh, iv ps, iv c1, iv c2, rv b16, rv o_TIERED, rv o_TIERED, .unset] [(.ref o_TIERED)]))
            obtain ⟨T43, X43, e43, st43⟩ := getS2 X42 hx hZ hown (host := "") (Or.inl (hw _ (List.mem_of_getElem? (i := 78) rfl))) Via.refl rfl (S_o_TIERED.ext O.2) (g := (mkF m 158 #[iv p1, .val (.long p2), .second, iv p3, iv kd, iv sh, iv ps, iv c1, iv c2, rv b16, rv o_TIERED, rv o_TIERED, .unset] [(.ref o_TIERED)])) rfl (hb hby at_158)
            refine own_goW st43 ?_
            show own_GoW p e below s _ _ _ _ (T43.setTop (mkF m 161 #[iv p1, .val (.long p2), .second, iv p3, iv kd, iv sh, iv ps, iv c1, iv c2, rv b16, rv o_TIERED, rv o_TIERED, .unset] [(.ref o_TIERED), (.ref o_TIERED)]))
            refine own_goW (fun zt zk => Jvm.RoadKit.acmp (g := (mkF m 161 #[iv p1, .val (.long p2), .second, iv p3, iv kd, iv sh, iv ps, iv c1, iv c2, rv b16, rv o_TIERED, rv o_TIERED, .unset] [(.ref o_TIERED), (.ref o_TIERED)])) X43 hx rfl rfl rfl (pc0 := 161) (pc' := 164) (same := true) rfl (hb hby at_161) rfl (decide_eq_true rfl) (by decide) (by decide) zk) ?_
            show own_GoW p e below s _ _ _ _ (T43.setTop (mkF m 164 #[iv p1, .val (.long p2), .second, iv p3, iv kd, iv sh, iv ps, iv c1, iv c2, rv b16, rv o_TIERED, rv o_TIERED, .unset] []))
            refine own_goW (fun zt zk => (XS.iconst X43.here hx rfl (hb hby at_164) (XS.goto X43.here hx rfl (pc0 := 165) (pc' := 169) rfl (hb hby at_165) (by decide) (by decide) (XS.istore X43.here hx rfl (hb hby at_169) rfl (l' := #[iv p1, .val (.long p2), .second, iv p3, iv kd, iv sh, iv ps, iv c1, iv c2, rv b16, rv o_TIERED, rv o_TIERED, iv (1 : Int32)]) rfl (XS.aload X43.here hx rfl (hb hby at_171) rfl rfl (XS.aload X43.here hx rfl (hb hby at_173) rfl rfl zk)))))) ?_
            show own_GoW p e below s _ _ _ _ (T43.setTop (mkF m 175 #[iv p1, .val (.long p2), .second, iv p3, iv kd, iv sh, iv ps, iv c1, iv c2, rv b16, rv o_TIERED, rv o_TIERED, iv (1 : Int32)] [(.ref o_TIERED), (.ref o_TIERED)]))
            refine own_goW (fun zt zk => Jvm.RoadKit.acmp (g := (mkF m 175 #[iv p1, .val (.long p2), .second, iv p3, iv kd, iv sh, iv ps, iv c1, iv c2, rv b16, rv o_TIERED, rv o_TIERED, iv (1 : Int32)] [(.ref o_TIERED), (.ref o_TIERED)])) X43 hx rfl rfl rfl (pc0 := 175) (pc' := 178) (same := true) rfl (hb hby at_175) rfl (decide_eq_true rfl) (by decide) (by decide) zk) ?_
            show own_GoW p e below s _ _ _ _ (T43.setTop (mkF m 178 #[iv p1, .val (.long p2), .second, iv p3, iv kd, iv sh, iv ps, iv c1, iv c2, rv b16, rv o_TIERED, rv o_TIERED, iv (1 : Int32)] []))
            refine own_goW (fun zt zk => (XS.iload X43.here hx rfl (hb hby at_178) rfl (XS.ifNo X43.here hx rfl (hb hby at_180) rfl ((if0 _ _).trans (feq ((by decide) : ¬ ((1 : Int32) = (0 : Int32)))).1) (XS.iconst X43.here hx rfl (hb hby at_183) (XS.goto X43.here hx rfl (pc0 := 184) (pc' := 188) rfl (hb hby at_184) (by decide) (by decide) zk))))) ?_
            show own_GoW p e below s _ _ _ _ (T43.setTop (mkF m 188 #[iv p1, .val (.long p2), .second, iv p3, iv kd, iv sh, iv ps, iv c1, iv c2, rv b16, rv o_TIERED, rv o_TIERED, iv (1 : Int32)] [(.int (1 : Int32))]))
            have Re := Rc.trans (CHv.at X43 hZ hEL Rc.1)
            exact own_finW X43 hS (by rw [e43]; exact hk) (by rw [e43, hh]; exact Re) Bd.notSynchronized (fun h => by rw [Bd.returns] at h; cases h) (fun fs hr => retN X43 hx (t := .boolean) Bd.returns (by simp) (hb hby at_188) hr) (by rw [e43]; exact ⟨rfl, N42⟩) (by decide) (by decide)
          · obtain ⟨_, _, ⟨T44, L44, k44, n44⟩, -, X44, ⟨Lc44, hQ44, l44, y44, z44⟩, st44⟩ := Jvm.LawKit.callS X17 hx (y := (⟨"com/example/riskscan/riskscan/model/Profile", "ofCode", "(Ljava/lang/String;)Lcom/example/riskscan/riskscan/model/Profile;"⟩ : MethodName)) hown (mvT hZ (hw _ (List.mem_of_getElem? (i := 34) rfl))) (mvT hZ (hw _ (List.mem_of_getElem? (i := 35) rfl))) (mvT hZ (hw _ (List.mem_of_getElem? (i := 36) rfl))) (mvT hZ (hw _ (List.mem_of_getElem? (i := 37) rfl))) (by decide) (backOf (W := 0) (own_rof2 l Z a0 hw [] b16 t17 kb17 (0 : Int32) ([] : List Int32) o_COMPACT_STRINGS o__VALUES k_o__VALUES o_CLASSIC o_CLASSIC_code o_CLASSIC_code_value k_o_CLASSIC_code_value o_TIERED o_TIERED_code o_TIERED_code_value k_o_TIERED_code_value T17.heap n0 (Nat.le_trans Z0 Kp.1) O S_o_COMPACT_STRINGS S_o__VALUES V_o__VALUES Ex_o__VALUES Ex_o_CLASSIC F_o_CLASSIC_code Ex_o_CLASSIC_code F_o_CLASSIC_code_coder F_o_CLASSIC_code_value V_o_CLASSIC_code_value Ex_o_TIERED F_o_TIERED_code Ex_o_TIERED_code F_o_TIERED_code_coder F_o_TIERED_code_value V_o_TIERED_code_value Ex_b16 F_value_b16 F_coder_b16 Va17 nz_o_COMPACT_STRINGS rfl hC hT) hZ (hw _ (List.mem_of_getElem? (i := 37) rfl)) (hw _ (List.mem_of_getElem? (i := 36) rfl)) (by decide) (by decide)) (g := (mkF m 88 #[iv p1, .val (.long p2), .second, iv p3, iv kd, iv sh, iv ps, iv c1, iv c2, rv b16, rv b12, .unset, .unset] [(.ref b16)])) rfl (by rw [hml]; rfl) (argsL := [(.ref b16)]) (rest := []) (lenOf own_pd__Ljava_lang_String__Lcom_example_riskscan_riskscan_model_Profile_ rfl) rfl (by show 2 * 0 + _ ≤ _; exact Nat.le_of_eq rfl) (hb hby at_88) (fun _ _ => ⟨rfl, rfl, (by decide : 6 + 1 ≤ _), (by decide : 20 + 2 ≤ _)⟩)
            dsimp only [Pt.U, Pt.locs, Pt.cells, Pt.slots] at X44 l44 y44 z44 st44 hQ44
            subst l44 y44 z44
            obtain ⟨rfl, Nq44, K44⟩ := hQ44
            have N44 := Fr.app N17 Nq44
            refine own_goW st44 ?_
            have Sf_b16' := Safe.keep K44 all0 Rc.1 Sf_b16
            replace Rc := Rc.trans (CHr.keep K44 all0 Rc.1)
            replace hk := Nat.le_trans hk K44.1
            replace Sf_b16 := Sf_b16'
            replace O := O.keep K44 all0
            replace Kp := Kp.trans K44 all0
            replace V_b12 := V_b12.keep K44 nin0
            replace Ex_b16 := Ex_b16.keep K44
            replace F_value_b16 := F_value_b16.keep K44 nin0
            replace F_coder_b16 := F_coder_b16.keep K44 nin0
            replace Va17 := Va17.keep K44 nin0
            show own_GoW p e below s _ _ _ _ (T44.setTop (mkF m 91 #[iv p1, .val (.long p2), .second, iv p3, iv kd, iv sh, iv ps, iv c1, iv c2, rv b16, rv b12, .unset, .unset] [.null]))
            refine own_goW (fun zt zk => (XS.astore X44.here hx rfl (hb hby at_91) rfl rfl (l' := #[iv p1, .val (.long p2), .second, iv p3, iv kd, iv sh, iv ps, iv c1, iv c2, rv b16, .val .null, .unset, .unset]) rfl (XS.aconstNull X44.here hx rfl (hb hby at_93) (XS.astore X44.here hx rfl (hb hby at_94) rfl rfl (l' := #[iv p1, .val (.long p2), .second, iv p3, iv kd, iv sh, iv ps, iv c1, iv c2, rv b16, .val .null, .val .null, .unset]) rfl (XS.aload X44.here hx rfl (hb hby at_96) rfl rfl (XS.ifnullNo X44.here hx rfl (hb hby at_98) rfl (XS.aload X44.here hx rfl (hb hby at_101) rfl rfl zk))))))) ?_
            show own_GoW p e below s _ _ _ _ (T44.setTop (mkF m 103 #[iv p1, .val (.long p2), .second, iv p3, iv kd, iv sh, iv ps, iv c1, iv c2, rv b16, .val .null, .val .null, .unset] [(.ref b16)]))
            obtain ⟨a45, T45, h45, q45, b45, k45, X45, e45, E45, hS45, hk45, hZ45, hown45, Ex_a45, Fc_a45, Fv_a45, Va_b45, lta45, ltb45, A45, Li45, Sn45, st45⟩ := ldcCH X44 hx hZ hown (hw _ (List.mem_of_getElem? (i := 67) rfl)) wS rfl hS hk hEL (by decide +kernel) Rc.1 (vs := [(.int (99 : Int32)), (.int (108 : Int32)), (.int (97 : Int32)), (.int (115 : Int32)), (.int (115 : Int32)), (.int (105 : Int32)), (.int (99 : Int32))]) (z := (7 : Int32)) ⟨by decide +kernel, by decide +kernel⟩ (by decide) rfl (g := (mkF m 103 #[iv p1, .val (.long p2), .second, iv p3, iv kd, iv sh, iv ps, iv c1, iv c2, rv b16, .val .null, .val .null, .unset] [(.ref b16)])) rfl (hb hby at_103) (n := 28) (by decide +kernel) (by decide) (by decide) (by decide)
            replace Sf_b16 := CHr.safe A45 Ex_b16.lt Sf_b16
            replace O := O.ext E45
            replace Kp := Kp.ext E45
            replace V_b12 := V_b12.ext E45
            replace Ex_b16 := Ex_b16.ext E45
            replace F_value_b16 := F_value_b16.ext E45
            replace F_coder_b16 := F_coder_b16.ext E45
            replace Va17 := Va17.ext E45
            replace Rc := Rc.trans A45
            replace hS := hS45
            replace hk := hk45
            replace hZ := hZ45
            replace hown := hown45
            refine own_goW st45 ?_
            have ne_b16_a45 := (Sn45 b16 Sf_b16).1
            have ne_b16_b45 := (Sn45 b16 Sf_b16).2
            show own_GoW p e below s _ _ _ _ (T45.setTop (mkF m 105 #[iv p1, .val (.long p2), .second, iv p3, iv kd, iv sh, iv ps, iv c1, iv c2, rv b16, .val .null, .val .null, .unset] [(.ref a45), (.ref b16)]))
            obtain ⟨cq46, kq46, qa46, qb46, qc46⟩ := isOf hZ e45 Ex_b16
            obtain ⟨_, _, ⟨T46, L46, k46, n46⟩, -, X46, ⟨Lc46, hQ46, l46, y46, z46⟩, st46⟩ := X45.virtualBack hx (y := (⟨"java/lang/String", "equals", "(Ljava/lang/Object;)Z"⟩ : MethodName)) (z := (⟨"java/lang/String", "equals", "(Ljava/lang/Object;)Z"⟩ : MethodName)) hown (mvT hZ (hw _ (List.mem_of_getElem? (i := 70) rfl))) (mvT hZ (hw _ (List.mem_of_getElem? (i := 58) rfl))) (notFace_of_selects (args := #[]) (mvT hZ (hw _ (List.mem_of_getElem? (i := 60) rfl)))) (mvT hZ (hw _ (List.mem_of_getElem? (i := 60) rfl))) (mvT hZ (hw _ (List.mem_of_getElem? (i := 59) rfl))) (by decide) (backOf (W := 0) (own_req l Z a0 hw [] b16 a45 o_COMPACT_STRINGS t17 b45 kb17 k45 (0 : Int32) (7 : Int32) ([] : List Int32) [(99 : Int32), (108 : Int32), (97 : Int32), (115 : Int32), (115 : Int32), (105 : Int32), (99 : Int32)] h45 n0 (Nat.le_trans Z0 Kp.1) O S_o_COMPACT_STRINGS Ex_b16 F_value_b16 F_coder_b16 Va17 Ex_a45 Fv_a45 Fc_a45 Va_b45 nz_o_COMPACT_STRINGS rfl rfl) hZ (hw _ (List.mem_of_getElem? (i := 61) rfl)) (hw _ (List.mem_of_getElem? (i := 7) rfl)) (by decide) (by decide)) qa46 qc46 (g := (mkF m 105 #[iv p1, .val (.long p2), .second, iv p3, iv kd, iv sh, iv ps, iv c1, iv c2, rv b16, .val .null, .val .null, .unset] [(.ref a45), (.ref b16)])) rfl (by rw [hml]; rfl) (Steps.refl _) (argsL := [(.ref a45)]) (rest := []) (lenOf own_pd__Ljava_lang_Object__Z rfl) rfl (by show 2 * 0 + _ ≤ _; exact Nat.le_of_eq rfl) (hb hby at_105) (fun _ _ => ⟨rfl, e45, (by decide : 9 + 0 ≤ _), (by decide : 54 + 0 ≤ _)⟩)
            dsimp only [Pt.U, Pt.locs, Pt.cells, Pt.slots] at X46 l46 y46 z46 st46 hQ46
            subst l46 y46 z46
            obtain ⟨hv46, Nq46, e46⟩ := hQ46
            rw [show own_eqv _ _ = (0 : Int32) from if_neg (fun q => hC q.symm)] at hv46
            subst hv46
            have N46 := Fr.app N44 Nq46
            refine own_goW (fun zt zk => st46.trans zk) ?_
            show own_GoW p e below s _ _ _ _ (T46.setTop (mkF m 108 #[iv p1, .val (.long p2), .second, iv p3, iv kd, iv sh, iv ps, iv c1, iv c2, rv b16, .val .null, .val .null, .unset] [(.int (0 : Int32))]))
            refine own_goW (fun zt zk => (XS.ifYes X46.here hx rfl (pc0 := 108) (pc' := 119) rfl (hb hby at_108) rfl ((if0 _ _).trans (teq (rfl : (0 : Int32) = (0 : Int32))).1) (by decide) (by decide) (XS.aload X46.here hx rfl (hb hby at_119) rfl rfl zk))) ?_
            show own_GoW p e below s _ _ _ _ (T46.setTop (mkF m 121 #[iv p1, .val (.long p2), .second, iv p3, iv kd, iv sh, iv ps, iv c1, iv c2, rv b16, .val .null, .val .null, .unset] [(.ref b16)]))
            obtain ⟨a47, T47, h47, q47, b47, k47, X47, e47, E47, hS47, hk47, hZ47, hown47, Ex_a47, Fc_a47, Fv_a47, Va_b47, lta47, ltb47, A47, Li47, Sn47, st47⟩ := ldcCH X46 hx hZ hown (hw _ (List.mem_of_getElem? (i := 71) rfl)) wS e46 hS hk hEL (by decide +kernel) Rc.1 (vs := [(.int (116 : Int32)), (.int (105 : Int32)), (.int (101 : Int32)), (.int (114 : Int32)), (.int (101 : Int32)), (.int (100 : Int32))]) (z := (6 : Int32)) ⟨by decide +kernel, by decide +kernel⟩ (by decide) rfl (g := (mkF m 121 #[iv p1, .val (.long p2), .second, iv p3, iv kd, iv sh, iv ps, iv c1, iv c2, rv b16, .val .null, .val .null, .unset] [(.ref b16)])) rfl (hb hby at_121) (n := 24) (by decide +kernel) (by decide) (by decide) (by decide)
            replace Sf_b16 := CHr.safe A47 Ex_b16.lt Sf_b16
            replace O := O.ext E47
            replace Kp := Kp.ext E47
            replace V_b12 := V_b12.ext E47
            replace Ex_b16 := Ex_b16.ext E47
            replace F_value_b16 := F_value_b16.ext E47
            replace F_coder_b16 := F_coder_b16.ext E47
            replace Va17 := Va17.ext E47
            replace Ex_a45 := Ex_a45.ext E47
            replace Fc_a45 := Fc_a45.ext E47
            replace Fv_a45 := Fv_a45.ext E47
            replace Va_b45 := Va_b45.ext E47
            replace Rc := Rc.trans A47
            replace hS := hS47
            replace hk := hk47
            replace hZ := hZ47
            replace hown := hown47
            refine own_goW st47 ?_
            have ne_b16_a47 := (Sn47 b16 Sf_b16).1
            have ne_b16_b47 := (Sn47 b16 Sf_b16).2
            show own_GoW p e below s _ _ _ _ (T47.setTop (mkF m 123 #[iv p1, .val (.long p2), .second, iv p3, iv kd, iv sh, iv ps, iv c1, iv c2, rv b16, .val .null, .val .null, .unset] [(.ref a47), (.ref b16)]))
            obtain ⟨cq48, kq48, qa48, qb48, qc48⟩ := isOf hZ e47 Ex_b16
            obtain ⟨_, _, ⟨T48, L48, k48, n48⟩, -, X48, ⟨Lc48, hQ48, l48, y48, z48⟩, st48⟩ := X47.virtualBack hx (y := (⟨"java/lang/String", "equals", "(Ljava/lang/Object;)Z"⟩ : MethodName)) (z := (⟨"java/lang/String", "equals", "(Ljava/lang/Object;)Z"⟩ : MethodName)) hown (mvT hZ (hw _ (List.mem_of_getElem? (i := 70) rfl))) (mvT hZ (hw _ (List.mem_of_getElem? (i := 58) rfl))) (notFace_of_selects (args := #[]) (mvT hZ (hw _ (List.mem_of_getElem? (i := 60) rfl)))) (mvT hZ (hw _ (List.mem_of_getElem? (i := 60) rfl))) (mvT hZ (hw _ (List.mem_of_getElem? (i := 59) rfl))) (by decide) (backOf (W := 0) (own_req l Z a0 hw [] b16 a47 o_COMPACT_STRINGS t17 b47 kb17 k47 (0 : Int32) (6 : Int32) ([] : List Int32) [(116 : Int32), (105 : Int32), (101 : Int32), (114 : Int32), (101 : Int32), (100 : Int32)] h47 n0 (Nat.le_trans Z0 Kp.1) O S_o_COMPACT_STRINGS Ex_b16 F_value_b16 F_coder_b16 Va17 Ex_a47 Fv_a47 Fc_a47 Va_b47 nz_o_COMPACT_STRINGS rfl rfl) hZ (hw _ (List.mem_of_getElem? (i := 61) rfl)) (hw _ (List.mem_of_getElem? (i := 7) rfl)) (by decide) (by decide)) qa48 qc48 (g := (mkF m 123 #[iv p1, .val (.long p2), .second, iv p3, iv kd, iv sh, iv ps, iv c1, iv c2, rv b16, .val .null, .val .null, .unset] [(.ref a47), (.ref b16)])) rfl (by rw [hml]; rfl) (Steps.refl _) (argsL := [(.ref a47)]) (rest := []) (lenOf own_pd__Ljava_lang_Object__Z rfl) rfl (by show 2 * 0 + _ ≤ _; exact Nat.le_of_eq rfl) (hb hby at_123) (fun _ _ => ⟨rfl, e47, (by decide : 11 + 0 ≤ _), (by decide : 82 + 0 ≤ _)⟩)
            dsimp only [Pt.U, Pt.locs, Pt.cells, Pt.slots] at X48 l48 y48 z48 st48 hQ48
            subst l48 y48 z48
            obtain ⟨hv48, Nq48, e48⟩ := hQ48
            rw [show own_eqv _ _ = (0 : Int32) from if_neg (fun q => hT q.symm)] at hv48
            subst hv48
            have N48 := Fr.app N46 Nq48
            refine own_goW (fun zt zk => st48.trans zk) ?_
            show own_GoW p e below s _ _ _ _ (T48.setTop (mkF m 126 #[iv p1, .val (.long p2), .second, iv p3, iv kd, iv sh, iv ps, iv c1, iv c2, rv b16, .val .null, .val .null, .unset] [(.int (0 : Int32))]))
            refine own_goW (fun zt zk => (XS.ifYes X48.here hx rfl (pc0 := 126) (pc' := 134) rfl (hb hby at_126) rfl ((if0 _ _).trans (teq (rfl : (0 : Int32) = (0 : Int32))).1) (by decide) (by decide) zk)) ?_
            show own_GoW p e below s _ _ _ _ (T48.setTop (mkF m 134 #[iv p1, .val (.long p2), .second, iv p3, iv kd, iv sh, iv ps, iv c1, iv c2, rv b16, .val .null, .val .null, .unset] []))
            obtain ⟨T49, X49, e49, st49⟩ := getS2 X48 hx hZ hown (host := "") (Or.inl (hw _ (List.mem_of_getElem? (i := 72) rfl))) Via.refl e48 (S_o_CLASSIC.ext O.2) (g := (mkF m 134 #[iv p1, .val (.long p2), .second, iv p3, iv kd, iv sh, iv ps, iv c1, iv c2, rv b16, .val .null, .val .null, .unset] [])) rfl (hb hby at_134)
            refine own_goW st49 ?_
            show own_GoW p e below s _ _ _ _ (T49.setTop (mkF m 137 #[iv p1, .val (.long p2), .second, iv p3, iv kd, iv sh, iv ps, iv c1, iv c2, rv b16, .val .null, .val .null, .unset] [(.ref o_CLASSIC)]))
            obtain ⟨cq50, kq50, qa50, qb50, qc50⟩ := isOf hZ e49 (Ex_o_CLASSIC.ext O.2)
            obtain ⟨_, _, ⟨T50, L50, k50, n50⟩, -, X50, ⟨Lc50, hQ50, l50, y50, z50⟩, st50⟩ := X49.virtualBack hx (y := (⟨"com/example/riskscan/riskscan/model/Profile", "code", "()Ljava/lang/String;"⟩ : MethodName)) (z := (⟨"com/example/riskscan/riskscan/model/Profile", "code", "()Ljava/lang/String;"⟩ : MethodName)) hown (mvT hZ (hw _ (List.mem_of_getElem? (i := 73) rfl))) (mvT hZ (hw _ (List.mem_of_getElem? (i := 74) rfl))) (notFace_of_selects (args := #[]) (mvT hZ (hw _ (List.mem_of_getElem? (i := 76) rfl)))) (mvT hZ (hw _ (List.mem_of_getElem? (i := 76) rfl))) (mvT hZ (hw _ (List.mem_of_getElem? (i := 75) rfl))) (by decide) (backOf (W := 0) (own_gcode l Z a0 hw [] o_CLASSIC o_CLASSIC_code h47 n0 (Nat.le_trans Z0 Kp.1) (F_o_CLASSIC_code.ext O.2)) hZ (hw _ (List.mem_of_getElem? (i := 77) rfl)) (hw _ (List.mem_of_getElem? (i := 36) rfl)) (by decide) (by decide)) qa50 qc50 (g := (mkF m 137 #[iv p1, .val (.long p2), .second, iv p3, iv kd, iv sh, iv ps, iv c1, iv c2, rv b16, .val .null, .val .null, .unset] [(.ref o_CLASSIC)])) rfl (by rw [hml]; rfl) (Steps.refl _) (argsL := []) (rest := []) (lenOf own_pd___Ljava_lang_String_ rfl) rfl (by show 2 * 0 + _ ≤ _; exact Nat.le_of_eq rfl) (hb hby at_137) (fun _ _ => ⟨rfl, e49, (by decide : 11 + 0 ≤ _), (by decide : 82 + 0 ≤ _)⟩)
            dsimp only [Pt.U, Pt.locs, Pt.cells, Pt.slots] at X50 l50 y50 z50 st50 hQ50
            subst l50 y50 z50
            obtain ⟨rfl, Nq50, e50⟩ := hQ50
            have N50 := Fr.app N48 Nq50
            refine own_goW (fun zt zk => st50.trans zk) ?_
            show own_GoW p e below s _ _ _ _ (T50.setTop (mkF m 140 #[iv p1, .val (.long p2), .second, iv p3, iv kd, iv sh, iv ps, iv c1, iv c2, rv b16, .val .null, .val .null, .unset] [(.ref o_CLASSIC_code)]))
            obtain ⟨_, _, ⟨T51, L51, k51, n51⟩, -, X51, ⟨Lc51, hQ51, l51, y51, z51⟩, st51⟩ := Jvm.LawKit.callS X50 hx (y := (⟨"com/example/riskscan/riskscan/model/Profile", "ofCode", "(Ljava/lang/String;)Lcom/example/riskscan/riskscan/model/Profile;"⟩ : MethodName)) hown (mvT hZ (hw _ (List.mem_of_getElem? (i := 34) rfl))) (mvT hZ (hw _ (List.mem_of_getElem? (i := 35) rfl))) (mvT hZ (hw _ (List.mem_of_getElem? (i := 36) rfl))) (mvT hZ (hw _ (List.mem_of_getElem? (i := 37) rfl))) (by decide) (backOf (W := 0) (own_rof0 l Z a0 hw [] o_CLASSIC_code o_CLASSIC_code_value k_o_CLASSIC_code_value (7 : Int32) [(99 : Int32), (108 : Int32), (97 : Int32), (115 : Int32), (115 : Int32), (105 : Int32), (99 : Int32)] o_COMPACT_STRINGS o__VALUES k_o__VALUES o_CLASSIC o_CLASSIC_code o_CLASSIC_code_value k_o_CLASSIC_code_value o_TIERED o_TIERED_code o_TIERED_code_value k_o_TIERED_code_value h47 n0 (Nat.le_trans Z0 Kp.1) O S_o_COMPACT_STRINGS S_o__VALUES V_o__VALUES Ex_o__VALUES Ex_o_CLASSIC F_o_CLASSIC_code Ex_o_CLASSIC_code F_o_CLASSIC_code_coder F_o_CLASSIC_code_value V_o_CLASSIC_code_value Ex_o_TIERED F_o_TIERED_code Ex_o_TIERED_code F_o_TIERED_code_coder F_o_TIERED_code_value V_o_TIERED_code_value (Ex_o_CLASSIC_code.ext O.2) (F_o_CLASSIC_code_value.ext O.2) (F_o_CLASSIC_code_coder.ext O.2) (V_o_CLASSIC_code_value.ext O.2) nz_o_COMPACT_STRINGS rfl rfl) hZ (hw _ (List.mem_of_getElem? (i := 37) rfl)) (hw _ (List.mem_of_getElem? (i := 36) rfl)) (by decide) (by decide)) (g := (mkF m 140 #[iv p1, .val (.long p2), .second, iv p3, iv kd, iv sh, iv ps, iv c1, iv c2, rv b16, .val .null, .val .null, .unset] [(.ref o_CLASSIC_code)])) rfl (by rw [hml]; rfl) (argsL := [(.ref o_CLASSIC_code)]) (rest := []) (lenOf own_pd__Ljava_lang_String__Lcom_example_riskscan_riskscan_model_Profile_ rfl) rfl (by show 2 * 0 + _ ≤ _; exact Nat.le_of_eq rfl) (hb hby at_140) (fun _ _ => ⟨rfl, e50, (by decide : 11 + 1 ≤ _), (by decide : 82 + 2 ≤ _)⟩)
            dsimp only [Pt.U, Pt.locs, Pt.cells, Pt.slots] at X51 l51 y51 z51 st51 hQ51
            subst l51 y51 z51
            obtain ⟨rfl, Nq51, K51⟩ := hQ51
            have N51 := Fr.app N50 Nq51
            refine own_goW st51 ?_
            have Sf_b16' := Safe.keep K51 all0 Rc.1 Sf_b16
            replace Rc := Rc.trans (CHr.keep K51 all0 Rc.1)
            replace hk := Nat.le_trans hk K51.1
            replace Sf_b16 := Sf_b16'
            replace O := O.keep K51 all0
            replace Kp := Kp.trans K51 all0
            replace V_b12 := V_b12.keep K51 nin0
            replace Ex_b16 := Ex_b16.keep K51
            replace F_value_b16 := F_value_b16.keep K51 nin0
            replace F_coder_b16 := F_coder_b16.keep K51 nin0
            replace Va17 := Va17.keep K51 nin0
            replace Ex_a45 := Ex_a45.keep K51
            replace Fc_a45 := Fc_a45.keep K51 nin0
            replace Fv_a45 := Fv_a45.keep K51 nin0
            replace Va_b45 := Va_b45.keep K51 nin0
            replace Ex_a47 := Ex_a47.keep K51
            replace Fc_a47 := Fc_a47.keep K51 nin0
            replace Fv_a47 := Fv_a47.keep K51 nin0
            replace Va_b47 := Va_b47.keep K51 nin0
            show own_GoW p e below s _ _ _ _ (T51.setTop (mkF m 143 #[iv p1, .val (.long p2), .second, iv p3, iv kd, iv sh, iv ps, iv c1, iv c2, rv b16, .val .null, .val .null, .unset] [(.ref o_CLASSIC)]))
            obtain ⟨T52, X52, e52, st52⟩ := getS2 X51 hx hZ hown (host := "") (Or.inl (hw _ (List.mem_of_getElem? (i := 72) rfl))) Via.refl rfl (S_o_CLASSIC.ext O.2) (g := (mkF m 143 #[iv p1, .val (.long p2), .second, iv p3, iv kd, iv sh, iv ps, iv c1, iv c2, rv b16, .val .null, .val .null, .unset] [(.ref o_CLASSIC)])) rfl (hb hby at_143)
            refine own_goW st52 ?_
            show own_GoW p e below s _ _ _ _ (T52.setTop (mkF m 146 #[iv p1, .val (.long p2), .second, iv p3, iv kd, iv sh, iv ps, iv c1, iv c2, rv b16, .val .null, .val .null, .unset] [(.ref o_CLASSIC), (.ref o_CLASSIC)]))
            refine own_goW (fun zt zk => Jvm.RoadKit.acmp (g := (mkF m 146 #[iv p1, .val (.long p2), .second, iv p3, iv kd, iv sh, iv ps, iv c1, iv c2, rv b16, .val .null, .val .null, .unset] [(.ref o_CLASSIC), (.ref o_CLASSIC)])) X52 hx rfl rfl rfl (pc0 := 146) (pc' := 149) (same := true) rfl (hb hby at_146) rfl (decide_eq_true rfl) (by decide) (by decide) zk) ?_
            show own_GoW p e below s _ _ _ _ (T52.setTop (mkF m 149 #[iv p1, .val (.long p2), .second, iv p3, iv kd, iv sh, iv ps, iv c1, iv c2, rv b16, .val .null, .val .null, .unset] []))
            obtain ⟨T53, X53, e53, st53⟩ := getS2 X52 hx hZ hown (host := "") (Or.inl (hw _ (List.mem_of_getElem? (i := 78) rfl))) Via.refl e52 (S_o_TIERED.ext O.2) (g := (mkF m 149 #[iv p1, .val (.long p2), .second, iv p3, iv kd, iv sh, iv ps, iv c1, iv c2, rv b16, .val .null, .val .null, .unset] [])) rfl (hb hby at_149)
            refine own_goW st53 ?_
            show own_GoW p e below s _ _ _ _ (T53.setTop (mkF m 152 #[iv p1, .val (.long p2), .second, iv p3, iv kd, iv sh, iv ps, iv c1, iv c2, rv b16, .val .null, .val .null, .unset] [(.ref o_TIERED)]))
            obtain ⟨cq54, kq54, qa54, qb54, qc54⟩ := isOf hZ e53 (Ex_o_TIERED.ext O.2)
            obtain ⟨_, _, ⟨T54, L54, k54, n54⟩, -, X54, ⟨Lc54, hQ54, l54, y54, z54⟩, st54⟩ := X53.virtualBack hx (y := (⟨"com/example/riskscan/riskscan/model/Profile", "code", "()Ljava/lang/String;"⟩ : MethodName)) (z := (⟨"com/example/riskscan/riskscan/model/Profile", "code", "()Ljava/lang/String;"⟩ : MethodName)) hown (mvT hZ (hw _ (List.mem_of_getElem? (i := 73) rfl))) (mvT hZ (hw _ (List.mem_of_getElem? (i := 74) rfl))) (notFace_of_selects (args := #[]) (mvT hZ (hw _ (List.mem_of_getElem? (i := 76) rfl)))) (mvT hZ (hw _ (List.mem_of_getElem? (i := 76) rfl))) (mvT hZ (hw _ (List.mem_of_getElem? (i := 75) rfl))) (by decide) (backOf (W := 0) (own_gcode l Z a0 hw [] o_TIERED o_TIERED_code T51.heap n0 (Nat.le_trans Z0 Kp.1) (F_o_TIERED_code.ext O.2)) hZ (hw _ (List.mem_of_getElem? (i := 77) rfl)) (hw _ (List.mem_of_getElem? (i := 36) rfl)) (by decide) (by decide)) qa54 qc54 (g := (mkF m 152 #[iv p1, .val (.long p2), .second, iv p3, iv kd, iv sh, iv ps, iv c1, iv c2, rv b16, .val .null, .val .null, .unset] [(.ref o_TIERED)])) rfl (by rw [hml]; rfl) (Steps.refl _) (argsL := []) (rest := []) (lenOf own_pd___Ljava_lang_String_ rfl) rfl (by show 2 * 0 + _ ≤ _; exact Nat.le_of_eq rfl) (hb hby at_152) (fun _ _ => ⟨rfl, e53, (by decide : 12 + 0 ≤ _), (by decide : 84 + 0 ≤ _)⟩)
            dsimp only [Pt.U, Pt.locs, Pt.cells, Pt.slots] at X54 l54 y54 z54 st54 hQ54
            subst l54 y54 z54
            obtain ⟨rfl, Nq54, e54⟩ := hQ54
            have N54 := Fr.app N51 Nq54
            refine own_goW (fun zt zk => st54.trans zk) ?_
            show own_GoW p e below s _ _ _ _ (T54.setTop (mkF m 155 #[iv p1, .val (.long p2), .second, iv p3, iv kd, iv sh, iv ps, iv c1, iv c2, rv b16, .val .null, .val .null, .unset] [(.ref o_TIERED_code)]))
            obtain ⟨_, _, ⟨T55, L55, k55, n55⟩, -, X55, ⟨Lc55, hQ55, l55, y55, z55⟩, st55⟩ := Jvm.LawKit.callS X54 hx (y := (⟨"com/example/riskscan/riskscan/model/Profile", "ofCode", "(Ljava/lang/String;)Lcom/example/riskscan/riskscan/model/Profile;"⟩ : MethodName)) hown (mvT hZ (hw _ (List.mem_of_getElem? (i := 34) rfl))) (mvT hZ (hw _ (List.mem_of_getElem? (i := 35) rfl))) (mvT hZ (hw _ (List.mem_of_getElem? (i := 36) rfl))) (mvT hZ (hw _ (List.mem_of_getElem? (i := 37) rfl))) (by decide) (backOf (W := 0) (own_rof1 l Z a0 hw [] o_TIERED_code o_TIERED_code_value k_o_TIERED_code_value (6 : Int32) [(116 : Int32), (105 : Int32), (101 : Int32), (114 : Int32), (101 : Int32), (100 : Int32)] o_COMPACT_STRINGS o__VALUES k_o__VALUES o_CLASSIC o_CLASSIC_code o_CLASSIC_code_value k_o_CLASSIC_code_value o_TIERED o_TIERED_code o_TIERED_code_value k_o_TIERED_code_value T51.heap n0 (Nat.le_trans Z0 Kp.1) O S_o_COMPACT_STRINGS S_o__VALUES V_o__VALUES Ex_o__VALUES Ex_o_CLASSIC F_o_CLASSIC_code Ex_o_CLASSIC_code F_o_CLASSIC_code_coder F_o_CLASSIC_code_value V_o_CLASSIC_code_value Ex_o_TIERED F_o_TIERED_code Ex_o_TIERED_code F_o_TIERED_code_coder F_o_TIERED_code_value V_o_TIERED_code_value (Ex_o_TIERED_code.ext O.2) (F_o_TIERED_code_value.ext O.2) (F_o_TIERED_code_coder.ext O.2) (V_o_TIERED_code_value.ext O.2) nz_o_COMPACT_STRINGS rfl (by decide) rfl) hZ (hw _ (List.mem_of_getElem? (i := 37) rfl)) (hw _ (List.mem_of_getElem? (i := 36) rfl)) (by decide) (by decide)) (g := (mkF m 155 #[iv p1, .val (.long p2), .second, iv p3, iv kd, iv sh, iv ps, iv c1, iv c2, rv b16, .val .null, .val .null, .unset] [(.ref o_TIERED_code)])) rfl (by rw [hml]; rfl) (argsL := [(.ref o_TIERED_code)]) (rest := []) (lenOf own_pd__Ljava_lang_String__Lcom_example_riskscan_riskscan_model_Profile_ rfl) rfl (by show 2 * 0 + _ ≤ _; exact Nat.le_of_eq rfl) (hb hby at_155) (fun _ _ => ⟨rfl, e54, (by decide : 12 + 1 ≤ _), (by decide : 84 + 2 ≤ _)⟩)
            dsimp only [Pt.U, Pt.locs, Pt.cells, Pt.slots] at X55 l55 y55 z55 st55 hQ55
            subst l55 y55 z55
            obtain ⟨rfl, Nq55, K55⟩ := hQ55
            have N55 := Fr.app N54 Nq55
            refine own_goW st55 ?_
            have Sf_b16' := Safe.keep K55 all0 Rc.1 Sf_b16
            replace Rc := Rc.trans (CHr.keep K55 all0 Rc.1)
            replace hk := Nat.le_trans hk K55.1
            replace Sf_b16 := Sf_b16'
            replace O := O.keep K55 all0
            replace Kp := Kp.trans K55 all0
            replace V_b12 := V_b12.keep K55 nin0
            replace Ex_b16 := Ex_b16.keep K55
            replace F_value_b16 := F_value_b16.keep K55 nin0
            replace F_coder_b16 := F_coder_b16.keep K55 nin0
            replace Va17 := Va17.keep K55 nin0
            replace Ex_a45 := Ex_a45.keep K55
            replace Fc_a45 := Fc_a45.keep K55 nin0
            replace Fv_a45 := Fv_a45.keep K55 nin0
            replace Va_b45 := Va_b45.keep K55 nin0
            replace Ex_a47 := Ex_a47.keep K55
            replace Fc_a47 := Fc_a47.keep K55 nin0
            replace Fv_a47 := Fv_a47.keep K55 nin0
            replace Va_b47 := Va_b47.keep K55 nin0
            show own_GoW p e below s _ _ _ _ (T55.setTop (mkF m 158 #[iv p1, .val (.long p2), .second, iv p3, iv kd, iv sh, iv ps, iv c1, iv c2, rv b16, .val .null, .val .null, .unset] [(.ref o_TIERED)]))
            obtain ⟨T56, X56, e56, st56⟩ := getS2 X55 hx hZ hown (host := "") (Or.inl (hw _ (List.mem_of_getElem? (i := 78) rfl))) Via.refl rfl (S_o_TIERED.ext O.2) (g := (mkF m 158 #[iv p1, .val (.long p2), .second, iv p3, iv kd, iv sh, iv ps, iv c1, iv c2, rv b16, .val .null, .val .null, .unset] [(.ref o_TIERED)])) rfl (hb hby at_158)
            refine own_goW st56 ?_
            show own_GoW p e below s _ _ _ _ (T56.setTop (mkF m 161 #[iv p1, .val (.long p2), .second, iv p3, iv kd, iv sh, iv ps, iv c1, iv c2, rv b16, .val .null, .val .null, .unset] [(.ref o_TIERED), (.ref o_TIERED)]))
            refine own_goW (fun zt zk => Jvm.RoadKit.acmp (g := (mkF m 161 #[iv p1, .val (.long p2), .second, iv p3, iv kd, iv sh, iv ps, iv c1, iv c2, rv b16, .val .null, .val .null, .unset] [(.ref o_TIERED), (.ref o_TIERED)])) X56 hx rfl rfl rfl (pc0 := 161) (pc' := 164) (same := true) rfl (hb hby at_161) rfl (decide_eq_true rfl) (by decide) (by decide) zk) ?_
            show own_GoW p e below s _ _ _ _ (T56.setTop (mkF m 164 #[iv p1, .val (.long p2), .second, iv p3, iv kd, iv sh, iv ps, iv c1, iv c2, rv b16, .val .null, .val .null, .unset] []))
            refine own_goW (fun zt zk => (XS.iconst X56.here hx rfl (hb hby at_164) (XS.goto X56.here hx rfl (pc0 := 165) (pc' := 169) rfl (hb hby at_165) (by decide) (by decide) (XS.istore X56.here hx rfl (hb hby at_169) rfl (l' := #[iv p1, .val (.long p2), .second, iv p3, iv kd, iv sh, iv ps, iv c1, iv c2, rv b16, .val .null, .val .null, iv (1 : Int32)]) rfl (XS.aload X56.here hx rfl (hb hby at_171) rfl rfl (XS.aload X56.here hx rfl (hb hby at_173) rfl rfl zk)))))) ?_
            show own_GoW p e below s _ _ _ _ (T56.setTop (mkF m 175 #[iv p1, .val (.long p2), .second, iv p3, iv kd, iv sh, iv ps, iv c1, iv c2, rv b16, .val .null, .val .null, iv (1 : Int32)] [.null, .null]))
            refine own_goW (fun zt zk => Jvm.RoadKit.acmp (g := (mkF m 175 #[iv p1, .val (.long p2), .second, iv p3, iv kd, iv sh, iv ps, iv c1, iv c2, rv b16, .val .null, .val .null, iv (1 : Int32)] [.null, .null])) X56 hx rfl rfl rfl (pc0 := 175) (pc' := 178) (same := true) rfl (hb hby at_175) rfl (decide_eq_true rfl) (by decide) (by decide) zk) ?_
            show own_GoW p e below s _ _ _ _ (T56.setTop (mkF m 178 #[iv p1, .val (.long p2), .second, iv p3, iv kd, iv sh, iv ps, iv c1, iv c2, rv b16, .val .null, .val .null, iv (1 : Int32)] []))
            refine own_goW (fun zt zk => (XS.iload X56.here hx rfl (hb hby at_178) rfl (XS.ifNo X56.here hx rfl (hb hby at_180) rfl ((if0 _ _).trans (feq ((by decide) : ¬ ((1 : Int32) = (0 : Int32)))).1) (XS.iconst X56.here hx rfl (hb hby at_183) (XS.goto X56.here hx rfl (pc0 := 184) (pc' := 188) rfl (hb hby at_184) (by decide) (by decide) zk))))) ?_
            show own_GoW p e below s _ _ _ _ (T56.setTop (mkF m 188 #[iv p1, .val (.long p2), .second, iv p3, iv kd, iv sh, iv ps, iv c1, iv c2, rv b16, .val .null, .val .null, iv (1 : Int32)] [(.int (1 : Int32))]))
            have Re := Rc.trans (CHv.at X56 hZ hEL Rc.1)
            exact own_finW X56 hS (by rw [e56]; exact hk) (by rw [e56, hh]; exact Re) Bd.notSynchronized (fun h => by rw [Bd.returns] at h; cases h) (fun fs hr => retN X56 hx (t := .boolean) Bd.returns (by simp) (hb hby at_188) hr) (by rw [e56]; exact ⟨rfl, N55⟩) (by decide) (by decide)
      · obtain ⟨_, _, ⟨T57, L57, k57, n57⟩, -, X57, ⟨Lc57, hQ57, l57, y57, z57⟩, st57⟩ := X16.specialBack hx (y := (⟨"java/lang/String", "<init>", "([C)V"⟩ : MethodName)) rfl hown (mvT hZ (hw _ (List.mem_of_getElem? (i := 8) rfl))) (mvT hZ (hw _ (List.mem_of_getElem? (i := 9) rfl))) (mvT hZ (hw _ (List.mem_of_getElem? (i := 10) rfl))) (by decide) (StrChars.Road.backV (W := 1) hZ (own_hnew Z a0 hw) (kI := 4) (hw _ (List.mem_of_getElem? (i := 6) rfl)) (cs := ds) (bs := ds.map (fun c => c.toInt8.toInt32)) (n := ds.length) g_b16 (Nat.le_trans Z0 Kp.1) Ex_b16 F_value_b16 F_coder_b16 V_b12 (S_o_COMPACT_STRINGS.ext O.2) nz_o_COMPACT_STRINGS rfl rfl (Nat.pos_of_ne_zero hz) (Nat.le_trans hdl (by decide)) hdr rfl (by decide) (by decide)) (g := (mkF m 81 #[iv p1, .val (.long p2), .second, iv p3, iv kd, iv sh, iv ps, iv c1, iv c2, .val .null, rv b12, .unset, .unset] [(.ref b12), (.ref b16), (.ref b16)])) rfl (by rw [hml]; rfl) (Steps.refl _) (a := b16) (argsL := [(.ref b12)]) (rest := [(.ref b16)]) (lenOf own_pd___C_V rfl) rfl (by show 2 * 0 + _ ≤ _; exact Nat.le_of_eq rfl) (hb hby at_81) (fun _ _ => ⟨rfl, e16, (by decide : 2 + 1 ≤ _), Nat.le_trans (Nat.add_le_add_left hdl _) (by decide : 12 + 8 ≤ _)⟩)
        dsimp only [Pt.U, Pt.locs, Pt.cells, Pt.slots] at X57 l57 y57 z57 st57 hQ57
        subst l57 y57 z57
        replace X57 := X57.mono (Nat.le_refl _) (Nat.add_le_add_left hdl 12)
        obtain ⟨rfl, Nq57, K57, -, Fc57, t57, kb57, -, sz57, -, Fv57, Vt57⟩ := hQ57
        have N57 := Fr.app N15 Nq57
        refine own_goW (fun zt zk => st57.trans zk) ?_
        have Sf_b16' := Safe.keep K57 (allS Sf_b16 all0) Rc.1 Sf_b16
        replace Rc := Rc.trans (CHr.keep K57 (allS Sf_b16 all0) Rc.1)
        replace hk := Nat.le_trans hk K57.1
        replace Sf_b16 := Sf_b16'
        replace O := O.keep K57 (allS g_b16 all0)
        replace Kp := Kp.trans K57 (allS (Or.inr sz_b16) all0)
        replace V_b12 := V_b12.keep K57 (ninS ne_b12_b16 nin0)
        replace Ex_b16 := Ex_b16.keep K57
        show own_GoW p e below s _ _ _ _ (T57.setTop (mkF m 84 #[iv p1, .val (.long p2), .second, iv p3, iv kd, iv sh, iv ps, iv c1, iv c2, .val .null, rv b12, .unset, .unset] [(.ref b16)]))
        have hxl : (Int32.ofNat ds.length).toNatClampNeg = (ds.map (fun c => c.toInt8.toInt32)).length := by rw [List.length_map]; exact (own_ofNat (by omega)).2
        refine own_goW (fun zt zk => (XS.astore X57.here hx rfl (hb hby at_84) rfl rfl (l' := #[iv p1, .val (.long p2), .second, iv p3, iv kd, iv sh, iv ps, iv c1, iv c2, rv b16, rv b12, .unset, .unset]) rfl (XS.aload X57.here hx rfl (hb hby at_86) rfl rfl zk))) ?_
        show own_GoW p e below s _ _ _ _ (T57.setTop (mkF m 88 #[iv p1, .val (.long p2), .second, iv p3, iv kd, iv sh, iv ps, iv c1, iv c2, rv b16, rv b12, .unset, .unset] [(.ref b16)]))
        by_cases hC : [(99 : Int32), (108 : Int32), (97 : Int32), (115 : Int32), (115 : Int32), (105 : Int32), (99 : Int32)] = (ds.map (fun c => c.toInt8.toInt32))
        · obtain ⟨_, _, ⟨T58, L58, k58, n58⟩, -, X58, ⟨Lc58, hQ58, l58, y58, z58⟩, st58⟩ := Jvm.LawKit.callS X57 hx (y := (⟨"com/example/riskscan/riskscan/model/Profile", "ofCode", "(Ljava/lang/String;)Lcom/example/riskscan/riskscan/model/Profile;"⟩ : MethodName)) hown (mvT hZ (hw _ (List.mem_of_getElem? (i := 34) rfl))) (mvT hZ (hw _ (List.mem_of_getElem? (i := 35) rfl))) (mvT hZ (hw _ (List.mem_of_getElem? (i := 36) rfl))) (mvT hZ (hw _ (List.mem_of_getElem? (i := 37) rfl))) (by decide) (backOf (W := 0) (own_rof0 l Z a0 hw [] b16 t57 kb57 (Int32.ofNat ds.length) (ds.map (fun c => c.toInt8.toInt32)) o_COMPACT_STRINGS o__VALUES k_o__VALUES o_CLASSIC o_CLASSIC_code o_CLASSIC_code_value k_o_CLASSIC_code_value o_TIERED o_TIERED_code o_TIERED_code_value k_o_TIERED_code_value T57.heap n0 (Nat.le_trans Z0 Kp.1) O S_o_COMPACT_STRINGS S_o__VALUES V_o__VALUES Ex_o__VALUES Ex_o_CLASSIC F_o_CLASSIC_code Ex_o_CLASSIC_code F_o_CLASSIC_code_coder F_o_CLASSIC_code_value V_o_CLASSIC_code_value Ex_o_TIERED F_o_TIERED_code Ex_o_TIERED_code F_o_TIERED_code_coder F_o_TIERED_code_value V_o_TIERED_code_value Ex_b16 Fv57 Fc57 Vt57 nz_o_COMPACT_STRINGS hxl hC) hZ (hw _ (List.mem_of_getElem? (i := 37) rfl)) (hw _ (List.mem_of_getElem? (i := 36) rfl)) (by decide) (by decide)) (g := (mkF m 88 #[iv p1, .val (.long p2), .second, iv p3, iv kd, iv sh, iv ps, iv c1, iv c2, rv b16, rv b12, .unset, .unset] [(.ref b16)])) rfl (by rw [hml]; rfl) (argsL := [(.ref b16)]) (rest := []) (lenOf own_pd__Ljava_lang_String__Lcom_example_riskscan_riskscan_model_Profile_ rfl) rfl (by show 2 * 0 + _ ≤ _; exact Nat.le_of_eq rfl) (hb hby at_88) (fun _ _ => ⟨rfl, rfl, (by decide : 3 + 1 ≤ _), (by decide : 20 + 2 ≤ _)⟩)
          dsimp only [Pt.U, Pt.locs, Pt.cells, Pt.slots] at X58 l58 y58 z58 st58 hQ58
          subst l58 y58 z58
          obtain ⟨rfl, Nq58, K58⟩ := hQ58
          have N58 := Fr.app N57 Nq58
          refine own_goW st58 ?_
          have Sf_b16' := Safe.keep K58 all0 Rc.1 Sf_b16
          replace Rc := Rc.trans (CHr.keep K58 all0 Rc.1)
          replace hk := Nat.le_trans hk K58.1
          replace Sf_b16 := Sf_b16'
          replace O := O.keep K58 all0
          replace Kp := Kp.trans K58 all0
          replace V_b12 := V_b12.keep K58 nin0
          replace Ex_b16 := Ex_b16.keep K58
          replace Fc57 := Fc57.keep K58 nin0
          replace Fv57 := Fv57.keep K58 nin0
          replace Vt57 := Vt57.keep K58 nin0
          show own_GoW p e below s _ _ _ _ (T58.setTop (mkF m 91 #[iv p1, .val (.long p2), .second, iv p3, iv kd, iv sh, iv ps, iv c1, iv c2, rv b16, rv b12, .unset, .unset] [(.ref o_CLASSIC)]))
          refine own_goW (fun zt zk => (XS.astore X58.here hx rfl (hb hby at_91) rfl rfl (l' := #[iv p1, .val (.long p2), .second, iv p3, iv kd, iv sh, iv ps, iv c1, iv c2, rv b16, rv o_CLASSIC, .unset, .unset]) rfl (XS.aconstNull X58.here hx rfl (hb hby at_93) (XS.astore X58.here hx rfl (hb hby at_94) rfl rfl (l' := #[iv p1, .val (.long p2), .second, iv p3, iv kd, iv sh, iv ps, iv c1, iv c2, rv b16, rv o_CLASSIC, .val .null, .unset]) rfl (XS.aload X58.here hx rfl (hb hby at_96) rfl rfl (XS.ifnullNo X58.here hx rfl (hb hby at_98) rfl (XS.aload X58.here hx rfl (hb hby at_101) rfl rfl zk))))))) ?_
          show own_GoW p e below s _ _ _ _ (T58.setTop (mkF m 103 #[iv p1, .val (.long p2), .second, iv p3, iv kd, iv sh, iv ps, iv c1, iv c2, rv b16, rv o_CLASSIC, .val .null, .unset] [(.ref b16)]))
          obtain ⟨a59, T59, h59, q59, b59, k59, X59, e59, E59, hS59, hk59, hZ59, hown59, Ex_a59, Fc_a59, Fv_a59, Va_b59, lta59, ltb59, A59, Li59, Sn59, st59⟩ := ldcCH X58 hx hZ hown (hw _ (List.mem_of_getElem? (i := 67) rfl)) wS rfl hS hk hEL (by decide +kernel) Rc.1 (vs := [(.int (99 : Int32)), (.int (108 : Int32)), (.int (97 : Int32)), (.int (115 : Int32)), (.int (115 : Int32)), (.int (105 : Int32)), (.int (99 : Int32))]) (z := (7 : Int32)) ⟨by decide +kernel, by decide +kernel⟩ (by decide) rfl (g := (mkF m 103 #[iv p1, .val (.long p2), .second, iv p3, iv kd, iv sh, iv ps, iv c1, iv c2, rv b16, rv o_CLASSIC, .val .null, .unset] [(.ref b16)])) rfl (hb hby at_103) (n := 28) (by decide +kernel) (by decide) (by decide) (by decide)
          replace Sf_b16 := CHr.safe A59 Ex_b16.lt Sf_b16
          replace O := O.ext E59
          replace Kp := Kp.ext E59
          replace V_b12 := V_b12.ext E59
          replace Ex_b16 := Ex_b16.ext E59
          replace Fc57 := Fc57.ext E59
          replace Fv57 := Fv57.ext E59
          replace Vt57 := Vt57.ext E59
          replace Rc := Rc.trans A59
          replace hS := hS59
          replace hk := hk59
          replace hZ := hZ59
          replace hown := hown59
          refine own_goW st59 ?_
          have ne_b16_a59 := (Sn59 b16 Sf_b16).1
          have ne_b16_b59 := (Sn59 b16 Sf_b16).2
          show own_GoW p e below s _ _ _ _ (T59.setTop (mkF m 105 #[iv p1, .val (.long p2), .second, iv p3, iv kd, iv sh, iv ps, iv c1, iv c2, rv b16, rv o_CLASSIC, .val .null, .unset] [(.ref a59), (.ref b16)]))
          obtain ⟨cq60, kq60, qa60, qb60, qc60⟩ := isOf hZ e59 Ex_b16
          obtain ⟨_, _, ⟨T60, L60, k60, n60⟩, -, X60, ⟨Lc60, hQ60, l60, y60, z60⟩, st60⟩ := X59.virtualBack hx (y := (⟨"java/lang/String", "equals", "(Ljava/lang/Object;)Z"⟩ : MethodName)) (z := (⟨"java/lang/String", "equals", "(Ljava/lang/Object;)Z"⟩ : MethodName)) hown (mvT hZ (hw _ (List.mem_of_getElem? (i := 70) rfl))) (mvT hZ (hw _ (List.mem_of_getElem? (i := 58) rfl))) (notFace_of_selects (args := #[]) (mvT hZ (hw _ (List.mem_of_getElem? (i := 60) rfl)))) (mvT hZ (hw _ (List.mem_of_getElem? (i := 60) rfl))) (mvT hZ (hw _ (List.mem_of_getElem? (i := 59) rfl))) (by decide) (backOf (W := 0) (own_req l Z a0 hw [] b16 a59 o_COMPACT_STRINGS t57 b59 kb57 k59 (Int32.ofNat ds.length) (7 : Int32) (ds.map (fun c => c.toInt8.toInt32)) [(99 : Int32), (108 : Int32), (97 : Int32), (115 : Int32), (115 : Int32), (105 : Int32), (99 : Int32)] h59 n0 (Nat.le_trans Z0 Kp.1) O S_o_COMPACT_STRINGS Ex_b16 Fv57 Fc57 Vt57 Ex_a59 Fv_a59 Fc_a59 Va_b59 nz_o_COMPACT_STRINGS hxl rfl) hZ (hw _ (List.mem_of_getElem? (i := 61) rfl)) (hw _ (List.mem_of_getElem? (i := 7) rfl)) (by decide) (by decide)) qa60 qc60 (g := (mkF m 105 #[iv p1, .val (.long p2), .second, iv p3, iv kd, iv sh, iv ps, iv c1, iv c2, rv b16, rv o_CLASSIC, .val .null, .unset] [(.ref a59), (.ref b16)])) rfl (by rw [hml]; rfl) (Steps.refl _) (argsL := [(.ref a59)]) (rest := []) (lenOf own_pd__Ljava_lang_Object__Z rfl) rfl (by show 2 * 0 + _ ≤ _; exact Nat.le_of_eq rfl) (hb hby at_105) (fun _ _ => ⟨rfl, e59, (by decide : 6 + 0 ≤ _), (by decide : 54 + 0 ≤ _)⟩)
          dsimp only [Pt.U, Pt.locs, Pt.cells, Pt.slots] at X60 l60 y60 z60 st60 hQ60
          subst l60 y60 z60
          obtain ⟨hv60, Nq60, e60⟩ := hQ60
          rw [show own_eqv _ _ = (1 : Int32) from if_pos hC.symm] at hv60
          subst hv60
          have N60 := Fr.app N58 Nq60
          refine own_goW (fun zt zk => st60.trans zk) ?_
          show own_GoW p e below s _ _ _ _ (T60.setTop (mkF m 108 #[iv p1, .val (.long p2), .second, iv p3, iv kd, iv sh, iv ps, iv c1, iv c2, rv b16, rv o_CLASSIC, .val .null, .unset] [(.int (1 : Int32))]))
          refine own_goW (fun zt zk => (XS.ifNo X60.here hx rfl (hb hby at_108) rfl ((if0 _ _).trans (feq ((by decide) : ¬ ((1 : Int32) = (0 : Int32)))).1) zk)) ?_
          show own_GoW p e below s _ _ _ _ (T60.setTop (mkF m 111 #[iv p1, .val (.long p2), .second, iv p3, iv kd, iv sh, iv ps, iv c1, iv c2, rv b16, rv o_CLASSIC, .val .null, .unset] []))
          obtain ⟨T61, X61, e61, st61⟩ := getS2 X60 hx hZ hown (host := "") (Or.inl (hw _ (List.mem_of_getElem? (i := 72) rfl))) Via.refl e60 (S_o_CLASSIC.ext O.2) (g := (mkF m 111 #[iv p1, .val (.long p2), .second, iv p3, iv kd, iv sh, iv ps, iv c1, iv c2, rv b16, rv o_CLASSIC, .val .null, .unset] [])) rfl (hb hby at_111)
          refine own_goW st61 ?_
          show own_GoW p e below s _ _ _ _ (T61.setTop (mkF m 114 #[iv p1, .val (.long p2), .second, iv p3, iv kd, iv sh, iv ps, iv c1, iv c2, rv b16, rv o_CLASSIC, .val .null, .unset] [(.ref o_CLASSIC)]))
          refine own_goW (fun zt zk => (XS.astore X61.here hx rfl (hb hby at_114) rfl rfl (l' := #[iv p1, .val (.long p2), .second, iv p3, iv kd, iv sh, iv ps, iv c1, iv c2, rv b16, rv o_CLASSIC, rv o_CLASSIC, .unset]) rfl (XS.goto X61.here hx rfl (pc0 := 116) (pc' := 134) rfl (hb hby at_116) (by decide) (by decide) zk))) ?_
          show own_GoW p e below s _ _ _ _ (T61.setTop (mkF m 134 #[iv p1, .val (.long p2), .second, iv p3, iv kd, iv sh, iv ps, iv c1, iv c2, rv b16, rv o_CLASSIC, rv o_CLASSIC, .unset] []))
          obtain ⟨T62, X62, e62, st62⟩ := getS2 X61 hx hZ hown (host := "") (Or.inl (hw _ (List.mem_of_getElem? (i := 72) rfl))) Via.refl e61 (S_o_CLASSIC.ext O.2) (g := (mkF m 134 #[iv p1, .val (.long p2), .second, iv p3, iv kd, iv sh, iv ps, iv c1, iv c2, rv b16, rv o_CLASSIC, rv o_CLASSIC, .unset] [])) rfl (hb hby at_134)
          refine own_goW st62 ?_
          show own_GoW p e below s _ _ _ _ (T62.setTop (mkF m 137 #[iv p1, .val (.long p2), .second, iv p3, iv kd, iv sh, iv ps, iv c1, iv c2, rv b16, rv o_CLASSIC, rv o_CLASSIC, .unset] [(.ref o_CLASSIC)]))
          obtain ⟨cq63, kq63, qa63, qb63, qc63⟩ := isOf hZ e62 (Ex_o_CLASSIC.ext O.2)
          obtain ⟨_, _, ⟨T63, L63, k63, n63⟩, -, X63, ⟨Lc63, hQ63, l63, y63, z63⟩, st63⟩ := X62.virtualBack hx (y := (⟨"com/example/riskscan/riskscan/model/Profile", "code", "()Ljava/lang/String;"⟩ : MethodName)) (z := (⟨"com/example/riskscan/riskscan/model/Profile", "code", "()Ljava/lang/String;"⟩ : MethodName)) hown (mvT hZ (hw _ (List.mem_of_getElem? (i := 73) rfl))) (mvT hZ (hw _ (List.mem_of_getElem? (i := 74) rfl))) (notFace_of_selects (args := #[]) (mvT hZ (hw _ (List.mem_of_getElem? (i := 76) rfl)))) (mvT hZ (hw _ (List.mem_of_getElem? (i := 76) rfl))) (mvT hZ (hw _ (List.mem_of_getElem? (i := 75) rfl))) (by decide) (backOf (W := 0) (own_gcode l Z a0 hw [] o_CLASSIC o_CLASSIC_code h59 n0 (Nat.le_trans Z0 Kp.1) (F_o_CLASSIC_code.ext O.2)) hZ (hw _ (List.mem_of_getElem? (i := 77) rfl)) (hw _ (List.mem_of_getElem? (i := 36) rfl)) (by decide) (by decide)) qa63 qc63 (g := (mkF m 137 #[iv p1, .val (.long p2), .second, iv p3, iv kd, iv sh, iv ps, iv c1, iv c2, rv b16, rv o_CLASSIC, rv o_CLASSIC, .unset] [(.ref o_CLASSIC)])) rfl (by rw [hml]; rfl) (Steps.refl _) (argsL := []) (rest := []) (lenOf own_pd___Ljava_lang_String_ rfl) rfl (by show 2 * 0 + _ ≤ _; exact Nat.le_of_eq rfl) (hb hby at_137) (fun _ _ => ⟨rfl, e62, (by decide : 6 + 0 ≤ _), (by decide : 54 + 0 ≤ _)⟩)
          dsimp only [Pt.U, Pt.locs, Pt.cells, Pt.slots] at X63 l63 y63 z63 st63 hQ63
          subst l63 y63 z63
          obtain ⟨rfl, Nq63, e63⟩ := hQ63
          have N63 := Fr.app N60 Nq63
          refine own_goW (fun zt zk => st63.trans zk) ?_
          show own_GoW p e below s _ _ _ _ (T63.setTop (mkF m 140 #[iv p1, .val (.long p2), .second, iv p3, iv kd, iv sh, iv ps, iv c1, iv c2, rv b16, rv o_CLASSIC, rv o_CLASSIC, .unset] [(.ref o_CLASSIC_code)]))
          obtain ⟨_, _, ⟨T64, L64, k64, n64⟩, -, X64, ⟨Lc64, hQ64, l64, y64, z64⟩, st64⟩ := Jvm.LawKit.callS X63 hx (y := (⟨"com/example/riskscan/riskscan/model/Profile", "ofCode", "(Ljava/lang/String;)Lcom/example/riskscan/riskscan/model/Profile;"⟩ : MethodName)) hown (mvT hZ (hw _ (List.mem_of_getElem? (i := 34) rfl))) (mvT hZ (hw _ (List.mem_of_getElem? (i := 35) rfl))) (mvT hZ (hw _ (List.mem_of_getElem? (i := 36) rfl))) (mvT hZ (hw _ (List.mem_of_getElem? (i := 37) rfl))) (by decide) (backOf (W := 0) (own_rof0 l Z a0 hw [] o_CLASSIC_code o_CLASSIC_code_value k_o_CLASSIC_code_value (7 : Int32) [(99 : Int32), (108 : Int32), (97 : Int32), (115 : Int32), (115 : Int32), (105 : Int32), (99 : Int32)] o_COMPACT_STRINGS o__VALUES k_o__VALUES o_CLASSIC o_CLASSIC_code o_CLASSIC_code_value k_o_CLASSIC_code_value o_TIERED o_TIERED_code o_TIERED_code_value k_o_TIERED_code_value h59 n0 (Nat.le_trans Z0 Kp.1) O S_o_COMPACT_STRINGS S_o__VALUES V_o__VALUES Ex_o__VALUES Ex_o_CLASSIC F_o_CLASSIC_code Ex_o_CLASSIC_code F_o_CLASSIC_code_coder F_o_CLASSIC_code_value V_o_CLASSIC_code_value Ex_o_TIERED F_o_TIERED_code Ex_o_TIERED_code F_o_TIERED_code_coder F_o_TIERED_code_value V_o_TIERED_code_value (Ex_o_CLASSIC_code.ext O.2) (F_o_CLASSIC_code_value.ext O.2) (F_o_CLASSIC_code_coder.ext O.2) (V_o_CLASSIC_code_value.ext O.2) nz_o_COMPACT_STRINGS rfl rfl) hZ (hw _ (List.mem_of_getElem? (i := 37) rfl)) (hw _ (List.mem_of_getElem? (i := 36) rfl)) (by decide) (by decide)) (g := (mkF m 140 #[iv p1, .val (.long p2), .second, iv p3, iv kd, iv sh, iv ps, iv c1, iv c2, rv b16, rv o_CLASSIC, rv o_CLASSIC, .unset] [(.ref o_CLASSIC_code)])) rfl (by rw [hml]; rfl) (argsL := [(.ref o_CLASSIC_code)]) (rest := []) (lenOf own_pd__Ljava_lang_String__Lcom_example_riskscan_riskscan_model_Profile_ rfl) rfl (by show 2 * 0 + _ ≤ _; exact Nat.le_of_eq rfl) (hb hby at_140) (fun _ _ => ⟨rfl, e63, (by decide : 6 + 1 ≤ _), (by decide : 54 + 2 ≤ _)⟩)
          dsimp only [Pt.U, Pt.locs, Pt.cells, Pt.slots] at X64 l64 y64 z64 st64 hQ64
          subst l64 y64 z64
          obtain ⟨rfl, Nq64, K64⟩ := hQ64
          have N64 := Fr.app N63 Nq64
          refine own_goW st64 ?_
          have Sf_b16' := Safe.keep K64 all0 Rc.1 Sf_b16
          replace Rc := Rc.trans (CHr.keep K64 all0 Rc.1)
          replace hk := Nat.le_trans hk K64.1
          replace Sf_b16 := Sf_b16'
          replace O := O.keep K64 all0
          replace Kp := Kp.trans K64 all0
          replace V_b12 := V_b12.keep K64 nin0
          replace Ex_b16 := Ex_b16.keep K64
          replace Fc57 := Fc57.keep K64 nin0
          replace Fv57 := Fv57.keep K64 nin0
          replace Vt57 := Vt57.keep K64 nin0
          replace Ex_a59 := Ex_a59.keep K64
          replace Fc_a59 := Fc_a59.keep K64 nin0
          replace Fv_a59 := Fv_a59.keep K64 nin0
          replace Va_b59 := Va_b59.keep K64 nin0
          show own_GoW p e below s _ _ _ _ (T64.setTop (mkF m 143 #[iv p1, .val (.long p2), .second, iv p3, iv kd, iv sh, iv ps, iv c1, iv c2, rv b16, rv o_CLASSIC, rv o_CLASSIC, .unset] [(.ref o_CLASSIC)]))
          obtain ⟨T65, X65, e65, st65⟩ := getS2 X64 hx hZ hown (host := "") (Or.inl (hw _ (List.mem_of_getElem? (i := 72) rfl))) Via.refl rfl (S_o_CLASSIC.ext O.2) (g := (mkF m 143 #[iv p1, .val (.long p2), .second, iv p3, iv kd, iv sh, iv ps, iv c1, iv c2, rv b16, rv o_CLASSIC, rv o_CLASSIC, .unset] [(.ref o_CLASSIC)])) rfl (hb hby at_143)
          refine own_goW st65 ?_
          show own_GoW p e below s _ _ _ _ (T65.setTop (mkF m 146 #[iv p1, .val (.long p2), .second, iv p3, iv kd, iv sh, iv ps, iv c1, iv c2, rv b16, rv o_CLASSIC, rv o_CLASSIC, .unset] [(.ref o_CLASSIC), (.ref o_CLASSIC)]))
          refine own_goW (fun zt zk => Jvm.RoadKit.acmp (g := (mkF m 146 #[iv p1, .val (.long p2), .second, iv p3, iv kd, iv sh, iv ps, iv c1, iv c2, rv b16, rv o_CLASSIC, rv o_CLASSIC, .unset] [(.ref o_CLASSIC), (.ref o_CLASSIC)])) X65 hx rfl rfl rfl (pc0 := 146) (pc' := 149) (same := true) rfl (hb hby at_146) rfl (decide_eq_true rfl) (by decide) (by decide) zk) ?_
          show own_GoW p e below s _ _ _ _ (T65.setTop (mkF m 149 #[iv p1, .val (.long p2), .second, iv p3, iv kd, iv sh, iv ps, iv c1, iv c2, rv b16, rv o_CLASSIC, rv o_CLASSIC, .unset] []))
          obtain ⟨T66, X66, e66, st66⟩ := getS2 X65 hx hZ hown (host := "") (Or.inl (hw _ (List.mem_of_getElem? (i := 78) rfl))) Via.refl e65 (S_o_TIERED.ext O.2) (g := (mkF m 149 #[iv p1, .val (.long p2), .second, iv p3, iv kd, iv sh, iv ps, iv c1, iv c2, rv b16, rv o_CLASSIC, rv o_CLASSIC, .unset] [])) rfl (hb hby at_149)
          refine own_goW st66 ?_
          show own_GoW p e below s _ _ _ _ (T66.setTop (mkF m 152 #[iv p1, .val (.long p2), .second, iv p3, iv kd, iv sh, iv ps, iv c1, iv c2, rv b16, rv o_CLASSIC, rv o_CLASSIC, .unset] [(.ref o_TIERED)]))
          obtain ⟨cq67, kq67, qa67, qb67, qc67⟩ := isOf hZ e66 (Ex_o_TIERED.ext O.2)
          obtain ⟨_, _, ⟨T67, L67, k67, n67⟩, -, X67, ⟨Lc67, hQ67, l67, y67, z67⟩, st67⟩ := X66.virtualBack hx (y := (⟨"com/example/riskscan/riskscan/model/Profile", "code", "()Ljava/lang/String;"⟩ : MethodName)) (z := (⟨"com/example/riskscan/riskscan/model/Profile", "code", "()Ljava/lang/String;"⟩ : MethodName)) hown (mvT hZ (hw _ (List.mem_of_getElem? (i := 73) rfl))) (mvT hZ (hw _ (List.mem_of_getElem? (i := 74) rfl))) (notFace_of_selects (args := #[]) (mvT hZ (hw _ (List.mem_of_getElem? (i := 76) rfl)))) (mvT hZ (hw _ (List.mem_of_getElem? (i := 76) rfl))) (mvT hZ (hw _ (List.mem_of_getElem? (i := 75) rfl))) (by decide) (backOf (W := 0) (own_gcode l Z a0 hw [] o_TIERED o_TIERED_code T64.heap n0 (Nat.le_trans Z0 Kp.1) (F_o_TIERED_code.ext O.2)) hZ (hw _ (List.mem_of_getElem? (i := 77) rfl)) (hw _ (List.mem_of_getElem? (i := 36) rfl)) (by decide) (by decide)) qa67 qc67 (g := (mkF m 152 #[iv p1, .val (.long p2), .second, iv p3, iv kd, iv sh, iv ps, iv c1, iv c2, rv b16, rv o_CLASSIC, rv o_CLASSIC, .unset] [(.ref o_TIERED)])) rfl (by rw [hml]; rfl) (Steps.refl _) (argsL := []) (rest := []) (lenOf own_pd___Ljava_lang_String_ rfl) rfl (by show 2 * 0 + _ ≤ _; exact Nat.le_of_eq rfl) (hb hby at_152) (fun _ _ => ⟨rfl, e66, (by decide : 7 + 0 ≤ _), (by decide : 56 + 0 ≤ _)⟩)
          dsimp only [Pt.U, Pt.locs, Pt.cells, Pt.slots] at X67 l67 y67 z67 st67 hQ67
          subst l67 y67 z67
          obtain ⟨rfl, Nq67, e67⟩ := hQ67
          have N67 := Fr.app N64 Nq67
          refine own_goW (fun zt zk => st67.trans zk) ?_
          show own_GoW p e below s _ _ _ _ (T67.setTop (mkF m 155 #[iv p1, .val (.long p2), .second, iv p3, iv kd, iv sh, iv ps, iv c1, iv c2, rv b16, rv o_CLASSIC, rv o_CLASSIC, .unset] [(.ref o_TIERED_code)]))
          obtain ⟨_, _, ⟨T68, L68, k68, n68⟩, -, X68, ⟨Lc68, hQ68, l68, y68, z68⟩, st68⟩ := Jvm.LawKit.callS X67 hx (y := (⟨"com/example/riskscan/riskscan/model/Profile", "ofCode", "(Ljava/lang/String;)Lcom/example/riskscan/riskscan/model/Profile;"⟩ : MethodName)) hown (mvT hZ (hw _ (List.mem_of_getElem? (i := 34) rfl))) (mvT hZ (hw _ (List.mem_of_getElem? (i := 35) rfl))) (mvT hZ (hw _ (List.mem_of_getElem? (i := 36) rfl))) (mvT hZ (hw _ (List.mem_of_getElem? (i := 37) rfl))) (by decide) (backOf (W := 0) (own_rof1 l Z a0 hw [] o_TIERED_code o_TIERED_code_value k_o_TIERED_code_value (6 : Int32) [(116 : Int32), (105 : Int32), (101 : Int32), (114 : Int32), (101 : Int32), (100 : Int32)] o_COMPACT_STRINGS o__VALUES k_o__VALUES o_CLASSIC o_CLASSIC_code o_CLASSIC_code_value k_o_CLASSIC_code_value o_TIERED o_TIERED_code o_TIERED_code_value k_o_TIERED_code_value T64.heap n0 (Nat.le_trans Z0 Kp.1) O S_o_COMPACT_STRINGS S_o__VALUES V_o__VALUES Ex_o__VALUES Ex_o_CLASSIC F_o_CLASSIC_code Ex_o_CLASSIC_code F_o_CLASSIC_code_coder F_o_CLASSIC_code_value V_o_CLASSIC_code_value Ex_o_TIERED F_o_TIERED_code Ex_o_TIERED_code F_o_TIERED_code_coder F_o_TIERED_code_value V_o_TIERED_code_value (Ex_o_TIERED_code.ext O.2) (F_o_TIERED_code_value.ext O.2) (F_o_TIERED_code_coder.ext O.2) (V_o_TIERED_code_value.ext O.2) nz_o_COMPACT_STRINGS rfl (by decide) rfl) hZ (hw _ (List.mem_of_getElem? (i := 37) rfl)) (hw _ (List.mem_of_getElem? (i := 36) rfl)) (by decide) (by decide)) (g := (mkF m 155 #[iv p1, .val (.long p2), .second, iv p3, iv kd, iv sh, iv ps, iv c1, iv c2, rv b16, rv o_CLASSIC, rv o_CLASSIC, .unset] [(.ref o_TIERED_code)])) rfl (by rw [hml]; rfl) (argsL := [(.ref o_TIERED_code)]) (rest := []) (lenOf own_pd__Ljava_lang_String__Lcom_example_riskscan_riskscan_model_Profile_ rfl) rfl (by show 2 * 0 + _ ≤ _; exact Nat.le_of_eq rfl) (hb hby at_155) (fun _ _ => ⟨rfl, e67, (by decide : 7 + 1 ≤ _), (by decide : 56 + 2 ≤ _)⟩)
          dsimp only [Pt.U, Pt.locs, Pt.cells, Pt.slots] at X68 l68 y68 z68 st68 hQ68
          subst l68 y68 z68
          obtain ⟨rfl, Nq68, K68⟩ := hQ68
          have N68 := Fr.app N67 Nq68
          refine own_goW st68 ?_
          have Sf_b16' := Safe.keep K68 all0 Rc.1 Sf_b16
          replace Rc := Rc.trans (CHr.keep K68 all0 Rc.1)
          replace hk := Nat.le_trans hk K68.1
          replace Sf_b16 := Sf_b16'
          replace O := O.keep K68 all0
          replace Kp := Kp.trans K68 all0
          replace V_b12 := V_b12.keep K68 nin0
          replace Ex_b16 := Ex_b16.keep K68
          replace Fc57 := Fc57.keep K68 nin0
          replace Fv57 := Fv57.keep K68 nin0
          replace Vt57 := Vt57.keep K68 nin0
          replace Ex_a59 := Ex_a59.keep K68
          replace Fc_a59 := Fc_a59.keep K68 nin0
          replace Fv_a59 := Fv_a59.keep K68 nin0
          replace Va_b59 := Va_b59.keep K68 nin0
          show own_GoW p e below s _ _ _ _ (T68.setTop (mkF m 158 #[iv p1, .val (.long p2), .second, iv p3, iv kd, iv sh, iv ps, iv c1, iv c2, rv b16, rv o_CLASSIC, rv o_CLASSIC, .unset] [(.ref o_TIERED)]))
          obtain ⟨T69, X69, e69, st69⟩ := getS2 X68 hx hZ hown (host := "") (Or.inl (hw _ (List.mem_of_getElem? (i := 78) rfl))) Via.refl rfl (S_o_TIERED.ext O.2) (g := (mkF m 158 #[iv p1, .val (.long p2), .second, iv p3, iv kd, iv sh, iv ps, iv c1, iv c2, rv b16, rv o_CLASSIC, rv o_CLASSIC, .unset] [(.ref o_TIERED)])) rfl (hb hby at_158)
          refine own_goW st69 ?_
          show own_GoW p e below s _ _ _ _ (T69.setTop (mkF m 161 #[iv p1, .val (.long p2), .second, iv p3, iv kd, iv sh, iv ps, iv c1, iv c2, rv b16, rv o_CLASSIC, rv o_CLASSIC, .unset] [(.ref o_TIERED), (.ref o_TIERED)]))
          refine own_goW (fun zt zk => Jvm.RoadKit.acmp (g := (mkF m 161 #[iv p1, .val (.long p2), .second, iv p3, iv kd, iv sh, iv ps, iv c1, iv c2, rv b16, rv o_CLASSIC, rv o_CLASSIC, .unset] [(.ref o_TIERED), (.ref o_TIERED)])) X69 hx rfl rfl rfl (pc0 := 161) (pc' := 164) (same := true) rfl (hb hby at_161) rfl (decide_eq_true rfl) (by decide) (by decide) zk) ?_
          show own_GoW p e below s _ _ _ _ (T69.setTop (mkF m 164 #[iv p1, .val (.long p2), .second, iv p3, iv kd, iv sh, iv ps, iv c1, iv c2, rv b16, rv o_CLASSIC, rv o_CLASSIC, .unset] []))
          refine own_goW (fun zt zk => (XS.iconst X69.here hx rfl (hb hby at_164) (XS.goto X69.here hx rfl (pc0 := 165) (pc' := 169) rfl (hb hby at_165) (by decide) (by decide) (XS.istore X69.here hx rfl (hb hby at_169) rfl (l' := #[iv p1, .val (.long p2), .second, iv p3, iv kd, iv sh, iv ps, iv c1, iv c2, rv b16, rv o_CLASSIC, rv o_CLASSIC, iv (1 : Int32)]) rfl (XS.aload X69.here hx rfl (hb hby at_171) rfl rfl (XS.aload X69.here hx rfl (hb hby at_173) rfl rfl zk)))))) ?_
          show own_GoW p e below s _ _ _ _ (T69.setTop (mkF m 175 #[iv p1, .val (.long p2), .second, iv p3, iv kd, iv sh, iv ps, iv c1, iv c2, rv b16, rv o_CLASSIC, rv o_CLASSIC, iv (1 : Int32)] [(.ref o_CLASSIC), (.ref o_CLASSIC)]))
          refine own_goW (fun zt zk => Jvm.RoadKit.acmp (g := (mkF m 175 #[iv p1, .val (.long p2), .second, iv p3, iv kd, iv sh, iv ps, iv c1, iv c2, rv b16, rv o_CLASSIC, rv o_CLASSIC, iv (1 : Int32)] [(.ref o_CLASSIC), (.ref o_CLASSIC)])) X69 hx rfl rfl rfl (pc0 := 175) (pc' := 178) (same := true) rfl (hb hby at_175) rfl (decide_eq_true rfl) (by decide) (by decide) zk) ?_
          show own_GoW p e below s _ _ _ _ (T69.setTop (mkF m 178 #[iv p1, .val (.long p2), .second, iv p3, iv kd, iv sh, iv ps, iv c1, iv c2, rv b16, rv o_CLASSIC, rv o_CLASSIC, iv (1 : Int32)] []))
          refine own_goW (fun zt zk => (XS.iload X69.here hx rfl (hb hby at_178) rfl (XS.ifNo X69.here hx rfl (hb hby at_180) rfl ((if0 _ _).trans (feq ((by decide) : ¬ ((1 : Int32) = (0 : Int32)))).1) (XS.iconst X69.here hx rfl (hb hby at_183) (XS.goto X69.here hx rfl (pc0 := 184) (pc' := 188) rfl (hb hby at_184) (by decide) (by decide) zk))))) ?_
          show own_GoW p e below s _ _ _ _ (T69.setTop (mkF m 188 #[iv p1, .val (.long p2), .second, iv p3, iv kd, iv sh, iv ps, iv c1, iv c2, rv b16, rv o_CLASSIC, rv o_CLASSIC, iv (1 : Int32)] [(.int (1 : Int32))]))
          have Re := Rc.trans (CHv.at X69 hZ hEL Rc.1)
          exact own_finW X69 hS (by rw [e69]; exact hk) (by rw [e69, hh]; exact Re) Bd.notSynchronized (fun h => by rw [Bd.returns] at h; cases h) (fun fs hr => retN X69 hx (t := .boolean) Bd.returns (by simp) (hb hby at_188) hr) (by rw [e69]; exact ⟨rfl, N68⟩) (by decide) (by decide)
        · by_cases hT : [(116 : Int32), (105 : Int32), (101 : Int32), (114 : Int32), (101 : Int32), (100 : Int32)] = (ds.map (fun c => c.toInt8.toInt32))
          · obtain ⟨_, _, ⟨T70, L70, k70, n70⟩, -, X70, ⟨Lc70, hQ70, l70, y70, z70⟩, st70⟩ := Jvm.LawKit.callS X57 hx (y := (⟨"com/example/riskscan/riskscan/model/Profile", "ofCode", "(Ljava/lang/String;)Lcom/example/riskscan/riskscan/model/Profile;"⟩ : MethodName)) hown (mvT hZ (hw _ (List.mem_of_getElem? (i := 34) rfl))) (mvT hZ (hw _ (List.mem_of_getElem? (i := 35) rfl))) (mvT hZ (hw _ (List.mem_of_getElem? (i := 36) rfl))) (mvT hZ (hw _ (List.mem_of_getElem? (i := 37) rfl))) (by decide) (backOf (W := 0) (own_rof1 l Z a0 hw [] b16 t57 kb57 (Int32.ofNat ds.length) (ds.map (fun c => c.toInt8.toInt32)) o_COMPACT_STRINGS o__VALUES k_o__VALUES o_CLASSIC o_CLASSIC_code o_CLASSIC_code_value k_o_CLASSIC_code_value o_TIERED o_TIERED_code o_TIERED_code_value k_o_TIERED_code_value T57.heap n0 (Nat.le_trans Z0 Kp.1) O S_o_COMPACT_STRINGS S_o__VALUES V_o__VALUES Ex_o__VALUES Ex_o_CLASSIC F_o_CLASSIC_code Ex_o_CLASSIC_code F_o_CLASSIC_code_coder F_o_CLASSIC_code_value V_o_CLASSIC_code_value Ex_o_TIERED F_o_TIERED_code Ex_o_TIERED_code F_o_TIERED_code_coder F_o_TIERED_code_value V_o_TIERED_code_value Ex_b16 Fv57 Fc57 Vt57 nz_o_COMPACT_STRINGS hxl hC hT) hZ (hw _ (List.mem_of_getElem? (i := 37) rfl)) (hw _ (List.mem_of_getElem? (i := 36) rfl)) (by decide) (by decide)) (g := (mkF m 88 #[iv p1, .val (.long p2), .second, iv p3, iv kd, iv sh, iv ps, iv c1, iv c2, rv b16, rv b12, .unset, .unset] [(.ref b16)])) rfl (by rw [hml]; rfl) (argsL := [(.ref b16)]) (rest := []) (lenOf own_pd__Ljava_lang_String__Lcom_example_riskscan_riskscan_model_Profile_ rfl) rfl (by show 2 * 0 + _ ≤ _; exact Nat.le_of_eq rfl) (hb hby at_88) (fun _ _ => ⟨rfl, rfl, (by decide : 3 + 1 ≤ _), (by decide : 20 + 2 ≤ _)⟩)
            dsimp only [Pt.U, Pt.locs, Pt.cells, Pt.slots] at X70 l70 y70 z70 st70 hQ70
            subst l70 y70 z70
            obtain ⟨rfl, Nq70, K70⟩ := hQ70
            have N70 := Fr.app N57 Nq70
            refine own_goW st70 ?_
            have Sf_b16' := Safe.keep K70 all0 Rc.1 Sf_b16
            replace Rc := Rc.trans (CHr.keep K70 all0 Rc.1)
            replace hk := Nat.le_trans hk K70.1
            replace Sf_b16 := Sf_b16'
            replace O := O.keep K70 all0
            replace Kp := Kp.trans K70 all0
            replace V_b12 := V_b12.keep K70 nin0
            replace Ex_b16 := Ex_b16.keep K70
            replace Fc57 := Fc57.keep K70 nin0
            replace Fv57 := Fv57.keep K70 nin0
            replace Vt57 := Vt57.keep K70 nin0
            show own_GoW p e below s _ _ _ _ (T70.setTop (mkF m 91 #[iv p1, .val (.long p2), .second, iv p3, iv kd, iv sh, iv ps, iv c1, iv c2, rv b16, rv b12, .unset, .unset] [(.ref o_TIERED)]))
            refine own_goW (fun zt zk => (XS.astore X70.here hx rfl (hb hby at_91) rfl rfl (l' := #[iv p1, .val (.long p2), .second, iv p3, iv kd, iv sh, iv ps, iv c1, iv c2, rv b16, rv o_TIERED, .unset, .unset]) rfl (XS.aconstNull X70.here hx rfl (hb hby at_93) (XS.astore X70.here hx rfl (hb hby at_94) rfl rfl (l' := #[iv p1, .val (.long p2), .second, iv p3, iv kd, iv sh, iv ps, iv c1, iv c2, rv b16, rv o_TIERED, .val .null, .unset]) rfl (XS.aload X70.here hx rfl (hb hby at_96) rfl rfl (XS.ifnullNo X70.here hx rfl (hb hby at_98) rfl (XS.aload X70.here hx rfl (hb hby at_101) rfl rfl zk))))))) ?_
            show own_GoW p e below s _ _ _ _ (T70.setTop (mkF m 103 #[iv p1, .val (.long p2), .second, iv p3, iv kd, iv sh, iv ps, iv c1, iv c2, rv b16, rv o_TIERED, .val .null, .unset] [(.ref b16)]))
            obtain ⟨a71, T71, h71, q71, b71, k71, X71, e71, E71, hS71, hk71, hZ71, hown71, Ex_a71, Fc_a71, Fv_a71, Va_b71, lta71, ltb71, A71, Li71, Sn71, st71⟩ := ldcCH X70 hx hZ hown (hw _ (List.mem_of_getElem? (i := 67) rfl)) wS rfl hS hk hEL (by decide +kernel) Rc.1 (vs := [(.int (99 : Int32)), (.int (108 : Int32)), (.int (97 : Int32)), (.int (115 : Int32)), (.int (115 : Int32)), (.int (105 : Int32)), (.int (99 : Int32))]) (z := (7 : Int32)) ⟨by decide +kernel, by decide +kernel⟩ (by decide) rfl (g := (mkF m 103 #[iv p1, .val (.long p2), .second, iv p3, iv kd, iv sh, iv ps, iv c1, iv c2, rv b16, rv o_TIERED, .val .null, .unset] [(.ref b16)])) rfl (hb hby at_103) (n := 28) (by decide +kernel) (by decide) (by decide) (by decide)
            replace Sf_b16 := CHr.safe A71 Ex_b16.lt Sf_b16
            replace O := O.ext E71
            replace Kp := Kp.ext E71
            replace V_b12 := V_b12.ext E71
            replace Ex_b16 := Ex_b16.ext E71
            replace Fc57 := Fc57.ext E71
            replace Fv57 := Fv57.ext E71
            replace Vt57 := Vt57.ext E71
            replace Rc := Rc.trans A71
            replace hS := hS71
            replace hk := hk71
            replace hZ := hZ71
            replace hown := hown71
            refine own_goW st71 ?_
            have ne_b16_a71 := (Sn71 b16 Sf_b16).1
            have ne_b16_b71 := (Sn71 b16 Sf_b16).2
            show own_GoW p e below s _ _ _ _ (T71.setTop (mkF m 105 #[iv p1, .val (.long p2), .second, iv p3, iv kd, iv sh, iv ps, iv c1, iv c2, rv b16, rv o_TIERED, .val .null, .unset] [(.ref a71), (.ref b16)]))
            obtain ⟨cq72, kq72, qa72, qb72, qc72⟩ := isOf hZ e71 Ex_b16
            obtain ⟨_, _, ⟨T72, L72, k72, n72⟩, -, X72, ⟨Lc72, hQ72, l72, y72, z72⟩, st72⟩ := X71.virtualBack hx (y := (⟨"java/lang/String", "equals", "(Ljava/lang/Object;)Z"⟩ : MethodName)) (z := (⟨"java/lang/String", "equals", "(Ljava/lang/Object;)Z"⟩ : MethodName)) hown (mvT hZ (hw _ (List.mem_of_getElem? (i := 70) rfl))) (mvT hZ (hw _ (List.mem_of_getElem? (i := 58) rfl))) (notFace_of_selects (args := #[]) (mvT hZ (hw _ (List.mem_of_getElem? (i := 60) rfl)))) (mvT hZ (hw _ (List.mem_of_getElem? (i := 60) rfl))) (mvT hZ (hw _ (List.mem_of_getElem? (i := 59) rfl))) (by decide) (backOf (W := 0) (own_req l Z a0 hw [] b16 a71 o_COMPACT_STRINGS t57 b71 kb57 k71 (Int32.ofNat ds.length) (7 : Int32) (ds.map (fun c => c.toInt8.toInt32)) [(99 : Int32), (108 : Int32), (97 : Int32), (115 : Int32), (115 : Int32), (105 : Int32), (99 : Int32)] h71 n0 (Nat.le_trans Z0 Kp.1) O S_o_COMPACT_STRINGS Ex_b16 Fv57 Fc57 Vt57 Ex_a71 Fv_a71 Fc_a71 Va_b71 nz_o_COMPACT_STRINGS hxl rfl) hZ (hw _ (List.mem_of_getElem? (i := 61) rfl)) (hw _ (List.mem_of_getElem? (i := 7) rfl)) (by decide) (by decide)) qa72 qc72 (g := (mkF m 105 #[iv p1, .val (.long p2), .second, iv p3, iv kd, iv sh, iv ps, iv c1, iv c2, rv b16, rv o_TIERED, .val .null, .unset] [(.ref a71), (.ref b16)])) rfl (by rw [hml]; rfl) (Steps.refl _) (argsL := [(.ref a71)]) (rest := []) (lenOf own_pd__Ljava_lang_Object__Z rfl) rfl (by show 2 * 0 + _ ≤ _; exact Nat.le_of_eq rfl) (hb hby at_105) (fun _ _ => ⟨rfl, e71, (by decide : 6 + 0 ≤ _), (by decide : 54 + 0 ≤ _)⟩)
            dsimp only [Pt.U, Pt.locs, Pt.cells, Pt.slots] at X72 l72 y72 z72 st72 hQ72
            subst l72 y72 z72
            obtain ⟨hv72, Nq72, e72⟩ := hQ72
            rw [show own_eqv _ _ = (0 : Int32) from if_neg (fun q => hC q.symm)] at hv72
            subst hv72
            have N72 := Fr.app N70 Nq72
            refine own_goW (fun zt zk => st72.trans zk) ?_
            show own_GoW p e below s _ _ _ _ (T72.setTop (mkF m 108 #[iv p1, .val (.long p2), .second, iv p3, iv kd, iv sh, iv ps, iv c1, iv c2, rv b16, rv o_TIERED, .val .null, .unset] [(.int (0 : Int32))]))
            refine own_goW (fun zt zk => (XS.ifYes X72.here hx rfl (pc0 := 108) (pc' := 119) rfl (hb hby at_108) rfl ((if0 _ _).trans (teq (rfl : (0 : Int32) = (0 : Int32))).1) (by decide) (by decide) (XS.aload X72.here hx rfl (hb hby at_119) rfl rfl zk))) ?_
            show own_GoW p e below s _ _ _ _ (T72.setTop (mkF m 121 #[iv p1, .val (.long p2), .second, iv p3, iv kd, iv sh, iv ps, iv c1, iv c2, rv b16, rv o_TIERED, .val .null, .unset] [(.ref b16)]))
            obtain ⟨a73, T73, h73, q73, b73, k73, X73, e73, E73, hS73, hk73, hZ73, hown73, Ex_a73, Fc_a73, Fv_a73, Va_b73, lta73, ltb73, A73, Li73, Sn73, st73⟩ := ldcCH X72 hx hZ hown (hw _ (List.mem_of_getElem? (i := 71) rfl)) wS e72 hS hk hEL (by decide +kernel) Rc.1 (vs := [(.int (116 : Int32)), (.int (105 : Int32)), (.int (101 : Int32)), (.int (114 : Int32)), (.int (101 : Int32)), (.int (100 : Int32))]) (z := (6 : Int32)) ⟨by decide +kernel, by decide +kernel⟩ (by decide) rfl (g := (mkF m 121 #[iv p1, .val (.long p2), .second, iv p3, iv kd, iv sh, iv ps, iv c1, iv c2, rv b16, rv o_TIERED, .val .null, .unset] [(.ref b16)])) rfl (hb hby at_121) (n := 24) (by decide +kernel) (by decide) (by decide) (by decide)
            replace Sf_b16 := CHr.safe A73 Ex_b16.lt Sf_b16
            replace O := O.ext E73
            replace Kp := Kp.ext E73
            replace V_b12 := V_b12.ext E73
            replace Ex_b16 := Ex_b16.ext E73
            replace Fc57 := Fc57.ext E73
            replace Fv57 := Fv57.ext E73
            replace Vt57 := Vt57.ext E73
            replace Ex_a71 := Ex_a71.ext E73
            replace Fc_a71 := Fc_a71.ext E73
            replace Fv_a71 := Fv_a71.ext E73
            replace Va_b71 := Va_b71.ext E73
            replace Rc := Rc.trans A73
            replace hS := hS73
            replace hk := hk73
            replace hZ := hZ73
            replace hown := hown73
            refine own_goW st73 ?_
            have ne_b16_a73 := (Sn73 b16 Sf_b16).1
            have ne_b16_b73 := (Sn73 b16 Sf_b16).2
            show own_GoW p e below s _ _ _ _ (T73.setTop (mkF m 123 #[iv p1, .val (.long p2), .second, iv p3, iv kd, iv sh, iv ps, iv c1, iv c2, rv b16, rv o_TIERED, .val .null, .unset] [(.ref a73), (.ref b16)]))
            obtain ⟨cq74, kq74, qa74, qb74, qc74⟩ := isOf hZ e73 Ex_b16
            obtain ⟨_, _, ⟨T74, L74, k74, n74⟩, -, X74, ⟨Lc74, hQ74, l74, y74, z74⟩, st74⟩ := X73.virtualBack hx (y := (⟨"java/lang/String", "equals", "(Ljava/lang/Object;)Z"⟩ : MethodName)) (z := (⟨"java/lang/String", "equals", "(Ljava/lang/Object;)Z"⟩ : MethodName)) hown (mvT hZ (hw _ (List.mem_of_getElem? (i := 70) rfl))) (mvT hZ (hw _ (List.mem_of_getElem? (i := 58) rfl))) (notFace_of_selects (args := #[]) (mvT hZ (hw _ (List.mem_of_getElem? (i := 60) rfl)))) (mvT hZ (hw _ (List.mem_of_getElem? (i := 60) rfl))) (mvT hZ (hw _ (List.mem_of_getElem? (i := 59) rfl))) (by decide) (backOf (W := 0) (own_req l Z a0 hw [] b16 a73 o_COMPACT_STRINGS t57 b73 kb57 k73 (Int32.ofNat ds.length) (6 : Int32) (ds.map (fun c => c.toInt8.toInt32)) [(116 : Int32), (105 : Int32), (101 : Int32), (114 : Int32), (101 : Int32), (100 : Int32)] h73 n0 (Nat.le_trans Z0 Kp.1) O S_o_COMPACT_STRINGS Ex_b16 Fv57 Fc57 Vt57 Ex_a73 Fv_a73 Fc_a73 Va_b73 nz_o_COMPACT_STRINGS hxl rfl) hZ (hw _ (List.mem_of_getElem? (i := 61) rfl)) (hw _ (List.mem_of_getElem? (i := 7) rfl)) (by decide) (by decide)) qa74 qc74 (g := (mkF m 123 #[iv p1, .val (.long p2), .second, iv p3, iv kd, iv sh, iv ps, iv c1, iv c2, rv b16, rv o_TIERED, .val .null, .unset] [(.ref a73), (.ref b16)])) rfl (by rw [hml]; rfl) (Steps.refl _) (argsL := [(.ref a73)]) (rest := []) (lenOf own_pd__Ljava_lang_Object__Z rfl) rfl (by show 2 * 0 + _ ≤ _; exact Nat.le_of_eq rfl) (hb hby at_123) (fun _ _ => ⟨rfl, e73, (by decide : 8 + 0 ≤ _), (by decide : 82 + 0 ≤ _)⟩)
            dsimp only [Pt.U, Pt.locs, Pt.cells, Pt.slots] at X74 l74 y74 z74 st74 hQ74
            subst l74 y74 z74
            obtain ⟨hv74, Nq74, e74⟩ := hQ74
            rw [show own_eqv _ _ = (1 : Int32) from if_pos hT.symm] at hv74
            subst hv74
            have N74 := Fr.app N72 Nq74
            refine own_goW (fun zt zk => st74.trans zk) ?_
            show own_GoW p e below s _ _ _ _ (T74.setTop (mkF m 126 #[iv p1, .val (.long p2), .second, iv p3, iv kd, iv sh, iv ps, iv c1, iv c2, rv b16, rv o_TIERED, .val .null, .unset] [(.int (1 : Int32))]))
            refine own_goW (fun zt zk => (XS.ifNo X74.here hx rfl (hb hby at_126) rfl ((if0 _ _).trans (feq ((by decide) : ¬ ((1 : Int32) = (0 : Int32)))).1) zk)) ?_
            show own_GoW p e below s _ _ _ _ (T74.setTop (mkF m 129 #[iv p1, .val (.long p2), .second, iv p3, iv kd, iv sh, iv ps, iv c1, iv c2, rv b16, rv o_TIERED, .val .null, .unset] []))
            obtain ⟨T75, X75, e75, st75⟩ := getS2 X74 hx hZ hown (host := "") (Or.inl (hw _ (List.mem_of_getElem? (i := 78) rfl))) Via.refl e74 (S_o_TIERED.ext O.2) (g := (mkF m 129 #[iv p1, .val (.long p2), .second, iv p3, iv kd, iv sh, iv ps, iv c1, iv c2, rv b16, rv o_TIERED, .val .null, .unset] [])) rfl (hb hby at_129)
            refine own_goW st75 ?_
            show own_GoW p e below s _ _ _ _ (T75.setTop (mkF m 132 #[iv p1, .val (.long p2), .second, iv p3, iv kd, iv sh, iv ps, iv c1, iv c2, rv b16, rv o_TIERED, .val .null, .unset] [(.ref o_TIERED)]))
            refine own_goW (fun zt zk => (XS.astore X75.here hx rfl (hb hby at_132) rfl rfl (l' := #[iv p1, .val (.long p2), .second, iv p3, iv kd, iv sh, iv ps, iv c1, iv c2, rv b16, rv o_TIERED, rv o_TIERED, .unset]) rfl zk)) ?_
            show own_GoW p e below s _ _ _ _ (T75.setTop (mkF m 134 #[iv p1, .val (.long p2), .second, iv p3, iv kd, iv sh, iv ps, iv c1, iv c2, rv b16, rv o_TIERED, rv o_TIERED, .unset] []))
            obtain ⟨T76, X76, e76, st76⟩ := getS2 X75 hx hZ hown (host := "") (Or.inl (hw _ (List.mem_of_getElem? (i := 72) rfl))) Via.refl e75 (S_o_CLASSIC.ext O.2) (g := (mkF m 134 #[iv p1, .val (.long p2), .second, iv p3, iv kd, iv sh, iv ps, iv c1, iv c2, rv b16, rv o_TIERED, rv o_TIERED, .unset] [])) rfl (hb hby at_134)
            refine own_goW st76 ?_
            show own_GoW p e below s _ _ _ _ (T76.setTop (mkF m 137 #[iv p1, .val (.long p2), .second, iv p3, iv kd, iv sh, iv ps, iv c1, iv c2, rv b16, rv o_TIERED, rv o_TIERED, .unset] [(.ref o_CLASSIC)]))
            obtain ⟨cq77, kq77, qa77, qb77, qc77⟩ := isOf hZ e76 (Ex_o_CLASSIC.ext O.2)
            obtain ⟨_, _, ⟨T77, L77, k77, n77⟩, -, X77, ⟨Lc77, hQ77, l77, y77, z77⟩, st77⟩ := X76.virtualBack hx (y := (⟨"com/example/riskscan/riskscan/model/Profile", "code", "()Ljava/lang/String;"⟩ : MethodName)) (z := (⟨"com/example/riskscan/riskscan/model/Profile", "code", "()Ljava/lang/String;"⟩ : MethodName)) hown (mvT hZ (hw _ (List.mem_of_getElem? (i := 73) rfl))) (mvT hZ (hw _ (List.mem_of_getElem? (i := 74) rfl))) (notFace_of_selects (args := #[]) (mvT hZ (hw _ (List.mem_of_getElem? (i := 76) rfl)))) (mvT hZ (hw _ (List.mem_of_getElem? (i := 76) rfl))) (mvT hZ (hw _ (List.mem_of_getElem? (i := 75) rfl))) (by decide) (backOf (W := 0) (own_gcode l Z a0 hw [] o_CLASSIC o_CLASSIC_code h73 n0 (Nat.le_trans Z0 Kp.1) (F_o_CLASSIC_code.ext O.2)) hZ (hw _ (List.mem_of_getElem? (i := 77) rfl)) (hw _ (List.mem_of_getElem? (i := 36) rfl)) (by decide) (by decide)) qa77 qc77 (g := (mkF m 137 #[iv p1, .val (.long p2), .second, iv p3, iv kd, iv sh, iv ps, iv c1, iv c2, rv b16, rv o_TIERED, rv o_TIERED, .unset] [(.ref o_CLASSIC)])) rfl (by rw [hml]; rfl) (Steps.refl _) (argsL := []) (rest := []) (lenOf own_pd___Ljava_lang_String_ rfl) rfl (by show 2 * 0 + _ ≤ _; exact Nat.le_of_eq rfl) (hb hby at_137) (fun _ _ => ⟨rfl, e76, (by decide : 8 + 0 ≤ _), (by decide : 82 + 0 ≤ _)⟩)
            dsimp only [Pt.U, Pt.locs, Pt.cells, Pt.slots] at X77 l77 y77 z77 st77 hQ77
            subst l77 y77 z77
            obtain ⟨rfl, Nq77, e77⟩ := hQ77
            have N77 := Fr.app N74 Nq77
            refine own_goW (fun zt zk => st77.trans zk) ?_
            show own_GoW p e below s _ _ _ _ (T77.setTop (mkF m 140 #[iv p1, .val (.long p2), .second, iv p3, iv kd, iv sh, iv ps, iv c1, iv c2, rv b16, rv o_TIERED, rv o_TIERED, .unset] [(.ref o_CLASSIC_code)]))
            obtain ⟨_, _, ⟨T78, L78, k78, n78⟩, -, X78, ⟨Lc78, hQ78, l78, y78, z78⟩, st78⟩ := Jvm.LawKit.callS X77 hx (y := (⟨"com/example/riskscan/riskscan/model/Profile", "ofCode", "(Ljava/lang/String;)Lcom/example/riskscan/riskscan/model/Profile;"⟩ : MethodName)) hown (mvT hZ (hw _ (List.mem_of_getElem? (i := 34) rfl))) (mvT hZ (hw _ (List.mem_of_getElem? (i := 35) rfl))) (mvT hZ (hw _ (List.mem_of_getElem? (i := 36) rfl))) (mvT hZ (hw _ (List.mem_of_getElem? (i := 37) rfl))) (by decide) (backOf (W := 0) (own_rof0 l Z a0 hw [] o_CLASSIC_code o_CLASSIC_code_value k_o_CLASSIC_code_value (7 : Int32) [(99 : Int32), (108 : Int32), (97 : Int32), (115 : Int32), (115 : Int32), (105 : Int32), (99 : Int32)] o_COMPACT_STRINGS o__VALUES k_o__VALUES o_CLASSIC o_CLASSIC_code o_CLASSIC_code_value k_o_CLASSIC_code_value o_TIERED o_TIERED_code o_TIERED_code_value k_o_TIERED_code_value h73 n0 (Nat.le_trans Z0 Kp.1) O S_o_COMPACT_STRINGS S_o__VALUES V_o__VALUES Ex_o__VALUES Ex_o_CLASSIC F_o_CLASSIC_code Ex_o_CLASSIC_code F_o_CLASSIC_code_coder F_o_CLASSIC_code_value V_o_CLASSIC_code_value Ex_o_TIERED F_o_TIERED_code Ex_o_TIERED_code F_o_TIERED_code_coder F_o_TIERED_code_value V_o_TIERED_code_value (Ex_o_CLASSIC_code.ext O.2) (F_o_CLASSIC_code_value.ext O.2) (F_o_CLASSIC_code_coder.ext O.2) (V_o_CLASSIC_code_value.ext O.2) nz_o_COMPACT_STRINGS rfl rfl) hZ (hw _ (List.mem_of_getElem? (i := 37) rfl)) (hw _ (List.mem_of_getElem? (i := 36) rfl)) (by decide) (by decide)) (g := (mkF m 140 #[iv p1, .val (.long p2), .second, iv p3, iv kd, iv sh, iv ps, iv c1, iv c2, rv b16, rv o_TIERED, rv o_TIERED, .unset] [(.ref o_CLASSIC_code)])) rfl (by rw [hml]; rfl) (argsL := [(.ref o_CLASSIC_code)]) (rest := []) (lenOf own_pd__Ljava_lang_String__Lcom_example_riskscan_riskscan_model_Profile_ rfl) rfl (by show 2 * 0 + _ ≤ _; exact Nat.le_of_eq rfl) (hb hby at_140) (fun _ _ => ⟨rfl, e77, (by decide : 8 + 1 ≤ _), (by decide : 82 + 2 ≤ _)⟩)
            dsimp only [Pt.U, Pt.locs, Pt.cells, Pt.slots] at X78 l78 y78 z78 st78 hQ78
            subst l78 y78 z78
            obtain ⟨rfl, Nq78, K78⟩ := hQ78
            have N78 := Fr.app N77 Nq78
            refine own_goW st78 ?_
            have Sf_b16' := Safe.keep K78 all0 Rc.1 Sf_b16
            replace Rc := Rc.trans (CHr.keep K78 all0 Rc.1)
            replace hk := Nat.le_trans hk K78.1
            replace Sf_b16 := Sf_b16'
            replace O := O.keep K78 all0
            replace Kp := Kp.trans K78 all0
            replace V_b12 := V_b12.keep K78 nin0
            replace Ex_b16 := Ex_b16.keep K78
            replace Fc57 := Fc57.keep K78 nin0
            replace Fv57 := Fv57.keep K78 nin0
            replace Vt57 := Vt57.keep K78 nin0
            replace Ex_a71 := Ex_a71.keep K78
            replace Fc_a71 := Fc_a71.keep K78 nin0
            replace Fv_a71 := Fv_a71.keep K78 nin0
            replace Va_b71 := Va_b71.keep K78 nin0
            replace Ex_a73 := Ex_a73.keep K78
            replace Fc_a73 := Fc_a73.keep K78 nin0
            replace Fv_a73 := Fv_a73.keep K78 nin0
            replace Va_b73 := Va_b73.keep K78 nin0
            show own_GoW p e below s _ _ _ _ (T78.setTop (mkF m 143 #[iv p1, .val (.long p2), .second, iv p3, iv kd, iv sh, iv ps, iv c1, iv c2, rv b16, rv o_TIERED, rv o_TIERED, .unset] [(.ref o_CLASSIC)]))
            obtain ⟨T79, X79, e79, st79⟩ := getS2 X78 hx hZ hown (host := "") (Or.inl (hw _ (List.mem_of_getElem? (i := 72) rfl))) Via.refl rfl (S_o_CLASSIC.ext O.2) (g := (mkF m 143 #[iv p1, .val (.long p2), .second, iv p3, iv kd, iv sh, iv ps, iv c1, iv c2, rv b16, rv o_TIERED, rv o_TIERED, .unset] [(.ref o_CLASSIC)])) rfl (hb hby at_143)
            refine own_goW st79 ?_
            show own_GoW p e below s _ _ _ _ (T79.setTop (mkF m 146 #[iv p1, .val (.long p2), .second, iv p3, iv kd, iv sh, iv ps, iv c1, iv c2, rv b16, rv o_TIERED, rv o_TIERED, .unset] [(.ref o_CLASSIC), (.ref o_CLASSIC)]))
            refine own_goW (fun zt zk => Jvm.RoadKit.acmp (g := (mkF m 146 #[iv p1, .val (.long p2), .second, iv p3, iv kd, iv sh, iv ps, iv c1, iv c2, rv b16, rv o_TIERED, rv o_TIERED, .unset] [(.ref o_CLASSIC), (.ref o_CLASSIC)])) X79 hx rfl rfl rfl (pc0 := 146) (pc' := 149) (same := true) rfl (hb hby at_146) rfl (decide_eq_true rfl) (by decide) (by decide) zk) ?_
            show own_GoW p e below s _ _ _ _ (T79.setTop (mkF m 149 #[iv p1, .val (.long p2), .second, iv p3, iv kd, iv sh, iv ps, iv c1, iv c2, rv b16, rv o_TIERED, rv o_TIERED, .unset] []))
            obtain ⟨T80, X80, e80, st80⟩ := getS2 X79 hx hZ hown (host := "") (Or.inl (hw _ (List.mem_of_getElem? (i := 78) rfl))) Via.refl e79 (S_o_TIERED.ext O.2) (g := (mkF m 149 #[iv p1, .val (.long p2), .second, iv p3, iv kd, iv sh, iv ps, iv c1, iv c2, rv b16, rv o_TIERED, rv o_TIERED, .unset] [])) rfl (hb hby at_149)
            refine own_goW st80 ?_
            show own_GoW p e below s _ _ _ _ (T80.setTop (mkF m 152 #[iv p1, .val (.long p2), .second, iv p3, iv kd, iv sh, iv ps, iv c1, iv c2, rv b16, rv o_TIERED, rv o_TIERED, .unset] [(.ref o_TIERED)]))
            obtain ⟨cq81, kq81, qa81, qb81, qc81⟩ := isOf hZ e80 (Ex_o_TIERED.ext O.2)
            obtain ⟨_, _, ⟨T81, L81, k81, n81⟩, -, X81, ⟨Lc81, hQ81, l81, y81, z81⟩, st81⟩ := X80.virtualBack hx (y := (⟨"com/example/riskscan/riskscan/model/Profile", "code", "()Ljava/lang/String;"⟩ : MethodName)) (z := (⟨"com/example/riskscan/riskscan/model/Profile", "code", "()Ljava/lang/String;"⟩ : MethodName)) hown (mvT hZ (hw _ (List.mem_of_getElem? (i := 73) rfl))) (mvT hZ (hw _ (List.mem_of_getElem? (i := 74) rfl))) (notFace_of_selects (args := #[]) (mvT hZ (hw _ (List.mem_of_getElem? (i := 76) rfl)))) (mvT hZ (hw _ (List.mem_of_getElem? (i := 76) rfl))) (mvT hZ (hw _ (List.mem_of_getElem? (i := 75) rfl))) (by decide) (backOf (W := 0) (own_gcode l Z a0 hw [] o_TIERED o_TIERED_code T78.heap n0 (Nat.le_trans Z0 Kp.1) (F_o_TIERED_code.ext O.2)) hZ (hw _ (List.mem_of_getElem? (i := 77) rfl)) (hw _ (List.mem_of_getElem? (i := 36) rfl)) (by decide) (by decide)) qa81 qc81 (g := (mkF m 152 #[iv p1, .val (.long p2), .second, iv p3, iv kd, iv sh, iv ps, iv c1, iv c2, rv b16, rv o_TIERED, rv o_TIERED, .unset] [(.ref o_TIERED)])) rfl (by rw [hml]; rfl) (Steps.refl _) (argsL := []) (rest := []) (lenOf own_pd___Ljava_lang_String_ rfl) rfl (by show 2 * 0 + _ ≤ _; exact Nat.le_of_eq rfl) (hb hby at_152) (fun _ _ => ⟨rfl, e80, (by decide : 9 + 0 ≤ _), (by decide : 84 + 0 ≤ _)⟩)
            dsimp only [Pt.U, Pt.locs, Pt.cells, Pt.slots] at X81 l81 y81 z81 st81 hQ81
            subst l81 y81 z81
            obtain ⟨rfl, Nq81, e81⟩ := hQ81
            have N81 := Fr.app N78 Nq81
            refine own_goW (fun zt zk => st81.trans zk) ?_
            show own_GoW p e below s _ _ _ _ (T81.setTop (mkF m 155 #[iv p1, .val (.long p2), .second, iv p3, iv kd, iv sh, iv ps, iv c1, iv c2, rv b16, rv o_TIERED, rv o_TIERED, .unset] [(.ref o_TIERED_code)]))
            obtain ⟨_, _, ⟨T82, L82, k82, n82⟩, -, X82, ⟨Lc82, hQ82, l82, y82, z82⟩, st82⟩ := Jvm.LawKit.callS X81 hx (y := (⟨"com/example/riskscan/riskscan/model/Profile", "ofCode", "(Ljava/lang/String;)Lcom/example/riskscan/riskscan/model/Profile;"⟩ : MethodName)) hown (mvT hZ (hw _ (List.mem_of_getElem? (i := 34) rfl))) (mvT hZ (hw _ (List.mem_of_getElem? (i := 35) rfl))) (mvT hZ (hw _ (List.mem_of_getElem? (i := 36) rfl))) (mvT hZ (hw _ (List.mem_of_getElem? (i := 37) rfl))) (by decide) (backOf (W := 0) (own_rof1 l Z a0 hw [] o_TIERED_code o_TIERED_code_value k_o_TIERED_code_value (6 : Int32) [(116 : Int32), (105 : Int32), (101 : Int32), (114 : Int32), (101 : Int32), (100 : Int32)] o_COMPACT_STRINGS o__VALUES k_o__VALUES o_CLASSIC o_CLASSIC_code o_CLASSIC_code_value k_o_CLASSIC_code_value o_TIERED o_TIERED_code o_TIERED_code_value k_o_TIERED_code_value T78.heap n0 (Nat.le_trans Z0 Kp.1) O S_o_COMPACT_STRINGS S_o__VALUES V_o__VALUES Ex_o__VALUES Ex_o_CLASSIC F_o_CLASSIC_code Ex_o_CLASSIC_code F_o_CLASSIC_code_coder F_o_CLASSIC_code_value V_o_CLASSIC_code_value Ex_o_TIERED F_o_TIERED_code Ex_o_TIERED_code F_o_TIERED_code_coder F_o_TIERED_code_value V_o_TIERED_code_value (Ex_o_TIERED_code.ext O.2) (F_o_TIERED_code_value.ext O.2) (F_o_TIERED_code_coder.ext O.2) (V_o_TIERED_code_value.ext O.2) nz_o_COMPACT_STRINGS rfl (by decide) rfl) hZ (hw _ (List.mem_of_getElem? (i := 37) rfl)) (hw _ (List.mem_of_getElem? (i := 36) rfl)) (by decide) (by decide)) (g := (mkF m 155 #[iv p1, .val (.long p2), .second, iv p3, iv kd, iv sh, iv ps, iv c1, iv c2, rv b16, rv o_TIERED, rv o_TIERED, .unset] [(.ref o_TIERED_code)])) rfl (by rw [hml]; rfl) (argsL := [(.ref o_TIERED_code)]) (rest := []) (lenOf own_pd__Ljava_lang_String__Lcom_example_riskscan_riskscan_model_Profile_ rfl) rfl (by show 2 * 0 + _ ≤ _; exact Nat.le_of_eq rfl) (hb hby at_155) (fun _ _ => ⟨rfl, e81, (by decide : 9 + 1 ≤ _), (by decide : 84 + 2 ≤ _)⟩)
            dsimp only [Pt.U, Pt.locs, Pt.cells, Pt.slots] at X82 l82 y82 z82 st82 hQ82
            subst l82 y82 z82
            obtain ⟨rfl, Nq82, K82⟩ := hQ82
            have N82 := Fr.app N81 Nq82
            refine own_goW st82 ?_
            have Sf_b16' := Safe.keep K82 all0 Rc.1 Sf_b16
            replace Rc := Rc.trans (CHr.keep K82 all0 Rc.1)
            replace hk := Nat.le_trans hk K82.1
            replace Sf_b16 := Sf_b16'
            replace O := O.keep K82 all0
            replace Kp := Kp.trans K82 all0
            replace V_b12 := V_b12.keep K82 nin0
            replace Ex_b16 := Ex_b16.keep K82
            replace Fc57 := Fc57.keep K82 nin0
            replace Fv57 := Fv57.keep K82 nin0
            replace Vt57 := Vt57.keep K82 nin0
            replace Ex_a71 := Ex_a71.keep K82
            replace Fc_a71 := Fc_a71.keep K82 nin0
            replace Fv_a71 := Fv_a71.keep K82 nin0
            replace Va_b71 := Va_b71.keep K82 nin0
            replace Ex_a73 := Ex_a73.keep K82
            replace Fc_a73 := Fc_a73.keep K82 nin0
            replace Fv_a73 := Fv_a73.keep K82 nin0
            replace Va_b73 := Va_b73.keep K82 nin0
            show own_GoW p e below s _ _ _ _ (T82.setTop (mkF m 158 #[iv p1, .val (.long p2), .second, iv p3, iv kd, iv sh, iv ps, iv c1, iv c2, rv b16, rv o_TIERED, rv o_TIERED, .unset] [(.ref o_TIERED)]))
            obtain ⟨T83, X83, e83, st83⟩ := getS2 X82 hx hZ hown (host := "") (Or.inl (hw _ (List.mem_of_getElem? (i := 78) rfl))) Via.refl rfl (S_o_TIERED.ext O.2) (g := (mkF m 158 #[iv p1, .val (.long p2), .second, iv p3, iv kd, iv sh, iv ps, iv c1, iv c2, rv b16, rv o_TIERED, rv o_TIERED, .unset] [(.ref o_TIERED)])) rfl (hb hby at_158)
            refine own_goW st83 ?_
            show own_GoW p e below s _ _ _ _ (T83.setTop (mkF m 161 #[iv p1, .val (.long p2), .second, iv p3, iv kd, iv sh, iv ps, iv c1, iv c2, rv b16, rv o_TIERED, rv o_TIERED, .unset] [(.ref o_TIERED), (.ref o_TIERED)]))
            refine own_goW (fun zt zk => Jvm.RoadKit.acmp (g := (mkF m 161 #[iv p1, .val (.long p2), .second, iv p3, iv kd, iv sh, iv ps, iv c1, iv c2, rv b16, rv o_TIERED, rv o_TIERED, .unset] [(.ref o_TIERED), (.ref o_TIERED)])) X83 hx rfl rfl rfl (pc0 := 161) (pc' := 164) (same := true) rfl (hb hby at_161) rfl (decide_eq_true rfl) (by decide) (by decide) zk) ?_
            show own_GoW p e below s _ _ _ _ (T83.setTop (mkF m 164 #[iv p1, .val (.long p2), .second, iv p3, iv kd, iv sh, iv ps, iv c1, iv c2, rv b16, rv o_TIERED, rv o_TIERED, .unset] []))
            refine own_goW (fun zt zk => (XS.iconst X83.here hx rfl (hb hby at_164) (XS.goto X83.here hx rfl (pc0 := 165) (pc' := 169) rfl (hb hby at_165) (by decide) (by decide) (XS.istore X83.here hx rfl (hb hby at_169) rfl (l' := #[iv p1, .val (.long p2), .second, iv p3, iv kd, iv sh, iv ps, iv c1, iv c2, rv b16, rv o_TIERED, rv o_TIERED, iv (1 : Int32)]) rfl (XS.aload X83.here hx rfl (hb hby at_171) rfl rfl (XS.aload X83.here hx rfl (hb hby at_173) rfl rfl zk)))))) ?_
            show own_GoW p e below s _ _ _ _ (T83.setTop (mkF m 175 #[iv p1, .val (.long p2), .second, iv p3, iv kd, iv sh, iv ps, iv c1, iv c2, rv b16, rv o_TIERED, rv o_TIERED, iv (1 : Int32)] [(.ref o_TIERED), (.ref o_TIERED)]))
            refine own_goW (fun zt zk => Jvm.RoadKit.acmp (g := (mkF m 175 #[iv p1, .val (.long p2), .second, iv p3, iv kd, iv sh, iv ps, iv c1, iv c2, rv b16, rv o_TIERED, rv o_TIERED, iv (1 : Int32)] [(.ref o_TIERED), (.ref o_TIERED)])) X83 hx rfl rfl rfl (pc0 := 175) (pc' := 178) (same := true) rfl (hb hby at_175) rfl (decide_eq_true rfl) (by decide) (by decide) zk) ?_
            show own_GoW p e below s _ _ _ _ (T83.setTop (mkF m 178 #[iv p1, .val (.long p2), .second, iv p3, iv kd, iv sh, iv ps, iv c1, iv c2, rv b16, rv o_TIERED, rv o_TIERED, iv (1 : Int32)] []))
            refine own_goW (fun zt zk => (XS.iload X83.here hx rfl (hb hby at_178) rfl (XS.ifNo X83.here hx rfl (hb hby at_180) rfl ((if0 _ _).trans (feq ((by decide) : ¬ ((1 : Int32) = (0 : Int32)))).1) (XS.iconst X83.here hx rfl (hb hby at_183) (XS.goto X83.here hx rfl (pc0 := 184) (pc' := 188) rfl (hb hby at_184) (by decide) (by decide) zk))))) ?_
            show own_GoW p e below s _ _ _ _ (T83.setTop (mkF m 188 #[iv p1, .val (.long p2), .second, iv p3, iv kd, iv sh, iv ps, iv c1, iv c2, rv b16, rv o_TIERED, rv o_TIERED, iv (1 : Int32)] [(.int (1 : Int32))]))
            have Re := Rc.trans (CHv.at X83 hZ hEL Rc.1)
            exact own_finW X83 hS (by rw [e83]; exact hk) (by rw [e83, hh]; exact Re) Bd.notSynchronized (fun h => by rw [Bd.returns] at h; cases h) (fun fs hr => retN X83 hx (t := .boolean) Bd.returns (by simp) (hb hby at_188) hr) (by rw [e83]; exact ⟨rfl, N82⟩) (by decide) (by decide)
          · obtain ⟨_, _, ⟨T84, L84, k84, n84⟩, -, X84, ⟨Lc84, hQ84, l84, y84, z84⟩, st84⟩ := Jvm.LawKit.callS X57 hx (y := (⟨"com/example/riskscan/riskscan/model/Profile", "ofCode", "(Ljava/lang/String;)Lcom/example/riskscan/riskscan/model/Profile;"⟩ : MethodName)) hown (mvT hZ (hw _ (List.mem_of_getElem? (i := 34) rfl))) (mvT hZ (hw _ (List.mem_of_getElem? (i := 35) rfl))) (mvT hZ (hw _ (List.mem_of_getElem? (i := 36) rfl))) (mvT hZ (hw _ (List.mem_of_getElem? (i := 37) rfl))) (by decide) (backOf (W := 0) (own_rof2 l Z a0 hw [] b16 t57 kb57 (Int32.ofNat ds.length) (ds.map (fun c => c.toInt8.toInt32)) o_COMPACT_STRINGS o__VALUES k_o__VALUES o_CLASSIC o_CLASSIC_code o_CLASSIC_code_value k_o_CLASSIC_code_value o_TIERED o_TIERED_code o_TIERED_code_value k_o_TIERED_code_value T57.heap n0 (Nat.le_trans Z0 Kp.1) O S_o_COMPACT_STRINGS S_o__VALUES V_o__VALUES Ex_o__VALUES Ex_o_CLASSIC F_o_CLASSIC_code Ex_o_CLASSIC_code F_o_CLASSIC_code_coder F_o_CLASSIC_code_value V_o_CLASSIC_code_value Ex_o_TIERED F_o_TIERED_code Ex_o_TIERED_code F_o_TIERED_code_coder F_o_TIERED_code_value V_o_TIERED_code_value Ex_b16 Fv57 Fc57 Vt57 nz_o_COMPACT_STRINGS hxl hC hT) hZ (hw _ (List.mem_of_getElem? (i := 37) rfl)) (hw _ (List.mem_of_getElem? (i := 36) rfl)) (by decide) (by decide)) (g := (mkF m 88 #[iv p1, .val (.long p2), .second, iv p3, iv kd, iv sh, iv ps, iv c1, iv c2, rv b16, rv b12, .unset, .unset] [(.ref b16)])) rfl (by rw [hml]; rfl) (argsL := [(.ref b16)]) (rest := []) (lenOf own_pd__Ljava_lang_String__Lcom_example_riskscan_riskscan_model_Profile_ rfl) rfl (by show 2 * 0 + _ ≤ _; exact Nat.le_of_eq rfl) (hb hby at_88) (fun _ _ => ⟨rfl, rfl, (by decide : 3 + 1 ≤ _), (by decide : 20 + 2 ≤ _)⟩)
            dsimp only [Pt.U, Pt.locs, Pt.cells, Pt.slots] at X84 l84 y84 z84 st84 hQ84
            subst l84 y84 z84
            obtain ⟨rfl, Nq84, K84⟩ := hQ84
            have N84 := Fr.app N57 Nq84
            refine own_goW st84 ?_
            have Sf_b16' := Safe.keep K84 all0 Rc.1 Sf_b16
            replace Rc := Rc.trans (CHr.keep K84 all0 Rc.1)
            replace hk := Nat.le_trans hk K84.1
            replace Sf_b16 := Sf_b16'
            replace O := O.keep K84 all0
            replace Kp := Kp.trans K84 all0
            replace V_b12 := V_b12.keep K84 nin0
            replace Ex_b16 := Ex_b16.keep K84
            replace Fc57 := Fc57.keep K84 nin0
            replace Fv57 := Fv57.keep K84 nin0
            replace Vt57 := Vt57.keep K84 nin0
            show own_GoW p e below s _ _ _ _ (T84.setTop (mkF m 91 #[iv p1, .val (.long p2), .second, iv p3, iv kd, iv sh, iv ps, iv c1, iv c2, rv b16, rv b12, .unset, .unset] [.null]))
            refine own_goW (fun zt zk => (XS.astore X84.here hx rfl (hb hby at_91) rfl rfl (l' := #[iv p1, .val (.long p2), .second, iv p3, iv kd, iv sh, iv ps, iv c1, iv c2, rv b16, .val .null, .unset, .unset]) rfl (XS.aconstNull X84.here hx rfl (hb hby at_93) (XS.astore X84.here hx rfl (hb hby at_94) rfl rfl (l' := #[iv p1, .val (.long p2), .second, iv p3, iv kd, iv sh, iv ps, iv c1, iv c2, rv b16, .val .null, .val .null, .unset]) rfl (XS.aload X84.here hx rfl (hb hby at_96) rfl rfl (XS.ifnullNo X84.here hx rfl (hb hby at_98) rfl (XS.aload X84.here hx rfl (hb hby at_101) rfl rfl zk))))))) ?_
            show own_GoW p e below s _ _ _ _ (T84.setTop (mkF m 103 #[iv p1, .val (.long p2), .second, iv p3, iv kd, iv sh, iv ps, iv c1, iv c2, rv b16, .val .null, .val .null, .unset] [(.ref b16)]))
            obtain ⟨a85, T85, h85, q85, b85, k85, X85, e85, E85, hS85, hk85, hZ85, hown85, Ex_a85, Fc_a85, Fv_a85, Va_b85, lta85, ltb85, A85, Li85, Sn85, st85⟩ := ldcCH X84 hx hZ hown (hw _ (List.mem_of_getElem? (i := 67) rfl)) wS rfl hS hk hEL (by decide +kernel) Rc.1 (vs := [(.int (99 : Int32)), (.int (108 : Int32)), (.int (97 : Int32)), (.int (115 : Int32)), (.int (115 : Int32)), (.int (105 : Int32)), (.int (99 : Int32))]) (z := (7 : Int32)) ⟨by decide +kernel, by decide +kernel⟩ (by decide) rfl (g := (mkF m 103 #[iv p1, .val (.long p2), .second, iv p3, iv kd, iv sh, iv ps, iv c1, iv c2, rv b16, .val .null, .val .null, .unset] [(.ref b16)])) rfl (hb hby at_103) (n := 28) (by decide +kernel) (by decide) (by decide) (by decide)
            replace Sf_b16 := CHr.safe A85 Ex_b16.lt Sf_b16
            replace O := O.ext E85
            replace Kp := Kp.ext E85
            replace V_b12 := V_b12.ext E85
            replace Ex_b16 := Ex_b16.ext E85
            replace Fc57 := Fc57.ext E85
            replace Fv57 := Fv57.ext E85
            replace Vt57 := Vt57.ext E85
            replace Rc := Rc.trans A85
            replace hS := hS85
            replace hk := hk85
            replace hZ := hZ85
            replace hown := hown85
            refine own_goW st85 ?_
            have ne_b16_a85 := (Sn85 b16 Sf_b16).1
            have ne_b16_b85 := (Sn85 b16 Sf_b16).2
            show own_GoW p e below s _ _ _ _ (T85.setTop (mkF m 105 #[iv p1, .val (.long p2), .second, iv p3, iv kd, iv sh, iv ps, iv c1, iv c2, rv b16, .val .null, .val .null, .unset] [(.ref a85), (.ref b16)]))
            obtain ⟨cq86, kq86, qa86, qb86, qc86⟩ := isOf hZ e85 Ex_b16
            obtain ⟨_, _, ⟨T86, L86, k86, n86⟩, -, X86, ⟨Lc86, hQ86, l86, y86, z86⟩, st86⟩ := X85.virtualBack hx (y := (⟨"java/lang/String", "equals", "(Ljava/lang/Object;)Z"⟩ : MethodName)) (z := (⟨"java/lang/String", "equals", "(Ljava/lang/Object;)Z"⟩ : MethodName)) hown (mvT hZ (hw _ (List.mem_of_getElem? (i := 70) rfl))) (mvT hZ (hw _ (List.mem_of_getElem? (i := 58) rfl))) (notFace_of_selects (args := #[]) (mvT hZ (hw _ (List.mem_of_getElem? (i := 60) rfl)))) (mvT hZ (hw _ (List.mem_of_getElem? (i := 60) rfl))) (mvT hZ (hw _ (List.mem_of_getElem? (i := 59) rfl))) (by decide) (backOf (W := 0) (own_req l Z a0 hw [] b16 a85 o_COMPACT_STRINGS t57 b85 kb57 k85 (Int32.ofNat ds.length) (7 : Int32) (ds.map (fun c => c.toInt8.toInt32)) [(99 : Int32), (108 : Int32), (97 : Int32), (115 : Int32), (115 : Int32), (105 : Int32), (99 : Int32)] h85 n0 (Nat.le_trans Z0 Kp.1) O S_o_COMPACT_STRINGS Ex_b16 Fv57 Fc57 Vt57 Ex_a85 Fv_a85 Fc_a85 Va_b85 nz_o_COMPACT_STRINGS hxl rfl) hZ (hw _ (List.mem_of_getElem? (i := 61) rfl)) (hw _ (List.mem_of_getElem? (i := 7) rfl)) (by decide) (by decide)) qa86 qc86 (g := (mkF m 105 #[iv p1, .val (.long p2), .second, iv p3, iv kd, iv sh, iv ps, iv c1, iv c2, rv b16, .val .null, .val .null, .unset] [(.ref a85), (.ref b16)])) rfl (by rw [hml]; rfl) (Steps.refl _) (argsL := [(.ref a85)]) (rest := []) (lenOf own_pd__Ljava_lang_Object__Z rfl) rfl (by show 2 * 0 + _ ≤ _; exact Nat.le_of_eq rfl) (hb hby at_105) (fun _ _ => ⟨rfl, e85, (by decide : 6 + 0 ≤ _), (by decide : 54 + 0 ≤ _)⟩)
            dsimp only [Pt.U, Pt.locs, Pt.cells, Pt.slots] at X86 l86 y86 z86 st86 hQ86
            subst l86 y86 z86
            obtain ⟨hv86, Nq86, e86⟩ := hQ86
            rw [show own_eqv _ _ = (0 : Int32) from if_neg (fun q => hC q.symm)] at hv86
            subst hv86
            have N86 := Fr.app N84 Nq86
            refine own_goW (fun zt zk => st86.trans zk) ?_
            show own_GoW p e below s _ _ _ _ (T86.setTop (mkF m 108 #[iv p1, .val (.long p2), .second, iv p3, iv kd, iv sh, iv ps, iv c1, iv c2, rv b16, .val .null, .val .null, .unset] [(.int (0 : Int32))]))
            refine own_goW (fun zt zk => (XS.ifYes X86.here hx rfl (pc0 := 108) (pc' := 119) rfl (hb hby at_108) rfl ((if0 _ _).trans (teq (rfl : (0 : Int32) = (0 : Int32))).1) (by decide) (by decide) (XS.aload X86.here hx rfl (hb hby at_119) rfl rfl zk))) ?_
            show own_GoW p e below s _ _ _ _ (T86.setTop (mkF m 121 #[iv p1, .val (.long p2), .second, iv p3, iv kd, iv sh, iv ps, iv c1, iv c2, rv b16, .val .null, .val .null, .unset] [(.ref b16)]))
            obtain ⟨a87, T87, h87, q87, b87, k87, X87, e87, E87, hS87, hk87, hZ87, hown87, Ex_a87, Fc_a87, Fv_a87, Va_b87, lta87, ltb87, A87, Li87, Sn87, st87⟩ := ldcCH X86 hx hZ hown (hw _ (List.mem_of_getElem? (i := 71) rfl)) wS e86 hS hk hEL (by decide +kernel) Rc.1 (vs := [(.int (116 : Int32)), (.int (105 : Int32)), (.int (101 : Int32)), (.int (114 : Int32)), (.int (101 : Int32)), (.int (100 : Int32))]) (z := (6 : Int32)) ⟨by decide +kernel, by decide +kernel⟩ (by decide) rfl (g := (mkF m 121 #[iv p1, .val (.long p2), .second, iv p3, iv kd, iv sh, iv ps, iv c1, iv c2, rv b16, .val .null, .val .null, .unset] [(.ref b16)])) rfl (hb hby at_121) (n := 24) (by decide +kernel) (by decide) (by decide) (by decide)
            replace Sf_b16 := CHr.safe A87 Ex_b16.lt Sf_b16
            replace O := O.ext E87
            replace Kp := Kp.ext E87
            replace V_b12 := V_b12.ext E87
            replace Ex_b16 := Ex_b16.ext E87
            replace Fc57 := Fc57.ext E87
            replace Fv57 := Fv57.ext E87
            replace Vt57 := Vt57.ext E87
            replace Ex_a85 := Ex_a85.ext E87
            replace Fc_a85 := Fc_a85.ext E87
            replace Fv_a85 := Fv_a85.ext E87
            replace Va_b85 := Va_b85.ext E87
            replace Rc := Rc.trans A87
            replace hS := hS87
            replace hk := hk87
            replace hZ := hZ87
            replace hown := hown87
            refine own_goW st87 ?_
            have ne_b16_a87 := (Sn87 b16 Sf_b16).1
            have ne_b16_b87 := (Sn87 b16 Sf_b16).2
            show own_GoW p e below s _ _ _ _ (T87.setTop (mkF m 123 #[iv p1, .val (.long p2), .second, iv p3, iv kd, iv sh, iv ps, iv c1, iv c2, rv b16, .val .null, .val .null, .unset] [(.ref a87), (.ref b16)]))
            obtain ⟨cq88, kq88, qa88, qb88, qc88⟩ := isOf hZ e87 Ex_b16
            obtain ⟨_, _, ⟨T88, L88, k88, n88⟩, -, X88, ⟨Lc88, hQ88, l88, y88, z88⟩, st88⟩ := X87.virtualBack hx (y := (⟨"java/lang/String", "equals", "(Ljava/lang/Object;)Z"⟩ : MethodName)) (z := (⟨"java/lang/String", "equals", "(Ljava/lang/Object;)Z"⟩ : MethodName)) hown (mvT hZ (hw _ (List.mem_of_getElem? (i := 70) rfl))) (mvT hZ (hw _ (List.mem_of_getElem? (i := 58) rfl))) (notFace_of_selects (args := #[]) (mvT hZ (hw _ (List.mem_of_getElem? (i := 60) rfl)))) (mvT hZ (hw _ (List.mem_of_getElem? (i := 60) rfl))) (mvT hZ (hw _ (List.mem_of_getElem? (i := 59) rfl))) (by decide) (backOf (W := 0) (own_req l Z a0 hw [] b16 a87 o_COMPACT_STRINGS t57 b87 kb57 k87 (Int32.ofNat ds.length) (6 : Int32) (ds.map (fun c => c.toInt8.toInt32)) [(116 : Int32), (105 : Int32), (101 : Int32), (114 : Int32), (101 : Int32), (100 : Int32)] h87 n0 (Nat.le_trans Z0 Kp.1) O S_o_COMPACT_STRINGS Ex_b16 Fv57 Fc57 Vt57 Ex_a87 Fv_a87 Fc_a87 Va_b87 nz_o_COMPACT_STRINGS hxl rfl) hZ (hw _ (List.mem_of_getElem? (i := 61) rfl)) (hw _ (List.mem_of_getElem? (i := 7) rfl)) (by decide) (by decide)) qa88 qc88 (g := (mkF m 123 #[iv p1, .val (.long p2), .second, iv p3, iv kd, iv sh, iv ps, iv c1, iv c2, rv b16, .val .null, .val .null, .unset] [(.ref a87), (.ref b16)])) rfl (by rw [hml]; rfl) (Steps.refl _) (argsL := [(.ref a87)]) (rest := []) (lenOf own_pd__Ljava_lang_Object__Z rfl) rfl (by show 2 * 0 + _ ≤ _; exact Nat.le_of_eq rfl) (hb hby at_123) (fun _ _ => ⟨rfl, e87, (by decide : 8 + 0 ≤ _), (by decide : 82 + 0 ≤ _)⟩)
            dsimp only [Pt.U, Pt.locs, Pt.cells, Pt.slots] at X88 l88 y88 z88 st88 hQ88
            subst l88 y88 z88
            obtain ⟨hv88, Nq88, e88⟩ := hQ88
            rw [show own_eqv _ _ = (0 : Int32) from if_neg (fun q => hT q.symm)] at hv88
            subst hv88
            have N88 := Fr.app N86 Nq88
            refine own_goW (fun zt zk => st88.trans zk) ?_
            show own_GoW p e below s _ _ _ _ (T88.setTop (mkF m 126 #[iv p1, .val (.long p2), .second, iv p3, iv kd, iv sh, iv ps, iv c1, iv c2, rv b16, .val .null, .val .null, .unset] [(.int (0 : Int32))]))
            refine own_goW (fun zt zk => (XS.ifYes X88.here hx rfl (pc0 := 126) (pc' := 134) rfl (hb hby at_126) rfl ((if0 _ _).trans (teq (rfl : (0 : Int32) = (0 : Int32))).1) (by decide) (by decide) zk)) ?_
            show own_GoW p e below s _ _ _ _ (T88.setTop (mkF m 134 #[iv p1, .val (.long p2), .second, iv p3, iv kd, iv sh, iv ps, iv c1, iv c2, rv b16, .val .null, .val .null, .unset] []))
            obtain ⟨T89, X89, e89, st89⟩ := getS2 X88 hx hZ hown (host := "") (Or.inl (hw _ (List.mem_of_getElem? (i := 72) rfl))) Via.refl e88 (S_o_CLASSIC.ext O.2) (g := (mkF m 134 #[iv p1, .val (.long p2), .second, iv p3, iv kd, iv sh, iv ps, iv c1, iv c2, rv b16, .val .null, .val .null, .unset] [])) rfl (hb hby at_134)
            refine own_goW st89 ?_
            show own_GoW p e below s _ _ _ _ (T89.setTop (mkF m 137 #[iv p1, .val (.long p2), .second, iv p3, iv kd, iv sh, iv ps, iv c1, iv c2, rv b16, .val .null, .val .null, .unset] [(.ref o_CLASSIC)]))
            obtain ⟨cq90, kq90, qa90, qb90, qc90⟩ := isOf hZ e89 (Ex_o_CLASSIC.ext O.2)
            obtain ⟨_, _, ⟨T90, L90, k90, n90⟩, -, X90, ⟨Lc90, hQ90, l90, y90, z90⟩, st90⟩ := X89.virtualBack hx (y := (⟨"com/example/riskscan/riskscan/model/Profile", "code", "()Ljava/lang/String;"⟩ : MethodName)) (z := (⟨"com/example/riskscan/riskscan/model/Profile", "code", "()Ljava/lang/String;"⟩ : MethodName)) hown (mvT hZ (hw _ (List.mem_of_getElem? (i := 73) rfl))) (mvT hZ (hw _ (List.mem_of_getElem? (i := 74) rfl))) (notFace_of_selects (args := #[]) (mvT hZ (hw _ (List.mem_of_getElem? (i := 76) rfl)))) (mvT hZ (hw _ (List.mem_of_getElem? (i := 76) rfl))) (mvT hZ (hw _ (List.mem_of_getElem? (i := 75) rfl))) (by decide) (backOf (W := 0) (own_gcode l Z a0 hw [] o_CLASSIC o_CLASSIC_code h87 n0 (Nat.le_trans Z0 Kp.1) (F_o_CLASSIC_code.ext O.2)) hZ (hw _ (List.mem_of_getElem? (i := 77) rfl)) (hw _ (List.mem_of_getElem? (i := 36) rfl)) (by decide) (by decide)) qa90 qc90 (g := (mkF m 137 #[iv p1, .val (.long p2), .second, iv p3, iv kd, iv sh, iv ps, iv c1, iv c2, rv b16, .val .null, .val .null, .unset] [(.ref o_CLASSIC)])) rfl (by rw [hml]; rfl) (Steps.refl _) (argsL := []) (rest := []) (lenOf own_pd___Ljava_lang_String_ rfl) rfl (by show 2 * 0 + _ ≤ _; exact Nat.le_of_eq rfl) (hb hby at_137) (fun _ _ => ⟨rfl, e89, (by decide : 8 + 0 ≤ _), (by decide : 82 + 0 ≤ _)⟩)
            dsimp only [Pt.U, Pt.locs, Pt.cells, Pt.slots] at X90 l90 y90 z90 st90 hQ90
            subst l90 y90 z90
            obtain ⟨rfl, Nq90, e90⟩ := hQ90
            have N90 := Fr.app N88 Nq90
            refine own_goW (fun zt zk => st90.trans zk) ?_
            show own_GoW p e below s _ _ _ _ (T90.setTop (mkF m 140 #[iv p1, .val (.long p2), .second, iv p3, iv kd, iv sh, iv ps, iv c1, iv c2, rv b16, .val .null, .val .null, .unset] [(.ref o_CLASSIC_code)]))
            obtain ⟨_, _, ⟨T91, L91, k91, n91⟩, -, X91, ⟨Lc91, hQ91, l91, y91, z91⟩, st91⟩ := Jvm.LawKit.callS X90 hx (y := (⟨"com/example/riskscan/riskscan/model/Profile", "ofCode", "(Ljava/lang/String;)Lcom/example/riskscan/riskscan/model/Profile;"⟩ : MethodName)) hown (mvT hZ (hw _ (List.mem_of_getElem? (i := 34) rfl))) (mvT hZ (hw _ (List.mem_of_getElem? (i := 35) rfl))) (mvT hZ (hw _ (List.mem_of_getElem? (i := 36) rfl))) (mvT hZ (hw _ (List.mem_of_getElem? (i := 37) rfl))) (by decide) (backOf (W := 0) (own_rof0 l Z a0 hw [] o_CLASSIC_code o_CLASSIC_code_value k_o_CLASSIC_code_value (7 : Int32) [(99 : Int32), (108 : Int32), (97 : Int32), (115 : Int32), (115 : Int32), (105 : Int32), (99 : Int32)] o_COMPACT_STRINGS o__VALUES k_o__VALUES o_CLASSIC o_CLASSIC_code o_CLASSIC_code_value k_o_CLASSIC_code_value o_TIERED o_TIERED_code o_TIERED_code_value k_o_TIERED_code_value h87 n0 (Nat.le_trans Z0 Kp.1) O S_o_COMPACT_STRINGS S_o__VALUES V_o__VALUES Ex_o__VALUES Ex_o_CLASSIC F_o_CLASSIC_code Ex_o_CLASSIC_code F_o_CLASSIC_code_coder F_o_CLASSIC_code_value V_o_CLASSIC_code_value Ex_o_TIERED F_o_TIERED_code Ex_o_TIERED_code F_o_TIERED_code_coder F_o_TIERED_code_value V_o_TIERED_code_value (Ex_o_CLASSIC_code.ext O.2) (F_o_CLASSIC_code_value.ext O.2) (F_o_CLASSIC_code_coder.ext O.2) (V_o_CLASSIC_code_value.ext O.2) nz_o_COMPACT_STRINGS rfl rfl) hZ (hw _ (List.mem_of_getElem? (i := 37) rfl)) (hw _ (List.mem_of_getElem? (i := 36) rfl)) (by decide) (by decide)) (g := (mkF m 140 #[iv p1, .val (.long p2), .second, iv p3, iv kd, iv sh, iv ps, iv c1, iv c2, rv b16, .val .null, .val .null, .unset] [(.ref o_CLASSIC_code)])) rfl (by rw [hml]; rfl) (argsL := [(.ref o_CLASSIC_code)]) (rest := []) (lenOf own_pd__Ljava_lang_String__Lcom_example_riskscan_riskscan_model_Profile_ rfl) rfl (by show 2 * 0 + _ ≤ _; exact Nat.le_of_eq rfl) (hb hby at_140) (fun _ _ => ⟨rfl, e90, (by decide : 8 + 1 ≤ _), (by decide : 82 + 2 ≤ _)⟩)
            dsimp only [Pt.U, Pt.locs, Pt.cells, Pt.slots] at X91 l91 y91 z91 st91 hQ91
            subst l91 y91 z91
            obtain ⟨rfl, Nq91, K91⟩ := hQ91
            have N91 := Fr.app N90 Nq91
            refine own_goW st91 ?_
            have Sf_b16' := Safe.keep K91 all0 Rc.1 Sf_b16
            replace Rc := Rc.trans (CHr.keep K91 all0 Rc.1)
            replace hk := Nat.le_trans hk K91.1
            replace Sf_b16 := Sf_b16'
            replace O := O.keep K91 all0
            replace Kp := Kp.trans K91 all0
            replace V_b12 := V_b12.keep K91 nin0
            replace Ex_b16 := Ex_b16.keep K91
            replace Fc57 := Fc57.keep K91 nin0
            replace Fv57 := Fv57.keep K91 nin0
            replace Vt57 := Vt57.keep K91 nin0
            replace Ex_a85 := Ex_a85.keep K91
            replace Fc_a85 := Fc_a85.keep K91 nin0
            replace Fv_a85 := Fv_a85.keep K91 nin0
            replace Va_b85 := Va_b85.keep K91 nin0
            replace Ex_a87 := Ex_a87.keep K91
            replace Fc_a87 := Fc_a87.keep K91 nin0
            replace Fv_a87 := Fv_a87.keep K91 nin0
            replace Va_b87 := Va_b87.keep K91 nin0
            show own_GoW p e below s _ _ _ _ (T91.setTop (mkF m 143 #[iv p1, .val (.long p2), .second, iv p3, iv kd, iv sh, iv ps, iv c1, iv c2, rv b16, .val .null, .val .null, .unset] [(.ref o_CLASSIC)]))
            obtain ⟨T92, X92, e92, st92⟩ := getS2 X91 hx hZ hown (host := "") (Or.inl (hw _ (List.mem_of_getElem? (i := 72) rfl))) Via.refl rfl (S_o_CLASSIC.ext O.2) (g := (mkF m 143 #[iv p1, .val (.long p2), .second, iv p3, iv kd, iv sh, iv ps, iv c1, iv c2, rv b16, .val .null, .val .null, .unset] [(.ref o_CLASSIC)])) rfl (hb hby at_143)
            refine own_goW st92 ?_
            show own_GoW p e below s _ _ _ _ (T92.setTop (mkF m 146 #[iv p1, .val (.long p2), .second, iv p3, iv kd, iv sh, iv ps, iv c1, iv c2, rv b16, .val .null, .val .null, .unset] [(.ref o_CLASSIC), (.ref o_CLASSIC)]))
            refine own_goW (fun zt zk => Jvm.RoadKit.acmp (g := (mkF m 146 #[iv p1, .val (.long p2), .second, iv p3, iv kd, iv sh, iv ps, iv c1, iv c2, rv b16, .val .null, .val .null, .unset] [(.ref o_CLASSIC), (.ref o_CLASSIC)])) X92 hx rfl rfl rfl (pc0 := 146) (pc' := 149) (same := true) rfl (hb hby at_146) rfl (decide_eq_true rfl) (by decide) (by decide) zk) ?_
            show own_GoW p e below s _ _ _ _ (T92.setTop (mkF m 149 #[iv p1, .val (.long p2), .second, iv p3, iv kd, iv sh, iv ps, iv c1, iv c2, rv b16, .val .null, .val .null, .unset] []))
            obtain ⟨T93, X93, e93, st93⟩ := getS2 X92 hx hZ hown (host := "") (Or.inl (hw _ (List.mem_of_getElem? (i := 78) rfl))) Via.refl e92 (S_o_TIERED.ext O.2) (g := (mkF m 149 #[iv p1, .val (.long p2), .second, iv p3, iv kd, iv sh, iv ps, iv c1, iv c2, rv b16, .val .null, .val .null, .unset] [])) rfl (hb hby at_149)
            refine own_goW st93 ?_
            show own_GoW p e below s _ _ _ _ (T93.setTop (mkF m 152 #[iv p1, .val (.long p2), .second, iv p3, iv kd, iv sh, iv ps, iv c1, iv c2, rv b16, .val .null, .val .null, .unset] [(.ref o_TIERED)]))
            obtain ⟨cq94, kq94, qa94, qb94, qc94⟩ := isOf hZ e93 (Ex_o_TIERED.ext O.2)
            obtain ⟨_, _, ⟨T94, L94, k94, n94⟩, -, X94, ⟨Lc94, hQ94, l94, y94, z94⟩, st94⟩ := X93.virtualBack hx (y := (⟨"com/example/riskscan/riskscan/model/Profile", "code", "()Ljava/lang/String;"⟩ : MethodName)) (z := (⟨"com/example/riskscan/riskscan/model/Profile", "code", "()Ljava/lang/String;"⟩ : MethodName)) hown (mvT hZ (hw _ (List.mem_of_getElem? (i := 73) rfl))) (mvT hZ (hw _ (List.mem_of_getElem? (i := 74) rfl))) (notFace_of_selects (args := #[]) (mvT hZ (hw _ (List.mem_of_getElem? (i := 76) rfl)))) (mvT hZ (hw _ (List.mem_of_getElem? (i := 76) rfl))) (mvT hZ (hw _ (List.mem_of_getElem? (i := 75) rfl))) (by decide) (backOf (W := 0) (own_gcode l Z a0 hw [] o_TIERED o_TIERED_code T91.heap n0 (Nat.le_trans Z0 Kp.1) (F_o_TIERED_code.ext O.2)) hZ (hw _ (List.mem_of_getElem? (i := 77) rfl)) (hw _ (List.mem_of_getElem? (i := 36) rfl)) (by decide) (by decide)) qa94 qc94 (g := (mkF m 152 #[iv p1, .val (.long p2), .second, iv p3, iv kd, iv sh, iv ps, iv c1, iv c2, rv b16, .val .null, .val .null, .unset] [(.ref o_TIERED)])) rfl (by rw [hml]; rfl) (Steps.refl _) (argsL := []) (rest := []) (lenOf own_pd___Ljava_lang_String_ rfl) rfl (by show 2 * 0 + _ ≤ _; exact Nat.le_of_eq rfl) (hb hby at_152) (fun _ _ => ⟨rfl, e93, (by decide : 9 + 0 ≤ _), (by decide : 84 + 0 ≤ _)⟩)
            dsimp only [Pt.U, Pt.locs, Pt.cells, Pt.slots] at X94 l94 y94 z94 st94 hQ94
            subst l94 y94 z94
            obtain ⟨rfl, Nq94, e94⟩ := hQ94
            have N94 := Fr.app N91 Nq94
            refine own_goW (fun zt zk => st94.trans zk) ?_
            show own_GoW p e below s _ _ _ _ (T94.setTop (mkF m 155 #[iv p1, .val (.long p2), .second, iv p3, iv kd, iv sh, iv ps, iv c1, iv c2, rv b16, .val .null, .val .null, .unset] [(.ref o_TIERED_code)]))
            obtain ⟨_, _, ⟨T95, L95, k95, n95⟩, -, X95, ⟨Lc95, hQ95, l95, y95, z95⟩, st95⟩ := Jvm.LawKit.callS X94 hx (y := (⟨"com/example/riskscan/riskscan/model/Profile", "ofCode", "(Ljava/lang/String;)Lcom/example/riskscan/riskscan/model/Profile;"⟩ : MethodName)) hown (mvT hZ (hw _ (List.mem_of_getElem? (i := 34) rfl))) (mvT hZ (hw _ (List.mem_of_getElem? (i := 35) rfl))) (mvT hZ (hw _ (List.mem_of_getElem? (i := 36) rfl))) (mvT hZ (hw _ (List.mem_of_getElem? (i := 37) rfl))) (by decide) (backOf (W := 0) (own_rof1 l Z a0 hw [] o_TIERED_code o_TIERED_code_value k_o_TIERED_code_value (6 : Int32) [(116 : Int32), (105 : Int32), (101 : Int32), (114 : Int32), (101 : Int32), (100 : Int32)] o_COMPACT_STRINGS o__VALUES k_o__VALUES o_CLASSIC o_CLASSIC_code o_CLASSIC_code_value k_o_CLASSIC_code_value o_TIERED o_TIERED_code o_TIERED_code_value k_o_TIERED_code_value T91.heap n0 (Nat.le_trans Z0 Kp.1) O S_o_COMPACT_STRINGS S_o__VALUES V_o__VALUES Ex_o__VALUES Ex_o_CLASSIC F_o_CLASSIC_code Ex_o_CLASSIC_code F_o_CLASSIC_code_coder F_o_CLASSIC_code_value V_o_CLASSIC_code_value Ex_o_TIERED F_o_TIERED_code Ex_o_TIERED_code F_o_TIERED_code_coder F_o_TIERED_code_value V_o_TIERED_code_value (Ex_o_TIERED_code.ext O.2) (F_o_TIERED_code_value.ext O.2) (F_o_TIERED_code_coder.ext O.2) (V_o_TIERED_code_value.ext O.2) nz_o_COMPACT_STRINGS rfl (by decide) rfl) hZ (hw _ (List.mem_of_getElem? (i := 37) rfl)) (hw _ (List.mem_of_getElem? (i := 36) rfl)) (by decide) (by decide)) (g := (mkF m 155 #[iv p1, .val (.long p2), .second, iv p3, iv kd, iv sh, iv ps, iv c1, iv c2, rv b16, .val .null, .val .null, .unset] [(.ref o_TIERED_code)])) rfl (by rw [hml]; rfl) (argsL := [(.ref o_TIERED_code)]) (rest := []) (lenOf own_pd__Ljava_lang_String__Lcom_example_riskscan_riskscan_model_Profile_ rfl) rfl (by show 2 * 0 + _ ≤ _; exact Nat.le_of_eq rfl) (hb hby at_155) (fun _ _ => ⟨rfl, e94, (by decide : 9 + 1 ≤ _), (by decide : 84 + 2 ≤ _)⟩)
            dsimp only [Pt.U, Pt.locs, Pt.cells, Pt.slots] at X95 l95 y95 z95 st95 hQ95
            subst l95 y95 z95
            obtain ⟨rfl, Nq95, K95⟩ := hQ95
            have N95 := Fr.app N94 Nq95
            refine own_goW st95 ?_
            have Sf_b16' := Safe.keep K95 all0 Rc.1 Sf_b16
            replace Rc := Rc.trans (CHr.keep K95 all0 Rc.1)
            replace hk := Nat.le_trans hk K95.1
            replace Sf_b16 := Sf_b16'
            replace O := O.keep K95 all0
            replace Kp := Kp.trans K95 all0
            replace V_b12 := V_b12.keep K95 nin0
            replace Ex_b16 := Ex_b16.keep K95
            replace Fc57 := Fc57.keep K95 nin0
            replace Fv57 := Fv57.keep K95 nin0
            replace Vt57 := Vt57.keep K95 nin0
            replace Ex_a85 := Ex_a85.keep K95
            replace Fc_a85 := Fc_a85.keep K95 nin0
            replace Fv_a85 := Fv_a85.keep K95 nin0
            replace Va_b85 := Va_b85.keep K95 nin0
            replace Ex_a87 := Ex_a87.keep K95
            replace Fc_a87 := Fc_a87.keep K95 nin0
            replace Fv_a87 := Fv_a87.keep K95 nin0
            replace Va_b87 := Va_b87.keep K95 nin0
            show own_GoW p e below s _ _ _ _ (T95.setTop (mkF m 158 #[iv p1, .val (.long p2), .second, iv p3, iv kd, iv sh, iv ps, iv c1, iv c2, rv b16, .val .null, .val .null, .unset] [(.ref o_TIERED)]))
            obtain ⟨T96, X96, e96, st96⟩ := getS2 X95 hx hZ hown (host := "") (Or.inl (hw _ (List.mem_of_getElem? (i := 78) rfl))) Via.refl rfl (S_o_TIERED.ext O.2) (g := (mkF m 158 #[iv p1, .val (.long p2), .second, iv p3, iv kd, iv sh, iv ps, iv c1, iv c2, rv b16, .val .null, .val .null, .unset] [(.ref o_TIERED)])) rfl (hb hby at_158)
            refine own_goW st96 ?_
            show own_GoW p e below s _ _ _ _ (T96.setTop (mkF m 161 #[iv p1, .val (.long p2), .second, iv p3, iv kd, iv sh, iv ps, iv c1, iv c2, rv b16, .val .null, .val .null, .unset] [(.ref o_TIERED), (.ref o_TIERED)]))
            refine own_goW (fun zt zk => Jvm.RoadKit.acmp (g := (mkF m 161 #[iv p1, .val (.long p2), .second, iv p3, iv kd, iv sh, iv ps, iv c1, iv c2, rv b16, .val .null, .val .null, .unset] [(.ref o_TIERED), (.ref o_TIERED)])) X96 hx rfl rfl rfl (pc0 := 161) (pc' := 164) (same := true) rfl (hb hby at_161) rfl (decide_eq_true rfl) (by decide) (by decide) zk) ?_
            show own_GoW p e below s _ _ _ _ (T96.setTop (mkF m 164 #[iv p1, .val (.long p2), .second, iv p3, iv kd, iv sh, iv ps, iv c1, iv c2, rv b16, .val .null, .val .null, .unset] []))
            refine own_goW (fun zt zk => (XS.iconst X96.here hx rfl (hb hby at_164) (XS.goto X96.here hx rfl (pc0 := 165) (pc' := 169) rfl (hb hby at_165) (by decide) (by decide) (XS.istore X96.here hx rfl (hb hby at_169) rfl (l' := #[iv p1, .val (.long p2), .second, iv p3, iv kd, iv sh, iv ps, iv c1, iv c2, rv b16, .val .null, .val .null, iv (1 : Int32)]) rfl (XS.aload X96.here hx rfl (hb hby at_171) rfl rfl (XS.aload X96.here hx rfl (hb hby at_173) rfl rfl zk)))))) ?_
            show own_GoW p e below s _ _ _ _ (T96.setTop (mkF m 175 #[iv p1, .val (.long p2), .second, iv p3, iv kd, iv sh, iv ps, iv c1, iv c2, rv b16, .val .null, .val .null, iv (1 : Int32)] [.null, .null]))
            refine own_goW (fun zt zk => Jvm.RoadKit.acmp (g := (mkF m 175 #[iv p1, .val (.long p2), .second, iv p3, iv kd, iv sh, iv ps, iv c1, iv c2, rv b16, .val .null, .val .null, iv (1 : Int32)] [.null, .null])) X96 hx rfl rfl rfl (pc0 := 175) (pc' := 178) (same := true) rfl (hb hby at_175) rfl (decide_eq_true rfl) (by decide) (by decide) zk) ?_
            show own_GoW p e below s _ _ _ _ (T96.setTop (mkF m 178 #[iv p1, .val (.long p2), .second, iv p3, iv kd, iv sh, iv ps, iv c1, iv c2, rv b16, .val .null, .val .null, iv (1 : Int32)] []))
            refine own_goW (fun zt zk => (XS.iload X96.here hx rfl (hb hby at_178) rfl (XS.ifNo X96.here hx rfl (hb hby at_180) rfl ((if0 _ _).trans (feq ((by decide) : ¬ ((1 : Int32) = (0 : Int32)))).1) (XS.iconst X96.here hx rfl (hb hby at_183) (XS.goto X96.here hx rfl (pc0 := 184) (pc' := 188) rfl (hb hby at_184) (by decide) (by decide) zk))))) ?_
            show own_GoW p e below s _ _ _ _ (T96.setTop (mkF m 188 #[iv p1, .val (.long p2), .second, iv p3, iv kd, iv sh, iv ps, iv c1, iv c2, rv b16, .val .null, .val .null, iv (1 : Int32)] [(.int (1 : Int32))]))
            have Re := Rc.trans (CHv.at X96 hZ hEL Rc.1)
            exact own_finW X96 hS (by rw [e96]; exact hk) (by rw [e96, hh]; exact Re) Bd.notSynchronized (fun h => by rw [Bd.returns] at h; cases h) (fun fs hr => retN X96 hx (t := .boolean) Bd.returns (by simp) (hb hby at_188) hr) (by rw [e96]; exact ⟨rfl, N95⟩) (by decide) (by decide)
    · refine own_goW (fun zt zk => (XS.icmpYes X12.here hx rfl (pc0 := 65) (pc' := 75) rfl (hb hby at_65) rfl (flt (hpos : ¬ (ps < (Int32.ofNat cs12.length)))).2.1 (by decide) (by decide) zk)) ?_
      show own_GoW p e below s _ _ _ _ (T12.setTop (mkF m 75 #[iv p1, .val (.long p2), .second, iv p3, iv kd, iv sh, iv ps, iv c1, iv c2, .val .null, rv b12, .unset, .unset] []))
      obtain ⟨T97, h97, X97, e97, E97, A97, D97, -, st97⟩ := newO X12 hx hZ hown (hw _ (List.mem_of_getElem? (i := 5) rfl)) (hw _ (List.mem_of_getElem? (i := 6) rfl)) (hw _ (List.mem_of_getElem? (i := 7) rfl)) rfl (g := (mkF m 75 #[iv p1, .val (.long p2), .second, iv p3, iv kd, iv sh, iv ps, iv c1, iv c2, .val .null, rv b12, .unset, .unset] [])) rfl (hb hby at_75) (by decide) (by decide)
      obtain ⟨b97, g97⟩ : ∃ z, z = T12.heap.size := ⟨_, rfl⟩
      rw [← g97] at A97 D97 st97
      refine own_goW st97 ?_
      have ne_o__VALUES_b97 : o__VALUES ≠ b97 := Nat.ne_of_lt (Nat.lt_of_lt_of_le (Ex_o__VALUES.ext O.2).lt (Nat.le_of_eq g97.symm))
      have ne_o_CLASSIC_b97 : o_CLASSIC ≠ b97 := Nat.ne_of_lt (Nat.lt_of_lt_of_le (Ex_o_CLASSIC.ext O.2).lt (Nat.le_of_eq g97.symm))
      have ne_o_TIERED_b97 : o_TIERED ≠ b97 := Nat.ne_of_lt (Nat.lt_of_lt_of_le (Ex_o_TIERED.ext O.2).lt (Nat.le_of_eq g97.symm))
      have ne_o_CLASSIC_code_b97 : o_CLASSIC_code ≠ b97 := Nat.ne_of_lt (Nat.lt_of_lt_of_le (Ex_o_CLASSIC_code.ext O.2).lt (Nat.le_of_eq g97.symm))
      have ne_o_TIERED_code_b97 : o_TIERED_code ≠ b97 := Nat.ne_of_lt (Nat.lt_of_lt_of_le (Ex_o_TIERED_code.ext O.2).lt (Nat.le_of_eq g97.symm))
      have ne_o_CLASSIC_code_value_b97 : o_CLASSIC_code_value ≠ b97 := Nat.ne_of_lt (Nat.lt_of_lt_of_le (V_o_CLASSIC_code_value.ext O.2).lt (Nat.le_of_eq g97.symm))
      have ne_o_TIERED_code_value_b97 : o_TIERED_code_value ≠ b97 := Nat.ne_of_lt (Nat.lt_of_lt_of_le (V_o_TIERED_code_value.ext O.2).lt (Nat.le_of_eq g97.symm))
      have ne_b12_b97 : b12 ≠ b97 := Nat.ne_of_lt (Nat.lt_of_lt_of_le V_b12.lt (Nat.le_of_eq g97.symm))
      have sz_b97 : h0.size ≤ b97 := Nat.le_trans Kp.1 (Nat.le_of_eq g97.symm)
      have g_b97 : n0 ≤ b97 := Nat.le_trans Z0 sz_b97
      have Sf_b97 : Safe Z own_EL s.vm T12.heap b97 := Safe.new (Nat.le_of_eq g97.symm)
      replace O := O.ext E97
      replace Kp := Kp.ext E97
      replace V_b12 := V_b12.ext E97
      replace Sf_b97 := Safe.ext E97 Rc.1 Sf_b97
      replace Rc := Rc.trans (CHr.ext E97 Rc.1)
      replace hk := Nat.le_trans hk E97.1
      have Ex_b97 := A97
      have F_coder_b97 : Fld Z h97 b97 "java/lang/String" "coder" "B" (.int (0 : Int32)) := D97 (Or.inr (hw _ (List.mem_of_getElem? (i := 31) rfl))) (ty := .byte) (by decide)
      have F_value_b97 : Fld Z h97 b97 "java/lang/String" "value" "[B" .null := D97 (Or.inr (hw _ (List.mem_of_getElem? (i := 33) rfl))) (ty := (.array .byte)) (by decide)
      show own_GoW p e below s _ _ _ _ (T97.setTop (mkF m 78 #[iv p1, .val (.long p2), .second, iv p3, iv kd, iv sh, iv ps, iv c1, iv c2, .val .null, rv b12, .unset, .unset] [(.ref b97)]))
      refine own_goW (fun zt zk => (XS.dup X97.here hx rfl (hb hby at_78) rfl rfl (XS.aload X97.here hx rfl (hb hby at_79) rfl rfl zk))) ?_
      show own_GoW p e below s _ _ _ _ (T97.setTop (mkF m 81 #[iv p1, .val (.long p2), .second, iv p3, iv kd, iv sh, iv ps, iv c1, iv c2, .val .null, rv b12, .unset, .unset] [(.ref b12), (.ref b97), (.ref b97)]))
      by_cases hz : cs12.length = 0
      · have hnil := List.eq_nil_of_length_eq_zero hz
        subst hnil
        replace V_b12 : Arv Z h97 b12 kc12 .char (0 : Int32) [] (.int (0 : Int32)) := V_b12
        show own_GoW p e below s _ _ _ _ (T97.setTop (mkF m 81 #[iv p1, .val (.long p2), .second, iv p3, iv kd, iv sh, iv ps, iv c1, iv c2, .val .null, rv b12, .unset, .unset] [(.ref b12), (.ref b97), (.ref b97)]))
        obtain ⟨_, _, ⟨T98, L98, k98, n98⟩, -, X98, hSq98, hgq98, ⟨Lc98, hQ98, l98, y98, z98, A98⟩, st98⟩ := X97.specialBackS hx (y := (⟨"java/lang/String", "<init>", "([C)V"⟩ : MethodName)) rfl hown (mvT hZ (hw _ (List.mem_of_getElem? (i := 8) rfl))) (mvT hZ (hw _ (List.mem_of_getElem? (i := 9) rfl))) (mvT hZ (hw _ (List.mem_of_getElem? (i := 10) rfl))) (by decide) (own_backW (s := s) (W := 1) (own_rn1e l Z a0 hw [] b97 b12 kc12 s.vm h97 n0 (Nat.le_trans Z0 Kp.1) Ex_b97 F_value_b97 F_coder_b97 Sf_b97 V_b12 g_b97 ne_b12_b97) hZ (hw _ (List.mem_of_getElem? (i := 10) rfl)) (hw _ (List.mem_of_getElem? (i := 7) rfl)) (by decide) (by decide) hEL Rc.1) (g := (mkF m 81 #[iv p1, .val (.long p2), .second, iv p3, iv kd, iv sh, iv ps, iv c1, iv c2, .val .null, rv b12, .unset, .unset] [(.ref b12), (.ref b97), (.ref b97)])) rfl (by rw [hml]; rfl) (Steps.refl _) (a := b97) (argsL := [(.ref b12)]) (rest := [(.ref b97)]) (lenOf own_pd___C_V rfl) rfl (by show 2 * 0 + _ ≤ _; exact Nat.le_of_eq rfl) (hb hby at_81) (fun _ _ => ⟨rfl, e97, (by decide : 2 + 4 ≤ _), (by decide : 12 + 8 ≤ _)⟩)
        dsimp only [Pt.U, Pt.locs, Pt.cells, Pt.slots] at X98 l98 y98 z98 st98 hQ98 hSq98 hgq98 A98
        subst l98 y98 z98
        obtain ⟨X98, hS98, hZ98, hown98⟩ := rebS hS (by rw [e97]; exact hk) X98 hSq98 hgq98 hZ hown
        replace Sf_b97 := CHr.safe A98 Ex_b97.lt Sf_b97
        replace Rc := Rc.trans A98
        replace hS := hS98
        replace hZ := hZ98
        replace hown := hown98
        have hk : T98.heap.size ≤ T98.heap.size := Nat.le_refl _
        obtain ⟨t98, kb98, rfl, Nq98, K98, -, F_value_b97, F_coder_b97, Va98⟩ := hQ98
        have N98 := Fr.app N12 Nq98
        refine own_goW (fun zt zk => st98.trans zk) ?_
        replace O := O.keep K98 (allS g_b97 all0)
        replace Kp := Kp.trans K98 (allS (Or.inr sz_b97) all0)
        replace V_b12 := V_b12.keep K98 (ninS ne_b12_b97 nin0)
        replace Ex_b97 := Ex_b97.keep K98
        show own_GoW p e below s _ _ _ _ (T98.setTop (mkF m 84 #[iv p1, .val (.long p2), .second, iv p3, iv kd, iv sh, iv ps, iv c1, iv c2, .val .null, rv b12, .unset, .unset] [(.ref b97)]))
        refine own_goW (fun zt zk => (XS.astore X98.here hx rfl (hb hby at_84) rfl rfl (l' := #[iv p1, .val (.long p2), .second, iv p3, iv kd, iv sh, iv ps, iv c1, iv c2, rv b97, rv b12, .unset, .unset]) rfl (XS.aload X98.here hx rfl (hb hby at_86) rfl rfl zk))) ?_
        show own_GoW p e below s _ _ _ _ (T98.setTop (mkF m 88 #[iv p1, .val (.long p2), .second, iv p3, iv kd, iv sh, iv ps, iv c1, iv c2, rv b97, rv b12, .unset, .unset] [(.ref b97)]))
        by_cases hC : [(99 : Int32), (108 : Int32), (97 : Int32), (115 : Int32), (115 : Int32), (105 : Int32), (99 : Int32)] = ([] : List Int32)
        · obtain ⟨_, _, ⟨T99, L99, k99, n99⟩, -, X99, ⟨Lc99, hQ99, l99, y99, z99⟩, st99⟩ := Jvm.LawKit.callS X98 hx (y := (⟨"com/example/riskscan/riskscan/model/Profile", "ofCode", "(Ljava/lang/String;)Lcom/example/riskscan/riskscan/model/Profile;"⟩ : MethodName)) hown (mvT hZ (hw _ (List.mem_of_getElem? (i := 34) rfl))) (mvT hZ (hw _ (List.mem_of_getElem? (i := 35) rfl))) (mvT hZ (hw _ (List.mem_of_getElem? (i := 36) rfl))) (mvT hZ (hw _ (List.mem_of_getElem? (i := 37) rfl))) (by decide) (backOf (W := 0) (own_rof0 l Z a0 hw [] b97 t98 kb98 (0 : Int32) ([] : List Int32) o_COMPACT_STRINGS o__VALUES k_o__VALUES o_CLASSIC o_CLASSIC_code o_CLASSIC_code_value k_o_CLASSIC_code_value o_TIERED o_TIERED_code o_TIERED_code_value k_o_TIERED_code_value T98.heap n0 (Nat.le_trans Z0 Kp.1) O S_o_COMPACT_STRINGS S_o__VALUES V_o__VALUES Ex_o__VALUES Ex_o_CLASSIC F_o_CLASSIC_code Ex_o_CLASSIC_code F_o_CLASSIC_code_coder F_o_CLASSIC_code_value V_o_CLASSIC_code_value Ex_o_TIERED F_o_TIERED_code Ex_o_TIERED_code F_o_TIERED_code_coder F_o_TIERED_code_value V_o_TIERED_code_value Ex_b97 F_value_b97 F_coder_b97 Va98 nz_o_COMPACT_STRINGS rfl hC) hZ (hw _ (List.mem_of_getElem? (i := 37) rfl)) (hw _ (List.mem_of_getElem? (i := 36) rfl)) (by decide) (by decide)) (g := (mkF m 88 #[iv p1, .val (.long p2), .second, iv p3, iv kd, iv sh, iv ps, iv c1, iv c2, rv b97, rv b12, .unset, .unset] [(.ref b97)])) rfl (by rw [hml]; rfl) (argsL := [(.ref b97)]) (rest := []) (lenOf own_pd__Ljava_lang_String__Lcom_example_riskscan_riskscan_model_Profile_ rfl) rfl (by show 2 * 0 + _ ≤ _; exact Nat.le_of_eq rfl) (hb hby at_88) (fun _ _ => ⟨rfl, rfl, (by decide : 6 + 1 ≤ _), (by decide : 20 + 2 ≤ _)⟩)
          dsimp only [Pt.U, Pt.locs, Pt.cells, Pt.slots] at X99 l99 y99 z99 st99 hQ99
          subst l99 y99 z99
          obtain ⟨rfl, Nq99, K99⟩ := hQ99
          have N99 := Fr.app N98 Nq99
          refine own_goW st99 ?_
          have Sf_b97' := Safe.keep K99 all0 Rc.1 Sf_b97
          replace Rc := Rc.trans (CHr.keep K99 all0 Rc.1)
          replace hk := Nat.le_trans hk K99.1
          replace Sf_b97 := Sf_b97'
          replace O := O.keep K99 all0
          replace Kp := Kp.trans K99 all0
          replace V_b12 := V_b12.keep K99 nin0
          replace Ex_b97 := Ex_b97.keep K99
          replace F_value_b97 := F_value_b97.keep K99 nin0
          replace F_coder_b97 := F_coder_b97.keep K99 nin0
          replace Va98 := Va98.keep K99 nin0
          show own_GoW p e below s _ _ _ _ (T99.setTop (mkF m 91 #[iv p1, .val (.long p2), .second, iv p3, iv kd, iv sh, iv ps, iv c1, iv c2, rv b97, rv b12, .unset, .unset] [(.ref o_CLASSIC)]))
          refine own_goW (fun zt zk => (XS.astore X99.here hx rfl (hb hby at_91) rfl rfl (l' := #[iv p1, .val (.long p2), .second, iv p3, iv kd, iv sh, iv ps, iv c1, iv c2, rv b97, rv o_CLASSIC, .unset, .unset]) rfl (XS.aconstNull X99.here hx rfl (hb hby at_93) (XS.astore X99.here hx rfl (hb hby at_94) rfl rfl (l' := #[iv p1, .val (.long p2), .second, iv p3, iv kd, iv sh, iv ps, iv c1, iv c2, rv b97, rv o_CLASSIC, .val .null, .unset]) rfl (XS.aload X99.here hx rfl (hb hby at_96) rfl rfl (XS.ifnullNo X99.here hx rfl (hb hby at_98) rfl (XS.aload X99.here hx rfl (hb hby at_101) rfl rfl zk))))))) ?_
          show own_GoW p e below s _ _ _ _ (T99.setTop (mkF m 103 #[iv p1, .val (.long p2), .second, iv p3, iv kd, iv sh, iv ps, iv c1, iv c2, rv b97, rv o_CLASSIC, .val .null, .unset] [(.ref b97)]))
          obtain ⟨a100, T100, h100, q100, b100, k100, X100, e100, E100, hS100, hk100, hZ100, hown100, Ex_a100, Fc_a100, Fv_a100, Va_b100, lta100, ltb100, A100, Li100, Sn100, st100⟩ := ldcCH X99 hx hZ hown (hw _ (List.mem_of_getElem? (i := 67) rfl)) wS rfl hS hk hEL (by decide +kernel) Rc.1 (vs := [(.int (99 : Int32)), (.int (108 : Int32)), (.int (97 : Int32)), (.int (115 : Int32)), (.int (115 : Int32)), (.int (105 : Int32)), (.int (99 : Int32))]) (z := (7 : Int32)) ⟨by decide +kernel, by decide +kernel⟩ (by decide) rfl (g := (mkF m 103 #[iv p1, .val (.long p2), .second, iv p3, iv kd, iv sh, iv ps, iv c1, iv c2, rv b97, rv o_CLASSIC, .val .null, .unset] [(.ref b97)])) rfl (hb hby at_103) (n := 28) (by decide +kernel) (by decide) (by decide) (by decide)
          replace Sf_b97 := CHr.safe A100 Ex_b97.lt Sf_b97
          replace O := O.ext E100
          replace Kp := Kp.ext E100
          replace V_b12 := V_b12.ext E100
          replace Ex_b97 := Ex_b97.ext E100
          replace F_value_b97 := F_value_b97.ext E100
          replace F_coder_b97 := F_coder_b97.ext E100
          replace Va98 := Va98.ext E100
          replace Rc := Rc.trans A100
          replace hS := hS100
          replace hk := hk100
          replace hZ := hZ100
          replace hown := hown100
          refine own_goW st100 ?_
          have ne_b97_a100 := (Sn100 b97 Sf_b97).1
          have ne_b97_b100 := (Sn100 b97 Sf_b97).2
          show own_GoW p e below s _ _ _ _ (T100.setTop (mkF m 105 #[iv p1, .val (.long p2), .second, iv p3, iv kd, iv sh, iv ps, iv c1, iv c2, rv b97, rv o_CLASSIC, .val .null, .unset] [(.ref a100), (.ref b97)]))
          obtain ⟨cq101, kq101, qa101, qb101, qc101⟩ := isOf hZ e100 Ex_b97
          obtain ⟨_, _, ⟨T101, L101, k101, n101⟩, -, X101, ⟨Lc101, hQ101, l101, y101, z101⟩, st101⟩ := X100.virtualBack hx (y := (⟨"java/lang/String", "equals", "(Ljava/lang/Object;)Z"⟩ : MethodName)) (z := (⟨"java/lang/String", "equals", "(Ljava/lang/Object;)Z"⟩ : MethodName)) hown (mvT hZ (hw _ (List.mem_of_getElem? (i := 70) rfl))) (mvT hZ (hw _ (List.mem_of_getElem? (i := 58) rfl))) (notFace_of_selects (args := #[]) (mvT hZ (hw _ (List.mem_of_getElem? (i := 60) rfl)))) (mvT hZ (hw _ (List.mem_of_getElem? (i := 60) rfl))) (mvT hZ (hw _ (List.mem_of_getElem? (i := 59) rfl))) (by decide) (backOf (W := 0) (own_req l Z a0 hw [] b97 a100 o_COMPACT_STRINGS t98 b100 kb98 k100 (0 : Int32) (7 : Int32) ([] : List Int32) [(99 : Int32), (108 : Int32), (97 : Int32), (115 : Int32), (115 : Int32), (105 : Int32), (99 : Int32)] h100 n0 (Nat.le_trans Z0 Kp.1) O S_o_COMPACT_STRINGS Ex_b97 F_value_b97 F_coder_b97 Va98 Ex_a100 Fv_a100 Fc_a100 Va_b100 nz_o_COMPACT_STRINGS rfl rfl) hZ (hw _ (List.mem_of_getElem? (i := 61) rfl)) (hw _ (List.mem_of_getElem? (i := 7) rfl)) (by decide) (by decide)) qa101 qc101 (g := (mkF m 105 #[iv p1, .val (.long p2), .second, iv p3, iv kd, iv sh, iv ps, iv c1, iv c2, rv b97, rv o_CLASSIC, .val .null, .unset] [(.ref a100), (.ref b97)])) rfl (by rw [hml]; rfl) (Steps.refl _) (argsL := [(.ref a100)]) (rest := []) (lenOf own_pd__Ljava_lang_Object__Z rfl) rfl (by show 2 * 0 + _ ≤ _; exact Nat.le_of_eq rfl) (hb hby at_105) (fun _ _ => ⟨rfl, e100, (by decide : 9 + 0 ≤ _), (by decide : 54 + 0 ≤ _)⟩)
          dsimp only [Pt.U, Pt.locs, Pt.cells, Pt.slots] at X101 l101 y101 z101 st101 hQ101
          subst l101 y101 z101
          obtain ⟨hv101, Nq101, e101⟩ := hQ101
          rw [show own_eqv _ _ = (1 : Int32) from if_pos hC.symm] at hv101
          subst hv101
          have N101 := Fr.app N99 Nq101
          refine own_goW (fun zt zk => st101.trans zk) ?_
          show own_GoW p e below s _ _ _ _ (T101.setTop (mkF m 108 #[iv p1, .val (.long p2), .second, iv p3, iv kd, iv sh, iv ps, iv c1, iv c2, rv b97, rv o_CLASSIC, .val .null, .unset] [(.int (1 : Int32))]))
          refine own_goW (fun zt zk => (XS.ifNo X101.here hx rfl (hb hby at_108) rfl ((if0 _ _).trans (feq ((by decide) : ¬ ((1 : Int32) = (0 : Int32)))).1) zk)) ?_
          show own_GoW p e below s _ _ _ _ (T101.setTop (mkF m 111 #[iv p1, .val (.long p2), .second, iv p3, iv kd, iv sh, iv ps, iv c1, iv c2, rv b97, rv o_CLASSIC, .val .null, .unset] []))
          obtain ⟨T102, X102, e102, st102⟩ := getS2 X101 hx hZ hown (host := "") (Or.inl (hw _ (List.mem_of_getElem? (i := 72) rfl))) Via.refl e101 (S_o_CLASSIC.ext O.2) (g := (mkF m 111 #[iv p1, .val (.long p2), .second, iv p3, iv kd, iv sh, iv ps, iv c1, iv c2, rv b97, rv o_CLASSIC, .val .null, .unset] [])) rfl (hb hby at_111)
          refine own_goW st102 ?_
          show own_GoW p e below s _ _ _ _ (T102.setTop (mkF m 114 #[iv p1, .val (.long p2), .second, iv p3, iv kd, iv sh, iv ps, iv c1, iv c2, rv b97, rv o_CLASSIC, .val .null, .unset] [(.ref o_CLASSIC)]))
          refine own_goW (fun zt zk => (XS.astore X102.here hx rfl (hb hby at_114) rfl rfl (l' := #[iv p1, .val (.long p2), .second, iv p3, iv kd, iv sh, iv ps, iv c1, iv c2, rv b97, rv o_CLASSIC, rv o_CLASSIC, .unset]) rfl (XS.goto X102.here hx rfl (pc0 := 116) (pc' := 134) rfl (hb hby at_116) (by decide) (by decide) zk))) ?_
          show own_GoW p e below s _ _ _ _ (T102.setTop (mkF m 134 #[iv p1, .val (.long p2), .second, iv p3, iv kd, iv sh, iv ps, iv c1, iv c2, rv b97, rv o_CLASSIC, rv o_CLASSIC, .unset] []))
          obtain ⟨T103, X103, e103, st103⟩ := getS2 X102 hx hZ hown (host := "") (Or.inl (hw _ (List.mem_of_getElem? (i := 72) rfl))) Via.refl e102 (S_o_CLASSIC.ext O.2) (g := (mkF m 134 #[iv p1, .val (.long p2), .second, iv p3, iv kd, iv sh, iv ps, iv c1, iv c2, rv b97, rv o_CLASSIC, rv o_CLASSIC, .unset] [])) rfl (hb hby at_134)
          refine own_goW st103 ?_
          show own_GoW p e below s _ _ _ _ (T103.setTop (mkF m 137 #[iv p1, .val (.long p2), .second, iv p3, iv kd, iv sh, iv ps, iv c1, iv c2, rv b97, rv o_CLASSIC, rv o_CLASSIC, .unset] [(.ref o_CLASSIC)]))
          obtain ⟨cq104, kq104, qa104, qb104, qc104⟩ := isOf hZ e103 (Ex_o_CLASSIC.ext O.2)
          obtain ⟨_, _, ⟨T104, L104, k104, n104⟩, -, X104, ⟨Lc104, hQ104, l104, y104, z104⟩, st104⟩ := X103.virtualBack hx (y := (⟨"com/example/riskscan/riskscan/model/Profile", "code", "()Ljava/lang/String;"⟩ : MethodName)) (z := (⟨"com/example/riskscan/riskscan/model/Profile", "code", "()Ljava/lang/String;"⟩ : MethodName)) hown (mvT hZ (hw _ (List.mem_of_getElem? (i := 73) rfl))) (mvT hZ (hw _ (List.mem_of_getElem? (i := 74) rfl))) (notFace_of_selects (args := #[]) (mvT hZ (hw _ (List.mem_of_getElem? (i := 76) rfl)))) (mvT hZ (hw _ (List.mem_of_getElem? (i := 76) rfl))) (mvT hZ (hw _ (List.mem_of_getElem? (i := 75) rfl))) (by decide) (backOf (W := 0) (own_gcode l Z a0 hw [] o_CLASSIC o_CLASSIC_code h100 n0 (Nat.le_trans Z0 Kp.1) (F_o_CLASSIC_code.ext O.2)) hZ (hw _ (List.mem_of_getElem? (i := 77) rfl)) (hw _ (List.mem_of_getElem? (i := 36) rfl)) (by decide) (by decide)) qa104 qc104 (g := (mkF m 137 #[iv p1, .val (.long p2), .second, iv p3, iv kd, iv sh, iv ps, iv c1, iv c2, rv b97, rv o_CLASSIC, rv o_CLASSIC, .unset] [(.ref o_CLASSIC)])) rfl (by rw [hml]; rfl) (Steps.refl _) (argsL := []) (rest := []) (lenOf own_pd___Ljava_lang_String_ rfl) rfl (by show 2 * 0 + _ ≤ _; exact Nat.le_of_eq rfl) (hb hby at_137) (fun _ _ => ⟨rfl, e103, (by decide : 9 + 0 ≤ _), (by decide : 54 + 0 ≤ _)⟩)
          dsimp only [Pt.U, Pt.locs, Pt.cells, Pt.slots] at X104 l104 y104 z104 st104 hQ104
          subst l104 y104 z104
          obtain ⟨rfl, Nq104, e104⟩ := hQ104
          have N104 := Fr.app N101 Nq104
          refine own_goW (fun zt zk => st104.trans zk) ?_
          show own_GoW p e below s _ _ _ _ (T104.setTop (mkF m 140 #[iv p1, .val (.long p2), .second, iv p3, iv kd, iv sh, iv ps, iv c1, iv c2, rv b97, rv o_CLASSIC, rv o_CLASSIC, .unset] [(.ref o_CLASSIC_code)]))
          obtain ⟨_, _, ⟨T105, L105, k105, n105⟩, -, X105, ⟨Lc105, hQ105, l105, y105, z105⟩, st105⟩ := Jvm.LawKit.callS X104 hx (y := (⟨"com/example/riskscan/riskscan/model/Profile", "ofCode", "(Ljava/lang/String;)Lcom/example/riskscan/riskscan/model/Profile;"⟩ : MethodName)) hown (mvT hZ (hw _ (List.mem_of_getElem? (i := 34) rfl))) (mvT hZ (hw _ (List.mem_of_getElem? (i := 35) rfl))) (mvT hZ (hw _ (List.mem_of_getElem? (i := 36) rfl))) (mvT hZ (hw _ (List.mem_of_getElem? (i := 37) rfl))) (by decide) (backOf (W := 0) (own_rof0 l Z a0 hw [] o_CLASSIC_code o_CLASSIC_code_value k_o_CLASSIC_code_value (7 : Int32) [(99 : Int32), (108 : Int32), (97 : Int32), (115 : Int32), (115 : Int32), (105 : Int32), (99 : Int32)] o_COMPACT_STRINGS o__VALUES k_o__VALUES o_CLASSIC o_CLASSIC_code o_CLASSIC_code_value k_o_CLASSIC_code_value o_TIERED o_TIERED_code o_TIERED_code_value k_o_TIERED_code_value h100 n0 (Nat.le_trans Z0 Kp.1) O S_o_COMPACT_STRINGS S_o__VALUES V_o__VALUES Ex_o__VALUES Ex_o_CLASSIC F_o_CLASSIC_code Ex_o_CLASSIC_code F_o_CLASSIC_code_coder F_o_CLASSIC_code_value V_o_CLASSIC_code_value Ex_o_TIERED F_o_TIERED_code Ex_o_TIERED_code F_o_TIERED_code_coder F_o_TIERED_code_value V_o_TIERED_code_value (Ex_o_CLASSIC_code.ext O.2) (F_o_CLASSIC_code_value.ext O.2) (F_o_CLASSIC_code_coder.ext O.2) (V_o_CLASSIC_code_value.ext O.2) nz_o_COMPACT_STRINGS rfl rfl) hZ (hw _ (List.mem_of_getElem? (i := 37) rfl)) (hw _ (List.mem_of_getElem? (i := 36) rfl)) (by decide) (by decide)) (g := (mkF m 140 #[iv p1, .val (.long p2), .second, iv p3, iv kd, iv sh, iv ps, iv c1, iv c2, rv b97, rv o_CLASSIC, rv o_CLASSIC, .unset] [(.ref o_CLASSIC_code)])) rfl (by rw [hml]; rfl) (argsL := [(.ref o_CLASSIC_code)]) (rest := []) (lenOf own_pd__Ljava_lang_String__Lcom_example_riskscan_riskscan_model_Profile_ rfl) rfl (by show 2 * 0 + _ ≤ _; exact Nat.le_of_eq rfl) (hb hby at_140) (fun _ _ => ⟨rfl, e104, (by decide : 9 + 1 ≤ _), (by decide : 54 + 2 ≤ _)⟩)
          dsimp only [Pt.U, Pt.locs, Pt.cells, Pt.slots] at X105 l105 y105 z105 st105 hQ105
          subst l105 y105 z105
          obtain ⟨rfl, Nq105, K105⟩ := hQ105
          have N105 := Fr.app N104 Nq105
          refine own_goW st105 ?_
          have Sf_b97' := Safe.keep K105 all0 Rc.1 Sf_b97
          replace Rc := Rc.trans (CHr.keep K105 all0 Rc.1)
          replace hk := Nat.le_trans hk K105.1
          replace Sf_b97 := Sf_b97'
          replace O := O.keep K105 all0
          replace Kp := Kp.trans K105 all0
          replace V_b12 := V_b12.keep K105 nin0
          replace Ex_b97 := Ex_b97.keep K105
          replace F_value_b97 := F_value_b97.keep K105 nin0
          replace F_coder_b97 := F_coder_b97.keep K105 nin0
          replace Va98 := Va98.keep K105 nin0
          replace Ex_a100 := Ex_a100.keep K105
          replace Fc_a100 := Fc_a100.keep K105 nin0
          replace Fv_a100 := Fv_a100.keep K105 nin0
          replace Va_b100 := Va_b100.keep K105 nin0
          show own_GoW p e below s _ _ _ _ (T105.setTop (mkF m 143 #[iv p1, .val (.long p2), .second, iv p3, iv kd, iv sh, iv ps, iv c1, iv c2, rv b97, rv o_CLASSIC, rv o_CLASSIC, .unset] [(.ref o_CLASSIC)]))
          obtain ⟨T106, X106, e106, st106⟩ := getS2 X105 hx hZ hown (host := "") (Or.inl (hw _ (List.mem_of_getElem? (i := 72) rfl))) Via.refl rfl (S_o_CLASSIC.ext O.2) (g := (mkF m 143 #[iv p1, .val (.long p2), .second, iv p3, iv kd, iv sh, iv ps, iv c1, iv c2, rv b97, rv o_CLASSIC, rv o_CLASSIC, .unset] [(.ref o_CLASSIC)])) rfl (hb hby at_143)
          refine own_goW st106 ?_
          show own_GoW p e below s _ _ _ _ (T106.setTop (mkF m 146 #[iv p1, .val (.long p2), .second, iv p3, iv kd, iv sh, iv ps, iv c1, iv c2, rv b97, rv o_CLASSIC, rv o_CLASSIC, .unset] [(.ref o_CLASSIC), (.ref o_CLASSIC)]))
          refine own_goW (fun zt zk => Jvm.RoadKit.acmp (g := (mkF m 146 #[iv p1, .val (.long p2), .second, iv p3, iv kd, iv sh, iv ps, iv c1, iv c2, rv b97, rv o_CLASSIC, rv o_CLASSIC, .unset] [(.ref o_CLASSIC), (.ref o_CLASSIC)])) X106 hx rfl rfl rfl (pc0 := 146) (pc' := 149) (same := true) rfl (hb hby at_146) rfl (decide_eq_true rfl) (by decide) (by decide) zk) ?_
          show own_GoW p e below s _ _ _ _ (T106.setTop (mkF m 149 #[iv p1, .val (.long p2), .second, iv p3, iv kd, iv sh, iv ps, iv c1, iv c2, rv b97, rv o_CLASSIC, rv o_CLASSIC, .unset] []))
          obtain ⟨T107, X107, e107, st107⟩ := getS2 X106 hx hZ hown (host := "") (Or.inl (hw _ (List.mem_of_getElem? (i := 78) rfl))) Via.refl e106 (S_o_TIERED.ext O.2) (g := (mkF m 149 #[iv p1, .val (.long p2), .second, iv p3, iv kd, iv sh, iv ps, iv c1, iv c2, rv b97, rv o_CLASSIC, rv o_CLASSIC, .unset] [])) rfl (hb hby at_149)
          refine own_goW st107 ?_
          show own_GoW p e below s _ _ _ _ (T107.setTop (mkF m 152 #[iv p1, .val (.long p2), .second, iv p3, iv kd, iv sh, iv ps, iv c1, iv c2, rv b97, rv o_CLASSIC, rv o_CLASSIC, .unset] [(.ref o_TIERED)]))
          obtain ⟨cq108, kq108, qa108, qb108, qc108⟩ := isOf hZ e107 (Ex_o_TIERED.ext O.2)
          obtain ⟨_, _, ⟨T108, L108, k108, n108⟩, -, X108, ⟨Lc108, hQ108, l108, y108, z108⟩, st108⟩ := X107.virtualBack hx (y := (⟨"com/example/riskscan/riskscan/model/Profile", "code", "()Ljava/lang/String;"⟩ : MethodName)) (z := (⟨"com/example/riskscan/riskscan/model/Profile", "code", "()Ljava/lang/String;"⟩ : MethodName)) hown (mvT hZ (hw _ (List.mem_of_getElem? (i := 73) rfl))) (mvT hZ (hw _ (List.mem_of_getElem? (i := 74) rfl))) (notFace_of_selects (args := #[]) (mvT hZ (hw _ (List.mem_of_getElem? (i := 76) rfl)))) (mvT hZ (hw _ (List.mem_of_getElem? (i := 76) rfl))) (mvT hZ (hw _ (List.mem_of_getElem? (i := 75) rfl))) (by decide) (backOf (W := 0) (own_gcode l Z a0 hw [] o_TIERED o_TIERED_code T105.heap n0 (Nat.le_trans Z0 Kp.1) (F_o_TIERED_code.ext O.2)) hZ (hw _ (List.mem_of_getElem? (i := 77) rfl)) (hw _ (List.mem_of_getElem? (i := 36) rfl)) (by decide) (by decide)) qa108 qc108 (g := (mkF m 152 #[iv p1, .val (.long p2), .second, iv p3, iv kd, iv sh, iv ps, iv c1, iv c2, rv b97, rv o_CLASSIC, rv o_CLASSIC, .unset] [(.ref o_TIERED)])) rfl (by rw [hml]; rfl) (Steps.refl _) (argsL := []) (rest := []) (lenOf own_pd___Ljava_lang_String_ rfl) rfl (by show 2 * 0 + _ ≤ _; exact Nat.le_of_eq rfl) (hb hby at_152) (fun _ _ => ⟨rfl, e107, (by decide : 10 + 0 ≤ _), (by decide : 56 + 0 ≤ _)⟩)
          dsimp only [Pt.U, Pt.locs, Pt.cells, Pt.slots] at X108 l108 y108 z108 st108 hQ108
          subst l108 y108 z108
          obtain ⟨rfl, Nq108, e108⟩ := hQ108
          have N108 := Fr.app N105 Nq108
          refine own_goW (fun zt zk => st108.trans zk) ?_
          show own_GoW p e below s _ _ _ _ (T108.setTop (mkF m 155 #[iv p1, .val (.long p2), .second, iv p3, iv kd, iv sh, iv ps, iv c1, iv c2, rv b97, rv o_CLASSIC, rv o_CLASSIC, .unset] [(.ref o_TIERED_code)]))
          obtain ⟨_, _, ⟨T109, L109, k109, n109⟩, -, X109, ⟨Lc109, hQ109, l109, y109, z109⟩, st109⟩ := Jvm.LawKit.callS X108 hx (y := (⟨"com/example/riskscan/riskscan/model/Profile", "ofCode", "(Ljava/lang/String;)Lcom/example/riskscan/riskscan/model/Profile;"⟩ : MethodName)) hown (mvT hZ (hw _ (List.mem_of_getElem? (i := 34) rfl))) (mvT hZ (hw _ (List.mem_of_getElem? (i := 35) rfl))) (mvT hZ (hw _ (List.mem_of_getElem? (i := 36) rfl))) (mvT hZ (hw _ (List.mem_of_getElem? (i := 37) rfl))) (by decide) (backOf (W := 0) (own_rof1 l Z a0 hw [] o_TIERED_code o_TIERED_code_value k_o_TIERED_code_value (6 : Int32) [(116 : Int32), (105 : Int32), (101 : Int32), (114 : Int32), (101 : Int32), (100 : Int32)] o_COMPACT_STRINGS o__VALUES k_o__VALUES o_CLASSIC o_CLASSIC_code o_CLASSIC_code_value k_o_CLASSIC_code_value o_TIERED o_TIERED_code o_TIERED_code_value k_o_TIERED_code_value T105.heap n0 (Nat.le_trans Z0 Kp.1) O S_o_COMPACT_STRINGS S_o__VALUES V_o__VALUES Ex_o__VALUES Ex_o_CLASSIC F_o_CLASSIC_code Ex_o_CLASSIC_code F_o_CLASSIC_code_coder F_o_CLASSIC_code_value V_o_CLASSIC_code_value Ex_o_TIERED F_o_TIERED_code Ex_o_TIERED_code F_o_TIERED_code_coder F_o_TIERED_code_value V_o_TIERED_code_value (Ex_o_TIERED_code.ext O.2) (F_o_TIERED_code_value.ext O.2) (F_o_TIERED_code_coder.ext O.2) (V_o_TIERED_code_value.ext O.2) nz_o_COMPACT_STRINGS rfl (by decide) rfl) hZ (hw _ (List.mem_of_getElem? (i := 37) rfl)) (hw _ (List.mem_of_getElem? (i := 36) rfl)) (by decide) (by decide)) (g := (mkF m 155 #[iv p1, .val (.long p2), .second, iv p3, iv kd, iv sh, iv ps, iv c1, iv c2, rv b97, rv o_CLASSIC, rv o_CLASSIC, .unset] [(.ref o_TIERED_code)])) rfl (by rw [hml]; rfl) (argsL := [(.ref o_TIERED_code)]) (rest := []) (lenOf own_pd__Ljava_lang_String__Lcom_example_riskscan_riskscan_model_Profile_ rfl) rfl (by show 2 * 0 + _ ≤ _; exact Nat.le_of_eq rfl) (hb hby at_155) (fun _ _ => ⟨rfl, e108, (by decide : 10 + 1 ≤ _), (by decide : 56 + 2 ≤ _)⟩)
          dsimp only [Pt.U, Pt.locs, Pt.cells, Pt.slots] at X109 l109 y109 z109 st109 hQ109
          subst l109 y109 z109
          obtain ⟨rfl, Nq109, K109⟩ := hQ109
          have N109 := Fr.app N108 Nq109
          refine own_goW st109 ?_
          have Sf_b97' := Safe.keep K109 all0 Rc.1 Sf_b97
          replace Rc := Rc.trans (CHr.keep K109 all0 Rc.1)
          replace hk := Nat.le_trans hk K109.1
          replace Sf_b97 := Sf_b97'
          replace O := O.keep K109 all0
          replace Kp := Kp.trans K109 all0
          replace V_b12 := V_b12.keep K109 nin0
          replace Ex_b97 := Ex_b97.keep K109
          replace F_value_b97 := F_value_b97.keep K109 nin0
          replace F_coder_b97 := F_coder_b97.keep K109 nin0
          replace Va98 := Va98.keep K109 nin0
          replace Ex_a100 := Ex_a100.keep K109
          replace Fc_a100 := Fc_a100.keep K109 nin0
          replace Fv_a100 := Fv_a100.keep K109 nin0
          replace Va_b100 := Va_b100.keep K109 nin0
          show own_GoW p e below s _ _ _ _ (T109.setTop (mkF m 158 #[iv p1, .val (.long p2), .second, iv p3, iv kd, iv sh, iv ps, iv c1, iv c2, rv b97, rv o_CLASSIC, rv o_CLASSIC, .unset] [(.ref o_TIERED)]))
          obtain ⟨T110, X110, e110, st110⟩ := getS2 X109 hx hZ hown (host := "") (Or.inl (hw _ (List.mem_of_getElem? (i := 78) rfl))) Via.refl rfl (S_o_TIERED.ext O.2) (g := (mkF m 158 #[iv p1, .val (.long p2), .second, iv p3, iv kd, iv sh, iv ps, iv c1, iv c2, rv b97, rv o_CLASSIC, rv o_CLASSIC, .unset] [(.ref o_TIERED)])) rfl (hb hby at_158)
          refine own_goW st110 ?_
          show own_GoW p e below s _ _ _ _ (T110.setTop (mkF m 161 #[iv p1, .val (.long p2), .second, iv p3, iv kd, iv sh, iv ps, iv c1, iv c2, rv b97, rv o_CLASSIC, rv o_CLASSIC, .unset] [(.ref o_TIERED), (.ref o_TIERED)]))
          refine own_goW (fun zt zk => Jvm.RoadKit.acmp (g := (mkF m 161 #[iv p1, .val (.long p2), .second, iv p3, iv kd, iv sh, iv ps, iv c1, iv c2, rv b97, rv o_CLASSIC, rv o_CLASSIC, .unset] [(.ref o_TIERED), (.ref o_TIERED)])) X110 hx rfl rfl rfl (pc0 := 161) (pc' := 164) (same := true) rfl (hb hby at_161) rfl (decide_eq_true rfl) (by decide) (by decide) zk) ?_
          show own_GoW p e below s _ _ _ _ (T110.setTop (mkF m 164 #[iv p1, .val (.long p2), .second, iv p3, iv kd, iv sh, iv ps, iv c1, iv c2, rv b97, rv o_CLASSIC, rv o_CLASSIC, .unset] []))
          refine own_goW (fun zt zk => (XS.iconst X110.here hx rfl (hb hby at_164) (XS.goto X110.here hx rfl (pc0 := 165) (pc' := 169) rfl (hb hby at_165) (by decide) (by decide) (XS.istore X110.here hx rfl (hb hby at_169) rfl (l' := #[iv p1, .val (.long p2), .second, iv p3, iv kd, iv sh, iv ps, iv c1, iv c2, rv b97, rv o_CLASSIC, rv o_CLASSIC, iv (1 : Int32)]) rfl (XS.aload X110.here hx rfl (hb hby at_171) rfl rfl (XS.aload X110.here hx rfl (hb hby at_173) rfl rfl zk)))))) ?_
          show own_GoW p e below s _ _ _ _ (T110.setTop (mkF m 175 #[iv p1, .val (.long p2), .second, iv p3, iv kd, iv sh, iv ps, iv c1, iv c2, rv b97, rv o_CLASSIC, rv o_CLASSIC, iv (1 : Int32)] [(.ref o_CLASSIC), (.ref o_CLASSIC)]))
          refine own_goW (fun zt zk => Jvm.RoadKit.acmp (g := (mkF m 175 #[iv p1, .val (.long p2), .second, iv p3, iv kd, iv sh, iv ps, iv c1, iv c2, rv b97, rv o_CLASSIC, rv o_CLASSIC, iv (1 : Int32)] [(.ref o_CLASSIC), (.ref o_CLASSIC)])) X110 hx rfl rfl rfl (pc0 := 175) (pc' := 178) (same := true) rfl (hb hby at_175) rfl (decide_eq_true rfl) (by decide) (by decide) zk) ?_
          show own_GoW p e below s _ _ _ _ (T110.setTop (mkF m 178 #[iv p1, .val (.long p2), .second, iv p3, iv kd, iv sh, iv ps, iv c1, iv c2, rv b97, rv o_CLASSIC, rv o_CLASSIC, iv (1 : Int32)] []))
          refine own_goW (fun zt zk => (XS.iload X110.here hx rfl (hb hby at_178) rfl (XS.ifNo X110.here hx rfl (hb hby at_180) rfl ((if0 _ _).trans (feq ((by decide) : ¬ ((1 : Int32) = (0 : Int32)))).1) (XS.iconst X110.here hx rfl (hb hby at_183) (XS.goto X110.here hx rfl (pc0 := 184) (pc' := 188) rfl (hb hby at_184) (by decide) (by decide) zk))))) ?_
          show own_GoW p e below s _ _ _ _ (T110.setTop (mkF m 188 #[iv p1, .val (.long p2), .second, iv p3, iv kd, iv sh, iv ps, iv c1, iv c2, rv b97, rv o_CLASSIC, rv o_CLASSIC, iv (1 : Int32)] [(.int (1 : Int32))]))
          have Re := Rc.trans (CHv.at X110 hZ hEL Rc.1)
          exact own_finW X110 hS (by rw [e110]; exact hk) (by rw [e110, hh]; exact Re) Bd.notSynchronized (fun h => by rw [Bd.returns] at h; cases h) (fun fs hr => retN X110 hx (t := .boolean) Bd.returns (by simp) (hb hby at_188) hr) (by rw [e110]; exact ⟨rfl, N109⟩) (by decide) (by decide)
        · by_cases hT : [(116 : Int32), (105 : Int32), (101 : Int32), (114 : Int32), (101 : Int32), (100 : Int32)] = ([] : List Int32)
          · obtain ⟨_, _, ⟨T111, L111, k111, n111⟩, -, X111, ⟨Lc111, hQ111, l111, y111, z111⟩, st111⟩ := Jvm.LawKit.callS X98 hx (y := (⟨"com/example/riskscan/riskscan/model/Profile", "ofCode", "(Ljava/lang/String;)Lcom/example/riskscan/riskscan/model/Profile;"⟩ : MethodName)) hown (mvT hZ (hw _ (List.mem_of_getElem? (i := 34) rfl))) (mvT hZ (hw _ (List.mem_of_getElem? (i := 35) rfl))) (mvT hZ (hw _ (List.mem_of_getElem? (i := 36) rfl))) (mvT hZ (hw _ (List.mem_of_getElem? (i := 37) rfl))) (by decide) (backOf (W := 0) (own_rof1 l Z a0 hw [] b97 t98 kb98 (0 : Int32) ([] : List Int32) o_COMPACT_STRINGS o__VALUES k_o__VALUES o_CLASSIC o_CLASSIC_code o_CLASSIC_code_value k_o_CLASSIC_code_value o_TIERED o_TIERED_code o_TIERED_code_value k_o_TIERED_code_value T98.heap n0 (Nat.le_trans Z0 Kp.1) O S_o_COMPACT_STRINGS S_o__VALUES V_o__VALUES Ex_o__VALUES Ex_o_CLASSIC F_o_CLASSIC_code Ex_o_CLASSIC_code F_o_CLASSIC_code_coder F_o_CLASSIC_code_value V_o_CLASSIC_code_value Ex_o_TIERED F_o_TIERED_code Ex_o_TIERED_code F_o_TIERED_code_coder F_o_TIERED_code_value V_o_TIERED_code_value Ex_b97 F_value_b97 F_coder_b97 Va98 nz_o_COMPACT_STRINGS rfl hC hT) hZ (hw _ (List.mem_of_getElem? (i := 37) rfl)) (hw _ (List.mem_of_getElem? (i := 36) rfl)) (by decide) (by decide)) (g := (mkF m 88 #[iv p1, .val (.long p2), .second, iv p3, iv kd, iv sh, iv ps, iv c1, iv c2, rv b97, rv b12, .unset, .unset] [(.ref b97)])) rfl (by rw [hml]; rfl) (argsL := [(.ref b97)]) (rest := []) (lenOf own_pd__Ljava_lang_String__Lcom_example_riskscan_riskscan_model_Profile_ rfl) rfl (by show 2 * 0 + _ ≤ _; exact Nat.le_of_eq rfl) (hb hby at_88) (fun _ _ => ⟨rfl, rfl, (by decide : 6 + 1 ≤ _), (by decide : 20 + 2 ≤ _)⟩)
            dsimp only [Pt.U, Pt.locs, Pt.cells, Pt.slots] at X111 l111 y111 z111 st111 hQ111
            subst l111 y111 z111
            obtain ⟨rfl, Nq111, K111⟩ := hQ111
            have N111 := Fr.app N98 Nq111
            refine own_goW st111 ?_
            have Sf_b97' := Safe.keep K111 all0 Rc.1 Sf_b97
            replace Rc := Rc.trans (CHr.keep K111 all0 Rc.1)
            replace hk := Nat.le_trans hk K111.1
            replace Sf_b97 := Sf_b97'
            replace O := O.keep K111 all0
            replace Kp := Kp.trans K111 all0
            replace V_b12 := V_b12.keep K111 nin0
            replace Ex_b97 := Ex_b97.keep K111
            replace F_value_b97 := F_value_b97.keep K111 nin0
            replace F_coder_b97 := F_coder_b97.keep K111 nin0
            replace Va98 := Va98.keep K111 nin0
            show own_GoW p e below s _ _ _ _ (T111.setTop (mkF m 91 #[iv p1, .val (.long p2), .second, iv p3, iv kd, iv sh, iv ps, iv c1, iv c2, rv b97, rv b12, .unset, .unset] [(.ref o_TIERED)]))
            refine own_goW (fun zt zk => (XS.astore X111.here hx rfl (hb hby at_91) rfl rfl (l' := #[iv p1, .val (.long p2), .second, iv p3, iv kd, iv sh, iv ps, iv c1, iv c2, rv b97, rv o_TIERED, .unset, .unset]) rfl (XS.aconstNull X111.here hx rfl (hb hby at_93) (XS.astore X111.here hx rfl (hb hby at_94) rfl rfl (l' := #[iv p1, .val (.long p2), .second, iv p3, iv kd, iv sh, iv ps, iv c1, iv c2, rv b97, rv o_TIERED, .val .null, .unset]) rfl (XS.aload X111.here hx rfl (hb hby at_96) rfl rfl (XS.ifnullNo X111.here hx rfl (hb hby at_98) rfl (XS.aload X111.here hx rfl (hb hby at_101) rfl rfl zk))))))) ?_
            show own_GoW p e below s _ _ _ _ (T111.setTop (mkF m 103 #[iv p1, .val (.long p2), .second, iv p3, iv kd, iv sh, iv ps, iv c1, iv c2, rv b97, rv o_TIERED, .val .null, .unset] [(.ref b97)]))
            obtain ⟨a112, T112, h112, q112, b112, k112, X112, e112, E112, hS112, hk112, hZ112, hown112, Ex_a112, Fc_a112, Fv_a112, Va_b112, lta112, ltb112, A112, Li112, Sn112, st112⟩ := ldcCH X111 hx hZ hown (hw _ (List.mem_of_getElem? (i := 67) rfl)) wS rfl hS hk hEL (by decide +kernel) Rc.1 (vs := [(.int (99 : Int32)), (.int (108 : Int32)), (.int (97 : Int32)), (.int (115 : Int32)), (.int (115 : Int32)), (.int (105 : Int32)), (.int (99 : Int32))]) (z := (7 : Int32)) ⟨by decide +kernel, by decide +kernel⟩ (by decide) rfl (g := (mkF m 103 #[iv p1, .val (.long p2), .second, iv p3, iv kd, iv sh, iv ps, iv c1, iv c2, rv b97, rv o_TIERED, .val .null, .unset] [(.ref b97)])) rfl (hb hby at_103) (n := 28) (by decide +kernel) (by decide) (by decide) (by decide)
            replace Sf_b97 := CHr.safe A112 Ex_b97.lt Sf_b97
            replace O := O.ext E112
            replace Kp := Kp.ext E112
            replace V_b12 := V_b12.ext E112
            replace Ex_b97 := Ex_b97.ext E112
            replace F_value_b97 := F_value_b97.ext E112
            replace F_coder_b97 := F_coder_b97.ext E112
            replace Va98 := Va98.ext E112
            replace Rc := Rc.trans A112
            replace hS := hS112
            replace hk := hk112
            replace hZ := hZ112
            replace hown := hown112
            refine own_goW st112 ?_
            have ne_b97_a112 := (Sn112 b97 Sf_b97).1
            have ne_b97_b112 := (Sn112 b97 Sf_b97).2
            show own_GoW p e below s _ _ _ _ (T112.setTop (mkF m 105 #[iv p1, .val (.long p2), .second, iv p3, iv kd, iv sh, iv ps, iv c1, iv c2, rv b97, rv o_TIERED, .val .null, .unset] [(.ref a112), (.ref b97)]))
            obtain ⟨cq113, kq113, qa113, qb113, qc113⟩ := isOf hZ e112 Ex_b97
            obtain ⟨_, _, ⟨T113, L113, k113, n113⟩, -, X113, ⟨Lc113, hQ113, l113, y113, z113⟩, st113⟩ := X112.virtualBack hx (y := (⟨"java/lang/String", "equals", "(Ljava/lang/Object;)Z"⟩ : MethodName)) (z := (⟨"java/lang/String", "equals", "(Ljava/lang/Object;)Z"⟩ : MethodName)) hown (mvT hZ (hw _ (List.mem_of_getElem? (i := 70) rfl))) (mvT hZ (hw _ (List.mem_of_getElem? (i := 58) rfl))) (notFace_of_selects (args := #[]) (mvT hZ (hw _ (List.mem_of_getElem? (i := 60) rfl)))) (mvT hZ (hw _ (List.mem_of_getElem? (i := 60) rfl))) (mvT hZ (hw _ (List.mem_of_getElem? (i := 59) rfl))) (by decide) (backOf (W := 0) (own_req l Z a0 hw [] b97 a112 o_COMPACT_STRINGS t98 b112 kb98 k112 (0 : Int32) (7 : Int32) ([] : List Int32) [(99 : Int32), (108 : Int32), (97 : Int32), (115 : Int32), (115 : Int32), (105 : Int32), (99 : Int32)] h112 n0 (Nat.le_trans Z0 Kp.1) O S_o_COMPACT_STRINGS Ex_b97 F_value_b97 F_coder_b97 Va98 Ex_a112 Fv_a112 Fc_a112 Va_b112 nz_o_COMPACT_STRINGS rfl rfl) hZ (hw _ (List.mem_of_getElem? (i := 61) rfl)) (hw _ (List.mem_of_getElem? (i := 7) rfl)) (by decide) (by decide)) qa113 qc113 (g := (mkF m 105 #[iv p1, .val (.long p2), .second, iv p3, iv kd, iv sh, iv ps, iv c1, iv c2, rv b97, rv o_TIERED, .val .null, .unset] [(.ref a112), (.ref b97)])) rfl (by rw [hml]; rfl) (Steps.refl _) (argsL := [(.ref a112)]) (rest := []) (lenOf own_pd__Ljava_lang_Object__Z rfl) rfl (by show 2 * 0 + _ ≤ _; exact Nat.le_of_eq rfl) (hb hby at_105) (fun _ _ => ⟨rfl, e112, (by decide : 9 + 0 ≤ _), (by decide : 54 + 0 ≤ _)⟩)
            dsimp only [Pt.U, Pt.locs, Pt.cells, Pt.slots] at X113 l113 y113 z113 st113 hQ113
            subst l113 y113 z113
            obtain ⟨hv113, Nq113, e113⟩ := hQ113
            rw [show own_eqv _ _ = (0 : Int32) from if_neg (fun q => hC q.symm)] at hv113
            subst hv113
            have N113 := Fr.app N111 Nq113
            refine own_goW (fun zt zk => st113.trans zk) ?_
            show own_GoW p e below s _ _ _ _ (T113.setTop (mkF m 108 #[iv p1, .val (.long p2), .second, iv p3, iv kd, iv sh, iv ps, iv c1, iv c2, rv b97, rv o_TIERED, .val .null, .unset] [(.int (0 : Int32))]))
            refine own_goW (fun zt zk => (XS.ifYes X113.here hx rfl (pc0 := 108) (pc' := 119) rfl (hb hby at_108) rfl ((if0 _ _).trans (teq (rfl : (0 : Int32) = (0 : Int32))).1) (by decide) (by decide) (XS.aload X113.here hx rfl (hb hby at_119) rfl rfl zk))) ?_
            show own_GoW p e below s _ _ _ _ (T113.setTop (mkF m 121 #[iv p1, .val (.long p2), .second, iv p3, iv kd, iv sh, iv ps, iv c1, iv c2, rv b97, rv o_TIERED, .val .null, .unset] [(.ref b97)]))
            obtain ⟨a114, T114, h114, q114, b114, k114, X114, e114, E114, hS114, hk114, hZ114, hown114, Ex_a114, Fc_a114, Fv_a114, Va_b114, lta114, ltb114, A114, Li114, Sn114, st114⟩ := ldcCH X113 hx hZ hown (hw _ (List.mem_of_getElem? (i := 71) rfl)) wS e113 hS hk hEL (by decide +kernel) Rc.1 (vs := [(.int (116 : Int32)), (.int (105 : Int32)), (.int (101 : Int32)), (.int (114 : Int32)), (.int (101 : Int32)), (.int (100 : Int32))]) (z := (6 : Int32)) ⟨by decide +kernel, by decide +kernel⟩ (by decide) rfl (g := (mkF m 121 #[iv p1, .val (.long p2), .second, iv p3, iv kd, iv sh, iv ps, iv c1, iv c2, rv b97, rv o_TIERED, .val .null, .unset] [(.ref b97)])) rfl (hb hby at_121) (n := 24) (by decide +kernel) (by decide) (by decide) (by decide)
            replace Sf_b97 := CHr.safe A114 Ex_b97.lt Sf_b97
            replace O := O.ext E114
            replace Kp := Kp.ext E114
            replace V_b12 := V_b12.ext E114
            replace Ex_b97 := Ex_b97.ext E114
            replace F_value_b97 := F_value_b97.ext E114
            replace F_coder_b97 := F_coder_b97.ext E114
            replace Va98 := Va98.ext E114
            replace Ex_a112 := Ex_a112.ext E114
            replace Fc_a112 := Fc_a112.ext E114
            replace Fv_a112 := Fv_a112.ext E114
            replace Va_b112 := Va_b112.ext E114
            replace Rc := Rc.trans A114
            replace hS := hS114
            replace hk := hk114
            replace hZ := hZ114
            replace hown := hown114
            refine own_goW st114 ?_
            have ne_b97_a114 := (Sn114 b97 Sf_b97).1
            have ne_b97_b114 := (Sn114 b97 Sf_b97).2
            show own_GoW p e below s _ _ _ _ (T114.setTop (mkF m 123 #[iv p1, .val (.long p2), .second, iv p3, iv kd, iv sh, iv ps, iv c1, iv c2, rv b97, rv o_TIERED, .val .null, .unset] [(.ref a114), (.ref b97)]))
            obtain ⟨cq115, kq115, qa115, qb115, qc115⟩ := isOf hZ e114 Ex_b97
            obtain ⟨_, _, ⟨T115, L115, k115, n115⟩, -, X115, ⟨Lc115, hQ115, l115, y115, z115⟩, st115⟩ := X114.virtualBack hx (y := (⟨"java/lang/String", "equals", "(Ljava/lang/Object;)Z"⟩ : MethodName)) (z := (⟨"java/lang/String", "equals", "(Ljava/lang/Object;)Z"⟩ : MethodName)) hown (mvT hZ (hw _ (List.mem_of_getElem? (i := 70) rfl))) (mvT hZ (hw _ (List.mem_of_getElem? (i := 58) rfl))) (notFace_of_selects (args := #[]) (mvT hZ (hw _ (List.mem_of_getElem? (i := 60) rfl)))) (mvT hZ (hw _ (List.mem_of_getElem? (i := 60) rfl))) (mvT hZ (hw _ (List.mem_of_getElem? (i := 59) rfl))) (by decide) (backOf (W := 0) (own_req l Z a0 hw [] b97 a114 o_COMPACT_STRINGS t98 b114 kb98 k114 (0 : Int32) (6 : Int32) ([] : List Int32) [(116 : Int32), (105 : Int32), (101 : Int32), (114 : Int32), (101 : Int32), (100 : Int32)] h114 n0 (Nat.le_trans Z0 Kp.1) O S_o_COMPACT_STRINGS Ex_b97 F_value_b97 F_coder_b97 Va98 Ex_a114 Fv_a114 Fc_a114 Va_b114 nz_o_COMPACT_STRINGS rfl rfl) hZ (hw _ (List.mem_of_getElem? (i := 61) rfl)) (hw _ (List.mem_of_getElem? (i := 7) rfl)) (by decide) (by decide)) qa115 qc115 (g := (mkF m 123 #[iv p1, .val (.long p2), .second, iv p3, iv kd, iv sh, iv ps, iv c1, iv c2, rv b97, rv o_TIERED, .val .null, .unset] [(.ref a114), (.ref b97)])) rfl (by rw [hml]; rfl) (Steps.refl _) (argsL := [(.ref a114)]) (rest := []) (lenOf own_pd__Ljava_lang_Object__Z rfl) rfl (by show 2 * 0 + _ ≤ _; exact Nat.le_of_eq rfl) (hb hby at_123) (fun _ _ => ⟨rfl, e114, (by decide : 11 + 0 ≤ _), (by decide : 82 + 0 ≤ _)⟩)
            dsimp only [Pt.U, Pt.locs, Pt.cells, Pt.slots] at X115 l115 y115 z115 st115 hQ115
            subst l115 y115 z115
            obtain ⟨hv115, Nq115, e115⟩ := hQ115
            rw [show own_eqv _ _ = (1 : Int32) from if_pos hT.symm] at hv115
            subst hv115
            have N115 := Fr.app N113 Nq115
            refine own_goW (fun zt zk => st115.trans zk) ?_
            show own_GoW p e below s _ _ _ _ (T115.setTop (mkF m 126 #[iv p1, .val (.long p2), .second, iv p3, iv kd, iv sh, iv ps, iv c1, iv c2, rv b97, rv o_TIERED, .val .null, .unset] [(.int (1 : Int32))]))
            refine own_goW (fun zt zk => (XS.ifNo X115.here hx rfl (hb hby at_126) rfl ((if0 _ _).trans (feq ((by decide) : ¬ ((1 : Int32) = (0 : Int32)))).1) zk)) ?_
            show own_GoW p e below s _ _ _ _ (T115.setTop (mkF m 129 #[iv p1, .val (.long p2), .second, iv p3, iv kd, iv sh, iv ps, iv c1, iv c2, rv b97, rv o_TIERED, .val .null, .unset] []))
            obtain ⟨T116, X116, e116, st116⟩ := getS2 X115 hx hZ hown (host := "") (Or.inl (hw _ (List.mem_of_getElem? (i := 78) rfl))) Via.refl e115 (S_o_TIERED.ext O.2) (g := (mkF m 129 #[iv p1, .val (.long p2), .second, iv p3, iv kd, iv sh, iv ps, iv c1, iv c2, rv b97, rv o_TIERED, .val .null, .unset] [])) rfl (hb hby at_129)
            refine own_goW st116 ?_
            show own_GoW p e below s _ _ _ _ (T116.setTop (mkF m 132 #[iv p1, .val (.long p2), .second, iv p3, iv kd, iv sh, iv ps, iv c1, iv c2, rv b97, rv o_TIERED, .val .null, .unset] [(.ref o_TIERED)]))
            refine own_goW (fun zt zk => (XS.astore X116.here hx rfl (hb hby at_132) rfl rfl (l' := #[iv p1, .val (.long p2), .second, iv p3, iv kd, iv sh, iv ps, iv c1, iv c2, rv b97, rv o_TIERED, rv o_TIERED, .unset]) rfl zk)) ?_
            show own_GoW p e below s _ _ _ _ (T116.setTop (mkF m 134 #[iv p1, .val (.long p2), .second, iv p3, iv kd, iv sh, iv ps, iv c1, iv c2, rv b97, rv o_TIERED, rv o_TIERED, .unset] []))
            obtain ⟨T117, X117, e117, st117⟩ := getS2 X116 hx hZ hown (host := "") (Or.inl (hw _ (List.mem_of_getElem? (i := 72) rfl))) Via.refl e116 (S_o_CLASSIC.ext O.2) (g := (mkF m 134 #[iv p1, .val (.long p2), .second, iv p3, iv kd, iv sh, iv ps, iv c1, iv c2, rv b97, rv o_TIERED, rv o_TIERED, .unset] [])) rfl (hb hby at_134)
            refine own_goW st117 ?_
            show own_GoW p e below s _ _ _ _ (T117.setTop (mkF m 137 #[iv p1, .val (.long p2), .second, iv p3, iv kd, iv sh, iv ps, iv c1, iv c2, rv b97, rv o_TIERED, rv o_TIERED, .unset] [(.ref o_CLASSIC)]))
            obtain ⟨cq118, kq118, qa118, qb118, qc118⟩ := isOf hZ e117 (Ex_o_CLASSIC.ext O.2)
            obtain ⟨_, _, ⟨T118, L118, k118, n118⟩, -, X118, ⟨Lc118, hQ118, l118, y118, z118⟩, st118⟩ := X117.virtualBack hx (y := (⟨"com/example/riskscan/riskscan/model/Profile", "code", "()Ljava/lang/String;"⟩ : MethodName)) (z := (⟨"com/example/riskscan/riskscan/model/Profile", "code", "()Ljava/lang/String;"⟩ : MethodName)) hown (mvT hZ (hw _ (List.mem_of_getElem? (i := 73) rfl))) (mvT hZ (hw _ (List.mem_of_getElem? (i := 74) rfl))) (notFace_of_selects (args := #[]) (mvT hZ (hw _ (List.mem_of_getElem? (i := 76) rfl)))) (mvT hZ (hw _ (List.mem_of_getElem? (i := 76) rfl))) (mvT hZ (hw _ (List.mem_of_getElem? (i := 75) rfl))) (by decide) (backOf (W := 0) (own_gcode l Z a0 hw [] o_CLASSIC o_CLASSIC_code h114 n0 (Nat.le_trans Z0 Kp.1) (F_o_CLASSIC_code.ext O.2)) hZ (hw _ (List.mem_of_getElem? (i := 77) rfl)) (hw _ (List.mem_of_getElem? (i := 36) rfl)) (by decide) (by decide)) qa118 qc118 (g := (mkF m 137 #[iv p1, .val (.long p2), .second, iv p3, iv kd, iv sh, iv ps, iv c1, iv c2, rv b97, rv o_TIERED, rv o_TIERED, .unset] [(.ref o_CLASSIC)])) rfl (by rw [hml]; rfl) (Steps.refl _) (argsL := []) (rest := []) (lenOf own_pd___Ljava_lang_String_ rfl) rfl (by show 2 * 0 + _ ≤ _; exact Nat.le_of_eq rfl) (hb hby at_137) (fun _ _ => ⟨rfl, e117, (by decide : 11 + 0 ≤ _), (by decide : 82 + 0 ≤ _)⟩)
            dsimp only [Pt.U, Pt.locs, Pt.cells, Pt.slots] at X118 l118 y118 z118 st118 hQ118
            subst l118 y118 z118
            obtain ⟨rfl, Nq118, e118⟩ := hQ118
            have N118 := Fr.app N115 Nq118
            refine own_goW (fun zt zk => st118.trans zk) ?_
            show own_GoW p e below s _ _ _ _ (T118.setTop (mkF m 140 #[iv p1, .val (.long p2), .second, iv p3, iv kd, iv sh, iv ps, iv c1, iv c2, rv b97, rv o_TIERED, rv o_TIERED, .unset] [(.ref o_CLASSIC_code)]))
            obtain ⟨_, _, ⟨T119, L119, k119, n119⟩, -, X119, ⟨Lc119, hQ119, l119, y119, z119⟩, st119⟩ := Jvm.LawKit.callS X118 hx (y := (⟨"com/example/riskscan/riskscan/model/Profile", "ofCode", "(Ljava/lang/String;)Lcom/example/riskscan/riskscan/model/Profile;"⟩ : MethodName)) hown (mvT hZ (hw _ (List.mem_of_getElem? (i := 34) rfl))) (mvT hZ (hw _ (List.mem_of_getElem? (i := 35) rfl))) (mvT hZ (hw _ (List.mem_of_getElem? (i := 36) rfl))) (mvT hZ (hw _ (List.mem_of_getElem? (i := 37) rfl))) (by decide) (backOf (W := 0) (own_rof0 l Z a0 hw [] o_CLASSIC_code o_CLASSIC_code_value k_o_CLASSIC_code_value (7 : Int32) [(99 : Int32), (108 : Int32), (97 : Int32), (115 : Int32), (115 : Int32), (105 : Int32), (99 : Int32)] o_COMPACT_STRINGS o__VALUES k_o__VALUES o_CLASSIC o_CLASSIC_code o_CLASSIC_code_value k_o_CLASSIC_code_value o_TIERED o_TIERED_code o_TIERED_code_value k_o_TIERED_code_value h114 n0 (Nat.le_trans Z0 Kp.1) O S_o_COMPACT_STRINGS S_o__VALUES V_o__VALUES Ex_o__VALUES Ex_o_CLASSIC F_o_CLASSIC_code Ex_o_CLASSIC_code F_o_CLASSIC_code_coder F_o_CLASSIC_code_value V_o_CLASSIC_code_value Ex_o_TIERED F_o_TIERED_code Ex_o_TIERED_code F_o_TIERED_code_coder F_o_TIERED_code_value V_o_TIERED_code_value (Ex_o_CLASSIC_code.ext O.2) (F_o_CLASSIC_code_value.ext O.2) (F_o_CLASSIC_code_coder.ext O.2) (V_o_CLASSIC_code_value.ext O.2) nz_o_COMPACT_STRINGS rfl rfl) hZ (hw _ (List.mem_of_getElem? (i := 37) rfl)) (hw _ (List.mem_of_getElem? (i := 36) rfl)) (by decide) (by decide)) (g := (mkF m 140 #[iv p1, .val (.long p2), .second, iv p3, iv kd, iv sh, iv ps, iv c1, iv c2, rv b97, rv o_TIERED, rv o_TIERED, .unset] [(.ref o_CLASSIC_code)])) rfl (by rw [hml]; rfl) (argsL := [(.ref o_CLASSIC_code)]) (rest := []) (lenOf own_pd__Ljava_lang_String__Lcom_example_riskscan_riskscan_model_Profile_ rfl) rfl (by show 2 * 0 + _ ≤ _; exact Nat.le_of_eq rfl) (hb hby at_140) (fun _ _ => ⟨rfl, e118, (by decide : 11 + 1 ≤ _), (by decide : 82 + 2 ≤ _)⟩)
            dsimp only [Pt.U, Pt.locs, Pt.cells, Pt.slots] at X119 l119 y119 z119 st119 hQ119
            subst l119 y119 z119
            obtain ⟨rfl, Nq119, K119⟩ := hQ119
            have N119 := Fr.app N118 Nq119
            refine own_goW st119 ?_
            have Sf_b97' := Safe.keep K119 all0 Rc.1 Sf_b97
            replace Rc := Rc.trans (CHr.keep K119 all0 Rc.1)
            replace hk := Nat.le_trans hk K119.1
            replace Sf_b97 := Sf_b97'
            replace O := O.keep K119 all0
            replace Kp := Kp.trans K119 all0
            replace V_b12 := V_b12.keep K119 nin0
            replace Ex_b97 := Ex_b97.keep K119
            replace F_value_b97 := F_value_b97.keep K119 nin0
            replace F_coder_b97 := F_coder_b97.keep K119 nin0
            replace Va98 := Va98.keep K119 nin0
            replace Ex_a112 := Ex_a112.keep K119
            replace Fc_a112 := Fc_a112.keep K119 nin0
            replace Fv_a112 := Fv_a112.keep K119 nin0
            replace Va_b112 := Va_b112.keep K119 nin0
            replace Ex_a114 := Ex_a114.keep K119
            replace Fc_a114 := Fc_a114.keep K119 nin0
            replace Fv_a114 := Fv_a114.keep K119 nin0
            replace Va_b114 := Va_b114.keep K119 nin0
            show own_GoW p e below s _ _ _ _ (T119.setTop (mkF m 143 #[iv p1, .val (.long p2), .second, iv p3, iv kd, iv sh, iv ps, iv c1, iv c2, rv b97, rv o_TIERED, rv o_TIERED, .unset] [(.ref o_CLASSIC)]))
            obtain ⟨T120, X120, e120, st120⟩ := getS2 X119 hx hZ hown (host := "") (Or.inl (hw _ (List.mem_of_getElem? (i := 72) rfl))) Via.refl rfl (S_o_CLASSIC.ext O.2) (g := (mkF m 143 #[iv p1, .val (.long p2), .second, iv p3, iv kd, iv sh, iv ps, iv c1, iv c2, rv b97, rv o_TIERED, rv o_TIERED, .unset] [(.ref o_CLASSIC)])) rfl (hb hby at_143)
            refine own_goW st120 ?_
            show own_GoW p e below s _ _ _ _ (T120.setTop (mkF m 146 #[iv p1, .val (.long p2), .second, iv p3, iv kd, iv sh, iv ps, iv c1, iv c2, rv b97, rv o_TIERED, rv o_TIERED, .unset] [(.ref o_CLASSIC), (.ref o_CLASSIC)]))
            refine own_goW (fun zt zk => Jvm.RoadKit.acmp (g := (mkF m 146 #[iv p1, .val (.long p2), .second, iv p3, iv kd, iv sh, iv ps, iv c1, iv c2, rv b97, rv o_TIERED, rv o_TIERED, .unset] [(.ref o_CLASSIC), (.ref o_CLASSIC)])) X120 hx rfl rfl rfl (pc0 := 146) (pc' := 149) (same := true) rfl (hb hby at_146) rfl (decide_eq_true rfl) (by decide) (by decide) zk) ?_
            show own_GoW p e below s _ _ _ _ (T120.setTop (mkF m 149 #[iv p1, .val (.long p2), .second, iv p3, iv kd, iv sh, iv ps, iv c1, iv c2, rv b97, rv o_TIERED, rv o_TIERED, .unset] []))
            obtain ⟨T121, X121, e121, st121⟩ := getS2 X120 hx hZ hown (host := "") (Or.inl (hw _ (List.mem_of_getElem? (i := 78) rfl))) Via.refl e120 (S_o_TIERED.ext O.2) (g := (mkF m 149 #[iv p1, .val (.long p2), .second, iv p3, iv kd, iv sh, iv ps, iv c1, iv c2, rv b97, rv o_TIERED, rv o_TIERED, .unset] [])) rfl (hb hby at_149)
            refine own_goW st121 ?_
            show own_GoW p e below s _ _ _ _ (T121.setTop (mkF m 152 #[iv p1, .val (.long p2), .second, iv p3, iv kd, iv sh, iv ps, iv c1, iv c2, rv b97, rv o_TIERED, rv o_TIERED, .unset] [(.ref o_TIERED)]))
            obtain ⟨cq122, kq122, qa122, qb122, qc122⟩ := isOf hZ e121 (Ex_o_TIERED.ext O.2)
            obtain ⟨_, _, ⟨T122, L122, k122, n122⟩, -, X122, ⟨Lc122, hQ122, l122, y122, z122⟩, st122⟩ := X121.virtualBack hx (y := (⟨"com/example/riskscan/riskscan/model/Profile", "code", "()Ljava/lang/String;"⟩ : MethodName)) (z := (⟨"com/example/riskscan/riskscan/model/Profile", "code", "()Ljava/lang/String;"⟩ : MethodName)) hown (mvT hZ (hw _ (List.mem_of_getElem? (i := 73) rfl))) (mvT hZ (hw _ (List.mem_of_getElem? (i := 74) rfl))) (notFace_of_selects (args := #[]) (mvT hZ (hw _ (List.mem_of_getElem? (i := 76) rfl)))) (mvT hZ (hw _ (List.mem_of_getElem? (i := 76) rfl))) (mvT hZ (hw _ (List.mem_of_getElem? (i := 75) rfl))) (by decide) (backOf (W := 0) (own_gcode l Z a0 hw [] o_TIERED o_TIERED_code T119.heap n0 (Nat.le_trans Z0 Kp.1) (F_o_TIERED_code.ext O.2)) hZ (hw _ (List.mem_of_getElem? (i := 77) rfl)) (hw _ (List.mem_of_getElem? (i := 36) rfl)) (by decide) (by decide)) qa122 qc122 (g := (mkF m 152 #[iv p1, .val (.long p2), .second, iv p3, iv kd, iv sh, iv ps, iv c1, iv c2, rv b97, rv o_TIERED, rv o_TIERED, .unset] [(.ref o_TIERED)])) rfl (by rw [hml]; rfl) (Steps.refl _) (argsL := []) (rest := []) (lenOf own_pd___Ljava_lang_String_ rfl) rfl (by show 2 * 0 + _ ≤ _; exact Nat.le_of_eq rfl) (hb hby at_152) (fun _ _ => ⟨rfl, e121, (by decide : 12 + 0 ≤ _), (by decide : 84 + 0 ≤ _)⟩)
            dsimp only [Pt.U, Pt.locs, Pt.cells, Pt.slots] at X122 l122 y122 z122 st122 hQ122
            subst l122 y122 z122
            obtain ⟨rfl, Nq122, e122⟩ := hQ122
            have N122 := Fr.app N119 Nq122
            refine own_goW (fun zt zk => st122.trans zk) ?_
            show own_GoW p e below s _ _ _ _ (T122.setTop (mkF m 155 #[iv p1, .val (.long p2), .second, iv p3, iv kd, iv sh, iv ps, iv c1, iv c2, rv b97, rv o_TIERED, rv o_TIERED, .unset] [(.ref o_TIERED_code)]))
            obtain ⟨_, _, ⟨T123, L123, k123, n123⟩, -, X123, ⟨Lc123, hQ123, l123, y123, z123⟩, st123⟩ := Jvm.LawKit.callS X122 hx (y := (⟨"com/example/riskscan/riskscan/model/Profile", "ofCode", "(Ljava/lang/String;)Lcom/example/riskscan/riskscan/model/Profile;"⟩ : MethodName)) hown (mvT hZ (hw _ (List.mem_of_getElem? (i := 34) rfl))) (mvT hZ (hw _ (List.mem_of_getElem? (i := 35) rfl))) (mvT hZ (hw _ (List.mem_of_getElem? (i := 36) rfl))) (mvT hZ (hw _ (List.mem_of_getElem? (i := 37) rfl))) (by decide) (backOf (W := 0) (own_rof1 l Z a0 hw [] o_TIERED_code o_TIERED_code_value k_o_TIERED_code_value (6 : Int32) [(116 : Int32), (105 : Int32), (101 : Int32), (114 : Int32), (101 : Int32), (100 : Int32)] o_COMPACT_STRINGS o__VALUES k_o__VALUES o_CLASSIC o_CLASSIC_code o_CLASSIC_code_value k_o_CLASSIC_code_value o_TIERED o_TIERED_code o_TIERED_code_value k_o_TIERED_code_value T119.heap n0 (Nat.le_trans Z0 Kp.1) O S_o_COMPACT_STRINGS S_o__VALUES V_o__VALUES Ex_o__VALUES Ex_o_CLASSIC F_o_CLASSIC_code Ex_o_CLASSIC_code F_o_CLASSIC_code_coder F_o_CLASSIC_code_value V_o_CLASSIC_code_value Ex_o_TIERED F_o_TIERED_code Ex_o_TIERED_code F_o_TIERED_code_coder F_o_TIERED_code_value V_o_TIERED_code_value (Ex_o_TIERED_code.ext O.2) (F_o_TIERED_code_value.ext O.2) (F_o_TIERED_code_coder.ext O.2) (V_o_TIERED_code_value.ext O.2) nz_o_COMPACT_STRINGS rfl (by decide) rfl) hZ (hw _ (List.mem_of_getElem? (i := 37) rfl)) (hw _ (List.mem_of_getElem? (i := 36) rfl)) (by decide) (by decide)) (g := (mkF m 155 #[iv p1, .val (.long p2), .second, iv p3, iv kd, iv sh, iv ps, iv c1, iv c2, rv b97, rv o_TIERED, rv o_TIERED, .unset] [(.ref o_TIERED_code)])) rfl (by rw [hml]; rfl) (argsL := [(.ref o_TIERED_code)]) (rest := []) (lenOf own_pd__Ljava_lang_String__Lcom_example_riskscan_riskscan_model_Profile_ rfl) rfl (by show 2 * 0 + _ ≤ _; exact Nat.le_of_eq rfl) (hb hby at_155) (fun _ _ => ⟨rfl, e122, (by decide : 12 + 1 ≤ _), (by decide : 84 + 2 ≤ _)⟩)
            dsimp only [Pt.U, Pt.locs, Pt.cells, Pt.slots] at X123 l123 y123 z123 st123 hQ123
            subst l123 y123 z123
            obtain ⟨rfl, Nq123, K123⟩ := hQ123
            have N123 := Fr.app N122 Nq123
            refine own_goW st123 ?_
            have Sf_b97' := Safe.keep K123 all0 Rc.1 Sf_b97
            replace Rc := Rc.trans (CHr.keep K123 all0 Rc.1)
            replace hk := Nat.le_trans hk K123.1
            replace Sf_b97 := Sf_b97'
            replace O := O.keep K123 all0
            replace Kp := Kp.trans K123 all0
            replace V_b12 := V_b12.keep K123 nin0
            replace Ex_b97 := Ex_b97.keep K123
            replace F_value_b97 := F_value_b97.keep K123 nin0
            replace F_coder_b97 := F_coder_b97.keep K123 nin0
            replace Va98 := Va98.keep K123 nin0
            replace Ex_a112 := Ex_a112.keep K123
            replace Fc_a112 := Fc_a112.keep K123 nin0
            replace Fv_a112 := Fv_a112.keep K123 nin0
            replace Va_b112 := Va_b112.keep K123 nin0
            replace Ex_a114 := Ex_a114.keep K123
            replace Fc_a114 := Fc_a114.keep K123 nin0
            replace Fv_a114 := Fv_a114.keep K123 nin0
            replace Va_b114 := Va_b114.keep K123 nin0
            show own_GoW p e below s _ _ _ _ (T123.setTop (mkF m 158 #[iv p1, .val (.long p2), .second, iv p3, iv kd, iv sh, iv ps, iv c1, iv c2, rv b97, rv o_TIERED, rv o_TIERED, .unset] [(.ref o_TIERED)]))
            obtain ⟨T124, X124, e124, st124⟩ := getS2 X123 hx hZ hown (host := "") (Or.inl (hw _ (List.mem_of_getElem? (i := 78) rfl))) Via.refl rfl (S_o_TIERED.ext O.2) (g := (mkF m 158 #[iv p1, .val (.long p2), .second, iv p3, iv kd, iv sh, iv ps, iv c1, iv c2, rv b97, rv o_TIERED, rv o_TIERED, .unset] [(.ref o_TIERED)])) rfl (hb hby at_158)
            refine own_goW st124 ?_
            show own_GoW p e below s _ _ _ _ (T124.setTop (mkF m 161 #[iv p1, .val (.long p2), .second, iv p3, iv kd, iv sh, iv ps, iv c1, iv c2, rv b97, rv o_TIERED, rv o_TIERED, .unset] [(.ref o_TIERED), (.ref o_TIERED)]))
            refine own_goW (fun zt zk => Jvm.RoadKit.acmp (g := (mkF m 161 #[iv p1, .val (.long p2), .second, iv p3, iv kd, iv sh, iv ps, iv c1, iv c2, rv b97, rv o_TIERED, rv o_TIERED, .unset] [(.ref o_TIERED), (.ref o_TIERED)])) X124 hx rfl rfl rfl (pc0 := 161) (pc' := 164) (same := true) rfl (hb hby at_161) rfl (decide_eq_true rfl) (by decide) (by decide) zk) ?_
            show own_GoW p e below s _ _ _ _ (T124.setTop (mkF m 164 #[iv p1, .val (.long p2), .second, iv p3, iv kd, iv sh, iv ps, iv c1, iv c2, rv b97, rv o_TIERED, rv o_TIERED, .unset] []))
            refine own_goW (fun zt zk => (XS.iconst X124.here hx rfl (hb hby at_164) (XS.goto X124.here hx rfl (pc0 := 165) (pc' := 169) rfl (hb hby at_165) (by decide) (by decide) (XS.istore X124.here hx rfl (hb hby at_169) rfl (l' := #[iv p1, .val (.long p2), .second, iv p3, iv kd, iv sh, iv ps, iv c1, iv c2, rv b97, rv o_TIERED, rv o_TIERED, iv (1 : Int32)]) rfl (XS.aload X124.here hx rfl (hb hby at_171) rfl rfl (XS.aload X124.here hx rfl (hb hby at_173) rfl rfl zk)))))) ?_
            show own_GoW p e below s _ _ _ _ (T124.setTop (mkF m 175 #[iv p1, .val (.long p2), .second, iv p3, iv kd, iv sh, iv ps, iv c1, iv c2, rv b97, rv o_TIERED, rv o_TIERED, iv (1 : Int32)] [(.ref o_TIERED), (.ref o_TIERED)]))
            refine own_goW (fun zt zk => Jvm.RoadKit.acmp (g := (mkF m 175 #[iv p1, .val (.long p2), .second, iv p3, iv kd, iv sh, iv ps, iv c1, iv c2, rv b97, rv o_TIERED, rv o_TIERED, iv (1 : Int32)] [(.ref o_TIERED), (.ref o_TIERED)])) X124 hx rfl rfl rfl (pc0 := 175) (pc' := 178) (same := true) rfl (hb hby at_175) rfl (decide_eq_true rfl) (by decide) (by decide) zk) ?_
            show own_GoW p e below s _ _ _ _ (T124.setTop (mkF m 178 #[iv p1, .val (.long p2), .second, iv p3, iv kd, iv sh, iv ps, iv c1, iv c2, rv b97, rv o_TIERED, rv o_TIERED, iv (1 : Int32)] []))
            refine own_goW (fun zt zk => (XS.iload X124.here hx rfl (hb hby at_178) rfl (XS.ifNo X124.here hx rfl (hb hby at_180) rfl ((if0 _ _).trans (feq ((by decide) : ¬ ((1 : Int32) = (0 : Int32)))).1) (XS.iconst X124.here hx rfl (hb hby at_183) (XS.goto X124.here hx rfl (pc0 := 184) (pc' := 188) rfl (hb hby at_184) (by decide) (by decide) zk))))) ?_
            show own_GoW p e below s _ _ _ _ (T124.setTop (mkF m 188 #[iv p1, .val (.long p2), .second, iv p3, iv kd, iv sh, iv ps, iv c1, iv c2, rv b97, rv o_TIERED, rv o_TIERED, iv (1 : Int32)] [(.int (1 : Int32))]))
            have Re := Rc.trans (CHv.at X124 hZ hEL Rc.1)
            exact own_finW X124 hS (by rw [e124]; exact hk) (by rw [e124, hh]; exact Re) Bd.notSynchronized (fun h => by rw [Bd.returns] at h; cases h) (fun fs hr => retN X124 hx (t := .boolean) Bd.returns (by simp) (hb hby at_188) hr) (by rw [e124]; exact ⟨rfl, N123⟩) (by decide) (by decide)
          · obtain ⟨_, _, ⟨T125, L125, k125, n125⟩, -, X125, ⟨Lc125, hQ125, l125, y125, z125⟩, st125⟩ := Jvm.LawKit.callS X98 hx (y := (⟨"com/example/riskscan/riskscan/model/Profile", "ofCode", "(Ljava/lang/String;)Lcom/example/riskscan/riskscan/model/Profile;"⟩ : MethodName)) hown (mvT hZ (hw _ (List.mem_of_getElem? (i := 34) rfl))) (mvT hZ (hw _ (List.mem_of_getElem? (i := 35) rfl))) (mvT hZ (hw _ (List.mem_of_getElem? (i := 36) rfl))) (mvT hZ (hw _ (List.mem_of_getElem? (i := 37) rfl))) (by decide) (backOf (W := 0) (own_rof2 l Z a0 hw [] b97 t98 kb98 (0 : Int32) ([] : List Int32) o_COMPACT_STRINGS o__VALUES k_o__VALUES o_CLASSIC o_CLASSIC_code o_CLASSIC_code_value k_o_CLASSIC_code_value o_TIERED o_TIERED_code o_TIERED_code_value k_o_TIERED_code_value T98.heap n0 (Nat.le_trans Z0 Kp.1) O S_o_COMPACT_STRINGS S_o__VALUES V_o__VALUES Ex_o__VALUES Ex_o_CLASSIC F_o_CLASSIC_code Ex_o_CLASSIC_code F_o_CLASSIC_code_coder F_o_CLASSIC_code_value V_o_CLASSIC_code_value Ex_o_TIERED F_o_TIERED_code Ex_o_TIERED_code F_o_TIERED_code_coder F_o_TIERED_code_value V_o_TIERED_code_value Ex_b97 F_value_b97 F_coder_b97 Va98 nz_o_COMPACT_STRINGS rfl hC hT) hZ (hw _ (List.mem_of_getElem? (i := 37) rfl)) (hw _ (List.mem_of_getElem? (i := 36) rfl)) (by decide) (by decide)) (g := (mkF m 88 #[iv p1, .val (.long p2), .second, iv p3, iv kd, iv sh, iv ps, iv c1, iv c2, rv b97, rv b12, .unset, .unset] [(.ref b97)])) rfl (by rw [hml]; rfl) (argsL := [(.ref b97)]) (rest := []) (lenOf own_pd__Ljava_lang_String__Lcom_example_riskscan_riskscan_model_Profile_ rfl) rfl (by show 2 * 0 + _ ≤ _; exact Nat.le_of_eq rfl) (hb hby at_88) (fun _ _ => ⟨rfl, rfl, (by decide : 6 + 1 ≤ _), (by decide : 20 + 2 ≤ _)⟩)
            dsimp only [Pt.U, Pt.locs, Pt.cells, Pt.slots] at X125 l125 y125 z125 st125 hQ125
            subst l125 y125 z125
            obtain ⟨rfl, Nq125, K125⟩ := hQ125
            have N125 := Fr.app N98 Nq125
            refine own_goW st125 ?_
            have Sf_b97' := Safe.keep K125 all0 Rc.1 Sf_b97
            replace Rc := Rc.trans (CHr.keep K125 all0 Rc.1)
            replace hk := Nat.le_trans hk K125.1
            replace Sf_b97 := Sf_b97'
            replace O := O.keep K125 all0
            replace Kp := Kp.trans K125 all0
            replace V_b12 := V_b12.keep K125 nin0
            replace Ex_b97 := Ex_b97.keep K125
            replace F_value_b97 := F_value_b97.keep K125 nin0
            replace F_coder_b97 := F_coder_b97.keep K125 nin0
            replace Va98 := Va98.keep K125 nin0
            show own_GoW p e below s _ _ _ _ (T125.setTop (mkF m 91 #[iv p1, .val (.long p2), .second, iv p3, iv kd, iv sh, iv ps, iv c1, iv c2, rv b97, rv b12, .unset, .unset] [.null]))
            refine own_goW (fun zt zk => (XS.astore X125.here hx rfl (hb hby at_91) rfl rfl (l' := #[iv p1, .val (.long p2), .second, iv p3, iv kd, iv sh, iv ps, iv c1, iv c2, rv b97, .val .null, .unset, .unset]) rfl (XS.aconstNull X125.here hx rfl (hb hby at_93) (XS.astore X125.here hx rfl (hb hby at_94) rfl rfl (l' := #[iv p1, .val (.long p2), .second, iv p3, iv kd, iv sh, iv ps, iv c1, iv c2, rv b97, .val .null, .val .null, .unset]) rfl (XS.aload X125.here hx rfl (hb hby at_96) rfl rfl (XS.ifnullNo X125.here hx rfl (hb hby at_98) rfl (XS.aload X125.here hx rfl (hb hby at_101) rfl rfl zk))))))) ?_
            show own_GoW p e below s _ _ _ _ (T125.setTop (mkF m 103 #[iv p1, .val (.long p2), .second, iv p3, iv kd, iv sh, iv ps, iv c1, iv c2, rv b97, .val .null, .val .null, .unset] [(.ref b97)]))
            obtain ⟨a126, T126, h126, q126, b126, k126, X126, e126, E126, hS126, hk126, hZ126, hown126, Ex_a126, Fc_a126, Fv_a126, Va_b126, lta126, ltb126, A126, Li126, Sn126, st126⟩ := ldcCH X125 hx hZ hown (hw _ (List.mem_of_getElem? (i := 67) rfl)) wS rfl hS hk hEL (by decide +kernel) Rc.1 (vs := [(.int (99 : Int32)), (.int (108 : Int32)), (.int (97 : Int32)), (.int (115 : Int32)), (.int (115 : Int32)), (.int (105 : Int32)), (.int (99 : Int32))]) (z := (7 : Int32)) ⟨by decide +kernel, by decide +kernel⟩ (by decide) rfl (g := (mkF m 103 #[iv p1, .val (.long p2), .second, iv p3, iv kd, iv sh, iv ps, iv c1, iv c2, rv b97, .val .null, .val .null, .unset] [(.ref b97)])) rfl (hb hby at_103) (n := 28) (by decide +kernel) (by decide) (by decide) (by decide)
            replace Sf_b97 := CHr.safe A126 Ex_b97.lt Sf_b97
            replace O := O.ext E126
            replace Kp := Kp.ext E126
            replace V_b12 := V_b12.ext E126
            replace Ex_b97 := Ex_b97.ext E126
            replace F_value_b97 := F_value_b97.ext E126
            replace F_coder_b97 := F_coder_b97.ext E126
            replace Va98 := Va98.ext E126
            replace Rc := Rc.trans A126
            replace hS := hS126
            replace hk := hk126
            replace hZ := hZ126
            replace hown := hown126
            refine own_goW st126 ?_
            have ne_b97_a126 := (Sn126 b97 Sf_b97).1
            have ne_b97_b126 := (Sn126 b97 Sf_b97).2
            show own_GoW p e below s _ _ _ _ (T126.setTop (mkF m 105 #[iv p1, .val (.long p2), .second, iv p3, iv kd, iv sh, iv ps, iv c1, iv c2, rv b97, .val .null, .val .null, .unset] [(.ref a126), (.ref b97)]))
            obtain ⟨cq127, kq127, qa127, qb127, qc127⟩ := isOf hZ e126 Ex_b97
            obtain ⟨_, _, ⟨T127, L127, k127, n127⟩, -, X127, ⟨Lc127, hQ127, l127, y127, z127⟩, st127⟩ := X126.virtualBack hx (y := (⟨"java/lang/String", "equals", "(Ljava/lang/Object;)Z"⟩ : MethodName)) (z := (⟨"java/lang/String", "equals", "(Ljava/lang/Object;)Z"⟩ : MethodName)) hown (mvT hZ (hw _ (List.mem_of_getElem? (i := 70) rfl))) (mvT hZ (hw _ (List.mem_of_getElem? (i := 58) rfl))) (notFace_of_selects (args := #[]) (mvT hZ (hw _ (List.mem_of_getElem? (i := 60) rfl)))) (mvT hZ (hw _ (List.mem_of_getElem? (i := 60) rfl))) (mvT hZ (hw _ (List.mem_of_getElem? (i := 59) rfl))) (by decide) (backOf (W := 0) (own_req l Z a0 hw [] b97 a126 o_COMPACT_STRINGS t98 b126 kb98 k126 (0 : Int32) (7 : Int32) ([] : List Int32) [(99 : Int32), (108 : Int32), (97 : Int32), (115 : Int32), (115 : Int32), (105 : Int32), (99 : Int32)] h126 n0 (Nat.le_trans Z0 Kp.1) O S_o_COMPACT_STRINGS Ex_b97 F_value_b97 F_coder_b97 Va98 Ex_a126 Fv_a126 Fc_a126 Va_b126 nz_o_COMPACT_STRINGS rfl rfl) hZ (hw _ (List.mem_of_getElem? (i := 61) rfl)) (hw _ (List.mem_of_getElem? (i := 7) rfl)) (by decide) (by decide)) qa127 qc127 (g := (mkF m 105 #[iv p1, .val (.long p2), .second, iv p3, iv kd, iv sh, iv ps, iv c1, iv c2, rv b97, .val .null, .val .null, .unset] [(.ref a126), (.ref b97)])) rfl (by rw [hml]; rfl) (Steps.refl _) (argsL := [(.ref a126)]) (rest := []) (lenOf own_pd__Ljava_lang_Object__Z rfl) rfl (by show 2 * 0 + _ ≤ _; exact Nat.le_of_eq rfl) (hb hby at_105) (fun _ _ => ⟨rfl, e126, (by decide : 9 + 0 ≤ _), (by decide : 54 + 0 ≤ _)⟩)
            dsimp only [Pt.U, Pt.locs, Pt.cells, Pt.slots] at X127 l127 y127 z127 st127 hQ127
            subst l127 y127 z127
            obtain ⟨hv127, Nq127, e127⟩ := hQ127
            rw [show own_eqv _ _ = (0 : Int32) from if_neg (fun q => hC q.symm)] at hv127
            subst hv127
            have N127 := Fr.app N125 Nq127
            refine own_goW (fun zt zk => st127.trans zk) ?_
            show own_GoW p e below s _ _ _ _ (T127.setTop (mkF m 108 #[iv p1, .val (.long p2), .second, iv p3, iv kd, iv sh, iv ps, iv c1, iv c2, rv b97, .val .null, .val .null, .unset] [(.int (0 : Int32))]))
            refine own_goW (fun zt zk => (XS.ifYes X127.here hx rfl (pc0 := 108) (pc' := 119) rfl (hb hby at_108) rfl ((if0 _ _).trans (teq (rfl : (0 : Int32) = (0 : Int32))).1) (by decide) (by decide) (XS.aload X127.here hx rfl (hb hby at_119) rfl rfl zk))) ?_
            show own_GoW p e below s _ _ _ _ (T127.setTop (mkF m 121 #[iv p1, .val (.long p2), .second, iv p3, iv kd, iv sh, iv ps, iv c1, iv c2, rv b97, .val .null, .val .null, .unset] [(.ref b97)]))
            obtain ⟨a128, T128, h128, q128, b128, k128, X128, e128, E128, hS128, hk128, hZ128, hown128, Ex_a128, Fc_a128, Fv_a128, Va_b128, lta128, ltb128, A128, Li128, Sn128, st128⟩ := ldcCH X127 hx hZ hown (hw _ (List.mem_of_getElem? (i := 71) rfl)) wS e127 hS hk hEL (by decide +kernel) Rc.1 (vs := [(.int (116 : Int32)), (.int (105 : Int32)), (.int (101 : Int32)), (.int (114 : Int32)), (.int (101 : Int32)), (.int (100 : Int32))]) (z := (6 : Int32)) ⟨by decide +kernel, by decide +kernel⟩ (by decide) rfl (g := (mkF m 121 #[iv p1, .val (.long p2), .second, iv p3, iv kd, iv sh, iv ps, iv c1, iv c2, rv b97, .val .null, .val .null, .unset] [(.ref b97)])) rfl (hb hby at_121) (n := 24) (by decide +kernel) (by decide) (by decide) (by decide)
            replace Sf_b97 := CHr.safe A128 Ex_b97.lt Sf_b97
            replace O := O.ext E128
            replace Kp := Kp.ext E128
            replace V_b12 := V_b12.ext E128
            replace Ex_b97 := Ex_b97.ext E128
            replace F_value_b97 := F_value_b97.ext E128
            replace F_coder_b97 := F_coder_b97.ext E128
            replace Va98 := Va98.ext E128
            replace Ex_a126 := Ex_a126.ext E128
            replace Fc_a126 := Fc_a126.ext E128
            replace Fv_a126 := Fv_a126.ext E128
            replace Va_b126 := Va_b126.ext E128
            replace Rc := Rc.trans A128
            replace hS := hS128
            replace hk := hk128
            replace hZ := hZ128
            replace hown := hown128
            refine own_goW st128 ?_
            have ne_b97_a128 := (Sn128 b97 Sf_b97).1
            have ne_b97_b128 := (Sn128 b97 Sf_b97).2
            show own_GoW p e below s _ _ _ _ (T128.setTop (mkF m 123 #[iv p1, .val (.long p2), .second, iv p3, iv kd, iv sh, iv ps, iv c1, iv c2, rv b97, .val .null, .val .null, .unset] [(.ref a128), (.ref b97)]))
            obtain ⟨cq129, kq129, qa129, qb129, qc129⟩ := isOf hZ e128 Ex_b97
            obtain ⟨_, _, ⟨T129, L129, k129, n129⟩, -, X129, ⟨Lc129, hQ129, l129, y129, z129⟩, st129⟩ := X128.virtualBack hx (y := (⟨"java/lang/String", "equals", "(Ljava/lang/Object;)Z"⟩ : MethodName)) (z := (⟨"java/lang/String", "equals", "(Ljava/lang/Object;)Z"⟩ : MethodName)) hown (mvT hZ (hw _ (List.mem_of_getElem? (i := 70) rfl))) (mvT hZ (hw _ (List.mem_of_getElem? (i := 58) rfl))) (notFace_of_selects (args := #[]) (mvT hZ (hw _ (List.mem_of_getElem? (i := 60) rfl)))) (mvT hZ (hw _ (List.mem_of_getElem? (i := 60) rfl))) (mvT hZ (hw _ (List.mem_of_getElem? (i := 59) rfl))) (by decide) (backOf (W := 0) (own_req l Z a0 hw [] b97 a128 o_COMPACT_STRINGS t98 b128 kb98 k128 (0 : Int32) (6 : Int32) ([] : List Int32) [(116 : Int32), (105 : Int32), (101 : Int32), (114 : Int32), (101 : Int32), (100 : Int32)] h128 n0 (Nat.le_trans Z0 Kp.1) O S_o_COMPACT_STRINGS Ex_b97 F_value_b97 F_coder_b97 Va98 Ex_a128 Fv_a128 Fc_a128 Va_b128 nz_o_COMPACT_STRINGS rfl rfl) hZ (hw _ (List.mem_of_getElem? (i := 61) rfl)) (hw _ (List.mem_of_getElem? (i := 7) rfl)) (by decide) (by decide)) qa129 qc129 (g := (mkF m 123 #[iv p1, .val (.long p2), .second, iv p3, iv kd, iv sh, iv ps, iv c1, iv c2, rv b97, .val .null, .val .null, .unset] [(.ref a128), (.ref b97)])) rfl (by rw [hml]; rfl) (Steps.refl _) (argsL := [(.ref a128)]) (rest := []) (lenOf own_pd__Ljava_lang_Object__Z rfl) rfl (by show 2 * 0 + _ ≤ _; exact Nat.le_of_eq rfl) (hb hby at_123) (fun _ _ => ⟨rfl, e128, (by decide : 11 + 0 ≤ _), (by decide : 82 + 0 ≤ _)⟩)
            dsimp only [Pt.U, Pt.locs, Pt.cells, Pt.slots] at X129 l129 y129 z129 st129 hQ129
            subst l129 y129 z129
            obtain ⟨hv129, Nq129, e129⟩ := hQ129
            rw [show own_eqv _ _ = (0 : Int32) from if_neg (fun q => hT q.symm)] at hv129
            subst hv129
            have N129 := Fr.app N127 Nq129
            refine own_goW (fun zt zk => st129.trans zk) ?_
            show own_GoW p e below s _ _ _ _ (T129.setTop (mkF m 126 #[iv p1, .val (.long p2), .second, iv p3, iv kd, iv sh, iv ps, iv c1, iv c2, rv b97, .val .null, .val .null, .unset] [(.int (0 : Int32))]))
            refine own_goW (fun zt zk => (XS.ifYes X129.here hx rfl (pc0 := 126) (pc' := 134) rfl (hb hby at_126) rfl ((if0 _ _).trans (teq (rfl : (0 : Int32) = (0 : Int32))).1) (by decide) (by decide) zk)) ?_
            show own_GoW p e below s _ _ _ _ (T129.setTop (mkF m 134 #[iv p1, .val (.long p2), .second, iv p3, iv kd, iv sh, iv ps, iv c1, iv c2, rv b97, .val .null, .val .null, .unset] []))
            obtain ⟨T130, X130, e130, st130⟩ := getS2 X129 hx hZ hown (host := "") (Or.inl (hw _ (List.mem_of_getElem? (i := 72) rfl))) Via.refl e129 (S_o_CLASSIC.ext O.2) (g := (mkF m 134 #[iv p1, .val (.long p2), .second, iv p3, iv kd, iv sh, iv ps, iv c1, iv c2, rv b97, .val .null, .val .null, .unset] [])) rfl (hb hby at_134)
            refine own_goW st130 ?_
            show own_GoW p e below s _ _ _ _ (T130.setTop (mkF m 137 #[iv p1, .val (.long p2), .second, iv p3, iv kd, iv sh, iv ps, iv c1, iv c2, rv b97, .val .null, .val .null, .unset] [(.ref o_CLASSIC)]))
            obtain ⟨cq131, kq131, qa131, qb131, qc131⟩ := isOf hZ e130 (Ex_o_CLASSIC.ext O.2)
            obtain ⟨_, _, ⟨T131, L131, k131, n131⟩, -, X131, ⟨Lc131, hQ131, l131, y131, z131⟩, st131⟩ := X130.virtualBack hx (y := (⟨"com/example/riskscan/riskscan/model/Profile", "code", "()Ljava/lang/String;"⟩ : MethodName)) (z := (⟨"com/example/riskscan/riskscan/model/Profile", "code", "()Ljava/lang/String;"⟩ : MethodName)) hown (mvT hZ (hw _ (List.mem_of_getElem? (i := 73) rfl))) (mvT hZ (hw _ (List.mem_of_getElem? (i := 74) rfl))) (notFace_of_selects (args := #[]) (mvT hZ (hw _ (List.mem_of_getElem? (i := 76) rfl)))) (mvT hZ (hw _ (List.mem_of_getElem? (i := 76) rfl))) (mvT hZ (hw _ (List.mem_of_getElem? (i := 75) rfl))) (by decide) (backOf (W := 0) (own_gcode l Z a0 hw [] o_CLASSIC o_CLASSIC_code h128 n0 (Nat.le_trans Z0 Kp.1) (F_o_CLASSIC_code.ext O.2)) hZ (hw _ (List.mem_of_getElem? (i := 77) rfl)) (hw _ (List.mem_of_getElem? (i := 36) rfl)) (by decide) (by decide)) qa131 qc131 (g := (mkF m 137 #[iv p1, .val (.long p2), .second, iv p3, iv kd, iv sh, iv ps, iv c1, iv c2, rv b97, .val .null, .val .null, .unset] [(.ref o_CLASSIC)])) rfl (by rw [hml]; rfl) (Steps.refl _) (argsL := []) (rest := []) (lenOf own_pd___Ljava_lang_String_ rfl) rfl (by show 2 * 0 + _ ≤ _; exact Nat.le_of_eq rfl) (hb hby at_137) (fun _ _ => ⟨rfl, e130, (by decide : 11 + 0 ≤ _), (by decide : 82 + 0 ≤ _)⟩)
            dsimp only [Pt.U, Pt.locs, Pt.cells, Pt.slots] at X131 l131 y131 z131 st131 hQ131
            subst l131 y131 z131
            obtain ⟨rfl, Nq131, e131⟩ := hQ131
            have N131 := Fr.app N129 Nq131
            refine own_goW (fun zt zk => st131.trans zk) ?_
            show own_GoW p e below s _ _ _ _ (T131.setTop (mkF m 140 #[iv p1, .val (.long p2), .second, iv p3, iv kd, iv sh, iv ps, iv c1, iv c2, rv b97, .val .null, .val .null, .unset] [(.ref o_CLASSIC_code)]))
            obtain ⟨_, _, ⟨T132, L132, k132, n132⟩, -, X132, ⟨Lc132, hQ132, l132, y132, z132⟩, st132⟩ := Jvm.LawKit.callS X131 hx (y := (⟨"com/example/riskscan/riskscan/model/Profile", "ofCode", "(Ljava/lang/String;)Lcom/example/riskscan/riskscan/model/Profile;"⟩ : MethodName)) hown (mvT hZ (hw _ (List.mem_of_getElem? (i := 34) rfl))) (mvT hZ (hw _ (List.mem_of_getElem? (i := 35) rfl))) (mvT hZ (hw _ (List.mem_of_getElem? (i := 36) rfl))) (mvT hZ (hw _ (List.mem_of_getElem? (i := 37) rfl))) (by decide) (backOf (W := 0) (own_rof0 l Z a0 hw [] o_CLASSIC_code o_CLASSIC_code_value k_o_CLASSIC_code_value (7 : Int32) [(99 : Int32), (108 : Int32), (97 : Int32), (115 : Int32), (115 : Int32), (105 : Int32), (99 : Int32)] o_COMPACT_STRINGS o__VALUES k_o__VALUES o_CLASSIC o_CLASSIC_code o_CLASSIC_code_value k_o_CLASSIC_code_value o_TIERED o_TIERED_code o_TIERED_code_value k_o_TIERED_code_value h128 n0 (Nat.le_trans Z0 Kp.1) O S_o_COMPACT_STRINGS S_o__VALUES V_o__VALUES Ex_o__VALUES Ex_o_CLASSIC F_o_CLASSIC_code Ex_o_CLASSIC_code F_o_CLASSIC_code_coder F_o_CLASSIC_code_value V_o_CLASSIC_code_value Ex_o_TIERED F_o_TIERED_code Ex_o_TIERED_code F_o_TIERED_code_coder F_o_TIERED_code_value V_o_TIERED_code_value (Ex_o_CLASSIC_code.ext O.2) (F_o_CLASSIC_code_value.ext O.2) (F_o_CLASSIC_code_coder.ext O.2) (V_o_CLASSIC_code_value.ext O.2) nz_o_COMPACT_STRINGS rfl rfl) hZ (hw _ (List.mem_of_getElem? (i := 37) rfl)) (hw _ (List.mem_of_getElem? (i := 36) rfl)) (by decide) (by decide)) (g := (mkF m 140 #[iv p1, .val (.long p2), .second, iv p3, iv kd, iv sh, iv ps, iv c1, iv c2, rv b97, .val .null, .val .null, .unset] [(.ref o_CLASSIC_code)])) rfl (by rw [hml]; rfl) (argsL := [(.ref o_CLASSIC_code)]) (rest := []) (lenOf own_pd__Ljava_lang_String__Lcom_example_riskscan_riskscan_model_Profile_ rfl) rfl (by show 2 * 0 + _ ≤ _; exact Nat.le_of_eq rfl) (hb hby at_140) (fun _ _ => ⟨rfl, e131, (by decide : 11 + 1 ≤ _), (by decide : 82 + 2 ≤ _)⟩)
            dsimp only [Pt.U, Pt.locs, Pt.cells, Pt.slots] at X132 l132 y132 z132 st132 hQ132
            subst l132 y132 z132
            obtain ⟨rfl, Nq132, K132⟩ := hQ132
            have N132 := Fr.app N131 Nq132
            refine own_goW st132 ?_
            have Sf_b97' := Safe.keep K132 all0 Rc.1 Sf_b97
            replace Rc := Rc.trans (CHr.keep K132 all0 Rc.1)
            replace hk := Nat.le_trans hk K132.1
            replace Sf_b97 := Sf_b97'
            replace O := O.keep K132 all0
            replace Kp := Kp.trans K132 all0
            replace V_b12 := V_b12.keep K132 nin0
            replace Ex_b97 := Ex_b97.keep K132
            replace F_value_b97 := F_value_b97.keep K132 nin0
            replace F_coder_b97 := F_coder_b97.keep K132 nin0
            replace Va98 := Va98.keep K132 nin0
            replace Ex_a126 := Ex_a126.keep K132
            replace Fc_a126 := Fc_a126.keep K132 nin0
            replace Fv_a126 := Fv_a126.keep K132 nin0
            replace Va_b126 := Va_b126.keep K132 nin0
            replace Ex_a128 := Ex_a128.keep K132
            replace Fc_a128 := Fc_a128.keep K132 nin0
            replace Fv_a128 := Fv_a128.keep K132 nin0
            replace Va_b128 := Va_b128.keep K132 nin0
            show own_GoW p e below s _ _ _ _ (T132.setTop (mkF m 143 #[iv p1, .val (.long p2), .second, iv p3, iv kd, iv sh, iv ps, iv c1, iv c2, rv b97, .val .null, .val .null, .unset] [(.ref o_CLASSIC)]))
            obtain ⟨T133, X133, e133, st133⟩ := getS2 X132 hx hZ hown (host := "") (Or.inl (hw _ (List.mem_of_getElem? (i := 72) rfl))) Via.refl rfl (S_o_CLASSIC.ext O.2) (g := (mkF m 143 #[iv p1, .val (.long p2), .second, iv p3, iv kd, iv sh, iv ps, iv c1, iv c2, rv b97, .val .null, .val .null, .unset] [(.ref o_CLASSIC)])) rfl (hb hby at_143)
            refine own_goW st133 ?_
            show own_GoW p e below s _ _ _ _ (T133.setTop (mkF m 146 #[iv p1, .val (.long p2), .second, iv p3, iv kd, iv sh, iv ps, iv c1, iv c2, rv b97, .val .null, .val .null, .unset] [(.ref o_CLASSIC), (.ref o_CLASSIC)]))
            refine own_goW (fun zt zk => Jvm.RoadKit.acmp (g := (mkF m 146 #[iv p1, .val (.long p2), .second, iv p3, iv kd, iv sh, iv ps, iv c1, iv c2, rv b97, .val .null, .val .null, .unset] [(.ref o_CLASSIC), (.ref o_CLASSIC)])) X133 hx rfl rfl rfl (pc0 := 146) (pc' := 149) (same := true) rfl (hb hby at_146) rfl (decide_eq_true rfl) (by decide) (by decide) zk) ?_
            show own_GoW p e below s _ _ _ _ (T133.setTop (mkF m 149 #[iv p1, .val (.long p2), .second, iv p3, iv kd, iv sh, iv ps, iv c1, iv c2, rv b97, .val .null, .val .null, .unset] []))
            obtain ⟨T134, X134, e134, st134⟩ := getS2 X133 hx hZ hown (host := "") (Or.inl (hw _ (List.mem_of_getElem? (i := 78) rfl))) Via.refl e133 (S_o_TIERED.ext O.2) (g := (mkF m 149 #[iv p1, .val (.long p2), .second, iv p3, iv kd, iv sh, iv ps, iv c1, iv c2, rv b97, .val .null, .val .null, .unset] [])) rfl (hb hby at_149)
            refine own_goW st134 ?_
            show own_GoW p e below s _ _ _ _ (T134.setTop (mkF m 152 #[iv p1, .val (.long p2), .second, iv p3, iv kd, iv sh, iv ps, iv c1, iv c2, rv b97, .val .null, .val .null, .unset] [(.ref o_TIERED)]))
            obtain ⟨cq135, kq135, qa135, qb135, qc135⟩ := isOf hZ e134 (Ex_o_TIERED.ext O.2)
            obtain ⟨_, _, ⟨T135, L135, k135, n135⟩, -, X135, ⟨Lc135, hQ135, l135, y135, z135⟩, st135⟩ := X134.virtualBack hx (y := (⟨"com/example/riskscan/riskscan/model/Profile", "code", "()Ljava/lang/String;"⟩ : MethodName)) (z := (⟨"com/example/riskscan/riskscan/model/Profile", "code", "()Ljava/lang/String;"⟩ : MethodName)) hown (mvT hZ (hw _ (List.mem_of_getElem? (i := 73) rfl))) (mvT hZ (hw _ (List.mem_of_getElem? (i := 74) rfl))) (notFace_of_selects (args := #[]) (mvT hZ (hw _ (List.mem_of_getElem? (i := 76) rfl)))) (mvT hZ (hw _ (List.mem_of_getElem? (i := 76) rfl))) (mvT hZ (hw _ (List.mem_of_getElem? (i := 75) rfl))) (by decide) (backOf (W := 0) (own_gcode l Z a0 hw [] o_TIERED o_TIERED_code T132.heap n0 (Nat.le_trans Z0 Kp.1) (F_o_TIERED_code.ext O.2)) hZ (hw _ (List.mem_of_getElem? (i := 77) rfl)) (hw _ (List.mem_of_getElem? (i := 36) rfl)) (by decide) (by decide)) qa135 qc135 (g := (mkF m 152 #[iv p1, .val (.long p2), .second, iv p3, iv kd, iv sh, iv ps, iv c1, iv c2, rv b97, .val .null, .val .null, .unset] [(.ref o_TIERED)])) rfl (by rw [hml]; rfl) (Steps.refl _) (argsL := []) (rest := []) (lenOf own_pd___Ljava_lang_String_ rfl) rfl (by show 2 * 0 + _ ≤ _; exact Nat.le_of_eq rfl) (hb hby at_152) (fun _ _ => ⟨rfl, e134, (by decide : 12 + 0 ≤ _), (by decide : 84 + 0 ≤ _)⟩)
            dsimp only [Pt.U, Pt.locs, Pt.cells, Pt.slots] at X135 l135 y135 z135 st135 hQ135
            subst l135 y135 z135
            obtain ⟨rfl, Nq135, e135⟩ := hQ135
            have N135 := Fr.app N132 Nq135
            refine own_goW (fun zt zk => st135.trans zk) ?_
            show own_GoW p e below s _ _ _ _ (T135.setTop (mkF m 155 #[iv p1, .val (.long p2), .second, iv p3, iv kd, iv sh, iv ps, iv c1, iv c2, rv b97, .val .null, .val .null, .unset] [(.ref o_TIERED_code)]))
            obtain ⟨_, _, ⟨T136, L136, k136, n136⟩, -, X136, ⟨Lc136, hQ136, l136, y136, z136⟩, st136⟩ := Jvm.LawKit.callS X135 hx (y := (⟨"com/example/riskscan/riskscan/model/Profile", "ofCode", "(Ljava/lang/String;)Lcom/example/riskscan/riskscan/model/Profile;"⟩ : MethodName)) hown (mvT hZ (hw _ (List.mem_of_getElem? (i := 34) rfl))) (mvT hZ (hw _ (List.mem_of_getElem? (i := 35) rfl))) (mvT hZ (hw _ (List.mem_of_getElem? (i := 36) rfl))) (mvT hZ (hw _ (List.mem_of_getElem? (i := 37) rfl))) (by decide) (backOf (W := 0) (own_rof1 l Z a0 hw [] o_TIERED_code o_TIERED_code_value k_o_TIERED_code_value (6 : Int32) [(116 : Int32), (105 : Int32), (101 : Int32), (114 : Int32), (101 : Int32), (100 : Int32)] o_COMPACT_STRINGS o__VALUES k_o__VALUES o_CLASSIC o_CLASSIC_code o_CLASSIC_code_value k_o_CLASSIC_code_value o_TIERED o_TIERED_code o_TIERED_code_value k_o_TIERED_code_value T132.heap n0 (Nat.le_trans Z0 Kp.1) O S_o_COMPACT_STRINGS S_o__VALUES V_o__VALUES Ex_o__VALUES Ex_o_CLASSIC F_o_CLASSIC_code Ex_o_CLASSIC_code F_o_CLASSIC_code_coder F_o_CLASSIC_code_value V_o_CLASSIC_code_value Ex_o_TIERED F_o_TIERED_code Ex_o_TIERED_code F_o_TIERED_code_coder F_o_TIERED_code_value V_o_TIERED_code_value (Ex_o_TIERED_code.ext O.2) (F_o_TIERED_code_value.ext O.2) (F_o_TIERED_code_coder.ext O.2) (V_o_TIERED_code_value.ext O.2) nz_o_COMPACT_STRINGS rfl (by decide) rfl) hZ (hw _ (List.mem_of_getElem? (i := 37) rfl)) (hw _ (List.mem_of_getElem? (i := 36) rfl)) (by decide) (by decide)) (g := (mkF m 155 #[iv p1, .val (.long p2), .second, iv p3, iv kd, iv sh, iv ps, iv c1, iv c2, rv b97, .val .null, .val .null, .unset] [(.ref o_TIERED_code)])) rfl (by rw [hml]; rfl) (argsL := [(.ref o_TIERED_code)]) (rest := []) (lenOf own_pd__Ljava_lang_String__Lcom_example_riskscan_riskscan_model_Profile_ rfl) rfl (by show 2 * 0 + _ ≤ _; exact Nat.le_of_eq rfl) (hb hby at_155) (fun _ _ => ⟨rfl, e135, (by decide : 12 + 1 ≤ _), (by decide : 84 + 2 ≤ _)⟩)
            dsimp only [Pt.U, Pt.locs, Pt.cells, Pt.slots] at X136 l136 y136 z136 st136 hQ136
            subst l136 y136 z136
            obtain ⟨rfl, Nq136, K136⟩ := hQ136
            have N136 := Fr.app N135 Nq136
            refine own_goW st136 ?_
            have Sf_b97' := Safe.keep K136 all0 Rc.1 Sf_b97
            replace Rc := Rc.trans (CHr.keep K136 all0 Rc.1)
            replace hk := Nat.le_trans hk K136.1
            replace Sf_b97 := Sf_b97'
            replace O := O.keep K136 all0
            replace Kp := Kp.trans K136 all0
            replace V_b12 := V_b12.keep K136 nin0
            replace Ex_b97 := Ex_b97.keep K136
            replace F_value_b97 := F_value_b97.keep K136 nin0
            replace F_coder_b97 := F_coder_b97.keep K136 nin0
            replace Va98 := Va98.keep K136 nin0
            replace Ex_a126 := Ex_a126.keep K136
            replace Fc_a126 := Fc_a126.keep K136 nin0
            replace Fv_a126 := Fv_a126.keep K136 nin0
            replace Va_b126 := Va_b126.keep K136 nin0
            replace Ex_a128 := Ex_a128.keep K136
            replace Fc_a128 := Fc_a128.keep K136 nin0
            replace Fv_a128 := Fv_a128.keep K136 nin0
            replace Va_b128 := Va_b128.keep K136 nin0
            show own_GoW p e below s _ _ _ _ (T136.setTop (mkF m 158 #[iv p1, .val (.long p2), .second, iv p3, iv kd, iv sh, iv ps, iv c1, iv c2, rv b97, .val .null, .val .null, .unset] [(.ref o_TIERED)]))
            obtain ⟨T137, X137, e137, st137⟩ := getS2 X136 hx hZ hown (host := "") (Or.inl (hw _ (List.mem_of_getElem? (i := 78) rfl))) Via.refl rfl (S_o_TIERED.ext O.2) (g := (mkF m 158 #[iv p1, .val (.long p2), .second, iv p3, iv kd, iv sh, iv ps, iv c1, iv c2, rv b97, .val .null, .val .null, .unset] [(.ref o_TIERED)])) rfl (hb hby at_158)
            refine own_goW st137 ?_
            show own_GoW p e below s _ _ _ _ (T137.setTop (mkF m 161 #[iv p1, .val (.long p2), .second, iv p3, iv kd, iv sh, iv ps, iv c1, iv c2, rv b97, .val .null, .val .null, .unset] [(.ref o_TIERED), (.ref o_TIERED)]))
            refine own_goW (fun zt zk => Jvm.RoadKit.acmp (g := (mkF m 161 #[iv p1, .val (.long p2), .second, iv p3, iv kd, iv sh, iv ps, iv c1, iv c2, rv b97, .val .null, .val .null, .unset] [(.ref o_TIERED), (.ref o_TIERED)])) X137 hx rfl rfl rfl (pc0 := 161) (pc' := 164) (same := true) rfl (hb hby at_161) rfl (decide_eq_true rfl) (by decide) (by decide) zk) ?_
            show own_GoW p e below s _ _ _ _ (T137.setTop (mkF m 164 #[iv p1, .val (.long p2), .second, iv p3, iv kd, iv sh, iv ps, iv c1, iv c2, rv b97, .val .null, .val .null, .unset] []))
            refine own_goW (fun zt zk => (XS.iconst X137.here hx rfl (hb hby at_164) (XS.goto X137.here hx rfl (pc0 := 165) (pc' := 169) rfl (hb hby at_165) (by decide) (by decide) (XS.istore X137.here hx rfl (hb hby at_169) rfl (l' := #[iv p1, .val (.long p2), .second, iv p3, iv kd, iv sh, iv ps, iv c1, iv c2, rv b97, .val .null, .val .null, iv (1 : Int32)]) rfl (XS.aload X137.here hx rfl (hb hby at_171) rfl rfl (XS.aload X137.here hx rfl (hb hby at_173) rfl rfl zk)))))) ?_
            show own_GoW p e below s _ _ _ _ (T137.setTop (mkF m 175 #[iv p1, .val (.long p2), .second, iv p3, iv kd, iv sh, iv ps, iv c1, iv c2, rv b97, .val .null, .val .null, iv (1 : Int32)] [.null, .null]))
            refine own_goW (fun zt zk => Jvm.RoadKit.acmp (g := (mkF m 175 #[iv p1, .val (.long p2), .second, iv p3, iv kd, iv sh, iv ps, iv c1, iv c2, rv b97, .val .null, .val .null, iv (1 : Int32)] [.null, .null])) X137 hx rfl rfl rfl (pc0 := 175) (pc' := 178) (same := true) rfl (hb hby at_175) rfl (decide_eq_true rfl) (by decide) (by decide) zk) ?_
            show own_GoW p e below s _ _ _ _ (T137.setTop (mkF m 178 #[iv p1, .val (.long p2), .second, iv p3, iv kd, iv sh, iv ps, iv c1, iv c2, rv b97, .val .null, .val .null, iv (1 : Int32)] []))
            refine own_goW (fun zt zk => (XS.iload X137.here hx rfl (hb hby at_178) rfl (XS.ifNo X137.here hx rfl (hb hby at_180) rfl ((if0 _ _).trans (feq ((by decide) : ¬ ((1 : Int32) = (0 : Int32)))).1) (XS.iconst X137.here hx rfl (hb hby at_183) (XS.goto X137.here hx rfl (pc0 := 184) (pc' := 188) rfl (hb hby at_184) (by decide) (by decide) zk))))) ?_
            show own_GoW p e below s _ _ _ _ (T137.setTop (mkF m 188 #[iv p1, .val (.long p2), .second, iv p3, iv kd, iv sh, iv ps, iv c1, iv c2, rv b97, .val .null, .val .null, iv (1 : Int32)] [(.int (1 : Int32))]))
            have Re := Rc.trans (CHv.at X137 hZ hEL Rc.1)
            exact own_finW X137 hS (by rw [e137]; exact hk) (by rw [e137, hh]; exact Re) Bd.notSynchronized (fun h => by rw [Bd.returns] at h; cases h) (fun fs hr => retN X137 hx (t := .boolean) Bd.returns (by simp) (hb hby at_188) hr) (by rw [e137]; exact ⟨rfl, N136⟩) (by decide) (by decide)
      · obtain ⟨_, _, ⟨T138, L138, k138, n138⟩, -, X138, ⟨Lc138, hQ138, l138, y138, z138⟩, st138⟩ := X97.specialBack hx (y := (⟨"java/lang/String", "<init>", "([C)V"⟩ : MethodName)) rfl hown (mvT hZ (hw _ (List.mem_of_getElem? (i := 8) rfl))) (mvT hZ (hw _ (List.mem_of_getElem? (i := 9) rfl))) (mvT hZ (hw _ (List.mem_of_getElem? (i := 10) rfl))) (by decide) (StrChars.Road.backV (W := 1) hZ (own_hnew Z a0 hw) (kI := 4) (hw _ (List.mem_of_getElem? (i := 6) rfl)) (cs := cs12) (bs := cs12.map (fun c => c.toInt8.toInt32)) (n := cs12.length) g_b97 (Nat.le_trans Z0 Kp.1) Ex_b97 F_value_b97 F_coder_b97 V_b12 (S_o_COMPACT_STRINGS.ext O.2) nz_o_COMPACT_STRINGS rfl rfl (Nat.pos_of_ne_zero hz) (Nat.le_trans hlen12 (by decide)) hcr12 rfl (by decide) (by decide)) (g := (mkF m 81 #[iv p1, .val (.long p2), .second, iv p3, iv kd, iv sh, iv ps, iv c1, iv c2, .val .null, rv b12, .unset, .unset] [(.ref b12), (.ref b97), (.ref b97)])) rfl (by rw [hml]; rfl) (Steps.refl _) (a := b97) (argsL := [(.ref b12)]) (rest := [(.ref b97)]) (lenOf own_pd___C_V rfl) rfl (by show 2 * 0 + _ ≤ _; exact Nat.le_of_eq rfl) (hb hby at_81) (fun _ _ => ⟨rfl, e97, (by decide : 2 + 1 ≤ _), Nat.le_trans (Nat.add_le_add_left hlen12 _) (by decide : 12 + 8 ≤ _)⟩)
        dsimp only [Pt.U, Pt.locs, Pt.cells, Pt.slots] at X138 l138 y138 z138 st138 hQ138
        subst l138 y138 z138
        replace X138 := X138.mono (Nat.le_refl _) (Nat.add_le_add_left hlen12 12)
        obtain ⟨rfl, Nq138, K138, -, Fc138, t138, kb138, -, sz138, -, Fv138, Vt138⟩ := hQ138
        have N138 := Fr.app N12 Nq138
        refine own_goW (fun zt zk => st138.trans zk) ?_
        have Sf_b97' := Safe.keep K138 (allS Sf_b97 all0) Rc.1 Sf_b97
        replace Rc := Rc.trans (CHr.keep K138 (allS Sf_b97 all0) Rc.1)
        replace hk := Nat.le_trans hk K138.1
        replace Sf_b97 := Sf_b97'
        replace O := O.keep K138 (allS g_b97 all0)
        replace Kp := Kp.trans K138 (allS (Or.inr sz_b97) all0)
        replace V_b12 := V_b12.keep K138 (ninS ne_b12_b97 nin0)
        replace Ex_b97 := Ex_b97.keep K138
        show own_GoW p e below s _ _ _ _ (T138.setTop (mkF m 84 #[iv p1, .val (.long p2), .second, iv p3, iv kd, iv sh, iv ps, iv c1, iv c2, .val .null, rv b12, .unset, .unset] [(.ref b97)]))
        have hxl : (Int32.ofNat cs12.length).toNatClampNeg = (cs12.map (fun c => c.toInt8.toInt32)).length := by rw [List.length_map]; exact (own_ofNat (by omega)).2
        refine own_goW (fun zt zk => (XS.astore X138.here hx rfl (hb hby at_84) rfl rfl (l' := #[iv p1, .val (.long p2), .second, iv p3, iv kd, iv sh, iv ps, iv c1, iv c2, rv b97, rv b12, .unset, .unset]) rfl (XS.aload X138.here hx rfl (hb hby at_86) rfl rfl zk))) ?_
        show own_GoW p e below s _ _ _ _ (T138.setTop (mkF m 88 #[iv p1, .val (.long p2), .second, iv p3, iv kd, iv sh, iv ps, iv c1, iv c2, rv b97, rv b12, .unset, .unset] [(.ref b97)]))
        by_cases hC : [(99 : Int32), (108 : Int32), (97 : Int32), (115 : Int32), (115 : Int32), (105 : Int32), (99 : Int32)] = (cs12.map (fun c => c.toInt8.toInt32))
        · obtain ⟨_, _, ⟨T139, L139, k139, n139⟩, -, X139, ⟨Lc139, hQ139, l139, y139, z139⟩, st139⟩ := Jvm.LawKit.callS X138 hx (y := (⟨"com/example/riskscan/riskscan/model/Profile", "ofCode", "(Ljava/lang/String;)Lcom/example/riskscan/riskscan/model/Profile;"⟩ : MethodName)) hown (mvT hZ (hw _ (List.mem_of_getElem? (i := 34) rfl))) (mvT hZ (hw _ (List.mem_of_getElem? (i := 35) rfl))) (mvT hZ (hw _ (List.mem_of_getElem? (i := 36) rfl))) (mvT hZ (hw _ (List.mem_of_getElem? (i := 37) rfl))) (by decide) (backOf (W := 0) (own_rof0 l Z a0 hw [] b97 t138 kb138 (Int32.ofNat cs12.length) (cs12.map (fun c => c.toInt8.toInt32)) o_COMPACT_STRINGS o__VALUES k_o__VALUES o_CLASSIC o_CLASSIC_code o_CLASSIC_code_value k_o_CLASSIC_code_value o_TIERED o_TIERED_code o_TIERED_code_value k_o_TIERED_code_value T138.heap n0 (Nat.le_trans Z0 Kp.1) O S_o_COMPACT_STRINGS S_o__VALUES V_o__VALUES Ex_o__VALUES Ex_o_CLASSIC F_o_CLASSIC_code Ex_o_CLASSIC_code F_o_CLASSIC_code_coder F_o_CLASSIC_code_value V_o_CLASSIC_code_value Ex_o_TIERED F_o_TIERED_code Ex_o_TIERED_code F_o_TIERED_code_coder F_o_TIERED_code_value V_o_TIERED_code_value Ex_b97 Fv138 Fc138 Vt138 nz_o_COMPACT_STRINGS hxl hC) hZ (hw _ (List.mem_of_getElem? (i := 37) rfl)) (hw _ (List.mem_of_getElem? (i := 36) rfl)) (by decide) (by decide)) (g := (mkF m 88 #[iv p1, .val (.long p2), .second, iv p3, iv kd, iv sh, iv ps, iv c1, iv c2, rv b97, rv b12, .unset, .unset] [(.ref b97)])) rfl (by rw [hml]; rfl) (argsL := [(.ref b97)]) (rest := []) (lenOf own_pd__Ljava_lang_String__Lcom_example_riskscan_riskscan_model_Profile_ rfl) rfl (by show 2 * 0 + _ ≤ _; exact Nat.le_of_eq rfl) (hb hby at_88) (fun _ _ => ⟨rfl, rfl, (by decide : 3 + 1 ≤ _), (by decide : 20 + 2 ≤ _)⟩)
          dsimp only [Pt.U, Pt.locs, Pt.cells, Pt.slots] at X139 l139 y139 z139 st139 hQ139
          subst l139 y139 z139
          obtain ⟨rfl, Nq139, K139⟩ := hQ139
          have N139 := Fr.app N138 Nq139
          refine own_goW st139 ?_
          have Sf_b97' := Safe.keep K139 all0 Rc.1 Sf_b97
          replace Rc := Rc.trans (CHr.keep K139 all0 Rc.1)
          replace hk := Nat.le_trans hk K139.1
          replace Sf_b97 := Sf_b97'
          replace O := O.keep K139 all0
          replace Kp := Kp.trans K139 all0
          replace V_b12 := V_b12.keep K139 nin0
          replace Ex_b97 := Ex_b97.keep K139
          replace Fc138 := Fc138.keep K139 nin0
          replace Fv138 := Fv138.keep K139 nin0
          replace Vt138 := Vt138.keep K139 nin0
          show own_GoW p e below s _ _ _ _ (T139.setTop (mkF m 91 #[iv p1, .val (.long p2), .second, iv p3, iv kd, iv sh, iv ps, iv c1, iv c2, rv b97, rv b12, .unset, .unset] [(.ref o_CLASSIC)]))
          refine own_goW (fun zt zk => (XS.astore X139.here hx rfl (hb hby at_91) rfl rfl (l' := #[iv p1, .val (.long p2), .second, iv p3, iv kd, iv sh, iv ps, iv c1, iv c2, rv b97, rv o_CLASSIC, .unset, .unset]) rfl (XS.aconstNull X139.here hx rfl (hb hby at_93) (XS.astore X139.here hx rfl (hb hby at_94) rfl rfl (l' := #[iv p1, .val (.long p2), .second, iv p3, iv kd, iv sh, iv ps, iv c1, iv c2, rv b97, rv o_CLASSIC, .val .null, .unset]) rfl (XS.aload X139.here hx rfl (hb hby at_96) rfl rfl (XS.ifnullNo X139.here hx rfl (hb hby at_98) rfl (XS.aload X139.here hx rfl (hb hby at_101) rfl rfl zk))))))) ?_
          show own_GoW p e below s _ _ _ _ (T139.setTop (mkF m 103 #[iv p1, .val (.long p2), .second, iv p3, iv kd, iv sh, iv ps, iv c1, iv c2, rv b97, rv o_CLASSIC, .val .null, .unset] [(.ref b97)]))
          obtain ⟨a140, T140, h140, q140, b140, k140, X140, e140, E140, hS140, hk140, hZ140, hown140, Ex_a140, Fc_a140, Fv_a140, Va_b140, lta140, ltb140, A140, Li140, Sn140, st140⟩ := ldcCH X139 hx hZ hown (hw _ (List.mem_of_getElem? (i := 67) rfl)) wS rfl hS hk hEL (by decide +kernel) Rc.1 (vs := [(.int (99 : Int32)), (.int (108 : Int32)), (.int (97 : Int32)), (.int (115 : Int32)), (.int (115 : Int32)), (.int (105 : Int32)), (.int (99 : Int32))]) (z := (7 : Int32)) ⟨by decide +kernel, by decide +kernel⟩ (by decide) rfl (g := (mkF m 103 #[iv p1, .val (.long p2), .second, iv p3, iv kd, iv sh, iv ps, iv c1, iv c2, rv b97, rv o_CLASSIC, .val .null, .unset] [(.ref b97)])) rfl (hb hby at_103) (n := 28) (by decide +kernel) (by decide) (by decide) (by decide)
          replace Sf_b97 := CHr.safe A140 Ex_b97.lt Sf_b97
          replace O := O.ext E140
          replace Kp := Kp.ext E140
          replace V_b12 := V_b12.ext E140
          replace Ex_b97 := Ex_b97.ext E140
          replace Fc138 := Fc138.ext E140
          replace Fv138 := Fv138.ext E140
          replace Vt138 := Vt138.ext E140
          replace Rc := Rc.trans A140
          replace hS := hS140
          replace hk := hk140
          replace hZ := hZ140
          replace hown := hown140
          refine own_goW st140 ?_
          have ne_b97_a140 := (Sn140 b97 Sf_b97).1
          have ne_b97_b140 := (Sn140 b97 Sf_b97).2
          show own_GoW p e below s _ _ _ _ (T140.setTop (mkF m 105 #[iv p1, .val (.long p2), .second, iv p3, iv kd, iv sh, iv ps, iv c1, iv c2, rv b97, rv o_CLASSIC, .val .null, .unset] [(.ref a140), (.ref b97)]))
          obtain ⟨cq141, kq141, qa141, qb141, qc141⟩ := isOf hZ e140 Ex_b97
          obtain ⟨_, _, ⟨T141, L141, k141, n141⟩, -, X141, ⟨Lc141, hQ141, l141, y141, z141⟩, st141⟩ := X140.virtualBack hx (y := (⟨"java/lang/String", "equals", "(Ljava/lang/Object;)Z"⟩ : MethodName)) (z := (⟨"java/lang/String", "equals", "(Ljava/lang/Object;)Z"⟩ : MethodName)) hown (mvT hZ (hw _ (List.mem_of_getElem? (i := 70) rfl))) (mvT hZ (hw _ (List.mem_of_getElem? (i := 58) rfl))) (notFace_of_selects (args := #[]) (mvT hZ (hw _ (List.mem_of_getElem? (i := 60) rfl)))) (mvT hZ (hw _ (List.mem_of_getElem? (i := 60) rfl))) (mvT hZ (hw _ (List.mem_of_getElem? (i := 59) rfl))) (by decide) (backOf (W := 0) (own_req l Z a0 hw [] b97 a140 o_COMPACT_STRINGS t138 b140 kb138 k140 (Int32.ofNat cs12.length) (7 : Int32) (cs12.map (fun c => c.toInt8.toInt32)) [(99 : Int32), (108 : Int32), (97 : Int32), (115 : Int32), (115 : Int32), (105 : Int32), (99 : Int32)] h140 n0 (Nat.le_trans Z0 Kp.1) O S_o_COMPACT_STRINGS Ex_b97 Fv138 Fc138 Vt138 Ex_a140 Fv_a140 Fc_a140 Va_b140 nz_o_COMPACT_STRINGS hxl rfl) hZ (hw _ (List.mem_of_getElem? (i := 61) rfl)) (hw _ (List.mem_of_getElem? (i := 7) rfl)) (by decide) (by decide)) qa141 qc141 (g := (mkF m 105 #[iv p1, .val (.long p2), .second, iv p3, iv kd, iv sh, iv ps, iv c1, iv c2, rv b97, rv o_CLASSIC, .val .null, .unset] [(.ref a140), (.ref b97)])) rfl (by rw [hml]; rfl) (Steps.refl _) (argsL := [(.ref a140)]) (rest := []) (lenOf own_pd__Ljava_lang_Object__Z rfl) rfl (by show 2 * 0 + _ ≤ _; exact Nat.le_of_eq rfl) (hb hby at_105) (fun _ _ => ⟨rfl, e140, (by decide : 6 + 0 ≤ _), (by decide : 54 + 0 ≤ _)⟩)
          dsimp only [Pt.U, Pt.locs, Pt.cells, Pt.slots] at X141 l141 y141 z141 st141 hQ141
          subst l141 y141 z141
          obtain ⟨hv141, Nq141, e141⟩ := hQ141
          rw [show own_eqv _ _ = (1 : Int32) from if_pos hC.symm] at hv141
          subst hv141
          have N141 := Fr.app N139 Nq141
          refine own_goW (fun zt zk => st141.trans zk) ?_
          show own_GoW p e below s _ _ _ _ (T141.setTop (mkF m 108 #[iv p1, .val (.long p2), .second, iv p3, iv kd, iv sh, iv ps, iv c1, iv c2, rv b97, rv o_CLASSIC, .val .null, .unset] [(.int (1 : Int32))]))
          refine own_goW (fun zt zk => (XS.ifNo X141.here hx rfl (hb hby at_108) rfl ((if0 _ _).trans (feq ((by decide) : ¬ ((1 : Int32) = (0 : Int32)))).1) zk)) ?_
          show own_GoW p e below s _ _ _ _ (T141.setTop (mkF m 111 #[iv p1, .val (.long p2), .second, iv p3, iv kd, iv sh, iv ps, iv c1, iv c2, rv b97, rv o_CLASSIC, .val .null, .unset] []))
          obtain ⟨T142, X142, e142, st142⟩ := getS2 X141 hx hZ hown (host := "") (Or.inl (hw _ (List.mem_of_getElem? (i := 72) rfl))) Via.refl e141 (S_o_CLASSIC.ext O.2) (g := (mkF m 111 #[iv p1, .val (.long p2), .second, iv p3, iv kd, iv sh, iv ps, iv c1, iv c2, rv b97, rv o_CLASSIC, .val .null, .unset] [])) rfl (hb hby at_111)
          refine own_goW st142 ?_
          show own_GoW p e below s _ _ _ _ (T142.setTop (mkF m 114 #[iv p1, .val (.long p2), .second, iv p3, iv kd, iv sh, iv ps, iv c1, iv c2, rv b97, rv o_CLASSIC, .val .null, .unset] [(.ref o_CLASSIC)]))
          refine own_goW (fun zt zk => (XS.astore X142.here hx rfl (hb hby at_114) rfl rfl (l' := #[iv p1, .val (.long p2), .second, iv p3, iv kd, iv sh, iv ps, iv c1, iv c2, rv b97, rv o_CLASSIC, rv o_CLASSIC, .unset]) rfl (XS.goto X142.here hx rfl (pc0 := 116) (pc' := 134) rfl (hb hby at_116) (by decide) (by decide) zk))) ?_
          show own_GoW p e below s _ _ _ _ (T142.setTop (mkF m 134 #[iv p1, .val (.long p2), .second, iv p3, iv kd, iv sh, iv ps, iv c1, iv c2, rv b97, rv o_CLASSIC, rv o_CLASSIC, .unset] []))
          obtain ⟨T143, X143, e143, st143⟩ := getS2 X142 hx hZ hown (host := "") (Or.inl (hw _ (List.mem_of_getElem? (i := 72) rfl))) Via.refl e142 (S_o_CLASSIC.ext O.2) (g := (mkF m 134 #[iv p1, .val (.long p2), .second, iv p3, iv kd, iv sh, iv ps, iv c1, iv c2, rv b97, rv o_CLASSIC, rv o_CLASSIC, .unset] [])) rfl (hb hby at_134)
          refine own_goW st143 ?_
          show own_GoW p e below s _ _ _ _ (T143.setTop (mkF m 137 #[iv p1, .val (.long p2), .second, iv p3, iv kd, iv sh, iv ps, iv c1, iv c2, rv b97, rv o_CLASSIC, rv o_CLASSIC, .unset] [(.ref o_CLASSIC)]))
          obtain ⟨cq144, kq144, qa144, qb144, qc144⟩ := isOf hZ e143 (Ex_o_CLASSIC.ext O.2)
          obtain ⟨_, _, ⟨T144, L144, k144, n144⟩, -, X144, ⟨Lc144, hQ144, l144, y144, z144⟩, st144⟩ := X143.virtualBack hx (y := (⟨"com/example/riskscan/riskscan/model/Profile", "code", "()Ljava/lang/String;"⟩ : MethodName)) (z := (⟨"com/example/riskscan/riskscan/model/Profile", "code", "()Ljava/lang/String;"⟩ : MethodName)) hown (mvT hZ (hw _ (List.mem_of_getElem? (i := 73) rfl))) (mvT hZ (hw _ (List.mem_of_getElem? (i := 74) rfl))) (notFace_of_selects (args := #[]) (mvT hZ (hw _ (List.mem_of_getElem? (i := 76) rfl)))) (mvT hZ (hw _ (List.mem_of_getElem? (i := 76) rfl))) (mvT hZ (hw _ (List.mem_of_getElem? (i := 75) rfl))) (by decide) (backOf (W := 0) (own_gcode l Z a0 hw [] o_CLASSIC o_CLASSIC_code h140 n0 (Nat.le_trans Z0 Kp.1) (F_o_CLASSIC_code.ext O.2)) hZ (hw _ (List.mem_of_getElem? (i := 77) rfl)) (hw _ (List.mem_of_getElem? (i := 36) rfl)) (by decide) (by decide)) qa144 qc144 (g := (mkF m 137 #[iv p1, .val (.long p2), .second, iv p3, iv kd, iv sh, iv ps, iv c1, iv c2, rv b97, rv o_CLASSIC, rv o_CLASSIC, .unset] [(.ref o_CLASSIC)])) rfl (by rw [hml]; rfl) (Steps.refl _) (argsL := []) (rest := []) (lenOf own_pd___Ljava_lang_String_ rfl) rfl (by show 2 * 0 + _ ≤ _; exact Nat.le_of_eq rfl) (hb hby at_137) (fun _ _ => ⟨rfl, e143, (by decide : 6 + 0 ≤ _), (by decide : 54 + 0 ≤ _)⟩)
          dsimp only [Pt.U, Pt.locs, Pt.cells, Pt.slots] at X144 l144 y144 z144 st144 hQ144
          subst l144 y144 z144
          obtain ⟨rfl, Nq144, e144⟩ := hQ144
          have N144 := Fr.app N141 Nq144
          refine own_goW (fun zt zk => st144.trans zk) ?_
          show own_GoW p e below s _ _ _ _ (T144.setTop (mkF m 140 #[iv p1, .val (.long p2), .second, iv p3, iv kd, iv sh, iv ps, iv c1, iv c2, rv b97, rv o_CLASSIC, rv o_CLASSIC, .unset] [(.ref o_CLASSIC_code)]))
          obtain ⟨_, _, ⟨T145, L145, k145, n145⟩, -, X145, ⟨Lc145, hQ145, l145, y145, z145⟩, st145⟩ := Jvm.LawKit.callS X144 hx (y := (⟨"com/example/riskscan/riskscan/model/Profile", "ofCode", "(Ljava/lang/String;)Lcom/example/riskscan/riskscan/model/Profile;"⟩ : MethodName)) hown (mvT hZ (hw _ (List.mem_of_getElem? (i := 34) rfl))) (mvT hZ (hw _ (List.mem_of_getElem? (i := 35) rfl))) (mvT hZ (hw _ (List.mem_of_getElem? (i := 36) rfl))) (mvT hZ (hw _ (List.mem_of_getElem? (i := 37) rfl))) (by decide) (backOf (W := 0) (own_rof0 l Z a0 hw [] o_CLASSIC_code o_CLASSIC_code_value k_o_CLASSIC_code_value (7 : Int32) [(99 : Int32), (108 : Int32), (97 : Int32), (115 : Int32), (115 : Int32), (105 : Int32), (99 : Int32)] o_COMPACT_STRINGS o__VALUES k_o__VALUES o_CLASSIC o_CLASSIC_code o_CLASSIC_code_value k_o_CLASSIC_code_value o_TIERED o_TIERED_code o_TIERED_code_value k_o_TIERED_code_value h140 n0 (Nat.le_trans Z0 Kp.1) O S_o_COMPACT_STRINGS S_o__VALUES V_o__VALUES Ex_o__VALUES Ex_o_CLASSIC F_o_CLASSIC_code Ex_o_CLASSIC_code F_o_CLASSIC_code_coder F_o_CLASSIC_code_value V_o_CLASSIC_code_value Ex_o_TIERED F_o_TIERED_code Ex_o_TIERED_code F_o_TIERED_code_coder F_o_TIERED_code_value V_o_TIERED_code_value (Ex_o_CLASSIC_code.ext O.2) (F_o_CLASSIC_code_value.ext O.2) (F_o_CLASSIC_code_coder.ext O.2) (V_o_CLASSIC_code_value.ext O.2) nz_o_COMPACT_STRINGS rfl rfl) hZ (hw _ (List.mem_of_getElem? (i := 37) rfl)) (hw _ (List.mem_of_getElem? (i := 36) rfl)) (by decide) (by decide)) (g := (mkF m 140 #[iv p1, .val (.long p2), .second, iv p3, iv kd, iv sh, iv ps, iv c1, iv c2, rv b97, rv o_CLASSIC, rv o_CLASSIC, .unset] [(.ref o_CLASSIC_code)])) rfl (by rw [hml]; rfl) (argsL := [(.ref o_CLASSIC_code)]) (rest := []) (lenOf own_pd__Ljava_lang_String__Lcom_example_riskscan_riskscan_model_Profile_ rfl) rfl (by show 2 * 0 + _ ≤ _; exact Nat.le_of_eq rfl) (hb hby at_140) (fun _ _ => ⟨rfl, e144, (by decide : 6 + 1 ≤ _), (by decide : 54 + 2 ≤ _)⟩)
          dsimp only [Pt.U, Pt.locs, Pt.cells, Pt.slots] at X145 l145 y145 z145 st145 hQ145
          subst l145 y145 z145
          obtain ⟨rfl, Nq145, K145⟩ := hQ145
          have N145 := Fr.app N144 Nq145
          refine own_goW st145 ?_
          have Sf_b97' := Safe.keep K145 all0 Rc.1 Sf_b97
          replace Rc := Rc.trans (CHr.keep K145 all0 Rc.1)
          replace hk := Nat.le_trans hk K145.1
          replace Sf_b97 := Sf_b97'
          replace O := O.keep K145 all0
          replace Kp := Kp.trans K145 all0
          replace V_b12 := V_b12.keep K145 nin0
          replace Ex_b97 := Ex_b97.keep K145
          replace Fc138 := Fc138.keep K145 nin0
          replace Fv138 := Fv138.keep K145 nin0
          replace Vt138 := Vt138.keep K145 nin0
          replace Ex_a140 := Ex_a140.keep K145
          replace Fc_a140 := Fc_a140.keep K145 nin0
          replace Fv_a140 := Fv_a140.keep K145 nin0
          replace Va_b140 := Va_b140.keep K145 nin0
          show own_GoW p e below s _ _ _ _ (T145.setTop (mkF m 143 #[iv p1, .val (.long p2), .second, iv p3, iv kd, iv sh, iv ps, iv c1, iv c2, rv b97, rv o_CLASSIC, rv o_CLASSIC, .unset] [(.ref o_CLASSIC)]))
          obtain ⟨T146, X146, e146, st146⟩ := getS2 X145 hx hZ hown (host := "") (Or.inl (hw _ (List.mem_of_getElem? (i := 72) rfl))) Via.refl rfl (S_o_CLASSIC.ext O.2) (g := (mkF m 143 #[iv p1, .val (.long p2), .second, iv p3, iv kd, iv sh, iv ps, iv c1, iv c2, rv b97, rv o_CLASSIC, rv o_CLASSIC, .unset] [(.ref o_CLASSIC)])) rfl (hb hby at_143)
          refine own_goW st146 ?_
          show own_GoW p e below s _ _ _ _ (T146.setTop (mkF m 146 #[iv p1, .val (.long p2), .second, iv p3, iv kd, iv sh, iv ps, iv c1, iv c2, rv b97, rv o_CLASSIC, rv o_CLASSIC, .unset] [(.ref o_CLASSIC), (.ref o_CLASSIC)]))
          refine own_goW (fun zt zk => Jvm.RoadKit.acmp (g := (mkF m 146 #[iv p1, .val (.long p2), .second, iv p3, iv kd, iv sh, iv ps, iv c1, iv c2, rv b97, rv o_CLASSIC, rv o_CLASSIC, .unset] [(.ref o_CLASSIC), (.ref o_CLASSIC)])) X146 hx rfl rfl rfl (pc0 := 146) (pc' := 149) (same := true) rfl (hb hby at_146) rfl (decide_eq_true rfl) (by decide) (by decide) zk) ?_
          show own_GoW p e below s _ _ _ _ (T146.setTop (mkF m 149 #[iv p1, .val (.long p2), .second, iv p3, iv kd, iv sh, iv ps, iv c1, iv c2, rv b97, rv o_CLASSIC, rv o_CLASSIC, .unset] []))
          obtain ⟨T147, X147, e147, st147⟩ := getS2 X146 hx hZ hown (host := "") (Or.inl (hw _ (List.mem_of_getElem? (i := 78) rfl))) Via.refl e146 (S_o_TIERED.ext O.2) (g := (mkF m 149 #[iv p1, .val (.long p2), .second, iv p3, iv kd, iv sh, iv ps, iv c1, iv c2, rv b97, rv o_CLASSIC, rv o_CLASSIC, .unset] [])) rfl (hb hby at_149)
          refine own_goW st147 ?_
          show own_GoW p e below s _ _ _ _ (T147.setTop (mkF m 152 #[iv p1, .val (.long p2), .second, iv p3, iv kd, iv sh, iv ps, iv c1, iv c2, rv b97, rv o_CLASSIC, rv o_CLASSIC, .unset] [(.ref o_TIERED)]))
          obtain ⟨cq148, kq148, qa148, qb148, qc148⟩ := isOf hZ e147 (Ex_o_TIERED.ext O.2)
          obtain ⟨_, _, ⟨T148, L148, k148, n148⟩, -, X148, ⟨Lc148, hQ148, l148, y148, z148⟩, st148⟩ := X147.virtualBack hx (y := (⟨"com/example/riskscan/riskscan/model/Profile", "code", "()Ljava/lang/String;"⟩ : MethodName)) (z := (⟨"com/example/riskscan/riskscan/model/Profile", "code", "()Ljava/lang/String;"⟩ : MethodName)) hown (mvT hZ (hw _ (List.mem_of_getElem? (i := 73) rfl))) (mvT hZ (hw _ (List.mem_of_getElem? (i := 74) rfl))) (notFace_of_selects (args := #[]) (mvT hZ (hw _ (List.mem_of_getElem? (i := 76) rfl)))) (mvT hZ (hw _ (List.mem_of_getElem? (i := 76) rfl))) (mvT hZ (hw _ (List.mem_of_getElem? (i := 75) rfl))) (by decide) (backOf (W := 0) (own_gcode l Z a0 hw [] o_TIERED o_TIERED_code T145.heap n0 (Nat.le_trans Z0 Kp.1) (F_o_TIERED_code.ext O.2)) hZ (hw _ (List.mem_of_getElem? (i := 77) rfl)) (hw _ (List.mem_of_getElem? (i := 36) rfl)) (by decide) (by decide)) qa148 qc148 (g := (mkF m 152 #[iv p1, .val (.long p2), .second, iv p3, iv kd, iv sh, iv ps, iv c1, iv c2, rv b97, rv o_CLASSIC, rv o_CLASSIC, .unset] [(.ref o_TIERED)])) rfl (by rw [hml]; rfl) (Steps.refl _) (argsL := []) (rest := []) (lenOf own_pd___Ljava_lang_String_ rfl) rfl (by show 2 * 0 + _ ≤ _; exact Nat.le_of_eq rfl) (hb hby at_152) (fun _ _ => ⟨rfl, e147, (by decide : 7 + 0 ≤ _), (by decide : 56 + 0 ≤ _)⟩)
          dsimp only [Pt.U, Pt.locs, Pt.cells, Pt.slots] at X148 l148 y148 z148 st148 hQ148
          subst l148 y148 z148
          obtain ⟨rfl, Nq148, e148⟩ := hQ148
          have N148 := Fr.app N145 Nq148
          refine own_goW (fun zt zk => st148.trans zk) ?_
          show own_GoW p e below s _ _ _ _ (T148.setTop (mkF m 155 #[iv p1, .val (.long p2), .second, iv p3, iv kd, iv sh, iv ps, iv c1, iv c2, rv b97, rv o_CLASSIC, rv o_CLASSIC, .unset] [(.ref o_TIERED_code)]))
          obtain ⟨_, _, ⟨T149, L149, k149, n149⟩, -, X149, ⟨Lc149, hQ149, l149, y149, z149⟩, st149⟩ := Jvm.LawKit.callS X148 hx (y := (⟨"com/example/riskscan/riskscan/model/Profile", "ofCode", "(Ljava/lang/String;)Lcom/example/riskscan/riskscan/model/Profile;"⟩ : MethodName)) hown (mvT hZ (hw _ (List.mem_of_getElem? (i := 34) rfl))) (mvT hZ (hw _ (List.mem_of_getElem? (i := 35) rfl))) (mvT hZ (hw _ (List.mem_of_getElem? (i := 36) rfl))) (mvT hZ (hw _ (List.mem_of_getElem? (i := 37) rfl))) (by decide) (backOf (W := 0) (own_rof1 l Z a0 hw [] o_TIERED_code o_TIERED_code_value k_o_TIERED_code_value (6 : Int32) [(116 : Int32), (105 : Int32), (101 : Int32), (114 : Int32), (101 : Int32), (100 : Int32)] o_COMPACT_STRINGS o__VALUES k_o__VALUES o_CLASSIC o_CLASSIC_code o_CLASSIC_code_value k_o_CLASSIC_code_value o_TIERED o_TIERED_code o_TIERED_code_value k_o_TIERED_code_value T145.heap n0 (Nat.le_trans Z0 Kp.1) O S_o_COMPACT_STRINGS S_o__VALUES V_o__VALUES Ex_o__VALUES Ex_o_CLASSIC F_o_CLASSIC_code Ex_o_CLASSIC_code F_o_CLASSIC_code_coder F_o_CLASSIC_code_value V_o_CLASSIC_code_value Ex_o_TIERED F_o_TIERED_code Ex_o_TIERED_code F_o_TIERED_code_coder F_o_TIERED_code_value V_o_TIERED_code_value (Ex_o_TIERED_code.ext O.2) (F_o_TIERED_code_value.ext O.2) (F_o_TIERED_code_coder.ext O.2) (V_o_TIERED_code_value.ext O.2) nz_o_COMPACT_STRINGS rfl (by decide) rfl) hZ (hw _ (List.mem_of_getElem? (i := 37) rfl)) (hw _ (List.mem_of_getElem? (i := 36) rfl)) (by decide) (by decide)) (g := (mkF m 155 #[iv p1, .val (.long p2), .second, iv p3, iv kd, iv sh, iv ps, iv c1, iv c2, rv b97, rv o_CLASSIC, rv o_CLASSIC, .unset] [(.ref o_TIERED_code)])) rfl (by rw [hml]; rfl) (argsL := [(.ref o_TIERED_code)]) (rest := []) (lenOf own_pd__Ljava_lang_String__Lcom_example_riskscan_riskscan_model_Profile_ rfl) rfl (by show 2 * 0 + _ ≤ _; exact Nat.le_of_eq rfl) (hb hby at_155) (fun _ _ => ⟨rfl, e148, (by decide : 7 + 1 ≤ _), (by decide : 56 + 2 ≤ _)⟩)
          dsimp only [Pt.U, Pt.locs, Pt.cells, Pt.slots] at X149 l149 y149 z149 st149 hQ149
          subst l149 y149 z149
          obtain ⟨rfl, Nq149, K149⟩ := hQ149
          have N149 := Fr.app N148 Nq149
          refine own_goW st149 ?_
          have Sf_b97' := Safe.keep K149 all0 Rc.1 Sf_b97
          replace Rc := Rc.trans (CHr.keep K149 all0 Rc.1)
          replace hk := Nat.le_trans hk K149.1
          replace Sf_b97 := Sf_b97'
          replace O := O.keep K149 all0
          replace Kp := Kp.trans K149 all0
          replace V_b12 := V_b12.keep K149 nin0
          replace Ex_b97 := Ex_b97.keep K149
          replace Fc138 := Fc138.keep K149 nin0
          replace Fv138 := Fv138.keep K149 nin0
          replace Vt138 := Vt138.keep K149 nin0
          replace Ex_a140 := Ex_a140.keep K149
          replace Fc_a140 := Fc_a140.keep K149 nin0
          replace Fv_a140 := Fv_a140.keep K149 nin0
          replace Va_b140 := Va_b140.keep K149 nin0
          show own_GoW p e below s _ _ _ _ (T149.setTop (mkF m 158 #[iv p1, .val (.long p2), .second, iv p3, iv kd, iv sh, iv ps, iv c1, iv c2, rv b97, rv o_CLASSIC, rv o_CLASSIC, .unset] [(.ref o_TIERED)]))
          obtain ⟨T150, X150, e150, st150⟩ := getS2 X149 hx hZ hown (host := "") (Or.inl (hw _ (List.mem_of_getElem? (i := 78) rfl))) Via.refl rfl (S_o_TIERED.ext O.2) (g := (mkF m 158 #[iv p1, .val (.long p2), .second, iv p3, iv kd, iv sh, iv ps, iv c1, iv c2, rv b97, rv o_CLASSIC, rv o_CLASSIC, .unset] [(.ref o_TIERED)])) rfl (hb hby at_158)
          refine own_goW st150 ?_
          show own_GoW p e below s _ _ _ _ (T150.setTop (mkF m 161 #[iv p1, .val (.long p2), .second, iv p3, iv kd, iv sh, iv ps, iv c1, iv c2, rv b97, rv o_CLASSIC, rv o_CLASSIC, .unset] [(.ref o_TIERED), (.ref o_TIERED)]))
          refine own_goW (fun zt zk => Jvm.RoadKit.acmp (g := (mkF m 161 #[iv p1, .val (.long p2), .second, iv p3, iv kd, iv sh, iv ps, iv c1, iv c2, rv b97, rv o_CLASSIC, rv o_CLASSIC, .unset] [(.ref o_TIERED), (.ref o_TIERED)])) X150 hx rfl rfl rfl (pc0 := 161) (pc' := 164) (same := true) rfl (hb hby at_161) rfl (decide_eq_true rfl) (by decide) (by decide) zk) ?_
          show own_GoW p e below s _ _ _ _ (T150.setTop (mkF m 164 #[iv p1, .val (.long p2), .second, iv p3, iv kd, iv sh, iv ps, iv c1, iv c2, rv b97, rv o_CLASSIC, rv o_CLASSIC, .unset] []))
          refine own_goW (fun zt zk => (XS.iconst X150.here hx rfl (hb hby at_164) (XS.goto X150.here hx rfl (pc0 := 165) (pc' := 169) rfl (hb hby at_165) (by decide) (by decide) (XS.istore X150.here hx rfl (hb hby at_169) rfl (l' := #[iv p1, .val (.long p2), .second, iv p3, iv kd, iv sh, iv ps, iv c1, iv c2, rv b97, rv o_CLASSIC, rv o_CLASSIC, iv (1 : Int32)]) rfl (XS.aload X150.here hx rfl (hb hby at_171) rfl rfl (XS.aload X150.here hx rfl (hb hby at_173) rfl rfl zk)))))) ?_
          show own_GoW p e below s _ _ _ _ (T150.setTop (mkF m 175 #[iv p1, .val (.long p2), .second, iv p3, iv kd, iv sh, iv ps, iv c1, iv c2, rv b97, rv o_CLASSIC, rv o_CLASSIC, iv (1 : Int32)] [(.ref o_CLASSIC), (.ref o_CLASSIC)]))
          refine own_goW (fun zt zk => Jvm.RoadKit.acmp (g := (mkF m 175 #[iv p1, .val (.long p2), .second, iv p3, iv kd, iv sh, iv ps, iv c1, iv c2, rv b97, rv o_CLASSIC, rv o_CLASSIC, iv (1 : Int32)] [(.ref o_CLASSIC), (.ref o_CLASSIC)])) X150 hx rfl rfl rfl (pc0 := 175) (pc' := 178) (same := true) rfl (hb hby at_175) rfl (decide_eq_true rfl) (by decide) (by decide) zk) ?_
          show own_GoW p e below s _ _ _ _ (T150.setTop (mkF m 178 #[iv p1, .val (.long p2), .second, iv p3, iv kd, iv sh, iv ps, iv c1, iv c2, rv b97, rv o_CLASSIC, rv o_CLASSIC, iv (1 : Int32)] []))
          refine own_goW (fun zt zk => (XS.iload X150.here hx rfl (hb hby at_178) rfl (XS.ifNo X150.here hx rfl (hb hby at_180) rfl ((if0 _ _).trans (feq ((by decide) : ¬ ((1 : Int32) = (0 : Int32)))).1) (XS.iconst X150.here hx rfl (hb hby at_183) (XS.goto X150.here hx rfl (pc0 := 184) (pc' := 188) rfl (hb hby at_184) (by decide) (by decide) zk))))) ?_
          show own_GoW p e below s _ _ _ _ (T150.setTop (mkF m 188 #[iv p1, .val (.long p2), .second, iv p3, iv kd, iv sh, iv ps, iv c1, iv c2, rv b97, rv o_CLASSIC, rv o_CLASSIC, iv (1 : Int32)] [(.int (1 : Int32))]))
          have Re := Rc.trans (CHv.at X150 hZ hEL Rc.1)
          exact own_finW X150 hS (by rw [e150]; exact hk) (by rw [e150, hh]; exact Re) Bd.notSynchronized (fun h => by rw [Bd.returns] at h; cases h) (fun fs hr => retN X150 hx (t := .boolean) Bd.returns (by simp) (hb hby at_188) hr) (by rw [e150]; exact ⟨rfl, N149⟩) (by decide) (by decide)
        · by_cases hT : [(116 : Int32), (105 : Int32), (101 : Int32), (114 : Int32), (101 : Int32), (100 : Int32)] = (cs12.map (fun c => c.toInt8.toInt32))
          · obtain ⟨_, _, ⟨T151, L151, k151, n151⟩, -, X151, ⟨Lc151, hQ151, l151, y151, z151⟩, st151⟩ := Jvm.LawKit.callS X138 hx (y := (⟨"com/example/riskscan/riskscan/model/Profile", "ofCode", "(Ljava/lang/String;)Lcom/example/riskscan/riskscan/model/Profile;"⟩ : MethodName)) hown (mvT hZ (hw _ (List.mem_of_getElem? (i := 34) rfl))) (mvT hZ (hw _ (List.mem_of_getElem? (i := 35) rfl))) (mvT hZ (hw _ (List.mem_of_getElem? (i := 36) rfl))) (mvT hZ (hw _ (List.mem_of_getElem? (i := 37) rfl))) (by decide) (backOf (W := 0) (own_rof1 l Z a0 hw [] b97 t138 kb138 (Int32.ofNat cs12.length) (cs12.map (fun c => c.toInt8.toInt32)) o_COMPACT_STRINGS o__VALUES k_o__VALUES o_CLASSIC o_CLASSIC_code o_CLASSIC_code_value k_o_CLASSIC_code_value o_TIERED o_TIERED_code o_TIERED_code_value k_o_TIERED_code_value T138.heap n0 (Nat.le_trans Z0 Kp.1) O S_o_COMPACT_STRINGS S_o__VALUES V_o__VALUES Ex_o__VALUES Ex_o_CLASSIC F_o_CLASSIC_code Ex_o_CLASSIC_code F_o_CLASSIC_code_coder F_o_CLASSIC_code_value V_o_CLASSIC_code_value Ex_o_TIERED F_o_TIERED_code Ex_o_TIERED_code F_o_TIERED_code_coder F_o_TIERED_code_value V_o_TIERED_code_value Ex_b97 Fv138 Fc138 Vt138 nz_o_COMPACT_STRINGS hxl hC hT) hZ (hw _ (List.mem_of_getElem? (i := 37) rfl)) (hw _ (List.mem_of_getElem? (i := 36) rfl)) (by decide) (by decide)) (g := (mkF m 88 #[iv p1, .val (.long p2), .second, iv p3, iv kd, iv sh, iv ps, iv c1, iv c2, rv b97, rv b12, .unset, .unset] [(.ref b97)])) rfl (by rw [hml]; rfl) (argsL := [(.ref b97)]) (rest := []) (lenOf own_pd__Ljava_lang_String__Lcom_example_riskscan_riskscan_model_Profile_ rfl) rfl (by show 2 * 0 + _ ≤ _; exact Nat.le_of_eq rfl) (hb hby at_88) (fun _ _ => ⟨rfl, rfl, (by decide : 3 + 1 ≤ _), (by decide : 20 + 2 ≤ _)⟩)
            dsimp only [Pt.U, Pt.locs, Pt.cells, Pt.slots] at X151 l151 y151 z151 st151 hQ151
            subst l151 y151 z151
            obtain ⟨rfl, Nq151, K151⟩ := hQ151
            have N151 := Fr.app N138 Nq151
            refine own_goW st151 ?_
            have Sf_b97' := Safe.keep K151 all0 Rc.1 Sf_b97
            replace Rc := Rc.trans (CHr.keep K151 all0 Rc.1)
            replace hk := Nat.le_trans hk K151.1
            replace Sf_b97 := Sf_b97'
            replace O := O.keep K151 all0
            replace Kp := Kp.trans K151 all0
            replace V_b12 := V_b12.keep K151 nin0
            replace Ex_b97 := Ex_b97.keep K151
            replace Fc138 := Fc138.keep K151 nin0
            replace Fv138 := Fv138.keep K151 nin0
            replace Vt138 := Vt138.keep K151 nin0
            show own_GoW p e below s _ _ _ _ (T151.setTop (mkF m 91 #[iv p1, .val (.long p2), .second, iv p3, iv kd, iv sh, iv ps, iv c1, iv c2, rv b97, rv b12, .unset, .unset] [(.ref o_TIERED)]))
            refine own_goW (fun zt zk => (XS.astore X151.here hx rfl (hb hby at_91) rfl rfl (l' := #[iv p1, .val (.long p2), .second, iv p3, iv kd, iv sh, iv ps, iv c1, iv c2, rv b97, rv o_TIERED, .unset, .unset]) rfl (XS.aconstNull X151.here hx rfl (hb hby at_93) (XS.astore X151.here hx rfl (hb hby at_94) rfl rfl (l' := #[iv p1, .val (.long p2), .second, iv p3, iv kd, iv sh, iv ps, iv c1, iv c2, rv b97, rv o_TIERED, .val .null, .unset]) rfl (XS.aload X151.here hx rfl (hb hby at_96) rfl rfl (XS.ifnullNo X151.here hx rfl (hb hby at_98) rfl (XS.aload X151.here hx rfl (hb hby at_101) rfl rfl zk))))))) ?_
            show own_GoW p e below s _ _ _ _ (T151.setTop (mkF m 103 #[iv p1, .val (.long p2), .second, iv p3, iv kd, iv sh, iv ps, iv c1, iv c2, rv b97, rv o_TIERED, .val .null, .unset] [(.ref b97)]))
            obtain ⟨a152, T152, h152, q152, b152, k152, X152, e152, E152, hS152, hk152, hZ152, hown152, Ex_a152, Fc_a152, Fv_a152, Va_b152, lta152, ltb152, A152, Li152, Sn152, st152⟩ := ldcCH X151 hx hZ hown (hw _ (List.mem_of_getElem? (i := 67) rfl)) wS rfl hS hk hEL (by decide +kernel) Rc.1 (vs := [(.int (99 : Int32)), (.int (108 : Int32)), (.int (97 : Int32)), (.int (115 : Int32)), (.int (115 : Int32)), (.int (105 : Int32)), (.int (99 : Int32))]) (z := (7 : Int32)) ⟨by decide +kernel, by decide +kernel⟩ (by decide) rfl (g := (mkF m 103 #[iv p1, .val (.long p2), .second, iv p3, iv kd, iv sh, iv ps, iv c1, iv c2, rv b97, rv o_TIERED, .val .null, .unset] [(.ref b97)])) rfl (hb hby at_103) (n := 28) (by decide +kernel) (by decide) (by decide) (by decide)
            replace Sf_b97 := CHr.safe A152 Ex_b97.lt Sf_b97
            replace O := O.ext E152
            replace Kp := Kp.ext E152
            replace V_b12 := V_b12.ext E152
            replace Ex_b97 := Ex_b97.ext E152
            replace Fc138 := Fc138.ext E152
            replace Fv138 := Fv138.ext E152
            replace Vt138 := Vt138.ext E152
            replace Rc := Rc.trans A152
            replace hS := hS152
            replace hk := hk152
            replace hZ := hZ152
            replace hown := hown152
            refine own_goW st152 ?_
            have ne_b97_a152 := (Sn152 b97 Sf_b97).1
            have ne_b97_b152 := (Sn152 b97 Sf_b97).2
            show own_GoW p e below s _ _ _ _ (T152.setTop (mkF m 105 #[iv p1, .val (.long p2), .second, iv p3, iv kd, iv sh, iv ps, iv c1, iv c2, rv b97, rv o_TIERED, .val .null, .unset] [(.ref a152), (.ref b97)]))
            obtain ⟨cq153, kq153, qa153, qb153, qc153⟩ := isOf hZ e152 Ex_b97
            obtain ⟨_, _, ⟨T153, L153, k153, n153⟩, -, X153, ⟨Lc153, hQ153, l153, y153, z153⟩, st153⟩ := X152.virtualBack hx (y := (⟨"java/lang/String", "equals", "(Ljava/lang/Object;)Z"⟩ : MethodName)) (z := (⟨"java/lang/String", "equals", "(Ljava/lang/Object;)Z"⟩ : MethodName)) hown (mvT hZ (hw _ (List.mem_of_getElem? (i := 70) rfl))) (mvT hZ (hw _ (List.mem_of_getElem? (i := 58) rfl))) (notFace_of_selects (args := #[]) (mvT hZ (hw _ (List.mem_of_getElem? (i := 60) rfl)))) (mvT hZ (hw _ (List.mem_of_getElem? (i := 60) rfl))) (mvT hZ (hw _ (List.mem_of_getElem? (i := 59) rfl))) (by decide) (backOf (W := 0) (own_req l Z a0 hw [] b97 a152 o_COMPACT_STRINGS t138 b152 kb138 k152 (Int32.ofNat cs12.length) (7 : Int32) (cs12.map (fun c => c.toInt8.toInt32)) [(99 : Int32), (108 : Int32), (97 : Int32), (115 : Int32), (115 : Int32), (105 : Int32), (99 : Int32)] h152 n0 (Nat.le_trans Z0 Kp.1) O S_o_COMPACT_STRINGS Ex_b97 Fv138 Fc138 Vt138 Ex_a152 Fv_a152 Fc_a152 Va_b152 nz_o_COMPACT_STRINGS hxl rfl) hZ (hw _ (List.mem_of_getElem? (i := 61) rfl)) (hw _ (List.mem_of_getElem? (i := 7) rfl)) (by decide) (by decide)) qa153 qc153 (g := (mkF m 105 #[iv p1, .val (.long p2), .second, iv p3, iv kd, iv sh, iv ps, iv c1, iv c2, rv b97, rv o_TIERED, .val .null, .unset] [(.ref a152), (.ref b97)])) rfl (by rw [hml]; rfl) (Steps.refl _) (argsL := [(.ref a152)]) (rest := []) (lenOf own_pd__Ljava_lang_Object__Z rfl) rfl (by show 2 * 0 + _ ≤ _; exact Nat.le_of_eq rfl) (hb hby at_105) (fun _ _ => ⟨rfl, e152, (by decide : 6 + 0 ≤ _), (by decide : 54 + 0 ≤ _)⟩)
            dsimp only [Pt.U, Pt.locs, Pt.cells, Pt.slots] at X153 l153 y153 z153 st153 hQ153
            subst l153 y153 z153
            obtain ⟨hv153, Nq153, e153⟩ := hQ153
            rw [show own_eqv _ _ = (0 : Int32) from if_neg (fun q => hC q.symm)] at hv153
            subst hv153
            have N153 := Fr.app N151 Nq153
            refine own_goW (fun zt zk => st153.trans zk) ?_
            show own_GoW p e below s _ _ _ _ (T153.setTop (mkF m 108 #[iv p1, .val (.long p2), .second, iv p3, iv kd, iv sh, iv ps, iv c1, iv c2, rv b97, rv o_TIERED, .val .null, .unset] [(.int (0 : Int32))]))
            refine own_goW (fun zt zk => (XS.ifYes X153.here hx rfl (pc0 := 108) (pc' := 119) rfl (hb hby at_108) rfl ((if0 _ _).trans (teq (rfl : (0 : Int32) = (0 : Int32))).1) (by decide) (by decide) (XS.aload X153.here hx rfl (hb hby at_119) rfl rfl zk))) ?_
            show own_GoW p e below s _ _ _ _ (T153.setTop (mkF m 121 #[iv p1, .val (.long p2), .second, iv p3, iv kd, iv sh, iv ps, iv c1, iv c2, rv b97, rv o_TIERED, .val .null, .unset] [(.ref b97)]))
            obtain ⟨a154, T154, h154, q154, b154, k154, X154, e154, E154, hS154, hk154, hZ154, hown154, Ex_a154, Fc_a154, Fv_a154, Va_b154, lta154, ltb154, A154, Li154, Sn154, st154⟩ := ldcCH X153 hx hZ hown (hw _ (List.mem_of_getElem? (i := 71) rfl)) wS e153 hS hk hEL (by decide +kernel) Rc.1 (vs := [(.int (116 : Int32)), (.int (105 : Int32)), (.int (101 : Int32)), (.int (114 : Int32)), (.int (101 : Int32)), (.int (100 : Int32))]) (z := (6 : Int32)) ⟨by decide +kernel, by decide +kernel⟩ (by decide) rfl (g := (mkF m 121 #[iv p1, .val (.long p2), .second, iv p3, iv kd, iv sh, iv ps, iv c1, iv c2, rv b97, rv o_TIERED, .val .null, .unset] [(.ref b97)])) rfl (hb hby at_121) (n := 24) (by decide +kernel) (by decide) (by decide) (by decide)
            replace Sf_b97 := CHr.safe A154 Ex_b97.lt Sf_b97
            replace O := O.ext E154
            replace Kp := Kp.ext E154
            replace V_b12 := V_b12.ext E154
            replace Ex_b97 := Ex_b97.ext E154
            replace Fc138 := Fc138.ext E154
            replace Fv138 := Fv138.ext E154
            replace Vt138 := Vt138.ext E154
            replace Ex_a152 := Ex_a152.ext E154
            replace Fc_a152 := Fc_a152.ext E154
            replace Fv_a152 := Fv_a152.ext E154
            replace Va_b152 := Va_b152.ext E154
            replace Rc := Rc.trans A154
            replace hS := hS154
            replace hk := hk154
            replace hZ := hZ154
            replace hown := hown154
            refine own_goW st154 ?_
            have ne_b97_a154 := (Sn154 b97 Sf_b97).1
            have ne_b97_b154 := (Sn154 b97 Sf_b97).2
            show own_GoW p e below s _ _ _ _ (T154.setTop (mkF m 123 #[iv p1, .val (.long p2), .second, iv p3, iv kd, iv sh, iv ps, iv c1, iv c2, rv b97, rv o_TIERED, .val .null, .unset] [(.ref a154), (.ref b97)]))
            obtain ⟨cq155, kq155, qa155, qb155, qc155⟩ := isOf hZ e154 Ex_b97
            obtain ⟨_, _, ⟨T155, L155, k155, n155⟩, -, X155, ⟨Lc155, hQ155, l155, y155, z155⟩, st155⟩ := X154.virtualBack hx (y := (⟨"java/lang/String", "equals", "(Ljava/lang/Object;)Z"⟩ : MethodName)) (z := (⟨"java/lang/String", "equals", "(Ljava/lang/Object;)Z"⟩ : MethodName)) hown (mvT hZ (hw _ (List.mem_of_getElem? (i := 70) rfl))) (mvT hZ (hw _ (List.mem_of_getElem? (i := 58) rfl))) (notFace_of_selects (args := #[]) (mvT hZ (hw _ (List.mem_of_getElem? (i := 60) rfl)))) (mvT hZ (hw _ (List.mem_of_getElem? (i := 60) rfl))) (mvT hZ (hw _ (List.mem_of_getElem? (i := 59) rfl))) (by decide) (backOf (W := 0) (own_req l Z a0 hw [] b97 a154 o_COMPACT_STRINGS t138 b154 kb138 k154 (Int32.ofNat cs12.length) (6 : Int32) (cs12.map (fun c => c.toInt8.toInt32)) [(116 : Int32), (105 : Int32), (101 : Int32), (114 : Int32), (101 : Int32), (100 : Int32)] h154 n0 (Nat.le_trans Z0 Kp.1) O S_o_COMPACT_STRINGS Ex_b97 Fv138 Fc138 Vt138 Ex_a154 Fv_a154 Fc_a154 Va_b154 nz_o_COMPACT_STRINGS hxl rfl) hZ (hw _ (List.mem_of_getElem? (i := 61) rfl)) (hw _ (List.mem_of_getElem? (i := 7) rfl)) (by decide) (by decide)) qa155 qc155 (g := (mkF m 123 #[iv p1, .val (.long p2), .second, iv p3, iv kd, iv sh, iv ps, iv c1, iv c2, rv b97, rv o_TIERED, .val .null, .unset] [(.ref a154), (.ref b97)])) rfl (by rw [hml]; rfl) (Steps.refl _) (argsL := [(.ref a154)]) (rest := []) (lenOf own_pd__Ljava_lang_Object__Z rfl) rfl (by show 2 * 0 + _ ≤ _; exact Nat.le_of_eq rfl) (hb hby at_123) (fun _ _ => ⟨rfl, e154, (by decide : 8 + 0 ≤ _), (by decide : 82 + 0 ≤ _)⟩)
            dsimp only [Pt.U, Pt.locs, Pt.cells, Pt.slots] at X155 l155 y155 z155 st155 hQ155
            subst l155 y155 z155
            obtain ⟨hv155, Nq155, e155⟩ := hQ155
            rw [show own_eqv _ _ = (1 : Int32) from if_pos hT.symm] at hv155
            subst hv155
            have N155 := Fr.app N153 Nq155
            refine own_goW (fun zt zk => st155.trans zk) ?_
            show own_GoW p e below s _ _ _ _ (T155.setTop (mkF m 126 #[iv p1, .val (.long p2), .second, iv p3, iv kd, iv sh, iv ps, iv c1, iv c2, rv b97, rv o_TIERED, .val .null, .unset] [(.int (1 : Int32))]))
            refine own_goW (fun zt zk => (XS.ifNo X155.here hx rfl (hb hby at_126) rfl ((if0 _ _).trans (feq ((by decide) : ¬ ((1 : Int32) = (0 : Int32)))).1) zk)) ?_
            show own_GoW p e below s _ _ _ _ (T155.setTop (mkF m 129 #[iv p1, .val (.long p2), .second, iv p3, iv kd, iv sh, iv ps, iv c1, iv c2, rv b97, rv o_TIERED, .val .null, .unset] []))
            obtain ⟨T156, X156, e156, st156⟩ := getS2 X155 hx hZ hown (host := "") (Or.inl (hw _ (List.mem_of_getElem? (i := 78) rfl))) Via.refl e155 (S_o_TIERED.ext O.2) (g := (mkF m 129 #[iv p1, .val (.long p2), .second, iv p3, iv kd, iv sh, iv ps, iv c1, iv c2, rv b97, rv o_TIERED, .val .null, .unset] [])) rfl (hb hby at_129)
            refine own_goW st156 ?_
            show own_GoW p e below s _ _ _ _ (T156.setTop (mkF m 132 #[iv p1, .val (.long p2), .second, iv p3, iv kd, iv sh, iv ps, iv c1, iv c2, rv b97, rv o_TIERED, .val .null, .unset] [(.ref o_TIERED)]))
            refine own_goW (fun zt zk => (XS.astore X156.here hx rfl (hb hby at_132) rfl rfl (l' := #[iv p1, .val (.long p2), .second, iv p3, iv kd, iv sh, iv ps, iv c1, iv c2, rv b97, rv o_TIERED, rv o_TIERED, .unset]) rfl zk)) ?_
            show own_GoW p e below s _ _ _ _ (T156.setTop (mkF m 134 #[iv p1, .val (.long p2), .second, iv p3, iv kd, iv sh, iv ps, iv c1, iv c2, rv b97, rv o_TIERED, rv o_TIERED, .unset] []))
            obtain ⟨T157, X157, e157, st157⟩ := getS2 X156 hx hZ hown (host := "") (Or.inl (hw _ (List.mem_of_getElem? (i := 72) rfl))) Via.refl e156 (S_o_CLASSIC.ext O.2) (g := (mkF m 134 #[iv p1, .val (.long p2), .second, iv p3, iv kd, iv sh, iv ps, iv c1, iv c2, rv b97, rv o_TIERED, rv o_TIERED, .unset] [])) rfl (hb hby at_134)
            refine own_goW st157 ?_
            show own_GoW p e below s _ _ _ _ (T157.setTop (mkF m 137 #[iv p1, .val (.long p2), .second, iv p3, iv kd, iv sh, iv ps, iv c1, iv c2, rv b97, rv o_TIERED, rv o_TIERED, .unset] [(.ref o_CLASSIC)]))
            obtain ⟨cq158, kq158, qa158, qb158, qc158⟩ := isOf hZ e157 (Ex_o_CLASSIC.ext O.2)
            obtain ⟨_, _, ⟨T158, L158, k158, n158⟩, -, X158, ⟨Lc158, hQ158, l158, y158, z158⟩, st158⟩ := X157.virtualBack hx (y := (⟨"com/example/riskscan/riskscan/model/Profile", "code", "()Ljava/lang/String;"⟩ : MethodName)) (z := (⟨"com/example/riskscan/riskscan/model/Profile", "code", "()Ljava/lang/String;"⟩ : MethodName)) hown (mvT hZ (hw _ (List.mem_of_getElem? (i := 73) rfl))) (mvT hZ (hw _ (List.mem_of_getElem? (i := 74) rfl))) (notFace_of_selects (args := #[]) (mvT hZ (hw _ (List.mem_of_getElem? (i := 76) rfl)))) (mvT hZ (hw _ (List.mem_of_getElem? (i := 76) rfl))) (mvT hZ (hw _ (List.mem_of_getElem? (i := 75) rfl))) (by decide) (backOf (W := 0) (own_gcode l Z a0 hw [] o_CLASSIC o_CLASSIC_code h154 n0 (Nat.le_trans Z0 Kp.1) (F_o_CLASSIC_code.ext O.2)) hZ (hw _ (List.mem_of_getElem? (i := 77) rfl)) (hw _ (List.mem_of_getElem? (i := 36) rfl)) (by decide) (by decide)) qa158 qc158 (g := (mkF m 137 #[iv p1, .val (.long p2), .second, iv p3, iv kd, iv sh, iv ps, iv c1, iv c2, rv b97, rv o_TIERED, rv o_TIERED, .unset] [(.ref o_CLASSIC)])) rfl (by rw [hml]; rfl) (Steps.refl _) (argsL := []) (rest := []) (lenOf own_pd___Ljava_lang_String_ rfl) rfl (by show 2 * 0 + _ ≤ _; exact Nat.le_of_eq rfl) (hb hby at_137) (fun _ _ => ⟨rfl, e157, (by decide : 8 + 0 ≤ _), (by decide : 82 + 0 ≤ _)⟩)
            dsimp only [Pt.U, Pt.locs, Pt.cells, Pt.slots] at X158 l158 y158 z158 st158 hQ158
            subst l158 y158 z158
            obtain ⟨rfl, Nq158, e158⟩ := hQ158
            have N158 := Fr.app N155 Nq158
            refine own_goW (fun zt zk => st158.trans zk) ?_
            show own_GoW p e below s _ _ _ _ (T158.setTop (mkF m 140 #[iv p1, .val (.long p2), .second, iv p3, iv kd, iv sh, iv ps, iv c1, iv c2, rv b97, rv o_TIERED, rv o_TIERED, .unset] [(.ref o_CLASSIC_code)]))
            obtain ⟨_, _, ⟨T159, L159, k159, n159⟩, -, X159, ⟨Lc159, hQ159, l159, y159, z159⟩, st159⟩ := Jvm.LawKit.callS X158 hx (y := (⟨"com/example/riskscan/riskscan/model/Profile", "ofCode", "(Ljava/lang/String;)Lcom/example/riskscan/riskscan/model/Profile;"⟩ : MethodName)) hown (mvT hZ (hw _ (List.mem_of_getElem? (i := 34) rfl))) (mvT hZ (hw _ (List.mem_of_getElem? (i := 35) rfl))) (mvT hZ (hw _ (List.mem_of_getElem? (i := 36) rfl))) (mvT hZ (hw _ (List.mem_of_getElem? (i := 37) rfl))) (by decide) (backOf (W := 0) (own_rof0 l Z a0 hw [] o_CLASSIC_code o_CLASSIC_code_value k_o_CLASSIC_code_value (7 : Int32) [(99 : Int32), (108 : Int32), (97 : Int32), (115 : Int32), (115 : Int32), (105 : Int32), (99 : Int32)] o_COMPACT_STRINGS o__VALUES k_o__VALUES o_CLASSIC o_CLASSIC_code o_CLASSIC_code_value k_o_CLASSIC_code_value o_TIERED o_TIERED_code o_TIERED_code_value k_o_TIERED_code_value h154 n0 (Nat.le_trans Z0 Kp.1) O S_o_COMPACT_STRINGS S_o__VALUES V_o__VALUES Ex_o__VALUES Ex_o_CLASSIC F_o_CLASSIC_code Ex_o_CLASSIC_code F_o_CLASSIC_code_coder F_o_CLASSIC_code_value V_o_CLASSIC_code_value Ex_o_TIERED F_o_TIERED_code Ex_o_TIERED_code F_o_TIERED_code_coder F_o_TIERED_code_value V_o_TIERED_code_value (Ex_o_CLASSIC_code.ext O.2) (F_o_CLASSIC_code_value.ext O.2) (F_o_CLASSIC_code_coder.ext O.2) (V_o_CLASSIC_code_value.ext O.2) nz_o_COMPACT_STRINGS rfl rfl) hZ (hw _ (List.mem_of_getElem? (i := 37) rfl)) (hw _ (List.mem_of_getElem? (i := 36) rfl)) (by decide) (by decide)) (g := (mkF m 140 #[iv p1, .val (.long p2), .second, iv p3, iv kd, iv sh, iv ps, iv c1, iv c2, rv b97, rv o_TIERED, rv o_TIERED, .unset] [(.ref o_CLASSIC_code)])) rfl (by rw [hml]; rfl) (argsL := [(.ref o_CLASSIC_code)]) (rest := []) (lenOf own_pd__Ljava_lang_String__Lcom_example_riskscan_riskscan_model_Profile_ rfl) rfl (by show 2 * 0 + _ ≤ _; exact Nat.le_of_eq rfl) (hb hby at_140) (fun _ _ => ⟨rfl, e158, (by decide : 8 + 1 ≤ _), (by decide : 82 + 2 ≤ _)⟩)
            dsimp only [Pt.U, Pt.locs, Pt.cells, Pt.slots] at X159 l159 y159 z159 st159 hQ159
            subst l159 y159 z159
            obtain ⟨rfl, Nq159, K159⟩ := hQ159
            have N159 := Fr.app N158 Nq159
            refine own_goW st159 ?_
            have Sf_b97' := Safe.keep K159 all0 Rc.1 Sf_b97
            replace Rc := Rc.trans (CHr.keep K159 all0 Rc.1)
            replace hk := Nat.le_trans hk K159.1
            replace Sf_b97 := Sf_b97'
            replace O := O.keep K159 all0
            replace Kp := Kp.trans K159 all0
            replace V_b12 := V_b12.keep K159 nin0
            replace Ex_b97 := Ex_b97.keep K159
            replace Fc138 := Fc138.keep K159 nin0
            replace Fv138 := Fv138.keep K159 nin0
            replace Vt138 := Vt138.keep K159 nin0
            replace Ex_a152 := Ex_a152.keep K159
            replace Fc_a152 := Fc_a152.keep K159 nin0
            replace Fv_a152 := Fv_a152.keep K159 nin0
            replace Va_b152 := Va_b152.keep K159 nin0
            replace Ex_a154 := Ex_a154.keep K159
            replace Fc_a154 := Fc_a154.keep K159 nin0
            replace Fv_a154 := Fv_a154.keep K159 nin0
            replace Va_b154 := Va_b154.keep K159 nin0
            show own_GoW p e below s _ _ _ _ (T159.setTop (mkF m 143 #[iv p1, .val (.long p2), .second, iv p3, iv kd, iv sh, iv ps, iv c1, iv c2, rv b97, rv o_TIERED, rv o_TIERED, .unset] [(.ref o_CLASSIC)]))
            obtain ⟨T160, X160, e160, st160⟩ := getS2 X159 hx hZ hown (host := "") (Or.inl (hw _ (List.mem_of_getElem? (i := 72) rfl))) Via.refl rfl (S_o_CLASSIC.ext O.2) (g := (mkF m 143 #[iv p1, .val (.long p2), .second, iv p3, iv kd, iv sh, iv ps, iv c1, iv c2, rv b97, rv o_TIERED, rv o_TIERED, .unset] [(.ref o_CLASSIC)])) rfl (hb hby at_143)
            refine own_goW st160 ?_
            show own_GoW p e below s _ _ _ _ (T160.setTop (mkF m 146 #[iv p1, .val (.long p2), .second, iv p3, iv kd, iv sh, iv ps, iv c1, iv c2, rv b97, rv o_TIERED, rv o_TIERED, .unset] [(.ref o_CLASSIC), (.ref o_CLASSIC)]))
            refine own_goW (fun zt zk => Jvm.RoadKit.acmp (g := (mkF m 146 #[iv p1, .val (.long p2), .second, iv p3, iv kd, iv sh, iv ps, iv c1, iv c2, rv b97, rv o_TIERED, rv o_TIERED, .unset] [(.ref o_CLASSIC), (.ref o_CLASSIC)])) X160 hx rfl rfl rfl (pc0 := 146) (pc' := 149) (same := true) rfl (hb hby at_146) rfl (decide_eq_true rfl) (by decide) (by decide) zk) ?_
            show own_GoW p e below s _ _ _ _ (T160.setTop (mkF m 149 #[iv p1, .val (.long p2), .second, iv p3, iv kd, iv sh, iv ps, iv c1, iv c2, rv b97, rv o_TIERED, rv o_TIERED, .unset] []))
            obtain ⟨T161, X161, e161, st161⟩ := getS2 X160 hx hZ hown (host := "") (Or.inl (hw _ (List.mem_of_getElem? (i := 78) rfl))) Via.refl e160 (S_o_TIERED.ext O.2) (g := (mkF m 149 #[iv p1, .val (.long p2), .second, iv p3, iv kd, iv sh, iv ps, iv c1, iv c2, rv b97, rv o_TIERED, rv o_TIERED, .unset] [])) rfl (hb hby at_149)
            refine own_goW st161 ?_
            show own_GoW p e below s _ _ _ _ (T161.setTop (mkF m 152 #[iv p1, .val (.long p2), .second, iv p3, iv kd, iv sh, iv ps, iv c1, iv c2, rv b97, rv o_TIERED, rv o_TIERED, .unset] [(.ref o_TIERED)]))
            obtain ⟨cq162, kq162, qa162, qb162, qc162⟩ := isOf hZ e161 (Ex_o_TIERED.ext O.2)
            obtain ⟨_, _, ⟨T162, L162, k162, n162⟩, -, X162, ⟨Lc162, hQ162, l162, y162, z162⟩, st162⟩ := X161.virtualBack hx (y := (⟨"com/example/riskscan/riskscan/model/Profile", "code", "()Ljava/lang/String;"⟩ : MethodName)) (z := (⟨"com/example/riskscan/riskscan/model/Profile", "code", "()Ljava/lang/String;"⟩ : MethodName)) hown (mvT hZ (hw _ (List.mem_of_getElem? (i := 73) rfl))) (mvT hZ (hw _ (List.mem_of_getElem? (i := 74) rfl))) (notFace_of_selects (args := #[]) (mvT hZ (hw _ (List.mem_of_getElem? (i := 76) rfl)))) (mvT hZ (hw _ (List.mem_of_getElem? (i := 76) rfl))) (mvT hZ (hw _ (List.mem_of_getElem? (i := 75) rfl))) (by decide) (backOf (W := 0) (own_gcode l Z a0 hw [] o_TIERED o_TIERED_code T159.heap n0 (Nat.le_trans Z0 Kp.1) (F_o_TIERED_code.ext O.2)) hZ (hw _ (List.mem_of_getElem? (i := 77) rfl)) (hw _ (List.mem_of_getElem? (i := 36) rfl)) (by decide) (by decide)) qa162 qc162 (g := (mkF m 152 #[iv p1, .val (.long p2), .second, iv p3, iv kd, iv sh, iv ps, iv c1, iv c2, rv b97, rv o_TIERED, rv o_TIERED, .unset] [(.ref o_TIERED)])) rfl (by rw [hml]; rfl) (Steps.refl _) (argsL := []) (rest := []) (lenOf own_pd___Ljava_lang_String_ rfl) rfl (by show 2 * 0 + _ ≤ _; exact Nat.le_of_eq rfl) (hb hby at_152) (fun _ _ => ⟨rfl, e161, (by decide : 9 + 0 ≤ _), (by decide : 84 + 0 ≤ _)⟩)
            dsimp only [Pt.U, Pt.locs, Pt.cells, Pt.slots] at X162 l162 y162 z162 st162 hQ162
            subst l162 y162 z162
            obtain ⟨rfl, Nq162, e162⟩ := hQ162
            have N162 := Fr.app N159 Nq162
            refine own_goW (fun zt zk => st162.trans zk) ?_
            show own_GoW p e below s _ _ _ _ (T162.setTop (mkF m 155 #[iv p1, .val (.long p2), .second, iv p3, iv kd, iv sh, iv ps, iv c1, iv c2, rv b97, rv o_TIERED, rv o_TIERED, .unset] [(.ref o_TIERED_code)]))
            obtain ⟨_, _, ⟨T163, L163, k163, n163⟩, -, X163, ⟨Lc163, hQ163, l163, y163, z163⟩, st163⟩ := Jvm.LawKit.callS X162 hx (y := (⟨"com/example/riskscan/riskscan/model/Profile", "ofCode", "(Ljava/lang/String;)Lcom/example/riskscan/riskscan/model/Profile;"⟩ : MethodName)) hown (mvT hZ (hw _ (List.mem_of_getElem? (i := 34) rfl))) (mvT hZ (hw _ (List.mem_of_getElem? (i := 35) rfl))) (mvT hZ (hw _ (List.mem_of_getElem? (i := 36) rfl))) (mvT hZ (hw _ (List.mem_of_getElem? (i := 37) rfl))) (by decide) (backOf (W := 0) (own_rof1 l Z a0 hw [] o_TIERED_code o_TIERED_code_value k_o_TIERED_code_value (6 : Int32) [(116 : Int32), (105 : Int32), (101 : Int32), (114 : Int32), (101 : Int32), (100 : Int32)] o_COMPACT_STRINGS o__VALUES k_o__VALUES o_CLASSIC o_CLASSIC_code o_CLASSIC_code_value k_o_CLASSIC_code_value o_TIERED o_TIERED_code o_TIERED_code_value k_o_TIERED_code_value T159.heap n0 (Nat.le_trans Z0 Kp.1) O S_o_COMPACT_STRINGS S_o__VALUES V_o__VALUES Ex_o__VALUES Ex_o_CLASSIC F_o_CLASSIC_code Ex_o_CLASSIC_code F_o_CLASSIC_code_coder F_o_CLASSIC_code_value V_o_CLASSIC_code_value Ex_o_TIERED F_o_TIERED_code Ex_o_TIERED_code F_o_TIERED_code_coder F_o_TIERED_code_value V_o_TIERED_code_value (Ex_o_TIERED_code.ext O.2) (F_o_TIERED_code_value.ext O.2) (F_o_TIERED_code_coder.ext O.2) (V_o_TIERED_code_value.ext O.2) nz_o_COMPACT_STRINGS rfl (by decide) rfl) hZ (hw _ (List.mem_of_getElem? (i := 37) rfl)) (hw _ (List.mem_of_getElem? (i := 36) rfl)) (by decide) (by decide)) (g := (mkF m 155 #[iv p1, .val (.long p2), .second, iv p3, iv kd, iv sh, iv ps, iv c1, iv c2, rv b97, rv o_TIERED, rv o_TIERED, .unset] [(.ref o_TIERED_code)])) rfl (by rw [hml]; rfl) (argsL := [(.ref o_TIERED_code)]) (rest := []) (lenOf own_pd__Ljava_lang_String__Lcom_example_riskscan_riskscan_model_Profile_ rfl) rfl (by show 2 * 0 + _ ≤ _; exact Nat.le_of_eq rfl) (hb hby at_155) (fun _ _ => ⟨rfl, e162, (by decide : 9 + 1 ≤ _), (by decide : 84 + 2 ≤ _)⟩)
            dsimp only [Pt.U, Pt.locs, Pt.cells, Pt.slots] at X163 l163 y163 z163 st163 hQ163
            subst l163 y163 z163
            obtain ⟨rfl, Nq163, K163⟩ := hQ163
            have N163 := Fr.app N162 Nq163
            refine own_goW st163 ?_
            have Sf_b97' := Safe.keep K163 all0 Rc.1 Sf_b97
            replace Rc := Rc.trans (CHr.keep K163 all0 Rc.1)
            replace hk := Nat.le_trans hk K163.1
            replace Sf_b97 := Sf_b97'
            replace O := O.keep K163 all0
            replace Kp := Kp.trans K163 all0
            replace V_b12 := V_b12.keep K163 nin0
            replace Ex_b97 := Ex_b97.keep K163
            replace Fc138 := Fc138.keep K163 nin0
            replace Fv138 := Fv138.keep K163 nin0
            replace Vt138 := Vt138.keep K163 nin0
            replace Ex_a152 := Ex_a152.keep K163
            replace Fc_a152 := Fc_a152.keep K163 nin0
            replace Fv_a152 := Fv_a152.keep K163 nin0
            replace Va_b152 := Va_b152.keep K163 nin0
            replace Ex_a154 := Ex_a154.keep K163
            replace Fc_a154 := Fc_a154.keep K163 nin0
            replace Fv_a154 := Fv_a154.keep K163 nin0
            replace Va_b154 := Va_b154.keep K163 nin0
            show own_GoW p e below s _ _ _ _ (T163.setTop (mkF m 158 #[iv p1, .val (.long p2), .second, iv p3, iv kd, iv sh, iv ps, iv c1, iv c2, rv b97, rv o_TIERED, rv o_TIERED, .unset] [(.ref o_TIERED)]))
            obtain ⟨T164, X164, e164, st164⟩ := getS2 X163 hx hZ hown (host := "") (Or.inl (hw _ (List.mem_of_getElem? (i := 78) rfl))) Via.refl rfl (S_o_TIERED.ext O.2) (g := (mkF m 158 #[iv p1, .val (.long p2), .second, iv p3, iv kd, iv sh, iv ps, iv c1, iv c2, rv b97, rv o_TIERED, rv o_TIERED, .unset] [(.ref o_TIERED)])) rfl (hb hby at_158)
            refine own_goW st164 ?_
            show own_GoW p e below s _ _ _ _ (T164.setTop (mkF m 161 #[iv p1, .val (.long p2), .second, iv p3, iv kd, iv sh, iv ps, iv c1, iv c2, rv b97, rv o_TIERED, rv o_TIERED, .unset] [(.ref o_TIERED), (.ref o_TIERED)]))
            refine own_goW (fun zt zk => Jvm.RoadKit.acmp (g := (mkF m 161 #[iv p1, .val (.long p2), .second, iv p3, iv kd, iv sh, iv ps, iv c1, iv c2, rv b97, rv o_TIERED, rv o_TIERED, .unset] [(.ref o_TIERED), (.ref o_TIERED)])) X164 hx rfl rfl rfl (pc0 := 161) (pc' := 164) (same := true) rfl (hb hby at_161) rfl (decide_eq_true rfl) (by decide) (by decide) zk) ?_
            show own_GoW p e below s _ _ _ _ (T164.setTop (mkF m 164 #[iv p1, .val (.long p2), .second, iv p3, iv kd, iv sh, iv ps, iv c1, iv c2, rv b97, rv o_TIERED, rv o_TIERED, .unset] []))
            refine own_goW (fun zt zk => (XS.iconst X164.here hx rfl (hb hby at_164) (XS.goto X164.here hx rfl (pc0 := 165) (pc' := 169) rfl (hb hby at_165) (by decide) (by decide) (XS.istore X164.here hx rfl (hb hby at_169) rfl (l' := #[iv p1, .val (.long p2), .second, iv p3, iv kd, iv sh, iv ps, iv c1, iv c2, rv b97, rv o_TIERED, rv o_TIERED, iv (1 : Int32)]) rfl (XS.aload X164.here hx rfl (hb hby at_171) rfl rfl (XS.aload X164.here hx rfl (hb hby at_173) rfl rfl zk)))))) ?_
            show own_GoW p e below s _ _ _ _ (T164.setTop (mkF m 175 #[iv p1, .val (.long p2), .second, iv p3, iv kd, iv sh, iv ps, iv c1, iv c2, rv b97, rv o_TIERED, rv o_TIERED, iv (1 : Int32)] [(.ref o_TIERED), (.ref o_TIERED)]))
            refine own_goW (fun zt zk => Jvm.RoadKit.acmp (g := (mkF m 175 #[iv p1, .val (.long p2), .second, iv p3, iv kd, iv sh, iv ps, iv c1, iv c2, rv b97, rv o_TIERED, rv o_TIERED, iv (1 : Int32)] [(.ref o_TIERED), (.ref o_TIERED)])) X164 hx rfl rfl rfl (pc0 := 175) (pc' := 178) (same := true) rfl (hb hby at_175) rfl (decide_eq_true rfl) (by decide) (by decide) zk) ?_
            show own_GoW p e below s _ _ _ _ (T164.setTop (mkF m 178 #[iv p1, .val (.long p2), .second, iv p3, iv kd, iv sh, iv ps, iv c1, iv c2, rv b97, rv o_TIERED, rv o_TIERED, iv (1 : Int32)] []))
            refine own_goW (fun zt zk => (XS.iload X164.here hx rfl (hb hby at_178) rfl (XS.ifNo X164.here hx rfl (hb hby at_180) rfl ((if0 _ _).trans (feq ((by decide) : ¬ ((1 : Int32) = (0 : Int32)))).1) (XS.iconst X164.here hx rfl (hb hby at_183) (XS.goto X164.here hx rfl (pc0 := 184) (pc' := 188) rfl (hb hby at_184) (by decide) (by decide) zk))))) ?_
            show own_GoW p e below s _ _ _ _ (T164.setTop (mkF m 188 #[iv p1, .val (.long p2), .second, iv p3, iv kd, iv sh, iv ps, iv c1, iv c2, rv b97, rv o_TIERED, rv o_TIERED, iv (1 : Int32)] [(.int (1 : Int32))]))
            have Re := Rc.trans (CHv.at X164 hZ hEL Rc.1)
            exact own_finW X164 hS (by rw [e164]; exact hk) (by rw [e164, hh]; exact Re) Bd.notSynchronized (fun h => by rw [Bd.returns] at h; cases h) (fun fs hr => retN X164 hx (t := .boolean) Bd.returns (by simp) (hb hby at_188) hr) (by rw [e164]; exact ⟨rfl, N163⟩) (by decide) (by decide)
          · obtain ⟨_, _, ⟨T165, L165, k165, n165⟩, -, X165, ⟨Lc165, hQ165, l165, y165, z165⟩, st165⟩ := Jvm.LawKit.callS X138 hx (y := (⟨"com/example/riskscan/riskscan/model/Profile", "ofCode", "(Ljava/lang/String;)Lcom/example/riskscan/riskscan/model/Profile;"⟩ : MethodName)) hown (mvT hZ (hw _ (List.mem_of_getElem? (i := 34) rfl))) (mvT hZ (hw _ (List.mem_of_getElem? (i := 35) rfl))) (mvT hZ (hw _ (List.mem_of_getElem? (i := 36) rfl))) (mvT hZ (hw _ (List.mem_of_getElem? (i := 37) rfl))) (by decide) (backOf (W := 0) (own_rof2 l Z a0 hw [] b97 t138 kb138 (Int32.ofNat cs12.length) (cs12.map (fun c => c.toInt8.toInt32)) o_COMPACT_STRINGS o__VALUES k_o__VALUES o_CLASSIC o_CLASSIC_code o_CLASSIC_code_value k_o_CLASSIC_code_value o_TIERED o_TIERED_code o_TIERED_code_value k_o_TIERED_code_value T138.heap n0 (Nat.le_trans Z0 Kp.1) O S_o_COMPACT_STRINGS S_o__VALUES V_o__VALUES Ex_o__VALUES Ex_o_CLASSIC F_o_CLASSIC_code Ex_o_CLASSIC_code F_o_CLASSIC_code_coder F_o_CLASSIC_code_value V_o_CLASSIC_code_value Ex_o_TIERED F_o_TIERED_code Ex_o_TIERED_code F_o_TIERED_code_coder F_o_TIERED_code_value V_o_TIERED_code_value Ex_b97 Fv138 Fc138 Vt138 nz_o_COMPACT_STRINGS hxl hC hT) hZ (hw _ (List.mem_of_getElem? (i := 37) rfl)) (hw _ (List.mem_of_getElem? (i := 36) rfl)) (by decide) (by decide)) (g := (mkF m 88 #[iv p1, .val (.long p2), .second, iv p3, iv kd, iv sh, iv ps, iv c1, iv c2, rv b97, rv b12, .unset, .unset] [(.ref b97)])) rfl (by rw [hml]; rfl) (argsL := [(.ref b97)]) (rest := []) (lenOf own_pd__Ljava_lang_String__Lcom_example_riskscan_riskscan_model_Profile_ rfl) rfl (by show 2 * 0 + _ ≤ _; exact Nat.le_of_eq rfl) (hb hby at_88) (fun _ _ => ⟨rfl, rfl, (by decide : 3 + 1 ≤ _), (by decide : 20 + 2 ≤ _)⟩)
            dsimp only [Pt.U, Pt.locs, Pt.cells, Pt.slots] at X165 l165 y165 z165 st165 hQ165
            subst l165 y165 z165
            obtain ⟨rfl, Nq165, K165⟩ := hQ165
            have N165 := Fr.app N138 Nq165
            refine own_goW st165 ?_
            have Sf_b97' := Safe.keep K165 all0 Rc.1 Sf_b97
            replace Rc := Rc.trans (CHr.keep K165 all0 Rc.1)
            replace hk := Nat.le_trans hk K165.1
            replace Sf_b97 := Sf_b97'
            replace O := O.keep K165 all0
            replace Kp := Kp.trans K165 all0
            replace V_b12 := V_b12.keep K165 nin0
            replace Ex_b97 := Ex_b97.keep K165
            replace Fc138 := Fc138.keep K165 nin0
            replace Fv138 := Fv138.keep K165 nin0
            replace Vt138 := Vt138.keep K165 nin0
            show own_GoW p e below s _ _ _ _ (T165.setTop (mkF m 91 #[iv p1, .val (.long p2), .second, iv p3, iv kd, iv sh, iv ps, iv c1, iv c2, rv b97, rv b12, .unset, .unset] [.null]))
            refine own_goW (fun zt zk => (XS.astore X165.here hx rfl (hb hby at_91) rfl rfl (l' := #[iv p1, .val (.long p2), .second, iv p3, iv kd, iv sh, iv ps, iv c1, iv c2, rv b97, .val .null, .unset, .unset]) rfl (XS.aconstNull X165.here hx rfl (hb hby at_93) (XS.astore X165.here hx rfl (hb hby at_94) rfl rfl (l' := #[iv p1, .val (.long p2), .second, iv p3, iv kd, iv sh, iv ps, iv c1, iv c2, rv b97, .val .null, .val .null, .unset]) rfl (XS.aload X165.here hx rfl (hb hby at_96) rfl rfl (XS.ifnullNo X165.here hx rfl (hb hby at_98) rfl (XS.aload X165.here hx rfl (hb hby at_101) rfl rfl zk))))))) ?_
            show own_GoW p e below s _ _ _ _ (T165.setTop (mkF m 103 #[iv p1, .val (.long p2), .second, iv p3, iv kd, iv sh, iv ps, iv c1, iv c2, rv b97, .val .null, .val .null, .unset] [(.ref b97)]))
            obtain ⟨a166, T166, h166, q166, b166, k166, X166, e166, E166, hS166, hk166, hZ166, hown166, Ex_a166, Fc_a166, Fv_a166, Va_b166, lta166, ltb166, A166, Li166, Sn166, st166⟩ := ldcCH X165 hx hZ hown (hw _ (List.mem_of_getElem? (i := 67) rfl)) wS rfl hS hk hEL (by decide +kernel) Rc.1 (vs := [(.int (99 : Int32)), (.int (108 : Int32)), (.int (97 : Int32)), (.int (115 : Int32)), (.int (115 : Int32)), (.int (105 : Int32)), (.int (99 : Int32))]) (z := (7 : Int32)) ⟨by decide +kernel, by decide +kernel⟩ (by decide) rfl (g := (mkF m 103 #[iv p1, .val (.long p2), .second, iv p3, iv kd, iv sh, iv ps, iv c1, iv c2, rv b97, .val .null, .val .null, .unset] [(.ref b97)])) rfl (hb hby at_103) (n := 28) (by decide +kernel) (by decide) (by decide) (by decide)
            replace Sf_b97 := CHr.safe A166 Ex_b97.lt Sf_b97
            replace O := O.ext E166
            replace Kp := Kp.ext E166
            replace V_b12 := V_b12.ext E166
            replace Ex_b97 := Ex_b97.ext E166
            replace Fc138 := Fc138.ext E166
            replace Fv138 := Fv138.ext E166
            replace Vt138 := Vt138.ext E166
            replace Rc := Rc.trans A166
            replace hS := hS166
            replace hk := hk166
            replace hZ := hZ166
            replace hown := hown166
            refine own_goW st166 ?_
            have ne_b97_a166 := (Sn166 b97 Sf_b97).1
            have ne_b97_b166 := (Sn166 b97 Sf_b97).2
            show own_GoW p e below s _ _ _ _ (T166.setTop (mkF m 105 #[iv p1, .val (.long p2), .second, iv p3, iv kd, iv sh, iv ps, iv c1, iv c2, rv b97, .val .null, .val .null, .unset] [(.ref a166), (.ref b97)]))
            obtain ⟨cq167, kq167, qa167, qb167, qc167⟩ := isOf hZ e166 Ex_b97
            obtain ⟨_, _, ⟨T167, L167, k167, n167⟩, -, X167, ⟨Lc167, hQ167, l167, y167, z167⟩, st167⟩ := X166.virtualBack hx (y := (⟨"java/lang/String", "equals", "(Ljava/lang/Object;)Z"⟩ : MethodName)) (z := (⟨"java/lang/String", "equals", "(Ljava/lang/Object;)Z"⟩ : MethodName)) hown (mvT hZ (hw _ (List.mem_of_getElem? (i := 70) rfl))) (mvT hZ (hw _ (List.mem_of_getElem? (i := 58) rfl))) (notFace_of_selects (args := #[]) (mvT hZ (hw _ (List.mem_of_getElem? (i := 60) rfl)))) (mvT hZ (hw _ (List.mem_of_getElem? (i := 60) rfl))) (mvT hZ (hw _ (List.mem_of_getElem? (i := 59) rfl))) (by decide) (backOf (W := 0) (own_req l Z a0 hw [] b97 a166 o_COMPACT_STRINGS t138 b166 kb138 k166 (Int32.ofNat cs12.length) (7 : Int32) (cs12.map (fun c => c.toInt8.toInt32)) [(99 : Int32), (108 : Int32), (97 : Int32), (115 : Int32), (115 : Int32), (105 : Int32), (99 : Int32)] h166 n0 (Nat.le_trans Z0 Kp.1) O S_o_COMPACT_STRINGS Ex_b97 Fv138 Fc138 Vt138 Ex_a166 Fv_a166 Fc_a166 Va_b166 nz_o_COMPACT_STRINGS hxl rfl) hZ (hw _ (List.mem_of_getElem? (i := 61) rfl)) (hw _ (List.mem_of_getElem? (i := 7) rfl)) (by decide) (by decide)) qa167 qc167 (g := (mkF m 105 #[iv p1, .val (.long p2), .second, iv p3, iv kd, iv sh, iv ps, iv c1, iv c2, rv b97, .val .null, .val .null, .unset] [(.ref a166), (.ref b97)])) rfl (by rw [hml]; rfl) (Steps.refl _) (argsL := [(.ref a166)]) (rest := []) (lenOf own_pd__Ljava_lang_Object__Z rfl) rfl (by show 2 * 0 + _ ≤ _; exact Nat.le_of_eq rfl) (hb hby at_105) (fun _ _ => ⟨rfl, e166, (by decide : 6 + 0 ≤ _), (by decide : 54 + 0 ≤ _)⟩)
            dsimp only [Pt.U, Pt.locs, Pt.cells, Pt.slots] at X167 l167 y167 z167 st167 hQ167
            subst l167 y167 z167
            obtain ⟨hv167, Nq167, e167⟩ := hQ167
            rw [show own_eqv _ _ = (0 : Int32) from if_neg (fun q => hC q.symm)] at hv167
            subst hv167
            have N167 := Fr.app N165 Nq167
            refine own_goW (fun zt zk => st167.trans zk) ?_
            show own_GoW p e below s _ _ _ _ (T167.setTop (mkF m 108 #[iv p1, .val (.long p2), .second, iv p3, iv kd, iv sh, iv ps, iv c1, iv c2, rv b97, .val .null, .val .null, .unset] [(.int (0 : Int32))]))
            refine own_goW (fun zt zk => (XS.ifYes X167.here hx rfl (pc0 := 108) (pc' := 119) rfl (hb hby at_108) rfl ((if0 _ _).trans (teq (rfl : (0 : Int32) = (0 : Int32))).1) (by decide) (by decide) (XS.aload X167.here hx rfl (hb hby at_119) rfl rfl zk))) ?_
            show own_GoW p e below s _ _ _ _ (T167.setTop (mkF m 121 #[iv p1, .val (.long p2), .second, iv p3, iv kd, iv sh, iv ps, iv c1, iv c2, rv b97, .val .null, .val .null, .unset] [(.ref b97)]))
            obtain ⟨a168, T168, h168, q168, b168, k168, X168, e168, E168, hS168, hk168, hZ168, hown168, Ex_a168, Fc_a168, Fv_a168, Va_b168, lta168, ltb168, A168, Li168, Sn168, st168⟩ := ldcCH X167 hx hZ hown (hw _ (List.mem_of_getElem? (i := 71) rfl)) wS e167 hS hk hEL (by decide +kernel) Rc.1 (vs := [(.int (116 : Int32)), (.int (105 : Int32)), (.int (101 : Int32)), (.int (114 : Int32)), (.int (101 : Int32)), (.int (100 : Int32))]) (z := (6 : Int32)) ⟨by decide +kernel, by decide +kernel⟩ (by decide) rfl (g := (mkF m 121 #[iv p1, .val (.long p2), .second, iv p3, iv kd, iv sh, iv ps, iv c1, iv c2, rv b97, .val .null, .val .null, .unset] [(.ref b97)])) rfl (hb hby at_121) (n := 24) (by decide +kernel) (by decide) (by decide) (by decide)
            replace Sf_b97 := CHr.safe A168 Ex_b97.lt Sf_b97
            replace O := O.ext E168
            replace Kp := Kp.ext E168
            replace V_b12 := V_b12.ext E168
            replace Ex_b97 := Ex_b97.ext E168
            replace Fc138 := Fc138.ext E168
            replace Fv138 := Fv138.ext E168
            replace Vt138 := Vt138.ext E168
            replace Ex_a166 := Ex_a166.ext E168
            replace Fc_a166 := Fc_a166.ext E168
            replace Fv_a166 := Fv_a166.ext E168
            replace Va_b166 := Va_b166.ext E168
            replace Rc := Rc.trans A168
            replace hS := hS168
            replace hk := hk168
            replace hZ := hZ168
            replace hown := hown168
            refine own_goW st168 ?_
            have ne_b97_a168 := (Sn168 b97 Sf_b97).1
            have ne_b97_b168 := (Sn168 b97 Sf_b97).2
            show own_GoW p e below s _ _ _ _ (T168.setTop (mkF m 123 #[iv p1, .val (.long p2), .second, iv p3, iv kd, iv sh, iv ps, iv c1, iv c2, rv b97, .val .null, .val .null, .unset] [(.ref a168), (.ref b97)]))
            obtain ⟨cq169, kq169, qa169, qb169, qc169⟩ := isOf hZ e168 Ex_b97
            obtain ⟨_, _, ⟨T169, L169, k169, n169⟩, -, X169, ⟨Lc169, hQ169, l169, y169, z169⟩, st169⟩ := X168.virtualBack hx (y := (⟨"java/lang/String", "equals", "(Ljava/lang/Object;)Z"⟩ : MethodName)) (z := (⟨"java/lang/String", "equals", "(Ljava/lang/Object;)Z"⟩ : MethodName)) hown (mvT hZ (hw _ (List.mem_of_getElem? (i := 70) rfl))) (mvT hZ (hw _ (List.mem_of_getElem? (i := 58) rfl))) (notFace_of_selects (args := #[]) (mvT hZ (hw _ (List.mem_of_getElem? (i := 60) rfl)))) (mvT hZ (hw _ (List.mem_of_getElem? (i := 60) rfl))) (mvT hZ (hw _ (List.mem_of_getElem? (i := 59) rfl))) (by decide) (backOf (W := 0) (own_req l Z a0 hw [] b97 a168 o_COMPACT_STRINGS t138 b168 kb138 k168 (Int32.ofNat cs12.length) (6 : Int32) (cs12.map (fun c => c.toInt8.toInt32)) [(116 : Int32), (105 : Int32), (101 : Int32), (114 : Int32), (101 : Int32), (100 : Int32)] h168 n0 (Nat.le_trans Z0 Kp.1) O S_o_COMPACT_STRINGS Ex_b97 Fv138 Fc138 Vt138 Ex_a168 Fv_a168 Fc_a168 Va_b168 nz_o_COMPACT_STRINGS hxl rfl) hZ (hw _ (List.mem_of_getElem? (i := 61) rfl)) (hw _ (List.mem_of_getElem? (i := 7) rfl)) (by decide) (by decide)) qa169 qc169 (g := (mkF m 123 #[iv p1, .val (.long p2), .second, iv p3, iv kd, iv sh, iv ps, iv c1, iv c2, rv b97, .val .null, .val .null, .unset] [(.ref a168), (.ref b97)])) rfl (by rw [hml]; rfl) (Steps.refl _) (argsL := [(.ref a168)]) (rest := []) (lenOf own_pd__Ljava_lang_Object__Z rfl) rfl (by show 2 * 0 + _ ≤ _; exact Nat.le_of_eq rfl) (hb hby at_123) (fun _ _ => ⟨rfl, e168, (by decide : 8 + 0 ≤ _), (by decide : 82 + 0 ≤ _)⟩)
            dsimp only [Pt.U, Pt.locs, Pt.cells, Pt.slots] at X169 l169 y169 z169 st169 hQ169
            subst l169 y169 z169
            obtain ⟨hv169, Nq169, e169⟩ := hQ169
            rw [show own_eqv _ _ = (0 : Int32) from if_neg (fun q => hT q.symm)] at hv169
            subst hv169
            have N169 := Fr.app N167 Nq169
            refine own_goW (fun zt zk => st169.trans zk) ?_
            show own_GoW p e below s _ _ _ _ (T169.setTop (mkF m 126 #[iv p1, .val (.long p2), .second, iv p3, iv kd, iv sh, iv ps, iv c1, iv c2, rv b97, .val .null, .val .null, .unset] [(.int (0 : Int32))]))
            refine own_goW (fun zt zk => (XS.ifYes X169.here hx rfl (pc0 := 126) (pc' := 134) rfl (hb hby at_126) rfl ((if0 _ _).trans (teq (rfl : (0 : Int32) = (0 : Int32))).1) (by decide) (by decide) zk)) ?_
            show own_GoW p e below s _ _ _ _ (T169.setTop (mkF m 134 #[iv p1, .val (.long p2), .second, iv p3, iv kd, iv sh, iv ps, iv c1, iv c2, rv b97, .val .null, .val .null, .unset] []))
            obtain ⟨T170, X170, e170, st170⟩ := getS2 X169 hx hZ hown (host := "") (Or.inl (hw _ (List.mem_of_getElem? (i := 72) rfl))) Via.refl e169 (S_o_CLASSIC.ext O.2) (g := (mkF m 134 #[iv p1, .val (.long p2), .second, iv p3, iv kd, iv sh, iv ps, iv c1, iv c2, rv b97, .val .null, .val .null, .unset] [])) rfl (hb hby at_134)
            refine own_goW st170 ?_
            show own_GoW p e below s _ _ _ _ (T170.setTop (mkF m 137 #[iv p1, .val (.long p2), .second, iv p3, iv kd, iv sh, iv ps, iv c1, iv c2, rv b97, .val .null, .val .null, .unset] [(.ref o_CLASSIC)]))
            obtain ⟨cq171, kq171, qa171, qb171, qc171⟩ := isOf hZ e170 (Ex_o_CLASSIC.ext O.2)
            obtain ⟨_, _, ⟨T171, L171, k171, n171⟩, -, X171, ⟨Lc171, hQ171, l171, y171, z171⟩, st171⟩ := X170.virtualBack hx (y := (⟨"com/example/riskscan/riskscan/model/Profile", "code", "()Ljava/lang/String;"⟩ : MethodName)) (z := (⟨"com/example/riskscan/riskscan/model/Profile", "code", "()Ljava/lang/String;"⟩ : MethodName)) hown (mvT hZ (hw _ (List.mem_of_getElem? (i := 73) rfl))) (mvT hZ (hw _ (List.mem_of_getElem? (i := 74) rfl))) (notFace_of_selects (args := #[]) (mvT hZ (hw _ (List.mem_of_getElem? (i := 76) rfl)))) (mvT hZ (hw _ (List.mem_of_getElem? (i := 76) rfl))) (mvT hZ (hw _ (List.mem_of_getElem? (i := 75) rfl))) (by decide) (backOf (W := 0) (own_gcode l Z a0 hw [] o_CLASSIC o_CLASSIC_code h168 n0 (Nat.le_trans Z0 Kp.1) (F_o_CLASSIC_code.ext O.2)) hZ (hw _ (List.mem_of_getElem? (i := 77) rfl)) (hw _ (List.mem_of_getElem? (i := 36) rfl)) (by decide) (by decide)) qa171 qc171 (g := (mkF m 137 #[iv p1, .val (.long p2), .second, iv p3, iv kd, iv sh, iv ps, iv c1, iv c2, rv b97, .val .null, .val .null, .unset] [(.ref o_CLASSIC)])) rfl (by rw [hml]; rfl) (Steps.refl _) (argsL := []) (rest := []) (lenOf own_pd___Ljava_lang_String_ rfl) rfl (by show 2 * 0 + _ ≤ _; exact Nat.le_of_eq rfl) (hb hby at_137) (fun _ _ => ⟨rfl, e170, (by decide : 8 + 0 ≤ _), (by decide : 82 + 0 ≤ _)⟩)
            dsimp only [Pt.U, Pt.locs, Pt.cells, Pt.slots] at X171 l171 y171 z171 st171 hQ171
            subst l171 y171 z171
            obtain ⟨rfl, Nq171, e171⟩ := hQ171
            have N171 := Fr.app N169 Nq171
            refine own_goW (fun zt zk => st171.trans zk) ?_
            show own_GoW p e below s _ _ _ _ (T171.setTop (mkF m 140 #[iv p1, .val (.long p2), .second, iv p3, iv kd, iv sh, iv ps, iv c1, iv c2, rv b97, .val .null, .val .null, .unset] [(.ref o_CLASSIC_code)]))
            obtain ⟨_, _, ⟨T172, L172, k172, n172⟩, -, X172, ⟨Lc172, hQ172, l172, y172, z172⟩, st172⟩ := Jvm.LawKit.callS X171 hx (y := (⟨"com/example/riskscan/riskscan/model/Profile", "ofCode", "(Ljava/lang/String;)Lcom/example/riskscan/riskscan/model/Profile;"⟩ : MethodName)) hown (mvT hZ (hw _ (List.mem_of_getElem? (i := 34) rfl))) (mvT hZ (hw _ (List.mem_of_getElem? (i := 35) rfl))) (mvT hZ (hw _ (List.mem_of_getElem? (i := 36) rfl))) (mvT hZ (hw _ (List.mem_of_getElem? (i := 37) rfl))) (by decide) (backOf (W := 0) (own_rof0 l Z a0 hw [] o_CLASSIC_code o_CLASSIC_code_value k_o_CLASSIC_code_value (7 : Int32) [(99 : Int32), (108 : Int32), (97 : Int32), (115 : Int32), (115 : Int32), (105 : Int32), (99 : Int32)] o_COMPACT_STRINGS o__VALUES k_o__VALUES o_CLASSIC o_CLASSIC_code o_CLASSIC_code_value k_o_CLASSIC_code_value o_TIERED o_TIERED_code o_TIERED_code_value k_o_TIERED_code_value h168 n0 (Nat.le_trans Z0 Kp.1) O S_o_COMPACT_STRINGS S_o__VALUES V_o__VALUES Ex_o__VALUES Ex_o_CLASSIC F_o_CLASSIC_code Ex_o_CLASSIC_code F_o_CLASSIC_code_coder F_o_CLASSIC_code_value V_o_CLASSIC_code_value Ex_o_TIERED F_o_TIERED_code Ex_o_TIERED_code F_o_TIERED_code_coder F_o_TIERED_code_value V_o_TIERED_code_value (Ex_o_CLASSIC_code.ext O.2) (F_o_CLASSIC_code_value.ext O.2) (F_o_CLASSIC_code_coder.ext O.2) (V_o_CLASSIC_code_value.ext O.2) nz_o_COMPACT_STRINGS rfl rfl) hZ (hw _ (List.mem_of_getElem? (i := 37) rfl)) (hw _ (List.mem_of_getElem? (i := 36) rfl)) (by decide) (by decide)) (g := (mkF m 140 #[iv p1, .val (.long p2), .second, iv p3, iv kd, iv sh, iv ps, iv c1, iv c2, rv b97, .val .null, .val .null, .unset] [(.ref o_CLASSIC_code)])) rfl (by rw [hml]; rfl) (argsL := [(.ref o_CLASSIC_code)]) (rest := []) (lenOf own_pd__Ljava_lang_String__Lcom_example_riskscan_riskscan_model_Profile_ rfl) rfl (by show 2 * 0 + _ ≤ _; exact Nat.le_of_eq rfl) (hb hby at_140) (fun _ _ => ⟨rfl, e171, (by decide : 8 + 1 ≤ _), (by decide : 82 + 2 ≤ _)⟩)
            dsimp only [Pt.U, Pt.locs, Pt.cells, Pt.slots] at X172 l172 y172 z172 st172 hQ172
            subst l172 y172 z172
            obtain ⟨rfl, Nq172, K172⟩ := hQ172
            have N172 := Fr.app N171 Nq172
            refine own_goW st172 ?_
            have Sf_b97' := Safe.keep K172 all0 Rc.1 Sf_b97
            replace Rc := Rc.trans (CHr.keep K172 all0 Rc.1)
            replace hk := Nat.le_trans hk K172.1
            replace Sf_b97 := Sf_b97'
            replace O := O.keep K172 all0
            replace Kp := Kp.trans K172 all0
            replace V_b12 := V_b12.keep K172 nin0
            replace Ex_b97 := Ex_b97.keep K172
            replace Fc138 := Fc138.keep K172 nin0
            replace Fv138 := Fv138.keep K172 nin0
            replace Vt138 := Vt138.keep K172 nin0
            replace Ex_a166 := Ex_a166.keep K172
            replace Fc_a166 := Fc_a166.keep K172 nin0
            replace Fv_a166 := Fv_a166.keep K172 nin0
            replace Va_b166 := Va_b166.keep K172 nin0
            replace Ex_a168 := Ex_a168.keep K172
            replace Fc_a168 := Fc_a168.keep K172 nin0
            replace Fv_a168 := Fv_a168.keep K172 nin0
            replace Va_b168 := Va_b168.keep K172 nin0
            show own_GoW p e below s _ _ _ _ (T172.setTop (mkF m 143 #[iv p1, .val (.long p2), .second, iv p3, iv kd, iv sh, iv ps, iv c1, iv c2, rv b97, .val .null, .val .null, .unset] [(.ref o_CLASSIC)]))
            obtain ⟨T173, X173, e173, st173⟩ := getS2 X172 hx hZ hown (host := "") (Or.inl (hw _ (List.mem_of_getElem? (i := 72) rfl))) Via.refl rfl (S_o_CLASSIC.ext O.2) (g := (mkF m 143 #[iv p1, .val (.long p2), .second, iv p3, iv kd, iv sh, iv ps, iv c1, iv c2, rv b97, .val .null, .val .null, .unset] [(.ref o_CLASSIC)])) rfl (hb hby at_143)
            refine own_goW st173 ?_
            show own_GoW p e below s _ _ _ _ (T173.setTop (mkF m 146 #[iv p1, .val (.long p2), .second, iv p3, iv kd, iv sh, iv ps, iv c1, iv c2, rv b97, .val .null, .val .null, .unset] [(.ref o_CLASSIC), (.ref o_CLASSIC)]))
            refine own_goW (fun zt zk => Jvm.RoadKit.acmp (g := (mkF m 146 #[iv p1, .val (.long p2), .second, iv p3, iv kd, iv sh, iv ps, iv c1, iv c2, rv b97, .val .null, .val .null, .unset] [(.ref o_CLASSIC), (.ref o_CLASSIC)])) X173 hx rfl rfl rfl (pc0 := 146) (pc' := 149) (same := true) rfl (hb hby at_146) rfl (decide_eq_true rfl) (by decide) (by decide) zk) ?_
            show own_GoW p e below s _ _ _ _ (T173.setTop (mkF m 149 #[iv p1, .val (.long p2), .second, iv p3, iv kd, iv sh, iv ps, iv c1, iv c2, rv b97, .val .null, .val .null, .unset] []))
            obtain ⟨T174, X174, e174, st174⟩ := getS2 X173 hx hZ hown (host := "") (Or.inl (hw _ (List.mem_of_getElem? (i := 78) rfl))) Via.refl e173 (S_o_TIERED.ext O.2) (g := (mkF m 149 #[iv p1, .val (.long p2), .second, iv p3, iv kd, iv sh, iv ps, iv c1, iv c2, rv b97, .val .null, .val .null, .unset] [])) rfl (hb hby at_149)
            refine own_goW st174 ?_
            show own_GoW p e below s _ _ _ _ (T174.setTop (mkF m 152 #[iv p1, .val (.long p2), .second, iv p3, iv kd, iv sh, iv ps, iv c1, iv c2, rv b97, .val .null, .val .null, .unset] [(.ref o_TIERED)]))
            obtain ⟨cq175, kq175, qa175, qb175, qc175⟩ := isOf hZ e174 (Ex_o_TIERED.ext O.2)
            obtain ⟨_, _, ⟨T175, L175, k175, n175⟩, -, X175, ⟨Lc175, hQ175, l175, y175, z175⟩, st175⟩ := X174.virtualBack hx (y := (⟨"com/example/riskscan/riskscan/model/Profile", "code", "()Ljava/lang/String;"⟩ : MethodName)) (z := (⟨"com/example/riskscan/riskscan/model/Profile", "code", "()Ljava/lang/String;"⟩ : MethodName)) hown (mvT hZ (hw _ (List.mem_of_getElem? (i := 73) rfl))) (mvT hZ (hw _ (List.mem_of_getElem? (i := 74) rfl))) (notFace_of_selects (args := #[]) (mvT hZ (hw _ (List.mem_of_getElem? (i := 76) rfl)))) (mvT hZ (hw _ (List.mem_of_getElem? (i := 76) rfl))) (mvT hZ (hw _ (List.mem_of_getElem? (i := 75) rfl))) (by decide) (backOf (W := 0) (own_gcode l Z a0 hw [] o_TIERED o_TIERED_code T172.heap n0 (Nat.le_trans Z0 Kp.1) (F_o_TIERED_code.ext O.2)) hZ (hw _ (List.mem_of_getElem? (i := 77) rfl)) (hw _ (List.mem_of_getElem? (i := 36) rfl)) (by decide) (by decide)) qa175 qc175 (g := (mkF m 152 #[iv p1, .val (.long p2), .second, iv p3, iv kd, iv sh, iv ps, iv c1, iv c2, rv b97, .val .null, .val .null, .unset] [(.ref o_TIERED)])) rfl (by rw [hml]; rfl) (Steps.refl _) (argsL := []) (rest := []) (lenOf own_pd___Ljava_lang_String_ rfl) rfl (by show 2 * 0 + _ ≤ _; exact Nat.le_of_eq rfl) (hb hby at_152) (fun _ _ => ⟨rfl, e174, (by decide : 9 + 0 ≤ _), (by decide : 84 + 0 ≤ _)⟩)
            dsimp only [Pt.U, Pt.locs, Pt.cells, Pt.slots] at X175 l175 y175 z175 st175 hQ175
            subst l175 y175 z175
            obtain ⟨rfl, Nq175, e175⟩ := hQ175
            have N175 := Fr.app N172 Nq175
            refine own_goW (fun zt zk => st175.trans zk) ?_
            show own_GoW p e below s _ _ _ _ (T175.setTop (mkF m 155 #[iv p1, .val (.long p2), .second, iv p3, iv kd, iv sh, iv ps, iv c1, iv c2, rv b97, .val .null, .val .null, .unset] [(.ref o_TIERED_code)]))
            obtain ⟨_, _, ⟨T176, L176, k176, n176⟩, -, X176, ⟨Lc176, hQ176, l176, y176, z176⟩, st176⟩ := Jvm.LawKit.callS X175 hx (y := (⟨"com/example/riskscan/riskscan/model/Profile", "ofCode", "(Ljava/lang/String;)Lcom/example/riskscan/riskscan/model/Profile;"⟩ : MethodName)) hown (mvT hZ (hw _ (List.mem_of_getElem? (i := 34) rfl))) (mvT hZ (hw _ (List.mem_of_getElem? (i := 35) rfl))) (mvT hZ (hw _ (List.mem_of_getElem? (i := 36) rfl))) (mvT hZ (hw _ (List.mem_of_getElem? (i := 37) rfl))) (by decide) (backOf (W := 0) (own_rof1 l Z a0 hw [] o_TIERED_code o_TIERED_code_value k_o_TIERED_code_value (6 : Int32) [(116 : Int32), (105 : Int32), (101 : Int32), (114 : Int32), (101 : Int32), (100 : Int32)] o_COMPACT_STRINGS o__VALUES k_o__VALUES o_CLASSIC o_CLASSIC_code o_CLASSIC_code_value k_o_CLASSIC_code_value o_TIERED o_TIERED_code o_TIERED_code_value k_o_TIERED_code_value T172.heap n0 (Nat.le_trans Z0 Kp.1) O S_o_COMPACT_STRINGS S_o__VALUES V_o__VALUES Ex_o__VALUES Ex_o_CLASSIC F_o_CLASSIC_code Ex_o_CLASSIC_code F_o_CLASSIC_code_coder F_o_CLASSIC_code_value V_o_CLASSIC_code_value Ex_o_TIERED F_o_TIERED_code Ex_o_TIERED_code F_o_TIERED_code_coder F_o_TIERED_code_value V_o_TIERED_code_value (Ex_o_TIERED_code.ext O.2) (F_o_TIERED_code_value.ext O.2) (F_o_TIERED_code_coder.ext O.2) (V_o_TIERED_code_value.ext O.2) nz_o_COMPACT_STRINGS rfl (by decide) rfl) hZ (hw _ (List.mem_of_getElem? (i := 37) rfl)) (hw _ (List.mem_of_getElem? (i := 36) rfl)) (by decide) (by decide)) (g := (mkF m 155 #[iv p1, .val (.long p2), .second, iv p3, iv kd, iv sh, iv ps, iv c1, iv c2, rv b97, .val .null, .val .null, .unset] [(.ref o_TIERED_code)])) rfl (by rw [hml]; rfl) (argsL := [(.ref o_TIERED_code)]) (rest := []) (lenOf own_pd__Ljava_lang_String__Lcom_example_riskscan_riskscan_model_Profile_ rfl) rfl (by show 2 * 0 + _ ≤ _; exact Nat.le_of_eq rfl) (hb hby at_155) (fun _ _ => ⟨rfl, e175, (by decide : 9 + 1 ≤ _), (by decide : 84 + 2 ≤ _)⟩)
            dsimp only [Pt.U, Pt.locs, Pt.cells, Pt.slots] at X176 l176 y176 z176 st176 hQ176
            subst l176 y176 z176
            obtain ⟨rfl, Nq176, K176⟩ := hQ176
            have N176 := Fr.app N175 Nq176
            refine own_goW st176 ?_
            have Sf_b97' := Safe.keep K176 all0 Rc.1 Sf_b97
            replace Rc := Rc.trans (CHr.keep K176 all0 Rc.1)
            replace hk := Nat.le_trans hk K176.1
            replace Sf_b97 := Sf_b97'
            replace O := O.keep K176 all0
            replace Kp := Kp.trans K176 all0
            replace V_b12 := V_b12.keep K176 nin0
            replace Ex_b97 := Ex_b97.keep K176
            replace Fc138 := Fc138.keep K176 nin0
            replace Fv138 := Fv138.keep K176 nin0
            replace Vt138 := Vt138.keep K176 nin0
            replace Ex_a166 := Ex_a166.keep K176
            replace Fc_a166 := Fc_a166.keep K176 nin0
            replace Fv_a166 := Fv_a166.keep K176 nin0
            replace Va_b166 := Va_b166.keep K176 nin0
            replace Ex_a168 := Ex_a168.keep K176
            replace Fc_a168 := Fc_a168.keep K176 nin0
            replace Fv_a168 := Fv_a168.keep K176 nin0
            replace Va_b168 := Va_b168.keep K176 nin0
            show own_GoW p e below s _ _ _ _ (T176.setTop (mkF m 158 #[iv p1, .val (.long p2), .second, iv p3, iv kd, iv sh, iv ps, iv c1, iv c2, rv b97, .val .null, .val .null, .unset] [(.ref o_TIERED)]))
            obtain ⟨T177, X177, e177, st177⟩ := getS2 X176 hx hZ hown (host := "") (Or.inl (hw _ (List.mem_of_getElem? (i := 78) rfl))) Via.refl rfl (S_o_TIERED.ext O.2) (g := (mkF m 158 #[iv p1, .val (.long p2), .second, iv p3, iv kd, iv sh, iv ps, iv c1, iv c2, rv b97, .val .null, .val .null, .unset] [(.ref o_TIERED)])) rfl (hb hby at_158)
            refine own_goW st177 ?_
            show own_GoW p e below s _ _ _ _ (T177.setTop (mkF m 161 #[iv p1, .val (.long p2), .second, iv p3, iv kd, iv sh, iv ps, iv c1, iv c2, rv b97, .val .null, .val .null, .unset] [(.ref o_TIERED), (.ref o_TIERED)]))
            refine own_goW (fun zt zk => Jvm.RoadKit.acmp (g := (mkF m 161 #[iv p1, .val (.long p2), .second, iv p3, iv kd, iv sh, iv ps, iv c1, iv c2, rv b97, .val .null, .val .null, .unset] [(.ref o_TIERED), (.ref o_TIERED)])) X177 hx rfl rfl rfl (pc0 := 161) (pc' := 164) (same := true) rfl (hb hby at_161) rfl (decide_eq_true rfl) (by decide) (by decide) zk) ?_
            show own_GoW p e below s _ _ _ _ (T177.setTop (mkF m 164 #[iv p1, .val (.long p2), .second, iv p3, iv kd, iv sh, iv ps, iv c1, iv c2, rv b97, .val .null, .val .null, .unset] []))
            refine own_goW (fun zt zk => (XS.iconst X177.here hx rfl (hb hby at_164) (XS.goto X177.here hx rfl (pc0 := 165) (pc' := 169) rfl (hb hby at_165) (by decide) (by decide) (XS.istore X177.here hx rfl (hb hby at_169) rfl (l' := #[iv p1, .val (.long p2), .second, iv p3, iv kd, iv sh, iv ps, iv c1, iv c2, rv b97, .val .null, .val .null, iv (1 : Int32)]) rfl (XS.aload X177.here hx rfl (hb hby at_171) rfl rfl (XS.aload X177.here hx rfl (hb hby at_173) rfl rfl zk)))))) ?_
            show own_GoW p e below s _ _ _ _ (T177.setTop (mkF m 175 #[iv p1, .val (.long p2), .second, iv p3, iv kd, iv sh, iv ps, iv c1, iv c2, rv b97, .val .null, .val .null, iv (1 : Int32)] [.null, .null]))
            refine own_goW (fun zt zk => Jvm.RoadKit.acmp (g := (mkF m 175 #[iv p1, .val (.long p2), .second, iv p3, iv kd, iv sh, iv ps, iv c1, iv c2, rv b97, .val .null, .val .null, iv (1 : Int32)] [.null, .null])) X177 hx rfl rfl rfl (pc0 := 175) (pc' := 178) (same := true) rfl (hb hby at_175) rfl (decide_eq_true rfl) (by decide) (by decide) zk) ?_
            show own_GoW p e below s _ _ _ _ (T177.setTop (mkF m 178 #[iv p1, .val (.long p2), .second, iv p3, iv kd, iv sh, iv ps, iv c1, iv c2, rv b97, .val .null, .val .null, iv (1 : Int32)] []))
            refine own_goW (fun zt zk => (XS.iload X177.here hx rfl (hb hby at_178) rfl (XS.ifNo X177.here hx rfl (hb hby at_180) rfl ((if0 _ _).trans (feq ((by decide) : ¬ ((1 : Int32) = (0 : Int32)))).1) (XS.iconst X177.here hx rfl (hb hby at_183) (XS.goto X177.here hx rfl (pc0 := 184) (pc' := 188) rfl (hb hby at_184) (by decide) (by decide) zk))))) ?_
            show own_GoW p e below s _ _ _ _ (T177.setTop (mkF m 188 #[iv p1, .val (.long p2), .second, iv p3, iv kd, iv sh, iv ps, iv c1, iv c2, rv b97, .val .null, .val .null, iv (1 : Int32)] [(.int (1 : Int32))]))
            have Re := Rc.trans (CHv.at X177 hZ hEL Rc.1)
            exact own_finW X177 hS (by rw [e177]; exact hk) (by rw [e177, hh]; exact Re) Bd.notSynchronized (fun h => by rw [Bd.returns] at h; cases h) (fun fs hr => retN X177 hx (t := .boolean) Bd.returns (by simp) (hb hby at_188) hr) (by rw [e177]; exact ⟨rfl, N176⟩) (by decide) (by decide)
set_option maxRecDepth 65536 in
set_option maxHeartbeats 40000000 in
theorem comes_1 {Post : Tables → Env → Array Value → State → Outcome → State → Prop} (hpost : ∀ tb e args s v u, (limb_1_1.after args s (.returned v) u = true ∧ limb_1_2.after args s (.returned v) u = true ∧ True) → ReturnedEndW s (.returned v) u (Jvm.fieldLocs frame_1_writes args s ++ Jvm.arrayLocs frame_1_arrays args s ++ Jvm.staticLocs frame_1_statics s) 32 3200 → Post tb e args s (.returned v) u) :
    ArmFor flags0 classFile x code maxLocals ret World_1 tables_1 room_1 Calls_1 rest_1 Pre_1 Post := by
  intro l hfl _ _ p e ha hc hk s m args below hf hA hF happ hP
  obtain ⟨hcalls, hrest, hpre⟩ := hP
  obtain ⟨-, -, -, hnamed, -, -, -, hat⟩ := (Spec.applies_iff hf).mp happ
  obtain ⟨hg, hn⟩ := and_e (Cond.before_iff.mp (show (Jvm.Cond.and given_1 narrow_1).before args s = true from hpre))
  obtain ⟨g0, r0⟩ := and_e hg
  obtain ⟨g1, r1⟩ := and_e r0
  obtain ⟨g2, r2⟩ := and_e r1
  have g3 := r2
  obtain ⟨w0, w1, w2, rfl⟩ : ∃ w0 w1 w2 : Value, args = #[w0, w1, w2] := by
    have hs : args.size = 3 := by simpa [Cond.value, given_1] using g0
    obtain ⟨L⟩ := args
    match L, hs with
    | [w0, w1, w2], _ => exact ⟨w0, w1, w2, rfl⟩
  have hw := fun d (hd : d ∈ tables_1) => atoms_spec (ws := Jvm.Cond.code x code maxLocals ret :: tables_1) hat d (List.mem_cons_of_mem _ hd)
  have hfit : Fit s := fun {y c} hc i hi => by
    obtain ⟨ha, rfl⟩ := Array.getElem?_eq_some_iff.mp hc
    have q := List.all_eq_true.mp ((Array.all_eq_true_iff_forall_mem.mp hF) _ (Array.getElem_mem ha)) i (List.mem_range.mpr hi)
    simpa [Array.getElem?_eq_getElem hi] using q
  obtain ⟨hsets, hown0⟩ := atoms_of _ (rest_1_c_eq ▸ (show rest_1_c.before _ s = true from hrest))
  obtain ⟨i0, ei0⟩ := is_v g1
  obtain rfl : w0 = (.int i0) := Option.some.inj ei0
  obtain ⟨i1, ei1⟩ := isL_v g2
  obtain rfl : w1 = (.long i1) := Option.some.inj ei1
  obtain ⟨i2, ei2⟩ := is_v g3
  obtain rfl : w2 = (.int i2) := Option.some.inj ei2
  obtain ⟨n0, m0⟩ := and_e hn
  obtain ⟨n1, m1⟩ := and_e m0
  obtain ⟨n2, m2⟩ := and_e m1
  obtain ⟨n3, m3⟩ := and_e m2
  obtain ⟨n4, m4⟩ := and_e m3
  obtain ⟨n5, m5⟩ := and_e m4
  obtain ⟨n6, m6⟩ := and_e m5
  obtain ⟨n7, m7⟩ := and_e m6
  obtain ⟨n8, m8⟩ := and_e m7
  obtain ⟨n9, m9⟩ := and_e m8
  obtain ⟨n10, m10⟩ := and_e m9
  obtain ⟨n11, m11⟩ := and_e m10
  obtain ⟨n12, m12⟩ := and_e m11
  obtain ⟨n13, m13⟩ := and_e m12
  obtain ⟨n14, m14⟩ := and_e m13
  obtain ⟨n15, m15⟩ := and_e m14
  obtain ⟨n16, m16⟩ := and_e m15
  obtain ⟨n17, m17⟩ := and_e m16
  obtain ⟨n18, m18⟩ := and_e m17
  obtain ⟨n19, m19⟩ := and_e m18
  obtain ⟨n20, m20⟩ := and_e m19
  obtain ⟨n21, m21⟩ := and_e m20
  obtain ⟨n22, m22⟩ := and_e m21
  obtain ⟨n23, m23⟩ := and_e m22
  obtain ⟨n24, m24⟩ := and_e m23
  obtain ⟨n25, m25⟩ := and_e m24
  obtain ⟨n26, m26⟩ := and_e m25
  obtain ⟨n27, m27⟩ := and_e m26
  have n28 := m27
  obtain ⟨o__VALUES, e_o__VALUES⟩ := arr_v n0
  obtain ⟨cl_o__VALUES, Ar_o__VALUES⟩ := Arr.start e_o__VALUES n0
  have S_o__VALUES := Sta.start e_o__VALUES (Or.inr ⟨hw _ (List.mem_of_getElem? (i := 36) rfl), hw _ (List.mem_of_getElem? (i := 42) rfl)⟩)
  have Ex_o__VALUES := Exa.start e_o__VALUES n1
  have Ln_o__VALUES := own_len (own_eqI n2) e_o__VALUES Ar_o__VALUES
  obtain ⟨o_CLASSIC, e_o_CLASSIC⟩ := exa_v n3
  have S_o_CLASSIC := Sta.start e_o_CLASSIC (Or.inr ⟨hw _ (List.mem_of_getElem? (i := 36) rfl), hw _ (List.mem_of_getElem? (i := 50) rfl)⟩)
  have Ex_o_CLASSIC := Exa.start e_o_CLASSIC n3
  have El_o__VALUES_0 := (elem_in (own_eqR n4 e_o_CLASSIC) e_o__VALUES (Term.int_eval 0) Ar_o__VALUES.1).2
  obtain ⟨o_TIERED, e_o_TIERED⟩ := exa_v n5
  have S_o_TIERED := Sta.start e_o_TIERED (Or.inr ⟨hw _ (List.mem_of_getElem? (i := 36) rfl), hw _ (List.mem_of_getElem? (i := 51) rfl)⟩)
  have Ex_o_TIERED := Exa.start e_o_TIERED n5
  have El_o__VALUES_1 := (elem_in (own_eqR n6 e_o_TIERED) e_o__VALUES (Term.int_eval 1) Ar_o__VALUES.1).2
  obtain ⟨o_CLASSIC_code, e_o_CLASSIC_code⟩ := exa_v n7
  have F_o_CLASSIC_code := Fld.start ((fld_at e_o_CLASSIC).symm.trans e_o_CLASSIC_code)
  have Ex_o_CLASSIC_code := Exa.start e_o_CLASSIC_code n7
  have F_o_CLASSIC_code_coder := Fld.start ((fld_at e_o_CLASSIC_code).symm.trans (own_eqI n8))
  obtain ⟨o_CLASSIC_code_value, e_o_CLASSIC_code_value⟩ := arr_v n9
  obtain ⟨cl_o_CLASSIC_code_value, Ar_o_CLASSIC_code_value⟩ := Arr.start e_o_CLASSIC_code_value n9
  have F_o_CLASSIC_code_value := Fld.start ((fld_at e_o_CLASSIC_code).symm.trans e_o_CLASSIC_code_value)
  have Ln_o_CLASSIC_code_value := own_len (own_eqI n10) e_o_CLASSIC_code_value Ar_o_CLASSIC_code_value
  obtain ⟨o_TIERED_code, e_o_TIERED_code⟩ := exa_v n11
  have F_o_TIERED_code := Fld.start ((fld_at e_o_TIERED).symm.trans e_o_TIERED_code)
  have Ex_o_TIERED_code := Exa.start e_o_TIERED_code n11
  have F_o_TIERED_code_coder := Fld.start ((fld_at e_o_TIERED_code).symm.trans (own_eqI n12))
  obtain ⟨o_TIERED_code_value, e_o_TIERED_code_value⟩ := arr_v n13
  obtain ⟨cl_o_TIERED_code_value, Ar_o_TIERED_code_value⟩ := Arr.start e_o_TIERED_code_value n13
  have F_o_TIERED_code_value := Fld.start ((fld_at e_o_TIERED_code).symm.trans e_o_TIERED_code_value)
  have Ln_o_TIERED_code_value := own_len (own_eqI n14) e_o_TIERED_code_value Ar_o_TIERED_code_value
  have ne_o_CLASSIC_code_o_TIERED_code : ¬ (o_CLASSIC_code = o_TIERED_code) := fun q => gotF (eq_R e_o_CLASSIC_code e_o_TIERED_code rfl rfl) (not_v n15) (congrArg Value.ref q)
  have El_o_CLASSIC_code_value_0 := (elem_in (own_eqI n16) e_o_CLASSIC_code_value (Term.int_eval 0) Ar_o_CLASSIC_code_value.1).2
  have El_o_CLASSIC_code_value_1 := (elem_in (own_eqI n17) e_o_CLASSIC_code_value (Term.int_eval 1) Ar_o_CLASSIC_code_value.1).2
  have El_o_CLASSIC_code_value_2 := (elem_in (own_eqI n18) e_o_CLASSIC_code_value (Term.int_eval 2) Ar_o_CLASSIC_code_value.1).2
  have El_o_CLASSIC_code_value_3 := (elem_in (own_eqI n19) e_o_CLASSIC_code_value (Term.int_eval 3) Ar_o_CLASSIC_code_value.1).2
  have El_o_CLASSIC_code_value_4 := (elem_in (own_eqI n20) e_o_CLASSIC_code_value (Term.int_eval 4) Ar_o_CLASSIC_code_value.1).2
  have El_o_CLASSIC_code_value_5 := (elem_in (own_eqI n21) e_o_CLASSIC_code_value (Term.int_eval 5) Ar_o_CLASSIC_code_value.1).2
  have El_o_CLASSIC_code_value_6 := (elem_in (own_eqI n22) e_o_CLASSIC_code_value (Term.int_eval 6) Ar_o_CLASSIC_code_value.1).2
  have El_o_TIERED_code_value_0 := (elem_in (own_eqI n23) e_o_TIERED_code_value (Term.int_eval 0) Ar_o_TIERED_code_value.1).2
  have El_o_TIERED_code_value_1 := (elem_in (own_eqI n24) e_o_TIERED_code_value (Term.int_eval 1) Ar_o_TIERED_code_value.1).2
  have El_o_TIERED_code_value_2 := (elem_in (own_eqI n25) e_o_TIERED_code_value (Term.int_eval 2) Ar_o_TIERED_code_value.1).2
  have El_o_TIERED_code_value_3 := (elem_in (own_eqI n26) e_o_TIERED_code_value (Term.int_eval 3) Ar_o_TIERED_code_value.1).2
  have El_o_TIERED_code_value_4 := (elem_in (own_eqI n27) e_o_TIERED_code_value (Term.int_eval 4) Ar_o_TIERED_code_value.1).2
  have El_o_TIERED_code_value_5 := (elem_in (own_eqI n28) e_o_TIERED_code_value (Term.int_eval 5) Ar_o_TIERED_code_value.1).2
  obtain ⟨o_COMPACT_STRINGS, e_o_COMPACT_STRINGS⟩ := is_v (Cond.before_iff.mp (hsets _ (List.mem_of_getElem? (i := 1) rfl)))
  have S_o_COMPACT_STRINGS := Sta.start e_o_COMPACT_STRINGS (Or.inl (hsets _ (List.mem_of_getElem? (i := 0) rfl)))
  have nz_o_COMPACT_STRINGS : ¬ (o_COMPACT_STRINGS = (0 : Int32)) := gotF (Cond.eq_ints e_o_COMPACT_STRINGS (Term.int_eval 0)) (not_v (Cond.before_iff.mp (hsets _ (List.mem_of_getElem? (i := 2) rfl))))
  obtain ⟨o_SIOOBE_FORMATTER, e_o_SIOOBE_FORMATTER, r_o_SIOOBE_FORMATTER⟩ := isR_v (Cond.before_iff.mp (hsets _ (List.mem_of_getElem? (i := 8) rfl)))
  have S_o_SIOOBE_FORMATTER := Sta.start e_o_SIOOBE_FORMATTER (Or.inl (hsets _ (List.mem_of_getElem? (i := 7) rfl)))
  have V_o__VALUES : Arv s s.heap o__VALUES cl_o__VALUES.cls (.object "com/example/riskscan/riskscan/model/Profile") (2 : Int32) [(.ref o_CLASSIC), (.ref o_TIERED)] .null := Arv.start hfit Ar_o__VALUES Ln_o__VALUES.1 Ln_o__VALUES.2 (by decide) rfl ⟨El_o__VALUES_0, El_o__VALUES_1, trivial⟩
  have V_o_CLASSIC_code_value : Arv s s.heap o_CLASSIC_code_value cl_o_CLASSIC_code_value.cls .byte (7 : Int32) [(.int (99 : Int32)), (.int (108 : Int32)), (.int (97 : Int32)), (.int (115 : Int32)), (.int (115 : Int32)), (.int (105 : Int32)), (.int (99 : Int32))] (.int (0 : Int32)) := Arv.start hfit Ar_o_CLASSIC_code_value Ln_o_CLASSIC_code_value.1 Ln_o_CLASSIC_code_value.2 (by decide) rfl ⟨El_o_CLASSIC_code_value_0, El_o_CLASSIC_code_value_1, El_o_CLASSIC_code_value_2, El_o_CLASSIC_code_value_3, El_o_CLASSIC_code_value_4, El_o_CLASSIC_code_value_5, El_o_CLASSIC_code_value_6, trivial⟩
  have V_o_TIERED_code_value : Arv s s.heap o_TIERED_code_value cl_o_TIERED_code_value.cls .byte (6 : Int32) [(.int (116 : Int32)), (.int (105 : Int32)), (.int (101 : Int32)), (.int (114 : Int32)), (.int (101 : Int32)), (.int (100 : Int32))] (.int (0 : Int32)) := Arv.start hfit Ar_o_TIERED_code_value Ln_o_TIERED_code_value.1 Ln_o_TIERED_code_value.2 (by decide) rfl ⟨El_o_TIERED_code_value_0, El_o_TIERED_code_value_1, El_o_TIERED_code_value_2, El_o_TIERED_code_value_3, El_o_TIERED_code_value_4, El_o_TIERED_code_value_5, trivial⟩
  have hcw : Jvm.Lit.compactW.before #[(.int i0), (.long i1), (.int i2)] s = true := hsets _ (List.mem_of_getElem? (i := 2) rfl)
  have hCH : CHv s own_EL s.vm s.heap := CHv.start (own_EW s _ hw) hcalls.1 hcw (hw _ (List.mem_of_getElem? (i := 23) rfl)) (hw _ (List.mem_of_getElem? (i := 6) rfl))
  obtain ⟨n, o, h1, h2, h3, _, L, rfl, ⟨rfl, N⟩, -, hq⟩ := own_law l s _ hw tables_1 i0 i1 i2 o__VALUES o_CLASSIC o_TIERED o_CLASSIC_code o_CLASSIC_code_value o_TIERED_code o_TIERED_code_value o_COMPACT_STRINGS o_SIOOBE_FORMATTER cl_o__VALUES.cls cl_o_CLASSIC_code_value.cls cl_o_TIERED_code_value.cls s.vm s.heap s.heap.size (Nat.le_refl _) (Old.start s) S_o__VALUES Ex_o__VALUES S_o_CLASSIC Ex_o_CLASSIC S_o_TIERED Ex_o_TIERED F_o_CLASSIC_code Ex_o_CLASSIC_code F_o_CLASSIC_code_coder F_o_CLASSIC_code_value F_o_TIERED_code Ex_o_TIERED_code F_o_TIERED_code_coder F_o_TIERED_code_value S_o_COMPACT_STRINGS S_o_SIOOBE_FORMATTER V_o__VALUES V_o_CLASSIC_code_value V_o_TIERED_code_value ne_o_CLASSIC_code_o_TIERED_code nz_o_COMPACT_STRINGS r_o_SIOOBE_FORMATTER p e ha hc hk s m _ below hf ((Spec.applies_iff_loose hf).mp happ).1 ⟨rfl, State.Warmed39.refl s, rfl, CHr.refl hCH⟩ trivial
  refine ⟨n, _, h1, h2, h3, hpost _ _ _ _ _ _ ⟨Cond.after_iff.mpr rfl, Cond.after_iff.mpr (eq_i res_at (Term.int_eval (1)) rfl), trivial⟩ ⟨hq.1, hq.2.1, hq.2.2.1, (hq.2.2.2.sift fun y hy => Or.inr (N y hy)).mono (by decide) (by decide)⟩⟩
theorem main_1_1 : Claimed_1_1 := comes_1 fun _ _ _ _ _ _ h hF => ⟨h.1, hF⟩
theorem main_1_2 : Claimed_1_2 := comes_1 fun _ _ _ _ _ _ h hF => ⟨h.2.1, hF⟩
end Jvm.Pilot.@@N@@
namespace Jvm.Pilot.@@N@@
open Jvm Jvm.ClassFile Sem Op Lib Jvm.Free Jvm.Stand Jvm.Pilot.@@N@@.Jvm.D
/-! MADE BY PROGRAM (witnessworld.py) out of the Statement's table words and the real class files: 22 classes; the members and pool entries that the words name. The judged class is class 1, her method 3. -/
namespace start1
open Jvm.ClassFile
def u (s : String) : CpInfo := .utf8 (stringToUtf16 s)
/-- a pool by its gaps: so many unusable entries, then the entry; so many at the end -/
def gap : Nat → List CpInfo → List CpInfo
  | 0, r => r
  | n + 1, r => .unusable :: gap n r
def poolList (es : List (Nat × CpInfo)) (last : Nat) : List CpInfo := es.foldr (fun e r => gap e.1 (e.2 :: r)) (gap last [])
def pool (es : List (Nat × CpInfo)) (last : Nat) : Array CpInfo := ⟨poolList es last⟩
def fileOf (pool : Array CpInfo) (this : Nat) (attrs : Array Attribute := #[]) (ms : Array MethodInfo := #[]) (fl : Nat := 33) (sup : Nat := 0) (ifs : Array Nat := #[]) (fds : Array FieldInfo := #[]) : ClassFile where
  minorVersion := 0
  majorVersion := 65
  constantPool := pool
  accessFlags := fl
  thisClass := this
  superClass := sup
  interfaces := ifs
  fields := fds
  methods := ms
  attributes := attrs
def plain (name : String) (sup : Option ClassId) : Class where
  name := name
  kind := .ordinary
  loader := none
  accessFlags := 33
  super := sup
  interfaces := #[]
  cf := none
  fields := #[]
  methods := #[]
  instanceTypes := #[]
  staticTypes := #[]
  resolved := #[]
  callSites := []
  init := .initialized
  statics := none
  mirror := none

def pool0 : Array CpInfo := pool [(5, u "<init>"), (0, u "()V"), (1, .class_ 10), (1, u "java/lang/Object"), (85, u "clone"), (0, u "()Ljava/lang/Object;")] 26

def k0c0 : Code := { maxStack := 0, maxLocals := 1, code := object_method_1_code, exceptionTable := #[], attributes := #[] }
def k0m0 : Method := { name := "<init>", desc := "()V", sig := { parameters := [], returnType := none }, accessFlags := 1, code := some k0c0 }
def k0m1 : Method := { name := "clone", desc := "()Ljava/lang/Object;", sig := { parameters := [], returnType := some (.object "java/lang/Object") }, accessFlags := 260, code := none }
/-- java/lang/Object -/
def k0 : Class := { plain "java/lang/Object" none with
  accessFlags := 33
  interfaces := #[]
  cf := some (fileOf pool0 8 #[] #[{ accessFlags := 1, nameIndex := 5, descriptorIndex := 6, attributes := #[] }, { accessFlags := 260, nameIndex := 96, descriptorIndex := 97, attributes := #[] }] 33 0 #[] #[])
  fields := #[]
  methods := #[k0m0, k0m1]
  instanceTypes := #[]
  staticTypes := #[]
  resolved := Array.replicate 124 none
  statics := none }

def pool1 : Array CpInfo := pool [(2, .class_ 4), (1, u "java/lang/Object"), (0, u "<init>"), (0, u "()V"), (0, .long 255), (1, .methodref 10 11), (0, .class_ 12), (0, .nameAndType 13 14), (0, u "com/example/riskscan/riskscan/model/ProfileOfCodePinLaw"), (0, u "ch"), (0, u "(JI)C"), (0, .methodref 10 16), (0, .nameAndType 17 18), (0, u "make"), (0, u "(IICJ)[C"), (0, .class_ 20), (0, u "java/lang/String"), (0, .methodref 19 22), (0, .nameAndType 5 23), (0, u "([C)V"), (0, .methodref 25 26), (0, .class_ 27), (0, .nameAndType 28 29), (0, u "com/example/riskscan/riskscan/model/Profile"), (0, u "ofCode"), (0, u "(Ljava/lang/String;)Lcom/example/riskscan/riskscan/model/Profile;"), (0, .string 31), (0, u "classic"), (0, .methodref 19 33), (0, .nameAndType 34 35), (0, u "equals"), (0, u "(Ljava/lang/Object;)Z"), (0, .fieldref 25 37), (0, .nameAndType 38 39), (0, u "CLASSIC"), (0, u "Lcom/example/riskscan/riskscan/model/Profile;"), (0, .string 41), (0, u "tiered"), (0, .fieldref 25 43), (0, .nameAndType 44 39), (0, u "TIERED"), (0, .methodref 25 46), (0, .nameAndType 47 48), (0, u "code"), (0, u "()Ljava/lang/String;"), (3, u "law"), (0, u "(IJI)Z")] 4

def k1m0 : Method := { name := "<init>", desc := "()V", sig := { parameters := [], returnType := none }, accessFlags := 1, code := none }
def k1c1 : Code := { maxStack := 4, maxLocals := 3, code := method_2_code, exceptionTable := #[], attributes := #[] }
def k1m1 : Method := { name := "ch", desc := "(JI)C", sig := { parameters := [.long, .int], returnType := some .char }, accessFlags := 10, code := some k1c1 }
def k1c2 : Code := { maxStack := 6, maxLocals := 5, code := method_3_code, exceptionTable := #[], attributes := #[] }
def k1m2 : Method := { name := "make", desc := "(IICJ)[C", sig := { parameters := [.int, .int, .char, .long], returnType := some (.array .char) }, accessFlags := 10, code := some k1c2 }
def k1c3 : Code := { maxStack := 5, maxLocals := 13, code := code, exceptionTable := #[], attributes := #[] }
def k1m3 : Method := { name := "law", desc := "(IJI)Z", sig := { parameters := [.int, .long, .int], returnType := some .boolean }, accessFlags := 9, code := some k1c3 }
/-- com/example/riskscan/riskscan/model/ProfileOfCodePinLaw -/
def k1 : Class := { plain "com/example/riskscan/riskscan/model/ProfileOfCodePinLaw" (some 0) with
  accessFlags := 49
  interfaces := #[]
  cf := some (fileOf pool1 10 #[] #[{ accessFlags := 1, nameIndex := 5, descriptorIndex := 6, attributes := #[] }, { accessFlags := 10, nameIndex := 13, descriptorIndex := 14, attributes := #[] }, { accessFlags := 10, nameIndex := 17, descriptorIndex := 18, attributes := #[] }, { accessFlags := 9, nameIndex := 52, descriptorIndex := 53, attributes := #[] }] 49 2 #[] #[])
  fields := #[]
  methods := #[k1m0, k1m1, k1m2, k1m3]
  instanceTypes := #[]
  staticTypes := #[]
  resolved := Array.replicate 58 none
  statics := none }

def pool2 : Array CpInfo := pool [(1, .class_ 2), (0, u "java/io/Serializable"), (0, .class_ 4), (0, u "java/lang/Object")] 2

/-- java/io/Serializable -/
def k2 : Class := { plain "java/io/Serializable" (some 0) with
  accessFlags := 1537
  interfaces := #[]
  cf := some (fileOf pool2 1 #[] #[] 1537 3 #[] #[])
  fields := #[]
  methods := #[]
  instanceTypes := #[]
  staticTypes := #[]
  resolved := Array.replicate 7 none
  statics := none }

def pool3 : Array CpInfo := pool [(1, .class_ 2), (0, u "java/lang/Comparable"), (0, .class_ 4), (0, u "java/lang/Object")] 7

/-- java/lang/Comparable -/
def k3 : Class := { plain "java/lang/Comparable" (some 0) with
  accessFlags := 1537
  interfaces := #[]
  cf := some (fileOf pool3 1 #[] #[] 1537 3 #[] #[])
  fields := #[]
  methods := #[]
  instanceTypes := #[]
  staticTypes := #[]
  resolved := Array.replicate 12 none
  statics := none }

def pool4 : Array CpInfo := pool [(2, .class_ 4), (1, u "java/lang/CharSequence"), (42, .class_ 48), (0, u "java/lang/CharSequence$1CodePointIterator"), (10, .class_ 60), (0, u "java/lang/CharSequence$1CharIterator"), (5, .class_ 67), (0, u "java/lang/Object")] 63

/-- java/lang/CharSequence -/
def k4 : Class := { plain "java/lang/CharSequence" (some 0) with
  accessFlags := 1537
  interfaces := #[]
  cf := some (fileOf pool4 2 #[.nestMembers #[47, 59]] #[] 1537 66 #[] #[])
  fields := #[]
  methods := #[]
  instanceTypes := #[]
  staticTypes := #[]
  resolved := Array.replicate 131 none
  statics := none }

def pool5 : Array CpInfo := pool [(1, .class_ 2), (0, u "java/lang/constant/Constable"), (0, .class_ 4), (0, u "java/lang/Object")] 6

/-- java/lang/constant/Constable -/
def k5 : Class := { plain "java/lang/constant/Constable" (some 0) with
  accessFlags := 1537
  interfaces := #[]
  cf := some (fileOf pool5 1 #[] #[] 1537 3 #[] #[])
  fields := #[]
  methods := #[]
  instanceTypes := #[]
  staticTypes := #[]
  resolved := Array.replicate 11 none
  statics := none }

def pool6 : Array CpInfo := pool [(1, .class_ 2), (0, u "java/lang/constant/ConstantDesc"), (0, .class_ 4), (0, u "java/lang/Object")] 32

/-- java/lang/constant/ConstantDesc -/
def k6 : Class := { plain "java/lang/constant/ConstantDesc" (some 0) with
  accessFlags := 1537
  interfaces := #[]
  cf := some (fileOf pool6 1 #[] #[] 1537 3 #[] #[])
  fields := #[]
  methods := #[]
  instanceTypes := #[]
  staticTypes := #[]
  resolved := Array.replicate 37 none
  statics := none }

def pool7 : Array CpInfo := pool [(1, .methodref 2 3), (0, .class_ 4), (0, .nameAndType 5 6), (0, u "java/lang/Object"), (0, u "<init>"), (0, u "()V"), (0, .string 8), (0, u ""), (0, .fieldref 10 11), (0, .class_ 12), (0, .nameAndType 13 14), (0, u "java/lang/String"), (0, u "value"), (0, u "[B"), (0, .fieldref 10 16), (0, .nameAndType 17 18), (0, u "coder"), (0, u "B"), (2, u "hash"), (0, u "I"), (2, u "hashIsZero"), (0, u "Z"), (0, .methodref 10 28), (0, .nameAndType 5 29), (0, u "([CIILjava/lang/Void;)V"), (8, .fieldref 10 39), (0, .nameAndType 40 26), (0, u "COMPACT_STRINGS"), (1, .class_ 44), (1, u "java/lang/StringUTF16"), (0, u "compress"), (1, .methodref 42 48), (0, .nameAndType 49 50), (0, u "coderFromArrayLen"), (0, u "([BI)B"), (56, .class_ 109), (1, u "java/lang/StringLatin1"), (67, .methodref 42 178), (0, .nameAndType 45 179), (0, u "([CII)[B"), (361, .methodref 107 542), (0, .nameAndType 543 544), (0, u "equals"), (0, u "([B[B)Z"), (28, u "(Ljava/lang/Object;)Z"), (1, .class_ 576), (0, u "java/lang/CharSequence"), (22, u "CASE_INSENSITIVE_ORDER"), (0, u "Ljava/util/Comparator;"), (409, u "([C)V"), (90, u "serialPersistentFields"), (0, u "[Ljava/io/ObjectStreamField;"), (0, .class_ 1104), (0, u "java/lang/String$CaseInsensitiveComparator"), (1, .class_ 1107), (0, u "java/io/Serializable"), (0, .class_ 1109), (0, u "java/lang/Comparable"), (0, .class_ 1111), (0, u "java/lang/constant/Constable"), (0, .class_ 1113), (0, u "java/lang/constant/ConstantDesc"), (2, u "serialVersionUID"), (0, u "J"), (3, u "REPL"), (0, u "C"), (2, u "LATIN1"), (1, u "UTF16")] 323

def k7m0 : Method := { name := "<init>", desc := "()V", sig := { parameters := [], returnType := none }, accessFlags := 1, code := none }
def k7c1 : Code := { maxStack := 5, maxLocals := 2, code := jdk_42_method_3_code, exceptionTable := #[], attributes := #[] }
def k7m1 : Method := { name := "<init>", desc := "([C)V", sig := { parameters := [(.array .char)], returnType := none }, accessFlags := 1, code := some k7c1 }
def k7c2 : Code := { maxStack := 2, maxLocals := 3, code := jdk_42_method_66_code, exceptionTable := #[], attributes := #[] }
def k7m2 : Method := { name := "equals", desc := "(Ljava/lang/Object;)Z", sig := { parameters := [(.object "java/lang/Object")], returnType := some .boolean }, accessFlags := 1, code := some k7c2 }
def k7c3 : Code := { maxStack := 4, maxLocals := 6, code := jdk_42_method_149_code, exceptionTable := #[], attributes := #[] }
def k7m3 : Method := { name := "<init>", desc := "([CIILjava/lang/Void;)V", sig := { parameters := [(.array .char), .int, .int, (.object "java/lang/Void")], returnType := none }, accessFlags := 2, code := some k7c3 }
/-- java/lang/String -/
def k7 : Class := { plain "java/lang/String" (some 0) with
  accessFlags := 49
  interfaces := #[2, 3, 4, 5, 6]
  cf := some (fileOf pool7 10 #[.nestMembers #[1103]] #[{ accessFlags := 1, nameIndex := 5, descriptorIndex := 6, attributes := #[] }, { accessFlags := 1, nameIndex := 5, descriptorIndex := 1010, attributes := #[] }, { accessFlags := 1, nameIndex := 543, descriptorIndex := 573, attributes := #[] }, { accessFlags := 2, nameIndex := 5, descriptorIndex := 29, attributes := #[] }] 49 2 #[1106, 1108, 575, 1110, 1112] #[{ accessFlags := 18, nameIndex := 13, descriptorIndex := 14, attributes := #[] }, { accessFlags := 18, nameIndex := 17, descriptorIndex := 18, attributes := #[] }, { accessFlags := 2, nameIndex := 21, descriptorIndex := 22, attributes := #[] }, { accessFlags := 2, nameIndex := 25, descriptorIndex := 26, attributes := #[] }, { accessFlags := 26, nameIndex := 1116, descriptorIndex := 1117, attributes := #[] }, { accessFlags := 24, nameIndex := 40, descriptorIndex := 26, attributes := #[] }, { accessFlags := 26, nameIndex := 1101, descriptorIndex := 1102, attributes := #[] }, { accessFlags := 26, nameIndex := 1121, descriptorIndex := 1122, attributes := #[] }, { accessFlags := 25, nameIndex := 599, descriptorIndex := 600, attributes := #[] }, { accessFlags := 24, nameIndex := 1125, descriptorIndex := 18, attributes := #[] }, { accessFlags := 24, nameIndex := 1127, descriptorIndex := 18, attributes := #[] }])
  fields := #[{ name := "value", type := (.array .byte), accessFlags := 18, slot := 0, constantValue := 0 }, { name := "coder", type := .byte, accessFlags := 18, slot := 1, constantValue := 0 }, { name := "hash", type := .int, accessFlags := 2, slot := 2, constantValue := 0 }, { name := "hashIsZero", type := .boolean, accessFlags := 2, slot := 3, constantValue := 0 }, { name := "serialVersionUID", type := .long, accessFlags := 26, slot := 0, constantValue := 0 }, { name := "COMPACT_STRINGS", type := .boolean, accessFlags := 24, slot := 1, constantValue := 0 }, { name := "serialPersistentFields", type := (.array (.object "java/io/ObjectStreamField")), accessFlags := 26, slot := 2, constantValue := 0 }, { name := "REPL", type := .char, accessFlags := 26, slot := 3, constantValue := 0 }, { name := "CASE_INSENSITIVE_ORDER", type := (.object "java/util/Comparator"), accessFlags := 25, slot := 4, constantValue := 0 }, { name := "LATIN1", type := .byte, accessFlags := 24, slot := 5, constantValue := 0 }, { name := "UTF16", type := .byte, accessFlags := 24, slot := 6, constantValue := 0 }]
  methods := #[k7m0, k7m1, k7m2, k7m3]
  instanceTypes := #[(.array .byte), .byte, .int, .boolean]
  staticTypes := #[.long, .boolean, (.array (.object "java/io/ObjectStreamField")), .char, (.object "java/util/Comparator"), .byte, .byte]
  resolved := Array.replicate 1451 none
  statics := some 0 }

def pool8 : Array CpInfo := pool [(6, .class_ 8), (1, u "java/lang/Object"), (0, u "<init>"), (0, u "()V"), (1, .class_ 14), (1, u "java/lang/StringUTF16"), (31, u "$assertionsDisabled"), (0, u "Z"), (13, u "HI_BYTE_SHIFT"), (0, u "I"), (2, u "LO_BYTE_SHIFT"), (49, .methodref 12 116), (0, .nameAndType 117 118), (0, u "compress"), (0, u "([CI[BII)I"), (3, u "([CII)[B"), (138, u "coderFromArrayLen"), (0, u "([BI)B"), (106, .class_ 371), (1, u "java/lang/StringUTF16$LinesSpliterator"), (58, u "MAX_LENGTH"), (196, .class_ 628), (0, u "java/lang/StringUTF16$CodePointsSpliterator"), (0, .class_ 630), (0, u "java/lang/StringUTF16$CharsSpliterator")] 4

def k8m0 : Method := { name := "<init>", desc := "()V", sig := { parameters := [], returnType := none }, accessFlags := 0, code := none }
def k8c1 : Code := { maxStack := 2, maxLocals := 2, code := jdk_52_method_15_code, exceptionTable := #[], attributes := #[] }
def k8m1 : Method := { name := "coderFromArrayLen", desc := "([BI)B", sig := { parameters := [(.array .byte), .int], returnType := some .byte }, accessFlags := 8, code := some k8c1 }
def k8c2 : Code := { maxStack := 5, maxLocals := 6, code := jdk_52_method_16_code, exceptionTable := #[], attributes := #[] }
def k8m2 : Method := { name := "compress", desc := "([CII)[B", sig := { parameters := [(.array .char), .int, .int], returnType := some (.array .byte) }, accessFlags := 9, code := some k8c2 }
def k8c3 : Code := { maxStack := 3, maxLocals := 7, code := jdk_52_method_21_code, exceptionTable := #[], attributes := #[] }
def k8m3 : Method := { name := "compress", desc := "([CI[BII)I", sig := { parameters := [(.array .char), .int, (.array .byte), .int, .int], returnType := some .int }, accessFlags := 9, code := some k8c3 }
/-- java/lang/StringUTF16 -/
def k8 : Class := { plain "java/lang/StringUTF16" (some 0) with
  accessFlags := 48
  interfaces := #[]
  cf := some (fileOf pool8 12 #[.nestMembers #[627, 629, 369]] #[{ accessFlags := 0, nameIndex := 9, descriptorIndex := 10, attributes := #[] }, { accessFlags := 8, nameIndex := 261, descriptorIndex := 262, attributes := #[] }, { accessFlags := 9, nameIndex := 117, descriptorIndex := 122, attributes := #[] }, { accessFlags := 9, nameIndex := 117, descriptorIndex := 118, attributes := #[] }] 48 6 #[] #[{ accessFlags := 26, nameIndex := 61, descriptorIndex := 62, attributes := #[] }, { accessFlags := 26, nameIndex := 65, descriptorIndex := 62, attributes := #[] }, { accessFlags := 24, nameIndex := 430, descriptorIndex := 62, attributes := #[] }, { accessFlags := 4120, nameIndex := 46, descriptorIndex := 47, attributes := #[] }])
  fields := #[{ name := "HI_BYTE_SHIFT", type := .int, accessFlags := 26, slot := 0, constantValue := 0 }, { name := "LO_BYTE_SHIFT", type := .int, accessFlags := 26, slot := 1, constantValue := 0 }, { name := "MAX_LENGTH", type := .int, accessFlags := 24, slot := 2, constantValue := 0 }, { name := "$assertionsDisabled", type := .boolean, accessFlags := 4120, slot := 3, constantValue := 0 }]
  methods := #[k8m0, k8m1, k8m2, k8m3]
  instanceTypes := #[]
  staticTypes := #[.int, .int, .int, .boolean]
  resolved := Array.replicate 635 none
  statics := none }

def pool9 : Array CpInfo := pool [(2, .class_ 4), (1, u "java/lang/Enum"), (0, u "name"), (0, u "Ljava/lang/String;"), (2, u "ordinal"), (0, u "I"), (1, .class_ 14), (1, u "java/lang/Object"), (4, u "hash"), (86, .class_ 108), (1, u "java/lang/Enum$EnumDesc"), (2, .class_ 112), (0, u "java/lang/constant/Constable"), (0, .class_ 114), (0, u "java/lang/Comparable"), (0, .class_ 116), (0, u "java/io/Serializable")] 87

/-- java/lang/Enum -/
def k9 : Class := { plain "java/lang/Enum" (some 0) with
  accessFlags := 1057
  interfaces := #[5, 3, 2]
  cf := some (fileOf pool9 2 #[.nestMembers #[106]] #[] 1057 12 #[111, 113, 115] #[{ accessFlags := 18, nameIndex := 5, descriptorIndex := 6, attributes := #[] }, { accessFlags := 18, nameIndex := 9, descriptorIndex := 10, attributes := #[] }, { accessFlags := 2, nameIndex := 19, descriptorIndex := 10, attributes := #[] }])
  fields := #[{ name := "name", type := (.object "java/lang/String"), accessFlags := 18, slot := 0, constantValue := 0 }, { name := "ordinal", type := .int, accessFlags := 18, slot := 1, constantValue := 0 }, { name := "hash", type := .int, accessFlags := 2, slot := 2, constantValue := 0 }]
  methods := #[]
  instanceTypes := #[(.object "java/lang/String"), .int, .int]
  staticTypes := #[]
  resolved := Array.replicate 204 none
  statics := none }

def pool10 : Array CpInfo := pool [(1, .class_ 2), (0, u "com/example/riskscan/riskscan/model/Profile"), (2, u "CLASSIC"), (0, u "Lcom/example/riskscan/riskscan/model/Profile;"), (2, u "TIERED"), (0, .fieldref 1 11), (0, .nameAndType 12 13), (0, u "$VALUES"), (0, u "[Lcom/example/riskscan/riskscan/model/Profile;"), (0, .methodref 15 16), (0, .class_ 13), (0, .nameAndType 17 18), (0, u "clone"), (0, u "()Ljava/lang/Object;"), (1, .class_ 22), (1, u "java/lang/Enum"), (6, .fieldref 1 30), (0, .nameAndType 31 32), (0, u "code"), (0, u "Ljava/lang/String;"), (0, .methodref 1 34), (0, .nameAndType 35 36), (0, u "values"), (0, u "()[Lcom/example/riskscan/riskscan/model/Profile;"), (0, .methodref 38 39), (0, .class_ 40), (0, .nameAndType 41 42), (0, u "java/lang/String"), (0, u "equals"), (0, u "(Ljava/lang/Object;)Z"), (14, u "(Ljava/lang/String;)Lcom/example/riskscan/riskscan/model/Profile;"), (3, u "()Ljava/lang/String;"), (0, u "ofCode")] 6

def k10c0 : Code := { maxStack := 1, maxLocals := 0, code := prog_93_method_1_code, exceptionTable := #[], attributes := #[] }
def k10m0 : Method := { name := "values", desc := "()[Lcom/example/riskscan/riskscan/model/Profile;", sig := { parameters := [], returnType := some (.array (.object "com/example/riskscan/riskscan/model/Profile")) }, accessFlags := 9, code := some k10c0 }
def k10c1 : Code := { maxStack := 1, maxLocals := 1, code := prog_93_method_4_code, exceptionTable := #[], attributes := #[] }
def k10m1 : Method := { name := "code", desc := "()Ljava/lang/String;", sig := { parameters := [], returnType := some (.object "java/lang/String") }, accessFlags := 1, code := some k10c1 }
def k10c2 : Code := { maxStack := 2, maxLocals := 5, code := prog_93_method_5_code, exceptionTable := #[], attributes := #[] }
def k10m2 : Method := { name := "ofCode", desc := "(Ljava/lang/String;)Lcom/example/riskscan/riskscan/model/Profile;", sig := { parameters := [(.object "java/lang/String")], returnType := some (.object "com/example/riskscan/riskscan/model/Profile") }, accessFlags := 9, code := some k10c2 }
/-- com/example/riskscan/riskscan/model/Profile -/
def k10 : Class := { plain "com/example/riskscan/riskscan/model/Profile" (some 9) with
  accessFlags := 16433
  interfaces := #[]
  cf := some (fileOf pool10 1 #[] #[{ accessFlags := 9, nameIndex := 35, descriptorIndex := 36, attributes := #[] }, { accessFlags := 1, nameIndex := 31, descriptorIndex := 61, attributes := #[] }, { accessFlags := 9, nameIndex := 62, descriptorIndex := 57, attributes := #[] }] 16433 20 #[] #[{ accessFlags := 16409, nameIndex := 5, descriptorIndex := 6, attributes := #[] }, { accessFlags := 16409, nameIndex := 9, descriptorIndex := 6, attributes := #[] }, { accessFlags := 18, nameIndex := 31, descriptorIndex := 32, attributes := #[] }, { accessFlags := 4122, nameIndex := 12, descriptorIndex := 13, attributes := #[] }])
  fields := #[{ name := "CLASSIC", type := (.object "com/example/riskscan/riskscan/model/Profile"), accessFlags := 16409, slot := 0, constantValue := 0 }, { name := "TIERED", type := (.object "com/example/riskscan/riskscan/model/Profile"), accessFlags := 16409, slot := 1, constantValue := 0 }, { name := "code", type := (.object "java/lang/String"), accessFlags := 18, slot := 3, constantValue := 0 }, { name := "$VALUES", type := (.array (.object "com/example/riskscan/riskscan/model/Profile")), accessFlags := 4122, slot := 2, constantValue := 0 }]
  methods := #[k10m0, k10m1, k10m2]
  instanceTypes := #[(.object "java/lang/String"), .int, .int, (.object "java/lang/String")]
  staticTypes := #[(.object "com/example/riskscan/riskscan/model/Profile"), (.object "com/example/riskscan/riskscan/model/Profile"), (.array (.object "com/example/riskscan/riskscan/model/Profile"))]
  resolved := Array.replicate 69 none
  statics := some 1 }

def pool11 : Array CpInfo := pool [(1, .class_ 2), (0, u "java/lang/Cloneable"), (0, .class_ 4), (0, u "java/lang/Object")] 2

/-- java/lang/Cloneable -/
def k11 : Class := { plain "java/lang/Cloneable" (some 0) with
  accessFlags := 1537
  interfaces := #[]
  cf := some (fileOf pool11 1 #[] #[] 1537 3 #[] #[])
  fields := #[]
  methods := #[]
  instanceTypes := #[]
  staticTypes := #[]
  resolved := Array.replicate 7 none
  statics := none }

def pool12 : Array CpInfo := pool [(4, .class_ 6), (1, u "java/lang/Object"), (0, u "<init>"), (0, u "()V"), (5, .class_ 16), (1, u "java/lang/StringLatin1"), (104, u "$assertionsDisabled"), (0, u "Z"), (98, .class_ 223), (1, u "java/lang/StringLatin1$LinesSpliterator"), (57, u "equals"), (0, u "([B[B)Z"), (107, .class_ 391), (0, u "java/lang/StringLatin1$CharsSpliterator")] 3

def k12m0 : Method := { name := "<init>", desc := "()V", sig := { parameters := [], returnType := none }, accessFlags := 0, code := none }
def k12c1 : Code := { maxStack := 3, maxLocals := 3, code := jdk_43_method_13_code, exceptionTable := #[], attributes := #[] }
def k12m1 : Method := { name := "equals", desc := "([B[B)Z", sig := { parameters := [(.array .byte), (.array .byte)], returnType := some .boolean }, accessFlags := 9, code := some k12c1 }
/-- java/lang/StringLatin1 -/
def k12 : Class := { plain "java/lang/StringLatin1" (some 0) with
  accessFlags := 48
  interfaces := #[]
  cf := some (fileOf pool12 14 #[.nestMembers #[390, 221]] #[{ accessFlags := 0, nameIndex := 7, descriptorIndex := 8, attributes := #[] }, { accessFlags := 9, nameIndex := 281, descriptorIndex := 282, attributes := #[] }] 48 4 #[] #[{ accessFlags := 4120, nameIndex := 121, descriptorIndex := 122, attributes := #[] }])
  fields := #[{ name := "$assertionsDisabled", type := .boolean, accessFlags := 4120, slot := 0, constantValue := 0 }]
  methods := #[k12m0, k12m1]
  instanceTypes := #[]
  staticTypes := #[.boolean]
  resolved := Array.replicate 395 none
  statics := none }

def pool13 : Array CpInfo := pool [(2, .class_ 4), (1, u "java/lang/Object"), (0, u "<init>"), (0, u "()V"), (17, .class_ 26), (1, u "jdk/internal/util/Preconditions"), (28, .class_ 56), (0, u "jdk/internal/util/Preconditions$4"), (57, .class_ 115), (0, u "jdk/internal/util/Preconditions$1"), (7, u "SIOOBE_FORMATTER"), (0, u "Ljava/util/function/BiFunction;"), (0, .class_ 126), (0, u "jdk/internal/util/Preconditions$2"), (3, u "AIOOBE_FORMATTER"), (0, .class_ 132), (0, u "jdk/internal/util/Preconditions$3"), (3, u "IOOBE_FORMATTER")] 57

def k13m0 : Method := { name := "<init>", desc := "()V", sig := { parameters := [], returnType := none }, accessFlags := 1, code := none }
/-- jdk/internal/util/Preconditions -/
def k13 : Class := { plain "jdk/internal/util/Preconditions" (some 0) with
  accessFlags := 33
  interfaces := #[]
  cf := some (fileOf pool13 24 #[.nestMembers #[55, 131, 125, 114]] #[{ accessFlags := 1, nameIndex := 5, descriptorIndex := 6, attributes := #[] }] 33 2 #[] #[{ accessFlags := 25, nameIndex := 123, descriptorIndex := 124, attributes := #[] }, { accessFlags := 25, nameIndex := 130, descriptorIndex := 124, attributes := #[] }, { accessFlags := 25, nameIndex := 136, descriptorIndex := 124, attributes := #[] }])
  fields := #[{ name := "SIOOBE_FORMATTER", type := (.object "java/util/function/BiFunction"), accessFlags := 25, slot := 0, constantValue := 0 }, { name := "AIOOBE_FORMATTER", type := (.object "java/util/function/BiFunction"), accessFlags := 25, slot := 1, constantValue := 0 }, { name := "IOOBE_FORMATTER", type := (.object "java/util/function/BiFunction"), accessFlags := 25, slot := 2, constantValue := 0 }]
  methods := #[k13m0]
  instanceTypes := #[]
  staticTypes := #[(.object "java/util/function/BiFunction"), (.object "java/util/function/BiFunction"), (.object "java/util/function/BiFunction")]
  resolved := Array.replicate 194 none
  statics := some 2 }

def pool14 : Array CpInfo := pool [(9, u "<init>"), (6, .class_ 18), (1, u "java/lang/Object"), (0, u "()V"), (1, .class_ 23), (1, u "jdk/internal/util/ArraysSupport"), (0, u "LOG2_ARRAY_LONG_INDEX_SCALE"), (0, u "I"), (2, u "U"), (0, u "Ljdk/internal/misc/Unsafe;"), (8, u "BIG_ENDIAN"), (0, u "Z"), (8, u "LOG2_BYTE_BIT_SIZE"), (4, u "LOG2_ARRAY_INT_INDEX_SCALE"), (54, u "JLA"), (0, u "Ljdk/internal/access/JavaLangAccess;"), (11, u "LOG2_ARRAY_BOOLEAN_INDEX_SCALE"), (9, u "LOG2_ARRAY_BYTE_INDEX_SCALE"), (5, u "LOG2_ARRAY_CHAR_INDEX_SCALE"), (5, u "LOG2_ARRAY_SHORT_INDEX_SCALE"), (18, u "LOG2_ARRAY_FLOAT_INDEX_SCALE"), (24, u "LOG2_ARRAY_DOUBLE_INDEX_SCALE"), (89, u "T_BOOLEAN"), (2, u "T_CHAR"), (1, u "T_FLOAT"), (1, u "T_DOUBLE"), (1, u "T_BYTE"), (1, u "T_SHORT"), (1, u "T_INT"), (1, u "T_LONG"), (1, u "SOFT_MAX_ARRAY_LENGTH")] 83

def k14m0 : Method := { name := "<init>", desc := "()V", sig := { parameters := [], returnType := none }, accessFlags := 2, code := none }
/-- jdk/internal/util/ArraysSupport -/
def k14 : Class := { plain "jdk/internal/util/ArraysSupport" (some 0) with
  accessFlags := 33
  interfaces := #[]
  cf := some (fileOf pool14 21 #[] #[{ accessFlags := 2, nameIndex := 9, descriptorIndex := 19, attributes := #[] }] 33 16 #[] #[{ accessFlags := 24, nameIndex := 28, descriptorIndex := 29, attributes := #[] }, { accessFlags := 26, nameIndex := 38, descriptorIndex := 39, attributes := #[] }, { accessFlags := 25, nameIndex := 121, descriptorIndex := 25, attributes := #[] }, { accessFlags := 25, nameIndex := 131, descriptorIndex := 25, attributes := #[] }, { accessFlags := 25, nameIndex := 137, descriptorIndex := 25, attributes := #[] }, { accessFlags := 25, nameIndex := 143, descriptorIndex := 25, attributes := #[] }, { accessFlags := 25, nameIndex := 53, descriptorIndex := 25, attributes := #[] }, { accessFlags := 25, nameIndex := 24, descriptorIndex := 25, attributes := #[] }, { accessFlags := 25, nameIndex := 162, descriptorIndex := 25, attributes := #[] }, { accessFlags := 25, nameIndex := 187, descriptorIndex := 25, attributes := #[] }, { accessFlags := 26, nameIndex := 48, descriptorIndex := 25, attributes := #[] }, { accessFlags := 25, nameIndex := 277, descriptorIndex := 25, attributes := #[] }, { accessFlags := 25, nameIndex := 280, descriptorIndex := 25, attributes := #[] }, { accessFlags := 25, nameIndex := 282, descriptorIndex := 25, attributes := #[] }, { accessFlags := 25, nameIndex := 284, descriptorIndex := 25, attributes := #[] }, { accessFlags := 25, nameIndex := 286, descriptorIndex := 25, attributes := #[] }, { accessFlags := 25, nameIndex := 288, descriptorIndex := 25, attributes := #[] }, { accessFlags := 25, nameIndex := 290, descriptorIndex := 25, attributes := #[] }, { accessFlags := 25, nameIndex := 292, descriptorIndex := 25, attributes := #[] }, { accessFlags := 26, nameIndex := 108, descriptorIndex := 109, attributes := #[] }, { accessFlags := 25, nameIndex := 294, descriptorIndex := 25, attributes := #[] }])
  fields := #[{ name := "U", type := (.object "jdk/internal/misc/Unsafe"), accessFlags := 24, slot := 0, constantValue := 0 }, { name := "BIG_ENDIAN", type := .boolean, accessFlags := 26, slot := 1, constantValue := 0 }, { name := "LOG2_ARRAY_BOOLEAN_INDEX_SCALE", type := .int, accessFlags := 25, slot := 2, constantValue := 0 }, { name := "LOG2_ARRAY_BYTE_INDEX_SCALE", type := .int, accessFlags := 25, slot := 3, constantValue := 0 }, { name := "LOG2_ARRAY_CHAR_INDEX_SCALE", type := .int, accessFlags := 25, slot := 4, constantValue := 0 }, { name := "LOG2_ARRAY_SHORT_INDEX_SCALE", type := .int, accessFlags := 25, slot := 5, constantValue := 0 }, { name := "LOG2_ARRAY_INT_INDEX_SCALE", type := .int, accessFlags := 25, slot := 6, constantValue := 0 }, { name := "LOG2_ARRAY_LONG_INDEX_SCALE", type := .int, accessFlags := 25, slot := 7, constantValue := 0 }, { name := "LOG2_ARRAY_FLOAT_INDEX_SCALE", type := .int, accessFlags := 25, slot := 8, constantValue := 0 }, { name := "LOG2_ARRAY_DOUBLE_INDEX_SCALE", type := .int, accessFlags := 25, slot := 9, constantValue := 0 }, { name := "LOG2_BYTE_BIT_SIZE", type := .int, accessFlags := 26, slot := 10, constantValue := 0 }, { name := "T_BOOLEAN", type := .int, accessFlags := 25, slot := 11, constantValue := 0 }, { name := "T_CHAR", type := .int, accessFlags := 25, slot := 12, constantValue := 0 }, { name := "T_FLOAT", type := .int, accessFlags := 25, slot := 13, constantValue := 0 }, { name := "T_DOUBLE", type := .int, accessFlags := 25, slot := 14, constantValue := 0 }, { name := "T_BYTE", type := .int, accessFlags := 25, slot := 15, constantValue := 0 }, { name := "T_SHORT", type := .int, accessFlags := 25, slot := 16, constantValue := 0 }, { name := "T_INT", type := .int, accessFlags := 25, slot := 17, constantValue := 0 }, { name := "T_LONG", type := .int, accessFlags := 25, slot := 18, constantValue := 0 }, { name := "JLA", type := (.object "jdk/internal/access/JavaLangAccess"), accessFlags := 26, slot := 19, constantValue := 0 }, { name := "SOFT_MAX_ARRAY_LENGTH", type := .int, accessFlags := 25, slot := 20, constantValue := 0 }]
  methods := #[k14m0]
  instanceTypes := #[]
  staticTypes := #[(.object "jdk/internal/misc/Unsafe"), .boolean, .int, .int, .int, .int, .int, .int, .int, .int, .int, .int, .int, .int, .int, .int, .int, .int, .int, (.object "jdk/internal/access/JavaLangAccess"), .int]
  resolved := Array.replicate 378 none
  statics := none }

/-- the primitive byte -/
def k15 : Class := { plain "byte" none with kind := .primitive 'B', accessFlags := 0x411 }
/-- [B -/
def k16 : Class := { plain "[B" (some 0) with kind := .array 15 .byte, interfaces := #[11, 2], accessFlags := 1041 }

/-- the primitive char -/
def k17 : Class := { plain "char" none with kind := .primitive 'C', accessFlags := 0x411 }
/-- [C -/
def k18 : Class := { plain "[C" (some 0) with kind := .array 17 .char, interfaces := #[11, 2], accessFlags := 1041 }

/-- the primitive int -/
def k19 : Class := { plain "int" none with kind := .primitive 'I', accessFlags := 0x411 }
/-- [I -/
def k20 : Class := { plain "[I" (some 0) with kind := .array 19 .int, interfaces := #[11, 2], accessFlags := 1041 }

/-- [Lcom/example/riskscan/riskscan/model/Profile; -/
def k21 : Class := { plain "[Lcom/example/riskscan/riskscan/model/Profile;" (some 0) with kind := .array 10 (.object "com/example/riskscan/riskscan/model/Profile"), interfaces := #[11, 2], accessFlags := 1041 }

def heap : Heap := #[{ cls := 7, slots := #[.long 0, .int 1, .null, .int 0, .null, .int 0, .int 0], vm := .statics 7 },
  { cls := 10, slots := #[.ref 4, .ref 5, .ref 3], vm := .statics 10 },
  { cls := 13, slots := #[.null, .null, .null], vm := .statics 13 },
  { cls := 21, slots := #[.ref 4, .ref 5], vm := .none },
  { cls := 10, slots := #[.null, .int 0, .int 0, .ref 6], vm := .none },
  { cls := 10, slots := #[.null, .int 0, .int 0, .ref 8], vm := .none },
  { cls := 7, slots := #[.ref 7, .int 0, .int 0, .int 0], vm := .none },
  { cls := 16, slots := #[.int 99, .int 108, .int 97, .int 115, .int 115, .int 105, .int 99], vm := .none },
  { cls := 7, slots := #[.ref 9, .int 0, .int 0, .int 0], vm := .none },
  { cls := 16, slots := #[.int 116, .int 105, .int 101, .int 114, .int 101, .int 100], vm := .none }]
def classes : Array Class := #[k0, k1, k2, k3, k4, k5, k6, k7, k8, k9, k10, k11, k12, k13, k14, k15, k16, k17, k18, k19, k20, k21]
def interned : List (Array UInt16 × Addr) := []
def slotsUsed : Nat := 44
def theMethod : MethodId := ⟨1, 3⟩
def args0 : Array Value := #[.int 1, .long 2, .int 3]
def aboutOver (below : List Frame) : State where
  vm := { classes := classes, interned := interned.toArray }
  heap := heap
  slotsUsed := slotsUsed
  threads := #[{ frames := .invoking theMethod args0 :: below }]
def below0 : List Frame := [.native { method := ⟨0, 0⟩, args := #[] }]
def about1 : State := aboutOver below0
def p0 : Program := .bare "" "" ""
def e0 : Env := launch0.env 0 0 0
theorem w_frames : about1.frames = Frame.invoking theMethod args0 :: below0 := rfl
set_option maxRecDepth 65536 in
theorem w_args : argsFit about1.vm theMethod args0 = true := by decide +kernel
set_option maxRecDepth 65536 in
theorem w_heap : heapFits about1 = true := by decide +kernel
set_option maxRecDepth 65536 in
theorem w_runnable : about1.curStatus? = some .runnable := by decide +kernel
set_option maxRecDepth 65536 in
theorem w_alone : about1.alone = true := by decide +kernel
set_option maxRecDepth 65536 in
theorem w_named : about1.methodNamed? x = some theMethod := by decide +kernel
set_option maxRecDepth 65536 in
theorem w_hears : about1.hears theMethod below0 = true := by decide +kernel
set_option maxRecDepth 65536 in
theorem w_ripe : about1.ripe theMethod args0 below0 = true := by decide +kernel
theorem w_running : about1.status = .running := rfl
set_option maxRecDepth 65536 in
theorem w_room : about1.hasRoom e0.platform room_1 = true :=
  launch0.hasRoom_least _ room_1 (by decide +kernel) (by decide +kernel) (by decide +kernel) (by decide +kernel) (by decide +kernel) (by decide +kernel)
theorem allAtoms_all (ts : List Jvm.Cond) (a : Array Jvm.Value) (st : Jvm.State) : (allAtoms ts).before a st = ts.all (fun c => c.before a st) := by
  induction ts with
  | nil => rfl
  | cons c t ih =>
    show (Jvm.Cond.and c (allAtoms t)).before a st = _
    rw [Jvm.Cond.before_and, ih, List.all_cons]
def words1 : List Jvm.Cond := Jvm.Cond.code x code maxLocals ret :: tables_1
/-- a 'code' word, met by the world's own term for the bytes: nothing is compared byte by byte -/
theorem code_word {y : MethodName} {bytes : ByteArray} {mx : Nat} {rt : Option FieldType} {a : Array Value} {s : State} {m : MethodId} {meth : Method} {c : Code} (h1 : s.methodNamed? y = some m) (h2 : s.vm.method? m = some meth) (h3 : meth.code = some c) (h4 : c.code = bytes)
    (h5 : (c.maxLocals == mx && c.exceptionTable.isEmpty && decide (c.maxStack ≤ mostOperands) && decide (meth.sig.returnType = rt) && !meth.locks && decide (parseMethodDescriptor y.desc = some meth.sig)) = true) : (Jvm.Cond.code y bytes mx rt).before a s = true := by
  simp only [Bool.and_eq_true, beq_iff_eq, Bool.not_eq_true', decide_eq_true_eq] at h5
  obtain ⟨⟨⟨⟨⟨g1, g2⟩, g3⟩, g4⟩, g5⟩, g6⟩ := h5
  simp [Cond.before, Cond.holds, Cond.value, h1, h2, h3, h4, g1, g2, g3, g4, g5, g6]
def isCode : Jvm.Cond → Bool
  | .code _ _ _ _ => true
  | _ => false
theorem all_split {L : List Jvm.Cond} {P : Jvm.Cond → Bool} (h1 : L.all (fun c => isCode c || P c) = true) (h2 : ∀ c ∈ L.filter isCode, P c = true) : L.all P = true := by
  refine List.all_eq_true.mpr fun c hc => ?_
  have h := List.all_eq_true.mp h1 c hc
  rcases Bool.eq_false_or_eq_true (isCode c) with hi | hi
  · exact h2 c (List.mem_filter.mpr ⟨hc, hi⟩)
  · simpa [hi] using h
set_option maxRecDepth 65536 in
theorem w_c0 : (Jvm.Cond.code x code maxLocals ret).before args0 about1 = true := code_word (m := ⟨1, 3⟩) (meth := k1m3) (c := k1c3) (by decide +kernel) rfl rfl rfl (by decide +kernel)
set_option maxRecDepth 65536 in
theorem w_c1 : (Jvm.Cond.code ({ cls := "com/example/riskscan/riskscan/model/ProfileOfCodePinLaw", name := "make", desc := "(IICJ)[C" } : Jvm.MethodName) method_3_code (5 : Nat) (Option.some (Jvm.ClassFile.FieldType.array Jvm.ClassFile.FieldType.char))).before args0 about1 = true := code_word (m := ⟨1, 2⟩) (meth := k1m2) (c := k1c2) (by decide +kernel) rfl rfl rfl (by decide +kernel)
set_option maxRecDepth 65536 in
theorem w_c2 : (Jvm.Cond.code ({ cls := "java/lang/String", name := "<init>", desc := "([C)V" } : Jvm.MethodName) jdk_42_method_3_code (2 : Nat) (Option.none : Option Jvm.ClassFile.FieldType)).before args0 about1 = true := code_word (m := ⟨7, 1⟩) (meth := k7m1) (c := k7c1) (by decide +kernel) rfl rfl rfl (by decide +kernel)
set_option maxRecDepth 65536 in
theorem w_c3 : (Jvm.Cond.code ({ cls := "java/lang/String", name := "<init>", desc := "([CIILjava/lang/Void;)V" } : Jvm.MethodName) jdk_42_method_149_code (6 : Nat) (Option.none : Option Jvm.ClassFile.FieldType)).before args0 about1 = true := code_word (m := ⟨7, 3⟩) (meth := k7m3) (c := k7c3) (by decide +kernel) rfl rfl rfl (by decide +kernel)
set_option maxRecDepth 65536 in
theorem w_c4 : (Jvm.Cond.code ({ cls := "java/lang/Object", name := "<init>", desc := "()V" } : Jvm.MethodName) object_method_1_code (1 : Nat) (Option.none : Option Jvm.ClassFile.FieldType)).before args0 about1 = true := code_word (m := ⟨0, 0⟩) (meth := k0m0) (c := k0c0) (by decide +kernel) rfl rfl rfl (by decide +kernel)
set_option maxRecDepth 65536 in
theorem w_c5 : (Jvm.Cond.code ({ cls := "java/lang/StringUTF16", name := "compress", desc := "([CII)[B" } : Jvm.MethodName) jdk_52_method_16_code (6 : Nat) (Option.some (Jvm.ClassFile.FieldType.array Jvm.ClassFile.FieldType.byte))).before args0 about1 = true := code_word (m := ⟨8, 2⟩) (meth := k8m2) (c := k8c2) (by decide +kernel) rfl rfl rfl (by decide +kernel)
set_option maxRecDepth 65536 in
theorem w_c6 : (Jvm.Cond.code ({ cls := "java/lang/StringUTF16", name := "compress", desc := "([CI[BII)I" } : Jvm.MethodName) jdk_52_method_21_code (7 : Nat) (Option.some Jvm.ClassFile.FieldType.int)).before args0 about1 = true := code_word (m := ⟨8, 3⟩) (meth := k8m3) (c := k8c3) (by decide +kernel) rfl rfl rfl (by decide +kernel)
set_option maxRecDepth 65536 in
theorem w_c7 : (Jvm.Cond.code ({ cls := "java/lang/StringUTF16", name := "coderFromArrayLen", desc := "([BI)B" } : Jvm.MethodName) jdk_52_method_15_code (2 : Nat) (Option.some Jvm.ClassFile.FieldType.byte)).before args0 about1 = true := code_word (m := ⟨8, 1⟩) (meth := k8m1) (c := k8c1) (by decide +kernel) rfl rfl rfl (by decide +kernel)
set_option maxRecDepth 65536 in
theorem w_c8 : (Jvm.Cond.code ({ cls := "com/example/riskscan/riskscan/model/Profile", name := "ofCode", desc := "(Ljava/lang/String;)Lcom/example/riskscan/riskscan/model/Profile;" } : Jvm.MethodName) prog_93_method_5_code (5 : Nat) (Option.some (Jvm.ClassFile.FieldType.object "com/example/riskscan/riskscan/model/Profile"))).before args0 about1 = true := code_word (m := ⟨10, 2⟩) (meth := k10m2) (c := k10c2) (by decide +kernel) rfl rfl rfl (by decide +kernel)
set_option maxRecDepth 65536 in
theorem w_c9 : (Jvm.Cond.code ({ cls := "com/example/riskscan/riskscan/model/Profile", name := "values", desc := "()[Lcom/example/riskscan/riskscan/model/Profile;" } : Jvm.MethodName) prog_93_method_1_code (0 : Nat) (Option.some (Jvm.ClassFile.FieldType.array (Jvm.ClassFile.FieldType.object "com/example/riskscan/riskscan/model/Profile")))).before args0 about1 = true := code_word (m := ⟨10, 0⟩) (meth := k10m0) (c := k10c0) (by decide +kernel) rfl rfl rfl (by decide +kernel)
set_option maxRecDepth 65536 in
theorem w_c10 : (Jvm.Cond.code ({ cls := "java/lang/String", name := "equals", desc := "(Ljava/lang/Object;)Z" } : Jvm.MethodName) jdk_42_method_66_code (3 : Nat) (Option.some Jvm.ClassFile.FieldType.boolean)).before args0 about1 = true := code_word (m := ⟨7, 2⟩) (meth := k7m2) (c := k7c2) (by decide +kernel) rfl rfl rfl (by decide +kernel)
set_option maxRecDepth 65536 in
theorem w_c11 : (Jvm.Cond.code ({ cls := "java/lang/StringLatin1", name := "equals", desc := "([B[B)Z" } : Jvm.MethodName) jdk_43_method_13_code (3 : Nat) (Option.some Jvm.ClassFile.FieldType.boolean)).before args0 about1 = true := code_word (m := ⟨12, 1⟩) (meth := k12m1) (c := k12c1) (by decide +kernel) rfl rfl rfl (by decide +kernel)
set_option maxRecDepth 65536 in
theorem w_c12 : (Jvm.Cond.code ({ cls := "com/example/riskscan/riskscan/model/Profile", name := "code", desc := "()Ljava/lang/String;" } : Jvm.MethodName) prog_93_method_4_code (1 : Nat) (Option.some (Jvm.ClassFile.FieldType.object "java/lang/String"))).before args0 about1 = true := code_word (m := ⟨10, 1⟩) (meth := k10m1) (c := k10c1) (by decide +kernel) rfl rfl rfl (by decide +kernel)
set_option maxRecDepth 65536 in
theorem w_c13 : (Jvm.Cond.code ({ cls := "com/example/riskscan/riskscan/model/ProfileOfCodePinLaw", name := "ch", desc := "(JI)C" } : Jvm.MethodName) method_2_code (3 : Nat) (Option.some Jvm.ClassFile.FieldType.char)).before args0 about1 = true := code_word (m := ⟨1, 1⟩) (meth := k1m1) (c := k1c1) (by decide +kernel) rfl rfl rfl (by decide +kernel)
def codes1 : List Jvm.Cond := [Jvm.Cond.code x code maxLocals ret, Jvm.Cond.code ({ cls := "com/example/riskscan/riskscan/model/ProfileOfCodePinLaw", name := "make", desc := "(IICJ)[C" } : Jvm.MethodName) method_3_code (5 : Nat) (Option.some (Jvm.ClassFile.FieldType.array Jvm.ClassFile.FieldType.char)), Jvm.Cond.code ({ cls := "java/lang/String", name := "<init>", desc := "([C)V" } : Jvm.MethodName) jdk_42_method_3_code (2 : Nat) (Option.none : Option Jvm.ClassFile.FieldType), Jvm.Cond.code ({ cls := "java/lang/String", name := "<init>", desc := "([CIILjava/lang/Void;)V" } : Jvm.MethodName) jdk_42_method_149_code (6 : Nat) (Option.none : Option Jvm.ClassFile.FieldType), Jvm.Cond.code ({ cls := "java/lang/Object", name := "<init>", desc := "()V" } : Jvm.MethodName) object_method_1_code (1 : Nat) (Option.none : Option Jvm.ClassFile.FieldType), Jvm.Cond.code ({ cls := "java/lang/StringUTF16", name := "compress", desc := "([CII)[B" } : Jvm.MethodName) jdk_52_method_16_code (6 : Nat) (Option.some (Jvm.ClassFile.FieldType.array Jvm.ClassFile.FieldType.byte)), Jvm.Cond.code ({ cls := "java/lang/StringUTF16", name := "compress", desc := "([CI[BII)I" } : Jvm.MethodName) jdk_52_method_21_code (7 : Nat) (Option.some Jvm.ClassFile.FieldType.int), Jvm.Cond.code ({ cls := "java/lang/StringUTF16", name := "coderFromArrayLen", desc := "([BI)B" } : Jvm.MethodName) jdk_52_method_15_code (2 : Nat) (Option.some Jvm.ClassFile.FieldType.byte), Jvm.Cond.code ({ cls := "com/example/riskscan/riskscan/model/Profile", name := "ofCode", desc := "(Ljava/lang/String;)Lcom/example/riskscan/riskscan/model/Profile;" } : Jvm.MethodName) prog_93_method_5_code (5 : Nat) (Option.some (Jvm.ClassFile.FieldType.object "com/example/riskscan/riskscan/model/Profile")), Jvm.Cond.code ({ cls := "com/example/riskscan/riskscan/model/Profile", name := "values", desc := "()[Lcom/example/riskscan/riskscan/model/Profile;" } : Jvm.MethodName) prog_93_method_1_code (0 : Nat) (Option.some (Jvm.ClassFile.FieldType.array (Jvm.ClassFile.FieldType.object "com/example/riskscan/riskscan/model/Profile"))), Jvm.Cond.code ({ cls := "java/lang/String", name := "equals", desc := "(Ljava/lang/Object;)Z" } : Jvm.MethodName) jdk_42_method_66_code (3 : Nat) (Option.some Jvm.ClassFile.FieldType.boolean), Jvm.Cond.code ({ cls := "java/lang/StringLatin1", name := "equals", desc := "([B[B)Z" } : Jvm.MethodName) jdk_43_method_13_code (3 : Nat) (Option.some Jvm.ClassFile.FieldType.boolean), Jvm.Cond.code ({ cls := "com/example/riskscan/riskscan/model/Profile", name := "code", desc := "()Ljava/lang/String;" } : Jvm.MethodName) prog_93_method_4_code (1 : Nat) (Option.some (Jvm.ClassFile.FieldType.object "java/lang/String")), Jvm.Cond.code ({ cls := "com/example/riskscan/riskscan/model/ProfileOfCodePinLaw", name := "ch", desc := "(JI)C" } : Jvm.MethodName) method_2_code (3 : Nat) (Option.some Jvm.ClassFile.FieldType.char)]
set_option maxRecDepth 65536 in
theorem codes_eq : words1.filter isCode = codes1 := rfl
theorem w_codes : ∀ c ∈ words1.filter isCode, c.before args0 about1 = true := by
  rw [codes_eq]
  intro c hc
  simp only [codes1, List.mem_cons, List.not_mem_nil, or_false] at hc
  rcases hc with rfl | rfl | rfl | rfl | rfl | rfl | rfl | rfl | rfl | rfl | rfl | rfl | rfl | rfl
  · exact w_c0
  · exact w_c1
  · exact w_c2
  · exact w_c3
  · exact w_c4
  · exact w_c5
  · exact w_c6
  · exact w_c7
  · exact w_c8
  · exact w_c9
  · exact w_c10
  · exact w_c11
  · exact w_c12
  · exact w_c13
set_option maxRecDepth 65536 in
theorem w_t1 : (words1.take 24).all (fun c => isCode c || c.before args0 about1) = true := by decide +kernel
set_option maxRecDepth 65536 in
theorem w_t2 : ((words1.drop 24).take 24).all (fun c => isCode c || c.before args0 about1) = true := by decide +kernel
set_option maxRecDepth 65536 in
theorem w_t3 : (((words1.drop 24).drop 24).take 24).all (fun c => isCode c || c.before args0 about1) = true := by decide +kernel
set_option maxRecDepth 65536 in
theorem w_t4 : (((words1.drop 24).drop 24).drop 24).all (fun c => isCode c || c.before args0 about1) = true := by decide +kernel
theorem w_tables : (allAtoms (Jvm.Cond.code x code maxLocals ret :: tables_1)).before args0 about1 = true := by
  rw [allAtoms_all]
  show words1.all (fun c => c.before args0 about1) = true
  refine all_split ?_ w_codes
  rw [← List.take_append_drop 24 words1, List.all_append, w_t1, ← List.take_append_drop 24 (words1.drop 24), List.all_append, w_t2, ← List.take_append_drop 24 ((words1.drop 24).drop 24), List.all_append, w_t3, w_t4]
  rfl
set_option maxRecDepth 65536 in
theorem w_rest : rest_1_c.before args0 about1 = true := by decide +kernel
set_option maxRecDepth 65536 in
theorem w_case : (Jvm.Cond.and given_1 narrow_1).before args0 about1 = true := by decide +kernel
set_option maxRecDepth 65536 in
theorem w_consts : constsHeld consts_1 about1 := Jvm.Lit.constsHeldB_iff.mp (by decide +kernel)
theorem w_applies : (headSpec (Jvm.Cond.code x code maxLocals ret :: tables_1) room_1).applies x e0.platform about1 = true :=
  (Spec.applies_iff w_frames).mpr ⟨w_running, w_runnable, w_alone, w_named, w_hears, w_ripe, w_room, w_tables⟩
theorem atStart : AtStart classFile x code maxLocals ret World_1 tables_1 room_1 Calls_1 rest_1 Pre_1 launch0 p0 e0 about1 theMethod args0 below0 :=
  ⟨lists_1, trivial, launch0.admits_env _ _ _, launch0.least_env, fairChoices_fair.cas, fairChoices_fair.clock, w_frames, w_args, w_heap, w_applies, ⟨w_consts, trivial⟩, w_rest, w_case⟩
end start1
theorem witness_1 : WitnessClaimed_1 := ⟨start1.p0, start1.e0, start1.about1, start1.theMethod, start1.args0, start1.below0, start1.atStart⟩
end Jvm.Pilot.@@N@@
