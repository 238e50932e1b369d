import JvmDerived
import JvmDerived.Pilot.@@N@@Statement
import JvmDerived.Pilot.@@N@@Code
set_option linter.unusedVariables false
set_option linter.unusedSimpArgs false
/- laws to paste: Road.backV (cut by pick.py; bodies as the Statement names them) -/
namespace Jvm.Pilot.@@N@@
namespace StrChars
open Jvm Sem ClassFile Op Lib Jvm.Stand Jvm.Free.XT Jvm.Free.ALB Jvm.Free.JM Jvm.Free
open Jvm.Lib.Cold (StaticIs)
/-- a char array whose places are chars -/
def Ch (a : Addr) (A : Cell) (U : State) : Prop := Arr .char a A U ∧ Typed .char A
theorem Ch.mv {a : Addr} {A : Cell} {U U' : State} (h : Ch a A U) (hal : U.vm.Alike U'.vm) (hh : U'.heap = U.heap) : Ch a A U' := ⟨h.1.mv hal hh, h.2⟩
theorem Ch.keep {a : Addr} {A : Cell} {U U' : State} (h : Ch a A U) (hal : U.vm.Alike U'.vm) (hk : U'.heap[a]? = some A) : Ch a A U' := ⟨h.1.keep hal hk, h.2⟩
/-- what place i of a char[]'s cell holds -/
def cv (A : Cell) (i : Nat) : Int32 := match A.slots[i]? with | some (.int x) => x | _ => 0
theorem Ch.get {a : Addr} {A : Cell} {U : State} (h : Ch a A U) {i : Nat} (hi : i < A.slots.size) : A.slots[i]? = some (.int (cv A i)) := by
  have e := Array.getElem?_eq_getElem hi
  have f := h.2 i _ e
  unfold cv; rw [e]
  generalize A.slots[i] = v at f
  cases v <;> simp [fits] at f ⊢
/-- the byte that i2b leaves of a char -/
def lo8 (x : Int32) : Int32 := x.toInt8.toInt32
theorem fits_lo8 (y : Int32) : fits .byte (.int (lo8 y)) = true := by
  have h1 := y.toInt8.le_toInt
  have h2 := y.toInt8.toInt_lt
  simp only [lo8, fits, Bool.and_eq_true, decide_eq_true_eq, Int32.le_iff_toInt_le, Int8.toInt_toInt32, show (-128 : Int32).toInt = -128 from by decide, show (127 : Int32).toInt = 127 from by decide]
  omega
/-- A' is A but that each place j of lo .. hi - 1 holds f j -/
def Laid (A A' : Cell) (lo hi : Nat) (f : Nat → Value) : Prop := A'.cls = A.cls ∧ A'.vm = A.vm ∧ A'.slots.size = A.slots.size ∧ ∀ i, A'.slots[i]? = if lo ≤ i ∧ i < hi then some (f i) else A.slots[i]?
theorem Laid.zero (A : Cell) (lo : Nat) (f : Nat → Value) : Laid A A lo (lo + 0) f := ⟨rfl, rfl, rfl, fun i => by rw [if_neg (by omega)]⟩
theorem Laid.step {A Ak : Cell} {lo k : Nat} {f : Nat → Value} {v : Value} (h : Laid A Ak lo k f) (hlo : lo ≤ k) (hk : k < Ak.slots.size) (hv : v = f k) : Laid A (Ak.setSlot k v) lo (k + 1) f := by
  refine ⟨h.1, h.2.1, by simpa [Cell.setSlot] using h.2.2.1, fun i => ?_⟩
  by_cases e : k = i
  · subst e; rw [Cell.slots_setSlot_self v hk, if_pos (by omega), hv]
  · rw [Cell.slots_setSlot_ne v e, h.2.2.2 i]
    by_cases q : lo ≤ i ∧ i < k
    · rw [if_pos q, if_pos (by omega)]
    · rw [if_neg q, if_neg (by omega)]
def U16 : String := "java/lang/StringUTF16"
namespace Cmp5
def yN : MethodName := ⟨"java/lang/StringUTF16", "compress", "([CI[BII)I"⟩
abbrev yB : ByteArray := jdk_52_method_21_code
theorem d0 : decode yB 0 = .ok (.iconst 0, 1) := by decide +kernel
theorem d1 : decode yB 1 = .ok (.istore 5, 2) := by decide +kernel
theorem d3 : decode yB 3 = .ok (.iload 5, 2) := by decide +kernel
theorem d5 : decode yB 5 = .ok (.iload 4, 2) := by decide +kernel
theorem d7 : decode yB 7 = .ok (.if_icmp (.ge) 37, 3) := by decide +kernel
theorem d10 : decode yB 10 = .ok (.aload_n 0, 1) := by decide +kernel
theorem d11 : decode yB 11 = .ok (.iload_n 1, 1) := by decide +kernel
theorem d12 : decode yB 12 = .ok (.caload, 1) := by decide +kernel
theorem d13 : decode yB 13 = .ok (.istore 6, 2) := by decide +kernel
theorem d15 : decode yB 15 = .ok (.iload 6, 2) := by decide +kernel
theorem d17 : decode yB 17 = .ok (.sipush 255, 3) := by decide +kernel
theorem d20 : decode yB 20 = .ok (.if_icmp (.le) 6, 3) := by decide +kernel
theorem d26 : decode yB 26 = .ok (.aload_n 2, 1) := by decide +kernel
theorem d27 : decode yB 27 = .ok (.iload_n 3, 1) := by decide +kernel
theorem d28 : decode yB 28 = .ok (.iload 6, 2) := by decide +kernel
theorem d30 : decode yB 30 = .ok (.i2b, 1) := by decide +kernel
theorem d31 : decode yB 31 = .ok (.bastore, 1) := by decide +kernel
theorem d32 : decode yB 32 = .ok (.iinc 1 1, 3) := by decide +kernel
theorem d35 : decode yB 35 = .ok (.iinc 3 1, 3) := by decide +kernel
theorem d38 : decode yB 38 = .ok (.iinc 5 1, 3) := by decide +kernel
theorem d41 : decode yB 41 = .ok (.goto (-38), 3) := by decide +kernel
theorem d44 : decode yB 44 = .ok (.iload 4, 2) := by decide +kernel
theorem d46 : decode yB 46 = .ok (.ireturn, 1) := by decide +kernel
def site : List Cond := []
def tab : Cond := tabOf yN yB 7 (some .int) site
def P (b : Addr) (A : Cell) (d : Addr) (B : Cell) (o q len : Nat) (args : Array Value) (s : State) : Prop := args = #[.ref b, .int (Int32.ofNat o), .ref d, .int (Int32.ofNat q), .int (Int32.ofNat len)] ∧ Ch b A s ∧ Arr .byte d B s ∧ b ≠ d ∧ o + len ≤ A.slots.size ∧ q + len ≤ B.slots.size ∧ ∀ i, i < len → ¬ 255 < cv A (o + i)
def E (b : Addr) (A : Cell) (d : Addr) (B : Cell) (o q len : Nat) (r : Option Value) (s u : State) : Prop := r = some (.int (Int32.ofNat len)) ∧ ∃ B', Put d B' s u ∧ Laid B B' q (q + len) (fun j => Value.int (lo8 (cv A (o + (j - q)))))
/-- no char of the range above 255: len; the places written hold each char's low byte -/
theorem law (l : Launch) (b : Addr) (A : Cell) (d : Addr) (B : Cell) (o q len : Nat) : Law l yN 5 5 0 0 yB 7 (some .int) site (P b A d B o q len) (E b A d B o q len) (copyLocs d q len) 0 0 := by
  refine Law.of_walk (plainFor_of_name (by decide +kernel)) (by decide +kernel) (by decide +kernel) (by decide) (fun _ _ h => by rw [h.1]; rfl) (fun _ U U' hal hh h => ⟨h.1, h.2.1.mv hal hh, h.2.2.1.mv hal hh, h.2.2.2⟩) (fun r U U' V V' h1 hal h2 h => ⟨h.1, h.2.elim fun B' q => ⟨B', q.1.mv h1 h2, q.2⟩⟩) ?_
  intro p e s m args below meth c s₁ X0 hexec hbytes hml hret hlk hnm hown hh0 W hP
  obtain ⟨rfl, hA, hB, hne, l1, l2, hp⟩ := hP
  have c1 : Steps p.tables e below (s₁.setTop (entryFrame m #[.ref b, .int (Int32.ofNat o), .ref d, .int (Int32.ofNat q), .int (Int32.ofNat len)] 7)) (s₁.setTop (mkF m 0 #[.val (.ref b), .val (.int (Int32.ofNat o)), .val (.ref d), .val (.int (Int32.ofNat q)), .val (.int (Int32.ofNat len)), .unset, .unset] [])) := entry rfl
  have hA0 := hA.1.mv X0.warmed.alike hh0
  have hB0 := hB.mv X0.warmed.alike hh0
  have a31 := hA.1.2.2.2
  have c2 : Steps p.tables e below (s₁.setTop (entryFrame m #[.ref b, .int (Int32.ofNat o), .ref d, .int (Int32.ofNat q), .int (Int32.ofNat len)] 7)) (s₁.setTop (mkF m 3 #[.val (.ref b), .val (.int (Int32.ofNat o)), .val (.ref d), .val (.int (Int32.ofNat q)), .val (.int (Int32.ofNat len)), .val (.int 0), .unset] [])) := c1.trans (by
    refine iconstV X0.here hexec rfl 0 (hb hbytes d0) (by decide) ?_
    refine XS.istore X0.here hexec rfl (hb hbytes d1) rfl rfl ?_
    exact Steps.refl _)
  have loop : ∀ (r i : Nat), i + r = len → ∀ (z : Slot), (z = .unset ∨ ∃ w, z = .val w ∧ w.category = 1) → ∀ (Tl : State) (Bk : Cell), Stand p l e { frames := 0, locals := 0, cells := 0, slots := 0 } s m #[.ref b, .int (Int32.ofNat o), .ref d, .int (Int32.ofNat q), .int (Int32.ofNat len)] below meth c Tl ([] ++ copyLocs d q i) 0 0 → Put d Bk s₁ Tl → Laid B Bk q (q + i) (fun j => Value.int (lo8 (cv A (o + (j - q))))) →
      Steps p.tables e below (s₁.setTop (entryFrame m #[.ref b, .int (Int32.ofNat o), .ref d, .int (Int32.ofNat q), .int (Int32.ofNat len)] 7)) (Tl.setTop (mkF m 3 #[.val (.ref b), .val (.int (Int32.ofNat (o + i))), .val (.ref d), .val (.int (Int32.ofNat (q + i))), .val (.int (Int32.ofNat len)), .val (.int (Int32.ofNat i)), z] [])) → ∃ (T' : State) (B' : Cell) (z' : Slot), Stand p l e { frames := 0, locals := 0, cells := 0, slots := 0 } s m #[.ref b, .int (Int32.ofNat o), .ref d, .int (Int32.ofNat q), .int (Int32.ofNat len)] below meth c T' ([] ++ copyLocs d q len) 0 0 ∧ Put d B' s₁ T' ∧ Laid B B' q (q + len) (fun j => Value.int (lo8 (cv A (o + (j - q))))) ∧
      Steps p.tables e below (s₁.setTop (entryFrame m #[.ref b, .int (Int32.ofNat o), .ref d, .int (Int32.ofNat q), .int (Int32.ofNat len)] 7)) (T'.setTop (mkF m 3 #[.val (.ref b), .val (.int (Int32.ofNat (o + len))), .val (.ref d), .val (.int (Int32.ofNat (q + len))), .val (.int (Int32.ofNat len)), .val (.int (Int32.ofNat len)), z'] [])) := by
    intro r
    induction r with
    | zero =>
      intro i hi z hz Tl Bk Xl pl fl cl
      have hil : i = len := by omega
      rw [hil] at Xl fl cl
      exact ⟨Tl, Bk, z, Xl, pl, fl, cl⟩
    | succ r ih =>
      intro i hi z hz Tl Bk Xl pl fl cl
      have all := X0.warmed.alike.symm.trans Xl.warmed.alike
      have hAl := hA0.keep all (pl.other hne hA0.1)
      have hBk := hB0.like all pl.1 fl.1 fl.2.1 fl.2.2.1
      have hlt : q + i < Bk.slots.size := by rw [fl.2.2.1]; omega
      have c3 : Steps p.tables e below (s₁.setTop (entryFrame m #[.ref b, .int (Int32.ofNat o), .ref d, .int (Int32.ofNat q), .int (Int32.ofNat len)] 7)) (Tl.setTop (mkF m 12 #[.val (.ref b), .val (.int (Int32.ofNat (o + i))), .val (.ref d), .val (.int (Int32.ofNat (q + i))), .val (.int (Int32.ofNat len)), .val (.int (Int32.ofNat i)), z] [.int (Int32.ofNat (o + i)), .ref b])) := cl.trans (by
        refine XS.iload Xl.here hexec rfl (hb hbytes d3) rfl ?_
        refine XS.iload Xl.here hexec rfl (hb hbytes d5) rfl ?_
        refine XS.icmpNo Xl.here hexec rfl (hb hbytes d7) rfl (ii_ge_f (lt32 (by omega) (by omega))) ?_
        refine XS.aloadN Xl.here hexec rfl (hb hbytes d10) rfl rfl ?_
        refine XS.iloadN Xl.here hexec rfl (hb hbytes d11) rfl ?_
        exact Steps.refl _)
      have c4 : Steps p.tables e below (s₁.setTop (entryFrame m #[.ref b, .int (Int32.ofNat o), .ref d, .int (Int32.ofNat q), .int (Int32.ofNat len)] 7)) (Tl.setTop (mkF m 13 #[.val (.ref b), .val (.int (Int32.ofNat (o + i))), .val (.ref d), .val (.int (Int32.ofNat (q + i))), .val (.int (Int32.ofNat len)), .val (.int (Int32.ofNat i)), z] [.int (cv A (o + i))])) := c3.trans (by
        refine Xl.aget hexec hAl rfl (hA.get (i := o + i) (by omega)) rfl rfl (hb hbytes d12) ?_
        exact Steps.refl _)
      have c5 : Steps p.tables e below (s₁.setTop (entryFrame m #[.ref b, .int (Int32.ofNat o), .ref d, .int (Int32.ofNat q), .int (Int32.ofNat len)] 7)) (Tl.setTop (mkF m 15 #[.val (.ref b), .val (.int (Int32.ofNat (o + i))), .val (.ref d), .val (.int (Int32.ofNat (q + i))), .val (.int (Int32.ofNat len)), .val (.int (Int32.ofNat i)), .val (.int (cv A (o + i)))] [])) := c4.trans (by
        refine XS.istoreS Xl.here hexec rfl (hb hbytes d13) rfl rfl hz ?_
        exact Steps.refl _)
      have c6 : Steps p.tables e below (s₁.setTop (entryFrame m #[.ref b, .int (Int32.ofNat o), .ref d, .int (Int32.ofNat q), .int (Int32.ofNat len)] 7)) (Tl.setTop (mkF m 31 #[.val (.ref b), .val (.int (Int32.ofNat (o + i))), .val (.ref d), .val (.int (Int32.ofNat (q + i))), .val (.int (Int32.ofNat len)), .val (.int (Int32.ofNat i)), .val (.int (cv A (o + i)))] [.int (lo8 (cv A (o + i))), .int (Int32.ofNat (q + i)), .ref d])) := c5.trans (by
        refine XS.iload Xl.here hexec rfl (hb hbytes d15) rfl ?_
        refine sipushV Xl.here hexec rfl 255 (hb hbytes d17) (by decide) ?_
        refine XS.icmpYes Xl.here hexec rfl (pc0 := 20) rfl (hb hbytes d20) rfl (ii_le_t (hp i (by omega))) (by decide) rfl ?_
        refine XS.aloadN Xl.here hexec rfl (hb hbytes d26) rfl rfl ?_
        refine XS.iloadN Xl.here hexec rfl (hb hbytes d27) rfl ?_
        refine XS.iload Xl.here hexec rfl (hb hbytes d28) rfl ?_
        refine i2b Xl.here hexec rfl (hb hbytes d30) rfl ?_
        exact Steps.refl _)
      obtain ⟨T7, X7, p7, st7⟩ := Xl.aput hexec hBk rfl hlt rfl (fits_lo8 (cv A (o + i))) (g := (mkF m 31 #[.val (.ref b), .val (.int (Int32.ofNat (o + i))), .val (.ref d), .val (.int (Int32.ofNat (q + i))), .val (.int (Int32.ofNat len)), .val (.int (Int32.ofNat i)), .val (.int (cv A (o + i)))] [.int (lo8 (cv A (o + i))), .int (Int32.ofNat (q + i)), .ref d])) rfl (rest := []) rfl (hb hbytes d31)
      have c8 : Steps p.tables e below (s₁.setTop (entryFrame m #[.ref b, .int (Int32.ofNat o), .ref d, .int (Int32.ofNat q), .int (Int32.ofNat len)] 7)) (T7.setTop (mkF m 32 #[.val (.ref b), .val (.int (Int32.ofNat (o + i))), .val (.ref d), .val (.int (Int32.ofNat (q + i))), .val (.int (Int32.ofNat len)), .val (.int (Int32.ofNat i)), .val (.int (cv A (o + i)))] [])) := c6.trans (st7 _ (Steps.refl _))
      have c9 : Steps p.tables e below (s₁.setTop (entryFrame m #[.ref b, .int (Int32.ofNat o), .ref d, .int (Int32.ofNat q), .int (Int32.ofNat len)] 7)) (T7.setTop (mkF m 3 #[.val (.ref b), .val (.int (Int32.ofNat (o + i) + 1)), .val (.ref d), .val (.int (Int32.ofNat (q + i) + 1)), .val (.int (Int32.ofNat len)), .val (.int (Int32.ofNat i + 1)), .val (.int (cv A (o + i)))] [])) := c8.trans (by
        refine iincV X7.here hexec rfl 1 (hb hbytes d32) (by decide) rfl rfl ?_
        refine iincV X7.here hexec rfl 1 (hb hbytes d35) (by decide) rfl rfl ?_
        refine iincV X7.here hexec rfl 1 (hb hbytes d38) (by decide) rfl rfl ?_
        refine XS.goto X7.here hexec rfl (pc0 := 41) rfl (hb hbytes d41) (by decide) rfl ?_
        exact Steps.refl _)
      have c10 : Steps p.tables e below (s₁.setTop (entryFrame m #[.ref b, .int (Int32.ofNat o), .ref d, .int (Int32.ofNat q), .int (Int32.ofNat len)] 7)) (T7.setTop (mkF m 3 #[.val (.ref b), .val (.int (Int32.ofNat (o + (i + 1)))), .val (.ref d), .val (.int (Int32.ofNat (q + (i + 1)))), .val (.int (Int32.ofNat len)), .val (.int (Int32.ofNat (i + 1))), .val (.int (cv A (o + i)))] [])) := by
        have := c9
        rw [succ32, succ32, succ32] at this
        exact this
      exact ih (i + 1) (by omega) _ (Or.inr ⟨_, rfl, rfl⟩) T7 _ (by rw [copyLocs_step, ← List.append_assoc]; exact X7) (pl.trans p7) (fl.step (by omega) hlt (by simp)) c10
  obtain ⟨T9, B9, z9, X9, p9, f9, g9⟩ := loop len 0 (by omega) .unset (Or.inl rfl) s₁ B (by simpa [copyLocs] using X0) ⟨hB0.1, fun _ _ => rfl, rfl⟩ (Laid.zero _ _ _) c2
  have c11 : Steps p.tables e below (s₁.setTop (entryFrame m #[.ref b, .int (Int32.ofNat o), .ref d, .int (Int32.ofNat q), .int (Int32.ofNat len)] 7)) (T9.setTop (mkF m 46 #[.val (.ref b), .val (.int (Int32.ofNat (o + len))), .val (.ref d), .val (.int (Int32.ofNat (q + len))), .val (.int (Int32.ofNat len)), .val (.int (Int32.ofNat len)), z9] [.int (Int32.ofNat len)])) := g9.trans (by
    refine XS.iload X9.here hexec rfl (hb hbytes d3) rfl ?_
    refine XS.iload X9.here hexec rfl (hb hbytes d5) rfl ?_
    refine XS.icmpYes X9.here hexec rfl (pc0 := 7) rfl (hb hbytes d7) rfl (ii_ge_t (nlt32 (by omega) (Nat.le_refl _))) (by decide) rfl ?_
    refine XS.iload X9.here hexec rfl (hb hbytes d44) rfl ?_
    exact Steps.refl _)
  exact ⟨T9, some (.int (Int32.ofNat len)), _, _, _, X9, by simp, rfl, rfl, (fun h => by cases h), ⟨rfl, B9, p9.from hh0, f9⟩, fun fs hl => c11.trans (X9.ireturnOut hexec hret rfl (Or.inl rfl) (hb hbytes d46) hl)⟩
end Cmp5
namespace Cmp3
def yN : MethodName := ⟨"java/lang/StringUTF16", "compress", "([CII)[B"⟩
abbrev yB : ByteArray := jdk_52_method_16_code
theorem d0 : decode yB 0 = .ok (.iload_n 2, 1) := by decide +kernel
theorem d1 : decode yB 1 = .ok (.newarray .byte, 2) := by decide +kernel
theorem d3 : decode yB 3 = .ok (.astore_n 3, 1) := by decide +kernel
theorem d4 : decode yB 4 = .ok (.aload_n 0, 1) := by decide +kernel
theorem d5 : decode yB 5 = .ok (.iload_n 1, 1) := by decide +kernel
theorem d6 : decode yB 6 = .ok (.aload_n 3, 1) := by decide +kernel
theorem d7 : decode yB 7 = .ok (.iconst 0, 1) := by decide +kernel
theorem d8 : decode yB 8 = .ok (.iload_n 2, 1) := by decide +kernel
theorem d9 : decode yB 9 = .ok (.invokestatic 115, 3) := by decide +kernel
theorem d12 : decode yB 12 = .ok (.istore 4, 2) := by decide +kernel
theorem d14 : decode yB 14 = .ok (.iload 4, 2) := by decide +kernel
theorem d16 : decode yB 16 = .ok (.iload_n 2, 1) := by decide +kernel
theorem d17 : decode yB 17 = .ok (.if_icmp (.eq) 40, 3) := by decide +kernel
theorem d57 : decode yB 57 = .ok (.aload_n 3, 1) := by decide +kernel
theorem d58 : decode yB 58 = .ok (.areturn, 1) := by decide +kernel
def site : List Cond := [.arrayClass .byte, Cmp5.tab] ++ staticW U16 115 Cmp5.yN
def tab : Cond := tabOf yN yB 6 (some (.array .byte)) site
def P (b : Addr) (A : Cell) (o len : Nat) (args : Array Value) (s : State) : Prop := args = #[.ref b, .int (Int32.ofNat o), .int (Int32.ofNat len)] ∧ Ch b A s ∧ o + len ≤ A.slots.size ∧ len ≤ 536870912 ∧ ∀ i, i < len → ¬ 255 < cv A (o + i)
def E (b : Addr) (A : Cell) (o len : Nat) (r : Option Value) (s u : State) : Prop := NewArr .byte "[B" len (fun j => .int (lo8 (cv A (o + j)))) r s u ∧ u.heap.size = s.heap.size + 1
/-- no char of the range above 255: a new byte[] of their low bytes -/
theorem law (l : Launch) (b : Addr) (A : Cell) (o len : Nat) : Law l yN 3 3 1 18 yB 6 (some (.array .byte)) site (P b A o len) (E b A o len) [] 1 len := by
  refine Law.of_walk (plainFor_of_name (by decide +kernel)) (by decide +kernel) (by decide +kernel) (by decide) (fun _ _ h => by rw [h.1]; rfl) (fun _ U U' hal hh h => ⟨h.1, h.2.1.mv hal hh, h.2.2⟩) (fun r U U' V V' h1 hal h2 h => ⟨NewArr.mv r U U' V V' h1 hal h2 h.1, by rw [h1, h2]; exact h.2⟩) ?_
  intro p e s m args below meth c s₁ X0 hexec hbytes hml hret hlk hnm hown hh0 W hP
  obtain ⟨rfl, hA, l1, l2, hp⟩ := hP
  have a31 := hA.1.2.2.2
  have c1 : Steps p.tables e below (s₁.setTop (entryFrame m #[.ref b, .int (Int32.ofNat o), .int (Int32.ofNat len)] 6)) (s₁.setTop (mkF m 0 #[.val (.ref b), .val (.int (Int32.ofNat o)), .val (.int (Int32.ofNat len)), .unset, .unset, .unset] [])) := entry rfl
  have c2 : Steps p.tables e below (s₁.setTop (entryFrame m #[.ref b, .int (Int32.ofNat o), .int (Int32.ofNat len)] 6)) (s₁.setTop (mkF m 1 #[.val (.ref b), .val (.int (Int32.ofNat o)), .val (.int (Int32.ofNat len)), .unset, .unset, .unset] [.int (Int32.ofNat len)])) := c1.trans (by
    refine XS.iloadN X0.here hexec rfl (hb hbytes d0) rfl ?_
    exact Steps.refl _)
  obtain ⟨T3, B3, X3, ba3, bs3, bv3, bh3, bf3, st3⟩ := X0.anew hexec (atype := .byte) (wk W (.arrayClass .byte)) rfl (by show len * 1 ≤ _; omega) (by omega) (g := (mkF m 1 #[.val (.ref b), .val (.int (Int32.ofNat o)), .val (.int (Int32.ofNat len)), .unset, .unset, .unset] [.int (Int32.ofNat len)])) rfl (hb hbytes d1) (rest := []) rfl (Nat.le_refl _) (by show 0 + len ≤ len; omega)
  rw [hh0] at ba3 st3
  have kp3 : XT.Kept s T3 := (XT.Kept.of_eq hh0).push bh3
  have hA3 := hA.keep X3.warmed.alike (kp3 _ _ hA.1.1)
  have hne : b ≠ s.heap.size := hA.1.ne
  have c4 : Steps p.tables e below (s₁.setTop (entryFrame m #[.ref b, .int (Int32.ofNat o), .int (Int32.ofNat len)] 6)) (T3.setTop (mkF m 3 #[.val (.ref b), .val (.int (Int32.ofNat o)), .val (.int (Int32.ofNat len)), .unset, .unset, .unset] [.ref s.heap.size])) := c2.trans (st3 _ (Steps.refl _))
  have c5 : Steps p.tables e below (s₁.setTop (entryFrame m #[.ref b, .int (Int32.ofNat o), .int (Int32.ofNat len)] 6)) (T3.setTop (mkF m 9 #[.val (.ref b), .val (.int (Int32.ofNat o)), .val (.int (Int32.ofNat len)), .val (.ref s.heap.size), .unset, .unset] [.int (Int32.ofNat len), .int 0, .ref s.heap.size, .int (Int32.ofNat o), .ref b])) := c4.trans (by
    refine XS.astoreN X3.here hexec rfl (hb hbytes d3) rfl rfl rfl ?_
    refine XS.aloadN X3.here hexec rfl (hb hbytes d4) rfl rfl ?_
    refine XS.iloadN X3.here hexec rfl (hb hbytes d5) rfl ?_
    refine XS.aloadN X3.here hexec rfl (hb hbytes d6) rfl rfl ?_
    refine iconstV X3.here hexec rfl 0 (hb hbytes d7) (by decide) ?_
    refine XS.iloadN X3.here hexec rfl (hb hbytes d8) rfl ?_
    exact Steps.refl _)
  obtain ⟨v6, T6, X6, E6, g6⟩ := X3.callS hexec (Cmp5.law l b A s.heap.size B3 o 0 len) hown (wks W (staticW U16 115 Cmp5.yN)) (wk W Cmp5.tab) (W := 0) (Nat.le_of_ble_eq_true rfl) (Nat.le_of_ble_eq_true rfl) (Nat.le_refl _) (by show 0 + len + 0 ≤ len; omega) (g := (mkF m 9 #[.val (.ref b), .val (.int (Int32.ofNat o)), .val (.int (Int32.ofNat len)), .val (.ref s.heap.size), .unset, .unset] [.int (Int32.ofNat len), .int (Int32.ofNat 0), .ref s.heap.size, .int (Int32.ofNat o), .ref b])) rfl (by rw [hml]; rfl) c5 (argsL := [.ref b, .int (Int32.ofNat o), .ref s.heap.size, .int (Int32.ofNat 0), .int (Int32.ofNat len)]) (rest := []) rfl rfl (by show 2 * 0 + 0 ≤ _; decide) (hb hbytes d9) (⟨rfl, hA3, ba3, hne, l1, by rw [bs3]; simp, hp⟩)
  obtain ⟨rfl, B6, p6, f6⟩ := E6
  have c7 : Steps p.tables e below (s₁.setTop (entryFrame m #[.ref b, .int (Int32.ofNat o), .int (Int32.ofNat len)] 6)) (T6.setTop (mkF m 12 #[.val (.ref b), .val (.int (Int32.ofNat o)), .val (.int (Int32.ofNat len)), .val (.ref s.heap.size), .unset, .unset] [.int (Int32.ofNat len)])) := g6
  have c8 : Steps p.tables e below (s₁.setTop (entryFrame m #[.ref b, .int (Int32.ofNat o), .int (Int32.ofNat len)] 6)) (T6.setTop (mkF m 58 #[.val (.ref b), .val (.int (Int32.ofNat o)), .val (.int (Int32.ofNat len)), .val (.ref s.heap.size), .val (.int (Int32.ofNat len)), .unset] [.ref s.heap.size])) := c7.trans (by
    refine XS.istore X6.here hexec rfl (hb hbytes d12) rfl rfl ?_
    refine XS.iload X6.here hexec rfl (hb hbytes d14) rfl ?_
    refine XS.iloadN X6.here hexec rfl (hb hbytes d16) rfl ?_
    refine XS.icmpYes X6.here hexec rfl (pc0 := 17) rfl (hb hbytes d17) rfl (ii_eq_t rfl) (by decide) rfl ?_
    refine XS.aloadN X6.here hexec rfl (hb hbytes d57) rfl rfl ?_
    exact Steps.refl _)
  have X8 := X6.wide (L' := []) (cells' := 1) (slots' := len) (fun x hx hlt => by
    simp only [List.nil_append, copyLocs, List.mem_map, List.mem_range] at hx
    obtain ⟨i, -, rfl⟩ := hx
    exact absurd hlt (Nat.lt_irrefl _)) (Nat.le_refl _) (by omega)
  exact ⟨T6, some (.ref s.heap.size), _, _, _, X8, rfl, rfl, rfl, (fun h => by cases h), ⟨⟨rfl, B6, ba3.like (X3.warmed.alike.symm.trans X6.warmed.alike) p6.1 f6.1 f6.2.1 f6.2.2.1, f6.2.1.trans bv3, by rw [X6.warmed.alike.findClass, f6.1]; exact bf3, by rw [f6.2.2.1, bs3]; simp, fun j hj => by rw [f6.2.2.2 j, if_pos (by omega)]; rfl, kp3.put p6 (Nat.le_refl _)⟩, by rw [p6.2.2, bh3, hh0]; simp⟩, fun fs hl => c8.trans (X8.areturnOut hexec rfl hret rfl (hb hbytes d58) hl)⟩
end Cmp3
namespace CodL
def yN : MethodName := ⟨"java/lang/StringUTF16", "coderFromArrayLen", "([BI)B"⟩
abbrev yB : ByteArray := jdk_52_method_15_code
theorem d0 : decode yB 0 = .ok (.iload_n 1, 1) := by decide +kernel
theorem d1 : decode yB 1 = .ok (.aload_n 0, 1) := by decide +kernel
theorem d2 : decode yB 2 = .ok (.arraylength, 1) := by decide +kernel
theorem d3 : decode yB 3 = .ok (.isub, 1) := by decide +kernel
theorem d4 : decode yB 4 = .ok (.bipush 31, 2) := by decide +kernel
theorem d6 : decode yB 6 = .ok (.iushr, 1) := by decide +kernel
theorem d7 : decode yB 7 = .ok (.i2b, 1) := by decide +kernel
theorem d8 : decode yB 8 = .ok (.ireturn, 1) := by decide +kernel
def site : List Cond := []
def tab : Cond := tabOf yN yB 2 (some .byte) site
def P (d : Addr) (B : Cell) (args : Array Value) (s : State) : Prop := args = #[.ref d, .int (Int32.ofNat B.slots.size)] ∧ Arr .byte d B s
def E (r : Option Value) (s u : State) : Prop := XT.PureE (some (.int 0)) r s u
/-- an array as long as the number of chars: LATIN1 -/
theorem law (l : Launch) (d : Addr) (B : Cell) : Law l yN 2 2 0 0 yB 2 (some .byte) site (P d B) E [] 0 0 := by
  refine Law.of_walk (plainFor_of_name (by decide +kernel)) (by decide +kernel) (by decide +kernel) (by decide) (fun _ _ h => by rw [h.1]; rfl) (fun _ U U' hal hh h => ⟨h.1, h.2.mv hal hh⟩) (fun r U U' V V' h1 hal h2 h => XT.PureE.mv r U U' V V' h1 hal h2 h) ?_
  intro p e s m args below meth c s₁ X0 hexec hbytes hml hret hlk hnm hown hh0 W hP
  obtain ⟨rfl, hB⟩ := hP
  have hB0 := hB.mv X0.warmed.alike hh0
  have c1 : Steps p.tables e below (s₁.setTop (entryFrame m #[.ref d, .int (Int32.ofNat B.slots.size)] 2)) (s₁.setTop (mkF m 0 #[.val (.ref d), .val (.int (Int32.ofNat B.slots.size))] [])) := entry rfl
  have c2 : Steps p.tables e below (s₁.setTop (entryFrame m #[.ref d, .int (Int32.ofNat B.slots.size)] 2)) (s₁.setTop (mkF m 2 #[.val (.ref d), .val (.int (Int32.ofNat B.slots.size))] [.ref d, .int (Int32.ofNat B.slots.size)])) := c1.trans (by
    refine XS.iloadN X0.here hexec rfl (hb hbytes d0) rfl ?_
    refine XS.aloadN X0.here hexec rfl (hb hbytes d1) rfl rfl ?_
    exact Steps.refl _)
  have c3 : Steps p.tables e below (s₁.setTop (entryFrame m #[.ref d, .int (Int32.ofNat B.slots.size)] 2)) (s₁.setTop (mkF m 8 #[.val (.ref d), .val (.int (Int32.ofNat B.slots.size))] [.int (lo8 (ushr (Int32.ofNat B.slots.size - Int32.ofNat B.slots.size) 31))])) := c2.trans (by
    refine X0.alen hexec hB0 rfl rfl (hb hbytes d2) ?_
    refine XS.isub X0.here hexec rfl (hb hbytes d3) rfl ?_
    refine bipushV X0.here hexec rfl 31 (hb hbytes d4) (by decide) ?_
    refine iushr X0.here hexec rfl (hb hbytes d6) rfl ?_
    refine i2b X0.here hexec rfl (hb hbytes d7) rfl ?_
    exact Steps.refl _)
  have e0 : lo8 (ushr (Int32.ofNat B.slots.size - Int32.ofNat B.slots.size) 31) = 0 := by rw [Int32.sub_self]; decide
  rw [e0] at c3
  exact ⟨s₁, some (.int 0), _, _, _, X0, rfl, rfl, rfl, (fun h => by cases h), ⟨rfl, hh0⟩, fun fs hl => c3.trans (X0.ireturnOut hexec hret rfl (Or.inr (Or.inr (Or.inl rfl))) (hb hbytes d8) hl)⟩
end CodL
/-- the String at a is Latin-1 over a new byte[] (the heap's one new cell): the low bytes of the len chars of A from o on; every cell but a is kept -/
def Got (a : Addr) (D : Cell) (fV fC : Field) (A : Cell) (o len : Nat) (r : Option Value) (s u : State) : Prop := r = none ∧ ∃ D' V : Cell, Blank "java/lang/String" a D' u ∧ Same D D' [fV.slot, fC.slot] ∧ D'.slots[fV.slot]? = some (.ref s.heap.size) ∧ D'.slots[fC.slot]? = some (.int 0) ∧ Arr .byte s.heap.size V u ∧ V.vm = .none ∧ u.vm.findClass "[B" = some V.cls ∧ V.slots.size = len ∧ (∀ j, j < len → V.slots[j]? = some (.int (lo8 (cv A (o + j))))) ∧ (∀ (y : Addr) (c : Cell), y ≠ a → s.heap[y]? = some c → u.heap[y]? = some c) ∧ u.heap.size = s.heap.size + 1
theorem Got.mv {a : Addr} {D A : Cell} {fV fC : Field} {o len : Nat} : ∀ r (U U' V V' : State), U'.heap = U.heap → V.vm.Alike V'.vm → V'.heap = V.heap → Got a D fV fC A o len r U V → Got a D fV fC A o len r U' V' :=
  fun r U U' V V' h1 hal h2 ⟨e0, D', X, a1, a2, a3, a4, a5, a6, a7, a8, a9, a10, a11⟩ => ⟨e0, D', X, a1.mv hal h2, a2, by rw [h1]; exact a3, a4, by rw [h1]; exact a5.mv hal h2, a6, by rw [hal.findClass]; exact a7, a8, a9, by rw [h1, h2]; exact a10, by rw [h1, h2]; exact a11⟩
namespace New4
def yN : MethodName := ⟨"java/lang/String", "<init>", "([CIILjava/lang/Void;)V"⟩
abbrev yB : ByteArray := jdk_42_method_149_code
theorem d0 : decode yB 0 = .ok (.aload_n 0, 1) := by decide +kernel
theorem d1 : decode yB 1 = .ok (.invokespecial 1, 3) := by decide +kernel
theorem d4 : decode yB 4 = .ok (.iload_n 3, 1) := by decide +kernel
theorem d5 : decode yB 5 = .ok (.ifCond (.ne) 22, 3) := by decide +kernel
theorem d27 : decode yB 27 = .ok (.getstatic 38, 3) := by decide +kernel
theorem d30 : decode yB 30 = .ok (.ifCond (.eq) 28, 3) := by decide +kernel
theorem d33 : decode yB 33 = .ok (.aload_n 1, 1) := by decide +kernel
theorem d34 : decode yB 34 = .ok (.iload_n 2, 1) := by decide +kernel
theorem d35 : decode yB 35 = .ok (.iload_n 3, 1) := by decide +kernel
theorem d36 : decode yB 36 = .ok (.invokestatic 177, 3) := by decide +kernel
theorem d39 : decode yB 39 = .ok (.astore 5, 2) := by decide +kernel
theorem d41 : decode yB 41 = .ok (.aload_n 0, 1) := by decide +kernel
theorem d42 : decode yB 42 = .ok (.aload 5, 2) := by decide +kernel
theorem d44 : decode yB 44 = .ok (.iload_n 3, 1) := by decide +kernel
theorem d45 : decode yB 45 = .ok (.invokestatic 47, 3) := by decide +kernel
theorem d48 : decode yB 48 = .ok (.putfield 15, 3) := by decide +kernel
theorem d51 : decode yB 51 = .ok (.aload_n 0, 1) := by decide +kernel
theorem d52 : decode yB 52 = .ok (.aload 5, 2) := by decide +kernel
theorem d54 : decode yB 54 = .ok (.putfield 9, 3) := by decide +kernel
theorem d57 : decode yB 57 = .ok (.return_, 1) := by decide +kernel
def site : List Cond := [.fieldLink "java/lang/String" 38 "java/lang/String" "COMPACT_STRINGS" "Z", Cmp3.tab, CodL.tab, .laysFinal "java/lang/String" "java/lang/String" "value" "[B", .fieldLink "java/lang/String" 9 "java/lang/String" "value" "[B", .laysFinal "java/lang/String" "java/lang/String" "coder" "B", .fieldLink "java/lang/String" 15 "java/lang/String" "coder" "B"] ++ objW "java/lang/String" 1 ++ staticW "java/lang/String" 177 Cmp3.yN ++ staticW "java/lang/String" 47 CodL.yN
def tab : Cond := tabOf yN yB 6 none site
def P (a : Addr) (D : Cell) (fV fC : Field) (b : Addr) (A : Cell) (z : Int32) (o len : Nat) (args : Array Value) (s : State) : Prop := args = #[.ref a, .ref b, .int (Int32.ofNat o), .int (Int32.ofNat len), .null] ∧ Blank "java/lang/String" a D s ∧ Found "java/lang/String" "value" "[B" fV s ∧ Found "java/lang/String" "coder" "B" fC s ∧ Ch b A s ∧ StaticIs s "java/lang/String" "COMPACT_STRINGS" "Z" (.int z) ∧ ¬ z = 0 ∧ 0 < len ∧ o + len ≤ A.slots.size ∧ len ≤ 536870912 ∧ ∀ i, i < len → ¬ 255 < cv A (o + i)
def E (a : Addr) (D : Cell) (fV fC : Field) (A : Cell) (o len : Nat) (r : Option Value) (s u : State) : Prop := Got a D fV fC A o len r s u
/-- len > 0, no char of the range above 255: a Latin-1 String of their low bytes -/
theorem law (l : Launch) (a : Addr) (D : Cell) (fV fC : Field) (b : Addr) (A : Cell) (z : Int32) (o len : Nat) : Law l yN 5 4 2 35 yB 6 none site (P a D fV fC b A z o len) (E a D fV fC A o len) [⟨a, fC.slot⟩, ⟨a, fV.slot⟩] 1 len := by
  refine Law.of_walk (plainFor_of_name (by decide +kernel)) (by decide +kernel) (by decide +kernel) (by decide) (fun _ _ h => by rw [h.1]; rfl) (fun _ U U' hal hh h => ⟨h.1, h.2.1.mv hal hh, h.2.2.1.al hal, h.2.2.2.1.al hal, h.2.2.2.2.1.mv hal hh, h.2.2.2.2.2.1.there hal hh, h.2.2.2.2.2.2⟩) (fun r U U' V V' h1 hal h2 h => Got.mv r U U' V V' h1 hal h2 h) ?_
  intro p e s m args below meth c s₁ X0 hexec hbytes hml hret hlk hnm hown hh0 W hP
  obtain ⟨rfl, hB, f1, f2, hA, s1, hz, l0, l1, l2, hp⟩ := hP
  have a31 := hA.1.2.2.2
  have c1 : Steps p.tables e below (s₁.setTop (entryFrame m #[.ref a, .ref b, .int (Int32.ofNat o), .int (Int32.ofNat len), .null] 6)) (s₁.setTop (mkF m 0 #[.val (.ref a), .val (.ref b), .val (.int (Int32.ofNat o)), .val (.int (Int32.ofNat len)), .val .null, .unset] [])) := entry rfl
  have c2 : Steps p.tables e below (s₁.setTop (entryFrame m #[.ref a, .ref b, .int (Int32.ofNat o), .int (Int32.ofNat len), .null] 6)) (s₁.setTop (mkF m 1 #[.val (.ref a), .val (.ref b), .val (.int (Int32.ofNat o)), .val (.int (Int32.ofNat len)), .val .null, .unset] [.ref a])) := c1.trans (by
    refine XS.aloadN X0.here hexec rfl (hb hbytes d0) rfl rfl ?_
    exact Steps.refl _)
  obtain ⟨T3, X3, q3, st3⟩ := X0.oinit hexec hown (wks W (objW "java/lang/String" 1)) (g := (mkF m 1 #[.val (.ref a), .val (.ref b), .val (.int (Int32.ofNat o)), .val (.int (Int32.ofNat len)), .val .null, .unset] [.ref a])) rfl (by rw [hml]; rfl) (rest := []) rfl (hb hbytes d1) (W := 0) (by show 2 * 0 + 0 ≤ _; decide) (Nat.le_of_ble_eq_true rfl) (Nat.le_of_ble_eq_true rfl)
  have hh3 := q3.trans hh0
  have c4 : Steps p.tables e below (s₁.setTop (entryFrame m #[.ref a, .ref b, .int (Int32.ofNat o), .int (Int32.ofNat len), .null] 6)) (T3.setTop (mkF m 27 #[.val (.ref a), .val (.ref b), .val (.int (Int32.ofNat o)), .val (.int (Int32.ofNat len)), .val .null, .unset] [])) := (c2.trans (st3 _ (Steps.refl _))).trans (by
    refine XS.iloadN X3.here hexec rfl (hb hbytes d4) rfl ?_
    refine XS.ifYes X3.here hexec rfl (pc0 := 5) rfl (hb hbytes d5) rfl (i0_ne_t (nz32 (by omega) l0)) (by decide) rfl ?_
    exact Steps.refl _)
  obtain ⟨T5, X5, q5, st5⟩ := X3.sget hexec hown (wk W (.fieldLink "java/lang/String" 38 "java/lang/String" "COMPACT_STRINGS" "Z")) s1 (fun _ _ h => by rw [hh3]; exact h) (g := (mkF m 27 #[.val (.ref a), .val (.ref b), .val (.int (Int32.ofNat o)), .val (.int (Int32.ofNat len)), .val .null, .unset] [])) rfl (hb hbytes d27)
  have hh5 := q5.trans hh3
  have c6 : Steps p.tables e below (s₁.setTop (entryFrame m #[.ref a, .ref b, .int (Int32.ofNat o), .int (Int32.ofNat len), .null] 6)) (T5.setTop (mkF m 30 #[.val (.ref a), .val (.ref b), .val (.int (Int32.ofNat o)), .val (.int (Int32.ofNat len)), .val .null, .unset] [.int z])) := c4.trans (st5 _ (Steps.refl _))
  have c7 : Steps p.tables e below (s₁.setTop (entryFrame m #[.ref a, .ref b, .int (Int32.ofNat o), .int (Int32.ofNat len), .null] 6)) (T5.setTop (mkF m 36 #[.val (.ref a), .val (.ref b), .val (.int (Int32.ofNat o)), .val (.int (Int32.ofNat len)), .val .null, .unset] [.int (Int32.ofNat len), .int (Int32.ofNat o), .ref b])) := c6.trans (by
    refine XS.ifNo X5.here hexec rfl (hb hbytes d30) rfl (i0_eq_f hz) ?_
    refine XS.aloadN X5.here hexec rfl (hb hbytes d33) rfl rfl ?_
    refine XS.iloadN X5.here hexec rfl (hb hbytes d34) rfl ?_
    refine XS.iloadN X5.here hexec rfl (hb hbytes d35) rfl ?_
    exact Steps.refl _)
  obtain ⟨v8, T8, X8, E8, g8⟩ := X5.callS hexec (Cmp3.law l b A o len) hown (wks W (staticW "java/lang/String" 177 Cmp3.yN)) (wk W Cmp3.tab) (W := 0) (Nat.le_of_ble_eq_true rfl) (Nat.le_of_ble_eq_true rfl) (Nat.le_refl _) (by show 0 + len ≤ len; omega) (g := (mkF m 36 #[.val (.ref a), .val (.ref b), .val (.int (Int32.ofNat o)), .val (.int (Int32.ofNat len)), .val .null, .unset] [.int (Int32.ofNat len), .int (Int32.ofNat o), .ref b])) rfl (by rw [hml]; rfl) c7 (argsL := [.ref b, .int (Int32.ofNat o), .int (Int32.ofNat len)]) (rest := []) rfl rfl (by show 2 * 0 + 0 ≤ _; decide) (hb hbytes d36) (⟨rfl, hA.mv X5.warmed.alike hh5, l1, l2, hp⟩)
  obtain ⟨e8, z8⟩ := E8
  obtain ⟨rfl, N, n1, n2, n3, n4, n5, n6⟩ := NewArr.mv _ T5 s _ _ hh5.symm (Vm.Alike.refl _) rfl e8
  rw [hh5] at z8
  have hB1 := hB.keep X8.warmed.alike (n6 _ _ hB.1)
  have hne : s.heap.size ≠ a := (Nat.ne_of_lt (Array.getElem?_eq_some_iff.mp hB.1).1).symm
  have c9 : Steps p.tables e below (s₁.setTop (entryFrame m #[.ref a, .ref b, .int (Int32.ofNat o), .int (Int32.ofNat len), .null] 6)) (T8.setTop (mkF m 39 #[.val (.ref a), .val (.ref b), .val (.int (Int32.ofNat o)), .val (.int (Int32.ofNat len)), .val .null, .unset] [.ref s.heap.size])) := g8
  have c10 : Steps p.tables e below (s₁.setTop (entryFrame m #[.ref a, .ref b, .int (Int32.ofNat o), .int (Int32.ofNat len), .null] 6)) (T8.setTop (mkF m 45 #[.val (.ref a), .val (.ref b), .val (.int (Int32.ofNat o)), .val (.int (Int32.ofNat len)), .val .null, .val (.ref s.heap.size)] [.int (Int32.ofNat N.slots.size), .ref s.heap.size, .ref a])) := by
    have hc : Steps p.tables e below (s₁.setTop (entryFrame m #[.ref a, .ref b, .int (Int32.ofNat o), .int (Int32.ofNat len), .null] 6)) (T8.setTop (mkF m 45 #[.val (.ref a), .val (.ref b), .val (.int (Int32.ofNat o)), .val (.int (Int32.ofNat len)), .val .null, .val (.ref s.heap.size)] [.int (Int32.ofNat len), .ref s.heap.size, .ref a])) := c9.trans (by
      refine XS.astore X8.here hexec rfl (hb hbytes d39) rfl rfl rfl ?_
      refine XS.aloadN X8.here hexec rfl (hb hbytes d41) rfl rfl ?_
      refine XS.aload X8.here hexec rfl (hb hbytes d42) rfl rfl ?_
      refine XS.iloadN X8.here hexec rfl (hb hbytes d44) rfl ?_
      exact Steps.refl _)
    rw [n4]; exact hc
  obtain ⟨v11, T11, X11, E11, g11⟩ := X8.callS hexec (CodL.law l s.heap.size N) hown (wks W (staticW "java/lang/String" 47 CodL.yN)) (wk W CodL.tab) (W := 1) (Nat.le_of_ble_eq_true rfl) (Nat.le_of_ble_eq_true rfl) (Nat.le_refl _) (by show 0 + len + 0 ≤ len; omega) (g := (mkF m 45 #[.val (.ref a), .val (.ref b), .val (.int (Int32.ofNat o)), .val (.int (Int32.ofNat len)), .val .null, .val (.ref s.heap.size)] [.int (Int32.ofNat N.slots.size), .ref s.heap.size, .ref a])) rfl (by rw [hml]; rfl) c10 (argsL := [.ref s.heap.size, .int (Int32.ofNat N.slots.size)]) (rest := [.ref a]) rfl rfl (by show 2 * 0 + (1 + 0) ≤ _; decide) (hb hbytes d45) (⟨rfl, n1⟩)
  obtain ⟨rfl, q11⟩ := E11
  have hB11 := hB1.mv (X8.warmed.alike.symm.trans X11.warmed.alike) q11
  have c12 : Steps p.tables e below (s₁.setTop (entryFrame m #[.ref a, .ref b, .int (Int32.ofNat o), .int (Int32.ofNat len), .null] 6)) (T11.setTop (mkF m 48 #[.val (.ref a), .val (.ref b), .val (.int (Int32.ofNat o)), .val (.int (Int32.ofNat len)), .val .null, .val (.ref s.heap.size)] [.int 0, .ref a])) := g11
  obtain ⟨T13, X13, p13, bl13, sl13, st13⟩ := X11.finit hexec hown (wk W (.fieldLink "java/lang/String" 15 "java/lang/String" "coder" "B")) (Or.inr ⟨_, (wk W (.laysFinal "java/lang/String" "java/lang/String" "coder" "B"))⟩) (Or.inl ⟨rfl, hnm⟩) f2 (Or.inl rfl) hB11 (t := .byte) (by decide +kernel) rfl (g := (mkF m 48 #[.val (.ref a), .val (.ref b), .val (.int (Int32.ofNat o)), .val (.int (Int32.ofNat len)), .val .null, .val (.ref s.heap.size)] [.int 0, .ref a])) rfl (rest := []) rfl (hb hbytes d48)
  have c14 : Steps p.tables e below (s₁.setTop (entryFrame m #[.ref a, .ref b, .int (Int32.ofNat o), .int (Int32.ofNat len), .null] 6)) (T13.setTop (mkF m 54 #[.val (.ref a), .val (.ref b), .val (.int (Int32.ofNat o)), .val (.int (Int32.ofNat len)), .val .null, .val (.ref s.heap.size)] [.ref s.heap.size, .ref a])) := (c12.trans (st13 _ (Steps.refl _))).trans (by
    refine XS.aloadN X13.here hexec rfl (hb hbytes d51) rfl rfl ?_
    refine XS.aload X13.here hexec rfl (hb hbytes d52) rfl rfl ?_
    exact Steps.refl _)
  obtain ⟨T15, X15, p15, bl15, sl15, st15⟩ := X13.finit hexec hown (wk W (.fieldLink "java/lang/String" 9 "java/lang/String" "value" "[B")) (Or.inr ⟨_, (wk W (.laysFinal "java/lang/String" "java/lang/String" "value" "[B"))⟩) (Or.inl ⟨rfl, hnm⟩) f1 (Or.inl rfl) bl13 (t := (.array .byte)) (by decide +kernel) rfl (g := (mkF m 54 #[.val (.ref a), .val (.ref b), .val (.int (Int32.ofNat o)), .val (.int (Int32.ofNat len)), .val .null, .val (.ref s.heap.size)] [.ref s.heap.size, .ref a])) rfl (rest := []) rfl (hb hbytes d54)
  have c16 : Steps p.tables e below (s₁.setTop (entryFrame m #[.ref a, .ref b, .int (Int32.ofNat o), .int (Int32.ofNat len), .null] 6)) (T15.setTop (mkF m 57 #[.val (.ref a), .val (.ref b), .val (.int (Int32.ofNat o)), .val (.int (Int32.ofNat len)), .val .null, .val (.ref s.heap.size)] [])) := c14.trans (st15 _ (Steps.refl _))
  have ap := apart (Or.inr ⟨_, (wk W (.laysFinal "java/lang/String" "java/lang/String" "value" "[B"))⟩) (Or.inr ⟨_, (wk W (.laysFinal "java/lang/String" "java/lang/String" "coder" "B"))⟩) f1 f2 (t₁ := .array .byte) (t₂ := .byte) (by decide +kernel) (by decide +kernel) (by decide)
  have al := X8.warmed.alike.symm.trans X15.warmed.alike
  have n7 : T11.heap[s.heap.size]? = some N := by rw [q11]; exact n1.1
  exact ⟨T15, none, _, _, _, X15, by simp, rfl, by omega, (fun _ => rfl), ⟨rfl, _, N, bl15, ((Same.refl D _).set _ (by simp)).set _ (by simp), sl15, (Cell.slots_setSlot_ne _ ap).trans sl13, n1.keep al (p15.other hne (p13.other hne n7)), n2, by rw [al.findClass]; exact n3, n4, n5, fun y c h1 h2 => p15.other h1 (p13.other h1 (by rw [q11]; exact n6 y c h2)), by rw [p15.2.2, p13.2.2, q11]; exact z8⟩, fun fs hl => c16.trans (X15.returnOut hexec hret (hb hbytes d57) hl)⟩
end New4
namespace New1
def yN : MethodName := ⟨"java/lang/String", "<init>", "([C)V"⟩
abbrev yB : ByteArray := jdk_42_method_3_code
theorem d0 : decode yB 0 = .ok (.aload_n 0, 1) := by decide +kernel
theorem d1 : decode yB 1 = .ok (.aload_n 1, 1) := by decide +kernel
theorem d2 : decode yB 2 = .ok (.iconst 0, 1) := by decide +kernel
theorem d3 : decode yB 3 = .ok (.aload_n 1, 1) := by decide +kernel
theorem d4 : decode yB 4 = .ok (.arraylength, 1) := by decide +kernel
theorem d5 : decode yB 5 = .ok (.aconst_null, 1) := by decide +kernel
theorem d6 : decode yB 6 = .ok (.invokespecial 27, 3) := by decide +kernel
theorem d9 : decode yB 9 = .ok (.return_, 1) := by decide +kernel
def site : List Cond := [New4.tab] ++ initW "java/lang/String" 27 New4.yN
def tab : Cond := tabOf yN yB 2 none site
def P (a : Addr) (D : Cell) (fV fC : Field) (b : Addr) (A : Cell) (z : Int32) (args : Array Value) (s : State) : Prop := args = #[.ref a, .ref b] ∧ Blank "java/lang/String" a D s ∧ Found "java/lang/String" "value" "[B" fV s ∧ Found "java/lang/String" "coder" "B" fC s ∧ Ch b A s ∧ StaticIs s "java/lang/String" "COMPACT_STRINGS" "Z" (.int z) ∧ ¬ z = 0 ∧ 0 < A.slots.size ∧ A.slots.size ≤ 536870912 ∧ ∀ i, i < A.slots.size → ¬ 255 < cv A i
def E (a : Addr) (D : Cell) (fV fC : Field) (A : Cell) (r : Option Value) (s u : State) : Prop := Got a D fV fC A 0 A.slots.size r s u
/-- new String(chars), not empty, no char above 255: a Latin-1 String of their low bytes -/
theorem law (l : Launch) (a : Addr) (D : Cell) (fV fC : Field) (b : Addr) (A : Cell) (z : Int32) : Law l yN 2 1 3 52 yB 2 none site (P a D fV fC b A z) (E a D fV fC A) [⟨a, fC.slot⟩, ⟨a, fV.slot⟩] 1 A.slots.size := by
  refine Law.of_walk (plainFor_of_name (by decide +kernel)) (by decide +kernel) (by decide +kernel) (by decide) (fun _ _ h => by rw [h.1]; rfl) (fun _ U U' hal hh h => ⟨h.1, h.2.1.mv hal hh, h.2.2.1.al hal, h.2.2.2.1.al hal, h.2.2.2.2.1.mv hal hh, h.2.2.2.2.2.1.there hal hh, h.2.2.2.2.2.2⟩) (fun r U U' V V' h1 hal h2 h => Got.mv r U U' V V' h1 hal h2 h) ?_
  intro p e s m args below meth c s₁ X0 hexec hbytes hml hret hlk hnm hown hh0 W hP
  obtain ⟨rfl, hB, f1, f2, hA, s1, hz, l0, l2, hp⟩ := hP
  have c1 : Steps p.tables e below (s₁.setTop (entryFrame m #[.ref a, .ref b] 2)) (s₁.setTop (mkF m 0 #[.val (.ref a), .val (.ref b)] [])) := entry rfl
  have c2 : Steps p.tables e below (s₁.setTop (entryFrame m #[.ref a, .ref b] 2)) (s₁.setTop (mkF m 6 #[.val (.ref a), .val (.ref b)] [.null, .int (Int32.ofNat A.slots.size), .int 0, .ref b, .ref a])) := c1.trans (by
    refine XS.aloadN X0.here hexec rfl (hb hbytes d0) rfl rfl ?_
    refine XS.aloadN X0.here hexec rfl (hb hbytes d1) rfl rfl ?_
    refine iconstV X0.here hexec rfl 0 (hb hbytes d2) (by decide) ?_
    refine XS.aloadN X0.here hexec rfl (hb hbytes d3) rfl rfl ?_
    refine X0.alen hexec (hA.1.mv X0.warmed.alike hh0) rfl rfl (hb hbytes d4) ?_
    refine XS.aconstNull X0.here hexec rfl (hb hbytes d5) ?_
    exact Steps.refl _)
  obtain ⟨v3, T3, X3, E3, g3⟩ := X0.callN hexec (New4.law l a D fV fC b A z 0 A.slots.size) rfl hown (wks W (initW "java/lang/String" 27 New4.yN)) (W New4.tab (by simp only [site, List.mem_cons, List.mem_append, true_or, or_true])) (W := 0) (Nat.le_of_ble_eq_true rfl) (Nat.le_of_ble_eq_true rfl) (Nat.le_refl _) (by show 0 + A.slots.size ≤ A.slots.size; omega) (g := (mkF m 6 #[.val (.ref a), .val (.ref b)] [.null, .int (Int32.ofNat A.slots.size), .int (Int32.ofNat 0), .ref b, .ref a])) rfl (by rw [hml]; rfl) c2 (argsL := [.ref b, .int (Int32.ofNat 0), .int (Int32.ofNat A.slots.size), .null]) (rest := []) rfl rfl (by show 2 * 0 + 0 ≤ _; decide) (hb hbytes d6) (⟨rfl, hB.mv X0.warmed.alike hh0, f1.al X0.warmed.alike, f2.al X0.warmed.alike, hA.mv X0.warmed.alike hh0, s1.there X0.warmed.alike hh0, hz, l0, by omega, l2, fun i hi => by rw [Nat.zero_add]; exact hp i hi⟩)
  have e0 := Got.mv _ s₁ s _ _ hh0.symm (Vm.Alike.refl _) rfl E3
  obtain rfl := e0.1
  have c4 : Steps p.tables e below (s₁.setTop (entryFrame m #[.ref a, .ref b] 2)) (T3.setTop (mkF m 9 #[.val (.ref a), .val (.ref b)] [])) := g3
  exact ⟨T3, none, _, _, _, X3, by simp, rfl, by omega, (fun _ => rfl), e0, fun fs hl => c4.trans (X3.returnOut hexec hret (hb hbytes d9) hl)⟩
theorem pays {l : Launch} {R : Room} {p : Program} {e : Env} {below : List Frame} {s : State} {sargs : Array Value} {len W : Nat} (a : Addr) (D : Cell) (fV fC : Field) (b : Addr) (A : Cell) (z : Int32) (htab : tab.before sargs s = true) (hfr : 4 ≤ R.frames) (hlo : W + 65 ≤ R.locals) :
    Back l R p e below s sargs yN len W (fun A₁ a₁ => A₁.cells + 1 ≤ R.cells ∧ A₁.slots + A.slots.size ≤ R.slots ∧ P a D fV fC b A z a₁ A₁.U) (fun A₁ _ v₁ B₁ => E a D fV fC A v₁ A₁.U B₁.U ∧ B₁.locs = A₁.locs ++ [⟨a, fC.slot⟩, ⟨a, fV.slot⟩] ∧ B₁.cells = A₁.cells + 1 ∧ B₁.slots = A₁.slots + A.slots.size) :=
  (law l a D fV fC b A z).pays htab hfr (by omega)
end New1
end StrChars
namespace StrChars.Road
open Jvm Sem ClassFile Op Lib Jvm.Stand Jvm.Free Jvm.Free.XT
open Jvm.Lib.Cold (StaticIs)
abbrev ST : String := "java/lang/String"
/-- every table word that New1's law asks, flat -/
abbrev words : List Jvm.Cond := [.code New1.yN New1.yB 2 none, .initialized ST, .methodLink ST 27 New4.yN, .instanceMethod New4.yN,
  .code New4.yN New4.yB 6 none, .fieldLink ST 38 ST "COMPACT_STRINGS" "Z", .laysFinal ST ST "value" "[B", .fieldLink ST 9 ST "value" "[B", .laysFinal ST ST "coder" "B", .fieldLink ST 15 ST "coder" "B",
  .methodLink ST 1 Lib.objectInit, .instanceMethod Lib.objectInit, .code Lib.objectInit ⟨#[0xb1]⟩ 1 none, .methodLink ST 177 Cmp3.yN, .static Cmp3.yN, .methodLink ST 47 CodL.yN, .static CodL.yN,
  .code Cmp3.yN Cmp3.yB 6 (some (.array .byte)), .initialized U16, .arrayClass .byte, .methodLink U16 115 Cmp5.yN, .static Cmp5.yN, .code Cmp5.yN Cmp5.yB 7 (some .int), .code CodL.yN CodL.yB 2 (some .byte)]
theorem tab_of {a : Array Value} {s : State} (h : ∀ w ∈ words, w.before a s = true) : New1.tab.before a s = true := by
  have h5 : Cmp5.tab.before a s = true := unparts (wk h (.code Cmp5.yN Cmp5.yB 7 (some .int))) (wks h (.initialized Cmp5.yN.cls :: Cmp5.site))
  have hc : CodL.tab.before a s = true := unparts (wk h (.code CodL.yN CodL.yB 2 (some .byte))) (wks h (.initialized CodL.yN.cls :: CodL.site))
  have q5 : ∀ w ∈ Cmp5.tab :: words, w.before a s = true := fun w hw => (List.mem_cons.mp hw).elim (fun e => e ▸ h5) (h w)
  have h3 : Cmp3.tab.before a s = true := unparts (wk q5 (.code Cmp3.yN Cmp3.yB 6 (some (.array .byte)))) (wks q5 (.initialized Cmp3.yN.cls :: Cmp3.site))
  have q3 : ∀ w ∈ Cmp3.tab :: CodL.tab :: words, w.before a s = true := fun w hw => (List.mem_cons.mp hw).elim (fun e => e ▸ h3) fun hw => (List.mem_cons.mp hw).elim (fun e => e ▸ hc) (h w)
  have h4 : New4.tab.before a s = true := unparts (wk q3 (.code New4.yN New4.yB 6 none)) (wks q3 (.initialized New4.yN.cls :: New4.site))
  have q4 : ∀ w ∈ New4.tab :: words, w.before a s = true := fun w hw => (List.mem_cons.mp hw).elim (fun e => e ▸ h4) (h w)
  exact unparts (wk q4 (.code New1.yN New1.yB 2 none)) (wks q4 (.initialized New1.yN.cls :: New1.site))
/-- the words ride from the start Z to the walk's own state -/
theorem moved {Z s : State} {a0 args : Array Value} (hZ : Z.Warmed39 s.vm) (hw : ∀ d ∈ words, d.before a0 Z = true) : ∀ d ∈ words, d.before args s = true := fun d hd => by
  have q := hw d hd
  have t : ∀ d ∈ words, d = .arrayClass .byte ∨ (d.onTables && d.keepsFace) = true := by decide +kernel
  rcases t d hd with rfl | t
  · exact RoadKit.mvA hZ q
  · exact RoadKit.mv hZ q t
/-- WHAT COMES BACK, over the tables of the start Z: h the heap at the call, h' behind it -/
def Q (Z : State) (x : Addr) (A : Cell) (h : Heap) (v : Option Value) (h' : Heap) (L : List Loc) : Prop := v = none ∧ (∀ y ∈ L, y.base = x) ∧ RoadKit.Keep h h' [x] ∧ h'.size = h.size + 1 ∧ RoadKit.Exa Z h' x ST ∧ RoadKit.Fld Z h' x ST "value" "[B" (.ref h.size) ∧ RoadKit.Fld Z h' x ST "coder" "B" (.int 0) ∧
  (∃ V : Cell, RoadKit.Arr Z h' h.size V .byte ∧ V.vm = .none ∧ Z.vm.findClass "[B" = some V.cls ∧ V.slots.size = A.slots.size ∧ ∀ j, j < A.slots.size → V.slots[j]? = some (.int (lo8 (cv A j)))) ∧
  ∀ (O n d : String) (w : Value), RoadKit.Fld Z h x O n d w → RoadKit.slotOf Z O n d ≠ RoadKit.slotOf Z ST "value" "[B" → RoadKit.slotOf Z O n d ≠ RoadKit.slotOf Z ST "coder" "B" → RoadKit.Fld Z h' x O n d w
/-- **new String(chars) AT A CALL, IN THE ROAD'S FORM**: for specialBack behind newO: x the fresh String, b the char[] with the cell A -/
theorem back {p : Program} {l : Launch} {e : Env} {R : Room} {s : State} {args : Array Value} {below : List Frame} {len W : Nat} {Z : State} {a0 : Array Value} {h : Heap} (hZ : Z.Warmed39 s.vm) (hw : ∀ d ∈ words, d.before a0 Z = true) {kI : Nat} (wi : (Jvm.Cond.instantiable ST kI).before a0 Z = true)
    {x b : Addr} {A : Cell} {z : Int32} {v0 c0 : Value} (E : RoadKit.Exa Z h x ST) (V : RoadKit.Fld Z h x ST "value" "[B" v0) (C : RoadKit.Fld Z h x ST "coder" "B" c0) (K : RoadKit.Arr Z h b A .char) (hty : Typed .char A) (S : RoadKit.Sta Z h ST "COMPACT_STRINGS" "Z" (.int z)) (hz : ¬ z = 0)
    (l0 : 0 < A.slots.size) (l2 : A.slots.size ≤ 536870912) (hp : ∀ i, i < A.slots.size → ¬ 255 < cv A i) (hfr : 4 ≤ R.frames) (hlo : W + 65 ≤ R.locals) :
    Back l R p e below s args New1.yN len W (fun P a => a = #[.ref x, .ref b] ∧ P.U.heap = h ∧ P.cells + 1 ≤ R.cells ∧ P.slots + A.slots.size ≤ R.slots)
      (fun P _ v B => ∃ L, Q Z x A h v B.U.heap L ∧ B.locs = P.locs ++ L ∧ B.cells = P.cells + 1 ∧ B.slots = P.slots + A.slots.size) := by
  intro m meth c P g ig mk a X hg hsize hdg hW hn hp'
  obtain ⟨rfl, rfl, r1, r2⟩ := hp'
  have al : Z.vm.Alike P.U.vm := hZ.alike.trans X.warmed.alike
  obtain ⟨D, cfV, kV, iV, fV, hD, gV, stV, knV, obV, asV, slV⟩ := id V
  obtain ⟨D', cfC, kC, iC, fC, hD', gC, stC, -, -, asC, slC⟩ := id C
  cases hD.symm.trans hD'
  obtain ⟨D2, kD, e1, e2, e3, e4, e5⟩ := id E
  cases hD.symm.trans e1
  obtain ⟨c2, k2, i1, i2, i3, -⟩ := Cond.instantiable_spec wi
  cases e2.symm.trans i1
  cases e3.symm.trans i2
  obtain ⟨kU, u1, u2⟩ := al.2.2 _ _ e3
  have hB : Blank ST x D P.U := ⟨hD, ⟨knV, fun q hq => by rw [hq] at obV; cases obV⟩, by rw [al.findClass]; exact e2, kU, u1, by rw [u2]; exact i3, by rw [u2]; exact e5 i3⟩
  have F1 : Found ST "value" "[B" fV P.U := ⟨SBG.found_only al ⟨cfV, kV, iV, gV⟩, stV⟩
  have F2 : Found ST "coder" "B" fC P.U := ⟨SBG.found_only al ⟨cfC, kC, iC, gC⟩, stC⟩
  have hA : Ch b A P.U := ⟨⟨K.1, State.isArrayOf_alike al K.2.1, K.2.2, by omega⟩, hty⟩
  have hS : StaticIs P.U ST "COMPACT_STRINGS" "Z" (.int z) := by
    obtain ⟨cfS, iS, kS, fS, st, cS, t1, t2, t3, t4, t5, t6, t7⟩ := S
    exact StaticIs.there (s := { Z with heap := P.U.heap }) ⟨cfS, iS, kS, fS, st, cS, t1, t2, t3, t4, t5, (fun q => by rw [q] at t6; cases t6), t7⟩ al rfl
  obtain ⟨v, B, X', ⟨⟨hv, E', V', q1, q2, q3, q4, q5, q6, q7, q8, q9, q10, q11⟩, hl, hc, hs⟩, st⟩ := New1.pays x D fV fC b A z (tab_of (moved hZ hw)) hfr hlo m meth c P g ig mk _ X hg hsize hdg hW hn ⟨r1, r2, rfl, hB, F1, F2, hA, hS, hz, l0, l2, hp⟩
  have al' : Z.vm.Alike B.U.vm := hZ.alike.trans X'.warmed.alike
  have hsz : E'.slots.size = D.slots.size := by
    obtain ⟨-, -, -, kB, w1, w2, w3⟩ := q1
    obtain ⟨kB', y1, y2⟩ := al'.2.2 _ _ e3
    rw [q2.2.1] at w1
    cases w1.symm.trans y1
    rw [w3, e5 i3, y2]
  refine ⟨v, B, X', ⟨_, ⟨hv, ?_, ⟨by omega, fun y cy hy hn' => q10 y cy (by simpa using hn') hy, fun y cy hy => ?_⟩, q11, ⟨E', _, q1.1, by rw [q2.2.1]; exact e2, by rw [q2.2.1]; exact e3, by rw [q2.1]; exact obV, fun _ => by rw [hsz]; exact e5 i3⟩,
    ⟨E', cfV, kV, iV, fV, q1.1, gV, stV, by rw [q2.1]; exact knV, by rw [q2.1]; exact obV, by rw [q2.2.1]; exact asV, q3⟩, ⟨E', cfC, kC, iC, fC, q1.1, gC, stC, by rw [q2.1]; exact knV, by rw [q2.1]; exact obV, by rw [q2.2.1]; exact asC, q4⟩,
    ⟨V', ⟨q5.1, State.isArrayOf_alike al'.symm q5.2.1, q5.2.2.1⟩, q6, by rw [← al'.findClass]; exact q7, q8, fun j hj => by have := q9 j hj; rwa [Nat.zero_add] at this⟩, fun O n d w F n1 n2 => ?_⟩, hl, hc, hs⟩, st⟩
  · intro y hy
    simp only [List.mem_cons, List.not_mem_nil, or_false] at hy
    rcases hy with rfl | rfl <;> rfl
  · by_cases q : y = x
    · subst q
      cases hD.symm.trans hy
      exact ⟨E', q1.1, q2.2.1, q2.1, hsz⟩
    · exact ⟨cy, q10 y cy q hy, rfl, rfl, rfl⟩
  · obtain ⟨D3, cf, k, i, f, g1, g2, g3, g4, g5, g6, g7⟩ := F
    cases hD.symm.trans g1
    simp only [RoadKit.slotOf, g2, gV, gC, Option.map_some, Option.getD_some] at n1 n2
    exact ⟨E', cf, k, i, f, q1.1, g2, g3, by rw [q2.1]; exact g4, by rw [q2.1]; exact g5, by rw [q2.2.1]; exact g6, by rw [q2.2.2 f.slot (by simp [n1, n2])]; exact g7⟩
end StrChars.Road
namespace StrChars.Road
open Jvm Sem ClassFile Op Lib Jvm.Stand Jvm.Free Jvm.Free.XT
/-- WHAT COMES BACK, the byte[] as a list of values -/
def QA (Z : State) (x : Addr) (zn : Int32) (cs : List Int32) (h : Heap) (v : Option Value) (h' : Heap) (L : List Loc) : Prop := v = none ∧ (∀ y ∈ L, y.base = x) ∧ RoadKit.Keep h h' [x] ∧ h'.size = h.size + 1 ∧ RoadKit.Exa Z h' x ST ∧ RoadKit.Fld Z h' x ST "value" "[B" (.ref h.size) ∧ RoadKit.Fld Z h' x ST "coder" "B" (.int 0) ∧
  (∃ kb, Z.vm.findClass "[B" = some kb ∧ RoadKit.Arv Z h' h.size kb .byte zn (cs.map fun c => .int (lo8 c)) (.int 0)) ∧
  ∀ (O n d : String) (w : Value), RoadKit.Fld Z h x O n d w → RoadKit.slotOf Z O n d ≠ RoadKit.slotOf Z ST "value" "[B" → RoadKit.slotOf Z O n d ≠ RoadKit.slotOf Z ST "coder" "B" → RoadKit.Fld Z h' x O n d w
/-- **new String(chars) AT A CALL, THE ARRAYS AS LISTS**: the char[] at b holds cs, not empty, no char above 255 -/
theorem backArv {p : Program} {l : Launch} {e : Env} {R : Room} {s : State} {args : Array Value} {below : List Frame} {len W : Nat} {Z : State} {a0 : Array Value} {h : Heap} (hZ : Z.Warmed39 s.vm) (hw : ∀ d ∈ words, d.before a0 Z = true) {kI : Nat} (wi : (Jvm.Cond.instantiable ST kI).before a0 Z = true)
    {x b : Addr} {k : ClassId} {zn z : Int32} {cs : List Int32} {dv v0 c0 : Value} (E : RoadKit.Exa Z h x ST) (V : RoadKit.Fld Z h x ST "value" "[B" v0) (C : RoadKit.Fld Z h x ST "coder" "B" c0) (K : RoadKit.Arv Z h b k .char zn (cs.map Value.int) dv) (S : RoadKit.Sta Z h ST "COMPACT_STRINGS" "Z" (.int z)) (hz : ¬ z = 0)
    (hlen : zn.toNatClampNeg = cs.length) (h0 : 0 < cs.length) (hbig : cs.length ≤ 536870912) (hall : ∀ c ∈ cs, ¬ 255 < c) (hfr : 4 ≤ R.frames) (hlo : W + 65 ≤ R.locals) :
    Back l R p e below s args New1.yN len W (fun P a => a = #[.ref x, .ref b] ∧ P.U.heap = h ∧ P.cells + 1 ≤ R.cells ∧ P.slots + cs.length ≤ R.slots)
      (fun P _ v B => ∃ L, QA Z x zn cs h v B.U.heap L ∧ B.locs = P.locs ++ L ∧ B.cells = P.cells + 1 ∧ B.slots = P.slots + cs.length) := by
  obtain ⟨A, K1, K2, K3, K4, K5, K6⟩ := K
  have e : A.slots.size = cs.length := K3.trans hlen
  have hat : ∀ (i : Nat) (hi : i < cs.length), A.slots[i]? = some (.int cs[i]) := fun i hi => by rw [K5 i (by omega)]; simp [List.getD_eq_getElem?_getD, hi]
  have hcv : ∀ (i : Nat) (hi : i < cs.length), cv A i = cs[i] := fun i hi => by unfold cv; rw [hat i hi]
  have hty : Typed .char A := fun i v hv => by
    have hi : i < A.slots.size := (Array.getElem?_eq_some_iff.mp hv).1
    have q := K5 i hi
    rw [hv] at q
    rw [Option.some.inj q]
    exact K6 i hi
  refine Back.mono (back hZ hw wi E V C K1 hty S hz (by omega) (by omega) (fun i hi => by rw [hcv i (by omega)]; exact hall _ (List.getElem_mem _)) hfr hlo) (fun P a hp => ⟨hp.1, hp.2.1, hp.2.2.1, by rw [e]; exact hp.2.2.2⟩) (fun P a v B hp hq => ?_)
  obtain ⟨L, ⟨q1, q2, q3, q4, q5, q6, q7, ⟨V', v1, v2, v3, v4, v5⟩, q9⟩, hl, hc, hs⟩ := hq
  refine ⟨L, ⟨q1, q2, q3, q4, q5, q6, q7, ⟨V'.cls, v3, V', v1, rfl, by rw [v4, e, hlen], K4, fun i hi => ?_, fun i hi => ?_⟩, q9⟩, hl, hc, by rw [hs, e]⟩
  · have hi' : i < cs.length := by omega
    rw [v5 i (by omega), hcv i hi']; simp [List.getD_eq_getElem?_getD, hi']
  · have hi' : i < cs.length := by omega
    simp only [List.getD_eq_getElem?_getD, List.getElem?_map, List.getElem?_eq_getElem hi', Option.map_some, Option.getD_some]
    exact fits_lo8 _
end StrChars.Road
namespace StrChars.Road
open Jvm Sem ClassFile Op Lib Jvm.Stand Jvm.Free Jvm.Free.XT
/-- WHAT COMES BACK, in the writer's own shape -/
def QV (Z : State) (x : Addr) (N : Int32) (bs : List Int32) (h : Heap) (n0 : Nat) (v : Option Value) (h' : Heap) (L : List Loc) : Prop := v = none ∧ RoadKit.Fr n0 L ∧ RoadKit.Keep h h' [x] ∧ RoadKit.Exa Z h' x ST ∧ RoadKit.Fld Z h' x ST "coder" "B" (.int 0) ∧
  ∃ (t : Addr) (kb : ClassId), n0 ≤ t ∧ h.size ≤ t ∧ ¬ t = x ∧ RoadKit.Fld Z h' x ST "value" "[B" (.ref t) ∧ RoadKit.Arv Z h' t kb .byte N (bs.map Value.int) (.int 0)
/-- **new String(chars) AT A CALL, FOR THE WRITER**: a char[] of n known ints, each 0 to 255 -/
theorem backV {p : Program} {l : Launch} {e : Env} {R : Room} {s : State} {args : Array Value} {below : List Frame} {len W : Nat} {Z : State} {a0 : Array Value} {h : Heap} (hZ : Z.Warmed39 s.vm) (hw : ∀ d ∈ words, d.before a0 Z = true) {kI : Nat} (wi : (Jvm.Cond.instantiable ST kI).before a0 Z = true)
    {x b : Addr} {kC : ClassId} {cs bs : List Int32} {d v0 c0 : Value} {z N : Int32} {n n0 : Nat} (hx0 : n0 ≤ x) (hh0 : n0 ≤ h.size) (E : RoadKit.Exa Z h x ST) (V : RoadKit.Fld Z h x ST "value" "[B" v0) (C : RoadKit.Fld Z h x ST "coder" "B" c0) (K : RoadKit.Arv Z h b kC .char N (cs.map Value.int) d) (S : RoadKit.Sta Z h ST "COMPACT_STRINGS" "Z" (.int z)) (hz : ¬ z = 0)
    (hn : cs.length = n) (hN : N = Int32.ofNat n) (l0 : 0 < n) (l2 : n ≤ 4000) (hp : ∀ c ∈ cs, ¬ c < 0 ∧ ¬ (255 : Int32) < c) (hb : bs = cs.map (fun c => c.toInt8.toInt32)) (hfr : 4 ≤ R.frames) (hlo : W + 65 ≤ R.locals) :
    Back l R p e below s args (⟨"java/lang/String", "<init>", "([C)V"⟩ : MethodName) len W (fun P a => a = #[.ref x, .ref b] ∧ P.U.heap = h ∧ P.cells + 1 ≤ R.cells ∧ P.slots + n ≤ R.slots)
      (fun P _ v B => ∃ L, QV Z x N bs h n0 v B.U.heap L ∧ B.locs = P.locs ++ L ∧ B.cells = P.cells + 1 ∧ B.slots = P.slots + n) := by
  subst hn hN hb
  refine Back.mono (backArv hZ hw wi E V C K S hz (n32 (by omega)) l0 (by omega) (fun c hc => (hp c hc).2) hfr hlo) (fun P a hp => hp) (fun P a v B hp hq => ?_)
  obtain ⟨L, ⟨q1, q2, q3, q4, q5, q6, q7, ⟨kb, v1, v2⟩, q9⟩, hl, hc, hs⟩ := hq
  exact ⟨L, ⟨q1, fun y hy => by rw [q2 y hy]; exact hx0, q3, q5, q7, h.size, kb, hh0, Nat.le_refl _, Nat.ne_of_gt E.lt, q6, by rw [List.map_map]; exact v2⟩, hl, hc, hs⟩
end StrChars.Road
end Jvm.Pilot.@@N@@

namespace Jvm.Pilot.@@N@@
open Jvm Jvm.ClassFile Sem Op Lib Jvm.Free Jvm.Stand Jvm.LawKit Jvm.RoadKit Bundle Jvm.Pilot.@@N@@.Jvm.D
theorem own_irr (x : Int32) : ¬ x < x := fun h => absurd (Int32.lt_iff_toInt_lt.mp h) (by omega)
theorem own_nn (x : Int32) : ¬ ((x &&& (2147483647 : Int32)) < (0 : Int32)) := fun h => by
  have h1 := Int32.lt_iff_toInt_lt.mp h
  have h2 := (c_and x 2147483647 (by decide)).1
  have h3 : (0 : Int32).toInt = 0 := rfl
  omega
def own_min (a b : Int32) : Int32 := if b < a then b else a
def own_max (a b : Int32) : Int32 := if a < b then b else a
theorem own_mm (a b : Int32) : ¬ (own_max a b < own_min a b) := fun h => by
  have h := Int32.lt_iff_toInt_lt.mp h
  unfold own_max own_min at h
  split at h <;> split at h <;> (simp only [Int32.lt_iff_toInt_lt] at *; omega)
theorem own_min_nn {a b : Int32} (ha : ¬ a < (0 : Int32)) (hb : ¬ b < (0 : Int32)) : ¬ (own_min a b < (0 : Int32)) := by unfold own_min; split <;> assumption
theorem own_max_nn {a b : Int32} (ha : ¬ a < (0 : Int32)) (hb : ¬ b < (0 : Int32)) : ¬ (own_max a b < (0 : Int32)) := by unfold own_max; split <;> assumption
theorem own_mod {x d k : Int32} {D : Int} (hd : d.toInt = D) (hD : 0 < D) (h : (x &&& (2147483647 : Int32)) % d = k) : 0 ≤ k.toInt ∧ k.toInt < D := by
  have h1 := (c_and x 2147483647 (by decide)).1
  have h2 := (c_irem (x &&& 2147483647) d D hd).1 h1
  rw [h] at h2
  rw [h2]
  exact ⟨Int.emod_nonneg _ (by omega), Int.emod_lt_of_pos _ hD⟩
theorem own_ne {k : Int32} (n : Nat) (hc : (Int32.ofNat n).toInt = (n : Int)) (h : ¬ k = Int32.ofNat n) : k.toInt ≠ (n : Int) := fun q => h (Int32.toInt_inj.mp (q.trans hc.symm))
theorem own_r255 {x c : Int32} (h : (x &&& (255 : Int32)) = c) : ¬ (c < (0 : Int32)) ∧ ¬ ((255 : Int32) < c) := by
  have h1 := c_and x 255 (by decide)
  rw [h] at h1
  have e1 : (255 : Int32).toInt = 255 := rfl
  have e0 : (0 : Int32).toInt = 0 := rfl
  simp only [Int32.lt_iff_toInt_lt]
  omega
theorem own_narc {c : Int32} (h : ¬ (c < (0 : Int32)) ∧ ¬ ((255 : Int32) < c)) : nar .char c = c := by
  have e1 : (255 : Int32).toInt = 255 := rfl
  have e0 : (0 : Int32).toInt = 0 := rfl
  have h1 := h.1
  have h2 := h.2
  simp only [Int32.lt_iff_toInt_lt] at h1 h2
  have h3 := c_i2c c
  apply Int32.toInt_inj.mp
  show c.toUInt32.toUInt16.toUInt32.toInt32.toInt = c.toInt
  omega
theorem own_fitc {c : Int32} (h : ¬ (c < (0 : Int32)) ∧ ¬ ((255 : Int32) < c)) : fits .char (.int c) = true := by
  have q := fits_nar_char c
  rw [own_narc h] at q
  exact q
theorem own_b8 (x : Int32) : x.toInt8.toInt32.toInt8.toInt32 = x.toInt8.toInt32 := Int32.toInt_inj.mp (by have a := c_i2b x; have b := c_i2b x.toInt8.toInt32; omega)
theorem own_shr0 (x : Int32) : x >>> ((0 : Int32) &&& 31) = x := Int32.toInt_inj.mp (by rw [c_ishr x 0 0 (by decide)]; simp)
theorem own_nar255 (x : Int32) : nar .char ((x &&& (255 : Int32)).toUInt32.toUInt16.toUInt32.toInt32) = x &&& (255 : Int32) := by rw [i2c_mask]; exact i2c_mask x
/-- from here the run comes to an end at which Q holds, at most so many cells and slots made -/
def own_Go (p : Program) (e : Env) (below : List Frame) (s : State) (Q : Option Value → Heap → List Loc → Prop) (C S : Nat) (A : State) : Prop :=
  ∃ s₂ o, Steps p.tables e below A s₂ ∧ s₂.status = .running ∧ Ended s₂ below o ∧ ∃ v L, o = .returned v ∧ Q v s₂.heap L ∧ FrameEnd s o s₂ L C S
theorem own_go {p : Program} {e : Env} {below : List Frame} {s : State} {Q : Option Value → Heap → List Loc → Prop} {C S : Nat} {A B : State} (k : ∀ t, Steps p.tables e below B t → Steps p.tables e below A t) (h : own_Go p e below s Q C S B) : own_Go p e below s Q C S A := by
  obtain ⟨s₂, o, h1, h2⟩ := h
  exact ⟨s₂, o, k _ h1, h2⟩
theorem own_fin {p : Program} {l : Launch} {e : Env} {R : Room} {s : State} {m : MethodId} {args : Array Value} {below : List Frame} {meth : Method} {c : Code} {T : State} {locs : List Loc} {cells slots : Nat} {Q : Option Value → Heap → List Loc → Prop} {C S : Nat} {A : State} {v : Option Value}
    (X : Stand p l e R s m args below meth c T locs cells slots) (hlocks : meth.locks = false) (hv : meth.sig.returnType = none → v = none)
    (st : ∀ fs, (∀ (f : JFrame) (acts : List Action), f.method = m → f.locked = none → f.entered = [] → (doReturn e (T.setTop f) acts v).1 = T.setFrames fs) → Steps p.tables e below A (T.setFrames fs))
    (hQ : Q v T.heap locs) (hc : cells ≤ C) (hs : slots ≤ S) : own_Go p e below s Q C S A := by
  obtain ⟨fs, hr, hrun, hended, hW, hsame⟩ := X.leave (v := v) hv hlocks
  exact ⟨_, _, st fs hr, hrun, hended, _, _, rfl, hQ, ⟨_, rfl⟩, hW, hsame.mono hc hs⟩
theorem own_eqI {args : Array Value} {first s : State} {o : Option Outcome} {idx : List Nat} {t : Term} {k : Int32} (h : (Jvm.Cond.eq t (.int k)).value args first o s idx = some true) : t.eval args first o idx s = some (.int k) := by
  obtain ⟨x, y, h1, h2, hk, hk'⟩ := cmp_v (Or.inl h)
  have e2 : y = .int k := (Option.some.inj ((Term.int_eval k).symm.trans h2)).symm
  subst e2
  obtain ⟨z, rfl⟩ := hk'
  simp only [Cond.value, h1, h2] at h
  have hz : z = k := by simpa using h
  rw [h1, hz]
theorem own_eqR {args : Array Value} {first s : State} {o : Option Outcome} {idx : List Nat} {t u : Term} {a : Addr} (h : (Jvm.Cond.eq t u).value args first o s idx = some true) (hu : u.eval args first o idx s = some (.ref a)) : t.eval args first o idx s = some (.ref a) := by
  obtain ⟨x, y, h1, h2, hk, hk'⟩ := cmp_v (Or.inl h)
  cases hu.symm.trans h2
  rw [h1, gotT (eq_R h1 hu hk'.2 rfl) h]
theorem own_len {args : Array Value} {s : State} {t : Term} {a : Addr} {cl : Cell} {k : Int32} {ty : FieldType} (h : (Term.length t).eval args s none [] s = some (.int k)) (ht : t.eval args s none [] s = some (.ref a)) (A : Arr s s.heap a cl ty) : cl.slots.size < 2 ^ 31 ∧ cl.slots.size.toInt32 = k := by
  have ha := A.fin (Vm.Alike.refl _)
  simp only [Term.eval, ht, ha, Option.bind_eq_bind, Option.bind_some] at h
  by_cases q : cl.slots.size < 2 ^ 31
  · simp [q] at h; exact ⟨q, h⟩
  · simp [q] at h
theorem own_ofNat {q : Nat} (h : q < 2147483648) : (Int32.ofNat q).toInt = q ∧ (Int32.ofNat q).toNatClampNeg = q := by
  have e : (Int32.ofNat q).toInt = q := Int32.toInt_ofNat_small (by omega)
  exact ⟨e, by show (Int32.ofNat q).toInt.toNat = q; rw [e]; rfl⟩
theorem own_idx {q n : Nat} {N : Int32} (hN : N.toNatClampNeg = n) (hN0 : ¬ N < 0) (hq : q < n) : (¬ (Int32.ofNat q < (0 : Int32)) ∧ Int32.ofNat q < N) ∧ (Int32.ofNat q).toNatClampNeg = q := by
  have h1 := nat_of hN0
  have h2 := (rng32 N).2
  have h3 := own_ofNat (q := q) (by omega)
  refine ⟨⟨fun h => ?_, ?_⟩, h3.2⟩
  · have h4 := Int32.lt_iff_toInt_lt.mp h
    rw [h3.1] at h4
    have e0 : (0 : Int32).toInt = 0 := rfl
    omega
  · rw [Int32.lt_iff_toInt_lt, h3.1, h1, hN]; omega
theorem own_past {n : Nat} {N : Int32} (hN : N.toNatClampNeg = n) (hN0 : ¬ N < 0) : ¬ (Int32.ofNat n < N) := fun h => by
  have h1 := nat_of hN0
  have h2 := (rng32 N).2
  have h3 := own_ofNat (q := n) (by omega)
  have h4 := Int32.lt_iff_toInt_lt.mp h
  rw [h3.1, h1, hN] at h4
  omega
theorem own_incr {q n : Nat} {N : Int32} (hN : N.toNatClampNeg = n) (hN0 : ¬ N < 0) (hq : q < n) : Int32.ofNat q + (1 : Int32) = Int32.ofNat (q + 1) := by
  have h1 := nat_of hN0
  have h2 := (rng32 N).2
  have h3 := own_ofNat (q := q) (by omega)
  apply Int32.toInt_inj.mp
  have a := c_iadd (Int32.ofNat q) 1
  have b := rng32 (Int32.ofNat q + 1)
  have e1 : (1 : Int32).toInt = 1 := rfl
  by_cases hb : q + 1 < 2147483648
  · rw [(own_ofNat hb).1]; rw [h3.1] at a; omega
  · omega
theorem own_mapget (xs : List Int32) (q : Nat) : (xs.map Value.int).getD q (.int (0 : Int32)) = .int (xs.getD q 0) := by
  simp only [List.getD_eq_getElem?_getD, List.getElem?_map]
  cases xs[q]? <;> rfl
theorem own_listeq {xs ys : List Int32} (hl : xs.length = ys.length) (h : ∀ r, r < xs.length → xs.getD r 0 = ys.getD r 0) : xs = ys := by
  apply List.ext_getElem hl
  intro i h1 h2
  have := h i h1
  simpa [List.getD_eq_getElem?_getD, List.getElem?_eq_getElem h1, List.getElem?_eq_getElem h2] using this
def own_eqv (xs ys : List Int32) : Int32 := if xs = ys then 1 else 0
theorem own_fldeq {Z : State} {h : Heap} {a : Addr} {C n d : String} {v w : Value} (F : Fld Z h a C n d v) (G : Fld Z h a C n d w) : v = w := Classical.byContradiction fun q => Fld.ne F G q rfl
theorem own_same {Z : State} {h : Heap} {t : Addr} {k k' : ClassId} {N N' : Int32} {xs ys : List Int32} (F : Arv Z h t k .byte N (xs.map Value.int) (.int (0 : Int32))) (G : Arv Z h t k' .byte N' (ys.map Value.int) (.int (0 : Int32))) (h1 : N.toNatClampNeg = xs.length) (h2 : N'.toNatClampNeg = ys.length) : xs = ys := by
  obtain ⟨c, A, -, S, -, H, -⟩ := F
  obtain ⟨c', A', -, S', -, H', -⟩ := G
  cases A.1.symm.trans A'.1
  refine own_listeq (by omega) fun r hr => ?_
  have e := (H r (by omega)).symm.trans (H' r (by omega))
  rw [own_mapget, own_mapget] at e
  exact Value.int.inj (Option.some.inj e)
theorem own_nat_inj {N N' : Int32} (h : N.toNatClampNeg = N'.toNatClampNeg) (h0 : ¬ N < 0) (h0' : ¬ N' < 0) : N = N' := by
  apply Int32.toInt_inj.mp
  rw [nat_of h0, nat_of h0', h]
theorem own_an {P : Int32 → Prop} : ∀ c ∈ ([] : List Int32), P c := fun _ q => nomatch q
theorem own_ac {P : Int32 → Prop} {x : Int32} {L : List Int32} (h : P x) (r : ∀ c ∈ L, P c) : ∀ c ∈ x :: L, P c := fun c q => (List.mem_cons.mp q).elim (fun u => u ▸ h) (r c)
theorem own_hnew (Z : State) (a0 : Array Value) (hw : ∀ d ∈ tables_1, d.before a0 Z = true) : ∀ d ∈ StrChars.Road.words, d.before a0 Z = true := fun d hd => hw d ((by decide +kernel : ∀ d ∈ StrChars.Road.words, d ∈ tables_1) d hd)
theorem own_d14_0 : decode jdk_42_method_66_code 0 = .ok (.aload_n 0, 1) := by decide +kernel
theorem own_d14_1 : decode jdk_42_method_66_code 1 = .ok (.aload_n 1, 1) := by decide +kernel
theorem own_d14_2 : decode jdk_42_method_66_code 2 = .ok (.if_acmp .ne 5, 3) := by decide +kernel
theorem own_d14_5 : decode jdk_42_method_66_code 5 = .ok (.iconst 1, 1) := by decide +kernel
theorem own_d14_6 : decode jdk_42_method_66_code 6 = .ok (.ireturn, 1) := by decide +kernel
theorem own_pn_java_lang_String : plainName "java/lang/String" = true := by first | (simp [plainName, overriddenIn]; done) | decide +kernel
theorem own_ef_own_reqs (m : MethodId) (a1 : Addr) : entryFrame m #[(.ref a1), (.ref a1)] 3 = mkF m 0 #[rv a1, rv a1, .unset] [] := by first | (simp [entryFrame, mkF, argsToLocals, Value.category]; done) | rfl
def own_Q_own_reqs (Z : State) (a1 : Addr) (h0 : Heap) (n0 : Nat) (v : Option Value) (h : Heap) (L : List Loc) : Prop := v = some (.int (1 : Int32)) ∧ Fr n0 L ∧ h = h0
set_option maxRecDepth 65536 in
set_option maxHeartbeats 40000000 in
theorem own_reqs (l : Launch) (Z : State) (a0 : Array Value) (hw : ∀ d ∈ tables_1, d.before a0 Z = true) (ws : List Jvm.Cond) (a1 : Addr) (h0 : Heap) (n0 : Nat) (Z0 : n0 ≤ h0.size)   :
    MetFree l (⟨"java/lang/String", "equals", "(Ljava/lang/Object;)Z"⟩ : MethodName) (head1 (Jvm.Cond.code (⟨"java/lang/String", "equals", "(Ljava/lang/Object;)Z"⟩ : MethodName) jdk_42_method_66_code 3 (some .boolean) :: ws) ({ frames := 0, cells := 0, slots := 0, locals := 0 } : Room)) (fun a U => a = #[(.ref a1), (.ref a1)] ∧ Z.Warmed39 U.vm ∧ U.heap = h0) (fun _ _ _ _ _ => True) (fun _ U o U' => ∃ v L, o = .returned v ∧ own_Q_own_reqs Z a1 h0 n0 v U'.heap L ∧ FrameEnd U o U' L ({ frames := 0, cells := 0, slots := 0, locals := 0 } : Room).cells ({ frames := 0, cells := 0, slots := 0, locals := 0 } : Room).slots) := by
  refine MetFree.of_bodySF (plainFor_of_name own_pn_java_lang_String) hisR ?_
  intro p e s m args below meth c s₁ Bd hml0 hP hK
  obtain ⟨rfl, hZ, hh⟩ := hP
  have hx := Bd.exec
  have hby := Bd.bytes
  have hml : c.maxLocals = 3 := hml0
  have hown : s.vm.findClass "java/lang/String" = some m.cls := findClass_of_methodNamed Bd.named
  have hnm := (name_of_methodNamed Bd.named Bd.method).1
  have X0 : Stand p l e ({ frames := 0, cells := 0, slots := 0, locals := 0 } : Room) s m #[(.ref a1), (.ref a1)] below meth c s₁ [] 0 0 := Stand.of_body Bd
  have e0 : s₁.heap = h0 := by rw [← hh, Bd.state]; rfl
  have N0 := Fr.nil n0
  show own_Go p e below s (own_Q_own_reqs Z a1 h0 n0) ({ frames := 0, cells := 0, slots := 0, locals := 0 } : Room).cells ({ frames := 0, cells := 0, slots := 0, locals := 0 } : Room).slots (s₁.setTop (entryFrame m #[(.ref a1), (.ref a1)] 3))
  refine own_go (fun zt zk => castTop (own_ef_own_reqs m a1) zk) ?_
  show own_Go p e below s _ _ _ (s₁.setTop (mkF m 0 #[rv a1, rv a1, .unset] []))
  refine own_go (fun zt zk => (XS.aloadN X0.here hx rfl (hb hby own_d14_0) rfl rfl (XS.aloadN X0.here hx rfl (hb hby own_d14_1) rfl rfl zk))) ?_
  show own_Go p e below s _ _ _ (s₁.setTop (mkF m 2 #[rv a1, rv a1, .unset] [(.ref a1), (.ref a1)]))
  refine own_go (fun zt zk => Jvm.RoadKit.acmp (g := (mkF m 2 #[rv a1, rv a1, .unset] [(.ref a1), (.ref a1)])) X0 hx rfl rfl rfl (pc0 := 2) (pc' := 5) (same := true) rfl (hb hby own_d14_2) rfl (decide_eq_true rfl) (by decide) (by decide) zk) ?_
  show own_Go p e below s _ _ _ (s₁.setTop (mkF m 5 #[rv a1, rv a1, .unset] []))
  refine own_go (fun zt zk => (XS.iconst X0.here hx rfl (hb hby own_d14_5) zk)) ?_
  show own_Go p e below s _ _ _ (s₁.setTop (mkF m 6 #[rv a1, rv a1, .unset] [(.int (1 : Int32))]))
  exact own_fin X0 Bd.notSynchronized (fun h => by rw [Bd.returns] at h; cases h) (fun fs hr => retN X0 hx (t := .boolean) Bd.returns (by simp) (hb hby own_d14_6) hr) (by rw [e0]; exact ⟨rfl, N0, rfl⟩) (by decide) (by decide)
theorem own_d10_0 : decode jdk_30_method_1_code 0 = .ok (.aload_n 0, 1) := by decide +kernel
theorem own_d10_1 : decode jdk_30_method_1_code 1 = .ok (.invokespecial 1, 3) := by decide +kernel
theorem own_d10_4 : decode jdk_30_method_1_code 4 = .ok (.return_, 1) := by decide +kernel
theorem own_pn_java_lang_Record : plainName "java/lang/Record" = true := by first | (simp [plainName, overriddenIn]; done) | decide +kernel
theorem own_ef_own_rrec (m : MethodId) (a1 : Addr) : entryFrame m #[(.ref a1)] 1 = mkF m 0 #[rv a1] [] := by first | (simp [entryFrame, mkF, argsToLocals, Value.category]; done) | rfl
def own_Q_own_rrec (Z : State) (a1 : Addr) (h0 : Heap) (n0 : Nat) (v : Option Value) (h : Heap) (L : List Loc) : Prop := v = none ∧ Fr n0 L ∧ h = h0
set_option maxRecDepth 65536 in
set_option maxHeartbeats 40000000 in
theorem own_rrec (l : Launch) (Z : State) (a0 : Array Value) (hw : ∀ d ∈ tables_1, d.before a0 Z = true) (ws : List Jvm.Cond) (a1 : Addr) (h0 : Heap) (n0 : Nat) (Z0 : n0 ≤ h0.size)   :
    MetFree l (⟨"java/lang/Record", "<init>", "()V"⟩ : MethodName) (head1 (Jvm.Cond.code (⟨"java/lang/Record", "<init>", "()V"⟩ : MethodName) jdk_30_method_1_code 1 none :: ws) ({ frames := 1, cells := 0, slots := 0, locals := 12 } : Room)) (fun a U => a = #[(.ref a1)] ∧ Z.Warmed39 U.vm ∧ U.heap = h0) (fun _ _ _ _ _ => True) (fun _ U o U' => ∃ v L, o = .returned v ∧ own_Q_own_rrec Z a1 h0 n0 v U'.heap L ∧ FrameEnd U o U' L ({ frames := 1, cells := 0, slots := 0, locals := 12 } : Room).cells ({ frames := 1, cells := 0, slots := 0, locals := 12 } : Room).slots) := by
  refine MetFree.of_bodySF (plainFor_of_name own_pn_java_lang_Record) hisR ?_
  intro p e s m args below meth c s₁ Bd hml0 hP hK
  obtain ⟨rfl, hZ, hh⟩ := hP
  have hx := Bd.exec
  have hby := Bd.bytes
  have hml : c.maxLocals = 1 := hml0
  have hown : s.vm.findClass "java/lang/Record" = some m.cls := findClass_of_methodNamed Bd.named
  have hnm := (name_of_methodNamed Bd.named Bd.method).1
  have X0 : Stand p l e ({ frames := 1, cells := 0, slots := 0, locals := 12 } : Room) s m #[(.ref a1)] below meth c s₁ [] 0 0 := Stand.of_body Bd
  have e0 : s₁.heap = h0 := by rw [← hh, Bd.state]; rfl
  have N0 := Fr.nil n0
  show own_Go p e below s (own_Q_own_rrec Z a1 h0 n0) ({ frames := 1, cells := 0, slots := 0, locals := 12 } : Room).cells ({ frames := 1, cells := 0, slots := 0, locals := 12 } : Room).slots (s₁.setTop (entryFrame m #[(.ref a1)] 1))
  refine own_go (fun zt zk => castTop (own_ef_own_rrec m a1) zk) ?_
  show own_Go p e below s _ _ _ (s₁.setTop (mkF m 0 #[rv a1] []))
  refine own_go (fun zt zk => (XS.aloadN X0.here hx rfl (hb hby own_d10_0) rfl rfl zk)) ?_
  show own_Go p e below s _ _ _ (s₁.setTop (mkF m 1 #[rv a1] [(.ref a1)]))
  obtain ⟨T1, X1, e1, st1⟩ := initO X0 hx hZ hown (hw _ (List.mem_of_getElem? (i := 50) rfl)) (hw _ (List.mem_of_getElem? (i := 12) rfl)) (hw _ (List.mem_of_getElem? (i := 13) rfl)) e0 (g := (mkF m 1 #[rv a1] [(.ref a1)])) rfl (by rw [hml]; rfl) rfl (hb hby own_d10_1) (by decide) (W := 0) (by show 2 * 0 + _ ≤ _; exact Nat.le_of_eq rfl) (by decide)
  refine own_go st1 ?_
  show own_Go p e below s _ _ _ (T1.setTop (mkF m 4 #[rv a1] []))
  exact own_fin X1 Bd.notSynchronized (fun _ => rfl) (fun fs hr => X1.returnOut hx Bd.returns (hb hby own_d10_4) hr) (by rw [e1]; exact ⟨rfl, N0, rfl⟩) (by decide) (by decide)
theorem own_d17_0 : decode jdk_29_method_69_code 0 = .ok (.iload_n 0, 1) := by decide +kernel
theorem own_d17_1 : decode jdk_29_method_69_code 1 = .ok (.iload_n 1, 1) := by decide +kernel
theorem own_d17_2 : decode jdk_29_method_69_code 2 = .ok (.if_icmp .gt 7, 3) := by decide +kernel
theorem own_d17_9 : decode jdk_29_method_69_code 9 = .ok (.iload_n 1, 1) := by decide +kernel
theorem own_d17_10 : decode jdk_29_method_69_code 10 = .ok (.ireturn, 1) := by decide +kernel
theorem own_d17_5 : decode jdk_29_method_69_code 5 = .ok (.iload_n 0, 1) := by decide +kernel
theorem own_d17_6 : decode jdk_29_method_69_code 6 = .ok (.goto 4, 3) := by decide +kernel
theorem own_ef_own_rmin (m : MethodId) (p1 : Int32) (p2 : Int32) : entryFrame m #[(.int p1), (.int p2)] 2 = mkF m 0 #[iv p1, iv p2] [] := by first | (simp [entryFrame, mkF, argsToLocals, Value.category]; done) | rfl
def own_Q_own_rmin (Z : State) (p1 : Int32) (p2 : Int32) (h0 : Heap) (n0 : Nat) (v : Option Value) (h : Heap) (L : List Loc) : Prop := v = some (.int (own_min p1 p2)) ∧ Fr n0 L ∧ h = h0
set_option maxRecDepth 65536 in
set_option maxHeartbeats 40000000 in
theorem own_rmin (l : Launch) (Z : State) (a0 : Array Value) (hw : ∀ d ∈ tables_1, d.before a0 Z = true) (ws : List Jvm.Cond) (p1 : Int32) (p2 : Int32) (h0 : Heap) (n0 : Nat) (Z0 : n0 ≤ h0.size)   :
    MetFree l (⟨"java/lang/Math", "min", "(II)I"⟩ : MethodName) (head1 (Jvm.Cond.code (⟨"java/lang/Math", "min", "(II)I"⟩ : MethodName) jdk_29_method_69_code 2 (some .int) :: ws) ({ frames := 0, cells := 0, slots := 0, locals := 0 } : Room)) (fun a U => a = #[(.int p1), (.int p2)] ∧ Z.Warmed39 U.vm ∧ U.heap = h0) (fun _ _ _ _ _ => True) (fun _ U o U' => ∃ v L, o = .returned v ∧ own_Q_own_rmin Z p1 p2 h0 n0 v U'.heap L ∧ FrameEnd U o U' L ({ frames := 0, cells := 0, slots := 0, locals := 0 } : Room).cells ({ frames := 0, cells := 0, slots := 0, locals := 0 } : Room).slots) := by
  refine MetFree.of_bodySF (Jvm.Free.JP.mathPlain rfl (by decide +kernel)) hisR ?_
  intro p e s m args below meth c s₁ Bd hml0 hP hK
  obtain ⟨rfl, hZ, hh⟩ := hP
  have hx := Bd.exec
  have hby := Bd.bytes
  have hml : c.maxLocals = 2 := hml0
  have hown : s.vm.findClass "java/lang/Math" = some m.cls := findClass_of_methodNamed Bd.named
  have hnm := (name_of_methodNamed Bd.named Bd.method).1
  have X0 : Stand p l e ({ frames := 0, cells := 0, slots := 0, locals := 0 } : Room) s m #[(.int p1), (.int p2)] below meth c s₁ [] 0 0 := Stand.of_body Bd
  have e0 : s₁.heap = h0 := by rw [← hh, Bd.state]; rfl
  have N0 := Fr.nil n0
  show own_Go p e below s (own_Q_own_rmin Z p1 p2 h0 n0) ({ frames := 0, cells := 0, slots := 0, locals := 0 } : Room).cells ({ frames := 0, cells := 0, slots := 0, locals := 0 } : Room).slots (s₁.setTop (entryFrame m #[(.int p1), (.int p2)] 2))
  refine own_go (fun zt zk => castTop (own_ef_own_rmin m p1 p2) zk) ?_
  show own_Go p e below s _ _ _ (s₁.setTop (mkF m 0 #[iv p1, iv p2] []))
  refine own_go (fun zt zk => (XS.iloadN X0.here hx rfl (hb hby own_d17_0) rfl (XS.iloadN X0.here hx rfl (hb hby own_d17_1) rfl zk))) ?_
  show own_Go p e below s _ _ _ (s₁.setTop (mkF m 2 #[iv p1, iv p2] [(.int p2), (.int p1)]))
  by_cases hc : p2 < p1
  · refine own_go (fun zt zk => (XS.icmpYes X0.here hx rfl (pc0 := 2) (pc' := 9) rfl (hb hby own_d17_2) rfl (tlt (hc : p2 < p1)).2.2.1 (by decide) (by decide) (XS.iloadN X0.here hx rfl (hb hby own_d17_9) rfl zk))) ?_
    show own_Go p e below s _ _ _ (s₁.setTop (mkF m 10 #[iv p1, iv p2] [(.int p2)]))
    exact own_fin X0 Bd.notSynchronized (fun h => by rw [Bd.returns] at h; cases h) (fun fs hr => retOut X0 hx (t := .int) (w := (.int p2)) Bd.returns rfl (Or.inl ⟨rfl, Or.inl rfl, _, rfl⟩) (hb hby own_d17_10) hr) (by rw [e0]; exact ⟨congrArg (fun z => some (Value.int z)) (if_pos hc).symm, N0, rfl⟩) (by decide) (by decide)
  · refine own_go (fun zt zk => (XS.icmpNo X0.here hx rfl (hb hby own_d17_2) rfl (flt (hc : ¬ (p2 < p1))).2.2.1 (XS.iloadN X0.here hx rfl (hb hby own_d17_5) rfl (XS.goto X0.here hx rfl (pc0 := 6) (pc' := 10) rfl (hb hby own_d17_6) (by decide) (by decide) zk)))) ?_
    show own_Go p e below s _ _ _ (s₁.setTop (mkF m 10 #[iv p1, iv p2] [(.int p1)]))
    exact own_fin X0 Bd.notSynchronized (fun h => by rw [Bd.returns] at h; cases h) (fun fs hr => retOut X0 hx (t := .int) (w := (.int p1)) Bd.returns rfl (Or.inl ⟨rfl, Or.inl rfl, _, rfl⟩) (hb hby own_d17_10) hr) (by rw [e0]; exact ⟨congrArg (fun z => some (Value.int z)) (if_neg hc).symm, N0, rfl⟩) (by decide) (by decide)
theorem own_d18_0 : decode jdk_29_method_65_code 0 = .ok (.iload_n 0, 1) := by decide +kernel
theorem own_d18_1 : decode jdk_29_method_65_code 1 = .ok (.iload_n 1, 1) := by decide +kernel
theorem own_d18_2 : decode jdk_29_method_65_code 2 = .ok (.if_icmp .lt 7, 3) := by decide +kernel
theorem own_d18_9 : decode jdk_29_method_65_code 9 = .ok (.iload_n 1, 1) := by decide +kernel
theorem own_d18_10 : decode jdk_29_method_65_code 10 = .ok (.ireturn, 1) := by decide +kernel
theorem own_d18_5 : decode jdk_29_method_65_code 5 = .ok (.iload_n 0, 1) := by decide +kernel
theorem own_d18_6 : decode jdk_29_method_65_code 6 = .ok (.goto 4, 3) := by decide +kernel
theorem own_ef_own_rmax (m : MethodId) (p1 : Int32) (p2 : Int32) : entryFrame m #[(.int p1), (.int p2)] 2 = mkF m 0 #[iv p1, iv p2] [] := by first | (simp [entryFrame, mkF, argsToLocals, Value.category]; done) | rfl
def own_Q_own_rmax (Z : State) (p1 : Int32) (p2 : Int32) (h0 : Heap) (n0 : Nat) (v : Option Value) (h : Heap) (L : List Loc) : Prop := v = some (.int (own_max p1 p2)) ∧ Fr n0 L ∧ h = h0
set_option maxRecDepth 65536 in
set_option maxHeartbeats 40000000 in
theorem own_rmax (l : Launch) (Z : State) (a0 : Array Value) (hw : ∀ d ∈ tables_1, d.before a0 Z = true) (ws : List Jvm.Cond) (p1 : Int32) (p2 : Int32) (h0 : Heap) (n0 : Nat) (Z0 : n0 ≤ h0.size)   :
    MetFree l (⟨"java/lang/Math", "max", "(II)I"⟩ : MethodName) (head1 (Jvm.Cond.code (⟨"java/lang/Math", "max", "(II)I"⟩ : MethodName) jdk_29_method_65_code 2 (some .int) :: ws) ({ frames := 0, cells := 0, slots := 0, locals := 0 } : Room)) (fun a U => a = #[(.int p1), (.int p2)] ∧ Z.Warmed39 U.vm ∧ U.heap = h0) (fun _ _ _ _ _ => True) (fun _ U o U' => ∃ v L, o = .returned v ∧ own_Q_own_rmax Z p1 p2 h0 n0 v U'.heap L ∧ FrameEnd U o U' L ({ frames := 0, cells := 0, slots := 0, locals := 0 } : Room).cells ({ frames := 0, cells := 0, slots := 0, locals := 0 } : Room).slots) := by
  refine MetFree.of_bodySF (Jvm.Free.JP.mathPlain rfl (by decide +kernel)) hisR ?_
  intro p e s m args below meth c s₁ Bd hml0 hP hK
  obtain ⟨rfl, hZ, hh⟩ := hP
  have hx := Bd.exec
  have hby := Bd.bytes
  have hml : c.maxLocals = 2 := hml0
  have hown : s.vm.findClass "java/lang/Math" = some m.cls := findClass_of_methodNamed Bd.named
  have hnm := (name_of_methodNamed Bd.named Bd.method).1
  have X0 : Stand p l e ({ frames := 0, cells := 0, slots := 0, locals := 0 } : Room) s m #[(.int p1), (.int p2)] below meth c s₁ [] 0 0 := Stand.of_body Bd
  have e0 : s₁.heap = h0 := by rw [← hh, Bd.state]; rfl
  have N0 := Fr.nil n0
  show own_Go p e below s (own_Q_own_rmax Z p1 p2 h0 n0) ({ frames := 0, cells := 0, slots := 0, locals := 0 } : Room).cells ({ frames := 0, cells := 0, slots := 0, locals := 0 } : Room).slots (s₁.setTop (entryFrame m #[(.int p1), (.int p2)] 2))
  refine own_go (fun zt zk => castTop (own_ef_own_rmax m p1 p2) zk) ?_
  show own_Go p e below s _ _ _ (s₁.setTop (mkF m 0 #[iv p1, iv p2] []))
  refine own_go (fun zt zk => (XS.iloadN X0.here hx rfl (hb hby own_d18_0) rfl (XS.iloadN X0.here hx rfl (hb hby own_d18_1) rfl zk))) ?_
  show own_Go p e below s _ _ _ (s₁.setTop (mkF m 2 #[iv p1, iv p2] [(.int p2), (.int p1)]))
  by_cases hc : p1 < p2
  · refine own_go (fun zt zk => (XS.icmpYes X0.here hx rfl (pc0 := 2) (pc' := 9) rfl (hb hby own_d18_2) rfl (tlt (hc : p1 < p2)).1 (by decide) (by decide) (XS.iloadN X0.here hx rfl (hb hby own_d18_9) rfl zk))) ?_
    show own_Go p e below s _ _ _ (s₁.setTop (mkF m 10 #[iv p1, iv p2] [(.int p2)]))
    exact own_fin X0 Bd.notSynchronized (fun h => by rw [Bd.returns] at h; cases h) (fun fs hr => retOut X0 hx (t := .int) (w := (.int p2)) Bd.returns rfl (Or.inl ⟨rfl, Or.inl rfl, _, rfl⟩) (hb hby own_d18_10) hr) (by rw [e0]; exact ⟨congrArg (fun z => some (Value.int z)) (if_pos hc).symm, N0, rfl⟩) (by decide) (by decide)
  · refine own_go (fun zt zk => (XS.icmpNo X0.here hx rfl (hb hby own_d18_2) rfl (flt (hc : ¬ (p1 < p2))).1 (XS.iloadN X0.here hx rfl (hb hby own_d18_5) rfl (XS.goto X0.here hx rfl (pc0 := 6) (pc' := 10) rfl (hb hby own_d18_6) (by decide) (by decide) zk)))) ?_
    show own_Go p e below s _ _ _ (s₁.setTop (mkF m 10 #[iv p1, iv p2] [(.int p1)]))
    exact own_fin X0 Bd.notSynchronized (fun h => by rw [Bd.returns] at h; cases h) (fun fs hr => retOut X0 hx (t := .int) (w := (.int p1)) Bd.returns rfl (Or.inl ⟨rfl, Or.inl rfl, _, rfl⟩) (hb hby own_d18_10) hr) (by rw [e0]; exact ⟨congrArg (fun z => some (Value.int z)) (if_neg hc).symm, N0, rfl⟩) (by decide) (by decide)
theorem own_d19_0 : decode prog_35_method_1_code 0 = .ok (.aload_n 0, 1) := by decide +kernel
theorem own_d19_1 : decode prog_35_method_1_code 1 = .ok (.invokespecial 1, 3) := by decide +kernel
theorem own_pd___V : parseMethodDescriptor "()V" = some ⟨[], none⟩ := by decide +kernel
theorem own_d19_4 : decode prog_35_method_1_code 4 = .ok (.iload_n 1, 1) := by decide +kernel
theorem own_d19_5 : decode prog_35_method_1_code 5 = .ok (.ifCond .lt 8, 3) := by decide +kernel
theorem own_d19_8 : decode prog_35_method_1_code 8 = .ok (.iload_n 2, 1) := by decide +kernel
theorem own_d19_9 : decode prog_35_method_1_code 9 = .ok (.iload_n 1, 1) := by decide +kernel
theorem own_d19_10 : decode prog_35_method_1_code 10 = .ok (.if_icmp .ge 18, 3) := by decide +kernel
theorem own_d19_28 : decode prog_35_method_1_code 28 = .ok (.aload_n 0, 1) := by decide +kernel
theorem own_d19_29 : decode prog_35_method_1_code 29 = .ok (.iload_n 1, 1) := by decide +kernel
theorem own_d19_30 : decode prog_35_method_1_code 30 = .ok (.putfield 16, 3) := by decide +kernel
theorem own_d19_33 : decode prog_35_method_1_code 33 = .ok (.aload_n 0, 1) := by decide +kernel
theorem own_d19_34 : decode prog_35_method_1_code 34 = .ok (.iload_n 2, 1) := by decide +kernel
theorem own_d19_35 : decode prog_35_method_1_code 35 = .ok (.putfield 22, 3) := by decide +kernel
theorem own_d19_38 : decode prog_35_method_1_code 38 = .ok (.return_, 1) := by decide +kernel
theorem own_pn_com_example_tranche_tranche_model_Span : plainName "com/example/tranche/tranche/model/Span" = true := by first | (simp [plainName, overriddenIn]; done) | decide +kernel
theorem own_ef_own_rspan (m : MethodId) (a1 : Addr) (p1 : Int32) (p2 : Int32) : entryFrame m #[(.ref a1), (.int p1), (.int p2)] 3 = mkF m 0 #[rv a1, iv p1, iv p2] [] := by first | (simp [entryFrame, mkF, argsToLocals, Value.category]; done) | rfl
def own_Q_own_rspan (Z : State) (a1 : Addr) (p1 : Int32) (p2 : Int32) (h0 : Heap) (n0 : Nat) (v : Option Value) (h : Heap) (L : List Loc) : Prop := v = none ∧ Fr n0 L ∧ Keep h0 h [a1] ∧ Exa Z h a1 "com/example/tranche/tranche/model/Span" ∧ Fld Z h a1 "com/example/tranche/tranche/model/Span" "start" "I" (.int p1) ∧ Fld Z h a1 "com/example/tranche/tranche/model/Span" "end" "I" (.int p2)
set_option maxRecDepth 65536 in
set_option maxHeartbeats 40000000 in
theorem own_rspan (l : Launch) (Z : State) (a0 : Array Value) (hw : ∀ d ∈ tables_1, d.before a0 Z = true) (ws : List Jvm.Cond) (a1 : Addr) (p1 : Int32) (p2 : Int32) (h0 : Heap) (n0 : Nat) (Z0 : n0 ≤ h0.size) (Ex : Exa Z h0 a1 "com/example/tranche/tranche/model/Span") (F_start : Fld Z h0 a1 "com/example/tranche/tranche/model/Span" "start" "I" (.int (0 : Int32))) (F_end : Fld Z h0 a1 "com/example/tranche/tranche/model/Span" "end" "I" (.int (0 : Int32))) (g_a1 : n0 ≤ a1) (hs : ¬ (p1 < (0 : Int32))) (he : ¬ (p2 < p1)) :
    MetFree l (⟨"com/example/tranche/tranche/model/Span", "<init>", "(II)V"⟩ : MethodName) (head1 (Jvm.Cond.code (⟨"com/example/tranche/tranche/model/Span", "<init>", "(II)V"⟩ : MethodName) prog_35_method_1_code 3 none :: ws) ({ frames := 2, cells := 0, slots := 0, locals := 24 } : Room)) (fun a U => a = #[(.ref a1), (.int p1), (.int p2)] ∧ Z.Warmed39 U.vm ∧ U.heap = h0) (fun _ _ _ _ _ => True) (fun _ U o U' => ∃ v L, o = .returned v ∧ own_Q_own_rspan Z a1 p1 p2 h0 n0 v U'.heap L ∧ FrameEnd U o U' L ({ frames := 2, cells := 0, slots := 0, locals := 24 } : Room).cells ({ frames := 2, cells := 0, slots := 0, locals := 24 } : Room).slots) := by
  refine MetFree.of_bodySF (plainFor_of_name own_pn_com_example_tranche_tranche_model_Span) hisR ?_
  intro p e s m args below meth c s₁ Bd hml0 hP hK
  obtain ⟨rfl, hZ, hh⟩ := hP
  have hx := Bd.exec
  have hby := Bd.bytes
  have hml : c.maxLocals = 3 := hml0
  have hown : s.vm.findClass "com/example/tranche/tranche/model/Span" = some m.cls := findClass_of_methodNamed Bd.named
  have hnm := (name_of_methodNamed Bd.named Bd.method).1
  have X0 : Stand p l e ({ frames := 2, cells := 0, slots := 0, locals := 24 } : Room) s m #[(.ref a1), (.int p1), (.int p2)] below meth c s₁ [] 0 0 := Stand.of_body Bd
  have e0 : s₁.heap = h0 := by rw [← hh, Bd.state]; rfl
  have N0 := Fr.nil n0
  have Kp : Keep h0 h0 [a1] := Keep.refl h0 _
  show own_Go p e below s (own_Q_own_rspan Z a1 p1 p2 h0 n0) ({ frames := 2, cells := 0, slots := 0, locals := 24 } : Room).cells ({ frames := 2, cells := 0, slots := 0, locals := 24 } : Room).slots (s₁.setTop (entryFrame m #[(.ref a1), (.int p1), (.int p2)] 3))
  refine own_go (fun zt zk => castTop (own_ef_own_rspan m a1 p1 p2) zk) ?_
  show own_Go p e below s _ _ _ (s₁.setTop (mkF m 0 #[rv a1, iv p1, iv p2] []))
  refine own_go (fun zt zk => (XS.aloadN X0.here hx rfl (hb hby own_d19_0) rfl rfl zk)) ?_
  show own_Go p e below s _ _ _ (s₁.setTop (mkF m 1 #[rv a1, iv p1, iv p2] [(.ref a1)]))
  obtain ⟨_, _, ⟨T1, L1, k1, n1⟩, -, X1, ⟨Lc1, hQ1, l1, y1, z1⟩, st1⟩ := X0.specialBack hx (y := (⟨"java/lang/Record", "<init>", "()V"⟩ : MethodName)) rfl hown (mvT hZ (hw _ (List.mem_of_getElem? (i := 104) rfl))) (mvT hZ (hw _ (List.mem_of_getElem? (i := 46) rfl))) (mvT hZ (hw _ (List.mem_of_getElem? (i := 49) rfl))) (by decide) (backOf (W := 0) (own_rrec l Z a0 hw [] a1  h0 n0 Z0 ) hZ (hw _ (List.mem_of_getElem? (i := 49) rfl)) (hw _ (List.mem_of_getElem? (i := 48) rfl)) (by decide) (by decide)) (g := (mkF m 1 #[rv a1, iv p1, iv p2] [(.ref a1)])) rfl (by rw [hml]; rfl) (Steps.refl _) (a := a1) (argsL := []) (rest := []) (lenOf own_pd___V rfl) rfl (by show 2 * 0 + _ ≤ _; exact Nat.le_of_eq rfl) (hb hby own_d19_1) (fun _ _ => ⟨rfl, e0, (by decide : 0 + 0 ≤ _), (by decide : 0 + 0 ≤ _)⟩)
  dsimp only [Pt.U, Pt.locs, Pt.cells, Pt.slots] at X1 l1 y1 z1 st1 hQ1
  subst y1 z1
  replace X1 := X1.mono (Nat.le_of_ble_eq_true rfl : _ ≤ 0) (Nat.le_of_ble_eq_true rfl : _ ≤ 0)
  obtain ⟨rfl, Nq1, e1⟩ := hQ1
  have N1 : Fr n0 L1 := by rw [l1]; exact Fr.app N0 Nq1
  refine own_go (fun zt zk => st1.trans zk) ?_
  show own_Go p e below s _ _ _ (T1.setTop (mkF m 4 #[rv a1, iv p1, iv p2] []))
  refine own_go (fun zt zk => (XS.iloadN X1.here hx rfl (hb hby own_d19_4) rfl (XS.ifNo X1.here hx rfl (hb hby own_d19_5) rfl ((if0 _ _).trans (flt (hs : ¬ (p1 < (0 : Int32)))).1) (XS.iloadN X1.here hx rfl (hb hby own_d19_8) rfl (XS.iloadN X1.here hx rfl (hb hby own_d19_9) rfl (XS.icmpYes X1.here hx rfl (pc0 := 10) (pc' := 28) rfl (hb hby own_d19_10) rfl (flt (he : ¬ (p2 < p1))).2.1 (by decide) (by decide) (XS.aloadN X1.here hx rfl (hb hby own_d19_28) rfl rfl (XS.iloadN X1.here hx rfl (hb hby own_d19_29) rfl zk)))))))) ?_
  show own_Go p e below s _ _ _ (T1.setTop (mkF m 30 #[rv a1, iv p1, iv p2] [(.int p1), (.ref a1)]))
  obtain ⟨T2, h2, X2, e2, W2, st2⟩ := putF X1 hx hZ hown (host := "") (Or.inl (hw _ (List.mem_of_getElem? (i := 105) rfl))) Via.refl e1 F_start Ex (Or.inr ⟨(hw _ (List.mem_of_getElem? (i := 106) rfl)), rfl, hnm⟩) (hw _ (List.mem_of_getElem? (i := 92) rfl)) (ty := .int) (by decide) rfl rfl (g := (mkF m 30 #[rv a1, iv p1, iv p2] [(.int p1), (.ref a1)])) rfl rfl (hb hby own_d19_30)
  refine own_go st2 ?_
  have N2 := Fr.snoc X2 N1 g_a1
  replace Ex := Ex.wr W2
  replace F_end := F_end.other W2 (Or.inr (slot_ne (Or.inr (hw _ (List.mem_of_getElem? (i := 108) rfl))) (Or.inr (hw _ (List.mem_of_getElem? (i := 106) rfl))) (by decide) (t := .int) (t' := .int) (by decide) (by decide)))
  replace Kp := Kp.wr W2 (Or.inl (List.mem_of_getElem? (i := 0) rfl))
  replace F_start := F_start.same W2
  show own_Go p e below s _ _ _ (T2.setTop (mkF m 33 #[rv a1, iv p1, iv p2] []))
  refine own_go (fun zt zk => (XS.aloadN X2.here hx rfl (hb hby own_d19_33) rfl rfl (XS.iloadN X2.here hx rfl (hb hby own_d19_34) rfl zk))) ?_
  show own_Go p e below s _ _ _ (T2.setTop (mkF m 35 #[rv a1, iv p1, iv p2] [(.int p2), (.ref a1)]))
  obtain ⟨T3, h3, X3, e3, W3, st3⟩ := putF X2 hx hZ hown (host := "") (Or.inl (hw _ (List.mem_of_getElem? (i := 107) rfl))) Via.refl e2 F_end Ex (Or.inr ⟨(hw _ (List.mem_of_getElem? (i := 108) rfl)), rfl, hnm⟩) (hw _ (List.mem_of_getElem? (i := 92) rfl)) (ty := .int) (by decide) rfl rfl (g := (mkF m 35 #[rv a1, iv p1, iv p2] [(.int p2), (.ref a1)])) rfl rfl (hb hby own_d19_35)
  refine own_go st3 ?_
  have N3 := Fr.snoc X3 N2 g_a1
  replace Ex := Ex.wr W3
  replace F_start := F_start.other W3 (Or.inr (slot_ne (Or.inr (hw _ (List.mem_of_getElem? (i := 106) rfl))) (Or.inr (hw _ (List.mem_of_getElem? (i := 108) rfl))) (by decide) (t := .int) (t' := .int) (by decide) (by decide)))
  replace Kp := Kp.wr W3 (Or.inl (List.mem_of_getElem? (i := 0) rfl))
  replace F_end := F_end.same W3
  show own_Go p e below s _ _ _ (T3.setTop (mkF m 38 #[rv a1, iv p1, iv p2] []))
  exact own_fin X3 Bd.notSynchronized (fun _ => rfl) (fun fs hr => X3.returnOut hx Bd.returns (hb hby own_d19_38) hr) (by rw [e3]; exact ⟨rfl, N3, Kp, Ex, F_start, F_end⟩) (by decide) (by decide)
theorem own_d9_0 : decode prog_34_method_1_code 0 = .ok (.aload_n 0, 1) := by decide +kernel
theorem own_d9_1 : decode prog_34_method_1_code 1 = .ok (.invokespecial 1, 3) := by decide +kernel
theorem own_d9_4 : decode prog_34_method_1_code 4 = .ok (.aload_n 0, 1) := by decide +kernel
theorem own_d9_5 : decode prog_34_method_1_code 5 = .ok (.aload_n 1, 1) := by decide +kernel
theorem own_d9_6 : decode prog_34_method_1_code 6 = .ok (.putfield 7, 3) := by decide +kernel
theorem own_d9_9 : decode prog_34_method_1_code 9 = .ok (.aload_n 0, 1) := by decide +kernel
theorem own_d9_10 : decode prog_34_method_1_code 10 = .ok (.aload_n 2, 1) := by decide +kernel
theorem own_d9_11 : decode prog_34_method_1_code 11 = .ok (.putfield 13, 3) := by decide +kernel
theorem own_d9_14 : decode prog_34_method_1_code 14 = .ok (.aload_n 0, 1) := by decide +kernel
theorem own_d9_15 : decode prog_34_method_1_code 15 = .ok (.aload_n 3, 1) := by decide +kernel
theorem own_d9_16 : decode prog_34_method_1_code 16 = .ok (.putfield 16, 3) := by decide +kernel
theorem own_d9_19 : decode prog_34_method_1_code 19 = .ok (.aload_n 0, 1) := by decide +kernel
theorem own_d9_20 : decode prog_34_method_1_code 20 = .ok (.iload 4, 2) := by decide +kernel
theorem own_d9_22 : decode prog_34_method_1_code 22 = .ok (.putfield 20, 3) := by decide +kernel
theorem own_d9_25 : decode prog_34_method_1_code 25 = .ok (.return_, 1) := by decide +kernel
theorem own_pn_com_example_tranche_tranche_model_Row_Field : plainName "com/example/tranche/tranche/model/Row$Field" = true := by first | (simp [plainName, overriddenIn]; done) | decide +kernel
theorem own_ef_own_rfld0 (m : MethodId) (a1 : Addr) (nm : Addr) (tx : Addr) (op : Addr) : entryFrame m #[(.ref a1), (.ref nm), (.ref tx), (.ref op), (.int (0 : Int32))] 5 = mkF m 0 #[rv a1, rv nm, rv tx, rv op, iv (0 : Int32)] [] := by first | (simp [entryFrame, mkF, argsToLocals, Value.category]; done) | rfl
def own_Q_own_rfld0 (Z : State) (a1 : Addr) (nm : Addr) (tx : Addr) (op : Addr) (h0 : Heap) (n0 : Nat) (v : Option Value) (h : Heap) (L : List Loc) : Prop := v = none ∧ Fr n0 L ∧ Keep h0 h [a1] ∧ Exa Z h a1 "com/example/tranche/tranche/model/Row$Field" ∧ Fld Z h a1 "com/example/tranche/tranche/model/Row$Field" "name" "Ljava/lang/String;" (.ref nm) ∧ Fld Z h a1 "com/example/tranche/tranche/model/Row$Field" "text" "Ljava/lang/String;" (.ref tx) ∧ Fld Z h a1 "com/example/tranche/tranche/model/Row$Field" "span" "Ljava/util/Optional;" (.ref op) ∧ Fld Z h a1 "com/example/tranche/tranche/model/Row$Field" "spanFirst" "Z" (.int (0 : Int32))
set_option maxRecDepth 65536 in
set_option maxHeartbeats 40000000 in
theorem own_rfld0 (l : Launch) (Z : State) (a0 : Array Value) (hw : ∀ d ∈ tables_1, d.before a0 Z = true) (ws : List Jvm.Cond) (a1 : Addr) (nm : Addr) (tx : Addr) (op : Addr) (h0 : Heap) (n0 : Nat) (Z0 : n0 ≤ h0.size) (Ex : Exa Z h0 a1 "com/example/tranche/tranche/model/Row$Field") (F_name : Fld Z h0 a1 "com/example/tranche/tranche/model/Row$Field" "name" "Ljava/lang/String;" .null) (F_text : Fld Z h0 a1 "com/example/tranche/tranche/model/Row$Field" "text" "Ljava/lang/String;" .null) (F_span : Fld Z h0 a1 "com/example/tranche/tranche/model/Row$Field" "span" "Ljava/util/Optional;" .null) (F_spanFirst : Fld Z h0 a1 "com/example/tranche/tranche/model/Row$Field" "spanFirst" "Z" (.int (0 : Int32))) (g_a1 : n0 ≤ a1)  :
    MetFree l (⟨"com/example/tranche/tranche/model/Row$Field", "<init>", "(Ljava/lang/String;Ljava/lang/String;Ljava/util/Optional;Z)V"⟩ : MethodName) (head1 (Jvm.Cond.code (⟨"com/example/tranche/tranche/model/Row$Field", "<init>", "(Ljava/lang/String;Ljava/lang/String;Ljava/util/Optional;Z)V"⟩ : MethodName) prog_34_method_1_code 5 none :: ws) ({ frames := 2, cells := 0, slots := 0, locals := 24 } : Room)) (fun a U => a = #[(.ref a1), (.ref nm), (.ref tx), (.ref op), (.int (0 : Int32))] ∧ Z.Warmed39 U.vm ∧ U.heap = h0) (fun _ _ _ _ _ => True) (fun _ U o U' => ∃ v L, o = .returned v ∧ own_Q_own_rfld0 Z a1 nm tx op h0 n0 v U'.heap L ∧ FrameEnd U o U' L ({ frames := 2, cells := 0, slots := 0, locals := 24 } : Room).cells ({ frames := 2, cells := 0, slots := 0, locals := 24 } : Room).slots) := by
  refine MetFree.of_bodySF (plainFor_of_name own_pn_com_example_tranche_tranche_model_Row_Field) hisR ?_
  intro p e s m args below meth c s₁ Bd hml0 hP hK
  obtain ⟨rfl, hZ, hh⟩ := hP
  have hx := Bd.exec
  have hby := Bd.bytes
  have hml : c.maxLocals = 5 := hml0
  have hown : s.vm.findClass "com/example/tranche/tranche/model/Row$Field" = some m.cls := findClass_of_methodNamed Bd.named
  have hnm := (name_of_methodNamed Bd.named Bd.method).1
  have X0 : Stand p l e ({ frames := 2, cells := 0, slots := 0, locals := 24 } : Room) s m #[(.ref a1), (.ref nm), (.ref tx), (.ref op), (.int (0 : Int32))] below meth c s₁ [] 0 0 := Stand.of_body Bd
  have e0 : s₁.heap = h0 := by rw [← hh, Bd.state]; rfl
  have N0 := Fr.nil n0
  have Kp : Keep h0 h0 [a1] := Keep.refl h0 _
  show own_Go p e below s (own_Q_own_rfld0 Z a1 nm tx op h0 n0) ({ frames := 2, cells := 0, slots := 0, locals := 24 } : Room).cells ({ frames := 2, cells := 0, slots := 0, locals := 24 } : Room).slots (s₁.setTop (entryFrame m #[(.ref a1), (.ref nm), (.ref tx), (.ref op), (.int (0 : Int32))] 5))
  refine own_go (fun zt zk => castTop (own_ef_own_rfld0 m a1 nm tx op) zk) ?_
  show own_Go p e below s _ _ _ (s₁.setTop (mkF m 0 #[rv a1, rv nm, rv tx, rv op, iv (0 : Int32)] []))
  refine own_go (fun zt zk => (XS.aloadN X0.here hx rfl (hb hby own_d9_0) rfl rfl zk)) ?_
  show own_Go p e below s _ _ _ (s₁.setTop (mkF m 1 #[rv a1, rv nm, rv tx, rv op, iv (0 : Int32)] [(.ref a1)]))
  obtain ⟨_, _, ⟨T1, L1, k1, n1⟩, -, X1, ⟨Lc1, hQ1, l1, y1, z1⟩, st1⟩ := X0.specialBack hx (y := (⟨"java/lang/Record", "<init>", "()V"⟩ : MethodName)) rfl hown (mvT hZ (hw _ (List.mem_of_getElem? (i := 45) rfl))) (mvT hZ (hw _ (List.mem_of_getElem? (i := 46) rfl))) (mvT hZ (hw _ (List.mem_of_getElem? (i := 49) rfl))) (by decide) (backOf (W := 0) (own_rrec l Z a0 hw [] a1  h0 n0 Z0 ) hZ (hw _ (List.mem_of_getElem? (i := 49) rfl)) (hw _ (List.mem_of_getElem? (i := 48) rfl)) (by decide) (by decide)) (g := (mkF m 1 #[rv a1, rv nm, rv tx, rv op, iv (0 : Int32)] [(.ref a1)])) rfl (by rw [hml]; rfl) (Steps.refl _) (a := a1) (argsL := []) (rest := []) (lenOf own_pd___V rfl) rfl (by show 2 * 0 + _ ≤ _; exact Nat.le_of_eq rfl) (hb hby own_d9_1) (fun _ _ => ⟨rfl, e0, (by decide : 0 + 0 ≤ _), (by decide : 0 + 0 ≤ _)⟩)
  dsimp only [Pt.U, Pt.locs, Pt.cells, Pt.slots] at X1 l1 y1 z1 st1 hQ1
  subst y1 z1
  replace X1 := X1.mono (Nat.le_of_ble_eq_true rfl : _ ≤ 0) (Nat.le_of_ble_eq_true rfl : _ ≤ 0)
  obtain ⟨rfl, Nq1, e1⟩ := hQ1
  have N1 : Fr n0 L1 := by rw [l1]; exact Fr.app N0 Nq1
  refine own_go (fun zt zk => st1.trans zk) ?_
  show own_Go p e below s _ _ _ (T1.setTop (mkF m 4 #[rv a1, rv nm, rv tx, rv op, iv (0 : Int32)] []))
  refine own_go (fun zt zk => (XS.aloadN X1.here hx rfl (hb hby own_d9_4) rfl rfl (XS.aloadN X1.here hx rfl (hb hby own_d9_5) rfl rfl zk))) ?_
  show own_Go p e below s _ _ _ (T1.setTop (mkF m 6 #[rv a1, rv nm, rv tx, rv op, iv (0 : Int32)] [(.ref nm), (.ref a1)]))
  obtain ⟨T2, h2, X2, e2, W2, st2⟩ := putF X1 hx hZ hown (host := "") (Or.inl (hw _ (List.mem_of_getElem? (i := 51) rfl))) Via.refl e1 F_name Ex (Or.inr ⟨(hw _ (List.mem_of_getElem? (i := 52) rfl)), rfl, hnm⟩) (hw _ (List.mem_of_getElem? (i := 36) rfl)) (ty := (.object "java/lang/String")) (by decide) rfl rfl (g := (mkF m 6 #[rv a1, rv nm, rv tx, rv op, iv (0 : Int32)] [(.ref nm), (.ref a1)])) rfl rfl (hb hby own_d9_6)
  refine own_go st2 ?_
  have N2 := Fr.snoc X2 N1 g_a1
  replace Ex := Ex.wr W2
  replace F_text := F_text.other W2 (Or.inr (slot_ne (Or.inr (hw _ (List.mem_of_getElem? (i := 54) rfl))) (Or.inr (hw _ (List.mem_of_getElem? (i := 52) rfl))) (by decide) (t := (.object "java/lang/String")) (t' := (.object "java/lang/String")) (by decide) (by decide)))
  replace F_span := F_span.other W2 (Or.inr (slot_ne (Or.inr (hw _ (List.mem_of_getElem? (i := 56) rfl))) (Or.inr (hw _ (List.mem_of_getElem? (i := 52) rfl))) (by decide) (t := (.object "java/util/Optional")) (t' := (.object "java/lang/String")) (by decide) (by decide)))
  replace F_spanFirst := F_spanFirst.other W2 (Or.inr (slot_ne (Or.inr (hw _ (List.mem_of_getElem? (i := 58) rfl))) (Or.inr (hw _ (List.mem_of_getElem? (i := 52) rfl))) (by decide) (t := .boolean) (t' := (.object "java/lang/String")) (by decide) (by decide)))
  replace Kp := Kp.wr W2 (Or.inl (List.mem_of_getElem? (i := 0) rfl))
  replace F_name := F_name.same W2
  show own_Go p e below s _ _ _ (T2.setTop (mkF m 9 #[rv a1, rv nm, rv tx, rv op, iv (0 : Int32)] []))
  refine own_go (fun zt zk => (XS.aloadN X2.here hx rfl (hb hby own_d9_9) rfl rfl (XS.aloadN X2.here hx rfl (hb hby own_d9_10) rfl rfl zk))) ?_
  show own_Go p e below s _ _ _ (T2.setTop (mkF m 11 #[rv a1, rv nm, rv tx, rv op, iv (0 : Int32)] [(.ref tx), (.ref a1)]))
  obtain ⟨T3, h3, X3, e3, W3, st3⟩ := putF X2 hx hZ hown (host := "") (Or.inl (hw _ (List.mem_of_getElem? (i := 53) rfl))) Via.refl e2 F_text Ex (Or.inr ⟨(hw _ (List.mem_of_getElem? (i := 54) rfl)), rfl, hnm⟩) (hw _ (List.mem_of_getElem? (i := 36) rfl)) (ty := (.object "java/lang/String")) (by decide) rfl rfl (g := (mkF m 11 #[rv a1, rv nm, rv tx, rv op, iv (0 : Int32)] [(.ref tx), (.ref a1)])) rfl rfl (hb hby own_d9_11)
  refine own_go st3 ?_
  have N3 := Fr.snoc X3 N2 g_a1
  replace Ex := Ex.wr W3
  replace F_name := F_name.other W3 (Or.inr (slot_ne (Or.inr (hw _ (List.mem_of_getElem? (i := 52) rfl))) (Or.inr (hw _ (List.mem_of_getElem? (i := 54) rfl))) (by decide) (t := (.object "java/lang/String")) (t' := (.object "java/lang/String")) (by decide) (by decide)))
  replace F_span := F_span.other W3 (Or.inr (slot_ne (Or.inr (hw _ (List.mem_of_getElem? (i := 56) rfl))) (Or.inr (hw _ (List.mem_of_getElem? (i := 54) rfl))) (by decide) (t := (.object "java/util/Optional")) (t' := (.object "java/lang/String")) (by decide) (by decide)))
  replace F_spanFirst := F_spanFirst.other W3 (Or.inr (slot_ne (Or.inr (hw _ (List.mem_of_getElem? (i := 58) rfl))) (Or.inr (hw _ (List.mem_of_getElem? (i := 54) rfl))) (by decide) (t := .boolean) (t' := (.object "java/lang/String")) (by decide) (by decide)))
  replace Kp := Kp.wr W3 (Or.inl (List.mem_of_getElem? (i := 0) rfl))
  replace F_text := F_text.same W3
  show own_Go p e below s _ _ _ (T3.setTop (mkF m 14 #[rv a1, rv nm, rv tx, rv op, iv (0 : Int32)] []))
  refine own_go (fun zt zk => (XS.aloadN X3.here hx rfl (hb hby own_d9_14) rfl rfl (XS.aloadN X3.here hx rfl (hb hby own_d9_15) rfl rfl zk))) ?_
  show own_Go p e below s _ _ _ (T3.setTop (mkF m 16 #[rv a1, rv nm, rv tx, rv op, iv (0 : Int32)] [(.ref op), (.ref a1)]))
  obtain ⟨T4, h4, X4, e4, W4, st4⟩ := putF X3 hx hZ hown (host := "") (Or.inl (hw _ (List.mem_of_getElem? (i := 55) rfl))) Via.refl e3 F_span Ex (Or.inr ⟨(hw _ (List.mem_of_getElem? (i := 56) rfl)), rfl, hnm⟩) (hw _ (List.mem_of_getElem? (i := 36) rfl)) (ty := (.object "java/util/Optional")) (by decide) rfl rfl (g := (mkF m 16 #[rv a1, rv nm, rv tx, rv op, iv (0 : Int32)] [(.ref op), (.ref a1)])) rfl rfl (hb hby own_d9_16)
  refine own_go st4 ?_
  have N4 := Fr.snoc X4 N3 g_a1
  replace Ex := Ex.wr W4
  replace F_name := F_name.other W4 (Or.inr (slot_ne (Or.inr (hw _ (List.mem_of_getElem? (i := 52) rfl))) (Or.inr (hw _ (List.mem_of_getElem? (i := 56) rfl))) (by decide) (t := (.object "java/lang/String")) (t' := (.object "java/util/Optional")) (by decide) (by decide)))
  replace F_text := F_text.other W4 (Or.inr (slot_ne (Or.inr (hw _ (List.mem_of_getElem? (i := 54) rfl))) (Or.inr (hw _ (List.mem_of_getElem? (i := 56) rfl))) (by decide) (t := (.object "java/lang/String")) (t' := (.object "java/util/Optional")) (by decide) (by decide)))
  replace F_spanFirst := F_spanFirst.other W4 (Or.inr (slot_ne (Or.inr (hw _ (List.mem_of_getElem? (i := 58) rfl))) (Or.inr (hw _ (List.mem_of_getElem? (i := 56) rfl))) (by decide) (t := .boolean) (t' := (.object "java/util/Optional")) (by decide) (by decide)))
  replace Kp := Kp.wr W4 (Or.inl (List.mem_of_getElem? (i := 0) rfl))
  replace F_span := F_span.same W4
  show own_Go p e below s _ _ _ (T4.setTop (mkF m 19 #[rv a1, rv nm, rv tx, rv op, iv (0 : Int32)] []))
  refine own_go (fun zt zk => (XS.aloadN X4.here hx rfl (hb hby own_d9_19) rfl rfl (XS.iload X4.here hx rfl (hb hby own_d9_20) rfl zk))) ?_
  show own_Go p e below s _ _ _ (T4.setTop (mkF m 22 #[rv a1, rv nm, rv tx, rv op, iv (0 : Int32)] [(.int (0 : Int32)), (.ref a1)]))
  obtain ⟨T5, h5, X5, e5, W5, st5⟩ := putFN X4 hx hZ hown (hw _ (List.mem_of_getElem? (i := 57) rfl)) Via.refl e4 F_spanFirst Ex (Or.inr ⟨(hw _ (List.mem_of_getElem? (i := 58) rfl)), rfl, hnm⟩) (hw _ (List.mem_of_getElem? (i := 36) rfl)) (ty := .boolean) (v' := (.int (0 : Int32))) (by decide) rfl (by decide) (g := (mkF m 22 #[rv a1, rv nm, rv tx, rv op, iv (0 : Int32)] [(.int (0 : Int32)), (.ref a1)])) rfl rfl (hb hby own_d9_22)
  refine own_go st5 ?_
  have N5 := Fr.snoc X5 N4 g_a1
  replace Ex := Ex.wr W5
  replace F_name := F_name.other W5 (Or.inr (slot_ne (Or.inr (hw _ (List.mem_of_getElem? (i := 52) rfl))) (Or.inr (hw _ (List.mem_of_getElem? (i := 58) rfl))) (by decide) (t := (.object "java/lang/String")) (t' := .boolean) (by decide) (by decide)))
  replace F_text := F_text.other W5 (Or.inr (slot_ne (Or.inr (hw _ (List.mem_of_getElem? (i := 54) rfl))) (Or.inr (hw _ (List.mem_of_getElem? (i := 58) rfl))) (by decide) (t := (.object "java/lang/String")) (t' := .boolean) (by decide) (by decide)))
  replace F_span := F_span.other W5 (Or.inr (slot_ne (Or.inr (hw _ (List.mem_of_getElem? (i := 56) rfl))) (Or.inr (hw _ (List.mem_of_getElem? (i := 58) rfl))) (by decide) (t := (.object "java/util/Optional")) (t' := .boolean) (by decide) (by decide)))
  replace Kp := Kp.wr W5 (Or.inl (List.mem_of_getElem? (i := 0) rfl))
  replace F_spanFirst := F_spanFirst.same W5
  show own_Go p e below s _ _ _ (T5.setTop (mkF m 25 #[rv a1, rv nm, rv tx, rv op, iv (0 : Int32)] []))
  exact own_fin X5 Bd.notSynchronized (fun _ => rfl) (fun fs hr => X5.returnOut hx Bd.returns (hb hby own_d9_25) hr) (by rw [e5]; exact ⟨rfl, N5, Kp, Ex, F_name, F_text, F_span, F_spanFirst⟩) (by decide) (by decide)
theorem own_ef_own_rfld1 (m : MethodId) (a1 : Addr) (nm : Addr) (tx : Addr) (op : Addr) : entryFrame m #[(.ref a1), (.ref nm), (.ref tx), (.ref op), (.int (1 : Int32))] 5 = mkF m 0 #[rv a1, rv nm, rv tx, rv op, iv (1 : Int32)] [] := by first | (simp [entryFrame, mkF, argsToLocals, Value.category]; done) | rfl
def own_Q_own_rfld1 (Z : State) (a1 : Addr) (nm : Addr) (tx : Addr) (op : Addr) (h0 : Heap) (n0 : Nat) (v : Option Value) (h : Heap) (L : List Loc) : Prop := v = none ∧ Fr n0 L ∧ Keep h0 h [a1] ∧ Exa Z h a1 "com/example/tranche/tranche/model/Row$Field" ∧ Fld Z h a1 "com/example/tranche/tranche/model/Row$Field" "name" "Ljava/lang/String;" (.ref nm) ∧ Fld Z h a1 "com/example/tranche/tranche/model/Row$Field" "text" "Ljava/lang/String;" (.ref tx) ∧ Fld Z h a1 "com/example/tranche/tranche/model/Row$Field" "span" "Ljava/util/Optional;" (.ref op) ∧ Fld Z h a1 "com/example/tranche/tranche/model/Row$Field" "spanFirst" "Z" (.int (1 : Int32))
set_option maxRecDepth 65536 in
set_option maxHeartbeats 40000000 in
theorem own_rfld1 (l : Launch) (Z : State) (a0 : Array Value) (hw : ∀ d ∈ tables_1, d.before a0 Z = true) (ws : List Jvm.Cond) (a1 : Addr) (nm : Addr) (tx : Addr) (op : Addr) (h0 : Heap) (n0 : Nat) (Z0 : n0 ≤ h0.size) (Ex : Exa Z h0 a1 "com/example/tranche/tranche/model/Row$Field") (F_name : Fld Z h0 a1 "com/example/tranche/tranche/model/Row$Field" "name" "Ljava/lang/String;" .null) (F_text : Fld Z h0 a1 "com/example/tranche/tranche/model/Row$Field" "text" "Ljava/lang/String;" .null) (F_span : Fld Z h0 a1 "com/example/tranche/tranche/model/Row$Field" "span" "Ljava/util/Optional;" .null) (F_spanFirst : Fld Z h0 a1 "com/example/tranche/tranche/model/Row$Field" "spanFirst" "Z" (.int (0 : Int32))) (g_a1 : n0 ≤ a1)  :
    MetFree l (⟨"com/example/tranche/tranche/model/Row$Field", "<init>", "(Ljava/lang/String;Ljava/lang/String;Ljava/util/Optional;Z)V"⟩ : MethodName) (head1 (Jvm.Cond.code (⟨"com/example/tranche/tranche/model/Row$Field", "<init>", "(Ljava/lang/String;Ljava/lang/String;Ljava/util/Optional;Z)V"⟩ : MethodName) prog_34_method_1_code 5 none :: ws) ({ frames := 2, cells := 0, slots := 0, locals := 24 } : Room)) (fun a U => a = #[(.ref a1), (.ref nm), (.ref tx), (.ref op), (.int (1 : Int32))] ∧ Z.Warmed39 U.vm ∧ U.heap = h0) (fun _ _ _ _ _ => True) (fun _ U o U' => ∃ v L, o = .returned v ∧ own_Q_own_rfld1 Z a1 nm tx op h0 n0 v U'.heap L ∧ FrameEnd U o U' L ({ frames := 2, cells := 0, slots := 0, locals := 24 } : Room).cells ({ frames := 2, cells := 0, slots := 0, locals := 24 } : Room).slots) := by
  refine MetFree.of_bodySF (plainFor_of_name own_pn_com_example_tranche_tranche_model_Row_Field) hisR ?_
  intro p e s m args below meth c s₁ Bd hml0 hP hK
  obtain ⟨rfl, hZ, hh⟩ := hP
  have hx := Bd.exec
  have hby := Bd.bytes
  have hml : c.maxLocals = 5 := hml0
  have hown : s.vm.findClass "com/example/tranche/tranche/model/Row$Field" = some m.cls := findClass_of_methodNamed Bd.named
  have hnm := (name_of_methodNamed Bd.named Bd.method).1
  have X0 : Stand p l e ({ frames := 2, cells := 0, slots := 0, locals := 24 } : Room) s m #[(.ref a1), (.ref nm), (.ref tx), (.ref op), (.int (1 : Int32))] below meth c s₁ [] 0 0 := Stand.of_body Bd
  have e0 : s₁.heap = h0 := by rw [← hh, Bd.state]; rfl
  have N0 := Fr.nil n0
  have Kp : Keep h0 h0 [a1] := Keep.refl h0 _
  show own_Go p e below s (own_Q_own_rfld1 Z a1 nm tx op h0 n0) ({ frames := 2, cells := 0, slots := 0, locals := 24 } : Room).cells ({ frames := 2, cells := 0, slots := 0, locals := 24 } : Room).slots (s₁.setTop (entryFrame m #[(.ref a1), (.ref nm), (.ref tx), (.ref op), (.int (1 : Int32))] 5))
  refine own_go (fun zt zk => castTop (own_ef_own_rfld1 m a1 nm tx op) zk) ?_
  show own_Go p e below s _ _ _ (s₁.setTop (mkF m 0 #[rv a1, rv nm, rv tx, rv op, iv (1 : Int32)] []))
  refine own_go (fun zt zk => (XS.aloadN X0.here hx rfl (hb hby own_d9_0) rfl rfl zk)) ?_
  show own_Go p e below s _ _ _ (s₁.setTop (mkF m 1 #[rv a1, rv nm, rv tx, rv op, iv (1 : Int32)] [(.ref a1)]))
  obtain ⟨_, _, ⟨T1, L1, k1, n1⟩, -, X1, ⟨Lc1, hQ1, l1, y1, z1⟩, st1⟩ := X0.specialBack hx (y := (⟨"java/lang/Record", "<init>", "()V"⟩ : MethodName)) rfl hown (mvT hZ (hw _ (List.mem_of_getElem? (i := 45) rfl))) (mvT hZ (hw _ (List.mem_of_getElem? (i := 46) rfl))) (mvT hZ (hw _ (List.mem_of_getElem? (i := 49) rfl))) (by decide) (backOf (W := 0) (own_rrec l Z a0 hw [] a1  h0 n0 Z0 ) hZ (hw _ (List.mem_of_getElem? (i := 49) rfl)) (hw _ (List.mem_of_getElem? (i := 48) rfl)) (by decide) (by decide)) (g := (mkF m 1 #[rv a1, rv nm, rv tx, rv op, iv (1 : Int32)] [(.ref a1)])) rfl (by rw [hml]; rfl) (Steps.refl _) (a := a1) (argsL := []) (rest := []) (lenOf own_pd___V rfl) rfl (by show 2 * 0 + _ ≤ _; exact Nat.le_of_eq rfl) (hb hby own_d9_1) (fun _ _ => ⟨rfl, e0, (by decide : 0 + 0 ≤ _), (by decide : 0 + 0 ≤ _)⟩)
  dsimp only [Pt.U, Pt.locs, Pt.cells, Pt.slots] at X1 l1 y1 z1 st1 hQ1
  subst y1 z1
  replace X1 := X1.mono (Nat.le_of_ble_eq_true rfl : _ ≤ 0) (Nat.le_of_ble_eq_true rfl : _ ≤ 0)
  obtain ⟨rfl, Nq1, e1⟩ := hQ1
  have N1 : Fr n0 L1 := by rw [l1]; exact Fr.app N0 Nq1
  refine own_go (fun zt zk => st1.trans zk) ?_
  show own_Go p e below s _ _ _ (T1.setTop (mkF m 4 #[rv a1, rv nm, rv tx, rv op, iv (1 : Int32)] []))
  refine own_go (fun zt zk => (XS.aloadN X1.here hx rfl (hb hby own_d9_4) rfl rfl (XS.aloadN X1.here hx rfl (hb hby own_d9_5) rfl rfl zk))) ?_
  show own_Go p e below s _ _ _ (T1.setTop (mkF m 6 #[rv a1, rv nm, rv tx, rv op, iv (1 : Int32)] [(.ref nm), (.ref a1)]))
  obtain ⟨T2, h2, X2, e2, W2, st2⟩ := putF X1 hx hZ hown (host := "") (Or.inl (hw _ (List.mem_of_getElem? (i := 51) rfl))) Via.refl e1 F_name Ex (Or.inr ⟨(hw _ (List.mem_of_getElem? (i := 52) rfl)), rfl, hnm⟩) (hw _ (List.mem_of_getElem? (i := 36) rfl)) (ty := (.object "java/lang/String")) (by decide) rfl rfl (g := (mkF m 6 #[rv a1, rv nm, rv tx, rv op, iv (1 : Int32)] [(.ref nm), (.ref a1)])) rfl rfl (hb hby own_d9_6)
  refine own_go st2 ?_
  have N2 := Fr.snoc X2 N1 g_a1
  replace Ex := Ex.wr W2
  replace F_text := F_text.other W2 (Or.inr (slot_ne (Or.inr (hw _ (List.mem_of_getElem? (i := 54) rfl))) (Or.inr (hw _ (List.mem_of_getElem? (i := 52) rfl))) (by decide) (t := (.object "java/lang/String")) (t' := (.object "java/lang/String")) (by decide) (by decide)))
  replace F_span := F_span.other W2 (Or.inr (slot_ne (Or.inr (hw _ (List.mem_of_getElem? (i := 56) rfl))) (Or.inr (hw _ (List.mem_of_getElem? (i := 52) rfl))) (by decide) (t := (.object "java/util/Optional")) (t' := (.object "java/lang/String")) (by decide) (by decide)))
  replace F_spanFirst := F_spanFirst.other W2 (Or.inr (slot_ne (Or.inr (hw _ (List.mem_of_getElem? (i := 58) rfl))) (Or.inr (hw _ (List.mem_of_getElem? (i := 52) rfl))) (by decide) (t := .boolean) (t' := (.object "java/lang/String")) (by decide) (by decide)))
  replace Kp := Kp.wr W2 (Or.inl (List.mem_of_getElem? (i := 0) rfl))
  replace F_name := F_name.same W2
  show own_Go p e below s _ _ _ (T2.setTop (mkF m 9 #[rv a1, rv nm, rv tx, rv op, iv (1 : Int32)] []))
  refine own_go (fun zt zk => (XS.aloadN X2.here hx rfl (hb hby own_d9_9) rfl rfl (XS.aloadN X2.here hx rfl (hb hby own_d9_10) rfl rfl zk))) ?_
  show own_Go p e below s _ _ _ (T2.setTop (mkF m 11 #[rv a1, rv nm, rv tx, rv op, iv (1 : Int32)] [(.ref tx), (.ref a1)]))
  obtain ⟨T3, h3, X3, e3, W3, st3⟩ := putF X2 hx hZ hown (host := "") (Or.inl (hw _ (List.mem_of_getElem? (i := 53) rfl))) Via.refl e2 F_text Ex (Or.inr ⟨(hw _ (List.mem_of_getElem? (i := 54) rfl)), rfl, hnm⟩) (hw _ (List.mem_of_getElem? (i := 36) rfl)) (ty := (.object "java/lang/String")) (by decide) rfl rfl (g := (mkF m 11 #[rv a1, rv nm, rv tx, rv op, iv (1 : Int32)] [(.ref tx), (.ref a1)])) rfl rfl (hb hby own_d9_11)
  refine own_go st3 ?_
  have N3 := Fr.snoc X3 N2 g_a1
  replace Ex := Ex.wr W3
  replace F_name := F_name.other W3 (Or.inr (slot_ne (Or.inr (hw _ (List.mem_of_getElem? (i := 52) rfl))) (Or.inr (hw _ (List.mem_of_getElem? (i := 54) rfl))) (by decide) (t := (.object "java/lang/String")) (t' := (.object "java/lang/String")) (by decide) (by decide)))
  replace F_span := F_span.other W3 (Or.inr (slot_ne (Or.inr (hw _ (List.mem_of_getElem? (i := 56) rfl))) (Or.inr (hw _ (List.mem_of_getElem? (i := 54) rfl))) (by decide) (t := (.object "java/util/Optional")) (t' := (.object "java/lang/String")) (by decide) (by decide)))
  replace F_spanFirst := F_spanFirst.other W3 (Or.inr (slot_ne (Or.inr (hw _ (List.mem_of_getElem? (i := 58) rfl))) (Or.inr (hw _ (List.mem_of_getElem? (i := 54) rfl))) (by decide) (t := .boolean) (t' := (.object "java/lang/String")) (by decide) (by decide)))
  replace Kp := Kp.wr W3 (Or.inl (List.mem_of_getElem? (i := 0) rfl))
  replace F_text := F_text.same W3
  show own_Go p e below s _ _ _ (T3.setTop (mkF m 14 #[rv a1, rv nm, rv tx, rv op, iv (1 : Int32)] []))
  refine own_go (fun zt zk => (XS.aloadN X3.here hx rfl (hb hby own_d9_14) rfl rfl (XS.aloadN X3.here hx rfl (hb hby own_d9_15) rfl rfl zk))) ?_
  show own_Go p e below s _ _ _ (T3.setTop (mkF m 16 #[rv a1, rv nm, rv tx, rv op, iv (1 : Int32)] [(.ref op), (.ref a1)]))
  obtain ⟨T4, h4, X4, e4, W4, st4⟩ := putF X3 hx hZ hown (host := "") (Or.inl (hw _ (List.mem_of_getElem? (i := 55) rfl))) Via.refl e3 F_span Ex (Or.inr ⟨(hw _ (List.mem_of_getElem? (i := 56) rfl)), rfl, hnm⟩) (hw _ (List.mem_of_getElem? (i := 36) rfl)) (ty := (.object "java/util/Optional")) (by decide) rfl rfl (g := (mkF m 16 #[rv a1, rv nm, rv tx, rv op, iv (1 : Int32)] [(.ref op), (.ref a1)])) rfl rfl (hb hby own_d9_16)
  refine own_go st4 ?_
  have N4 := Fr.snoc X4 N3 g_a1
  replace Ex := Ex.wr W4
  replace F_name := F_name.other W4 (Or.inr (slot_ne (Or.inr (hw _ (List.mem_of_getElem? (i := 52) rfl))) (Or.inr (hw _ (List.mem_of_getElem? (i := 56) rfl))) (by decide) (t := (.object "java/lang/String")) (t' := (.object "java/util/Optional")) (by decide) (by decide)))
  replace F_text := F_text.other W4 (Or.inr (slot_ne (Or.inr (hw _ (List.mem_of_getElem? (i := 54) rfl))) (Or.inr (hw _ (List.mem_of_getElem? (i := 56) rfl))) (by decide) (t := (.object "java/lang/String")) (t' := (.object "java/util/Optional")) (by decide) (by decide)))
  replace F_spanFirst := F_spanFirst.other W4 (Or.inr (slot_ne (Or.inr (hw _ (List.mem_of_getElem? (i := 58) rfl))) (Or.inr (hw _ (List.mem_of_getElem? (i := 56) rfl))) (by decide) (t := .boolean) (t' := (.object "java/util/Optional")) (by decide) (by decide)))
  replace Kp := Kp.wr W4 (Or.inl (List.mem_of_getElem? (i := 0) rfl))
  replace F_span := F_span.same W4
  show own_Go p e below s _ _ _ (T4.setTop (mkF m 19 #[rv a1, rv nm, rv tx, rv op, iv (1 : Int32)] []))
  refine own_go (fun zt zk => (XS.aloadN X4.here hx rfl (hb hby own_d9_19) rfl rfl (XS.iload X4.here hx rfl (hb hby own_d9_20) rfl zk))) ?_
  show own_Go p e below s _ _ _ (T4.setTop (mkF m 22 #[rv a1, rv nm, rv tx, rv op, iv (1 : Int32)] [(.int (1 : Int32)), (.ref a1)]))
  obtain ⟨T5, h5, X5, e5, W5, st5⟩ := putFN X4 hx hZ hown (hw _ (List.mem_of_getElem? (i := 57) rfl)) Via.refl e4 F_spanFirst Ex (Or.inr ⟨(hw _ (List.mem_of_getElem? (i := 58) rfl)), rfl, hnm⟩) (hw _ (List.mem_of_getElem? (i := 36) rfl)) (ty := .boolean) (v' := (.int (1 : Int32))) (by decide) rfl (by decide) (g := (mkF m 22 #[rv a1, rv nm, rv tx, rv op, iv (1 : Int32)] [(.int (1 : Int32)), (.ref a1)])) rfl rfl (hb hby own_d9_22)
  refine own_go st5 ?_
  have N5 := Fr.snoc X5 N4 g_a1
  replace Ex := Ex.wr W5
  replace F_name := F_name.other W5 (Or.inr (slot_ne (Or.inr (hw _ (List.mem_of_getElem? (i := 52) rfl))) (Or.inr (hw _ (List.mem_of_getElem? (i := 58) rfl))) (by decide) (t := (.object "java/lang/String")) (t' := .boolean) (by decide) (by decide)))
  replace F_text := F_text.other W5 (Or.inr (slot_ne (Or.inr (hw _ (List.mem_of_getElem? (i := 54) rfl))) (Or.inr (hw _ (List.mem_of_getElem? (i := 58) rfl))) (by decide) (t := (.object "java/lang/String")) (t' := .boolean) (by decide) (by decide)))
  replace F_span := F_span.other W5 (Or.inr (slot_ne (Or.inr (hw _ (List.mem_of_getElem? (i := 56) rfl))) (Or.inr (hw _ (List.mem_of_getElem? (i := 58) rfl))) (by decide) (t := (.object "java/util/Optional")) (t' := .boolean) (by decide) (by decide)))
  replace Kp := Kp.wr W5 (Or.inl (List.mem_of_getElem? (i := 0) rfl))
  replace F_spanFirst := F_spanFirst.same W5
  show own_Go p e below s _ _ _ (T5.setTop (mkF m 25 #[rv a1, rv nm, rv tx, rv op, iv (1 : Int32)] []))
  exact own_fin X5 Bd.notSynchronized (fun _ => rfl) (fun fs hr => X5.returnOut hx Bd.returns (hb hby own_d9_25) hr) (by rw [e5]; exact ⟨rfl, N5, Kp, Ex, F_name, F_text, F_span, F_spanFirst⟩) (by decide) (by decide)
theorem own_d23_0 : decode jdk_32_method_2_code 0 = .ok (.aload_n 0, 1) := by decide +kernel
theorem own_d23_1 : decode jdk_32_method_2_code 1 = .ok (.invokespecial 7, 3) := by decide +kernel
theorem own_d23_4 : decode jdk_32_method_2_code 4 = .ok (.aload_n 0, 1) := by decide +kernel
theorem own_d23_5 : decode jdk_32_method_2_code 5 = .ok (.aload_n 1, 1) := by decide +kernel
theorem own_d23_6 : decode jdk_32_method_2_code 6 = .ok (.putfield 13, 3) := by decide +kernel
theorem own_d23_9 : decode jdk_32_method_2_code 9 = .ok (.return_, 1) := by decide +kernel
theorem own_pn_java_util_Optional : plainName "java/util/Optional" = true := by first | (simp [plainName, overriddenIn]; done) | decide +kernel
theorem own_ef_own_ropt (m : MethodId) (a1 : Addr) (x : Addr) : entryFrame m #[(.ref a1), (.ref x)] 2 = mkF m 0 #[rv a1, rv x] [] := by first | (simp [entryFrame, mkF, argsToLocals, Value.category]; done) | rfl
def own_Q_own_ropt (Z : State) (a1 : Addr) (x : Addr) (h0 : Heap) (n0 : Nat) (v : Option Value) (h : Heap) (L : List Loc) : Prop := v = none ∧ Fr n0 L ∧ Keep h0 h [a1] ∧ Exa Z h a1 "java/util/Optional" ∧ Fld Z h a1 "java/util/Optional" "value" "Ljava/lang/Object;" (.ref x)
set_option maxRecDepth 65536 in
set_option maxHeartbeats 40000000 in
theorem own_ropt (l : Launch) (Z : State) (a0 : Array Value) (hw : ∀ d ∈ tables_1, d.before a0 Z = true) (ws : List Jvm.Cond) (a1 : Addr) (x : Addr) (h0 : Heap) (n0 : Nat) (Z0 : n0 ≤ h0.size) (Ex : Exa Z h0 a1 "java/util/Optional") (F_value : Fld Z h0 a1 "java/util/Optional" "value" "Ljava/lang/Object;" .null) (g_a1 : n0 ≤ a1)  :
    MetFree l (⟨"java/util/Optional", "<init>", "(Ljava/lang/Object;)V"⟩ : MethodName) (head1 (Jvm.Cond.code (⟨"java/util/Optional", "<init>", "(Ljava/lang/Object;)V"⟩ : MethodName) jdk_32_method_2_code 2 none :: ws) ({ frames := 1, cells := 0, slots := 0, locals := 12 } : Room)) (fun a U => a = #[(.ref a1), (.ref x)] ∧ Z.Warmed39 U.vm ∧ U.heap = h0) (fun _ _ _ _ _ => True) (fun _ U o U' => ∃ v L, o = .returned v ∧ own_Q_own_ropt Z a1 x h0 n0 v U'.heap L ∧ FrameEnd U o U' L ({ frames := 1, cells := 0, slots := 0, locals := 12 } : Room).cells ({ frames := 1, cells := 0, slots := 0, locals := 12 } : Room).slots) := by
  refine MetFree.of_bodySF (plainFor_of_name own_pn_java_util_Optional) hisR ?_
  intro p e s m args below meth c s₁ Bd hml0 hP hK
  obtain ⟨rfl, hZ, hh⟩ := hP
  have hx := Bd.exec
  have hby := Bd.bytes
  have hml : c.maxLocals = 2 := hml0
  have hown : s.vm.findClass "java/util/Optional" = some m.cls := findClass_of_methodNamed Bd.named
  have hnm := (name_of_methodNamed Bd.named Bd.method).1
  have X0 : Stand p l e ({ frames := 1, cells := 0, slots := 0, locals := 12 } : Room) s m #[(.ref a1), (.ref x)] below meth c s₁ [] 0 0 := Stand.of_body Bd
  have e0 : s₁.heap = h0 := by rw [← hh, Bd.state]; rfl
  have N0 := Fr.nil n0
  have Kp : Keep h0 h0 [a1] := Keep.refl h0 _
  show own_Go p e below s (own_Q_own_ropt Z a1 x h0 n0) ({ frames := 1, cells := 0, slots := 0, locals := 12 } : Room).cells ({ frames := 1, cells := 0, slots := 0, locals := 12 } : Room).slots (s₁.setTop (entryFrame m #[(.ref a1), (.ref x)] 2))
  refine own_go (fun zt zk => castTop (own_ef_own_ropt m a1 x) zk) ?_
  show own_Go p e below s _ _ _ (s₁.setTop (mkF m 0 #[rv a1, rv x] []))
  refine own_go (fun zt zk => (XS.aloadN X0.here hx rfl (hb hby own_d23_0) rfl rfl zk)) ?_
  show own_Go p e below s _ _ _ (s₁.setTop (mkF m 1 #[rv a1, rv x] [(.ref a1)]))
  obtain ⟨T1, X1, e1, st1⟩ := initO X0 hx hZ hown (hw _ (List.mem_of_getElem? (i := 125) rfl)) (hw _ (List.mem_of_getElem? (i := 12) rfl)) (hw _ (List.mem_of_getElem? (i := 13) rfl)) e0 (g := (mkF m 1 #[rv a1, rv x] [(.ref a1)])) rfl (by rw [hml]; rfl) rfl (hb hby own_d23_1) (by decide) (W := 0) (by show 2 * 0 + _ ≤ _; exact Nat.le_of_eq rfl) (by decide)
  refine own_go st1 ?_
  show own_Go p e below s _ _ _ (T1.setTop (mkF m 4 #[rv a1, rv x] []))
  refine own_go (fun zt zk => (XS.aloadN X1.here hx rfl (hb hby own_d23_4) rfl rfl (XS.aloadN X1.here hx rfl (hb hby own_d23_5) rfl rfl zk))) ?_
  show own_Go p e below s _ _ _ (T1.setTop (mkF m 6 #[rv a1, rv x] [(.ref x), (.ref a1)]))
  obtain ⟨T2, h2, X2, e2, W2, st2⟩ := putF X1 hx hZ hown (host := "") (Or.inl (hw _ (List.mem_of_getElem? (i := 126) rfl))) Via.refl e1 F_value Ex (Or.inr ⟨(hw _ (List.mem_of_getElem? (i := 127) rfl)), rfl, hnm⟩) (hw _ (List.mem_of_getElem? (i := 116) rfl)) (ty := (.object "java/lang/Object")) (by decide) rfl rfl (g := (mkF m 6 #[rv a1, rv x] [(.ref x), (.ref a1)])) rfl rfl (hb hby own_d23_6)
  refine own_go st2 ?_
  have N2 := Fr.snoc X2 N0 g_a1
  replace Ex := Ex.wr W2
  replace Kp := Kp.wr W2 (Or.inl (List.mem_of_getElem? (i := 0) rfl))
  replace F_value := F_value.same W2
  show own_Go p e below s _ _ _ (T2.setTop (mkF m 9 #[rv a1, rv x] []))
  exact own_fin X2 Bd.notSynchronized (fun _ => rfl) (fun fs hr => X2.returnOut hx Bd.returns (hb hby own_d23_9) hr) (by rw [e2]; exact ⟨rfl, N2, Kp, Ex, F_value⟩) (by decide) (by decide)
theorem own_d8_0 : decode jdk_32_method_1_code 0 = .ok (.getstatic 1, 3) := by decide +kernel
theorem own_d8_3 : decode jdk_32_method_1_code 3 = .ok (.astore_n 0, 1) := by decide +kernel
theorem own_d8_4 : decode jdk_32_method_1_code 4 = .ok (.aload_n 0, 1) := by decide +kernel
theorem own_d8_5 : decode jdk_32_method_1_code 5 = .ok (.areturn, 1) := by decide +kernel
theorem own_ef_own_remp (m : MethodId)  : entryFrame m #[] 1 = mkF m 0 #[.unset] [] := by first | (simp [entryFrame, mkF, argsToLocals, Value.category]; done) | rfl
def own_Q_own_remp (Z : State) (o_EMPTY : Addr) (h0 : Heap) (n0 : Nat) (v : Option Value) (h : Heap) (L : List Loc) : Prop := v = some (.ref o_EMPTY) ∧ Fr n0 L ∧ h = h0
set_option maxRecDepth 65536 in
set_option maxHeartbeats 40000000 in
theorem own_remp (l : Launch) (Z : State) (a0 : Array Value) (hw : ∀ d ∈ tables_1, d.before a0 Z = true) (ws : List Jvm.Cond) (o_EMPTY : Addr) (h0 : Heap) (n0 : Nat) (Z0 : n0 ≤ h0.size) (O : Old Z n0 h0) (S_o_EMPTY : Sta Z Z.heap "java/util/Optional" "EMPTY" "Ljava/util/Optional;" (.ref o_EMPTY))  :
    MetFree l (⟨"java/util/Optional", "empty", "()Ljava/util/Optional;"⟩ : MethodName) (head1 (Jvm.Cond.code (⟨"java/util/Optional", "empty", "()Ljava/util/Optional;"⟩ : MethodName) jdk_32_method_1_code 1 (some (.object "java/util/Optional")) :: ws) ({ frames := 0, cells := 0, slots := 0, locals := 0 } : Room)) (fun a U => a = #[] ∧ Z.Warmed39 U.vm ∧ U.heap = h0) (fun _ _ _ _ _ => True) (fun _ U o U' => ∃ v L, o = .returned v ∧ own_Q_own_remp Z o_EMPTY h0 n0 v U'.heap L ∧ FrameEnd U o U' L ({ frames := 0, cells := 0, slots := 0, locals := 0 } : Room).cells ({ frames := 0, cells := 0, slots := 0, locals := 0 } : Room).slots) := by
  refine MetFree.of_bodySF (plainFor_of_name own_pn_java_util_Optional) hisR ?_
  intro p e s m args below meth c s₁ Bd hml0 hP hK
  obtain ⟨rfl, hZ, hh⟩ := hP
  have hx := Bd.exec
  have hby := Bd.bytes
  have hml : c.maxLocals = 1 := hml0
  have hown : s.vm.findClass "java/util/Optional" = some m.cls := findClass_of_methodNamed Bd.named
  have hnm := (name_of_methodNamed Bd.named Bd.method).1
  have X0 : Stand p l e ({ frames := 0, cells := 0, slots := 0, locals := 0 } : Room) s m #[] below meth c s₁ [] 0 0 := Stand.of_body Bd
  have e0 : s₁.heap = h0 := by rw [← hh, Bd.state]; rfl
  have N0 := Fr.nil n0
  show own_Go p e below s (own_Q_own_remp Z o_EMPTY h0 n0) ({ frames := 0, cells := 0, slots := 0, locals := 0 } : Room).cells ({ frames := 0, cells := 0, slots := 0, locals := 0 } : Room).slots (s₁.setTop (entryFrame m #[] 1))
  refine own_go (fun zt zk => castTop (own_ef_own_remp m) zk) ?_
  show own_Go p e below s _ _ _ (s₁.setTop (mkF m 0 #[.unset] []))
  obtain ⟨T1, X1, e1, st1⟩ := getS2 X0 hx hZ hown (host := "") (Or.inl (hw _ (List.mem_of_getElem? (i := 41) rfl))) Via.refl e0 (S_o_EMPTY.ext O.2) (g := (mkF m 0 #[.unset] [])) rfl (hb hby own_d8_0)
  refine own_go st1 ?_
  show own_Go p e below s _ _ _ (T1.setTop (mkF m 3 #[.unset] [(.ref o_EMPTY)]))
  refine own_go (fun zt zk => (XS.astoreN X1.here hx rfl (hb hby own_d8_3) rfl rfl (l' := #[rv o_EMPTY]) rfl (XS.aloadN X1.here hx rfl (hb hby own_d8_4) rfl rfl zk))) ?_
  show own_Go p e below s _ _ _ (T1.setTop (mkF m 5 #[rv o_EMPTY] [(.ref o_EMPTY)]))
  exact own_fin X1 Bd.notSynchronized (fun h => by rw [Bd.returns] at h; cases h) (fun fs hr => retOut X1 hx (t := (.object "java/util/Optional")) (w := (.ref o_EMPTY)) Bd.returns rfl (Or.inr (Or.inr (Or.inr (Or.inr ⟨rfl, rfl, rfl⟩)))) (hb hby own_d8_5) hr) (by rw [e1]; exact ⟨rfl, N0, rfl⟩) (by decide) (by decide)
theorem own_d22_0 : decode jdk_31_method_10_code 0 = .ok (.aload_n 0, 1) := by decide +kernel
theorem own_d22_1 : decode jdk_31_method_10_code 1 = .ok (.ifnonnull 11, 3) := by decide +kernel
theorem own_d22_12 : decode jdk_31_method_10_code 12 = .ok (.aload_n 0, 1) := by decide +kernel
theorem own_d22_13 : decode jdk_31_method_10_code 13 = .ok (.areturn, 1) := by decide +kernel
theorem own_pn_java_util_Objects : plainName "java/util/Objects" = true := by first | (simp [plainName, overriddenIn]; done) | decide +kernel
theorem own_ef_own_rrnn (m : MethodId) (a1 : Addr) : entryFrame m #[(.ref a1)] 1 = mkF m 0 #[rv a1] [] := by first | (simp [entryFrame, mkF, argsToLocals, Value.category]; done) | rfl
def own_Q_own_rrnn (Z : State) (a1 : Addr) (h0 : Heap) (n0 : Nat) (v : Option Value) (h : Heap) (L : List Loc) : Prop := v = some (.ref a1) ∧ Fr n0 L ∧ h = h0
set_option maxRecDepth 65536 in
set_option maxHeartbeats 40000000 in
theorem own_rrnn (l : Launch) (Z : State) (a0 : Array Value) (hw : ∀ d ∈ tables_1, d.before a0 Z = true) (ws : List Jvm.Cond) (a1 : Addr) (h0 : Heap) (n0 : Nat) (Z0 : n0 ≤ h0.size)   :
    MetFree l (⟨"java/util/Objects", "requireNonNull", "(Ljava/lang/Object;)Ljava/lang/Object;"⟩ : MethodName) (head1 (Jvm.Cond.code (⟨"java/util/Objects", "requireNonNull", "(Ljava/lang/Object;)Ljava/lang/Object;"⟩ : MethodName) jdk_31_method_10_code 1 (some (.object "java/lang/Object")) :: ws) ({ frames := 0, cells := 0, slots := 0, locals := 0 } : Room)) (fun a U => a = #[(.ref a1)] ∧ Z.Warmed39 U.vm ∧ U.heap = h0) (fun _ _ _ _ _ => True) (fun _ U o U' => ∃ v L, o = .returned v ∧ own_Q_own_rrnn Z a1 h0 n0 v U'.heap L ∧ FrameEnd U o U' L ({ frames := 0, cells := 0, slots := 0, locals := 0 } : Room).cells ({ frames := 0, cells := 0, slots := 0, locals := 0 } : Room).slots) := by
  refine MetFree.of_bodySF (plainFor_of_name own_pn_java_util_Objects) hisR ?_
  intro p e s m args below meth c s₁ Bd hml0 hP hK
  obtain ⟨rfl, hZ, hh⟩ := hP
  have hx := Bd.exec
  have hby := Bd.bytes
  have hml : c.maxLocals = 1 := hml0
  have hown : s.vm.findClass "java/util/Objects" = some m.cls := findClass_of_methodNamed Bd.named
  have hnm := (name_of_methodNamed Bd.named Bd.method).1
  have X0 : Stand p l e ({ frames := 0, cells := 0, slots := 0, locals := 0 } : Room) s m #[(.ref a1)] below meth c s₁ [] 0 0 := Stand.of_body Bd
  have e0 : s₁.heap = h0 := by rw [← hh, Bd.state]; rfl
  have N0 := Fr.nil n0
  show own_Go p e below s (own_Q_own_rrnn Z a1 h0 n0) ({ frames := 0, cells := 0, slots := 0, locals := 0 } : Room).cells ({ frames := 0, cells := 0, slots := 0, locals := 0 } : Room).slots (s₁.setTop (entryFrame m #[(.ref a1)] 1))
  refine own_go (fun zt zk => castTop (own_ef_own_rrnn m a1) zk) ?_
  show own_Go p e below s _ _ _ (s₁.setTop (mkF m 0 #[rv a1] []))
  refine own_go (fun zt zk => (XS.aloadN X0.here hx rfl (hb hby own_d22_0) rfl rfl (XS.ifnonnullYes X0.here hx rfl (pc0 := 1) (pc' := 12) rfl (hb hby own_d22_1) rfl (by decide) (by decide) (XS.aloadN X0.here hx rfl (hb hby own_d22_12) rfl rfl zk)))) ?_
  show own_Go p e below s _ _ _ (s₁.setTop (mkF m 13 #[rv a1] [(.ref a1)]))
  exact own_fin X0 Bd.notSynchronized (fun h => by rw [Bd.returns] at h; cases h) (fun fs hr => retOut X0 hx (t := (.object "java/lang/Object")) (w := (.ref a1)) Bd.returns rfl (Or.inr (Or.inr (Or.inr (Or.inr ⟨rfl, rfl, rfl⟩)))) (hb hby own_d22_13) hr) (by rw [e0]; exact ⟨rfl, N0, rfl⟩) (by decide) (by decide)
theorem own_d21_0 : decode jdk_32_method_3_code 0 = .ok (.new 2, 3) := by decide +kernel
theorem own_d21_3 : decode jdk_32_method_3_code 3 = .ok (.dup, 1) := by decide +kernel
theorem own_d21_4 : decode jdk_32_method_3_code 4 = .ok (.aload_n 0, 1) := by decide +kernel
theorem own_d21_5 : decode jdk_32_method_3_code 5 = .ok (.invokestatic 17, 3) := by decide +kernel
theorem own_pd__Ljava_lang_Object__Ljava_lang_Object_ : parseMethodDescriptor "(Ljava/lang/Object;)Ljava/lang/Object;" = some ⟨[(.object "java/lang/Object")], some (.object "java/lang/Object")⟩ := by decide +kernel
theorem own_d21_8 : decode jdk_32_method_3_code 8 = .ok (.invokespecial 23, 3) := by decide +kernel
theorem own_pd__Ljava_lang_Object__V : parseMethodDescriptor "(Ljava/lang/Object;)V" = some ⟨[(.object "java/lang/Object")], none⟩ := by decide +kernel
theorem own_d21_11 : decode jdk_32_method_3_code 11 = .ok (.areturn, 1) := by decide +kernel
theorem own_ef_own_rof (m : MethodId) (a1 : Addr) : entryFrame m #[(.ref a1)] 1 = mkF m 0 #[rv a1] [] := by first | (simp [entryFrame, mkF, argsToLocals, Value.category]; done) | rfl
def own_Q_own_rof (Z : State) (a1 : Addr) (h0 : Heap) (n0 : Nat) (v : Option Value) (h : Heap) (L : List Loc) : Prop := ∃ b, v = some (.ref b) ∧ Fr n0 L ∧ Keep h0 h [] ∧ h0.size ≤ b ∧ Exa Z h b "java/util/Optional"
set_option maxRecDepth 65536 in
set_option maxHeartbeats 40000000 in
theorem own_rof (l : Launch) (Z : State) (a0 : Array Value) (hw : ∀ d ∈ tables_1, d.before a0 Z = true) (ws : List Jvm.Cond) (a1 : Addr) (h0 : Heap) (n0 : Nat) (Z0 : n0 ≤ h0.size)   :
    MetFree l (⟨"java/util/Optional", "of", "(Ljava/lang/Object;)Ljava/util/Optional;"⟩ : MethodName) (head1 (Jvm.Cond.code (⟨"java/util/Optional", "of", "(Ljava/lang/Object;)Ljava/util/Optional;"⟩ : MethodName) jdk_32_method_3_code 1 (some (.object "java/util/Optional")) :: ws) ({ frames := 2, cells := 1, slots := 1, locals := 26 } : Room)) (fun a U => a = #[(.ref a1)] ∧ Z.Warmed39 U.vm ∧ U.heap = h0) (fun _ _ _ _ _ => True) (fun _ U o U' => ∃ v L, o = .returned v ∧ own_Q_own_rof Z a1 h0 n0 v U'.heap L ∧ FrameEnd U o U' L ({ frames := 2, cells := 1, slots := 1, locals := 26 } : Room).cells ({ frames := 2, cells := 1, slots := 1, locals := 26 } : Room).slots) := by
  refine MetFree.of_bodySF (plainFor_of_name own_pn_java_util_Optional) hisR ?_
  intro p e s m args below meth c s₁ Bd hml0 hP hK
  obtain ⟨rfl, hZ, hh⟩ := hP
  have hx := Bd.exec
  have hby := Bd.bytes
  have hml : c.maxLocals = 1 := hml0
  have hown : s.vm.findClass "java/util/Optional" = some m.cls := findClass_of_methodNamed Bd.named
  have hnm := (name_of_methodNamed Bd.named Bd.method).1
  have X0 : Stand p l e ({ frames := 2, cells := 1, slots := 1, locals := 26 } : Room) s m #[(.ref a1)] below meth c s₁ [] 0 0 := Stand.of_body Bd
  have e0 : s₁.heap = h0 := by rw [← hh, Bd.state]; rfl
  have N0 := Fr.nil n0
  have Kp : Keep h0 h0 [] := Keep.refl h0 _
  show own_Go p e below s (own_Q_own_rof Z a1 h0 n0) ({ frames := 2, cells := 1, slots := 1, locals := 26 } : Room).cells ({ frames := 2, cells := 1, slots := 1, locals := 26 } : Room).slots (s₁.setTop (entryFrame m #[(.ref a1)] 1))
  refine own_go (fun zt zk => castTop (own_ef_own_rof m a1) zk) ?_
  show own_Go p e below s _ _ _ (s₁.setTop (mkF m 0 #[rv a1] []))
  obtain ⟨T1, h1, X1, e1, E1, A1, D1, -, st1⟩ := newO X0 hx hZ hown (hw _ (List.mem_of_getElem? (i := 115) rfl)) (hw _ (List.mem_of_getElem? (i := 116) rfl)) (hw _ (List.mem_of_getElem? (i := 39) rfl)) e0 (g := (mkF m 0 #[rv a1] [])) rfl (hb hby own_d21_0) (by decide) (by decide)
  obtain ⟨b1, g1⟩ : ∃ z, z = h0.size := ⟨_, rfl⟩
  rw [← g1] at A1 D1 st1
  refine own_go st1 ?_
  have sz_b1 : h0.size ≤ b1 := Nat.le_trans Kp.1 (Nat.le_of_eq g1.symm)
  have g_b1 : n0 ≤ b1 := Nat.le_trans Z0 sz_b1
  replace Kp := Kp.ext E1
  have Ex_b1 := A1
  have F_value_b1 : Fld Z h1 b1 "java/util/Optional" "value" "Ljava/lang/Object;" .null := D1 (Or.inr (hw _ (List.mem_of_getElem? (i := 127) rfl))) (ty := (.object "java/lang/Object")) (by decide)
  show own_Go p e below s _ _ _ (T1.setTop (mkF m 3 #[rv a1] [(.ref b1)]))
  refine own_go (fun zt zk => (XS.dup X1.here hx rfl (hb hby own_d21_3) rfl rfl (XS.aloadN X1.here hx rfl (hb hby own_d21_4) rfl rfl zk))) ?_
  show own_Go p e below s _ _ _ (T1.setTop (mkF m 5 #[rv a1] [(.ref a1), (.ref b1), (.ref b1)]))
  obtain ⟨_, _, ⟨T2, L2, k2, n2⟩, -, X2, ⟨Lc2, hQ2, l2, y2, z2⟩, st2⟩ := Jvm.LawKit.callS X1 hx (y := (⟨"java/util/Objects", "requireNonNull", "(Ljava/lang/Object;)Ljava/lang/Object;"⟩ : MethodName)) hown (mvT hZ (hw _ (List.mem_of_getElem? (i := 117) rfl))) (mvT hZ (hw _ (List.mem_of_getElem? (i := 118) rfl))) (mvT hZ (hw _ (List.mem_of_getElem? (i := 119) rfl))) (mvT hZ (hw _ (List.mem_of_getElem? (i := 120) rfl))) (by decide) (backOf (W := 2) (own_rrnn l Z a0 hw [] a1  h1 n0 (Nat.le_trans Z0 Kp.1) ) hZ (hw _ (List.mem_of_getElem? (i := 120) rfl)) (hw _ (List.mem_of_getElem? (i := 119) rfl)) (by decide) (by decide)) (g := (mkF m 5 #[rv a1] [(.ref a1), (.ref b1), (.ref b1)])) rfl (by rw [hml]; rfl) (argsL := [(.ref a1)]) (rest := [(.ref b1), (.ref b1)]) (lenOf own_pd__Ljava_lang_Object__Ljava_lang_Object_ rfl) rfl (by show 2 * 0 + _ ≤ _; exact Nat.le_of_eq rfl) (hb hby own_d21_5) (fun _ _ => ⟨rfl, e1, (by decide : 1 + 0 ≤ _), (by decide : 1 + 0 ≤ _)⟩)
  dsimp only [Pt.U, Pt.locs, Pt.cells, Pt.slots] at X2 l2 y2 z2 st2 hQ2
  subst y2 z2
  replace X2 := X2.mono (Nat.le_of_ble_eq_true rfl : _ ≤ 1) (Nat.le_of_ble_eq_true rfl : _ ≤ 1)
  obtain ⟨rfl, Nq2, e2⟩ := hQ2
  have N2 : Fr n0 L2 := by rw [l2]; exact Fr.app N0 Nq2
  refine own_go st2 ?_
  show own_Go p e below s _ _ _ (T2.setTop (mkF m 8 #[rv a1] [(.ref a1), (.ref b1), (.ref b1)]))
  obtain ⟨_, _, ⟨T3, L3, k3, n3⟩, -, X3, ⟨Lc3, hQ3, l3, y3, z3⟩, st3⟩ := X2.specialBack hx (y := (⟨"java/util/Optional", "<init>", "(Ljava/lang/Object;)V"⟩ : MethodName)) rfl hown (mvT hZ (hw _ (List.mem_of_getElem? (i := 121) rfl))) (mvT hZ (hw _ (List.mem_of_getElem? (i := 122) rfl))) (mvT hZ (hw _ (List.mem_of_getElem? (i := 124) rfl))) (by decide) (backOf (W := 1) (own_ropt l Z a0 hw [] b1 a1  h1 n0 (Nat.le_trans Z0 Kp.1) Ex_b1 F_value_b1 g_b1 ) hZ (hw _ (List.mem_of_getElem? (i := 124) rfl)) (hw _ (List.mem_of_getElem? (i := 39) rfl)) (by decide) (by decide)) (g := (mkF m 8 #[rv a1] [(.ref a1), (.ref b1), (.ref b1)])) rfl (by rw [hml]; rfl) (Steps.refl _) (a := b1) (argsL := [(.ref a1)]) (rest := [(.ref b1)]) (lenOf own_pd__Ljava_lang_Object__V rfl) rfl (by show 2 * 0 + _ ≤ _; exact Nat.le_of_eq rfl) (hb hby own_d21_8) (fun _ _ => ⟨rfl, e2, (by decide : 1 + 0 ≤ _), (by decide : 1 + 0 ≤ _)⟩)
  dsimp only [Pt.U, Pt.locs, Pt.cells, Pt.slots] at X3 l3 y3 z3 st3 hQ3
  subst y3 z3
  replace X3 := X3.mono (Nat.le_of_ble_eq_true rfl : _ ≤ 1) (Nat.le_of_ble_eq_true rfl : _ ≤ 1)
  obtain ⟨rfl, Nq3, K3, -, F_value_b1⟩ := hQ3
  have N3 : Fr n0 L3 := by rw [l3]; exact Fr.app N2 Nq3
  refine own_go (fun zt zk => st3.trans zk) ?_
  replace Kp := Kp.trans K3 (allS (Or.inr sz_b1) all0)
  replace Ex_b1 := Ex_b1.keep K3
  show own_Go p e below s _ _ _ (T3.setTop (mkF m 11 #[rv a1] [(.ref b1)]))
  exact own_fin X3 Bd.notSynchronized (fun h => by rw [Bd.returns] at h; cases h) (fun fs hr => retOut X3 hx (t := (.object "java/util/Optional")) (w := (.ref b1)) Bd.returns rfl (Or.inr (Or.inr (Or.inr (Or.inr ⟨rfl, rfl, rfl⟩)))) (hb hby own_d21_11) hr) ⟨_, rfl, N3, Kp, sz_b1, Ex_b1⟩ (by decide) (by decide)
theorem own_d7_0 : decode prog_34_method_2_code 0 = .ok (.new 8, 3) := by decide +kernel
theorem own_d7_3 : decode prog_34_method_2_code 3 = .ok (.dup, 1) := by decide +kernel
theorem own_d7_4 : decode prog_34_method_2_code 4 = .ok (.aload_n 0, 1) := by decide +kernel
theorem own_d7_5 : decode prog_34_method_2_code 5 = .ok (.aload_n 1, 1) := by decide +kernel
theorem own_d7_6 : decode prog_34_method_2_code 6 = .ok (.invokestatic 24, 3) := by decide +kernel
theorem own_pd___Ljava_util_Optional_ : parseMethodDescriptor "()Ljava/util/Optional;" = some ⟨[], some (.object "java/util/Optional")⟩ := by decide +kernel
theorem own_d7_9 : decode prog_34_method_2_code 9 = .ok (.iconst 0, 1) := by decide +kernel
theorem own_d7_10 : decode prog_34_method_2_code 10 = .ok (.invokespecial 30, 3) := by decide +kernel
theorem own_pd__Ljava_lang_String_Ljava_lang_String_Ljava_util_Optional_Z_V : parseMethodDescriptor "(Ljava/lang/String;Ljava/lang/String;Ljava/util/Optional;Z)V" = some ⟨[(.object "java/lang/String"), (.object "java/lang/String"), (.object "java/util/Optional"), .boolean], none⟩ := by decide +kernel
theorem own_d7_13 : decode prog_34_method_2_code 13 = .ok (.areturn, 1) := by decide +kernel
theorem own_ef_own_rgiven (m : MethodId) (nm : Addr) (tx : Addr) : entryFrame m #[(.ref nm), (.ref tx)] 2 = mkF m 0 #[rv nm, rv tx] [] := by first | (simp [entryFrame, mkF, argsToLocals, Value.category]; done) | rfl
def own_Q_own_rgiven (Z : State) (nm : Addr) (tx : Addr) (o_EMPTY : Addr) (h0 : Heap) (n0 : Nat) (v : Option Value) (h : Heap) (L : List Loc) : Prop := ∃ b, v = some (.ref b) ∧ Fr n0 L ∧ Keep h0 h [] ∧ h0.size ≤ b ∧ Exa Z h b "com/example/tranche/tranche/model/Row$Field" ∧ Fld Z h b "com/example/tranche/tranche/model/Row$Field" "name" "Ljava/lang/String;" (.ref nm) ∧ Fld Z h b "com/example/tranche/tranche/model/Row$Field" "text" "Ljava/lang/String;" (.ref tx) ∧ Fld Z h b "com/example/tranche/tranche/model/Row$Field" "span" "Ljava/util/Optional;" (.ref o_EMPTY) ∧ Fld Z h b "com/example/tranche/tranche/model/Row$Field" "spanFirst" "Z" (.int (0 : Int32))
set_option maxRecDepth 65536 in
set_option maxHeartbeats 40000000 in
theorem own_rgiven (l : Launch) (Z : State) (a0 : Array Value) (hw : ∀ d ∈ tables_1, d.before a0 Z = true) (ws : List Jvm.Cond) (nm : Addr) (tx : Addr) (o_EMPTY : Addr) (h0 : Heap) (n0 : Nat) (Z0 : n0 ≤ h0.size) (O : Old Z n0 h0) (S_o_EMPTY : Sta Z Z.heap "java/util/Optional" "EMPTY" "Ljava/util/Optional;" (.ref o_EMPTY))  :
    MetFree l (⟨"com/example/tranche/tranche/model/Row$Field", "given", "(Ljava/lang/String;Ljava/lang/String;)Lcom/example/tranche/tranche/model/Row$Field;"⟩ : MethodName) (head1 (Jvm.Cond.code (⟨"com/example/tranche/tranche/model/Row$Field", "given", "(Ljava/lang/String;Ljava/lang/String;)Lcom/example/tranche/tranche/model/Row$Field;"⟩ : MethodName) prog_34_method_2_code 2 (some (.object "com/example/tranche/tranche/model/Row$Field")) :: ws) ({ frames := 3, cells := 1, slots := 4, locals := 41 } : Room)) (fun a U => a = #[(.ref nm), (.ref tx)] ∧ Z.Warmed39 U.vm ∧ U.heap = h0) (fun _ _ _ _ _ => True) (fun _ U o U' => ∃ v L, o = .returned v ∧ own_Q_own_rgiven Z nm tx o_EMPTY h0 n0 v U'.heap L ∧ FrameEnd U o U' L ({ frames := 3, cells := 1, slots := 4, locals := 41 } : Room).cells ({ frames := 3, cells := 1, slots := 4, locals := 41 } : Room).slots) := by
  refine MetFree.of_bodySF (plainFor_of_name own_pn_com_example_tranche_tranche_model_Row_Field) hisR ?_
  intro p e s m args below meth c s₁ Bd hml0 hP hK
  obtain ⟨rfl, hZ, hh⟩ := hP
  have hx := Bd.exec
  have hby := Bd.bytes
  have hml : c.maxLocals = 2 := hml0
  have hown : s.vm.findClass "com/example/tranche/tranche/model/Row$Field" = some m.cls := findClass_of_methodNamed Bd.named
  have hnm := (name_of_methodNamed Bd.named Bd.method).1
  have X0 : Stand p l e ({ frames := 3, cells := 1, slots := 4, locals := 41 } : Room) s m #[(.ref nm), (.ref tx)] below meth c s₁ [] 0 0 := Stand.of_body Bd
  have e0 : s₁.heap = h0 := by rw [← hh, Bd.state]; rfl
  have N0 := Fr.nil n0
  have Kp : Keep h0 h0 [] := Keep.refl h0 _
  show own_Go p e below s (own_Q_own_rgiven Z nm tx o_EMPTY h0 n0) ({ frames := 3, cells := 1, slots := 4, locals := 41 } : Room).cells ({ frames := 3, cells := 1, slots := 4, locals := 41 } : Room).slots (s₁.setTop (entryFrame m #[(.ref nm), (.ref tx)] 2))
  refine own_go (fun zt zk => castTop (own_ef_own_rgiven m nm tx) zk) ?_
  show own_Go p e below s _ _ _ (s₁.setTop (mkF m 0 #[rv nm, rv tx] []))
  obtain ⟨T1, h1, X1, e1, E1, A1, D1, -, st1⟩ := newO X0 hx hZ hown (hw _ (List.mem_of_getElem? (i := 35) rfl)) (hw _ (List.mem_of_getElem? (i := 36) rfl)) (hw _ (List.mem_of_getElem? (i := 33) rfl)) e0 (g := (mkF m 0 #[rv nm, rv tx] [])) rfl (hb hby own_d7_0) (by decide) (by decide)
  obtain ⟨b1, g1⟩ : ∃ z, z = h0.size := ⟨_, rfl⟩
  rw [← g1] at A1 D1 st1
  refine own_go st1 ?_
  have sz_b1 : h0.size ≤ b1 := Nat.le_trans Kp.1 (Nat.le_of_eq g1.symm)
  have g_b1 : n0 ≤ b1 := Nat.le_trans Z0 sz_b1
  replace O := O.ext E1
  replace Kp := Kp.ext E1
  have Ex_b1 := A1
  have F_name_b1 : Fld Z h1 b1 "com/example/tranche/tranche/model/Row$Field" "name" "Ljava/lang/String;" .null := D1 (Or.inr (hw _ (List.mem_of_getElem? (i := 52) rfl))) (ty := (.object "java/lang/String")) (by decide)
  have F_text_b1 : Fld Z h1 b1 "com/example/tranche/tranche/model/Row$Field" "text" "Ljava/lang/String;" .null := D1 (Or.inr (hw _ (List.mem_of_getElem? (i := 54) rfl))) (ty := (.object "java/lang/String")) (by decide)
  have F_span_b1 : Fld Z h1 b1 "com/example/tranche/tranche/model/Row$Field" "span" "Ljava/util/Optional;" .null := D1 (Or.inr (hw _ (List.mem_of_getElem? (i := 56) rfl))) (ty := (.object "java/util/Optional")) (by decide)
  have F_spanFirst_b1 : Fld Z h1 b1 "com/example/tranche/tranche/model/Row$Field" "spanFirst" "Z" (.int (0 : Int32)) := D1 (Or.inr (hw _ (List.mem_of_getElem? (i := 58) rfl))) (ty := .boolean) (by decide)
  show own_Go p e below s _ _ _ (T1.setTop (mkF m 3 #[rv nm, rv tx] [(.ref b1)]))
  refine own_go (fun zt zk => (XS.dup X1.here hx rfl (hb hby own_d7_3) rfl rfl (XS.aloadN X1.here hx rfl (hb hby own_d7_4) rfl rfl (XS.aloadN X1.here hx rfl (hb hby own_d7_5) rfl rfl zk)))) ?_
  show own_Go p e below s _ _ _ (T1.setTop (mkF m 6 #[rv nm, rv tx] [(.ref tx), (.ref nm), (.ref b1), (.ref b1)]))
  obtain ⟨_, _, ⟨T2, L2, k2, n2⟩, -, X2, ⟨Lc2, hQ2, l2, y2, z2⟩, st2⟩ := Jvm.LawKit.callS X1 hx (y := (⟨"java/util/Optional", "empty", "()Ljava/util/Optional;"⟩ : MethodName)) hown (mvT hZ (hw _ (List.mem_of_getElem? (i := 37) rfl))) (mvT hZ (hw _ (List.mem_of_getElem? (i := 38) rfl))) (mvT hZ (hw _ (List.mem_of_getElem? (i := 39) rfl))) (mvT hZ (hw _ (List.mem_of_getElem? (i := 40) rfl))) (by decide) (backOf (W := 4) (own_remp l Z a0 hw []  o_EMPTY h1 n0 (Nat.le_trans Z0 Kp.1) O S_o_EMPTY) hZ (hw _ (List.mem_of_getElem? (i := 40) rfl)) (hw _ (List.mem_of_getElem? (i := 39) rfl)) (by decide) (by decide)) (g := (mkF m 6 #[rv nm, rv tx] [(.ref tx), (.ref nm), (.ref b1), (.ref b1)])) rfl (by rw [hml]; rfl) (argsL := []) (rest := [(.ref tx), (.ref nm), (.ref b1), (.ref b1)]) (lenOf own_pd___Ljava_util_Optional_ rfl) rfl (by show 2 * 0 + _ ≤ _; exact Nat.le_of_eq rfl) (hb hby own_d7_6) (fun _ _ => ⟨rfl, e1, (by decide : 1 + 0 ≤ _), (by decide : 4 + 0 ≤ _)⟩)
  dsimp only [Pt.U, Pt.locs, Pt.cells, Pt.slots] at X2 l2 y2 z2 st2 hQ2
  subst y2 z2
  replace X2 := X2.mono (Nat.le_of_ble_eq_true rfl : _ ≤ 1) (Nat.le_of_ble_eq_true rfl : _ ≤ 4)
  obtain ⟨rfl, Nq2, e2⟩ := hQ2
  have N2 : Fr n0 L2 := by rw [l2]; exact Fr.app N0 Nq2
  refine own_go st2 ?_
  show own_Go p e below s _ _ _ (T2.setTop (mkF m 9 #[rv nm, rv tx] [(.ref o_EMPTY), (.ref tx), (.ref nm), (.ref b1), (.ref b1)]))
  refine own_go (fun zt zk => (XS.iconst X2.here hx rfl (hb hby own_d7_9) zk)) ?_
  show own_Go p e below s _ _ _ (T2.setTop (mkF m 10 #[rv nm, rv tx] [(.int (0 : Int32)), (.ref o_EMPTY), (.ref tx), (.ref nm), (.ref b1), (.ref b1)]))
  obtain ⟨_, _, ⟨T3, L3, k3, n3⟩, -, X3, ⟨Lc3, hQ3, l3, y3, z3⟩, st3⟩ := X2.specialBack hx (y := (⟨"com/example/tranche/tranche/model/Row$Field", "<init>", "(Ljava/lang/String;Ljava/lang/String;Ljava/util/Optional;Z)V"⟩ : MethodName)) rfl hown (mvT hZ (hw _ (List.mem_of_getElem? (i := 42) rfl))) (mvT hZ (hw _ (List.mem_of_getElem? (i := 43) rfl))) (mvT hZ (hw _ (List.mem_of_getElem? (i := 44) rfl))) (by decide) (backOf (W := 1) (own_rfld0 l Z a0 hw [] b1 nm tx o_EMPTY  h1 n0 (Nat.le_trans Z0 Kp.1) Ex_b1 F_name_b1 F_text_b1 F_span_b1 F_spanFirst_b1 g_b1 ) hZ (hw _ (List.mem_of_getElem? (i := 44) rfl)) (hw _ (List.mem_of_getElem? (i := 33) rfl)) (by decide) (by decide)) (g := (mkF m 10 #[rv nm, rv tx] [(.int (0 : Int32)), (.ref o_EMPTY), (.ref tx), (.ref nm), (.ref b1), (.ref b1)])) rfl (by rw [hml]; rfl) (Steps.refl _) (a := b1) (argsL := [(.ref nm), (.ref tx), (.ref o_EMPTY), (.int (0 : Int32))]) (rest := [(.ref b1)]) (lenOf own_pd__Ljava_lang_String_Ljava_lang_String_Ljava_util_Optional_Z_V rfl) rfl (by show 2 * 0 + _ ≤ _; exact Nat.le_of_eq rfl) (hb hby own_d7_10) (fun _ _ => ⟨rfl, e2, (by decide : 1 + 0 ≤ _), (by decide : 4 + 0 ≤ _)⟩)
  dsimp only [Pt.U, Pt.locs, Pt.cells, Pt.slots] at X3 l3 y3 z3 st3 hQ3
  subst y3 z3
  replace X3 := X3.mono (Nat.le_of_ble_eq_true rfl : _ ≤ 1) (Nat.le_of_ble_eq_true rfl : _ ≤ 4)
  obtain ⟨rfl, Nq3, K3, -, F_name_b1, F_text_b1, F_span_b1, F_spanFirst_b1⟩ := hQ3
  have N3 : Fr n0 L3 := by rw [l3]; exact Fr.app N2 Nq3
  refine own_go (fun zt zk => st3.trans zk) ?_
  replace O := O.keep K3 (allS g_b1 all0)
  replace Kp := Kp.trans K3 (allS (Or.inr sz_b1) all0)
  replace Ex_b1 := Ex_b1.keep K3
  show own_Go p e below s _ _ _ (T3.setTop (mkF m 13 #[rv nm, rv tx] [(.ref b1)]))
  exact own_fin X3 Bd.notSynchronized (fun h => by rw [Bd.returns] at h; cases h) (fun fs hr => retOut X3 hx (t := (.object "com/example/tranche/tranche/model/Row$Field")) (w := (.ref b1)) Bd.returns rfl (Or.inr (Or.inr (Or.inr (Or.inr ⟨rfl, rfl, rfl⟩)))) (hb hby own_d7_13) hr) ⟨_, rfl, N3, Kp, sz_b1, Ex_b1, F_name_b1, F_text_b1, F_span_b1, F_spanFirst_b1⟩ (by decide) (by decide)
theorem own_d20_0 : decode prog_34_method_3_code 0 = .ok (.new 8, 3) := by decide +kernel
theorem own_d20_3 : decode prog_34_method_3_code 3 = .ok (.dup, 1) := by decide +kernel
theorem own_d20_4 : decode prog_34_method_3_code 4 = .ok (.aload_n 0, 1) := by decide +kernel
theorem own_d20_5 : decode prog_34_method_3_code 5 = .ok (.aload_n 1, 1) := by decide +kernel
theorem own_d20_6 : decode prog_34_method_3_code 6 = .ok (.aload_n 2, 1) := by decide +kernel
theorem own_d20_7 : decode prog_34_method_3_code 7 = .ok (.invokestatic 33, 3) := by decide +kernel
theorem own_pd__Ljava_lang_Object__Ljava_util_Optional_ : parseMethodDescriptor "(Ljava/lang/Object;)Ljava/util/Optional;" = some ⟨[(.object "java/lang/Object")], some (.object "java/util/Optional")⟩ := by decide +kernel
theorem own_d20_10 : decode prog_34_method_3_code 10 = .ok (.iconst 0, 1) := by decide +kernel
theorem own_d20_11 : decode prog_34_method_3_code 11 = .ok (.invokespecial 30, 3) := by decide +kernel
theorem own_d20_14 : decode prog_34_method_3_code 14 = .ok (.areturn, 1) := by decide +kernel
theorem own_ef_own_rstated (m : MethodId) (nm : Addr) (tx : Addr) (sp : Addr) : entryFrame m #[(.ref nm), (.ref tx), (.ref sp)] 3 = mkF m 0 #[rv nm, rv tx, rv sp] [] := by first | (simp [entryFrame, mkF, argsToLocals, Value.category]; done) | rfl
def own_Q_own_rstated (Z : State) (nm : Addr) (tx : Addr) (sp : Addr) (h0 : Heap) (n0 : Nat) (v : Option Value) (h : Heap) (L : List Loc) : Prop := ∃ b op, v = some (.ref b) ∧ Fr n0 L ∧ Keep h0 h [] ∧ h0.size ≤ b ∧ Exa Z h b "com/example/tranche/tranche/model/Row$Field" ∧ Fld Z h b "com/example/tranche/tranche/model/Row$Field" "name" "Ljava/lang/String;" (.ref nm) ∧ Fld Z h b "com/example/tranche/tranche/model/Row$Field" "text" "Ljava/lang/String;" (.ref tx) ∧ Fld Z h b "com/example/tranche/tranche/model/Row$Field" "span" "Ljava/util/Optional;" (.ref op) ∧ Fld Z h b "com/example/tranche/tranche/model/Row$Field" "spanFirst" "Z" (.int (0 : Int32))
set_option maxRecDepth 65536 in
set_option maxHeartbeats 40000000 in
theorem own_rstated (l : Launch) (Z : State) (a0 : Array Value) (hw : ∀ d ∈ tables_1, d.before a0 Z = true) (ws : List Jvm.Cond) (nm : Addr) (tx : Addr) (sp : Addr) (h0 : Heap) (n0 : Nat) (Z0 : n0 ≤ h0.size)   :
    MetFree l (⟨"com/example/tranche/tranche/model/Row$Field", "stated", "(Ljava/lang/String;Ljava/lang/String;Lcom/example/tranche/tranche/model/Span;)Lcom/example/tranche/tranche/model/Row$Field;"⟩ : MethodName) (head1 (Jvm.Cond.code (⟨"com/example/tranche/tranche/model/Row$Field", "stated", "(Ljava/lang/String;Ljava/lang/String;Lcom/example/tranche/tranche/model/Span;)Lcom/example/tranche/tranche/model/Row$Field;"⟩ : MethodName) prog_34_method_3_code 3 (some (.object "com/example/tranche/tranche/model/Row$Field")) :: ws) ({ frames := 3, cells := 2, slots := 5, locals := 42 } : Room)) (fun a U => a = #[(.ref nm), (.ref tx), (.ref sp)] ∧ Z.Warmed39 U.vm ∧ U.heap = h0) (fun _ _ _ _ _ => True) (fun _ U o U' => ∃ v L, o = .returned v ∧ own_Q_own_rstated Z nm tx sp h0 n0 v U'.heap L ∧ FrameEnd U o U' L ({ frames := 3, cells := 2, slots := 5, locals := 42 } : Room).cells ({ frames := 3, cells := 2, slots := 5, locals := 42 } : Room).slots) := by
  refine MetFree.of_bodySF (plainFor_of_name own_pn_com_example_tranche_tranche_model_Row_Field) hisR ?_
  intro p e s m args below meth c s₁ Bd hml0 hP hK
  obtain ⟨rfl, hZ, hh⟩ := hP
  have hx := Bd.exec
  have hby := Bd.bytes
  have hml : c.maxLocals = 3 := hml0
  have hown : s.vm.findClass "com/example/tranche/tranche/model/Row$Field" = some m.cls := findClass_of_methodNamed Bd.named
  have hnm := (name_of_methodNamed Bd.named Bd.method).1
  have X0 : Stand p l e ({ frames := 3, cells := 2, slots := 5, locals := 42 } : Room) s m #[(.ref nm), (.ref tx), (.ref sp)] below meth c s₁ [] 0 0 := Stand.of_body Bd
  have e0 : s₁.heap = h0 := by rw [← hh, Bd.state]; rfl
  have N0 := Fr.nil n0
  have Kp : Keep h0 h0 [] := Keep.refl h0 _
  show own_Go p e below s (own_Q_own_rstated Z nm tx sp h0 n0) ({ frames := 3, cells := 2, slots := 5, locals := 42 } : Room).cells ({ frames := 3, cells := 2, slots := 5, locals := 42 } : Room).slots (s₁.setTop (entryFrame m #[(.ref nm), (.ref tx), (.ref sp)] 3))
  refine own_go (fun zt zk => castTop (own_ef_own_rstated m nm tx sp) zk) ?_
  show own_Go p e below s _ _ _ (s₁.setTop (mkF m 0 #[rv nm, rv tx, rv sp] []))
  obtain ⟨T1, h1, X1, e1, E1, A1, D1, -, st1⟩ := newO X0 hx hZ hown (hw _ (List.mem_of_getElem? (i := 35) rfl)) (hw _ (List.mem_of_getElem? (i := 36) rfl)) (hw _ (List.mem_of_getElem? (i := 33) rfl)) e0 (g := (mkF m 0 #[rv nm, rv tx, rv sp] [])) rfl (hb hby own_d20_0) (by decide) (by decide)
  obtain ⟨b1, g1⟩ : ∃ z, z = h0.size := ⟨_, rfl⟩
  rw [← g1] at A1 D1 st1
  refine own_go st1 ?_
  have sz_b1 : h0.size ≤ b1 := Nat.le_trans Kp.1 (Nat.le_of_eq g1.symm)
  have g_b1 : n0 ≤ b1 := Nat.le_trans Z0 sz_b1
  replace Kp := Kp.ext E1
  have Ex_b1 := A1
  have F_name_b1 : Fld Z h1 b1 "com/example/tranche/tranche/model/Row$Field" "name" "Ljava/lang/String;" .null := D1 (Or.inr (hw _ (List.mem_of_getElem? (i := 52) rfl))) (ty := (.object "java/lang/String")) (by decide)
  have F_text_b1 : Fld Z h1 b1 "com/example/tranche/tranche/model/Row$Field" "text" "Ljava/lang/String;" .null := D1 (Or.inr (hw _ (List.mem_of_getElem? (i := 54) rfl))) (ty := (.object "java/lang/String")) (by decide)
  have F_span_b1 : Fld Z h1 b1 "com/example/tranche/tranche/model/Row$Field" "span" "Ljava/util/Optional;" .null := D1 (Or.inr (hw _ (List.mem_of_getElem? (i := 56) rfl))) (ty := (.object "java/util/Optional")) (by decide)
  have F_spanFirst_b1 : Fld Z h1 b1 "com/example/tranche/tranche/model/Row$Field" "spanFirst" "Z" (.int (0 : Int32)) := D1 (Or.inr (hw _ (List.mem_of_getElem? (i := 58) rfl))) (ty := .boolean) (by decide)
  show own_Go p e below s _ _ _ (T1.setTop (mkF m 3 #[rv nm, rv tx, rv sp] [(.ref b1)]))
  refine own_go (fun zt zk => (XS.dup X1.here hx rfl (hb hby own_d20_3) rfl rfl (XS.aloadN X1.here hx rfl (hb hby own_d20_4) rfl rfl (XS.aloadN X1.here hx rfl (hb hby own_d20_5) rfl rfl (XS.aloadN X1.here hx rfl (hb hby own_d20_6) rfl rfl zk))))) ?_
  show own_Go p e below s _ _ _ (T1.setTop (mkF m 7 #[rv nm, rv tx, rv sp] [(.ref sp), (.ref tx), (.ref nm), (.ref b1), (.ref b1)]))
  obtain ⟨_, _, ⟨T2, L2, k2, n2⟩, -, X2, ⟨Lc2, hQ2, l2, y2, z2⟩, st2⟩ := Jvm.LawKit.callS X1 hx (y := (⟨"java/util/Optional", "of", "(Ljava/lang/Object;)Ljava/util/Optional;"⟩ : MethodName)) hown (mvT hZ (hw _ (List.mem_of_getElem? (i := 112) rfl))) (mvT hZ (hw _ (List.mem_of_getElem? (i := 113) rfl))) (mvT hZ (hw _ (List.mem_of_getElem? (i := 39) rfl))) (mvT hZ (hw _ (List.mem_of_getElem? (i := 114) rfl))) (by decide) (backOf (W := 4) (own_rof l Z a0 hw [] sp  h1 n0 (Nat.le_trans Z0 Kp.1) ) hZ (hw _ (List.mem_of_getElem? (i := 114) rfl)) (hw _ (List.mem_of_getElem? (i := 39) rfl)) (by decide) (by decide)) (g := (mkF m 7 #[rv nm, rv tx, rv sp] [(.ref sp), (.ref tx), (.ref nm), (.ref b1), (.ref b1)])) rfl (by rw [hml]; rfl) (argsL := [(.ref sp)]) (rest := [(.ref tx), (.ref nm), (.ref b1), (.ref b1)]) (lenOf own_pd__Ljava_lang_Object__Ljava_util_Optional_ rfl) rfl (by show 2 * 0 + _ ≤ _; exact Nat.le_of_eq rfl) (hb hby own_d20_7) (fun _ _ => ⟨rfl, e1, (by decide : 1 + 1 ≤ _), (by decide : 4 + 1 ≤ _)⟩)
  dsimp only [Pt.U, Pt.locs, Pt.cells, Pt.slots] at X2 l2 y2 z2 st2 hQ2
  subst y2 z2
  replace X2 := X2.mono (Nat.le_of_ble_eq_true rfl : _ ≤ 2) (Nat.le_of_ble_eq_true rfl : _ ≤ 5)
  obtain ⟨b2, rfl, Nq2, K2, sb2, Eo2⟩ := hQ2
  have N2 : Fr n0 L2 := by rw [l2]; exact Fr.app N0 Nq2
  refine own_go st2 ?_
  replace Kp := Kp.trans K2 all0
  replace Ex_b1 := Ex_b1.keep K2
  replace F_name_b1 := F_name_b1.keep K2 nin0
  replace F_text_b1 := F_text_b1.keep K2 nin0
  replace F_span_b1 := F_span_b1.keep K2 nin0
  replace F_spanFirst_b1 := F_spanFirst_b1.keep K2 nin0
  show own_Go p e below s _ _ _ (T2.setTop (mkF m 10 #[rv nm, rv tx, rv sp] [(.ref b2), (.ref tx), (.ref nm), (.ref b1), (.ref b1)]))
  refine own_go (fun zt zk => (XS.iconst X2.here hx rfl (hb hby own_d20_10) zk)) ?_
  show own_Go p e below s _ _ _ (T2.setTop (mkF m 11 #[rv nm, rv tx, rv sp] [(.int (0 : Int32)), (.ref b2), (.ref tx), (.ref nm), (.ref b1), (.ref b1)]))
  obtain ⟨_, _, ⟨T3, L3, k3, n3⟩, -, X3, ⟨Lc3, hQ3, l3, y3, z3⟩, st3⟩ := X2.specialBack hx (y := (⟨"com/example/tranche/tranche/model/Row$Field", "<init>", "(Ljava/lang/String;Ljava/lang/String;Ljava/util/Optional;Z)V"⟩ : MethodName)) rfl hown (mvT hZ (hw _ (List.mem_of_getElem? (i := 42) rfl))) (mvT hZ (hw _ (List.mem_of_getElem? (i := 43) rfl))) (mvT hZ (hw _ (List.mem_of_getElem? (i := 44) rfl))) (by decide) (backOf (W := 1) (own_rfld0 l Z a0 hw [] b1 nm tx b2  T2.heap n0 (Nat.le_trans Z0 Kp.1) Ex_b1 F_name_b1 F_text_b1 F_span_b1 F_spanFirst_b1 g_b1 ) hZ (hw _ (List.mem_of_getElem? (i := 44) rfl)) (hw _ (List.mem_of_getElem? (i := 33) rfl)) (by decide) (by decide)) (g := (mkF m 11 #[rv nm, rv tx, rv sp] [(.int (0 : Int32)), (.ref b2), (.ref tx), (.ref nm), (.ref b1), (.ref b1)])) rfl (by rw [hml]; rfl) (Steps.refl _) (a := b1) (argsL := [(.ref nm), (.ref tx), (.ref b2), (.int (0 : Int32))]) (rest := [(.ref b1)]) (lenOf own_pd__Ljava_lang_String_Ljava_lang_String_Ljava_util_Optional_Z_V rfl) rfl (by show 2 * 0 + _ ≤ _; exact Nat.le_of_eq rfl) (hb hby own_d20_11) (fun _ _ => ⟨rfl, rfl, (by decide : 2 + 0 ≤ _), (by decide : 5 + 0 ≤ _)⟩)
  dsimp only [Pt.U, Pt.locs, Pt.cells, Pt.slots] at X3 l3 y3 z3 st3 hQ3
  subst y3 z3
  replace X3 := X3.mono (Nat.le_of_ble_eq_true rfl : _ ≤ 2) (Nat.le_of_ble_eq_true rfl : _ ≤ 5)
  obtain ⟨rfl, Nq3, K3, -, F_name_b1, F_text_b1, F_span_b1, F_spanFirst_b1⟩ := hQ3
  have N3 : Fr n0 L3 := by rw [l3]; exact Fr.app N2 Nq3
  refine own_go (fun zt zk => st3.trans zk) ?_
  replace Kp := Kp.trans K3 (allS (Or.inr sz_b1) all0)
  replace Ex_b1 := Ex_b1.keep K3
  show own_Go p e below s _ _ _ (T3.setTop (mkF m 14 #[rv nm, rv tx, rv sp] [(.ref b1)]))
  exact own_fin X3 Bd.notSynchronized (fun h => by rw [Bd.returns] at h; cases h) (fun fs hr => retOut X3 hx (t := (.object "com/example/tranche/tranche/model/Row$Field")) (w := (.ref b1)) Bd.returns rfl (Or.inr (Or.inr (Or.inr (Or.inr ⟨rfl, rfl, rfl⟩)))) (hb hby own_d20_14) hr) ⟨_, b2, rfl, N3, Kp, sz_b1, Ex_b1, F_name_b1, F_text_b1, F_span_b1, F_spanFirst_b1⟩ (by decide) (by decide)
theorem own_d12_0 : decode prog_34_method_5_code 0 = .ok (.new 8, 3) := by decide +kernel
theorem own_d12_3 : decode prog_34_method_5_code 3 = .ok (.dup, 1) := by decide +kernel
theorem own_d12_4 : decode prog_34_method_5_code 4 = .ok (.aload_n 0, 1) := by decide +kernel
theorem own_d12_5 : decode prog_34_method_5_code 5 = .ok (.getfield 7, 3) := by decide +kernel
theorem own_d12_8 : decode prog_34_method_5_code 8 = .ok (.aload_n 0, 1) := by decide +kernel
theorem own_d12_9 : decode prog_34_method_5_code 9 = .ok (.getfield 13, 3) := by decide +kernel
theorem own_d12_12 : decode prog_34_method_5_code 12 = .ok (.aload_n 0, 1) := by decide +kernel
theorem own_d12_13 : decode prog_34_method_5_code 13 = .ok (.getfield 16, 3) := by decide +kernel
theorem own_d12_16 : decode prog_34_method_5_code 16 = .ok (.iconst 1, 1) := by decide +kernel
theorem own_d12_17 : decode prog_34_method_5_code 17 = .ok (.invokespecial 30, 3) := by decide +kernel
theorem own_d12_20 : decode prog_34_method_5_code 20 = .ok (.areturn, 1) := by decide +kernel
theorem own_ef_own_rwsf (m : MethodId) (a1 : Addr) : entryFrame m #[(.ref a1)] 1 = mkF m 0 #[rv a1] [] := by first | (simp [entryFrame, mkF, argsToLocals, Value.category]; done) | rfl
def own_Q_own_rwsf (Z : State) (a1 : Addr) (nm tx op : Addr) (h0 : Heap) (n0 : Nat) (v : Option Value) (h : Heap) (L : List Loc) : Prop := ∃ b, v = some (.ref b) ∧ Fr n0 L ∧ Keep h0 h [] ∧ h0.size ≤ b ∧ Exa Z h b "com/example/tranche/tranche/model/Row$Field" ∧ Fld Z h b "com/example/tranche/tranche/model/Row$Field" "name" "Ljava/lang/String;" (.ref nm) ∧ Fld Z h b "com/example/tranche/tranche/model/Row$Field" "text" "Ljava/lang/String;" (.ref tx) ∧ Fld Z h b "com/example/tranche/tranche/model/Row$Field" "span" "Ljava/util/Optional;" (.ref op) ∧ Fld Z h b "com/example/tranche/tranche/model/Row$Field" "spanFirst" "Z" (.int (1 : Int32))
set_option maxRecDepth 65536 in
set_option maxHeartbeats 40000000 in
theorem own_rwsf (l : Launch) (Z : State) (a0 : Array Value) (hw : ∀ d ∈ tables_1, d.before a0 Z = true) (ws : List Jvm.Cond) (a1 : Addr) (nm tx op : Addr) (h0 : Heap) (n0 : Nat) (Z0 : n0 ≤ h0.size) (F1 : Fld Z h0 a1 "com/example/tranche/tranche/model/Row$Field" "name" "Ljava/lang/String;" (.ref nm)) (F2 : Fld Z h0 a1 "com/example/tranche/tranche/model/Row$Field" "text" "Ljava/lang/String;" (.ref tx)) (F3 : Fld Z h0 a1 "com/example/tranche/tranche/model/Row$Field" "span" "Ljava/util/Optional;" (.ref op))  :
    MetFree l (⟨"com/example/tranche/tranche/model/Row$Field", "withSpanFirst", "()Lcom/example/tranche/tranche/model/Row$Field;"⟩ : MethodName) (head1 (Jvm.Cond.code (⟨"com/example/tranche/tranche/model/Row$Field", "withSpanFirst", "()Lcom/example/tranche/tranche/model/Row$Field;"⟩ : MethodName) prog_34_method_5_code 1 (some (.object "com/example/tranche/tranche/model/Row$Field")) :: ws) ({ frames := 3, cells := 1, slots := 4, locals := 41 } : Room)) (fun a U => a = #[(.ref a1)] ∧ Z.Warmed39 U.vm ∧ U.heap = h0) (fun _ _ _ _ _ => True) (fun _ U o U' => ∃ v L, o = .returned v ∧ own_Q_own_rwsf Z a1 nm tx op h0 n0 v U'.heap L ∧ FrameEnd U o U' L ({ frames := 3, cells := 1, slots := 4, locals := 41 } : Room).cells ({ frames := 3, cells := 1, slots := 4, locals := 41 } : Room).slots) := by
  refine MetFree.of_bodySF (plainFor_of_name own_pn_com_example_tranche_tranche_model_Row_Field) hisR ?_
  intro p e s m args below meth c s₁ Bd hml0 hP hK
  obtain ⟨rfl, hZ, hh⟩ := hP
  have hx := Bd.exec
  have hby := Bd.bytes
  have hml : c.maxLocals = 1 := hml0
  have hown : s.vm.findClass "com/example/tranche/tranche/model/Row$Field" = some m.cls := findClass_of_methodNamed Bd.named
  have hnm := (name_of_methodNamed Bd.named Bd.method).1
  have X0 : Stand p l e ({ frames := 3, cells := 1, slots := 4, locals := 41 } : Room) s m #[(.ref a1)] below meth c s₁ [] 0 0 := Stand.of_body Bd
  have e0 : s₁.heap = h0 := by rw [← hh, Bd.state]; rfl
  have N0 := Fr.nil n0
  have Kp : Keep h0 h0 [] := Keep.refl h0 _
  show own_Go p e below s (own_Q_own_rwsf Z a1 nm tx op h0 n0) ({ frames := 3, cells := 1, slots := 4, locals := 41 } : Room).cells ({ frames := 3, cells := 1, slots := 4, locals := 41 } : Room).slots (s₁.setTop (entryFrame m #[(.ref a1)] 1))
  refine own_go (fun zt zk => castTop (own_ef_own_rwsf m a1) zk) ?_
  show own_Go p e below s _ _ _ (s₁.setTop (mkF m 0 #[rv a1] []))
  obtain ⟨T1, h1, X1, e1, E1, A1, D1, -, st1⟩ := newO X0 hx hZ hown (hw _ (List.mem_of_getElem? (i := 35) rfl)) (hw _ (List.mem_of_getElem? (i := 36) rfl)) (hw _ (List.mem_of_getElem? (i := 33) rfl)) e0 (g := (mkF m 0 #[rv a1] [])) rfl (hb hby own_d12_0) (by decide) (by decide)
  obtain ⟨b1, g1⟩ : ∃ z, z = h0.size := ⟨_, rfl⟩
  rw [← g1] at A1 D1 st1
  refine own_go st1 ?_
  have ne_a1_b1 : a1 ≠ b1 := Nat.ne_of_lt (Nat.lt_of_lt_of_le F1.lt (Nat.le_of_eq g1.symm))
  have sz_b1 : h0.size ≤ b1 := Nat.le_trans Kp.1 (Nat.le_of_eq g1.symm)
  have g_b1 : n0 ≤ b1 := Nat.le_trans Z0 sz_b1
  replace F1 := F1.ext E1
  replace F2 := F2.ext E1
  replace F3 := F3.ext E1
  replace Kp := Kp.ext E1
  have Ex_b1 := A1
  have F_name_b1 : Fld Z h1 b1 "com/example/tranche/tranche/model/Row$Field" "name" "Ljava/lang/String;" .null := D1 (Or.inr (hw _ (List.mem_of_getElem? (i := 52) rfl))) (ty := (.object "java/lang/String")) (by decide)
  have F_text_b1 : Fld Z h1 b1 "com/example/tranche/tranche/model/Row$Field" "text" "Ljava/lang/String;" .null := D1 (Or.inr (hw _ (List.mem_of_getElem? (i := 54) rfl))) (ty := (.object "java/lang/String")) (by decide)
  have F_span_b1 : Fld Z h1 b1 "com/example/tranche/tranche/model/Row$Field" "span" "Ljava/util/Optional;" .null := D1 (Or.inr (hw _ (List.mem_of_getElem? (i := 56) rfl))) (ty := (.object "java/util/Optional")) (by decide)
  have F_spanFirst_b1 : Fld Z h1 b1 "com/example/tranche/tranche/model/Row$Field" "spanFirst" "Z" (.int (0 : Int32)) := D1 (Or.inr (hw _ (List.mem_of_getElem? (i := 58) rfl))) (ty := .boolean) (by decide)
  show own_Go p e below s _ _ _ (T1.setTop (mkF m 3 #[rv a1] [(.ref b1)]))
  refine own_go (fun zt zk => (XS.dup X1.here hx rfl (hb hby own_d12_3) rfl rfl (XS.aloadN X1.here hx rfl (hb hby own_d12_4) rfl rfl zk))) ?_
  show own_Go p e below s _ _ _ (T1.setTop (mkF m 5 #[rv a1] [(.ref a1), (.ref b1), (.ref b1)]))
  obtain ⟨T2, X2, e2, st2⟩ := getF X1 hx hZ hown (host := "") (Or.inl (hw _ (List.mem_of_getElem? (i := 51) rfl))) Via.refl e1 F1 (g := (mkF m 5 #[rv a1] [(.ref a1), (.ref b1), (.ref b1)])) rfl rfl (hb hby own_d12_5)
  refine own_go st2 ?_
  show own_Go p e below s _ _ _ (T2.setTop (mkF m 8 #[rv a1] [(.ref nm), (.ref b1), (.ref b1)]))
  refine own_go (fun zt zk => (XS.aloadN X2.here hx rfl (hb hby own_d12_8) rfl rfl zk)) ?_
  show own_Go p e below s _ _ _ (T2.setTop (mkF m 9 #[rv a1] [(.ref a1), (.ref nm), (.ref b1), (.ref b1)]))
  obtain ⟨T3, X3, e3, st3⟩ := getF X2 hx hZ hown (host := "") (Or.inl (hw _ (List.mem_of_getElem? (i := 53) rfl))) Via.refl e2 F2 (g := (mkF m 9 #[rv a1] [(.ref a1), (.ref nm), (.ref b1), (.ref b1)])) rfl rfl (hb hby own_d12_9)
  refine own_go st3 ?_
  show own_Go p e below s _ _ _ (T3.setTop (mkF m 12 #[rv a1] [(.ref tx), (.ref nm), (.ref b1), (.ref b1)]))
  refine own_go (fun zt zk => (XS.aloadN X3.here hx rfl (hb hby own_d12_12) rfl rfl zk)) ?_
  show own_Go p e below s _ _ _ (T3.setTop (mkF m 13 #[rv a1] [(.ref a1), (.ref tx), (.ref nm), (.ref b1), (.ref b1)]))
  obtain ⟨T4, X4, e4, st4⟩ := getF X3 hx hZ hown (host := "") (Or.inl (hw _ (List.mem_of_getElem? (i := 55) rfl))) Via.refl e3 F3 (g := (mkF m 13 #[rv a1] [(.ref a1), (.ref tx), (.ref nm), (.ref b1), (.ref b1)])) rfl rfl (hb hby own_d12_13)
  refine own_go st4 ?_
  show own_Go p e below s _ _ _ (T4.setTop (mkF m 16 #[rv a1] [(.ref op), (.ref tx), (.ref nm), (.ref b1), (.ref b1)]))
  refine own_go (fun zt zk => (XS.iconst X4.here hx rfl (hb hby own_d12_16) zk)) ?_
  show own_Go p e below s _ _ _ (T4.setTop (mkF m 17 #[rv a1] [(.int (1 : Int32)), (.ref op), (.ref tx), (.ref nm), (.ref b1), (.ref b1)]))
  obtain ⟨_, _, ⟨T5, L5, k5, n5⟩, -, X5, ⟨Lc5, hQ5, l5, y5, z5⟩, st5⟩ := X4.specialBack hx (y := (⟨"com/example/tranche/tranche/model/Row$Field", "<init>", "(Ljava/lang/String;Ljava/lang/String;Ljava/util/Optional;Z)V"⟩ : MethodName)) rfl hown (mvT hZ (hw _ (List.mem_of_getElem? (i := 42) rfl))) (mvT hZ (hw _ (List.mem_of_getElem? (i := 43) rfl))) (mvT hZ (hw _ (List.mem_of_getElem? (i := 44) rfl))) (by decide) (backOf (W := 1) (own_rfld1 l Z a0 hw [] b1 nm tx op  h1 n0 (Nat.le_trans Z0 Kp.1) Ex_b1 F_name_b1 F_text_b1 F_span_b1 F_spanFirst_b1 g_b1 ) hZ (hw _ (List.mem_of_getElem? (i := 44) rfl)) (hw _ (List.mem_of_getElem? (i := 33) rfl)) (by decide) (by decide)) (g := (mkF m 17 #[rv a1] [(.int (1 : Int32)), (.ref op), (.ref tx), (.ref nm), (.ref b1), (.ref b1)])) rfl (by rw [hml]; rfl) (Steps.refl _) (a := b1) (argsL := [(.ref nm), (.ref tx), (.ref op), (.int (1 : Int32))]) (rest := [(.ref b1)]) (lenOf own_pd__Ljava_lang_String_Ljava_lang_String_Ljava_util_Optional_Z_V rfl) rfl (by show 2 * 0 + _ ≤ _; exact Nat.le_of_eq rfl) (hb hby own_d12_17) (fun _ _ => ⟨rfl, e4, (by decide : 1 + 0 ≤ _), (by decide : 4 + 0 ≤ _)⟩)
  dsimp only [Pt.U, Pt.locs, Pt.cells, Pt.slots] at X5 l5 y5 z5 st5 hQ5
  subst y5 z5
  replace X5 := X5.mono (Nat.le_of_ble_eq_true rfl : _ ≤ 1) (Nat.le_of_ble_eq_true rfl : _ ≤ 4)
  obtain ⟨rfl, Nq5, K5, -, F_name_b1, F_text_b1, F_span_b1, F_spanFirst_b1⟩ := hQ5
  have N5 : Fr n0 L5 := by rw [l5]; exact Fr.app N0 Nq5
  refine own_go (fun zt zk => st5.trans zk) ?_
  replace F1 := F1.keep K5 (ninS ne_a1_b1 nin0)
  replace F2 := F2.keep K5 (ninS ne_a1_b1 nin0)
  replace F3 := F3.keep K5 (ninS ne_a1_b1 nin0)
  replace Kp := Kp.trans K5 (allS (Or.inr sz_b1) all0)
  replace Ex_b1 := Ex_b1.keep K5
  show own_Go p e below s _ _ _ (T5.setTop (mkF m 20 #[rv a1] [(.ref b1)]))
  exact own_fin X5 Bd.notSynchronized (fun h => by rw [Bd.returns] at h; cases h) (fun fs hr => retOut X5 hx (t := (.object "com/example/tranche/tranche/model/Row$Field")) (w := (.ref b1)) Bd.returns rfl (Or.inr (Or.inr (Or.inr (Or.inr ⟨rfl, rfl, rfl⟩)))) (hb hby own_d12_20) hr) ⟨_, rfl, N5, Kp, sz_b1, Ex_b1, F_name_b1, F_text_b1, F_span_b1, F_spanFirst_b1⟩ (by decide) (by decide)
theorem own_d13_0 : decode prog_34_method_9_code 0 = .ok (.aload_n 0, 1) := by decide +kernel
theorem own_d13_1 : decode prog_34_method_9_code 1 = .ok (.getfield 7, 3) := by decide +kernel
theorem own_d13_4 : decode prog_34_method_9_code 4 = .ok (.areturn, 1) := by decide +kernel
theorem own_ef_own_gname (m : MethodId) (a1 : Addr) : entryFrame m #[(.ref a1)] 1 = mkF m 0 #[rv a1] [] := by first | (simp [entryFrame, mkF, argsToLocals, Value.category]; done) | rfl
def own_Q_own_gname (Z : State) (a1 : Addr) (b : Addr) (h0 : Heap) (n0 : Nat) (v : Option Value) (h : Heap) (L : List Loc) : Prop := v = some (.ref b) ∧ Fr n0 L ∧ h = h0
set_option maxRecDepth 65536 in
set_option maxHeartbeats 40000000 in
theorem own_gname (l : Launch) (Z : State) (a0 : Array Value) (hw : ∀ d ∈ tables_1, d.before a0 Z = true) (ws : List Jvm.Cond) (a1 : Addr) (b : Addr) (h0 : Heap) (n0 : Nat) (Z0 : n0 ≤ h0.size) (F1 : Fld Z h0 a1 "com/example/tranche/tranche/model/Row$Field" "name" "Ljava/lang/String;" (.ref b))  :
    MetFree l (⟨"com/example/tranche/tranche/model/Row$Field", "name", "()Ljava/lang/String;"⟩ : MethodName) (head1 (Jvm.Cond.code (⟨"com/example/tranche/tranche/model/Row$Field", "name", "()Ljava/lang/String;"⟩ : MethodName) prog_34_method_9_code 1 (some (.object "java/lang/String")) :: ws) ({ frames := 0, cells := 0, slots := 0, locals := 0 } : Room)) (fun a U => a = #[(.ref a1)] ∧ Z.Warmed39 U.vm ∧ U.heap = h0) (fun _ _ _ _ _ => True) (fun _ U o U' => ∃ v L, o = .returned v ∧ own_Q_own_gname Z a1 b h0 n0 v U'.heap L ∧ FrameEnd U o U' L ({ frames := 0, cells := 0, slots := 0, locals := 0 } : Room).cells ({ frames := 0, cells := 0, slots := 0, locals := 0 } : Room).slots) := by
  refine MetFree.of_bodySF (plainFor_of_name own_pn_com_example_tranche_tranche_model_Row_Field) hisR ?_
  intro p e s m args below meth c s₁ Bd hml0 hP hK
  obtain ⟨rfl, hZ, hh⟩ := hP
  have hx := Bd.exec
  have hby := Bd.bytes
  have hml : c.maxLocals = 1 := hml0
  have hown : s.vm.findClass "com/example/tranche/tranche/model/Row$Field" = some m.cls := findClass_of_methodNamed Bd.named
  have hnm := (name_of_methodNamed Bd.named Bd.method).1
  have X0 : Stand p l e ({ frames := 0, cells := 0, slots := 0, locals := 0 } : Room) s m #[(.ref a1)] below meth c s₁ [] 0 0 := Stand.of_body Bd
  have e0 : s₁.heap = h0 := by rw [← hh, Bd.state]; rfl
  have N0 := Fr.nil n0
  show own_Go p e below s (own_Q_own_gname Z a1 b h0 n0) ({ frames := 0, cells := 0, slots := 0, locals := 0 } : Room).cells ({ frames := 0, cells := 0, slots := 0, locals := 0 } : Room).slots (s₁.setTop (entryFrame m #[(.ref a1)] 1))
  refine own_go (fun zt zk => castTop (own_ef_own_gname m a1) zk) ?_
  show own_Go p e below s _ _ _ (s₁.setTop (mkF m 0 #[rv a1] []))
  refine own_go (fun zt zk => (XS.aloadN X0.here hx rfl (hb hby own_d13_0) rfl rfl zk)) ?_
  show own_Go p e below s _ _ _ (s₁.setTop (mkF m 1 #[rv a1] [(.ref a1)]))
  obtain ⟨T1, X1, e1, st1⟩ := getF X0 hx hZ hown (host := "") (Or.inl (hw _ (List.mem_of_getElem? (i := 51) rfl))) Via.refl e0 F1 (g := (mkF m 1 #[rv a1] [(.ref a1)])) rfl rfl (hb hby own_d13_1)
  refine own_go st1 ?_
  show own_Go p e below s _ _ _ (T1.setTop (mkF m 4 #[rv a1] [(.ref b)]))
  exact own_fin X1 Bd.notSynchronized (fun h => by rw [Bd.returns] at h; cases h) (fun fs hr => retOut X1 hx (t := (.object "java/lang/String")) (w := (.ref b)) Bd.returns rfl (Or.inr (Or.inr (Or.inr (Or.inr ⟨rfl, rfl, rfl⟩)))) (hb hby own_d13_4) hr) (by rw [e1]; exact ⟨rfl, N0, rfl⟩) (by decide) (by decide)
theorem own_d15_0 : decode prog_34_method_10_code 0 = .ok (.aload_n 0, 1) := by decide +kernel
theorem own_d15_1 : decode prog_34_method_10_code 1 = .ok (.getfield 13, 3) := by decide +kernel
theorem own_d15_4 : decode prog_34_method_10_code 4 = .ok (.areturn, 1) := by decide +kernel
theorem own_ef_own_gtext (m : MethodId) (a1 : Addr) : entryFrame m #[(.ref a1)] 1 = mkF m 0 #[rv a1] [] := by first | (simp [entryFrame, mkF, argsToLocals, Value.category]; done) | rfl
def own_Q_own_gtext (Z : State) (a1 : Addr) (b : Addr) (h0 : Heap) (n0 : Nat) (v : Option Value) (h : Heap) (L : List Loc) : Prop := v = some (.ref b) ∧ Fr n0 L ∧ h = h0
set_option maxRecDepth 65536 in
set_option maxHeartbeats 40000000 in
theorem own_gtext (l : Launch) (Z : State) (a0 : Array Value) (hw : ∀ d ∈ tables_1, d.before a0 Z = true) (ws : List Jvm.Cond) (a1 : Addr) (b : Addr) (h0 : Heap) (n0 : Nat) (Z0 : n0 ≤ h0.size) (F1 : Fld Z h0 a1 "com/example/tranche/tranche/model/Row$Field" "text" "Ljava/lang/String;" (.ref b))  :
    MetFree l (⟨"com/example/tranche/tranche/model/Row$Field", "text", "()Ljava/lang/String;"⟩ : MethodName) (head1 (Jvm.Cond.code (⟨"com/example/tranche/tranche/model/Row$Field", "text", "()Ljava/lang/String;"⟩ : MethodName) prog_34_method_10_code 1 (some (.object "java/lang/String")) :: ws) ({ frames := 0, cells := 0, slots := 0, locals := 0 } : Room)) (fun a U => a = #[(.ref a1)] ∧ Z.Warmed39 U.vm ∧ U.heap = h0) (fun _ _ _ _ _ => True) (fun _ U o U' => ∃ v L, o = .returned v ∧ own_Q_own_gtext Z a1 b h0 n0 v U'.heap L ∧ FrameEnd U o U' L ({ frames := 0, cells := 0, slots := 0, locals := 0 } : Room).cells ({ frames := 0, cells := 0, slots := 0, locals := 0 } : Room).slots) := by
  refine MetFree.of_bodySF (plainFor_of_name own_pn_com_example_tranche_tranche_model_Row_Field) hisR ?_
  intro p e s m args below meth c s₁ Bd hml0 hP hK
  obtain ⟨rfl, hZ, hh⟩ := hP
  have hx := Bd.exec
  have hby := Bd.bytes
  have hml : c.maxLocals = 1 := hml0
  have hown : s.vm.findClass "com/example/tranche/tranche/model/Row$Field" = some m.cls := findClass_of_methodNamed Bd.named
  have hnm := (name_of_methodNamed Bd.named Bd.method).1
  have X0 : Stand p l e ({ frames := 0, cells := 0, slots := 0, locals := 0 } : Room) s m #[(.ref a1)] below meth c s₁ [] 0 0 := Stand.of_body Bd
  have e0 : s₁.heap = h0 := by rw [← hh, Bd.state]; rfl
  have N0 := Fr.nil n0
  show own_Go p e below s (own_Q_own_gtext Z a1 b h0 n0) ({ frames := 0, cells := 0, slots := 0, locals := 0 } : Room).cells ({ frames := 0, cells := 0, slots := 0, locals := 0 } : Room).slots (s₁.setTop (entryFrame m #[(.ref a1)] 1))
  refine own_go (fun zt zk => castTop (own_ef_own_gtext m a1) zk) ?_
  show own_Go p e below s _ _ _ (s₁.setTop (mkF m 0 #[rv a1] []))
  refine own_go (fun zt zk => (XS.aloadN X0.here hx rfl (hb hby own_d15_0) rfl rfl zk)) ?_
  show own_Go p e below s _ _ _ (s₁.setTop (mkF m 1 #[rv a1] [(.ref a1)]))
  obtain ⟨T1, X1, e1, st1⟩ := getF X0 hx hZ hown (host := "") (Or.inl (hw _ (List.mem_of_getElem? (i := 53) rfl))) Via.refl e0 F1 (g := (mkF m 1 #[rv a1] [(.ref a1)])) rfl rfl (hb hby own_d15_1)
  refine own_go st1 ?_
  show own_Go p e below s _ _ _ (T1.setTop (mkF m 4 #[rv a1] [(.ref b)]))
  exact own_fin X1 Bd.notSynchronized (fun h => by rw [Bd.returns] at h; cases h) (fun fs hr => retOut X1 hx (t := (.object "java/lang/String")) (w := (.ref b)) Bd.returns rfl (Or.inr (Or.inr (Or.inr (Or.inr ⟨rfl, rfl, rfl⟩)))) (hb hby own_d15_4) hr) (by rw [e1]; exact ⟨rfl, N0, rfl⟩) (by decide) (by decide)
theorem own_d11_0 : decode prog_34_method_11_code 0 = .ok (.aload_n 0, 1) := by decide +kernel
theorem own_d11_1 : decode prog_34_method_11_code 1 = .ok (.getfield 16, 3) := by decide +kernel
theorem own_d11_4 : decode prog_34_method_11_code 4 = .ok (.areturn, 1) := by decide +kernel
theorem own_ef_own_gspan (m : MethodId) (a1 : Addr) : entryFrame m #[(.ref a1)] 1 = mkF m 0 #[rv a1] [] := by first | (simp [entryFrame, mkF, argsToLocals, Value.category]; done) | rfl
def own_Q_own_gspan (Z : State) (a1 : Addr) (b : Addr) (h0 : Heap) (n0 : Nat) (v : Option Value) (h : Heap) (L : List Loc) : Prop := v = some (.ref b) ∧ Fr n0 L ∧ h = h0
set_option maxRecDepth 65536 in
set_option maxHeartbeats 40000000 in
theorem own_gspan (l : Launch) (Z : State) (a0 : Array Value) (hw : ∀ d ∈ tables_1, d.before a0 Z = true) (ws : List Jvm.Cond) (a1 : Addr) (b : Addr) (h0 : Heap) (n0 : Nat) (Z0 : n0 ≤ h0.size) (F1 : Fld Z h0 a1 "com/example/tranche/tranche/model/Row$Field" "span" "Ljava/util/Optional;" (.ref b))  :
    MetFree l (⟨"com/example/tranche/tranche/model/Row$Field", "span", "()Ljava/util/Optional;"⟩ : MethodName) (head1 (Jvm.Cond.code (⟨"com/example/tranche/tranche/model/Row$Field", "span", "()Ljava/util/Optional;"⟩ : MethodName) prog_34_method_11_code 1 (some (.object "java/util/Optional")) :: ws) ({ frames := 0, cells := 0, slots := 0, locals := 0 } : Room)) (fun a U => a = #[(.ref a1)] ∧ Z.Warmed39 U.vm ∧ U.heap = h0) (fun _ _ _ _ _ => True) (fun _ U o U' => ∃ v L, o = .returned v ∧ own_Q_own_gspan Z a1 b h0 n0 v U'.heap L ∧ FrameEnd U o U' L ({ frames := 0, cells := 0, slots := 0, locals := 0 } : Room).cells ({ frames := 0, cells := 0, slots := 0, locals := 0 } : Room).slots) := by
  refine MetFree.of_bodySF (plainFor_of_name own_pn_com_example_tranche_tranche_model_Row_Field) hisR ?_
  intro p e s m args below meth c s₁ Bd hml0 hP hK
  obtain ⟨rfl, hZ, hh⟩ := hP
  have hx := Bd.exec
  have hby := Bd.bytes
  have hml : c.maxLocals = 1 := hml0
  have hown : s.vm.findClass "com/example/tranche/tranche/model/Row$Field" = some m.cls := findClass_of_methodNamed Bd.named
  have hnm := (name_of_methodNamed Bd.named Bd.method).1
  have X0 : Stand p l e ({ frames := 0, cells := 0, slots := 0, locals := 0 } : Room) s m #[(.ref a1)] below meth c s₁ [] 0 0 := Stand.of_body Bd
  have e0 : s₁.heap = h0 := by rw [← hh, Bd.state]; rfl
  have N0 := Fr.nil n0
  show own_Go p e below s (own_Q_own_gspan Z a1 b h0 n0) ({ frames := 0, cells := 0, slots := 0, locals := 0 } : Room).cells ({ frames := 0, cells := 0, slots := 0, locals := 0 } : Room).slots (s₁.setTop (entryFrame m #[(.ref a1)] 1))
  refine own_go (fun zt zk => castTop (own_ef_own_gspan m a1) zk) ?_
  show own_Go p e below s _ _ _ (s₁.setTop (mkF m 0 #[rv a1] []))
  refine own_go (fun zt zk => (XS.aloadN X0.here hx rfl (hb hby own_d11_0) rfl rfl zk)) ?_
  show own_Go p e below s _ _ _ (s₁.setTop (mkF m 1 #[rv a1] [(.ref a1)]))
  obtain ⟨T1, X1, e1, st1⟩ := getF X0 hx hZ hown (host := "") (Or.inl (hw _ (List.mem_of_getElem? (i := 55) rfl))) Via.refl e0 F1 (g := (mkF m 1 #[rv a1] [(.ref a1)])) rfl rfl (hb hby own_d11_1)
  refine own_go st1 ?_
  show own_Go p e below s _ _ _ (T1.setTop (mkF m 4 #[rv a1] [(.ref b)]))
  exact own_fin X1 Bd.notSynchronized (fun h => by rw [Bd.returns] at h; cases h) (fun fs hr => retOut X1 hx (t := (.object "java/util/Optional")) (w := (.ref b)) Bd.returns rfl (Or.inr (Or.inr (Or.inr (Or.inr ⟨rfl, rfl, rfl⟩)))) (hb hby own_d11_4) hr) (by rw [e1]; exact ⟨rfl, N0, rfl⟩) (by decide) (by decide)
theorem own_d16_0 : decode prog_34_method_12_code 0 = .ok (.aload_n 0, 1) := by decide +kernel
theorem own_d16_1 : decode prog_34_method_12_code 1 = .ok (.getfield 20, 3) := by decide +kernel
theorem own_d16_4 : decode prog_34_method_12_code 4 = .ok (.ireturn, 1) := by decide +kernel
theorem own_ef_own_gsf (m : MethodId) (a1 : Addr) : entryFrame m #[(.ref a1)] 1 = mkF m 0 #[rv a1] [] := by first | (simp [entryFrame, mkF, argsToLocals, Value.category]; done) | rfl
def own_Q_own_gsf (Z : State) (a1 : Addr) (b : Int32) (h0 : Heap) (n0 : Nat) (v : Option Value) (h : Heap) (L : List Loc) : Prop := v = some (.int b) ∧ Fr n0 L ∧ h = h0
set_option maxRecDepth 65536 in
set_option maxHeartbeats 40000000 in
theorem own_gsf (l : Launch) (Z : State) (a0 : Array Value) (hw : ∀ d ∈ tables_1, d.before a0 Z = true) (ws : List Jvm.Cond) (a1 : Addr) (b : Int32) (h0 : Heap) (n0 : Nat) (Z0 : n0 ≤ h0.size) (F1 : Fld Z h0 a1 "com/example/tranche/tranche/model/Row$Field" "spanFirst" "Z" (.int b)) (hnar : some (Value.int (nar .boolean b)) = some (Value.int b)) :
    MetFree l (⟨"com/example/tranche/tranche/model/Row$Field", "spanFirst", "()Z"⟩ : MethodName) (head1 (Jvm.Cond.code (⟨"com/example/tranche/tranche/model/Row$Field", "spanFirst", "()Z"⟩ : MethodName) prog_34_method_12_code 1 (some .boolean) :: ws) ({ frames := 0, cells := 0, slots := 0, locals := 0 } : Room)) (fun a U => a = #[(.ref a1)] ∧ Z.Warmed39 U.vm ∧ U.heap = h0) (fun _ _ _ _ _ => True) (fun _ U o U' => ∃ v L, o = .returned v ∧ own_Q_own_gsf Z a1 b h0 n0 v U'.heap L ∧ FrameEnd U o U' L ({ frames := 0, cells := 0, slots := 0, locals := 0 } : Room).cells ({ frames := 0, cells := 0, slots := 0, locals := 0 } : Room).slots) := by
  refine MetFree.of_bodySF (plainFor_of_name own_pn_com_example_tranche_tranche_model_Row_Field) hisR ?_
  intro p e s m args below meth c s₁ Bd hml0 hP hK
  obtain ⟨rfl, hZ, hh⟩ := hP
  have hx := Bd.exec
  have hby := Bd.bytes
  have hml : c.maxLocals = 1 := hml0
  have hown : s.vm.findClass "com/example/tranche/tranche/model/Row$Field" = some m.cls := findClass_of_methodNamed Bd.named
  have hnm := (name_of_methodNamed Bd.named Bd.method).1
  have X0 : Stand p l e ({ frames := 0, cells := 0, slots := 0, locals := 0 } : Room) s m #[(.ref a1)] below meth c s₁ [] 0 0 := Stand.of_body Bd
  have e0 : s₁.heap = h0 := by rw [← hh, Bd.state]; rfl
  have N0 := Fr.nil n0
  show own_Go p e below s (own_Q_own_gsf Z a1 b h0 n0) ({ frames := 0, cells := 0, slots := 0, locals := 0 } : Room).cells ({ frames := 0, cells := 0, slots := 0, locals := 0 } : Room).slots (s₁.setTop (entryFrame m #[(.ref a1)] 1))
  refine own_go (fun zt zk => castTop (own_ef_own_gsf m a1) zk) ?_
  show own_Go p e below s _ _ _ (s₁.setTop (mkF m 0 #[rv a1] []))
  refine own_go (fun zt zk => (XS.aloadN X0.here hx rfl (hb hby own_d16_0) rfl rfl zk)) ?_
  show own_Go p e below s _ _ _ (s₁.setTop (mkF m 1 #[rv a1] [(.ref a1)]))
  obtain ⟨T1, X1, e1, st1⟩ := getF X0 hx hZ hown (host := "") (Or.inl (hw _ (List.mem_of_getElem? (i := 57) rfl))) Via.refl e0 F1 (g := (mkF m 1 #[rv a1] [(.ref a1)])) rfl rfl (hb hby own_d16_1)
  refine own_go st1 ?_
  show own_Go p e below s _ _ _ (T1.setTop (mkF m 4 #[rv a1] [(.int b)]))
  exact own_fin X1 Bd.notSynchronized (fun h => by rw [Bd.returns] at h; cases h) (fun fs hr => retN X1 hx (t := .boolean) Bd.returns (by simp) (hb hby own_d16_4) hr) (by rw [e1]; exact ⟨hnar, N0, rfl⟩) (by decide) (by decide)
theorem own_pd___C_V : parseMethodDescriptor "([C)V" = some ⟨[(.array .char)], none⟩ := by decide +kernel
theorem own_pd__Ljava_lang_String_Ljava_lang_String__Lcom_example_tranche_tranche_model_Row_Field_ : parseMethodDescriptor "(Ljava/lang/String;Ljava/lang/String;)Lcom/example/tranche/tranche/model/Row$Field;" = some ⟨[(.object "java/lang/String"), (.object "java/lang/String")], some (.object "com/example/tranche/tranche/model/Row$Field")⟩ := by decide +kernel
theorem own_pd___Lcom_example_tranche_tranche_model_Row_Field_ : parseMethodDescriptor "()Lcom/example/tranche/tranche/model/Row$Field;" = some ⟨[], some (.object "com/example/tranche/tranche/model/Row$Field")⟩ := by decide +kernel
theorem own_pd___Ljava_lang_String_ : parseMethodDescriptor "()Ljava/lang/String;" = some ⟨[], some (.object "java/lang/String")⟩ := by decide +kernel
theorem own_pd__Ljava_lang_Object__Z : parseMethodDescriptor "(Ljava/lang/Object;)Z" = some ⟨[(.object "java/lang/Object")], some .boolean⟩ := by decide +kernel
theorem own_pd___Z : parseMethodDescriptor "()Z" = some ⟨[], some .boolean⟩ := by decide +kernel
theorem own_pd__II_I : parseMethodDescriptor "(II)I" = some ⟨[.int, .int], some .int⟩ := by decide +kernel
theorem own_pd__II_V : parseMethodDescriptor "(II)V" = some ⟨[.int, .int], none⟩ := by decide +kernel
theorem own_pd__Ljava_lang_String_Ljava_lang_String_Lcom_example_tranche_tranche_model_Span__Lcom_example_tranche_tranche_model_Row_Field_ : parseMethodDescriptor "(Ljava/lang/String;Ljava/lang/String;Lcom/example/tranche/tranche/model/Span;)Lcom/example/tranche/tranche/model/Row$Field;" = some ⟨[(.object "java/lang/String"), (.object "java/lang/String"), (.object "com/example/tranche/tranche/model/Span")], some (.object "com/example/tranche/tranche/model/Row$Field")⟩ := by decide +kernel
theorem own_pn_com_example_tranche_tranche_model_FieldWithSpanFirstPinLaw : plainName "com/example/tranche/tranche/model/FieldWithSpanFirstPinLaw" = true := by first | (simp [plainName, overriddenIn]; done) | decide +kernel
theorem own_ef_own_law (m : MethodId) (p1 : Int32) (p2 : Int32) (p3 : Int32) (p4 : Int32) (p5 : Int32) : entryFrame m #[(.int p1), (.int p2), (.int p3), (.int p4), (.int p5)] maxLocals = mkF m 0 #[iv p1, iv p2, iv p3, iv p4, iv p5, .unset, .unset, .unset, .unset, .unset, .unset, .unset, .unset, .unset, .unset, .unset] [] := by first | (simp [entryFrame, mkF, argsToLocals, Value.category, maxLocals]; done) | rfl
def own_Q_own_law (Z : State) (p1 : Int32) (p2 : Int32) (p3 : Int32) (p4 : Int32) (p5 : Int32) (o_COMPACT_STRINGS : Int32) (o_SIOOBE_FORMATTER : Value) (o_EMPTY : Addr) (h0 : Heap) (n0 : Nat) (v : Option Value) (h : Heap) (L : List Loc) : Prop := v = some (.int 1) ∧ Fr n0 L
set_option maxRecDepth 65536 in
set_option maxHeartbeats 40000000 in
theorem own_law (l : Launch) (Z : State) (a0 : Array Value) (hw : ∀ d ∈ tables_1, d.before a0 Z = true) (ws : List Jvm.Cond) (p1 : Int32) (p2 : Int32) (p3 : Int32) (p4 : Int32) (p5 : Int32) (o_COMPACT_STRINGS : Int32) (o_SIOOBE_FORMATTER : Value) (o_EMPTY : Addr) (h0 : Heap) (n0 : Nat) (Z0 : n0 ≤ h0.size) (O : Old Z n0 h0) (S_o_COMPACT_STRINGS : Sta Z Z.heap "java/lang/String" "COMPACT_STRINGS" "Z" (.int o_COMPACT_STRINGS)) (S_o_SIOOBE_FORMATTER : Sta Z Z.heap "jdk/internal/util/Preconditions" "SIOOBE_FORMATTER" "Ljava/util/function/BiFunction;" o_SIOOBE_FORMATTER) (S_o_EMPTY : Sta Z Z.heap "java/util/Optional" "EMPTY" "Ljava/util/Optional;" (.ref o_EMPTY)) (Ex_o_EMPTY : Exa Z Z.heap o_EMPTY "java/util/Optional") (F_o_EMPTY_value : Fld Z Z.heap o_EMPTY "java/util/Optional" "value" "Ljava/lang/Object;" .null) (nz_o_COMPACT_STRINGS : ¬ (o_COMPACT_STRINGS = (0 : Int32))) (r_o_SIOOBE_FORMATTER : o_SIOOBE_FORMATTER.isRef = true) :
    MetFree l x (head1 (Jvm.Cond.code x code maxLocals ret :: ws) room_1) (fun a U => a = #[(.int p1), (.int p2), (.int p3), (.int p4), (.int p5)] ∧ Z.Warmed39 U.vm ∧ U.heap = h0) (fun _ _ _ _ _ => True) (fun _ U o U' => ∃ v L, o = .returned v ∧ own_Q_own_law Z p1 p2 p3 p4 p5 o_COMPACT_STRINGS o_SIOOBE_FORMATTER o_EMPTY h0 n0 v U'.heap L ∧ FrameEnd U o U' L room_1.cells room_1.slots) := by
  refine MetFree.of_bodySF (plainFor_of_name own_pn_com_example_tranche_tranche_model_FieldWithSpanFirstPinLaw) hisR ?_
  intro p e s m args below meth c s₁ Bd hml0 hP hK
  obtain ⟨rfl, hZ, hh⟩ := hP
  have hx := Bd.exec
  have hby := Bd.bytes
  have hml : c.maxLocals = 16 := hml0
  have hown : s.vm.findClass "com/example/tranche/tranche/model/FieldWithSpanFirstPinLaw" = some m.cls := findClass_of_methodNamed Bd.named
  have hnm := (name_of_methodNamed Bd.named Bd.method).1
  have X0 : Stand p l e room_1 s m #[(.int p1), (.int p2), (.int p3), (.int p4), (.int p5)] below meth c s₁ [] 0 0 := Stand.of_body Bd
  have e0 : s₁.heap = h0 := by rw [← hh, Bd.state]; rfl
  have N0 := Fr.nil n0
  have Kp : Keep h0 h0 [] := Keep.refl h0 _
  show own_Go p e below s (own_Q_own_law Z p1 p2 p3 p4 p5 o_COMPACT_STRINGS o_SIOOBE_FORMATTER o_EMPTY h0 n0) room_1.cells room_1.slots (s₁.setTop (entryFrame m #[(.int p1), (.int p2), (.int p3), (.int p4), (.int p5)] maxLocals))
  refine own_go (fun zt zk => castTop (own_ef_own_law m p1 p2 p3 p4 p5) zk) ?_
  show own_Go p e below s _ _ _ (s₁.setTop (mkF m 0 #[iv p1, iv p2, iv p3, iv p4, iv p5, .unset, .unset, .unset, .unset, .unset, .unset, .unset, .unset, .unset, .unset, .unset] []))
  refine own_go (fun zt zk => (XS.iconst X0.here hx rfl (hb hby at_0) zk)) ?_
  show own_Go p e below s _ _ _ (s₁.setTop (mkF m 1 #[iv p1, iv p2, iv p3, iv p4, iv p5, .unset, .unset, .unset, .unset, .unset, .unset, .unset, .unset, .unset, .unset, .unset] [(.int (2 : Int32))]))
  obtain ⟨T1, h1, k1, X1, e1, E1, A1, Ea1, st1⟩ := newPE X0 hx hZ (hw _ (List.mem_of_getElem? (i := 0) rfl)) e0 (g := (mkF m 1 #[iv p1, iv p2, iv p3, iv p4, iv p5, .unset, .unset, .unset, .unset, .unset, .unset, .unset, .unset, .unset, .unset, .unset] [(.int (2 : Int32))])) rfl (hb hby at_1) rfl (by decide) (cap := 2) (by decide) (by decide) (by decide) (by decide) (ad := "[C") (by decide)
  obtain ⟨b1, g1⟩ : ∃ z, z = h0.size := ⟨_, rfl⟩
  rw [← g1] at A1 Ea1 st1
  refine own_go st1 ?_
  have ne_o_EMPTY_b1 : o_EMPTY ≠ b1 := Nat.ne_of_lt (Nat.lt_of_lt_of_le (Ex_o_EMPTY.ext O.2).lt (Nat.le_of_eq g1.symm))
  have sz_b1 : h0.size ≤ b1 := Nat.le_trans Kp.1 (Nat.le_of_eq g1.symm)
  have g_b1 : n0 ≤ b1 := Nat.le_trans Z0 sz_b1
  replace O := O.ext E1
  replace Kp := Kp.ext E1
  have V_b1 : Arv Z h1 b1 k1 .char (2 : Int32) [(.int (0 : Int32)), (.int (0 : Int32))] (.int (0 : Int32)) := (Arv.new A1 (by decide)).pad (pad_rep [] (.int (0 : Int32)) 2)
  have Ea_b1 := Ea1
  show own_Go p e below s _ _ _ (T1.setTop (mkF m 3 #[iv p1, iv p2, iv p3, iv p4, iv p5, .unset, .unset, .unset, .unset, .unset, .unset, .unset, .unset, .unset, .unset, .unset] [(.ref b1)]))
  refine own_go (fun zt zk => (XS.dup X1.here hx rfl (hb hby at_3) rfl rfl (XS.iconst X1.here hx rfl (hb hby at_4) (XS.iloadN X1.here hx rfl (hb hby at_5) rfl (XS.sipush X1.here hx rfl (hb hby at_6) (XS.iand X1.here hx rfl (hb hby at_9) rfl (XS.i2c X1.here hx rfl (hb hby at_10) rfl zk))))))) ?_
  show own_Go p e below s _ _ _ (T1.setTop (mkF m 11 #[iv p1, iv p2, iv p3, iv p4, iv p5, .unset, .unset, .unset, .unset, .unset, .unset, .unset, .unset, .unset, .unset, .unset] [(.int ((p1 &&& (255 : Int32)).toUInt32.toUInt16.toUInt32.toInt32)), (.int (0 : Int32)), (.ref b1), (.ref b1)]))
  rw [i2c_mask]
  generalize hv_c2 : (p1 &&& (255 : Int32)) = c2
  have hr_c2 := own_r255 hv_c2
  show own_Go p e below s _ _ _ (T1.setTop (mkF m 11 #[iv p1, iv p2, iv p3, iv p4, iv p5, .unset, .unset, .unset, .unset, .unset, .unset, .unset, .unset, .unset, .unset, .unset] [(.int c2), (.int (0 : Int32)), (.ref b1), (.ref b1)]))
  obtain ⟨cl3, Ar3, q3, Sz3, Nz3, Ha3, Ga3⟩ := id V_b1
  have hin3 : ¬ ((0 : Int32) < 0 ∨ cl3.slots.size ≤ ((0 : Int32)).toNatClampNeg) := inb_of Sz3 ⟨by decide, by decide⟩
  obtain ⟨T4, h4, X4, e4, W4, st4⟩ := stC X1 hx hZ e1 Ar3 (j := (0 : Int32)) hin3 (g := (mkF m 11 #[iv p1, iv p2, iv p3, iv p4, iv p5, .unset, .unset, .unset, .unset, .unset, .unset, .unset, .unset, .unset, .unset, .unset] [(.int c2), (.int (0 : Int32)), (.ref b1), (.ref b1)])) rfl rfl (hb hby at_11)
  refine own_go st4 ?_
  rw [show nar .char c2 = c2 from own_narc hr_c2] at W4
  have V4 := Arv.set Ar3 q3 Sz3 Nz3 Ha3 Ga3 (own_fitc hr_c2) W4 0 rfl (Nat.le_of_ble_eq_true rfl)
  have N4 := Fr.snoc X4 N0 g_b1
  replace O := O.wr W4 g_b1
  replace Kp := Kp.wr W4 (Or.inr sz_b1)
  replace Ea_b1 := Ea_b1.wr W4
  replace V_b1 : Arv Z h4 b1 k1 .char (2 : Int32) [(.int c2), (.int (0 : Int32))] (.int (0 : Int32)) := V4
  show own_Go p e below s _ _ _ (T4.setTop (mkF m 12 #[iv p1, iv p2, iv p3, iv p4, iv p5, .unset, .unset, .unset, .unset, .unset, .unset, .unset, .unset, .unset, .unset, .unset] [(.ref b1)]))
  refine own_go (fun zt zk => (XS.dup X4.here hx rfl (hb hby at_12) rfl rfl (XS.iconst X4.here hx rfl (hb hby at_13) (XS.iloadN X4.here hx rfl (hb hby at_14) rfl (XS.bipush X4.here hx rfl (hb hby at_15) (XS.iushr X4.here hx rfl (hb hby at_17) rfl (XS.sipush X4.here hx rfl (hb hby at_18) (XS.iand X4.here hx rfl (hb hby at_21) rfl (XS.i2c X4.here hx rfl (hb hby at_22) rfl zk))))))))) ?_
  show own_Go p e below s _ _ _ (T4.setTop (mkF m 23 #[iv p1, iv p2, iv p3, iv p4, iv p5, .unset, .unset, .unset, .unset, .unset, .unset, .unset, .unset, .unset, .unset, .unset] [(.int ((((p1.toUInt32 >>> ((8 : Int32) &&& 31).toUInt32).toInt32) &&& (255 : Int32)).toUInt32.toUInt16.toUInt32.toInt32)), (.int (1 : Int32)), (.ref b1), (.ref b1)]))
  rw [i2c_mask]
  generalize hv_c5 : (((p1.toUInt32 >>> ((8 : Int32) &&& 31).toUInt32).toInt32) &&& (255 : Int32)) = c5
  have hr_c5 := own_r255 hv_c5
  show own_Go p e below s _ _ _ (T4.setTop (mkF m 23 #[iv p1, iv p2, iv p3, iv p4, iv p5, .unset, .unset, .unset, .unset, .unset, .unset, .unset, .unset, .unset, .unset, .unset] [(.int c5), (.int (1 : Int32)), (.ref b1), (.ref b1)]))
  obtain ⟨cl6, Ar6, q6, Sz6, Nz6, Ha6, Ga6⟩ := id V_b1
  have hin6 : ¬ ((1 : Int32) < 0 ∨ cl6.slots.size ≤ ((1 : Int32)).toNatClampNeg) := inb_of Sz6 ⟨by decide, by decide⟩
  obtain ⟨T7, h7, X7, e7, W7, st7⟩ := stC X4 hx hZ e4 Ar6 (j := (1 : Int32)) hin6 (g := (mkF m 23 #[iv p1, iv p2, iv p3, iv p4, iv p5, .unset, .unset, .unset, .unset, .unset, .unset, .unset, .unset, .unset, .unset, .unset] [(.int c5), (.int (1 : Int32)), (.ref b1), (.ref b1)])) rfl rfl (hb hby at_23)
  refine own_go st7 ?_
  rw [show nar .char c5 = c5 from own_narc hr_c5] at W7
  have V7 := Arv.set Ar6 q6 Sz6 Nz6 Ha6 Ga6 (own_fitc hr_c5) W7 1 rfl (Nat.le_of_ble_eq_true rfl)
  have N7 := Fr.snoc X7 N4 g_b1
  replace O := O.wr W7 g_b1
  replace Kp := Kp.wr W7 (Or.inr sz_b1)
  replace Ea_b1 := Ea_b1.wr W7
  replace V_b1 : Arv Z h7 b1 k1 .char (2 : Int32) [(.int c2), (.int c5)] (.int (0 : Int32)) := V7
  show own_Go p e below s _ _ _ (T7.setTop (mkF m 24 #[iv p1, iv p2, iv p3, iv p4, iv p5, .unset, .unset, .unset, .unset, .unset, .unset, .unset, .unset, .unset, .unset, .unset] [(.ref b1)]))
  refine own_go (fun zt zk => (XS.astore X7.here hx rfl (hb hby at_24) rfl rfl (l' := #[iv p1, iv p2, iv p3, iv p4, iv p5, rv b1, .unset, .unset, .unset, .unset, .unset, .unset, .unset, .unset, .unset, .unset]) rfl (XS.iconst X7.here hx rfl (hb hby at_26) zk))) ?_
  show own_Go p e below s _ _ _ (T7.setTop (mkF m 27 #[iv p1, iv p2, iv p3, iv p4, iv p5, rv b1, .unset, .unset, .unset, .unset, .unset, .unset, .unset, .unset, .unset, .unset] [(.int (2 : Int32))]))
  obtain ⟨T8, h8, k8, X8, e8, E8, A8, Ea8, st8⟩ := newPE X7 hx hZ (hw _ (List.mem_of_getElem? (i := 0) rfl)) e7 (g := (mkF m 27 #[iv p1, iv p2, iv p3, iv p4, iv p5, rv b1, .unset, .unset, .unset, .unset, .unset, .unset, .unset, .unset, .unset, .unset] [(.int (2 : Int32))])) rfl (hb hby at_27) rfl (by decide) (cap := 2) (by decide) (by decide) (by decide) (by decide) (ad := "[C") (by decide)
  obtain ⟨b8, g8⟩ : ∃ z, z = h7.size := ⟨_, rfl⟩
  rw [← g8] at A8 Ea8 st8
  refine own_go st8 ?_
  have ne_o_EMPTY_b8 : o_EMPTY ≠ b8 := Nat.ne_of_lt (Nat.lt_of_lt_of_le (Ex_o_EMPTY.ext O.2).lt (Nat.le_of_eq g8.symm))
  have ne_b1_b8 : b1 ≠ b8 := Nat.ne_of_lt (Nat.lt_of_lt_of_le V_b1.lt (Nat.le_of_eq g8.symm))
  have sz_b8 : h0.size ≤ b8 := Nat.le_trans Kp.1 (Nat.le_of_eq g8.symm)
  have g_b8 : n0 ≤ b8 := Nat.le_trans Z0 sz_b8
  replace O := O.ext E8
  replace Kp := Kp.ext E8
  replace V_b1 := V_b1.ext E8
  replace Ea_b1 := Ea_b1.ext E8
  have V_b8 : Arv Z h8 b8 k8 .char (2 : Int32) [(.int (0 : Int32)), (.int (0 : Int32))] (.int (0 : Int32)) := (Arv.new A8 (by decide)).pad (pad_rep [] (.int (0 : Int32)) 2)
  have Ea_b8 := Ea8
  show own_Go p e below s _ _ _ (T8.setTop (mkF m 29 #[iv p1, iv p2, iv p3, iv p4, iv p5, rv b1, .unset, .unset, .unset, .unset, .unset, .unset, .unset, .unset, .unset, .unset] [(.ref b8)]))
  refine own_go (fun zt zk => (XS.dup X8.here hx rfl (hb hby at_29) rfl rfl (XS.iconst X8.here hx rfl (hb hby at_30) (XS.iloadN X8.here hx rfl (hb hby at_31) rfl (XS.sipush X8.here hx rfl (hb hby at_32) (XS.iand X8.here hx rfl (hb hby at_35) rfl (XS.i2c X8.here hx rfl (hb hby at_36) rfl zk))))))) ?_
  show own_Go p e below s _ _ _ (T8.setTop (mkF m 37 #[iv p1, iv p2, iv p3, iv p4, iv p5, rv b1, .unset, .unset, .unset, .unset, .unset, .unset, .unset, .unset, .unset, .unset] [(.int ((p2 &&& (255 : Int32)).toUInt32.toUInt16.toUInt32.toInt32)), (.int (0 : Int32)), (.ref b8), (.ref b8)]))
  rw [i2c_mask]
  generalize hv_c9 : (p2 &&& (255 : Int32)) = c9
  have hr_c9 := own_r255 hv_c9
  show own_Go p e below s _ _ _ (T8.setTop (mkF m 37 #[iv p1, iv p2, iv p3, iv p4, iv p5, rv b1, .unset, .unset, .unset, .unset, .unset, .unset, .unset, .unset, .unset, .unset] [(.int c9), (.int (0 : Int32)), (.ref b8), (.ref b8)]))
  obtain ⟨cl10, Ar10, q10, Sz10, Nz10, Ha10, Ga10⟩ := id V_b8
  have hin10 : ¬ ((0 : Int32) < 0 ∨ cl10.slots.size ≤ ((0 : Int32)).toNatClampNeg) := inb_of Sz10 ⟨by decide, by decide⟩
  obtain ⟨T11, h11, X11, e11, W11, st11⟩ := stC X8 hx hZ e8 Ar10 (j := (0 : Int32)) hin10 (g := (mkF m 37 #[iv p1, iv p2, iv p3, iv p4, iv p5, rv b1, .unset, .unset, .unset, .unset, .unset, .unset, .unset, .unset, .unset, .unset] [(.int c9), (.int (0 : Int32)), (.ref b8), (.ref b8)])) rfl rfl (hb hby at_37)
  refine own_go st11 ?_
  rw [show nar .char c9 = c9 from own_narc hr_c9] at W11
  have V11 := Arv.set Ar10 q10 Sz10 Nz10 Ha10 Ga10 (own_fitc hr_c9) W11 0 rfl (Nat.le_of_ble_eq_true rfl)
  have N11 := Fr.snoc X11 N7 g_b8
  replace O := O.wr W11 g_b8
  replace Kp := Kp.wr W11 (Or.inr sz_b8)
  replace V_b1 := V_b1.other W11 ne_b1_b8
  replace Ea_b1 := Ea_b1.wr W11
  replace Ea_b8 := Ea_b8.wr W11
  replace V_b8 : Arv Z h11 b8 k8 .char (2 : Int32) [(.int c9), (.int (0 : Int32))] (.int (0 : Int32)) := V11
  show own_Go p e below s _ _ _ (T11.setTop (mkF m 38 #[iv p1, iv p2, iv p3, iv p4, iv p5, rv b1, .unset, .unset, .unset, .unset, .unset, .unset, .unset, .unset, .unset, .unset] [(.ref b8)]))
  refine own_go (fun zt zk => (XS.dup X11.here hx rfl (hb hby at_38) rfl rfl (XS.iconst X11.here hx rfl (hb hby at_39) (XS.iloadN X11.here hx rfl (hb hby at_40) rfl (XS.bipush X11.here hx rfl (hb hby at_41) (XS.iushr X11.here hx rfl (hb hby at_43) rfl (XS.sipush X11.here hx rfl (hb hby at_44) (XS.iand X11.here hx rfl (hb hby at_47) rfl (XS.i2c X11.here hx rfl (hb hby at_48) rfl zk))))))))) ?_
  show own_Go p e below s _ _ _ (T11.setTop (mkF m 49 #[iv p1, iv p2, iv p3, iv p4, iv p5, rv b1, .unset, .unset, .unset, .unset, .unset, .unset, .unset, .unset, .unset, .unset] [(.int ((((p2.toUInt32 >>> ((8 : Int32) &&& 31).toUInt32).toInt32) &&& (255 : Int32)).toUInt32.toUInt16.toUInt32.toInt32)), (.int (1 : Int32)), (.ref b8), (.ref b8)]))
  rw [i2c_mask]
  generalize hv_c12 : (((p2.toUInt32 >>> ((8 : Int32) &&& 31).toUInt32).toInt32) &&& (255 : Int32)) = c12
  have hr_c12 := own_r255 hv_c12
  show own_Go p e below s _ _ _ (T11.setTop (mkF m 49 #[iv p1, iv p2, iv p3, iv p4, iv p5, rv b1, .unset, .unset, .unset, .unset, .unset, .unset, .unset, .unset, .unset, .unset] [(.int c12), (.int (1 : Int32)), (.ref b8), (.ref b8)]))
  obtain ⟨cl13, Ar13, q13, Sz13, Nz13, Ha13, Ga13⟩ := id V_b8
  have hin13 : ¬ ((1 : Int32) < 0 ∨ cl13.slots.size ≤ ((1 : Int32)).toNatClampNeg) := inb_of Sz13 ⟨by decide, by decide⟩
  obtain ⟨T14, h14, X14, e14, W14, st14⟩ := stC X11 hx hZ e11 Ar13 (j := (1 : Int32)) hin13 (g := (mkF m 49 #[iv p1, iv p2, iv p3, iv p4, iv p5, rv b1, .unset, .unset, .unset, .unset, .unset, .unset, .unset, .unset, .unset, .unset] [(.int c12), (.int (1 : Int32)), (.ref b8), (.ref b8)])) rfl rfl (hb hby at_49)
  refine own_go st14 ?_
  rw [show nar .char c12 = c12 from own_narc hr_c12] at W14
  have V14 := Arv.set Ar13 q13 Sz13 Nz13 Ha13 Ga13 (own_fitc hr_c12) W14 1 rfl (Nat.le_of_ble_eq_true rfl)
  have N14 := Fr.snoc X14 N11 g_b8
  replace O := O.wr W14 g_b8
  replace Kp := Kp.wr W14 (Or.inr sz_b8)
  replace V_b1 := V_b1.other W14 ne_b1_b8
  replace Ea_b1 := Ea_b1.wr W14
  replace Ea_b8 := Ea_b8.wr W14
  replace V_b8 : Arv Z h14 b8 k8 .char (2 : Int32) [(.int c9), (.int c12)] (.int (0 : Int32)) := V14
  show own_Go p e below s _ _ _ (T14.setTop (mkF m 50 #[iv p1, iv p2, iv p3, iv p4, iv p5, rv b1, .unset, .unset, .unset, .unset, .unset, .unset, .unset, .unset, .unset, .unset] [(.ref b8)]))
  refine own_go (fun zt zk => (XS.astore X14.here hx rfl (hb hby at_50) rfl rfl (l' := #[iv p1, iv p2, iv p3, iv p4, iv p5, rv b1, rv b8, .unset, .unset, .unset, .unset, .unset, .unset, .unset, .unset, .unset]) rfl zk)) ?_
  show own_Go p e below s _ _ _ (T14.setTop (mkF m 52 #[iv p1, iv p2, iv p3, iv p4, iv p5, rv b1, rv b8, .unset, .unset, .unset, .unset, .unset, .unset, .unset, .unset, .unset] []))
  obtain ⟨T15, h15, X15, e15, E15, A15, D15, -, st15⟩ := newO X14 hx hZ hown (hw _ (List.mem_of_getElem? (i := 1) rfl)) (hw _ (List.mem_of_getElem? (i := 2) rfl)) (hw _ (List.mem_of_getElem? (i := 3) rfl)) e14 (g := (mkF m 52 #[iv p1, iv p2, iv p3, iv p4, iv p5, rv b1, rv b8, .unset, .unset, .unset, .unset, .unset, .unset, .unset, .unset, .unset] [])) rfl (hb hby at_52) (by decide) (by decide)
  obtain ⟨b15, g15⟩ : ∃ z, z = h14.size := ⟨_, rfl⟩
  rw [← g15] at A15 D15 st15
  refine own_go st15 ?_
  have ne_o_EMPTY_b15 : o_EMPTY ≠ b15 := Nat.ne_of_lt (Nat.lt_of_lt_of_le (Ex_o_EMPTY.ext O.2).lt (Nat.le_of_eq g15.symm))
  have ne_b1_b15 : b1 ≠ b15 := Nat.ne_of_lt (Nat.lt_of_lt_of_le V_b1.lt (Nat.le_of_eq g15.symm))
  have ne_b8_b15 : b8 ≠ b15 := Nat.ne_of_lt (Nat.lt_of_lt_of_le V_b8.lt (Nat.le_of_eq g15.symm))
  have sz_b15 : h0.size ≤ b15 := Nat.le_trans Kp.1 (Nat.le_of_eq g15.symm)
  have g_b15 : n0 ≤ b15 := Nat.le_trans Z0 sz_b15
  replace O := O.ext E15
  replace Kp := Kp.ext E15
  replace V_b1 := V_b1.ext E15
  replace Ea_b1 := Ea_b1.ext E15
  replace V_b8 := V_b8.ext E15
  replace Ea_b8 := Ea_b8.ext E15
  have Ex_b15 := A15
  have F_coder_b15 : Fld Z h15 b15 "java/lang/String" "coder" "B" (.int (0 : Int32)) := D15 (Or.inr (hw _ (List.mem_of_getElem? (i := 27) rfl))) (ty := .byte) (by decide)
  have F_value_b15 : Fld Z h15 b15 "java/lang/String" "value" "[B" .null := D15 (Or.inr (hw _ (List.mem_of_getElem? (i := 29) rfl))) (ty := (.array .byte)) (by decide)
  show own_Go p e below s _ _ _ (T15.setTop (mkF m 55 #[iv p1, iv p2, iv p3, iv p4, iv p5, rv b1, rv b8, .unset, .unset, .unset, .unset, .unset, .unset, .unset, .unset, .unset] [(.ref b15)]))
  refine own_go (fun zt zk => (XS.dup X15.here hx rfl (hb hby at_55) rfl rfl (XS.aload X15.here hx rfl (hb hby at_56) rfl rfl zk))) ?_
  show own_Go p e below s _ _ _ (T15.setTop (mkF m 58 #[iv p1, iv p2, iv p3, iv p4, iv p5, rv b1, rv b8, .unset, .unset, .unset, .unset, .unset, .unset, .unset, .unset, .unset] [(.ref b1), (.ref b15), (.ref b15)]))
  obtain ⟨_, _, ⟨T16, L16, k16, n16⟩, -, X16, ⟨Lc16, hQ16, l16, y16, z16⟩, st16⟩ := X15.specialBack hx (y := (⟨"java/lang/String", "<init>", "([C)V"⟩ : MethodName)) rfl hown (mvT hZ (hw _ (List.mem_of_getElem? (i := 4) rfl))) (mvT hZ (hw _ (List.mem_of_getElem? (i := 5) rfl))) (mvT hZ (hw _ (List.mem_of_getElem? (i := 6) rfl))) (by decide) (StrChars.Road.backV (W := 1) hZ (own_hnew Z a0 hw) (kI := 4) (hw _ (List.mem_of_getElem? (i := 2) rfl)) (cs := [c2, c5]) (bs := [(c2.toInt8.toInt32), (c5.toInt8.toInt32)]) (n := 2) g_b15 (Nat.le_trans Z0 Kp.1) Ex_b15 F_value_b15 F_coder_b15 V_b1 (S_o_COMPACT_STRINGS.ext O.2) nz_o_COMPACT_STRINGS rfl rfl (by decide) (by decide) (own_ac hr_c2 (own_ac hr_c5 own_an)) rfl (by decide) (by decide)) (g := (mkF m 58 #[iv p1, iv p2, iv p3, iv p4, iv p5, rv b1, rv b8, .unset, .unset, .unset, .unset, .unset, .unset, .unset, .unset, .unset] [(.ref b1), (.ref b15), (.ref b15)])) rfl (by rw [hml]; rfl) (Steps.refl _) (a := b15) (argsL := [(.ref b1)]) (rest := [(.ref b15)]) (lenOf own_pd___C_V rfl) rfl (by show 2 * 0 + _ ≤ _; exact Nat.le_of_eq rfl) (hb hby at_58) (fun _ _ => ⟨rfl, e15, (by decide : 3 + 1 ≤ _), (by decide : 8 + 2 ≤ _)⟩)
  dsimp only [Pt.U, Pt.locs, Pt.cells, Pt.slots] at X16 l16 y16 z16 st16 hQ16
  subst y16 z16
  replace X16 := X16.mono (Nat.le_of_ble_eq_true rfl : _ ≤ 4) (Nat.le_of_ble_eq_true rfl : _ ≤ 10)
  obtain ⟨rfl, Nq16, K16, -, Fc16, t16, kb16, -, sz16, -, Fv16, Vt16⟩ := hQ16
  have sz_t16 : h0.size ≤ t16 := Nat.le_trans Kp.1 sz16
  have g_t16 : n0 ≤ t16 := Nat.le_trans Z0 sz_t16
  have ne_b1_t16 : b1 ≠ t16 := Nat.ne_of_lt (Nat.lt_of_lt_of_le V_b1.lt sz16)
  have ne_b8_t16 : b8 ≠ t16 := Nat.ne_of_lt (Nat.lt_of_lt_of_le V_b8.lt sz16)
  have ne_b15_t16 : b15 ≠ t16 := Nat.ne_of_lt (Nat.lt_of_lt_of_le Ex_b15.lt sz16)
  have N16 : Fr n0 L16 := by rw [l16]; exact Fr.app N14 Nq16
  refine own_go (fun zt zk => st16.trans zk) ?_
  replace O := O.keep K16 (allS g_b15 all0)
  replace Kp := Kp.trans K16 (allS (Or.inr sz_b15) all0)
  replace V_b1 := V_b1.keep K16 (ninS ne_b1_b15 nin0)
  replace Ea_b1 := Ea_b1.keep K16
  replace V_b8 := V_b8.keep K16 (ninS ne_b8_b15 nin0)
  replace Ea_b8 := Ea_b8.keep K16
  replace Ex_b15 := Ex_b15.keep K16
  show own_Go p e below s _ _ _ (T16.setTop (mkF m 61 #[iv p1, iv p2, iv p3, iv p4, iv p5, rv b1, rv b8, .unset, .unset, .unset, .unset, .unset, .unset, .unset, .unset, .unset] [(.ref b15)]))
  refine own_go (fun zt zk => (XS.astore X16.here hx rfl (hb hby at_61) rfl rfl (l' := #[iv p1, iv p2, iv p3, iv p4, iv p5, rv b1, rv b8, rv b15, .unset, .unset, .unset, .unset, .unset, .unset, .unset, .unset]) rfl zk)) ?_
  show own_Go p e below s _ _ _ (T16.setTop (mkF m 63 #[iv p1, iv p2, iv p3, iv p4, iv p5, rv b1, rv b8, rv b15, .unset, .unset, .unset, .unset, .unset, .unset, .unset, .unset] []))
  obtain ⟨T17, h17, X17, e17, E17, A17, D17, -, st17⟩ := newO X16 hx hZ hown (hw _ (List.mem_of_getElem? (i := 1) rfl)) (hw _ (List.mem_of_getElem? (i := 2) rfl)) (hw _ (List.mem_of_getElem? (i := 3) rfl)) rfl (g := (mkF m 63 #[iv p1, iv p2, iv p3, iv p4, iv p5, rv b1, rv b8, rv b15, .unset, .unset, .unset, .unset, .unset, .unset, .unset, .unset] [])) rfl (hb hby at_63) (by decide) (by decide)
  obtain ⟨b17, g17⟩ : ∃ z, z = T16.heap.size := ⟨_, rfl⟩
  rw [← g17] at A17 D17 st17
  refine own_go st17 ?_
  have ne_o_EMPTY_b17 : o_EMPTY ≠ b17 := Nat.ne_of_lt (Nat.lt_of_lt_of_le (Ex_o_EMPTY.ext O.2).lt (Nat.le_of_eq g17.symm))
  have ne_b1_b17 : b1 ≠ b17 := Nat.ne_of_lt (Nat.lt_of_lt_of_le V_b1.lt (Nat.le_of_eq g17.symm))
  have ne_b8_b17 : b8 ≠ b17 := Nat.ne_of_lt (Nat.lt_of_lt_of_le V_b8.lt (Nat.le_of_eq g17.symm))
  have ne_b15_b17 : b15 ≠ b17 := Nat.ne_of_lt (Nat.lt_of_lt_of_le Ex_b15.lt (Nat.le_of_eq g17.symm))
  have ne_t16_b17 : t16 ≠ b17 := Nat.ne_of_lt (Nat.lt_of_lt_of_le Vt16.lt (Nat.le_of_eq g17.symm))
  have sz_b17 : h0.size ≤ b17 := Nat.le_trans Kp.1 (Nat.le_of_eq g17.symm)
  have g_b17 : n0 ≤ b17 := Nat.le_trans Z0 sz_b17
  replace O := O.ext E17
  replace Kp := Kp.ext E17
  replace V_b1 := V_b1.ext E17
  replace Ea_b1 := Ea_b1.ext E17
  replace V_b8 := V_b8.ext E17
  replace Ea_b8 := Ea_b8.ext E17
  replace Ex_b15 := Ex_b15.ext E17
  replace Fc16 := Fc16.ext E17
  replace Fv16 := Fv16.ext E17
  replace Vt16 := Vt16.ext E17
  have Ex_b17 := A17
  have F_coder_b17 : Fld Z h17 b17 "java/lang/String" "coder" "B" (.int (0 : Int32)) := D17 (Or.inr (hw _ (List.mem_of_getElem? (i := 27) rfl))) (ty := .byte) (by decide)
  have F_value_b17 : Fld Z h17 b17 "java/lang/String" "value" "[B" .null := D17 (Or.inr (hw _ (List.mem_of_getElem? (i := 29) rfl))) (ty := (.array .byte)) (by decide)
  show own_Go p e below s _ _ _ (T17.setTop (mkF m 66 #[iv p1, iv p2, iv p3, iv p4, iv p5, rv b1, rv b8, rv b15, .unset, .unset, .unset, .unset, .unset, .unset, .unset, .unset] [(.ref b17)]))
  refine own_go (fun zt zk => (XS.dup X17.here hx rfl (hb hby at_66) rfl rfl (XS.aload X17.here hx rfl (hb hby at_67) rfl rfl zk))) ?_
  show own_Go p e below s _ _ _ (T17.setTop (mkF m 69 #[iv p1, iv p2, iv p3, iv p4, iv p5, rv b1, rv b8, rv b15, .unset, .unset, .unset, .unset, .unset, .unset, .unset, .unset] [(.ref b8), (.ref b17), (.ref b17)]))
  obtain ⟨_, _, ⟨T18, L18, k18, n18⟩, -, X18, ⟨Lc18, hQ18, l18, y18, z18⟩, st18⟩ := X17.specialBack hx (y := (⟨"java/lang/String", "<init>", "([C)V"⟩ : MethodName)) rfl hown (mvT hZ (hw _ (List.mem_of_getElem? (i := 4) rfl))) (mvT hZ (hw _ (List.mem_of_getElem? (i := 5) rfl))) (mvT hZ (hw _ (List.mem_of_getElem? (i := 6) rfl))) (by decide) (StrChars.Road.backV (W := 1) hZ (own_hnew Z a0 hw) (kI := 4) (hw _ (List.mem_of_getElem? (i := 2) rfl)) (cs := [c9, c12]) (bs := [(c9.toInt8.toInt32), (c12.toInt8.toInt32)]) (n := 2) g_b17 (Nat.le_trans Z0 Kp.1) Ex_b17 F_value_b17 F_coder_b17 V_b8 (S_o_COMPACT_STRINGS.ext O.2) nz_o_COMPACT_STRINGS rfl rfl (by decide) (by decide) (own_ac hr_c9 (own_ac hr_c12 own_an)) rfl (by decide) (by decide)) (g := (mkF m 69 #[iv p1, iv p2, iv p3, iv p4, iv p5, rv b1, rv b8, rv b15, .unset, .unset, .unset, .unset, .unset, .unset, .unset, .unset] [(.ref b8), (.ref b17), (.ref b17)])) rfl (by rw [hml]; rfl) (Steps.refl _) (a := b17) (argsL := [(.ref b8)]) (rest := [(.ref b17)]) (lenOf own_pd___C_V rfl) rfl (by show 2 * 0 + _ ≤ _; exact Nat.le_of_eq rfl) (hb hby at_69) (fun _ _ => ⟨rfl, e17, (by decide : 5 + 1 ≤ _), (by decide : 14 + 2 ≤ _)⟩)
  dsimp only [Pt.U, Pt.locs, Pt.cells, Pt.slots] at X18 l18 y18 z18 st18 hQ18
  subst y18 z18
  replace X18 := X18.mono (Nat.le_of_ble_eq_true rfl : _ ≤ 6) (Nat.le_of_ble_eq_true rfl : _ ≤ 16)
  obtain ⟨rfl, Nq18, K18, -, Fc18, t18, kb18, -, sz18, -, Fv18, Vt18⟩ := hQ18
  have sz_t18 : h0.size ≤ t18 := Nat.le_trans Kp.1 sz18
  have g_t18 : n0 ≤ t18 := Nat.le_trans Z0 sz_t18
  have ne_b1_t18 : b1 ≠ t18 := Nat.ne_of_lt (Nat.lt_of_lt_of_le V_b1.lt sz18)
  have ne_b8_t18 : b8 ≠ t18 := Nat.ne_of_lt (Nat.lt_of_lt_of_le V_b8.lt sz18)
  have ne_b15_t18 : b15 ≠ t18 := Nat.ne_of_lt (Nat.lt_of_lt_of_le Ex_b15.lt sz18)
  have ne_t16_t18 : t16 ≠ t18 := Nat.ne_of_lt (Nat.lt_of_lt_of_le Vt16.lt sz18)
  have ne_b17_t18 : b17 ≠ t18 := Nat.ne_of_lt (Nat.lt_of_lt_of_le Ex_b17.lt sz18)
  have N18 : Fr n0 L18 := by rw [l18]; exact Fr.app N16 Nq18
  refine own_go (fun zt zk => st18.trans zk) ?_
  replace O := O.keep K18 (allS g_b17 all0)
  replace Kp := Kp.trans K18 (allS (Or.inr sz_b17) all0)
  replace V_b1 := V_b1.keep K18 (ninS ne_b1_b17 nin0)
  replace Ea_b1 := Ea_b1.keep K18
  replace V_b8 := V_b8.keep K18 (ninS ne_b8_b17 nin0)
  replace Ea_b8 := Ea_b8.keep K18
  replace Ex_b15 := Ex_b15.keep K18
  replace Fc16 := Fc16.keep K18 (ninS ne_b15_b17 nin0)
  replace Fv16 := Fv16.keep K18 (ninS ne_b15_b17 nin0)
  replace Vt16 := Vt16.keep K18 (ninS ne_t16_b17 nin0)
  replace Ex_b17 := Ex_b17.keep K18
  show own_Go p e below s _ _ _ (T18.setTop (mkF m 72 #[iv p1, iv p2, iv p3, iv p4, iv p5, rv b1, rv b8, rv b15, .unset, .unset, .unset, .unset, .unset, .unset, .unset, .unset] [(.ref b17)]))
  refine own_go (fun zt zk => (XS.astore X18.here hx rfl (hb hby at_72) rfl rfl (l' := #[iv p1, iv p2, iv p3, iv p4, iv p5, rv b1, rv b8, rv b15, rv b17, .unset, .unset, .unset, .unset, .unset, .unset, .unset]) rfl (XS.iload X18.here hx rfl (hb hby at_74) rfl (XS.iconst X18.here hx rfl (hb hby at_76) (XS.iand X18.here hx rfl (hb hby at_77) rfl zk))))) ?_
  show own_Go p e below s _ _ _ (T18.setTop (mkF m 78 #[iv p1, iv p2, iv p3, iv p4, iv p5, rv b1, rv b8, rv b15, rv b17, .unset, .unset, .unset, .unset, .unset, .unset, .unset] [(.int (p5 &&& (1 : Int32)))]))
  by_cases hh1 : (p5 &&& (1 : Int32)) = (0 : Int32)
  · refine own_go (fun zt zk => (XS.ifYes X18.here hx rfl (pc0 := 78) (pc' := 85) rfl (hb hby at_78) rfl ((if0 _ _).trans (teq (hh1 : (p5 &&& (1 : Int32)) = (0 : Int32))).1) (by decide) (by decide) (XS.iconst X18.here hx rfl (hb hby at_85) (XS.istore X18.here hx rfl (hb hby at_86) rfl (l' := #[iv p1, iv p2, iv p3, iv p4, iv p5, rv b1, rv b8, rv b15, rv b17, iv (0 : Int32), .unset, .unset, .unset, .unset, .unset, .unset]) rfl (XS.iload X18.here hx rfl (hb hby at_88) rfl (XS.iconst X18.here hx rfl (hb hby at_90) (XS.iand X18.here hx rfl (hb hby at_91) rfl zk))))))) ?_
    show own_Go p e below s _ _ _ (T18.setTop (mkF m 92 #[iv p1, iv p2, iv p3, iv p4, iv p5, rv b1, rv b8, rv b15, rv b17, iv (0 : Int32), .unset, .unset, .unset, .unset, .unset, .unset] [(.int (p5 &&& (2 : Int32)))]))
    by_cases hf : (p5 &&& (2 : Int32)) = (0 : Int32)
    · refine own_go (fun zt zk => (XS.ifYes X18.here hx rfl (pc0 := 92) (pc' := 99) rfl (hb hby at_92) rfl ((if0 _ _).trans (teq (hf : (p5 &&& (2 : Int32)) = (0 : Int32))).1) (by decide) (by decide) (XS.iconst X18.here hx rfl (hb hby at_99) (XS.istore X18.here hx rfl (hb hby at_100) rfl (l' := #[iv p1, iv p2, iv p3, iv p4, iv p5, rv b1, rv b8, rv b15, rv b17, iv (0 : Int32), iv (0 : Int32), .unset, .unset, .unset, .unset, .unset]) rfl (XS.iloadN X18.here hx rfl (hb hby at_102) rfl (X18.ldcI hx hown (mvT hZ (hw _ (List.mem_of_getElem? (i := 30) rfl))) (g := (mkF m 103 #[iv p1, iv p2, iv p3, iv p4, iv p5, rv b1, rv b8, rv b15, rv b17, iv (0 : Int32), iv (0 : Int32), .unset, .unset, .unset, .unset, .unset] [(.int p3)])) rfl (hb hby at_103) (XS.iand X18.here hx rfl (hb hby at_105) rfl (XS.istore X18.here hx rfl (hb hby at_106) rfl (l' := #[iv p1, iv p2, iv p3, iv p4, iv p5, rv b1, rv b8, rv b15, rv b17, iv (0 : Int32), iv (0 : Int32), iv (p3 &&& (2147483647 : Int32)), .unset, .unset, .unset, .unset]) rfl (XS.iloadN X18.here hx rfl (hb hby at_108) rfl (X18.ldcI hx hown (mvT hZ (hw _ (List.mem_of_getElem? (i := 30) rfl))) (g := (mkF m 109 #[iv p1, iv p2, iv p3, iv p4, iv p5, rv b1, rv b8, rv b15, rv b17, iv (0 : Int32), iv (0 : Int32), iv (p3 &&& (2147483647 : Int32)), .unset, .unset, .unset, .unset] [(.int p4)])) rfl (hb hby at_109) (XS.iand X18.here hx rfl (hb hby at_111) rfl (XS.istore X18.here hx rfl (hb hby at_112) rfl (l' := #[iv p1, iv p2, iv p3, iv p4, iv p5, rv b1, rv b8, rv b15, rv b17, iv (0 : Int32), iv (0 : Int32), iv (p3 &&& (2147483647 : Int32)), iv (p4 &&& (2147483647 : Int32)), .unset, .unset, .unset]) rfl (XS.iload X18.here hx rfl (hb hby at_114) rfl zk))))))))))))) ?_
      show own_Go p e below s _ _ _ (T18.setTop (mkF m 116 #[iv p1, iv p2, iv p3, iv p4, iv p5, rv b1, rv b8, rv b15, rv b17, iv (0 : Int32), iv (0 : Int32), iv (p3 &&& (2147483647 : Int32)), iv (p4 &&& (2147483647 : Int32)), .unset, .unset, .unset] [(.int (0 : Int32))]))
      refine own_go (fun zt zk => (XS.ifYes X18.here hx rfl (pc0 := 116) (pc' := 152) rfl (hb hby at_116) rfl ((if0 _ _).trans (teq (rfl : (0 : Int32) = (0 : Int32))).1) (by decide) (by decide) (XS.aload X18.here hx rfl (hb hby at_152) rfl rfl (XS.aload X18.here hx rfl (hb hby at_154) rfl rfl zk)))) ?_
      show own_Go p e below s _ _ _ (T18.setTop (mkF m 156 #[iv p1, iv p2, iv p3, iv p4, iv p5, rv b1, rv b8, rv b15, rv b17, iv (0 : Int32), iv (0 : Int32), iv (p3 &&& (2147483647 : Int32)), iv (p4 &&& (2147483647 : Int32)), .unset, .unset, .unset] [(.ref b17), (.ref b15)]))
      obtain ⟨_, _, ⟨T19, L19, k19, n19⟩, -, X19, ⟨Lc19, hQ19, l19, y19, z19⟩, st19⟩ := Jvm.LawKit.callS X18 hx (y := (⟨"com/example/tranche/tranche/model/Row$Field", "given", "(Ljava/lang/String;Ljava/lang/String;)Lcom/example/tranche/tranche/model/Row$Field;"⟩ : MethodName)) hown (mvT hZ (hw _ (List.mem_of_getElem? (i := 31) rfl))) (mvT hZ (hw _ (List.mem_of_getElem? (i := 32) rfl))) (mvT hZ (hw _ (List.mem_of_getElem? (i := 33) rfl))) (mvT hZ (hw _ (List.mem_of_getElem? (i := 34) rfl))) (by decide) (backOf (W := 0) (own_rgiven l Z a0 hw [] b15 b17 o_EMPTY T18.heap n0 (Nat.le_trans Z0 Kp.1) O S_o_EMPTY) hZ (hw _ (List.mem_of_getElem? (i := 34) rfl)) (hw _ (List.mem_of_getElem? (i := 33) rfl)) (by decide) (by decide)) (g := (mkF m 156 #[iv p1, iv p2, iv p3, iv p4, iv p5, rv b1, rv b8, rv b15, rv b17, iv (0 : Int32), iv (0 : Int32), iv (p3 &&& (2147483647 : Int32)), iv (p4 &&& (2147483647 : Int32)), .unset, .unset, .unset] [(.ref b17), (.ref b15)])) rfl (by rw [hml]; rfl) (argsL := [(.ref b15), (.ref b17)]) (rest := []) (lenOf own_pd__Ljava_lang_String_Ljava_lang_String__Lcom_example_tranche_tranche_model_Row_Field_ rfl) rfl (by show 2 * 0 + _ ≤ _; exact Nat.le_of_eq rfl) (hb hby at_156) (fun _ _ => ⟨rfl, rfl, (by decide : 6 + 1 ≤ _), (by decide : 16 + 4 ≤ _)⟩)
      dsimp only [Pt.U, Pt.locs, Pt.cells, Pt.slots] at X19 l19 y19 z19 st19 hQ19
      subst y19 z19
      replace X19 := X19.mono (Nat.le_of_ble_eq_true rfl : _ ≤ 7) (Nat.le_of_ble_eq_true rfl : _ ≤ 20)
      obtain ⟨b19, rfl, Nq19, K19, sb19, Ex_b19, Fn19, Ft19, Fs19, Fz19⟩ := hQ19
      have N19 : Fr n0 L19 := by rw [l19]; exact Fr.app N18 Nq19
      refine own_go st19 ?_
      replace O := O.keep K19 all0
      replace Kp := Kp.trans K19 all0
      replace V_b1 := V_b1.keep K19 nin0
      replace Ea_b1 := Ea_b1.keep K19
      replace V_b8 := V_b8.keep K19 nin0
      replace Ea_b8 := Ea_b8.keep K19
      replace Ex_b15 := Ex_b15.keep K19
      replace Fc16 := Fc16.keep K19 nin0
      replace Fv16 := Fv16.keep K19 nin0
      replace Vt16 := Vt16.keep K19 nin0
      replace Ex_b17 := Ex_b17.keep K19
      replace Fc18 := Fc18.keep K19 nin0
      replace Fv18 := Fv18.keep K19 nin0
      replace Vt18 := Vt18.keep K19 nin0
      show own_Go p e below s _ _ _ (T19.setTop (mkF m 159 #[iv p1, iv p2, iv p3, iv p4, iv p5, rv b1, rv b8, rv b15, rv b17, iv (0 : Int32), iv (0 : Int32), iv (p3 &&& (2147483647 : Int32)), iv (p4 &&& (2147483647 : Int32)), .unset, .unset, .unset] [(.ref b19)]))
      refine own_go (fun zt zk => (XS.astore X19.here hx rfl (hb hby at_159) rfl rfl (l' := #[iv p1, iv p2, iv p3, iv p4, iv p5, rv b1, rv b8, rv b15, rv b17, iv (0 : Int32), iv (0 : Int32), iv (p3 &&& (2147483647 : Int32)), iv (p4 &&& (2147483647 : Int32)), rv b19, .unset, .unset]) rfl zk)) ?_
      show own_Go p e below s _ _ _ (T19.setTop (mkF m 161 #[iv p1, iv p2, iv p3, iv p4, iv p5, rv b1, rv b8, rv b15, rv b17, iv (0 : Int32), iv (0 : Int32), iv (p3 &&& (2147483647 : Int32)), iv (p4 &&& (2147483647 : Int32)), rv b19, .unset, .unset] []))
      obtain ⟨T20, h20, X20, e20, E20, A20, D20, -, st20⟩ := newO X19 hx hZ hown (hw _ (List.mem_of_getElem? (i := 59) rfl)) (hw _ (List.mem_of_getElem? (i := 36) rfl)) (hw _ (List.mem_of_getElem? (i := 33) rfl)) rfl (g := (mkF m 161 #[iv p1, iv p2, iv p3, iv p4, iv p5, rv b1, rv b8, rv b15, rv b17, iv (0 : Int32), iv (0 : Int32), iv (p3 &&& (2147483647 : Int32)), iv (p4 &&& (2147483647 : Int32)), rv b19, .unset, .unset] [])) rfl (hb hby at_161) (by decide) (by decide)
      obtain ⟨b20, g20⟩ : ∃ z, z = T19.heap.size := ⟨_, rfl⟩
      rw [← g20] at A20 D20 st20
      refine own_go st20 ?_
      have ne_o_EMPTY_b20 : o_EMPTY ≠ b20 := Nat.ne_of_lt (Nat.lt_of_lt_of_le (Ex_o_EMPTY.ext O.2).lt (Nat.le_of_eq g20.symm))
      have ne_b1_b20 : b1 ≠ b20 := Nat.ne_of_lt (Nat.lt_of_lt_of_le V_b1.lt (Nat.le_of_eq g20.symm))
      have ne_b8_b20 : b8 ≠ b20 := Nat.ne_of_lt (Nat.lt_of_lt_of_le V_b8.lt (Nat.le_of_eq g20.symm))
      have ne_b15_b20 : b15 ≠ b20 := Nat.ne_of_lt (Nat.lt_of_lt_of_le Ex_b15.lt (Nat.le_of_eq g20.symm))
      have ne_t16_b20 : t16 ≠ b20 := Nat.ne_of_lt (Nat.lt_of_lt_of_le Vt16.lt (Nat.le_of_eq g20.symm))
      have ne_b17_b20 : b17 ≠ b20 := Nat.ne_of_lt (Nat.lt_of_lt_of_le Ex_b17.lt (Nat.le_of_eq g20.symm))
      have ne_t18_b20 : t18 ≠ b20 := Nat.ne_of_lt (Nat.lt_of_lt_of_le Vt18.lt (Nat.le_of_eq g20.symm))
      have ne_b19_b20 : b19 ≠ b20 := Nat.ne_of_lt (Nat.lt_of_lt_of_le Ex_b19.lt (Nat.le_of_eq g20.symm))
      have sz_b20 : h0.size ≤ b20 := Nat.le_trans Kp.1 (Nat.le_of_eq g20.symm)
      have g_b20 : n0 ≤ b20 := Nat.le_trans Z0 sz_b20
      replace O := O.ext E20
      replace Kp := Kp.ext E20
      replace V_b1 := V_b1.ext E20
      replace Ea_b1 := Ea_b1.ext E20
      replace V_b8 := V_b8.ext E20
      replace Ea_b8 := Ea_b8.ext E20
      replace Ex_b15 := Ex_b15.ext E20
      replace Fc16 := Fc16.ext E20
      replace Fv16 := Fv16.ext E20
      replace Vt16 := Vt16.ext E20
      replace Ex_b17 := Ex_b17.ext E20
      replace Fc18 := Fc18.ext E20
      replace Fv18 := Fv18.ext E20
      replace Vt18 := Vt18.ext E20
      replace Ex_b19 := Ex_b19.ext E20
      replace Fn19 := Fn19.ext E20
      replace Ft19 := Ft19.ext E20
      replace Fs19 := Fs19.ext E20
      replace Fz19 := Fz19.ext E20
      have Ex_b20 := A20
      have F_name_b20 : Fld Z h20 b20 "com/example/tranche/tranche/model/Row$Field" "name" "Ljava/lang/String;" .null := D20 (Or.inr (hw _ (List.mem_of_getElem? (i := 52) rfl))) (ty := (.object "java/lang/String")) (by decide)
      have F_text_b20 : Fld Z h20 b20 "com/example/tranche/tranche/model/Row$Field" "text" "Ljava/lang/String;" .null := D20 (Or.inr (hw _ (List.mem_of_getElem? (i := 54) rfl))) (ty := (.object "java/lang/String")) (by decide)
      have F_span_b20 : Fld Z h20 b20 "com/example/tranche/tranche/model/Row$Field" "span" "Ljava/util/Optional;" .null := D20 (Or.inr (hw _ (List.mem_of_getElem? (i := 56) rfl))) (ty := (.object "java/util/Optional")) (by decide)
      have F_spanFirst_b20 : Fld Z h20 b20 "com/example/tranche/tranche/model/Row$Field" "spanFirst" "Z" (.int (0 : Int32)) := D20 (Or.inr (hw _ (List.mem_of_getElem? (i := 58) rfl))) (ty := .boolean) (by decide)
      show own_Go p e below s _ _ _ (T20.setTop (mkF m 164 #[iv p1, iv p2, iv p3, iv p4, iv p5, rv b1, rv b8, rv b15, rv b17, iv (0 : Int32), iv (0 : Int32), iv (p3 &&& (2147483647 : Int32)), iv (p4 &&& (2147483647 : Int32)), rv b19, .unset, .unset] [(.ref b20)]))
      refine own_go (fun zt zk => (XS.dup X20.here hx rfl (hb hby at_164) rfl rfl (XS.aload X20.here hx rfl (hb hby at_165) rfl rfl (XS.aload X20.here hx rfl (hb hby at_167) rfl rfl (XS.aload X20.here hx rfl (hb hby at_169) rfl rfl zk))))) ?_
      show own_Go p e below s _ _ _ (T20.setTop (mkF m 171 #[iv p1, iv p2, iv p3, iv p4, iv p5, rv b1, rv b8, rv b15, rv b17, iv (0 : Int32), iv (0 : Int32), iv (p3 &&& (2147483647 : Int32)), iv (p4 &&& (2147483647 : Int32)), rv b19, .unset, .unset] [(.ref b19), (.ref b17), (.ref b15), (.ref b20), (.ref b20)]))
      obtain ⟨cq21, kq21, qa21, qb21, qc21⟩ := isOf hZ e20 Ex_b19
      obtain ⟨_, _, ⟨T21, L21, k21, n21⟩, -, X21, ⟨Lc21, hQ21, l21, y21, z21⟩, st21⟩ := X20.virtualBack hx (y := (⟨"com/example/tranche/tranche/model/Row$Field", "span", "()Ljava/util/Optional;"⟩ : MethodName)) (z := (⟨"com/example/tranche/tranche/model/Row$Field", "span", "()Ljava/util/Optional;"⟩ : MethodName)) hown (mvT hZ (hw _ (List.mem_of_getElem? (i := 60) rfl))) (mvT hZ (hw _ (List.mem_of_getElem? (i := 61) rfl))) (notFace_of_selects (args := #[]) (mvT hZ (hw _ (List.mem_of_getElem? (i := 63) rfl)))) (mvT hZ (hw _ (List.mem_of_getElem? (i := 63) rfl))) (mvT hZ (hw _ (List.mem_of_getElem? (i := 62) rfl))) (by decide) (backOf (W := 4) (own_gspan l Z a0 hw [] b19 o_EMPTY h20 n0 (Nat.le_trans Z0 Kp.1) Fs19) hZ (hw _ (List.mem_of_getElem? (i := 64) rfl)) (hw _ (List.mem_of_getElem? (i := 33) rfl)) (by decide) (by decide)) qa21 qc21 (g := (mkF m 171 #[iv p1, iv p2, iv p3, iv p4, iv p5, rv b1, rv b8, rv b15, rv b17, iv (0 : Int32), iv (0 : Int32), iv (p3 &&& (2147483647 : Int32)), iv (p4 &&& (2147483647 : Int32)), rv b19, .unset, .unset] [(.ref b19), (.ref b17), (.ref b15), (.ref b20), (.ref b20)])) rfl (by rw [hml]; rfl) (Steps.refl _) (argsL := []) (rest := [(.ref b17), (.ref b15), (.ref b20), (.ref b20)]) (lenOf own_pd___Ljava_util_Optional_ rfl) rfl (by show 2 * 0 + _ ≤ _; exact Nat.le_of_eq rfl) (hb hby at_171) (fun _ _ => ⟨rfl, e20, (by decide : 8 + 0 ≤ _), (by decide : 24 + 0 ≤ _)⟩)
      dsimp only [Pt.U, Pt.locs, Pt.cells, Pt.slots] at X21 l21 y21 z21 st21 hQ21
      subst y21 z21
      replace X21 := X21.mono (Nat.le_of_ble_eq_true rfl : _ ≤ 8) (Nat.le_of_ble_eq_true rfl : _ ≤ 24)
      obtain ⟨rfl, Nq21, e21⟩ := hQ21
      have N21 : Fr n0 L21 := by rw [l21]; exact Fr.app N19 Nq21
      refine own_go (fun zt zk => st21.trans zk) ?_
      show own_Go p e below s _ _ _ (T21.setTop (mkF m 174 #[iv p1, iv p2, iv p3, iv p4, iv p5, rv b1, rv b8, rv b15, rv b17, iv (0 : Int32), iv (0 : Int32), iv (p3 &&& (2147483647 : Int32)), iv (p4 &&& (2147483647 : Int32)), rv b19, .unset, .unset] [(.ref o_EMPTY), (.ref b17), (.ref b15), (.ref b20), (.ref b20)]))
      refine own_go (fun zt zk => (XS.iload X21.here hx rfl (hb hby at_174) rfl zk)) ?_
      show own_Go p e below s _ _ _ (T21.setTop (mkF m 176 #[iv p1, iv p2, iv p3, iv p4, iv p5, rv b1, rv b8, rv b15, rv b17, iv (0 : Int32), iv (0 : Int32), iv (p3 &&& (2147483647 : Int32)), iv (p4 &&& (2147483647 : Int32)), rv b19, .unset, .unset] [(.int (0 : Int32)), (.ref o_EMPTY), (.ref b17), (.ref b15), (.ref b20), (.ref b20)]))
      obtain ⟨_, _, ⟨T22, L22, k22, n22⟩, -, X22, ⟨Lc22, hQ22, l22, y22, z22⟩, st22⟩ := X21.specialBack hx (y := (⟨"com/example/tranche/tranche/model/Row$Field", "<init>", "(Ljava/lang/String;Ljava/lang/String;Ljava/util/Optional;Z)V"⟩ : MethodName)) rfl hown (mvT hZ (hw _ (List.mem_of_getElem? (i := 65) rfl))) (mvT hZ (hw _ (List.mem_of_getElem? (i := 43) rfl))) (mvT hZ (hw _ (List.mem_of_getElem? (i := 44) rfl))) (by decide) (backOf (W := 1) (own_rfld0 l Z a0 hw [] b20 b15 b17 o_EMPTY  h20 n0 (Nat.le_trans Z0 Kp.1) Ex_b20 F_name_b20 F_text_b20 F_span_b20 F_spanFirst_b20 g_b20 ) hZ (hw _ (List.mem_of_getElem? (i := 44) rfl)) (hw _ (List.mem_of_getElem? (i := 33) rfl)) (by decide) (by decide)) (g := (mkF m 176 #[iv p1, iv p2, iv p3, iv p4, iv p5, rv b1, rv b8, rv b15, rv b17, iv (0 : Int32), iv (0 : Int32), iv (p3 &&& (2147483647 : Int32)), iv (p4 &&& (2147483647 : Int32)), rv b19, .unset, .unset] [(.int (0 : Int32)), (.ref o_EMPTY), (.ref b17), (.ref b15), (.ref b20), (.ref b20)])) rfl (by rw [hml]; rfl) (Steps.refl _) (a := b20) (argsL := [(.ref b15), (.ref b17), (.ref o_EMPTY), (.int (0 : Int32))]) (rest := [(.ref b20)]) (lenOf own_pd__Ljava_lang_String_Ljava_lang_String_Ljava_util_Optional_Z_V rfl) rfl (by show 2 * 0 + _ ≤ _; exact Nat.le_of_eq rfl) (hb hby at_176) (fun _ _ => ⟨rfl, e21, (by decide : 8 + 0 ≤ _), (by decide : 24 + 0 ≤ _)⟩)
      dsimp only [Pt.U, Pt.locs, Pt.cells, Pt.slots] at X22 l22 y22 z22 st22 hQ22
      subst y22 z22
      replace X22 := X22.mono (Nat.le_of_ble_eq_true rfl : _ ≤ 8) (Nat.le_of_ble_eq_true rfl : _ ≤ 24)
      obtain ⟨rfl, Nq22, K22, -, F_name_b20, F_text_b20, F_span_b20, F_spanFirst_b20⟩ := hQ22
      have N22 : Fr n0 L22 := by rw [l22]; exact Fr.app N21 Nq22
      refine own_go (fun zt zk => st22.trans zk) ?_
      replace O := O.keep K22 (allS g_b20 all0)
      replace Kp := Kp.trans K22 (allS (Or.inr sz_b20) all0)
      replace V_b1 := V_b1.keep K22 (ninS ne_b1_b20 nin0)
      replace Ea_b1 := Ea_b1.keep K22
      replace V_b8 := V_b8.keep K22 (ninS ne_b8_b20 nin0)
      replace Ea_b8 := Ea_b8.keep K22
      replace Ex_b15 := Ex_b15.keep K22
      replace Fc16 := Fc16.keep K22 (ninS ne_b15_b20 nin0)
      replace Fv16 := Fv16.keep K22 (ninS ne_b15_b20 nin0)
      replace Vt16 := Vt16.keep K22 (ninS ne_t16_b20 nin0)
      replace Ex_b17 := Ex_b17.keep K22
      replace Fc18 := Fc18.keep K22 (ninS ne_b17_b20 nin0)
      replace Fv18 := Fv18.keep K22 (ninS ne_b17_b20 nin0)
      replace Vt18 := Vt18.keep K22 (ninS ne_t18_b20 nin0)
      replace Ex_b19 := Ex_b19.keep K22
      replace Fn19 := Fn19.keep K22 (ninS ne_b19_b20 nin0)
      replace Ft19 := Ft19.keep K22 (ninS ne_b19_b20 nin0)
      replace Fs19 := Fs19.keep K22 (ninS ne_b19_b20 nin0)
      replace Fz19 := Fz19.keep K22 (ninS ne_b19_b20 nin0)
      replace Ex_b20 := Ex_b20.keep K22
      show own_Go p e below s _ _ _ (T22.setTop (mkF m 179 #[iv p1, iv p2, iv p3, iv p4, iv p5, rv b1, rv b8, rv b15, rv b17, iv (0 : Int32), iv (0 : Int32), iv (p3 &&& (2147483647 : Int32)), iv (p4 &&& (2147483647 : Int32)), rv b19, .unset, .unset] [(.ref b20)]))
      refine own_go (fun zt zk => (XS.astore X22.here hx rfl (hb hby at_179) rfl rfl (l' := #[iv p1, iv p2, iv p3, iv p4, iv p5, rv b1, rv b8, rv b15, rv b17, iv (0 : Int32), iv (0 : Int32), iv (p3 &&& (2147483647 : Int32)), iv (p4 &&& (2147483647 : Int32)), rv b19, rv b20, .unset]) rfl (XS.aload X22.here hx rfl (hb hby at_181) rfl rfl zk))) ?_
      show own_Go p e below s _ _ _ (T22.setTop (mkF m 183 #[iv p1, iv p2, iv p3, iv p4, iv p5, rv b1, rv b8, rv b15, rv b17, iv (0 : Int32), iv (0 : Int32), iv (p3 &&& (2147483647 : Int32)), iv (p4 &&& (2147483647 : Int32)), rv b19, rv b20, .unset] [(.ref b20)]))
      obtain ⟨cq23, kq23, qa23, qb23, qc23⟩ := isOf hZ rfl Ex_b20
      obtain ⟨_, _, ⟨T23, L23, k23, n23⟩, -, X23, ⟨Lc23, hQ23, l23, y23, z23⟩, st23⟩ := X22.virtualBack hx (y := (⟨"com/example/tranche/tranche/model/Row$Field", "withSpanFirst", "()Lcom/example/tranche/tranche/model/Row$Field;"⟩ : MethodName)) (z := (⟨"com/example/tranche/tranche/model/Row$Field", "withSpanFirst", "()Lcom/example/tranche/tranche/model/Row$Field;"⟩ : MethodName)) hown (mvT hZ (hw _ (List.mem_of_getElem? (i := 66) rfl))) (mvT hZ (hw _ (List.mem_of_getElem? (i := 67) rfl))) (notFace_of_selects (args := #[]) (mvT hZ (hw _ (List.mem_of_getElem? (i := 69) rfl)))) (mvT hZ (hw _ (List.mem_of_getElem? (i := 69) rfl))) (mvT hZ (hw _ (List.mem_of_getElem? (i := 68) rfl))) (by decide) (backOf (W := 0) (own_rwsf l Z a0 hw [] b20 b15 b17 o_EMPTY T22.heap n0 (Nat.le_trans Z0 Kp.1) F_name_b20 F_text_b20 F_span_b20) hZ (hw _ (List.mem_of_getElem? (i := 70) rfl)) (hw _ (List.mem_of_getElem? (i := 33) rfl)) (by decide) (by decide)) qa23 qc23 (g := (mkF m 183 #[iv p1, iv p2, iv p3, iv p4, iv p5, rv b1, rv b8, rv b15, rv b17, iv (0 : Int32), iv (0 : Int32), iv (p3 &&& (2147483647 : Int32)), iv (p4 &&& (2147483647 : Int32)), rv b19, rv b20, .unset] [(.ref b20)])) rfl (by rw [hml]; rfl) (Steps.refl _) (argsL := []) (rest := []) (lenOf own_pd___Lcom_example_tranche_tranche_model_Row_Field_ rfl) rfl (by show 2 * 0 + _ ≤ _; exact Nat.le_of_eq rfl) (hb hby at_183) (fun _ _ => ⟨rfl, rfl, (by decide : 8 + 1 ≤ _), (by decide : 24 + 4 ≤ _)⟩)
      dsimp only [Pt.U, Pt.locs, Pt.cells, Pt.slots] at X23 l23 y23 z23 st23 hQ23
      subst y23 z23
      replace X23 := X23.mono (Nat.le_of_ble_eq_true rfl : _ ≤ 9) (Nat.le_of_ble_eq_true rfl : _ ≤ 28)
      obtain ⟨b23, rfl, Nq23, K23, sb23, Ex_b23, Fn23, Ft23, Fs23, Fz23⟩ := hQ23
      have N23 : Fr n0 L23 := by rw [l23]; exact Fr.app N22 Nq23
      refine own_go (fun zt zk => st23.trans zk) ?_
      replace O := O.keep K23 all0
      replace Kp := Kp.trans K23 all0
      replace V_b1 := V_b1.keep K23 nin0
      replace Ea_b1 := Ea_b1.keep K23
      replace V_b8 := V_b8.keep K23 nin0
      replace Ea_b8 := Ea_b8.keep K23
      replace Ex_b15 := Ex_b15.keep K23
      replace Fc16 := Fc16.keep K23 nin0
      replace Fv16 := Fv16.keep K23 nin0
      replace Vt16 := Vt16.keep K23 nin0
      replace Ex_b17 := Ex_b17.keep K23
      replace Fc18 := Fc18.keep K23 nin0
      replace Fv18 := Fv18.keep K23 nin0
      replace Vt18 := Vt18.keep K23 nin0
      replace Ex_b19 := Ex_b19.keep K23
      replace Fn19 := Fn19.keep K23 nin0
      replace Ft19 := Ft19.keep K23 nin0
      replace Fs19 := Fs19.keep K23 nin0
      replace Fz19 := Fz19.keep K23 nin0
      replace Ex_b20 := Ex_b20.keep K23
      replace F_name_b20 := F_name_b20.keep K23 nin0
      replace F_text_b20 := F_text_b20.keep K23 nin0
      replace F_span_b20 := F_span_b20.keep K23 nin0
      replace F_spanFirst_b20 := F_spanFirst_b20.keep K23 nin0
      show own_Go p e below s _ _ _ (T23.setTop (mkF m 186 #[iv p1, iv p2, iv p3, iv p4, iv p5, rv b1, rv b8, rv b15, rv b17, iv (0 : Int32), iv (0 : Int32), iv (p3 &&& (2147483647 : Int32)), iv (p4 &&& (2147483647 : Int32)), rv b19, rv b20, .unset] [(.ref b23)]))
      refine own_go (fun zt zk => (XS.astore X23.here hx rfl (hb hby at_186) rfl rfl (l' := #[iv p1, iv p2, iv p3, iv p4, iv p5, rv b1, rv b8, rv b15, rv b17, iv (0 : Int32), iv (0 : Int32), iv (p3 &&& (2147483647 : Int32)), iv (p4 &&& (2147483647 : Int32)), rv b19, rv b20, rv b23]) rfl (XS.aload X23.here hx rfl (hb hby at_188) rfl rfl (XS.ifnullNo X23.here hx rfl (hb hby at_190) rfl (XS.aload X23.here hx rfl (hb hby at_193) rfl rfl zk))))) ?_
      show own_Go p e below s _ _ _ (T23.setTop (mkF m 195 #[iv p1, iv p2, iv p3, iv p4, iv p5, rv b1, rv b8, rv b15, rv b17, iv (0 : Int32), iv (0 : Int32), iv (p3 &&& (2147483647 : Int32)), iv (p4 &&& (2147483647 : Int32)), rv b19, rv b20, rv b23] [(.ref b23)]))
      obtain ⟨cq24, kq24, qa24, qb24, qc24⟩ := isOf hZ rfl Ex_b23
      obtain ⟨_, _, ⟨T24, L24, k24, n24⟩, -, X24, ⟨Lc24, hQ24, l24, y24, z24⟩, st24⟩ := X23.virtualBack hx (y := (⟨"com/example/tranche/tranche/model/Row$Field", "name", "()Ljava/lang/String;"⟩ : MethodName)) (z := (⟨"com/example/tranche/tranche/model/Row$Field", "name", "()Ljava/lang/String;"⟩ : MethodName)) hown (mvT hZ (hw _ (List.mem_of_getElem? (i := 71) rfl))) (mvT hZ (hw _ (List.mem_of_getElem? (i := 72) rfl))) (notFace_of_selects (args := #[]) (mvT hZ (hw _ (List.mem_of_getElem? (i := 74) rfl)))) (mvT hZ (hw _ (List.mem_of_getElem? (i := 74) rfl))) (mvT hZ (hw _ (List.mem_of_getElem? (i := 73) rfl))) (by decide) (backOf (W := 0) (own_gname l Z a0 hw [] b23 b15 T23.heap n0 (Nat.le_trans Z0 Kp.1) Fn23) hZ (hw _ (List.mem_of_getElem? (i := 75) rfl)) (hw _ (List.mem_of_getElem? (i := 33) rfl)) (by decide) (by decide)) qa24 qc24 (g := (mkF m 195 #[iv p1, iv p2, iv p3, iv p4, iv p5, rv b1, rv b8, rv b15, rv b17, iv (0 : Int32), iv (0 : Int32), iv (p3 &&& (2147483647 : Int32)), iv (p4 &&& (2147483647 : Int32)), rv b19, rv b20, rv b23] [(.ref b23)])) rfl (by rw [hml]; rfl) (Steps.refl _) (argsL := []) (rest := []) (lenOf own_pd___Ljava_lang_String_ rfl) rfl (by show 2 * 0 + _ ≤ _; exact Nat.le_of_eq rfl) (hb hby at_195) (fun _ _ => ⟨rfl, rfl, (by decide : 9 + 0 ≤ _), (by decide : 28 + 0 ≤ _)⟩)
      dsimp only [Pt.U, Pt.locs, Pt.cells, Pt.slots] at X24 l24 y24 z24 st24 hQ24
      subst y24 z24
      replace X24 := X24.mono (Nat.le_of_ble_eq_true rfl : _ ≤ 9) (Nat.le_of_ble_eq_true rfl : _ ≤ 28)
      obtain ⟨rfl, Nq24, e24⟩ := hQ24
      have N24 : Fr n0 L24 := by rw [l24]; exact Fr.app N23 Nq24
      refine own_go (fun zt zk => st24.trans zk) ?_
      show own_Go p e below s _ _ _ (T24.setTop (mkF m 198 #[iv p1, iv p2, iv p3, iv p4, iv p5, rv b1, rv b8, rv b15, rv b17, iv (0 : Int32), iv (0 : Int32), iv (p3 &&& (2147483647 : Int32)), iv (p4 &&& (2147483647 : Int32)), rv b19, rv b20, rv b23] [(.ref b15)]))
      refine own_go (fun zt zk => (XS.aload X24.here hx rfl (hb hby at_198) rfl rfl zk)) ?_
      show own_Go p e below s _ _ _ (T24.setTop (mkF m 200 #[iv p1, iv p2, iv p3, iv p4, iv p5, rv b1, rv b8, rv b15, rv b17, iv (0 : Int32), iv (0 : Int32), iv (p3 &&& (2147483647 : Int32)), iv (p4 &&& (2147483647 : Int32)), rv b19, rv b20, rv b23] [(.ref b15), (.ref b15)]))
      obtain ⟨cq25, kq25, qa25, qb25, qc25⟩ := isOf hZ e24 Ex_b15
      obtain ⟨_, _, ⟨T25, L25, k25, n25⟩, -, X25, ⟨Lc25, hQ25, l25, y25, z25⟩, st25⟩ := X24.virtualBack hx (y := (⟨"java/lang/String", "equals", "(Ljava/lang/Object;)Z"⟩ : MethodName)) (z := (⟨"java/lang/String", "equals", "(Ljava/lang/Object;)Z"⟩ : MethodName)) hown (mvT hZ (hw _ (List.mem_of_getElem? (i := 76) rfl))) (mvT hZ (hw _ (List.mem_of_getElem? (i := 77) rfl))) (notFace_of_selects (args := #[]) (mvT hZ (hw _ (List.mem_of_getElem? (i := 79) rfl)))) (mvT hZ (hw _ (List.mem_of_getElem? (i := 79) rfl))) (mvT hZ (hw _ (List.mem_of_getElem? (i := 78) rfl))) (by decide) (backOf (W := 0) (own_reqs l Z a0 hw [] b15  T23.heap n0 (Nat.le_trans Z0 Kp.1) ) hZ (hw _ (List.mem_of_getElem? (i := 80) rfl)) (hw _ (List.mem_of_getElem? (i := 3) rfl)) (by decide) (by decide)) qa25 qc25 (g := (mkF m 200 #[iv p1, iv p2, iv p3, iv p4, iv p5, rv b1, rv b8, rv b15, rv b17, iv (0 : Int32), iv (0 : Int32), iv (p3 &&& (2147483647 : Int32)), iv (p4 &&& (2147483647 : Int32)), rv b19, rv b20, rv b23] [(.ref b15), (.ref b15)])) rfl (by rw [hml]; rfl) (Steps.refl _) (argsL := [(.ref b15)]) (rest := []) (lenOf own_pd__Ljava_lang_Object__Z rfl) rfl (by show 2 * 0 + _ ≤ _; exact Nat.le_of_eq rfl) (hb hby at_200) (fun _ _ => ⟨rfl, e24, (by decide : 9 + 0 ≤ _), (by decide : 28 + 0 ≤ _)⟩)
      dsimp only [Pt.U, Pt.locs, Pt.cells, Pt.slots] at X25 l25 y25 z25 st25 hQ25
      subst y25 z25
      replace X25 := X25.mono (Nat.le_of_ble_eq_true rfl : _ ≤ 9) (Nat.le_of_ble_eq_true rfl : _ ≤ 28)
      obtain ⟨rfl, Nq25, e25⟩ := hQ25
      have N25 : Fr n0 L25 := by rw [l25]; exact Fr.app N24 Nq25
      refine own_go (fun zt zk => st25.trans zk) ?_
      show own_Go p e below s _ _ _ (T25.setTop (mkF m 203 #[iv p1, iv p2, iv p3, iv p4, iv p5, rv b1, rv b8, rv b15, rv b17, iv (0 : Int32), iv (0 : Int32), iv (p3 &&& (2147483647 : Int32)), iv (p4 &&& (2147483647 : Int32)), rv b19, rv b20, rv b23] [(.int (1 : Int32))]))
      refine own_go (fun zt zk => (XS.ifNo X25.here hx rfl (hb hby at_203) rfl ((if0 _ _).trans (feq ((by decide) : ¬ ((1 : Int32) = (0 : Int32)))).1) (XS.aload X25.here hx rfl (hb hby at_206) rfl rfl zk))) ?_
      show own_Go p e below s _ _ _ (T25.setTop (mkF m 208 #[iv p1, iv p2, iv p3, iv p4, iv p5, rv b1, rv b8, rv b15, rv b17, iv (0 : Int32), iv (0 : Int32), iv (p3 &&& (2147483647 : Int32)), iv (p4 &&& (2147483647 : Int32)), rv b19, rv b20, rv b23] [(.ref b23)]))
      obtain ⟨cq26, kq26, qa26, qb26, qc26⟩ := isOf hZ e25 Ex_b23
      obtain ⟨_, _, ⟨T26, L26, k26, n26⟩, -, X26, ⟨Lc26, hQ26, l26, y26, z26⟩, st26⟩ := X25.virtualBack hx (y := (⟨"com/example/tranche/tranche/model/Row$Field", "text", "()Ljava/lang/String;"⟩ : MethodName)) (z := (⟨"com/example/tranche/tranche/model/Row$Field", "text", "()Ljava/lang/String;"⟩ : MethodName)) hown (mvT hZ (hw _ (List.mem_of_getElem? (i := 81) rfl))) (mvT hZ (hw _ (List.mem_of_getElem? (i := 82) rfl))) (notFace_of_selects (args := #[]) (mvT hZ (hw _ (List.mem_of_getElem? (i := 84) rfl)))) (mvT hZ (hw _ (List.mem_of_getElem? (i := 84) rfl))) (mvT hZ (hw _ (List.mem_of_getElem? (i := 83) rfl))) (by decide) (backOf (W := 0) (own_gtext l Z a0 hw [] b23 b17 T23.heap n0 (Nat.le_trans Z0 Kp.1) Ft23) hZ (hw _ (List.mem_of_getElem? (i := 85) rfl)) (hw _ (List.mem_of_getElem? (i := 33) rfl)) (by decide) (by decide)) qa26 qc26 (g := (mkF m 208 #[iv p1, iv p2, iv p3, iv p4, iv p5, rv b1, rv b8, rv b15, rv b17, iv (0 : Int32), iv (0 : Int32), iv (p3 &&& (2147483647 : Int32)), iv (p4 &&& (2147483647 : Int32)), rv b19, rv b20, rv b23] [(.ref b23)])) rfl (by rw [hml]; rfl) (Steps.refl _) (argsL := []) (rest := []) (lenOf own_pd___Ljava_lang_String_ rfl) rfl (by show 2 * 0 + _ ≤ _; exact Nat.le_of_eq rfl) (hb hby at_208) (fun _ _ => ⟨rfl, e25, (by decide : 9 + 0 ≤ _), (by decide : 28 + 0 ≤ _)⟩)
      dsimp only [Pt.U, Pt.locs, Pt.cells, Pt.slots] at X26 l26 y26 z26 st26 hQ26
      subst y26 z26
      replace X26 := X26.mono (Nat.le_of_ble_eq_true rfl : _ ≤ 9) (Nat.le_of_ble_eq_true rfl : _ ≤ 28)
      obtain ⟨rfl, Nq26, e26⟩ := hQ26
      have N26 : Fr n0 L26 := by rw [l26]; exact Fr.app N25 Nq26
      refine own_go (fun zt zk => st26.trans zk) ?_
      show own_Go p e below s _ _ _ (T26.setTop (mkF m 211 #[iv p1, iv p2, iv p3, iv p4, iv p5, rv b1, rv b8, rv b15, rv b17, iv (0 : Int32), iv (0 : Int32), iv (p3 &&& (2147483647 : Int32)), iv (p4 &&& (2147483647 : Int32)), rv b19, rv b20, rv b23] [(.ref b17)]))
      refine own_go (fun zt zk => (XS.aload X26.here hx rfl (hb hby at_211) rfl rfl zk)) ?_
      show own_Go p e below s _ _ _ (T26.setTop (mkF m 213 #[iv p1, iv p2, iv p3, iv p4, iv p5, rv b1, rv b8, rv b15, rv b17, iv (0 : Int32), iv (0 : Int32), iv (p3 &&& (2147483647 : Int32)), iv (p4 &&& (2147483647 : Int32)), rv b19, rv b20, rv b23] [(.ref b17), (.ref b17)]))
      obtain ⟨cq27, kq27, qa27, qb27, qc27⟩ := isOf hZ e26 Ex_b17
      obtain ⟨_, _, ⟨T27, L27, k27, n27⟩, -, X27, ⟨Lc27, hQ27, l27, y27, z27⟩, st27⟩ := X26.virtualBack hx (y := (⟨"java/lang/String", "equals", "(Ljava/lang/Object;)Z"⟩ : MethodName)) (z := (⟨"java/lang/String", "equals", "(Ljava/lang/Object;)Z"⟩ : MethodName)) hown (mvT hZ (hw _ (List.mem_of_getElem? (i := 76) rfl))) (mvT hZ (hw _ (List.mem_of_getElem? (i := 77) rfl))) (notFace_of_selects (args := #[]) (mvT hZ (hw _ (List.mem_of_getElem? (i := 79) rfl)))) (mvT hZ (hw _ (List.mem_of_getElem? (i := 79) rfl))) (mvT hZ (hw _ (List.mem_of_getElem? (i := 78) rfl))) (by decide) (backOf (W := 0) (own_reqs l Z a0 hw [] b17  T23.heap n0 (Nat.le_trans Z0 Kp.1) ) hZ (hw _ (List.mem_of_getElem? (i := 80) rfl)) (hw _ (List.mem_of_getElem? (i := 3) rfl)) (by decide) (by decide)) qa27 qc27 (g := (mkF m 213 #[iv p1, iv p2, iv p3, iv p4, iv p5, rv b1, rv b8, rv b15, rv b17, iv (0 : Int32), iv (0 : Int32), iv (p3 &&& (2147483647 : Int32)), iv (p4 &&& (2147483647 : Int32)), rv b19, rv b20, rv b23] [(.ref b17), (.ref b17)])) rfl (by rw [hml]; rfl) (Steps.refl _) (argsL := [(.ref b17)]) (rest := []) (lenOf own_pd__Ljava_lang_Object__Z rfl) rfl (by show 2 * 0 + _ ≤ _; exact Nat.le_of_eq rfl) (hb hby at_213) (fun _ _ => ⟨rfl, e26, (by decide : 9 + 0 ≤ _), (by decide : 28 + 0 ≤ _)⟩)
      dsimp only [Pt.U, Pt.locs, Pt.cells, Pt.slots] at X27 l27 y27 z27 st27 hQ27
      subst y27 z27
      replace X27 := X27.mono (Nat.le_of_ble_eq_true rfl : _ ≤ 9) (Nat.le_of_ble_eq_true rfl : _ ≤ 28)
      obtain ⟨rfl, Nq27, e27⟩ := hQ27
      have N27 : Fr n0 L27 := by rw [l27]; exact Fr.app N26 Nq27
      refine own_go (fun zt zk => st27.trans zk) ?_
      show own_Go p e below s _ _ _ (T27.setTop (mkF m 216 #[iv p1, iv p2, iv p3, iv p4, iv p5, rv b1, rv b8, rv b15, rv b17, iv (0 : Int32), iv (0 : Int32), iv (p3 &&& (2147483647 : Int32)), iv (p4 &&& (2147483647 : Int32)), rv b19, rv b20, rv b23] [(.int (1 : Int32))]))
      refine own_go (fun zt zk => (XS.ifNo X27.here hx rfl (hb hby at_216) rfl ((if0 _ _).trans (feq ((by decide) : ¬ ((1 : Int32) = (0 : Int32)))).1) (XS.aload X27.here hx rfl (hb hby at_219) rfl rfl zk))) ?_
      show own_Go p e below s _ _ _ (T27.setTop (mkF m 221 #[iv p1, iv p2, iv p3, iv p4, iv p5, rv b1, rv b8, rv b15, rv b17, iv (0 : Int32), iv (0 : Int32), iv (p3 &&& (2147483647 : Int32)), iv (p4 &&& (2147483647 : Int32)), rv b19, rv b20, rv b23] [(.ref b23)]))
      obtain ⟨cq28, kq28, qa28, qb28, qc28⟩ := isOf hZ e27 Ex_b23
      obtain ⟨_, _, ⟨T28, L28, k28, n28⟩, -, X28, ⟨Lc28, hQ28, l28, y28, z28⟩, st28⟩ := X27.virtualBack hx (y := (⟨"com/example/tranche/tranche/model/Row$Field", "span", "()Ljava/util/Optional;"⟩ : MethodName)) (z := (⟨"com/example/tranche/tranche/model/Row$Field", "span", "()Ljava/util/Optional;"⟩ : MethodName)) hown (mvT hZ (hw _ (List.mem_of_getElem? (i := 60) rfl))) (mvT hZ (hw _ (List.mem_of_getElem? (i := 61) rfl))) (notFace_of_selects (args := #[]) (mvT hZ (hw _ (List.mem_of_getElem? (i := 63) rfl)))) (mvT hZ (hw _ (List.mem_of_getElem? (i := 63) rfl))) (mvT hZ (hw _ (List.mem_of_getElem? (i := 62) rfl))) (by decide) (backOf (W := 0) (own_gspan l Z a0 hw [] b23 o_EMPTY T23.heap n0 (Nat.le_trans Z0 Kp.1) Fs23) hZ (hw _ (List.mem_of_getElem? (i := 64) rfl)) (hw _ (List.mem_of_getElem? (i := 33) rfl)) (by decide) (by decide)) qa28 qc28 (g := (mkF m 221 #[iv p1, iv p2, iv p3, iv p4, iv p5, rv b1, rv b8, rv b15, rv b17, iv (0 : Int32), iv (0 : Int32), iv (p3 &&& (2147483647 : Int32)), iv (p4 &&& (2147483647 : Int32)), rv b19, rv b20, rv b23] [(.ref b23)])) rfl (by rw [hml]; rfl) (Steps.refl _) (argsL := []) (rest := []) (lenOf own_pd___Ljava_util_Optional_ rfl) rfl (by show 2 * 0 + _ ≤ _; exact Nat.le_of_eq rfl) (hb hby at_221) (fun _ _ => ⟨rfl, e27, (by decide : 9 + 0 ≤ _), (by decide : 28 + 0 ≤ _)⟩)
      dsimp only [Pt.U, Pt.locs, Pt.cells, Pt.slots] at X28 l28 y28 z28 st28 hQ28
      subst y28 z28
      replace X28 := X28.mono (Nat.le_of_ble_eq_true rfl : _ ≤ 9) (Nat.le_of_ble_eq_true rfl : _ ≤ 28)
      obtain ⟨rfl, Nq28, e28⟩ := hQ28
      have N28 : Fr n0 L28 := by rw [l28]; exact Fr.app N27 Nq28
      refine own_go (fun zt zk => st28.trans zk) ?_
      show own_Go p e below s _ _ _ (T28.setTop (mkF m 224 #[iv p1, iv p2, iv p3, iv p4, iv p5, rv b1, rv b8, rv b15, rv b17, iv (0 : Int32), iv (0 : Int32), iv (p3 &&& (2147483647 : Int32)), iv (p4 &&& (2147483647 : Int32)), rv b19, rv b20, rv b23] [(.ref o_EMPTY)]))
      refine own_go (fun zt zk => (XS.aload X28.here hx rfl (hb hby at_224) rfl rfl zk)) ?_
      show own_Go p e below s _ _ _ (T28.setTop (mkF m 226 #[iv p1, iv p2, iv p3, iv p4, iv p5, rv b1, rv b8, rv b15, rv b17, iv (0 : Int32), iv (0 : Int32), iv (p3 &&& (2147483647 : Int32)), iv (p4 &&& (2147483647 : Int32)), rv b19, rv b20, rv b23] [(.ref b19), (.ref o_EMPTY)]))
      obtain ⟨cq29, kq29, qa29, qb29, qc29⟩ := isOf hZ e28 Ex_b19
      obtain ⟨_, _, ⟨T29, L29, k29, n29⟩, -, X29, ⟨Lc29, hQ29, l29, y29, z29⟩, st29⟩ := X28.virtualBack hx (y := (⟨"com/example/tranche/tranche/model/Row$Field", "span", "()Ljava/util/Optional;"⟩ : MethodName)) (z := (⟨"com/example/tranche/tranche/model/Row$Field", "span", "()Ljava/util/Optional;"⟩ : MethodName)) hown (mvT hZ (hw _ (List.mem_of_getElem? (i := 60) rfl))) (mvT hZ (hw _ (List.mem_of_getElem? (i := 61) rfl))) (notFace_of_selects (args := #[]) (mvT hZ (hw _ (List.mem_of_getElem? (i := 63) rfl)))) (mvT hZ (hw _ (List.mem_of_getElem? (i := 63) rfl))) (mvT hZ (hw _ (List.mem_of_getElem? (i := 62) rfl))) (by decide) (backOf (W := 1) (own_gspan l Z a0 hw [] b19 o_EMPTY T23.heap n0 (Nat.le_trans Z0 Kp.1) Fs19) hZ (hw _ (List.mem_of_getElem? (i := 64) rfl)) (hw _ (List.mem_of_getElem? (i := 33) rfl)) (by decide) (by decide)) qa29 qc29 (g := (mkF m 226 #[iv p1, iv p2, iv p3, iv p4, iv p5, rv b1, rv b8, rv b15, rv b17, iv (0 : Int32), iv (0 : Int32), iv (p3 &&& (2147483647 : Int32)), iv (p4 &&& (2147483647 : Int32)), rv b19, rv b20, rv b23] [(.ref b19), (.ref o_EMPTY)])) rfl (by rw [hml]; rfl) (Steps.refl _) (argsL := []) (rest := [(.ref o_EMPTY)]) (lenOf own_pd___Ljava_util_Optional_ rfl) rfl (by show 2 * 0 + _ ≤ _; exact Nat.le_of_eq rfl) (hb hby at_226) (fun _ _ => ⟨rfl, e28, (by decide : 9 + 0 ≤ _), (by decide : 28 + 0 ≤ _)⟩)
      dsimp only [Pt.U, Pt.locs, Pt.cells, Pt.slots] at X29 l29 y29 z29 st29 hQ29
      subst y29 z29
      replace X29 := X29.mono (Nat.le_of_ble_eq_true rfl : _ ≤ 9) (Nat.le_of_ble_eq_true rfl : _ ≤ 28)
      obtain ⟨rfl, Nq29, e29⟩ := hQ29
      have N29 : Fr n0 L29 := by rw [l29]; exact Fr.app N28 Nq29
      refine own_go (fun zt zk => st29.trans zk) ?_
      show own_Go p e below s _ _ _ (T29.setTop (mkF m 229 #[iv p1, iv p2, iv p3, iv p4, iv p5, rv b1, rv b8, rv b15, rv b17, iv (0 : Int32), iv (0 : Int32), iv (p3 &&& (2147483647 : Int32)), iv (p4 &&& (2147483647 : Int32)), rv b19, rv b20, rv b23] [(.ref o_EMPTY), (.ref o_EMPTY)]))
      refine own_go (fun zt zk => Jvm.RoadKit.acmp (g := (mkF m 229 #[iv p1, iv p2, iv p3, iv p4, iv p5, rv b1, rv b8, rv b15, rv b17, iv (0 : Int32), iv (0 : Int32), iv (p3 &&& (2147483647 : Int32)), iv (p4 &&& (2147483647 : Int32)), rv b19, rv b20, rv b23] [(.ref o_EMPTY), (.ref o_EMPTY)])) X29 hx rfl rfl rfl (pc0 := 229) (pc' := 232) (same := true) rfl (hb hby at_229) rfl (decide_eq_true rfl) (by decide) (by decide) zk) ?_
      show own_Go p e below s _ _ _ (T29.setTop (mkF m 232 #[iv p1, iv p2, iv p3, iv p4, iv p5, rv b1, rv b8, rv b15, rv b17, iv (0 : Int32), iv (0 : Int32), iv (p3 &&& (2147483647 : Int32)), iv (p4 &&& (2147483647 : Int32)), rv b19, rv b20, rv b23] []))
      refine own_go (fun zt zk => (XS.aload X29.here hx rfl (hb hby at_232) rfl rfl zk)) ?_
      show own_Go p e below s _ _ _ (T29.setTop (mkF m 234 #[iv p1, iv p2, iv p3, iv p4, iv p5, rv b1, rv b8, rv b15, rv b17, iv (0 : Int32), iv (0 : Int32), iv (p3 &&& (2147483647 : Int32)), iv (p4 &&& (2147483647 : Int32)), rv b19, rv b20, rv b23] [(.ref b23)]))
      obtain ⟨cq30, kq30, qa30, qb30, qc30⟩ := isOf hZ e29 Ex_b23
      obtain ⟨_, _, ⟨T30, L30, k30, n30⟩, -, X30, ⟨Lc30, hQ30, l30, y30, z30⟩, st30⟩ := X29.virtualBack hx (y := (⟨"com/example/tranche/tranche/model/Row$Field", "spanFirst", "()Z"⟩ : MethodName)) (z := (⟨"com/example/tranche/tranche/model/Row$Field", "spanFirst", "()Z"⟩ : MethodName)) hown (mvT hZ (hw _ (List.mem_of_getElem? (i := 86) rfl))) (mvT hZ (hw _ (List.mem_of_getElem? (i := 87) rfl))) (notFace_of_selects (args := #[]) (mvT hZ (hw _ (List.mem_of_getElem? (i := 89) rfl)))) (mvT hZ (hw _ (List.mem_of_getElem? (i := 89) rfl))) (mvT hZ (hw _ (List.mem_of_getElem? (i := 88) rfl))) (by decide) (backOf (W := 0) (own_gsf l Z a0 hw [] b23 (1 : Int32) T23.heap n0 (Nat.le_trans Z0 Kp.1) Fz23 rfl) hZ (hw _ (List.mem_of_getElem? (i := 90) rfl)) (hw _ (List.mem_of_getElem? (i := 33) rfl)) (by decide) (by decide)) qa30 qc30 (g := (mkF m 234 #[iv p1, iv p2, iv p3, iv p4, iv p5, rv b1, rv b8, rv b15, rv b17, iv (0 : Int32), iv (0 : Int32), iv (p3 &&& (2147483647 : Int32)), iv (p4 &&& (2147483647 : Int32)), rv b19, rv b20, rv b23] [(.ref b23)])) rfl (by rw [hml]; rfl) (Steps.refl _) (argsL := []) (rest := []) (lenOf own_pd___Z rfl) rfl (by show 2 * 0 + _ ≤ _; exact Nat.le_of_eq rfl) (hb hby at_234) (fun _ _ => ⟨rfl, e29, (by decide : 9 + 0 ≤ _), (by decide : 28 + 0 ≤ _)⟩)
      dsimp only [Pt.U, Pt.locs, Pt.cells, Pt.slots] at X30 l30 y30 z30 st30 hQ30
      subst y30 z30
      replace X30 := X30.mono (Nat.le_of_ble_eq_true rfl : _ ≤ 9) (Nat.le_of_ble_eq_true rfl : _ ≤ 28)
      obtain ⟨rfl, Nq30, e30⟩ := hQ30
      have N30 : Fr n0 L30 := by rw [l30]; exact Fr.app N29 Nq30
      refine own_go (fun zt zk => st30.trans zk) ?_
      show own_Go p e below s _ _ _ (T30.setTop (mkF m 237 #[iv p1, iv p2, iv p3, iv p4, iv p5, rv b1, rv b8, rv b15, rv b17, iv (0 : Int32), iv (0 : Int32), iv (p3 &&& (2147483647 : Int32)), iv (p4 &&& (2147483647 : Int32)), rv b19, rv b20, rv b23] [(.int (1 : Int32))]))
      refine own_go (fun zt zk => (XS.ifNo X30.here hx rfl (hb hby at_237) rfl ((if0 _ _).trans (feq ((by decide) : ¬ ((1 : Int32) = (0 : Int32)))).1) (XS.aload X30.here hx rfl (hb hby at_240) rfl rfl zk))) ?_
      show own_Go p e below s _ _ _ (T30.setTop (mkF m 242 #[iv p1, iv p2, iv p3, iv p4, iv p5, rv b1, rv b8, rv b15, rv b17, iv (0 : Int32), iv (0 : Int32), iv (p3 &&& (2147483647 : Int32)), iv (p4 &&& (2147483647 : Int32)), rv b19, rv b20, rv b23] [(.ref b20)]))
      obtain ⟨cq31, kq31, qa31, qb31, qc31⟩ := isOf hZ e30 Ex_b20
      obtain ⟨_, _, ⟨T31, L31, k31, n31⟩, -, X31, ⟨Lc31, hQ31, l31, y31, z31⟩, st31⟩ := X30.virtualBack hx (y := (⟨"com/example/tranche/tranche/model/Row$Field", "spanFirst", "()Z"⟩ : MethodName)) (z := (⟨"com/example/tranche/tranche/model/Row$Field", "spanFirst", "()Z"⟩ : MethodName)) hown (mvT hZ (hw _ (List.mem_of_getElem? (i := 86) rfl))) (mvT hZ (hw _ (List.mem_of_getElem? (i := 87) rfl))) (notFace_of_selects (args := #[]) (mvT hZ (hw _ (List.mem_of_getElem? (i := 89) rfl)))) (mvT hZ (hw _ (List.mem_of_getElem? (i := 89) rfl))) (mvT hZ (hw _ (List.mem_of_getElem? (i := 88) rfl))) (by decide) (backOf (W := 0) (own_gsf l Z a0 hw [] b20 (0 : Int32) T23.heap n0 (Nat.le_trans Z0 Kp.1) F_spanFirst_b20 rfl) hZ (hw _ (List.mem_of_getElem? (i := 90) rfl)) (hw _ (List.mem_of_getElem? (i := 33) rfl)) (by decide) (by decide)) qa31 qc31 (g := (mkF m 242 #[iv p1, iv p2, iv p3, iv p4, iv p5, rv b1, rv b8, rv b15, rv b17, iv (0 : Int32), iv (0 : Int32), iv (p3 &&& (2147483647 : Int32)), iv (p4 &&& (2147483647 : Int32)), rv b19, rv b20, rv b23] [(.ref b20)])) rfl (by rw [hml]; rfl) (Steps.refl _) (argsL := []) (rest := []) (lenOf own_pd___Z rfl) rfl (by show 2 * 0 + _ ≤ _; exact Nat.le_of_eq rfl) (hb hby at_242) (fun _ _ => ⟨rfl, e30, (by decide : 9 + 0 ≤ _), (by decide : 28 + 0 ≤ _)⟩)
      dsimp only [Pt.U, Pt.locs, Pt.cells, Pt.slots] at X31 l31 y31 z31 st31 hQ31
      subst y31 z31
      replace X31 := X31.mono (Nat.le_of_ble_eq_true rfl : _ ≤ 9) (Nat.le_of_ble_eq_true rfl : _ ≤ 28)
      obtain ⟨rfl, Nq31, e31⟩ := hQ31
      have N31 : Fr n0 L31 := by rw [l31]; exact Fr.app N30 Nq31
      refine own_go (fun zt zk => st31.trans zk) ?_
      show own_Go p e below s _ _ _ (T31.setTop (mkF m 245 #[iv p1, iv p2, iv p3, iv p4, iv p5, rv b1, rv b8, rv b15, rv b17, iv (0 : Int32), iv (0 : Int32), iv (p3 &&& (2147483647 : Int32)), iv (p4 &&& (2147483647 : Int32)), rv b19, rv b20, rv b23] [(.int (0 : Int32))]))
      refine own_go (fun zt zk => (XS.iload X31.here hx rfl (hb hby at_245) rfl (XS.icmpNo X31.here hx rfl (hb hby at_247) rfl (teq (rfl : (0 : Int32) = (0 : Int32))).2 (XS.iconst X31.here hx rfl (hb hby at_250) (XS.goto X31.here hx rfl (pc0 := 251) (pc' := 255) rfl (hb hby at_251) (by decide) (by decide) zk))))) ?_
      show own_Go p e below s _ _ _ (T31.setTop (mkF m 255 #[iv p1, iv p2, iv p3, iv p4, iv p5, rv b1, rv b8, rv b15, rv b17, iv (0 : Int32), iv (0 : Int32), iv (p3 &&& (2147483647 : Int32)), iv (p4 &&& (2147483647 : Int32)), rv b19, rv b20, rv b23] [(.int (1 : Int32))]))
      exact own_fin X31 Bd.notSynchronized (fun h => by rw [Bd.returns] at h; cases h) (fun fs hr => retN X31 hx (t := .boolean) Bd.returns (by simp) (hb hby at_255) hr) (by rw [e31]; exact ⟨rfl, N31⟩) (by decide) (by decide)
    · refine own_go (fun zt zk => (XS.ifNo X18.here hx rfl (hb hby at_92) rfl ((if0 _ _).trans (feq (hf : ¬ ((p5 &&& (2 : Int32)) = (0 : Int32)))).1) (XS.iconst X18.here hx rfl (hb hby at_95) (XS.goto X18.here hx rfl (pc0 := 96) (pc' := 100) rfl (hb hby at_96) (by decide) (by decide) (XS.istore X18.here hx rfl (hb hby at_100) rfl (l' := #[iv p1, iv p2, iv p3, iv p4, iv p5, rv b1, rv b8, rv b15, rv b17, iv (0 : Int32), iv (1 : Int32), .unset, .unset, .unset, .unset, .unset]) rfl (XS.iloadN X18.here hx rfl (hb hby at_102) rfl (X18.ldcI hx hown (mvT hZ (hw _ (List.mem_of_getElem? (i := 30) rfl))) (g := (mkF m 103 #[iv p1, iv p2, iv p3, iv p4, iv p5, rv b1, rv b8, rv b15, rv b17, iv (0 : Int32), iv (1 : Int32), .unset, .unset, .unset, .unset, .unset] [(.int p3)])) rfl (hb hby at_103) (XS.iand X18.here hx rfl (hb hby at_105) rfl (XS.istore X18.here hx rfl (hb hby at_106) rfl (l' := #[iv p1, iv p2, iv p3, iv p4, iv p5, rv b1, rv b8, rv b15, rv b17, iv (0 : Int32), iv (1 : Int32), iv (p3 &&& (2147483647 : Int32)), .unset, .unset, .unset, .unset]) rfl (XS.iloadN X18.here hx rfl (hb hby at_108) rfl (X18.ldcI hx hown (mvT hZ (hw _ (List.mem_of_getElem? (i := 30) rfl))) (g := (mkF m 109 #[iv p1, iv p2, iv p3, iv p4, iv p5, rv b1, rv b8, rv b15, rv b17, iv (0 : Int32), iv (1 : Int32), iv (p3 &&& (2147483647 : Int32)), .unset, .unset, .unset, .unset] [(.int p4)])) rfl (hb hby at_109) (XS.iand X18.here hx rfl (hb hby at_111) rfl (XS.istore X18.here hx rfl (hb hby at_112) rfl (l' := #[iv p1, iv p2, iv p3, iv p4, iv p5, rv b1, rv b8, rv b15, rv b17, iv (0 : Int32), iv (1 : Int32), iv (p3 &&& (2147483647 : Int32)), iv (p4 &&& (2147483647 : Int32)), .unset, .unset, .unset]) rfl zk))))))))))))) ?_
      show own_Go p e below s _ _ _ (T18.setTop (mkF m 114 #[iv p1, iv p2, iv p3, iv p4, iv p5, rv b1, rv b8, rv b15, rv b17, iv (0 : Int32), iv (1 : Int32), iv (p3 &&& (2147483647 : Int32)), iv (p4 &&& (2147483647 : Int32)), .unset, .unset, .unset] []))
      refine own_go (fun zt zk => (XS.iload X18.here hx rfl (hb hby at_114) rfl (XS.ifYes X18.here hx rfl (pc0 := 116) (pc' := 152) rfl (hb hby at_116) rfl ((if0 _ _).trans (teq (rfl : (0 : Int32) = (0 : Int32))).1) (by decide) (by decide) (XS.aload X18.here hx rfl (hb hby at_152) rfl rfl (XS.aload X18.here hx rfl (hb hby at_154) rfl rfl zk))))) ?_
      show own_Go p e below s _ _ _ (T18.setTop (mkF m 156 #[iv p1, iv p2, iv p3, iv p4, iv p5, rv b1, rv b8, rv b15, rv b17, iv (0 : Int32), iv (1 : Int32), iv (p3 &&& (2147483647 : Int32)), iv (p4 &&& (2147483647 : Int32)), .unset, .unset, .unset] [(.ref b17), (.ref b15)]))
      obtain ⟨_, _, ⟨T32, L32, k32, n32⟩, -, X32, ⟨Lc32, hQ32, l32, y32, z32⟩, st32⟩ := Jvm.LawKit.callS X18 hx (y := (⟨"com/example/tranche/tranche/model/Row$Field", "given", "(Ljava/lang/String;Ljava/lang/String;)Lcom/example/tranche/tranche/model/Row$Field;"⟩ : MethodName)) hown (mvT hZ (hw _ (List.mem_of_getElem? (i := 31) rfl))) (mvT hZ (hw _ (List.mem_of_getElem? (i := 32) rfl))) (mvT hZ (hw _ (List.mem_of_getElem? (i := 33) rfl))) (mvT hZ (hw _ (List.mem_of_getElem? (i := 34) rfl))) (by decide) (backOf (W := 0) (own_rgiven l Z a0 hw [] b15 b17 o_EMPTY T18.heap n0 (Nat.le_trans Z0 Kp.1) O S_o_EMPTY) hZ (hw _ (List.mem_of_getElem? (i := 34) rfl)) (hw _ (List.mem_of_getElem? (i := 33) rfl)) (by decide) (by decide)) (g := (mkF m 156 #[iv p1, iv p2, iv p3, iv p4, iv p5, rv b1, rv b8, rv b15, rv b17, iv (0 : Int32), iv (1 : Int32), iv (p3 &&& (2147483647 : Int32)), iv (p4 &&& (2147483647 : Int32)), .unset, .unset, .unset] [(.ref b17), (.ref b15)])) rfl (by rw [hml]; rfl) (argsL := [(.ref b15), (.ref b17)]) (rest := []) (lenOf own_pd__Ljava_lang_String_Ljava_lang_String__Lcom_example_tranche_tranche_model_Row_Field_ rfl) rfl (by show 2 * 0 + _ ≤ _; exact Nat.le_of_eq rfl) (hb hby at_156) (fun _ _ => ⟨rfl, rfl, (by decide : 6 + 1 ≤ _), (by decide : 16 + 4 ≤ _)⟩)
      dsimp only [Pt.U, Pt.locs, Pt.cells, Pt.slots] at X32 l32 y32 z32 st32 hQ32
      subst y32 z32
      replace X32 := X32.mono (Nat.le_of_ble_eq_true rfl : _ ≤ 7) (Nat.le_of_ble_eq_true rfl : _ ≤ 20)
      obtain ⟨b32, rfl, Nq32, K32, sb32, Ex_b32, Fn32, Ft32, Fs32, Fz32⟩ := hQ32
      have N32 : Fr n0 L32 := by rw [l32]; exact Fr.app N18 Nq32
      refine own_go st32 ?_
      replace O := O.keep K32 all0
      replace Kp := Kp.trans K32 all0
      replace V_b1 := V_b1.keep K32 nin0
      replace Ea_b1 := Ea_b1.keep K32
      replace V_b8 := V_b8.keep K32 nin0
      replace Ea_b8 := Ea_b8.keep K32
      replace Ex_b15 := Ex_b15.keep K32
      replace Fc16 := Fc16.keep K32 nin0
      replace Fv16 := Fv16.keep K32 nin0
      replace Vt16 := Vt16.keep K32 nin0
      replace Ex_b17 := Ex_b17.keep K32
      replace Fc18 := Fc18.keep K32 nin0
      replace Fv18 := Fv18.keep K32 nin0
      replace Vt18 := Vt18.keep K32 nin0
      show own_Go p e below s _ _ _ (T32.setTop (mkF m 159 #[iv p1, iv p2, iv p3, iv p4, iv p5, rv b1, rv b8, rv b15, rv b17, iv (0 : Int32), iv (1 : Int32), iv (p3 &&& (2147483647 : Int32)), iv (p4 &&& (2147483647 : Int32)), .unset, .unset, .unset] [(.ref b32)]))
      refine own_go (fun zt zk => (XS.astore X32.here hx rfl (hb hby at_159) rfl rfl (l' := #[iv p1, iv p2, iv p3, iv p4, iv p5, rv b1, rv b8, rv b15, rv b17, iv (0 : Int32), iv (1 : Int32), iv (p3 &&& (2147483647 : Int32)), iv (p4 &&& (2147483647 : Int32)), rv b32, .unset, .unset]) rfl zk)) ?_
      show own_Go p e below s _ _ _ (T32.setTop (mkF m 161 #[iv p1, iv p2, iv p3, iv p4, iv p5, rv b1, rv b8, rv b15, rv b17, iv (0 : Int32), iv (1 : Int32), iv (p3 &&& (2147483647 : Int32)), iv (p4 &&& (2147483647 : Int32)), rv b32, .unset, .unset] []))
      obtain ⟨T33, h33, X33, e33, E33, A33, D33, -, st33⟩ := newO X32 hx hZ hown (hw _ (List.mem_of_getElem? (i := 59) rfl)) (hw _ (List.mem_of_getElem? (i := 36) rfl)) (hw _ (List.mem_of_getElem? (i := 33) rfl)) rfl (g := (mkF m 161 #[iv p1, iv p2, iv p3, iv p4, iv p5, rv b1, rv b8, rv b15, rv b17, iv (0 : Int32), iv (1 : Int32), iv (p3 &&& (2147483647 : Int32)), iv (p4 &&& (2147483647 : Int32)), rv b32, .unset, .unset] [])) rfl (hb hby at_161) (by decide) (by decide)
      obtain ⟨b33, g33⟩ : ∃ z, z = T32.heap.size := ⟨_, rfl⟩
      rw [← g33] at A33 D33 st33
      refine own_go st33 ?_
      have ne_o_EMPTY_b33 : o_EMPTY ≠ b33 := Nat.ne_of_lt (Nat.lt_of_lt_of_le (Ex_o_EMPTY.ext O.2).lt (Nat.le_of_eq g33.symm))
      have ne_b1_b33 : b1 ≠ b33 := Nat.ne_of_lt (Nat.lt_of_lt_of_le V_b1.lt (Nat.le_of_eq g33.symm))
      have ne_b8_b33 : b8 ≠ b33 := Nat.ne_of_lt (Nat.lt_of_lt_of_le V_b8.lt (Nat.le_of_eq g33.symm))
      have ne_b15_b33 : b15 ≠ b33 := Nat.ne_of_lt (Nat.lt_of_lt_of_le Ex_b15.lt (Nat.le_of_eq g33.symm))
      have ne_t16_b33 : t16 ≠ b33 := Nat.ne_of_lt (Nat.lt_of_lt_of_le Vt16.lt (Nat.le_of_eq g33.symm))
      have ne_b17_b33 : b17 ≠ b33 := Nat.ne_of_lt (Nat.lt_of_lt_of_le Ex_b17.lt (Nat.le_of_eq g33.symm))
      have ne_t18_b33 : t18 ≠ b33 := Nat.ne_of_lt (Nat.lt_of_lt_of_le Vt18.lt (Nat.le_of_eq g33.symm))
      have ne_b32_b33 : b32 ≠ b33 := Nat.ne_of_lt (Nat.lt_of_lt_of_le Ex_b32.lt (Nat.le_of_eq g33.symm))
      have sz_b33 : h0.size ≤ b33 := Nat.le_trans Kp.1 (Nat.le_of_eq g33.symm)
      have g_b33 : n0 ≤ b33 := Nat.le_trans Z0 sz_b33
      replace O := O.ext E33
      replace Kp := Kp.ext E33
      replace V_b1 := V_b1.ext E33
      replace Ea_b1 := Ea_b1.ext E33
      replace V_b8 := V_b8.ext E33
      replace Ea_b8 := Ea_b8.ext E33
      replace Ex_b15 := Ex_b15.ext E33
      replace Fc16 := Fc16.ext E33
      replace Fv16 := Fv16.ext E33
      replace Vt16 := Vt16.ext E33
      replace Ex_b17 := Ex_b17.ext E33
      replace Fc18 := Fc18.ext E33
      replace Fv18 := Fv18.ext E33
      replace Vt18 := Vt18.ext E33
      replace Ex_b32 := Ex_b32.ext E33
      replace Fn32 := Fn32.ext E33
      replace Ft32 := Ft32.ext E33
      replace Fs32 := Fs32.ext E33
      replace Fz32 := Fz32.ext E33
      have Ex_b33 := A33
      have F_name_b33 : Fld Z h33 b33 "com/example/tranche/tranche/model/Row$Field" "name" "Ljava/lang/String;" .null := D33 (Or.inr (hw _ (List.mem_of_getElem? (i := 52) rfl))) (ty := (.object "java/lang/String")) (by decide)
      have F_text_b33 : Fld Z h33 b33 "com/example/tranche/tranche/model/Row$Field" "text" "Ljava/lang/String;" .null := D33 (Or.inr (hw _ (List.mem_of_getElem? (i := 54) rfl))) (ty := (.object "java/lang/String")) (by decide)
      have F_span_b33 : Fld Z h33 b33 "com/example/tranche/tranche/model/Row$Field" "span" "Ljava/util/Optional;" .null := D33 (Or.inr (hw _ (List.mem_of_getElem? (i := 56) rfl))) (ty := (.object "java/util/Optional")) (by decide)
      have F_spanFirst_b33 : Fld Z h33 b33 "com/example/tranche/tranche/model/Row$Field" "spanFirst" "Z" (.int (0 : Int32)) := D33 (Or.inr (hw _ (List.mem_of_getElem? (i := 58) rfl))) (ty := .boolean) (by decide)
      show own_Go p e below s _ _ _ (T33.setTop (mkF m 164 #[iv p1, iv p2, iv p3, iv p4, iv p5, rv b1, rv b8, rv b15, rv b17, iv (0 : Int32), iv (1 : Int32), iv (p3 &&& (2147483647 : Int32)), iv (p4 &&& (2147483647 : Int32)), rv b32, .unset, .unset] [(.ref b33)]))
      refine own_go (fun zt zk => (XS.dup X33.here hx rfl (hb hby at_164) rfl rfl (XS.aload X33.here hx rfl (hb hby at_165) rfl rfl (XS.aload X33.here hx rfl (hb hby at_167) rfl rfl (XS.aload X33.here hx rfl (hb hby at_169) rfl rfl zk))))) ?_
      show own_Go p e below s _ _ _ (T33.setTop (mkF m 171 #[iv p1, iv p2, iv p3, iv p4, iv p5, rv b1, rv b8, rv b15, rv b17, iv (0 : Int32), iv (1 : Int32), iv (p3 &&& (2147483647 : Int32)), iv (p4 &&& (2147483647 : Int32)), rv b32, .unset, .unset] [(.ref b32), (.ref b17), (.ref b15), (.ref b33), (.ref b33)]))
      obtain ⟨cq34, kq34, qa34, qb34, qc34⟩ := isOf hZ e33 Ex_b32
      obtain ⟨_, _, ⟨T34, L34, k34, n34⟩, -, X34, ⟨Lc34, hQ34, l34, y34, z34⟩, st34⟩ := X33.virtualBack hx (y := (⟨"com/example/tranche/tranche/model/Row$Field", "span", "()Ljava/util/Optional;"⟩ : MethodName)) (z := (⟨"com/example/tranche/tranche/model/Row$Field", "span", "()Ljava/util/Optional;"⟩ : MethodName)) hown (mvT hZ (hw _ (List.mem_of_getElem? (i := 60) rfl))) (mvT hZ (hw _ (List.mem_of_getElem? (i := 61) rfl))) (notFace_of_selects (args := #[]) (mvT hZ (hw _ (List.mem_of_getElem? (i := 63) rfl)))) (mvT hZ (hw _ (List.mem_of_getElem? (i := 63) rfl))) (mvT hZ (hw _ (List.mem_of_getElem? (i := 62) rfl))) (by decide) (backOf (W := 4) (own_gspan l Z a0 hw [] b32 o_EMPTY h33 n0 (Nat.le_trans Z0 Kp.1) Fs32) hZ (hw _ (List.mem_of_getElem? (i := 64) rfl)) (hw _ (List.mem_of_getElem? (i := 33) rfl)) (by decide) (by decide)) qa34 qc34 (g := (mkF m 171 #[iv p1, iv p2, iv p3, iv p4, iv p5, rv b1, rv b8, rv b15, rv b17, iv (0 : Int32), iv (1 : Int32), iv (p3 &&& (2147483647 : Int32)), iv (p4 &&& (2147483647 : Int32)), rv b32, .unset, .unset] [(.ref b32), (.ref b17), (.ref b15), (.ref b33), (.ref b33)])) rfl (by rw [hml]; rfl) (Steps.refl _) (argsL := []) (rest := [(.ref b17), (.ref b15), (.ref b33), (.ref b33)]) (lenOf own_pd___Ljava_util_Optional_ rfl) rfl (by show 2 * 0 + _ ≤ _; exact Nat.le_of_eq rfl) (hb hby at_171) (fun _ _ => ⟨rfl, e33, (by decide : 8 + 0 ≤ _), (by decide : 24 + 0 ≤ _)⟩)
      dsimp only [Pt.U, Pt.locs, Pt.cells, Pt.slots] at X34 l34 y34 z34 st34 hQ34
      subst y34 z34
      replace X34 := X34.mono (Nat.le_of_ble_eq_true rfl : _ ≤ 8) (Nat.le_of_ble_eq_true rfl : _ ≤ 24)
      obtain ⟨rfl, Nq34, e34⟩ := hQ34
      have N34 : Fr n0 L34 := by rw [l34]; exact Fr.app N32 Nq34
      refine own_go (fun zt zk => st34.trans zk) ?_
      show own_Go p e below s _ _ _ (T34.setTop (mkF m 174 #[iv p1, iv p2, iv p3, iv p4, iv p5, rv b1, rv b8, rv b15, rv b17, iv (0 : Int32), iv (1 : Int32), iv (p3 &&& (2147483647 : Int32)), iv (p4 &&& (2147483647 : Int32)), rv b32, .unset, .unset] [(.ref o_EMPTY), (.ref b17), (.ref b15), (.ref b33), (.ref b33)]))
      refine own_go (fun zt zk => (XS.iload X34.here hx rfl (hb hby at_174) rfl zk)) ?_
      show own_Go p e below s _ _ _ (T34.setTop (mkF m 176 #[iv p1, iv p2, iv p3, iv p4, iv p5, rv b1, rv b8, rv b15, rv b17, iv (0 : Int32), iv (1 : Int32), iv (p3 &&& (2147483647 : Int32)), iv (p4 &&& (2147483647 : Int32)), rv b32, .unset, .unset] [(.int (1 : Int32)), (.ref o_EMPTY), (.ref b17), (.ref b15), (.ref b33), (.ref b33)]))
      obtain ⟨_, _, ⟨T35, L35, k35, n35⟩, -, X35, ⟨Lc35, hQ35, l35, y35, z35⟩, st35⟩ := X34.specialBack hx (y := (⟨"com/example/tranche/tranche/model/Row$Field", "<init>", "(Ljava/lang/String;Ljava/lang/String;Ljava/util/Optional;Z)V"⟩ : MethodName)) rfl hown (mvT hZ (hw _ (List.mem_of_getElem? (i := 65) rfl))) (mvT hZ (hw _ (List.mem_of_getElem? (i := 43) rfl))) (mvT hZ (hw _ (List.mem_of_getElem? (i := 44) rfl))) (by decide) (backOf (W := 1) (own_rfld1 l Z a0 hw [] b33 b15 b17 o_EMPTY  h33 n0 (Nat.le_trans Z0 Kp.1) Ex_b33 F_name_b33 F_text_b33 F_span_b33 F_spanFirst_b33 g_b33 ) hZ (hw _ (List.mem_of_getElem? (i := 44) rfl)) (hw _ (List.mem_of_getElem? (i := 33) rfl)) (by decide) (by decide)) (g := (mkF m 176 #[iv p1, iv p2, iv p3, iv p4, iv p5, rv b1, rv b8, rv b15, rv b17, iv (0 : Int32), iv (1 : Int32), iv (p3 &&& (2147483647 : Int32)), iv (p4 &&& (2147483647 : Int32)), rv b32, .unset, .unset] [(.int (1 : Int32)), (.ref o_EMPTY), (.ref b17), (.ref b15), (.ref b33), (.ref b33)])) rfl (by rw [hml]; rfl) (Steps.refl _) (a := b33) (argsL := [(.ref b15), (.ref b17), (.ref o_EMPTY), (.int (1 : Int32))]) (rest := [(.ref b33)]) (lenOf own_pd__Ljava_lang_String_Ljava_lang_String_Ljava_util_Optional_Z_V rfl) rfl (by show 2 * 0 + _ ≤ _; exact Nat.le_of_eq rfl) (hb hby at_176) (fun _ _ => ⟨rfl, e34, (by decide : 8 + 0 ≤ _), (by decide : 24 + 0 ≤ _)⟩)
      dsimp only [Pt.U, Pt.locs, Pt.cells, Pt.slots] at X35 l35 y35 z35 st35 hQ35
      subst y35 z35
      replace X35 := X35.mono (Nat.le_of_ble_eq_true rfl : _ ≤ 8) (Nat.le_of_ble_eq_true rfl : _ ≤ 24)
      obtain ⟨rfl, Nq35, K35, -, F_name_b33, F_text_b33, F_span_b33, F_spanFirst_b33⟩ := hQ35
      have N35 : Fr n0 L35 := by rw [l35]; exact Fr.app N34 Nq35
      refine own_go (fun zt zk => st35.trans zk) ?_
      replace O := O.keep K35 (allS g_b33 all0)
      replace Kp := Kp.trans K35 (allS (Or.inr sz_b33) all0)
      replace V_b1 := V_b1.keep K35 (ninS ne_b1_b33 nin0)
      replace Ea_b1 := Ea_b1.keep K35
      replace V_b8 := V_b8.keep K35 (ninS ne_b8_b33 nin0)
      replace Ea_b8 := Ea_b8.keep K35
      replace Ex_b15 := Ex_b15.keep K35
      replace Fc16 := Fc16.keep K35 (ninS ne_b15_b33 nin0)
      replace Fv16 := Fv16.keep K35 (ninS ne_b15_b33 nin0)
      replace Vt16 := Vt16.keep K35 (ninS ne_t16_b33 nin0)
      replace Ex_b17 := Ex_b17.keep K35
      replace Fc18 := Fc18.keep K35 (ninS ne_b17_b33 nin0)
      replace Fv18 := Fv18.keep K35 (ninS ne_b17_b33 nin0)
      replace Vt18 := Vt18.keep K35 (ninS ne_t18_b33 nin0)
      replace Ex_b32 := Ex_b32.keep K35
      replace Fn32 := Fn32.keep K35 (ninS ne_b32_b33 nin0)
      replace Ft32 := Ft32.keep K35 (ninS ne_b32_b33 nin0)
      replace Fs32 := Fs32.keep K35 (ninS ne_b32_b33 nin0)
      replace Fz32 := Fz32.keep K35 (ninS ne_b32_b33 nin0)
      replace Ex_b33 := Ex_b33.keep K35
      show own_Go p e below s _ _ _ (T35.setTop (mkF m 179 #[iv p1, iv p2, iv p3, iv p4, iv p5, rv b1, rv b8, rv b15, rv b17, iv (0 : Int32), iv (1 : Int32), iv (p3 &&& (2147483647 : Int32)), iv (p4 &&& (2147483647 : Int32)), rv b32, .unset, .unset] [(.ref b33)]))
      refine own_go (fun zt zk => (XS.astore X35.here hx rfl (hb hby at_179) rfl rfl (l' := #[iv p1, iv p2, iv p3, iv p4, iv p5, rv b1, rv b8, rv b15, rv b17, iv (0 : Int32), iv (1 : Int32), iv (p3 &&& (2147483647 : Int32)), iv (p4 &&& (2147483647 : Int32)), rv b32, rv b33, .unset]) rfl (XS.aload X35.here hx rfl (hb hby at_181) rfl rfl zk))) ?_
      show own_Go p e below s _ _ _ (T35.setTop (mkF m 183 #[iv p1, iv p2, iv p3, iv p4, iv p5, rv b1, rv b8, rv b15, rv b17, iv (0 : Int32), iv (1 : Int32), iv (p3 &&& (2147483647 : Int32)), iv (p4 &&& (2147483647 : Int32)), rv b32, rv b33, .unset] [(.ref b33)]))
      obtain ⟨cq36, kq36, qa36, qb36, qc36⟩ := isOf hZ rfl Ex_b33
      obtain ⟨_, _, ⟨T36, L36, k36, n36⟩, -, X36, ⟨Lc36, hQ36, l36, y36, z36⟩, st36⟩ := X35.virtualBack hx (y := (⟨"com/example/tranche/tranche/model/Row$Field", "withSpanFirst", "()Lcom/example/tranche/tranche/model/Row$Field;"⟩ : MethodName)) (z := (⟨"com/example/tranche/tranche/model/Row$Field", "withSpanFirst", "()Lcom/example/tranche/tranche/model/Row$Field;"⟩ : MethodName)) hown (mvT hZ (hw _ (List.mem_of_getElem? (i := 66) rfl))) (mvT hZ (hw _ (List.mem_of_getElem? (i := 67) rfl))) (notFace_of_selects (args := #[]) (mvT hZ (hw _ (List.mem_of_getElem? (i := 69) rfl)))) (mvT hZ (hw _ (List.mem_of_getElem? (i := 69) rfl))) (mvT hZ (hw _ (List.mem_of_getElem? (i := 68) rfl))) (by decide) (backOf (W := 0) (own_rwsf l Z a0 hw [] b33 b15 b17 o_EMPTY T35.heap n0 (Nat.le_trans Z0 Kp.1) F_name_b33 F_text_b33 F_span_b33) hZ (hw _ (List.mem_of_getElem? (i := 70) rfl)) (hw _ (List.mem_of_getElem? (i := 33) rfl)) (by decide) (by decide)) qa36 qc36 (g := (mkF m 183 #[iv p1, iv p2, iv p3, iv p4, iv p5, rv b1, rv b8, rv b15, rv b17, iv (0 : Int32), iv (1 : Int32), iv (p3 &&& (2147483647 : Int32)), iv (p4 &&& (2147483647 : Int32)), rv b32, rv b33, .unset] [(.ref b33)])) rfl (by rw [hml]; rfl) (Steps.refl _) (argsL := []) (rest := []) (lenOf own_pd___Lcom_example_tranche_tranche_model_Row_Field_ rfl) rfl (by show 2 * 0 + _ ≤ _; exact Nat.le_of_eq rfl) (hb hby at_183) (fun _ _ => ⟨rfl, rfl, (by decide : 8 + 1 ≤ _), (by decide : 24 + 4 ≤ _)⟩)
      dsimp only [Pt.U, Pt.locs, Pt.cells, Pt.slots] at X36 l36 y36 z36 st36 hQ36
      subst y36 z36
      replace X36 := X36.mono (Nat.le_of_ble_eq_true rfl : _ ≤ 9) (Nat.le_of_ble_eq_true rfl : _ ≤ 28)
      obtain ⟨b36, rfl, Nq36, K36, sb36, Ex_b36, Fn36, Ft36, Fs36, Fz36⟩ := hQ36
      have N36 : Fr n0 L36 := by rw [l36]; exact Fr.app N35 Nq36
      refine own_go (fun zt zk => st36.trans zk) ?_
      replace O := O.keep K36 all0
      replace Kp := Kp.trans K36 all0
      replace V_b1 := V_b1.keep K36 nin0
      replace Ea_b1 := Ea_b1.keep K36
      replace V_b8 := V_b8.keep K36 nin0
      replace Ea_b8 := Ea_b8.keep K36
      replace Ex_b15 := Ex_b15.keep K36
      replace Fc16 := Fc16.keep K36 nin0
      replace Fv16 := Fv16.keep K36 nin0
      replace Vt16 := Vt16.keep K36 nin0
      replace Ex_b17 := Ex_b17.keep K36
      replace Fc18 := Fc18.keep K36 nin0
      replace Fv18 := Fv18.keep K36 nin0
      replace Vt18 := Vt18.keep K36 nin0
      replace Ex_b32 := Ex_b32.keep K36
      replace Fn32 := Fn32.keep K36 nin0
      replace Ft32 := Ft32.keep K36 nin0
      replace Fs32 := Fs32.keep K36 nin0
      replace Fz32 := Fz32.keep K36 nin0
      replace Ex_b33 := Ex_b33.keep K36
      replace F_name_b33 := F_name_b33.keep K36 nin0
      replace F_text_b33 := F_text_b33.keep K36 nin0
      replace F_span_b33 := F_span_b33.keep K36 nin0
      replace F_spanFirst_b33 := F_spanFirst_b33.keep K36 nin0
      show own_Go p e below s _ _ _ (T36.setTop (mkF m 186 #[iv p1, iv p2, iv p3, iv p4, iv p5, rv b1, rv b8, rv b15, rv b17, iv (0 : Int32), iv (1 : Int32), iv (p3 &&& (2147483647 : Int32)), iv (p4 &&& (2147483647 : Int32)), rv b32, rv b33, .unset] [(.ref b36)]))
      refine own_go (fun zt zk => (XS.astore X36.here hx rfl (hb hby at_186) rfl rfl (l' := #[iv p1, iv p2, iv p3, iv p4, iv p5, rv b1, rv b8, rv b15, rv b17, iv (0 : Int32), iv (1 : Int32), iv (p3 &&& (2147483647 : Int32)), iv (p4 &&& (2147483647 : Int32)), rv b32, rv b33, rv b36]) rfl (XS.aload X36.here hx rfl (hb hby at_188) rfl rfl (XS.ifnullNo X36.here hx rfl (hb hby at_190) rfl (XS.aload X36.here hx rfl (hb hby at_193) rfl rfl zk))))) ?_
      show own_Go p e below s _ _ _ (T36.setTop (mkF m 195 #[iv p1, iv p2, iv p3, iv p4, iv p5, rv b1, rv b8, rv b15, rv b17, iv (0 : Int32), iv (1 : Int32), iv (p3 &&& (2147483647 : Int32)), iv (p4 &&& (2147483647 : Int32)), rv b32, rv b33, rv b36] [(.ref b36)]))
      obtain ⟨cq37, kq37, qa37, qb37, qc37⟩ := isOf hZ rfl Ex_b36
      obtain ⟨_, _, ⟨T37, L37, k37, n37⟩, -, X37, ⟨Lc37, hQ37, l37, y37, z37⟩, st37⟩ := X36.virtualBack hx (y := (⟨"com/example/tranche/tranche/model/Row$Field", "name", "()Ljava/lang/String;"⟩ : MethodName)) (z := (⟨"com/example/tranche/tranche/model/Row$Field", "name", "()Ljava/lang/String;"⟩ : MethodName)) hown (mvT hZ (hw _ (List.mem_of_getElem? (i := 71) rfl))) (mvT hZ (hw _ (List.mem_of_getElem? (i := 72) rfl))) (notFace_of_selects (args := #[]) (mvT hZ (hw _ (List.mem_of_getElem? (i := 74) rfl)))) (mvT hZ (hw _ (List.mem_of_getElem? (i := 74) rfl))) (mvT hZ (hw _ (List.mem_of_getElem? (i := 73) rfl))) (by decide) (backOf (W := 0) (own_gname l Z a0 hw [] b36 b15 T36.heap n0 (Nat.le_trans Z0 Kp.1) Fn36) hZ (hw _ (List.mem_of_getElem? (i := 75) rfl)) (hw _ (List.mem_of_getElem? (i := 33) rfl)) (by decide) (by decide)) qa37 qc37 (g := (mkF m 195 #[iv p1, iv p2, iv p3, iv p4, iv p5, rv b1, rv b8, rv b15, rv b17, iv (0 : Int32), iv (1 : Int32), iv (p3 &&& (2147483647 : Int32)), iv (p4 &&& (2147483647 : Int32)), rv b32, rv b33, rv b36] [(.ref b36)])) rfl (by rw [hml]; rfl) (Steps.refl _) (argsL := []) (rest := []) (lenOf own_pd___Ljava_lang_String_ rfl) rfl (by show 2 * 0 + _ ≤ _; exact Nat.le_of_eq rfl) (hb hby at_195) (fun _ _ => ⟨rfl, rfl, (by decide : 9 + 0 ≤ _), (by decide : 28 + 0 ≤ _)⟩)
      dsimp only [Pt.U, Pt.locs, Pt.cells, Pt.slots] at X37 l37 y37 z37 st37 hQ37
      subst y37 z37
      replace X37 := X37.mono (Nat.le_of_ble_eq_true rfl : _ ≤ 9) (Nat.le_of_ble_eq_true rfl : _ ≤ 28)
      obtain ⟨rfl, Nq37, e37⟩ := hQ37
      have N37 : Fr n0 L37 := by rw [l37]; exact Fr.app N36 Nq37
      refine own_go (fun zt zk => st37.trans zk) ?_
      show own_Go p e below s _ _ _ (T37.setTop (mkF m 198 #[iv p1, iv p2, iv p3, iv p4, iv p5, rv b1, rv b8, rv b15, rv b17, iv (0 : Int32), iv (1 : Int32), iv (p3 &&& (2147483647 : Int32)), iv (p4 &&& (2147483647 : Int32)), rv b32, rv b33, rv b36] [(.ref b15)]))
      refine own_go (fun zt zk => (XS.aload X37.here hx rfl (hb hby at_198) rfl rfl zk)) ?_
      show own_Go p e below s _ _ _ (T37.setTop (mkF m 200 #[iv p1, iv p2, iv p3, iv p4, iv p5, rv b1, rv b8, rv b15, rv b17, iv (0 : Int32), iv (1 : Int32), iv (p3 &&& (2147483647 : Int32)), iv (p4 &&& (2147483647 : Int32)), rv b32, rv b33, rv b36] [(.ref b15), (.ref b15)]))
      obtain ⟨cq38, kq38, qa38, qb38, qc38⟩ := isOf hZ e37 Ex_b15
      obtain ⟨_, _, ⟨T38, L38, k38, n38⟩, -, X38, ⟨Lc38, hQ38, l38, y38, z38⟩, st38⟩ := X37.virtualBack hx (y := (⟨"java/lang/String", "equals", "(Ljava/lang/Object;)Z"⟩ : MethodName)) (z := (⟨"java/lang/String", "equals", "(Ljava/lang/Object;)Z"⟩ : MethodName)) hown (mvT hZ (hw _ (List.mem_of_getElem? (i := 76) rfl))) (mvT hZ (hw _ (List.mem_of_getElem? (i := 77) rfl))) (notFace_of_selects (args := #[]) (mvT hZ (hw _ (List.mem_of_getElem? (i := 79) rfl)))) (mvT hZ (hw _ (List.mem_of_getElem? (i := 79) rfl))) (mvT hZ (hw _ (List.mem_of_getElem? (i := 78) rfl))) (by decide) (backOf (W := 0) (own_reqs l Z a0 hw [] b15  T36.heap n0 (Nat.le_trans Z0 Kp.1) ) hZ (hw _ (List.mem_of_getElem? (i := 80) rfl)) (hw _ (List.mem_of_getElem? (i := 3) rfl)) (by decide) (by decide)) qa38 qc38 (g := (mkF m 200 #[iv p1, iv p2, iv p3, iv p4, iv p5, rv b1, rv b8, rv b15, rv b17, iv (0 : Int32), iv (1 : Int32), iv (p3 &&& (2147483647 : Int32)), iv (p4 &&& (2147483647 : Int32)), rv b32, rv b33, rv b36] [(.ref b15), (.ref b15)])) rfl (by rw [hml]; rfl) (Steps.refl _) (argsL := [(.ref b15)]) (rest := []) (lenOf own_pd__Ljava_lang_Object__Z rfl) rfl (by show 2 * 0 + _ ≤ _; exact Nat.le_of_eq rfl) (hb hby at_200) (fun _ _ => ⟨rfl, e37, (by decide : 9 + 0 ≤ _), (by decide : 28 + 0 ≤ _)⟩)
      dsimp only [Pt.U, Pt.locs, Pt.cells, Pt.slots] at X38 l38 y38 z38 st38 hQ38
      subst y38 z38
      replace X38 := X38.mono (Nat.le_of_ble_eq_true rfl : _ ≤ 9) (Nat.le_of_ble_eq_true rfl : _ ≤ 28)
      obtain ⟨rfl, Nq38, e38⟩ := hQ38
      have N38 : Fr n0 L38 := by rw [l38]; exact Fr.app N37 Nq38
      refine own_go (fun zt zk => st38.trans zk) ?_
      show own_Go p e below s _ _ _ (T38.setTop (mkF m 203 #[iv p1, iv p2, iv p3, iv p4, iv p5, rv b1, rv b8, rv b15, rv b17, iv (0 : Int32), iv (1 : Int32), iv (p3 &&& (2147483647 : Int32)), iv (p4 &&& (2147483647 : Int32)), rv b32, rv b33, rv b36] [(.int (1 : Int32))]))
      refine own_go (fun zt zk => (XS.ifNo X38.here hx rfl (hb hby at_203) rfl ((if0 _ _).trans (feq ((by decide) : ¬ ((1 : Int32) = (0 : Int32)))).1) (XS.aload X38.here hx rfl (hb hby at_206) rfl rfl zk))) ?_
      show own_Go p e below s _ _ _ (T38.setTop (mkF m 208 #[iv p1, iv p2, iv p3, iv p4, iv p5, rv b1, rv b8, rv b15, rv b17, iv (0 : Int32), iv (1 : Int32), iv (p3 &&& (2147483647 : Int32)), iv (p4 &&& (2147483647 : Int32)), rv b32, rv b33, rv b36] [(.ref b36)]))
      obtain ⟨cq39, kq39, qa39, qb39, qc39⟩ := isOf hZ e38 Ex_b36
      obtain ⟨_, _, ⟨T39, L39, k39, n39⟩, -, X39, ⟨Lc39, hQ39, l39, y39, z39⟩, st39⟩ := X38.virtualBack hx (y := (⟨"com/example/tranche/tranche/model/Row$Field", "text", "()Ljava/lang/String;"⟩ : MethodName)) (z := (⟨"com/example/tranche/tranche/model/Row$Field", "text", "()Ljava/lang/String;"⟩ : MethodName)) hown (mvT hZ (hw _ (List.mem_of_getElem? (i := 81) rfl))) (mvT hZ (hw _ (List.mem_of_getElem? (i := 82) rfl))) (notFace_of_selects (args := #[]) (mvT hZ (hw _ (List.mem_of_getElem? (i := 84) rfl)))) (mvT hZ (hw _ (List.mem_of_getElem? (i := 84) rfl))) (mvT hZ (hw _ (List.mem_of_getElem? (i := 83) rfl))) (by decide) (backOf (W := 0) (own_gtext l Z a0 hw [] b36 b17 T36.heap n0 (Nat.le_trans Z0 Kp.1) Ft36) hZ (hw _ (List.mem_of_getElem? (i := 85) rfl)) (hw _ (List.mem_of_getElem? (i := 33) rfl)) (by decide) (by decide)) qa39 qc39 (g := (mkF m 208 #[iv p1, iv p2, iv p3, iv p4, iv p5, rv b1, rv b8, rv b15, rv b17, iv (0 : Int32), iv (1 : Int32), iv (p3 &&& (2147483647 : Int32)), iv (p4 &&& (2147483647 : Int32)), rv b32, rv b33, rv b36] [(.ref b36)])) rfl (by rw [hml]; rfl) (Steps.refl _) (argsL := []) (rest := []) (lenOf own_pd___Ljava_lang_String_ rfl) rfl (by show 2 * 0 + _ ≤ _; exact Nat.le_of_eq rfl) (hb hby at_208) (fun _ _ => ⟨rfl, e38, (by decide : 9 + 0 ≤ _), (by decide : 28 + 0 ≤ _)⟩)
      dsimp only [Pt.U, Pt.locs, Pt.cells, Pt.slots] at X39 l39 y39 z39 st39 hQ39
      subst y39 z39
      replace X39 := X39.mono (Nat.le_of_ble_eq_true rfl : _ ≤ 9) (Nat.le_of_ble_eq_true rfl : _ ≤ 28)
      obtain ⟨rfl, Nq39, e39⟩ := hQ39
      have N39 : Fr n0 L39 := by rw [l39]; exact Fr.app N38 Nq39
      refine own_go (fun zt zk => st39.trans zk) ?_
      show own_Go p e below s _ _ _ (T39.setTop (mkF m 211 #[iv p1, iv p2, iv p3, iv p4, iv p5, rv b1, rv b8, rv b15, rv b17, iv (0 : Int32), iv (1 : Int32), iv (p3 &&& (2147483647 : Int32)), iv (p4 &&& (2147483647 : Int32)), rv b32, rv b33, rv b36] [(.ref b17)]))
      refine own_go (fun zt zk => (XS.aload X39.here hx rfl (hb hby at_211) rfl rfl zk)) ?_
      show own_Go p e below s _ _ _ (T39.setTop (mkF m 213 #[iv p1, iv p2, iv p3, iv p4, iv p5, rv b1, rv b8, rv b15, rv b17, iv (0 : Int32), iv (1 : Int32), iv (p3 &&& (2147483647 : Int32)), iv (p4 &&& (2147483647 : Int32)), rv b32, rv b33, rv b36] [(.ref b17), (.ref b17)]))
      obtain ⟨cq40, kq40, qa40, qb40, qc40⟩ := isOf hZ e39 Ex_b17
      obtain ⟨_, _, ⟨T40, L40, k40, n40⟩, -, X40, ⟨Lc40, hQ40, l40, y40, z40⟩, st40⟩ := X39.virtualBack hx (y := (⟨"java/lang/String", "equals", "(Ljava/lang/Object;)Z"⟩ : MethodName)) (z := (⟨"java/lang/String", "equals", "(Ljava/lang/Object;)Z"⟩ : MethodName)) hown (mvT hZ (hw _ (List.mem_of_getElem? (i := 76) rfl))) (mvT hZ (hw _ (List.mem_of_getElem? (i := 77) rfl))) (notFace_of_selects (args := #[]) (mvT hZ (hw _ (List.mem_of_getElem? (i := 79) rfl)))) (mvT hZ (hw _ (List.mem_of_getElem? (i := 79) rfl))) (mvT hZ (hw _ (List.mem_of_getElem? (i := 78) rfl))) (by decide) (backOf (W := 0) (own_reqs l Z a0 hw [] b17  T36.heap n0 (Nat.le_trans Z0 Kp.1) ) hZ (hw _ (List.mem_of_getElem? (i := 80) rfl)) (hw _ (List.mem_of_getElem? (i := 3) rfl)) (by decide) (by decide)) qa40 qc40 (g := (mkF m 213 #[iv p1, iv p2, iv p3, iv p4, iv p5, rv b1, rv b8, rv b15, rv b17, iv (0 : Int32), iv (1 : Int32), iv (p3 &&& (2147483647 : Int32)), iv (p4 &&& (2147483647 : Int32)), rv b32, rv b33, rv b36] [(.ref b17), (.ref b17)])) rfl (by rw [hml]; rfl) (Steps.refl _) (argsL := [(.ref b17)]) (rest := []) (lenOf own_pd__Ljava_lang_Object__Z rfl) rfl (by show 2 * 0 + _ ≤ _; exact Nat.le_of_eq rfl) (hb hby at_213) (fun _ _ => ⟨rfl, e39, (by decide : 9 + 0 ≤ _), (by decide : 28 + 0 ≤ _)⟩)
      dsimp only [Pt.U, Pt.locs, Pt.cells, Pt.slots] at X40 l40 y40 z40 st40 hQ40
      subst y40 z40
      replace X40 := X40.mono (Nat.le_of_ble_eq_true rfl : _ ≤ 9) (Nat.le_of_ble_eq_true rfl : _ ≤ 28)
      obtain ⟨rfl, Nq40, e40⟩ := hQ40
      have N40 : Fr n0 L40 := by rw [l40]; exact Fr.app N39 Nq40
      refine own_go (fun zt zk => st40.trans zk) ?_
      show own_Go p e below s _ _ _ (T40.setTop (mkF m 216 #[iv p1, iv p2, iv p3, iv p4, iv p5, rv b1, rv b8, rv b15, rv b17, iv (0 : Int32), iv (1 : Int32), iv (p3 &&& (2147483647 : Int32)), iv (p4 &&& (2147483647 : Int32)), rv b32, rv b33, rv b36] [(.int (1 : Int32))]))
      refine own_go (fun zt zk => (XS.ifNo X40.here hx rfl (hb hby at_216) rfl ((if0 _ _).trans (feq ((by decide) : ¬ ((1 : Int32) = (0 : Int32)))).1) (XS.aload X40.here hx rfl (hb hby at_219) rfl rfl zk))) ?_
      show own_Go p e below s _ _ _ (T40.setTop (mkF m 221 #[iv p1, iv p2, iv p3, iv p4, iv p5, rv b1, rv b8, rv b15, rv b17, iv (0 : Int32), iv (1 : Int32), iv (p3 &&& (2147483647 : Int32)), iv (p4 &&& (2147483647 : Int32)), rv b32, rv b33, rv b36] [(.ref b36)]))
      obtain ⟨cq41, kq41, qa41, qb41, qc41⟩ := isOf hZ e40 Ex_b36
      obtain ⟨_, _, ⟨T41, L41, k41, n41⟩, -, X41, ⟨Lc41, hQ41, l41, y41, z41⟩, st41⟩ := X40.virtualBack hx (y := (⟨"com/example/tranche/tranche/model/Row$Field", "span", "()Ljava/util/Optional;"⟩ : MethodName)) (z := (⟨"com/example/tranche/tranche/model/Row$Field", "span", "()Ljava/util/Optional;"⟩ : MethodName)) hown (mvT hZ (hw _ (List.mem_of_getElem? (i := 60) rfl))) (mvT hZ (hw _ (List.mem_of_getElem? (i := 61) rfl))) (notFace_of_selects (args := #[]) (mvT hZ (hw _ (List.mem_of_getElem? (i := 63) rfl)))) (mvT hZ (hw _ (List.mem_of_getElem? (i := 63) rfl))) (mvT hZ (hw _ (List.mem_of_getElem? (i := 62) rfl))) (by decide) (backOf (W := 0) (own_gspan l Z a0 hw [] b36 o_EMPTY T36.heap n0 (Nat.le_trans Z0 Kp.1) Fs36) hZ (hw _ (List.mem_of_getElem? (i := 64) rfl)) (hw _ (List.mem_of_getElem? (i := 33) rfl)) (by decide) (by decide)) qa41 qc41 (g := (mkF m 221 #[iv p1, iv p2, iv p3, iv p4, iv p5, rv b1, rv b8, rv b15, rv b17, iv (0 : Int32), iv (1 : Int32), iv (p3 &&& (2147483647 : Int32)), iv (p4 &&& (2147483647 : Int32)), rv b32, rv b33, rv b36] [(.ref b36)])) rfl (by rw [hml]; rfl) (Steps.refl _) (argsL := []) (rest := []) (lenOf own_pd___Ljava_util_Optional_ rfl) rfl (by show 2 * 0 + _ ≤ _; exact Nat.le_of_eq rfl) (hb hby at_221) (fun _ _ => ⟨rfl, e40, (by decide : 9 + 0 ≤ _), (by decide : 28 + 0 ≤ _)⟩)
      dsimp only [Pt.U, Pt.locs, Pt.cells, Pt.slots] at X41 l41 y41 z41 st41 hQ41
      subst y41 z41
      replace X41 := X41.mono (Nat.le_of_ble_eq_true rfl : _ ≤ 9) (Nat.le_of_ble_eq_true rfl : _ ≤ 28)
      obtain ⟨rfl, Nq41, e41⟩ := hQ41
      have N41 : Fr n0 L41 := by rw [l41]; exact Fr.app N40 Nq41
      refine own_go (fun zt zk => st41.trans zk) ?_
      show own_Go p e below s _ _ _ (T41.setTop (mkF m 224 #[iv p1, iv p2, iv p3, iv p4, iv p5, rv b1, rv b8, rv b15, rv b17, iv (0 : Int32), iv (1 : Int32), iv (p3 &&& (2147483647 : Int32)), iv (p4 &&& (2147483647 : Int32)), rv b32, rv b33, rv b36] [(.ref o_EMPTY)]))
      refine own_go (fun zt zk => (XS.aload X41.here hx rfl (hb hby at_224) rfl rfl zk)) ?_
      show own_Go p e below s _ _ _ (T41.setTop (mkF m 226 #[iv p1, iv p2, iv p3, iv p4, iv p5, rv b1, rv b8, rv b15, rv b17, iv (0 : Int32), iv (1 : Int32), iv (p3 &&& (2147483647 : Int32)), iv (p4 &&& (2147483647 : Int32)), rv b32, rv b33, rv b36] [(.ref b32), (.ref o_EMPTY)]))
      obtain ⟨cq42, kq42, qa42, qb42, qc42⟩ := isOf hZ e41 Ex_b32
      obtain ⟨_, _, ⟨T42, L42, k42, n42⟩, -, X42, ⟨Lc42, hQ42, l42, y42, z42⟩, st42⟩ := X41.virtualBack hx (y := (⟨"com/example/tranche/tranche/model/Row$Field", "span", "()Ljava/util/Optional;"⟩ : MethodName)) (z := (⟨"com/example/tranche/tranche/model/Row$Field", "span", "()Ljava/util/Optional;"⟩ : MethodName)) hown (mvT hZ (hw _ (List.mem_of_getElem? (i := 60) rfl))) (mvT hZ (hw _ (List.mem_of_getElem? (i := 61) rfl))) (notFace_of_selects (args := #[]) (mvT hZ (hw _ (List.mem_of_getElem? (i := 63) rfl)))) (mvT hZ (hw _ (List.mem_of_getElem? (i := 63) rfl))) (mvT hZ (hw _ (List.mem_of_getElem? (i := 62) rfl))) (by decide) (backOf (W := 1) (own_gspan l Z a0 hw [] b32 o_EMPTY T36.heap n0 (Nat.le_trans Z0 Kp.1) Fs32) hZ (hw _ (List.mem_of_getElem? (i := 64) rfl)) (hw _ (List.mem_of_getElem? (i := 33) rfl)) (by decide) (by decide)) qa42 qc42 (g := (mkF m 226 #[iv p1, iv p2, iv p3, iv p4, iv p5, rv b1, rv b8, rv b15, rv b17, iv (0 : Int32), iv (1 : Int32), iv (p3 &&& (2147483647 : Int32)), iv (p4 &&& (2147483647 : Int32)), rv b32, rv b33, rv b36] [(.ref b32), (.ref o_EMPTY)])) rfl (by rw [hml]; rfl) (Steps.refl _) (argsL := []) (rest := [(.ref o_EMPTY)]) (lenOf own_pd___Ljava_util_Optional_ rfl) rfl (by show 2 * 0 + _ ≤ _; exact Nat.le_of_eq rfl) (hb hby at_226) (fun _ _ => ⟨rfl, e41, (by decide : 9 + 0 ≤ _), (by decide : 28 + 0 ≤ _)⟩)
      dsimp only [Pt.U, Pt.locs, Pt.cells, Pt.slots] at X42 l42 y42 z42 st42 hQ42
      subst y42 z42
      replace X42 := X42.mono (Nat.le_of_ble_eq_true rfl : _ ≤ 9) (Nat.le_of_ble_eq_true rfl : _ ≤ 28)
      obtain ⟨rfl, Nq42, e42⟩ := hQ42
      have N42 : Fr n0 L42 := by rw [l42]; exact Fr.app N41 Nq42
      refine own_go (fun zt zk => st42.trans zk) ?_
      show own_Go p e below s _ _ _ (T42.setTop (mkF m 229 #[iv p1, iv p2, iv p3, iv p4, iv p5, rv b1, rv b8, rv b15, rv b17, iv (0 : Int32), iv (1 : Int32), iv (p3 &&& (2147483647 : Int32)), iv (p4 &&& (2147483647 : Int32)), rv b32, rv b33, rv b36] [(.ref o_EMPTY), (.ref o_EMPTY)]))
      refine own_go (fun zt zk => Jvm.RoadKit.acmp (g := (mkF m 229 #[iv p1, iv p2, iv p3, iv p4, iv p5, rv b1, rv b8, rv b15, rv b17, iv (0 : Int32), iv (1 : Int32), iv (p3 &&& (2147483647 : Int32)), iv (p4 &&& (2147483647 : Int32)), rv b32, rv b33, rv b36] [(.ref o_EMPTY), (.ref o_EMPTY)])) X42 hx rfl rfl rfl (pc0 := 229) (pc' := 232) (same := true) rfl (hb hby at_229) rfl (decide_eq_true rfl) (by decide) (by decide) zk) ?_
      show own_Go p e below s _ _ _ (T42.setTop (mkF m 232 #[iv p1, iv p2, iv p3, iv p4, iv p5, rv b1, rv b8, rv b15, rv b17, iv (0 : Int32), iv (1 : Int32), iv (p3 &&& (2147483647 : Int32)), iv (p4 &&& (2147483647 : Int32)), rv b32, rv b33, rv b36] []))
      refine own_go (fun zt zk => (XS.aload X42.here hx rfl (hb hby at_232) rfl rfl zk)) ?_
      show own_Go p e below s _ _ _ (T42.setTop (mkF m 234 #[iv p1, iv p2, iv p3, iv p4, iv p5, rv b1, rv b8, rv b15, rv b17, iv (0 : Int32), iv (1 : Int32), iv (p3 &&& (2147483647 : Int32)), iv (p4 &&& (2147483647 : Int32)), rv b32, rv b33, rv b36] [(.ref b36)]))
      obtain ⟨cq43, kq43, qa43, qb43, qc43⟩ := isOf hZ e42 Ex_b36
      obtain ⟨_, _, ⟨T43, L43, k43, n43⟩, -, X43, ⟨Lc43, hQ43, l43, y43, z43⟩, st43⟩ := X42.virtualBack hx (y := (⟨"com/example/tranche/tranche/model/Row$Field", "spanFirst", "()Z"⟩ : MethodName)) (z := (⟨"com/example/tranche/tranche/model/Row$Field", "spanFirst", "()Z"⟩ : MethodName)) hown (mvT hZ (hw _ (List.mem_of_getElem? (i := 86) rfl))) (mvT hZ (hw _ (List.mem_of_getElem? (i := 87) rfl))) (notFace_of_selects (args := #[]) (mvT hZ (hw _ (List.mem_of_getElem? (i := 89) rfl)))) (mvT hZ (hw _ (List.mem_of_getElem? (i := 89) rfl))) (mvT hZ (hw _ (List.mem_of_getElem? (i := 88) rfl))) (by decide) (backOf (W := 0) (own_gsf l Z a0 hw [] b36 (1 : Int32) T36.heap n0 (Nat.le_trans Z0 Kp.1) Fz36 rfl) hZ (hw _ (List.mem_of_getElem? (i := 90) rfl)) (hw _ (List.mem_of_getElem? (i := 33) rfl)) (by decide) (by decide)) qa43 qc43 (g := (mkF m 234 #[iv p1, iv p2, iv p3, iv p4, iv p5, rv b1, rv b8, rv b15, rv b17, iv (0 : Int32), iv (1 : Int32), iv (p3 &&& (2147483647 : Int32)), iv (p4 &&& (2147483647 : Int32)), rv b32, rv b33, rv b36] [(.ref b36)])) rfl (by rw [hml]; rfl) (Steps.refl _) (argsL := []) (rest := []) (lenOf own_pd___Z rfl) rfl (by show 2 * 0 + _ ≤ _; exact Nat.le_of_eq rfl) (hb hby at_234) (fun _ _ => ⟨rfl, e42, (by decide : 9 + 0 ≤ _), (by decide : 28 + 0 ≤ _)⟩)
      dsimp only [Pt.U, Pt.locs, Pt.cells, Pt.slots] at X43 l43 y43 z43 st43 hQ43
      subst y43 z43
      replace X43 := X43.mono (Nat.le_of_ble_eq_true rfl : _ ≤ 9) (Nat.le_of_ble_eq_true rfl : _ ≤ 28)
      obtain ⟨rfl, Nq43, e43⟩ := hQ43
      have N43 : Fr n0 L43 := by rw [l43]; exact Fr.app N42 Nq43
      refine own_go (fun zt zk => st43.trans zk) ?_
      show own_Go p e below s _ _ _ (T43.setTop (mkF m 237 #[iv p1, iv p2, iv p3, iv p4, iv p5, rv b1, rv b8, rv b15, rv b17, iv (0 : Int32), iv (1 : Int32), iv (p3 &&& (2147483647 : Int32)), iv (p4 &&& (2147483647 : Int32)), rv b32, rv b33, rv b36] [(.int (1 : Int32))]))
      refine own_go (fun zt zk => (XS.ifNo X43.here hx rfl (hb hby at_237) rfl ((if0 _ _).trans (feq ((by decide) : ¬ ((1 : Int32) = (0 : Int32)))).1) (XS.aload X43.here hx rfl (hb hby at_240) rfl rfl zk))) ?_
      show own_Go p e below s _ _ _ (T43.setTop (mkF m 242 #[iv p1, iv p2, iv p3, iv p4, iv p5, rv b1, rv b8, rv b15, rv b17, iv (0 : Int32), iv (1 : Int32), iv (p3 &&& (2147483647 : Int32)), iv (p4 &&& (2147483647 : Int32)), rv b32, rv b33, rv b36] [(.ref b33)]))
      obtain ⟨cq44, kq44, qa44, qb44, qc44⟩ := isOf hZ e43 Ex_b33
      obtain ⟨_, _, ⟨T44, L44, k44, n44⟩, -, X44, ⟨Lc44, hQ44, l44, y44, z44⟩, st44⟩ := X43.virtualBack hx (y := (⟨"com/example/tranche/tranche/model/Row$Field", "spanFirst", "()Z"⟩ : MethodName)) (z := (⟨"com/example/tranche/tranche/model/Row$Field", "spanFirst", "()Z"⟩ : MethodName)) hown (mvT hZ (hw _ (List.mem_of_getElem? (i := 86) rfl))) (mvT hZ (hw _ (List.mem_of_getElem? (i := 87) rfl))) (notFace_of_selects (args := #[]) (mvT hZ (hw _ (List.mem_of_getElem? (i := 89) rfl)))) (mvT hZ (hw _ (List.mem_of_getElem? (i := 89) rfl))) (mvT hZ (hw _ (List.mem_of_getElem? (i := 88) rfl))) (by decide) (backOf (W := 0) (own_gsf l Z a0 hw [] b33 (1 : Int32) T36.heap n0 (Nat.le_trans Z0 Kp.1) F_spanFirst_b33 rfl) hZ (hw _ (List.mem_of_getElem? (i := 90) rfl)) (hw _ (List.mem_of_getElem? (i := 33) rfl)) (by decide) (by decide)) qa44 qc44 (g := (mkF m 242 #[iv p1, iv p2, iv p3, iv p4, iv p5, rv b1, rv b8, rv b15, rv b17, iv (0 : Int32), iv (1 : Int32), iv (p3 &&& (2147483647 : Int32)), iv (p4 &&& (2147483647 : Int32)), rv b32, rv b33, rv b36] [(.ref b33)])) rfl (by rw [hml]; rfl) (Steps.refl _) (argsL := []) (rest := []) (lenOf own_pd___Z rfl) rfl (by show 2 * 0 + _ ≤ _; exact Nat.le_of_eq rfl) (hb hby at_242) (fun _ _ => ⟨rfl, e43, (by decide : 9 + 0 ≤ _), (by decide : 28 + 0 ≤ _)⟩)
      dsimp only [Pt.U, Pt.locs, Pt.cells, Pt.slots] at X44 l44 y44 z44 st44 hQ44
      subst y44 z44
      replace X44 := X44.mono (Nat.le_of_ble_eq_true rfl : _ ≤ 9) (Nat.le_of_ble_eq_true rfl : _ ≤ 28)
      obtain ⟨rfl, Nq44, e44⟩ := hQ44
      have N44 : Fr n0 L44 := by rw [l44]; exact Fr.app N43 Nq44
      refine own_go (fun zt zk => st44.trans zk) ?_
      show own_Go p e below s _ _ _ (T44.setTop (mkF m 245 #[iv p1, iv p2, iv p3, iv p4, iv p5, rv b1, rv b8, rv b15, rv b17, iv (0 : Int32), iv (1 : Int32), iv (p3 &&& (2147483647 : Int32)), iv (p4 &&& (2147483647 : Int32)), rv b32, rv b33, rv b36] [(.int (1 : Int32))]))
      refine own_go (fun zt zk => (XS.iload X44.here hx rfl (hb hby at_245) rfl (XS.icmpNo X44.here hx rfl (hb hby at_247) rfl (teq (rfl : (1 : Int32) = (1 : Int32))).2 (XS.iconst X44.here hx rfl (hb hby at_250) (XS.goto X44.here hx rfl (pc0 := 251) (pc' := 255) rfl (hb hby at_251) (by decide) (by decide) zk))))) ?_
      show own_Go p e below s _ _ _ (T44.setTop (mkF m 255 #[iv p1, iv p2, iv p3, iv p4, iv p5, rv b1, rv b8, rv b15, rv b17, iv (0 : Int32), iv (1 : Int32), iv (p3 &&& (2147483647 : Int32)), iv (p4 &&& (2147483647 : Int32)), rv b32, rv b33, rv b36] [(.int (1 : Int32))]))
      exact own_fin X44 Bd.notSynchronized (fun h => by rw [Bd.returns] at h; cases h) (fun fs hr => retN X44 hx (t := .boolean) Bd.returns (by simp) (hb hby at_255) hr) (by rw [e44]; exact ⟨rfl, N44⟩) (by decide) (by decide)
  · refine own_go (fun zt zk => (XS.ifNo X18.here hx rfl (hb hby at_78) rfl ((if0 _ _).trans (feq (hh1 : ¬ ((p5 &&& (1 : Int32)) = (0 : Int32)))).1) (XS.iconst X18.here hx rfl (hb hby at_81) (XS.goto X18.here hx rfl (pc0 := 82) (pc' := 86) rfl (hb hby at_82) (by decide) (by decide) (XS.istore X18.here hx rfl (hb hby at_86) rfl (l' := #[iv p1, iv p2, iv p3, iv p4, iv p5, rv b1, rv b8, rv b15, rv b17, iv (1 : Int32), .unset, .unset, .unset, .unset, .unset, .unset]) rfl (XS.iload X18.here hx rfl (hb hby at_88) rfl (XS.iconst X18.here hx rfl (hb hby at_90) (XS.iand X18.here hx rfl (hb hby at_91) rfl zk)))))))) ?_
    show own_Go p e below s _ _ _ (T18.setTop (mkF m 92 #[iv p1, iv p2, iv p3, iv p4, iv p5, rv b1, rv b8, rv b15, rv b17, iv (1 : Int32), .unset, .unset, .unset, .unset, .unset, .unset] [(.int (p5 &&& (2 : Int32)))]))
    by_cases hf : (p5 &&& (2 : Int32)) = (0 : Int32)
    · refine own_go (fun zt zk => (XS.ifYes X18.here hx rfl (pc0 := 92) (pc' := 99) rfl (hb hby at_92) rfl ((if0 _ _).trans (teq (hf : (p5 &&& (2 : Int32)) = (0 : Int32))).1) (by decide) (by decide) (XS.iconst X18.here hx rfl (hb hby at_99) (XS.istore X18.here hx rfl (hb hby at_100) rfl (l' := #[iv p1, iv p2, iv p3, iv p4, iv p5, rv b1, rv b8, rv b15, rv b17, iv (1 : Int32), iv (0 : Int32), .unset, .unset, .unset, .unset, .unset]) rfl (XS.iloadN X18.here hx rfl (hb hby at_102) rfl (X18.ldcI hx hown (mvT hZ (hw _ (List.mem_of_getElem? (i := 30) rfl))) (g := (mkF m 103 #[iv p1, iv p2, iv p3, iv p4, iv p5, rv b1, rv b8, rv b15, rv b17, iv (1 : Int32), iv (0 : Int32), .unset, .unset, .unset, .unset, .unset] [(.int p3)])) rfl (hb hby at_103) (XS.iand X18.here hx rfl (hb hby at_105) rfl (XS.istore X18.here hx rfl (hb hby at_106) rfl (l' := #[iv p1, iv p2, iv p3, iv p4, iv p5, rv b1, rv b8, rv b15, rv b17, iv (1 : Int32), iv (0 : Int32), iv (p3 &&& (2147483647 : Int32)), .unset, .unset, .unset, .unset]) rfl (XS.iloadN X18.here hx rfl (hb hby at_108) rfl (X18.ldcI hx hown (mvT hZ (hw _ (List.mem_of_getElem? (i := 30) rfl))) (g := (mkF m 109 #[iv p1, iv p2, iv p3, iv p4, iv p5, rv b1, rv b8, rv b15, rv b17, iv (1 : Int32), iv (0 : Int32), iv (p3 &&& (2147483647 : Int32)), .unset, .unset, .unset, .unset] [(.int p4)])) rfl (hb hby at_109) (XS.iand X18.here hx rfl (hb hby at_111) rfl (XS.istore X18.here hx rfl (hb hby at_112) rfl (l' := #[iv p1, iv p2, iv p3, iv p4, iv p5, rv b1, rv b8, rv b15, rv b17, iv (1 : Int32), iv (0 : Int32), iv (p3 &&& (2147483647 : Int32)), iv (p4 &&& (2147483647 : Int32)), .unset, .unset, .unset]) rfl (XS.iload X18.here hx rfl (hb hby at_114) rfl zk))))))))))))) ?_
      show own_Go p e below s _ _ _ (T18.setTop (mkF m 116 #[iv p1, iv p2, iv p3, iv p4, iv p5, rv b1, rv b8, rv b15, rv b17, iv (1 : Int32), iv (0 : Int32), iv (p3 &&& (2147483647 : Int32)), iv (p4 &&& (2147483647 : Int32)), .unset, .unset, .unset] [(.int (1 : Int32))]))
      refine own_go (fun zt zk => (XS.ifNo X18.here hx rfl (hb hby at_116) rfl ((if0 _ _).trans (feq ((by decide) : ¬ ((1 : Int32) = (0 : Int32)))).1) (XS.aload X18.here hx rfl (hb hby at_119) rfl rfl (XS.aload X18.here hx rfl (hb hby at_121) rfl rfl zk)))) ?_
      show own_Go p e below s _ _ _ (T18.setTop (mkF m 123 #[iv p1, iv p2, iv p3, iv p4, iv p5, rv b1, rv b8, rv b15, rv b17, iv (1 : Int32), iv (0 : Int32), iv (p3 &&& (2147483647 : Int32)), iv (p4 &&& (2147483647 : Int32)), .unset, .unset, .unset] [(.ref b17), (.ref b15)]))
      obtain ⟨T45, h45, X45, e45, E45, A45, D45, -, st45⟩ := newO X18 hx hZ hown (hw _ (List.mem_of_getElem? (i := 91) rfl)) (hw _ (List.mem_of_getElem? (i := 92) rfl)) (hw _ (List.mem_of_getElem? (i := 93) rfl)) rfl (g := (mkF m 123 #[iv p1, iv p2, iv p3, iv p4, iv p5, rv b1, rv b8, rv b15, rv b17, iv (1 : Int32), iv (0 : Int32), iv (p3 &&& (2147483647 : Int32)), iv (p4 &&& (2147483647 : Int32)), .unset, .unset, .unset] [(.ref b17), (.ref b15)])) rfl (hb hby at_123) (by decide) (by decide)
      obtain ⟨b45, g45⟩ : ∃ z, z = T18.heap.size := ⟨_, rfl⟩
      rw [← g45] at A45 D45 st45
      refine own_go st45 ?_
      have ne_o_EMPTY_b45 : o_EMPTY ≠ b45 := Nat.ne_of_lt (Nat.lt_of_lt_of_le (Ex_o_EMPTY.ext O.2).lt (Nat.le_of_eq g45.symm))
      have ne_b1_b45 : b1 ≠ b45 := Nat.ne_of_lt (Nat.lt_of_lt_of_le V_b1.lt (Nat.le_of_eq g45.symm))
      have ne_b8_b45 : b8 ≠ b45 := Nat.ne_of_lt (Nat.lt_of_lt_of_le V_b8.lt (Nat.le_of_eq g45.symm))
      have ne_b15_b45 : b15 ≠ b45 := Nat.ne_of_lt (Nat.lt_of_lt_of_le Ex_b15.lt (Nat.le_of_eq g45.symm))
      have ne_t16_b45 : t16 ≠ b45 := Nat.ne_of_lt (Nat.lt_of_lt_of_le Vt16.lt (Nat.le_of_eq g45.symm))
      have ne_b17_b45 : b17 ≠ b45 := Nat.ne_of_lt (Nat.lt_of_lt_of_le Ex_b17.lt (Nat.le_of_eq g45.symm))
      have ne_t18_b45 : t18 ≠ b45 := Nat.ne_of_lt (Nat.lt_of_lt_of_le Vt18.lt (Nat.le_of_eq g45.symm))
      have sz_b45 : h0.size ≤ b45 := Nat.le_trans Kp.1 (Nat.le_of_eq g45.symm)
      have g_b45 : n0 ≤ b45 := Nat.le_trans Z0 sz_b45
      replace O := O.ext E45
      replace Kp := Kp.ext E45
      replace V_b1 := V_b1.ext E45
      replace Ea_b1 := Ea_b1.ext E45
      replace V_b8 := V_b8.ext E45
      replace Ea_b8 := Ea_b8.ext E45
      replace Ex_b15 := Ex_b15.ext E45
      replace Fc16 := Fc16.ext E45
      replace Fv16 := Fv16.ext E45
      replace Vt16 := Vt16.ext E45
      replace Ex_b17 := Ex_b17.ext E45
      replace Fc18 := Fc18.ext E45
      replace Fv18 := Fv18.ext E45
      replace Vt18 := Vt18.ext E45
      have Ex_b45 := A45
      have F_start_b45 : Fld Z h45 b45 "com/example/tranche/tranche/model/Span" "start" "I" (.int (0 : Int32)) := D45 (Or.inr (hw _ (List.mem_of_getElem? (i := 106) rfl))) (ty := .int) (by decide)
      have F_end_b45 : Fld Z h45 b45 "com/example/tranche/tranche/model/Span" "end" "I" (.int (0 : Int32)) := D45 (Or.inr (hw _ (List.mem_of_getElem? (i := 108) rfl))) (ty := .int) (by decide)
      show own_Go p e below s _ _ _ (T45.setTop (mkF m 126 #[iv p1, iv p2, iv p3, iv p4, iv p5, rv b1, rv b8, rv b15, rv b17, iv (1 : Int32), iv (0 : Int32), iv (p3 &&& (2147483647 : Int32)), iv (p4 &&& (2147483647 : Int32)), .unset, .unset, .unset] [(.ref b45), (.ref b17), (.ref b15)]))
      refine own_go (fun zt zk => (XS.dup X45.here hx rfl (hb hby at_126) rfl rfl (XS.iload X45.here hx rfl (hb hby at_127) rfl (XS.iload X45.here hx rfl (hb hby at_129) rfl zk)))) ?_
      show own_Go p e below s _ _ _ (T45.setTop (mkF m 131 #[iv p1, iv p2, iv p3, iv p4, iv p5, rv b1, rv b8, rv b15, rv b17, iv (1 : Int32), iv (0 : Int32), iv (p3 &&& (2147483647 : Int32)), iv (p4 &&& (2147483647 : Int32)), .unset, .unset, .unset] [(.int (p4 &&& (2147483647 : Int32))), (.int (p3 &&& (2147483647 : Int32))), (.ref b45), (.ref b45), (.ref b17), (.ref b15)]))
      obtain ⟨_, _, ⟨T46, L46, k46, n46⟩, -, X46, ⟨Lc46, hQ46, l46, y46, z46⟩, st46⟩ := Jvm.LawKit.callS X45 hx (y := (⟨"java/lang/Math", "min", "(II)I"⟩ : MethodName)) hown (mvT hZ (hw _ (List.mem_of_getElem? (i := 94) rfl))) (mvT hZ (hw _ (List.mem_of_getElem? (i := 95) rfl))) (mvT hZ (hw _ (List.mem_of_getElem? (i := 96) rfl))) (mvT hZ (hw _ (List.mem_of_getElem? (i := 97) rfl))) (by decide) (backOf (W := 4) (own_rmin l Z a0 hw [] (p3 &&& (2147483647 : Int32)) (p4 &&& (2147483647 : Int32))  h45 n0 (Nat.le_trans Z0 Kp.1) ) hZ (hw _ (List.mem_of_getElem? (i := 97) rfl)) (hw _ (List.mem_of_getElem? (i := 96) rfl)) (by decide) (by decide)) (g := (mkF m 131 #[iv p1, iv p2, iv p3, iv p4, iv p5, rv b1, rv b8, rv b15, rv b17, iv (1 : Int32), iv (0 : Int32), iv (p3 &&& (2147483647 : Int32)), iv (p4 &&& (2147483647 : Int32)), .unset, .unset, .unset] [(.int (p4 &&& (2147483647 : Int32))), (.int (p3 &&& (2147483647 : Int32))), (.ref b45), (.ref b45), (.ref b17), (.ref b15)])) rfl (by rw [hml]; rfl) (argsL := [(.int (p3 &&& (2147483647 : Int32))), (.int (p4 &&& (2147483647 : Int32)))]) (rest := [(.ref b45), (.ref b45), (.ref b17), (.ref b15)]) (lenOf own_pd__II_I rfl) rfl (by show 2 * 0 + _ ≤ _; exact Nat.le_of_eq rfl) (hb hby at_131) (fun _ _ => ⟨rfl, e45, (by decide : 7 + 0 ≤ _), (by decide : 18 + 0 ≤ _)⟩)
      dsimp only [Pt.U, Pt.locs, Pt.cells, Pt.slots] at X46 l46 y46 z46 st46 hQ46
      subst y46 z46
      replace X46 := X46.mono (Nat.le_of_ble_eq_true rfl : _ ≤ 7) (Nat.le_of_ble_eq_true rfl : _ ≤ 18)
      obtain ⟨rfl, Nq46, e46⟩ := hQ46
      have N46 : Fr n0 L46 := by rw [l46]; exact Fr.app N18 Nq46
      refine own_go st46 ?_
      show own_Go p e below s _ _ _ (T46.setTop (mkF m 134 #[iv p1, iv p2, iv p3, iv p4, iv p5, rv b1, rv b8, rv b15, rv b17, iv (1 : Int32), iv (0 : Int32), iv (p3 &&& (2147483647 : Int32)), iv (p4 &&& (2147483647 : Int32)), .unset, .unset, .unset] [(.int (own_min (p3 &&& (2147483647 : Int32)) (p4 &&& (2147483647 : Int32)))), (.ref b45), (.ref b45), (.ref b17), (.ref b15)]))
      refine own_go (fun zt zk => (XS.iload X46.here hx rfl (hb hby at_134) rfl (XS.iload X46.here hx rfl (hb hby at_136) rfl zk))) ?_
      show own_Go p e below s _ _ _ (T46.setTop (mkF m 138 #[iv p1, iv p2, iv p3, iv p4, iv p5, rv b1, rv b8, rv b15, rv b17, iv (1 : Int32), iv (0 : Int32), iv (p3 &&& (2147483647 : Int32)), iv (p4 &&& (2147483647 : Int32)), .unset, .unset, .unset] [(.int (p4 &&& (2147483647 : Int32))), (.int (p3 &&& (2147483647 : Int32))), (.int (own_min (p3 &&& (2147483647 : Int32)) (p4 &&& (2147483647 : Int32)))), (.ref b45), (.ref b45), (.ref b17), (.ref b15)]))
      obtain ⟨_, _, ⟨T47, L47, k47, n47⟩, -, X47, ⟨Lc47, hQ47, l47, y47, z47⟩, st47⟩ := Jvm.LawKit.callS X46 hx (y := (⟨"java/lang/Math", "max", "(II)I"⟩ : MethodName)) hown (mvT hZ (hw _ (List.mem_of_getElem? (i := 98) rfl))) (mvT hZ (hw _ (List.mem_of_getElem? (i := 99) rfl))) (mvT hZ (hw _ (List.mem_of_getElem? (i := 96) rfl))) (mvT hZ (hw _ (List.mem_of_getElem? (i := 100) rfl))) (by decide) (backOf (W := 5) (own_rmax l Z a0 hw [] (p3 &&& (2147483647 : Int32)) (p4 &&& (2147483647 : Int32))  h45 n0 (Nat.le_trans Z0 Kp.1) ) hZ (hw _ (List.mem_of_getElem? (i := 100) rfl)) (hw _ (List.mem_of_getElem? (i := 96) rfl)) (by decide) (by decide)) (g := (mkF m 138 #[iv p1, iv p2, iv p3, iv p4, iv p5, rv b1, rv b8, rv b15, rv b17, iv (1 : Int32), iv (0 : Int32), iv (p3 &&& (2147483647 : Int32)), iv (p4 &&& (2147483647 : Int32)), .unset, .unset, .unset] [(.int (p4 &&& (2147483647 : Int32))), (.int (p3 &&& (2147483647 : Int32))), (.int (own_min (p3 &&& (2147483647 : Int32)) (p4 &&& (2147483647 : Int32)))), (.ref b45), (.ref b45), (.ref b17), (.ref b15)])) rfl (by rw [hml]; rfl) (argsL := [(.int (p3 &&& (2147483647 : Int32))), (.int (p4 &&& (2147483647 : Int32)))]) (rest := [(.int (own_min (p3 &&& (2147483647 : Int32)) (p4 &&& (2147483647 : Int32)))), (.ref b45), (.ref b45), (.ref b17), (.ref b15)]) (lenOf own_pd__II_I rfl) rfl (by show 2 * 0 + _ ≤ _; exact Nat.le_of_eq rfl) (hb hby at_138) (fun _ _ => ⟨rfl, e46, (by decide : 7 + 0 ≤ _), (by decide : 18 + 0 ≤ _)⟩)
      dsimp only [Pt.U, Pt.locs, Pt.cells, Pt.slots] at X47 l47 y47 z47 st47 hQ47
      subst y47 z47
      replace X47 := X47.mono (Nat.le_of_ble_eq_true rfl : _ ≤ 7) (Nat.le_of_ble_eq_true rfl : _ ≤ 18)
      obtain ⟨rfl, Nq47, e47⟩ := hQ47
      have N47 : Fr n0 L47 := by rw [l47]; exact Fr.app N46 Nq47
      refine own_go st47 ?_
      show own_Go p e below s _ _ _ (T47.setTop (mkF m 141 #[iv p1, iv p2, iv p3, iv p4, iv p5, rv b1, rv b8, rv b15, rv b17, iv (1 : Int32), iv (0 : Int32), iv (p3 &&& (2147483647 : Int32)), iv (p4 &&& (2147483647 : Int32)), .unset, .unset, .unset] [(.int (own_max (p3 &&& (2147483647 : Int32)) (p4 &&& (2147483647 : Int32)))), (.int (own_min (p3 &&& (2147483647 : Int32)) (p4 &&& (2147483647 : Int32)))), (.ref b45), (.ref b45), (.ref b17), (.ref b15)]))
      obtain ⟨_, _, ⟨T48, L48, k48, n48⟩, -, X48, ⟨Lc48, hQ48, l48, y48, z48⟩, st48⟩ := X47.specialBack hx (y := (⟨"com/example/tranche/tranche/model/Span", "<init>", "(II)V"⟩ : MethodName)) rfl hown (mvT hZ (hw _ (List.mem_of_getElem? (i := 101) rfl))) (mvT hZ (hw _ (List.mem_of_getElem? (i := 102) rfl))) (mvT hZ (hw _ (List.mem_of_getElem? (i := 103) rfl))) (by decide) (backOf (W := 3) (own_rspan l Z a0 hw [] b45 (own_min (p3 &&& (2147483647 : Int32)) (p4 &&& (2147483647 : Int32))) (own_max (p3 &&& (2147483647 : Int32)) (p4 &&& (2147483647 : Int32)))  h45 n0 (Nat.le_trans Z0 Kp.1) Ex_b45 F_start_b45 F_end_b45 g_b45 (own_min_nn (own_nn _) (own_nn _)) (own_mm _ _)) hZ (hw _ (List.mem_of_getElem? (i := 103) rfl)) (hw _ (List.mem_of_getElem? (i := 93) rfl)) (by decide) (by decide)) (g := (mkF m 141 #[iv p1, iv p2, iv p3, iv p4, iv p5, rv b1, rv b8, rv b15, rv b17, iv (1 : Int32), iv (0 : Int32), iv (p3 &&& (2147483647 : Int32)), iv (p4 &&& (2147483647 : Int32)), .unset, .unset, .unset] [(.int (own_max (p3 &&& (2147483647 : Int32)) (p4 &&& (2147483647 : Int32)))), (.int (own_min (p3 &&& (2147483647 : Int32)) (p4 &&& (2147483647 : Int32)))), (.ref b45), (.ref b45), (.ref b17), (.ref b15)])) rfl (by rw [hml]; rfl) (Steps.refl _) (a := b45) (argsL := [(.int (own_min (p3 &&& (2147483647 : Int32)) (p4 &&& (2147483647 : Int32)))), (.int (own_max (p3 &&& (2147483647 : Int32)) (p4 &&& (2147483647 : Int32))))]) (rest := [(.ref b45), (.ref b17), (.ref b15)]) (lenOf own_pd__II_V rfl) rfl (by show 2 * 0 + _ ≤ _; exact Nat.le_of_eq rfl) (hb hby at_141) (fun _ _ => ⟨rfl, e47, (by decide : 7 + 0 ≤ _), (by decide : 18 + 0 ≤ _)⟩)
      dsimp only [Pt.U, Pt.locs, Pt.cells, Pt.slots] at X48 l48 y48 z48 st48 hQ48
      subst y48 z48
      replace X48 := X48.mono (Nat.le_of_ble_eq_true rfl : _ ≤ 7) (Nat.le_of_ble_eq_true rfl : _ ≤ 18)
      obtain ⟨rfl, Nq48, K48, -, F_start_b45, F_end_b45⟩ := hQ48
      have N48 : Fr n0 L48 := by rw [l48]; exact Fr.app N47 Nq48
      refine own_go (fun zt zk => st48.trans zk) ?_
      replace O := O.keep K48 (allS g_b45 all0)
      replace Kp := Kp.trans K48 (allS (Or.inr sz_b45) all0)
      replace V_b1 := V_b1.keep K48 (ninS ne_b1_b45 nin0)
      replace Ea_b1 := Ea_b1.keep K48
      replace V_b8 := V_b8.keep K48 (ninS ne_b8_b45 nin0)
      replace Ea_b8 := Ea_b8.keep K48
      replace Ex_b15 := Ex_b15.keep K48
      replace Fc16 := Fc16.keep K48 (ninS ne_b15_b45 nin0)
      replace Fv16 := Fv16.keep K48 (ninS ne_b15_b45 nin0)
      replace Vt16 := Vt16.keep K48 (ninS ne_t16_b45 nin0)
      replace Ex_b17 := Ex_b17.keep K48
      replace Fc18 := Fc18.keep K48 (ninS ne_b17_b45 nin0)
      replace Fv18 := Fv18.keep K48 (ninS ne_b17_b45 nin0)
      replace Vt18 := Vt18.keep K48 (ninS ne_t18_b45 nin0)
      replace Ex_b45 := Ex_b45.keep K48
      show own_Go p e below s _ _ _ (T48.setTop (mkF m 144 #[iv p1, iv p2, iv p3, iv p4, iv p5, rv b1, rv b8, rv b15, rv b17, iv (1 : Int32), iv (0 : Int32), iv (p3 &&& (2147483647 : Int32)), iv (p4 &&& (2147483647 : Int32)), .unset, .unset, .unset] [(.ref b45), (.ref b17), (.ref b15)]))
      obtain ⟨_, _, ⟨T49, L49, k49, n49⟩, -, X49, ⟨Lc49, hQ49, l49, y49, z49⟩, st49⟩ := Jvm.LawKit.callS X48 hx (y := (⟨"com/example/tranche/tranche/model/Row$Field", "stated", "(Ljava/lang/String;Ljava/lang/String;Lcom/example/tranche/tranche/model/Span;)Lcom/example/tranche/tranche/model/Row$Field;"⟩ : MethodName)) hown (mvT hZ (hw _ (List.mem_of_getElem? (i := 109) rfl))) (mvT hZ (hw _ (List.mem_of_getElem? (i := 110) rfl))) (mvT hZ (hw _ (List.mem_of_getElem? (i := 33) rfl))) (mvT hZ (hw _ (List.mem_of_getElem? (i := 111) rfl))) (by decide) (backOf (W := 0) (own_rstated l Z a0 hw [] b15 b17 b45  T48.heap n0 (Nat.le_trans Z0 Kp.1) ) hZ (hw _ (List.mem_of_getElem? (i := 111) rfl)) (hw _ (List.mem_of_getElem? (i := 33) rfl)) (by decide) (by decide)) (g := (mkF m 144 #[iv p1, iv p2, iv p3, iv p4, iv p5, rv b1, rv b8, rv b15, rv b17, iv (1 : Int32), iv (0 : Int32), iv (p3 &&& (2147483647 : Int32)), iv (p4 &&& (2147483647 : Int32)), .unset, .unset, .unset] [(.ref b45), (.ref b17), (.ref b15)])) rfl (by rw [hml]; rfl) (argsL := [(.ref b15), (.ref b17), (.ref b45)]) (rest := []) (lenOf own_pd__Ljava_lang_String_Ljava_lang_String_Lcom_example_tranche_tranche_model_Span__Lcom_example_tranche_tranche_model_Row_Field_ rfl) rfl (by show 2 * 0 + _ ≤ _; exact Nat.le_of_eq rfl) (hb hby at_144) (fun _ _ => ⟨rfl, rfl, (by decide : 7 + 2 ≤ _), (by decide : 18 + 5 ≤ _)⟩)
      dsimp only [Pt.U, Pt.locs, Pt.cells, Pt.slots] at X49 l49 y49 z49 st49 hQ49
      subst y49 z49
      replace X49 := X49.mono (Nat.le_of_ble_eq_true rfl : _ ≤ 9) (Nat.le_of_ble_eq_true rfl : _ ≤ 23)
      obtain ⟨b49, op49, rfl, Nq49, K49, sb49, Ex_b49, Fn49, Ft49, Fs49, Fz49⟩ := hQ49
      have N49 : Fr n0 L49 := by rw [l49]; exact Fr.app N48 Nq49
      refine own_go st49 ?_
      replace O := O.keep K49 all0
      replace Kp := Kp.trans K49 all0
      replace V_b1 := V_b1.keep K49 nin0
      replace Ea_b1 := Ea_b1.keep K49
      replace V_b8 := V_b8.keep K49 nin0
      replace Ea_b8 := Ea_b8.keep K49
      replace Ex_b15 := Ex_b15.keep K49
      replace Fc16 := Fc16.keep K49 nin0
      replace Fv16 := Fv16.keep K49 nin0
      replace Vt16 := Vt16.keep K49 nin0
      replace Ex_b17 := Ex_b17.keep K49
      replace Fc18 := Fc18.keep K49 nin0
      replace Fv18 := Fv18.keep K49 nin0
      replace Vt18 := Vt18.keep K49 nin0
      replace Ex_b45 := Ex_b45.keep K49
      replace F_start_b45 := F_start_b45.keep K49 nin0
      replace F_end_b45 := F_end_b45.keep K49 nin0
      show own_Go p e below s _ _ _ (T49.setTop (mkF m 147 #[iv p1, iv p2, iv p3, iv p4, iv p5, rv b1, rv b8, rv b15, rv b17, iv (1 : Int32), iv (0 : Int32), iv (p3 &&& (2147483647 : Int32)), iv (p4 &&& (2147483647 : Int32)), .unset, .unset, .unset] [(.ref b49)]))
      refine own_go (fun zt zk => (XS.astore X49.here hx rfl (hb hby at_147) rfl rfl (l' := #[iv p1, iv p2, iv p3, iv p4, iv p5, rv b1, rv b8, rv b15, rv b17, iv (1 : Int32), iv (0 : Int32), iv (p3 &&& (2147483647 : Int32)), iv (p4 &&& (2147483647 : Int32)), rv b49, .unset, .unset]) rfl (XS.goto X49.here hx rfl (pc0 := 149) (pc' := 161) rfl (hb hby at_149) (by decide) (by decide) zk))) ?_
      show own_Go p e below s _ _ _ (T49.setTop (mkF m 161 #[iv p1, iv p2, iv p3, iv p4, iv p5, rv b1, rv b8, rv b15, rv b17, iv (1 : Int32), iv (0 : Int32), iv (p3 &&& (2147483647 : Int32)), iv (p4 &&& (2147483647 : Int32)), rv b49, .unset, .unset] []))
      obtain ⟨T50, h50, X50, e50, E50, A50, D50, -, st50⟩ := newO X49 hx hZ hown (hw _ (List.mem_of_getElem? (i := 59) rfl)) (hw _ (List.mem_of_getElem? (i := 36) rfl)) (hw _ (List.mem_of_getElem? (i := 33) rfl)) rfl (g := (mkF m 161 #[iv p1, iv p2, iv p3, iv p4, iv p5, rv b1, rv b8, rv b15, rv b17, iv (1 : Int32), iv (0 : Int32), iv (p3 &&& (2147483647 : Int32)), iv (p4 &&& (2147483647 : Int32)), rv b49, .unset, .unset] [])) rfl (hb hby at_161) (by decide) (by decide)
      obtain ⟨b50, g50⟩ : ∃ z, z = T49.heap.size := ⟨_, rfl⟩
      rw [← g50] at A50 D50 st50
      refine own_go st50 ?_
      have ne_o_EMPTY_b50 : o_EMPTY ≠ b50 := Nat.ne_of_lt (Nat.lt_of_lt_of_le (Ex_o_EMPTY.ext O.2).lt (Nat.le_of_eq g50.symm))
      have ne_b1_b50 : b1 ≠ b50 := Nat.ne_of_lt (Nat.lt_of_lt_of_le V_b1.lt (Nat.le_of_eq g50.symm))
      have ne_b8_b50 : b8 ≠ b50 := Nat.ne_of_lt (Nat.lt_of_lt_of_le V_b8.lt (Nat.le_of_eq g50.symm))
      have ne_b15_b50 : b15 ≠ b50 := Nat.ne_of_lt (Nat.lt_of_lt_of_le Ex_b15.lt (Nat.le_of_eq g50.symm))
      have ne_t16_b50 : t16 ≠ b50 := Nat.ne_of_lt (Nat.lt_of_lt_of_le Vt16.lt (Nat.le_of_eq g50.symm))
      have ne_b17_b50 : b17 ≠ b50 := Nat.ne_of_lt (Nat.lt_of_lt_of_le Ex_b17.lt (Nat.le_of_eq g50.symm))
      have ne_t18_b50 : t18 ≠ b50 := Nat.ne_of_lt (Nat.lt_of_lt_of_le Vt18.lt (Nat.le_of_eq g50.symm))
      have ne_b45_b50 : b45 ≠ b50 := Nat.ne_of_lt (Nat.lt_of_lt_of_le Ex_b45.lt (Nat.le_of_eq g50.symm))
      have ne_b49_b50 : b49 ≠ b50 := Nat.ne_of_lt (Nat.lt_of_lt_of_le Ex_b49.lt (Nat.le_of_eq g50.symm))
      have sz_b50 : h0.size ≤ b50 := Nat.le_trans Kp.1 (Nat.le_of_eq g50.symm)
      have g_b50 : n0 ≤ b50 := Nat.le_trans Z0 sz_b50
      replace O := O.ext E50
      replace Kp := Kp.ext E50
      replace V_b1 := V_b1.ext E50
      replace Ea_b1 := Ea_b1.ext E50
      replace V_b8 := V_b8.ext E50
      replace Ea_b8 := Ea_b8.ext E50
      replace Ex_b15 := Ex_b15.ext E50
      replace Fc16 := Fc16.ext E50
      replace Fv16 := Fv16.ext E50
      replace Vt16 := Vt16.ext E50
      replace Ex_b17 := Ex_b17.ext E50
      replace Fc18 := Fc18.ext E50
      replace Fv18 := Fv18.ext E50
      replace Vt18 := Vt18.ext E50
      replace Ex_b45 := Ex_b45.ext E50
      replace F_start_b45 := F_start_b45.ext E50
      replace F_end_b45 := F_end_b45.ext E50
      replace Ex_b49 := Ex_b49.ext E50
      replace Fn49 := Fn49.ext E50
      replace Ft49 := Ft49.ext E50
      replace Fs49 := Fs49.ext E50
      replace Fz49 := Fz49.ext E50
      have Ex_b50 := A50
      have F_name_b50 : Fld Z h50 b50 "com/example/tranche/tranche/model/Row$Field" "name" "Ljava/lang/String;" .null := D50 (Or.inr (hw _ (List.mem_of_getElem? (i := 52) rfl))) (ty := (.object "java/lang/String")) (by decide)
      have F_text_b50 : Fld Z h50 b50 "com/example/tranche/tranche/model/Row$Field" "text" "Ljava/lang/String;" .null := D50 (Or.inr (hw _ (List.mem_of_getElem? (i := 54) rfl))) (ty := (.object "java/lang/String")) (by decide)
      have F_span_b50 : Fld Z h50 b50 "com/example/tranche/tranche/model/Row$Field" "span" "Ljava/util/Optional;" .null := D50 (Or.inr (hw _ (List.mem_of_getElem? (i := 56) rfl))) (ty := (.object "java/util/Optional")) (by decide)
      have F_spanFirst_b50 : Fld Z h50 b50 "com/example/tranche/tranche/model/Row$Field" "spanFirst" "Z" (.int (0 : Int32)) := D50 (Or.inr (hw _ (List.mem_of_getElem? (i := 58) rfl))) (ty := .boolean) (by decide)
      show own_Go p e below s _ _ _ (T50.setTop (mkF m 164 #[iv p1, iv p2, iv p3, iv p4, iv p5, rv b1, rv b8, rv b15, rv b17, iv (1 : Int32), iv (0 : Int32), iv (p3 &&& (2147483647 : Int32)), iv (p4 &&& (2147483647 : Int32)), rv b49, .unset, .unset] [(.ref b50)]))
      refine own_go (fun zt zk => (XS.dup X50.here hx rfl (hb hby at_164) rfl rfl (XS.aload X50.here hx rfl (hb hby at_165) rfl rfl (XS.aload X50.here hx rfl (hb hby at_167) rfl rfl (XS.aload X50.here hx rfl (hb hby at_169) rfl rfl zk))))) ?_
      show own_Go p e below s _ _ _ (T50.setTop (mkF m 171 #[iv p1, iv p2, iv p3, iv p4, iv p5, rv b1, rv b8, rv b15, rv b17, iv (1 : Int32), iv (0 : Int32), iv (p3 &&& (2147483647 : Int32)), iv (p4 &&& (2147483647 : Int32)), rv b49, .unset, .unset] [(.ref b49), (.ref b17), (.ref b15), (.ref b50), (.ref b50)]))
      obtain ⟨cq51, kq51, qa51, qb51, qc51⟩ := isOf hZ e50 Ex_b49
      obtain ⟨_, _, ⟨T51, L51, k51, n51⟩, -, X51, ⟨Lc51, hQ51, l51, y51, z51⟩, st51⟩ := X50.virtualBack hx (y := (⟨"com/example/tranche/tranche/model/Row$Field", "span", "()Ljava/util/Optional;"⟩ : MethodName)) (z := (⟨"com/example/tranche/tranche/model/Row$Field", "span", "()Ljava/util/Optional;"⟩ : MethodName)) hown (mvT hZ (hw _ (List.mem_of_getElem? (i := 60) rfl))) (mvT hZ (hw _ (List.mem_of_getElem? (i := 61) rfl))) (notFace_of_selects (args := #[]) (mvT hZ (hw _ (List.mem_of_getElem? (i := 63) rfl)))) (mvT hZ (hw _ (List.mem_of_getElem? (i := 63) rfl))) (mvT hZ (hw _ (List.mem_of_getElem? (i := 62) rfl))) (by decide) (backOf (W := 4) (own_gspan l Z a0 hw [] b49 op49 h50 n0 (Nat.le_trans Z0 Kp.1) Fs49) hZ (hw _ (List.mem_of_getElem? (i := 64) rfl)) (hw _ (List.mem_of_getElem? (i := 33) rfl)) (by decide) (by decide)) qa51 qc51 (g := (mkF m 171 #[iv p1, iv p2, iv p3, iv p4, iv p5, rv b1, rv b8, rv b15, rv b17, iv (1 : Int32), iv (0 : Int32), iv (p3 &&& (2147483647 : Int32)), iv (p4 &&& (2147483647 : Int32)), rv b49, .unset, .unset] [(.ref b49), (.ref b17), (.ref b15), (.ref b50), (.ref b50)])) rfl (by rw [hml]; rfl) (Steps.refl _) (argsL := []) (rest := [(.ref b17), (.ref b15), (.ref b50), (.ref b50)]) (lenOf own_pd___Ljava_util_Optional_ rfl) rfl (by show 2 * 0 + _ ≤ _; exact Nat.le_of_eq rfl) (hb hby at_171) (fun _ _ => ⟨rfl, e50, (by decide : 10 + 0 ≤ _), (by decide : 27 + 0 ≤ _)⟩)
      dsimp only [Pt.U, Pt.locs, Pt.cells, Pt.slots] at X51 l51 y51 z51 st51 hQ51
      subst y51 z51
      replace X51 := X51.mono (Nat.le_of_ble_eq_true rfl : _ ≤ 10) (Nat.le_of_ble_eq_true rfl : _ ≤ 27)
      obtain ⟨rfl, Nq51, e51⟩ := hQ51
      have N51 : Fr n0 L51 := by rw [l51]; exact Fr.app N49 Nq51
      refine own_go (fun zt zk => st51.trans zk) ?_
      show own_Go p e below s _ _ _ (T51.setTop (mkF m 174 #[iv p1, iv p2, iv p3, iv p4, iv p5, rv b1, rv b8, rv b15, rv b17, iv (1 : Int32), iv (0 : Int32), iv (p3 &&& (2147483647 : Int32)), iv (p4 &&& (2147483647 : Int32)), rv b49, .unset, .unset] [(.ref op49), (.ref b17), (.ref b15), (.ref b50), (.ref b50)]))
      refine own_go (fun zt zk => (XS.iload X51.here hx rfl (hb hby at_174) rfl zk)) ?_
      show own_Go p e below s _ _ _ (T51.setTop (mkF m 176 #[iv p1, iv p2, iv p3, iv p4, iv p5, rv b1, rv b8, rv b15, rv b17, iv (1 : Int32), iv (0 : Int32), iv (p3 &&& (2147483647 : Int32)), iv (p4 &&& (2147483647 : Int32)), rv b49, .unset, .unset] [(.int (0 : Int32)), (.ref op49), (.ref b17), (.ref b15), (.ref b50), (.ref b50)]))
      obtain ⟨_, _, ⟨T52, L52, k52, n52⟩, -, X52, ⟨Lc52, hQ52, l52, y52, z52⟩, st52⟩ := X51.specialBack hx (y := (⟨"com/example/tranche/tranche/model/Row$Field", "<init>", "(Ljava/lang/String;Ljava/lang/String;Ljava/util/Optional;Z)V"⟩ : MethodName)) rfl hown (mvT hZ (hw _ (List.mem_of_getElem? (i := 65) rfl))) (mvT hZ (hw _ (List.mem_of_getElem? (i := 43) rfl))) (mvT hZ (hw _ (List.mem_of_getElem? (i := 44) rfl))) (by decide) (backOf (W := 1) (own_rfld0 l Z a0 hw [] b50 b15 b17 op49  h50 n0 (Nat.le_trans Z0 Kp.1) Ex_b50 F_name_b50 F_text_b50 F_span_b50 F_spanFirst_b50 g_b50 ) hZ (hw _ (List.mem_of_getElem? (i := 44) rfl)) (hw _ (List.mem_of_getElem? (i := 33) rfl)) (by decide) (by decide)) (g := (mkF m 176 #[iv p1, iv p2, iv p3, iv p4, iv p5, rv b1, rv b8, rv b15, rv b17, iv (1 : Int32), iv (0 : Int32), iv (p3 &&& (2147483647 : Int32)), iv (p4 &&& (2147483647 : Int32)), rv b49, .unset, .unset] [(.int (0 : Int32)), (.ref op49), (.ref b17), (.ref b15), (.ref b50), (.ref b50)])) rfl (by rw [hml]; rfl) (Steps.refl _) (a := b50) (argsL := [(.ref b15), (.ref b17), (.ref op49), (.int (0 : Int32))]) (rest := [(.ref b50)]) (lenOf own_pd__Ljava_lang_String_Ljava_lang_String_Ljava_util_Optional_Z_V rfl) rfl (by show 2 * 0 + _ ≤ _; exact Nat.le_of_eq rfl) (hb hby at_176) (fun _ _ => ⟨rfl, e51, (by decide : 10 + 0 ≤ _), (by decide : 27 + 0 ≤ _)⟩)
      dsimp only [Pt.U, Pt.locs, Pt.cells, Pt.slots] at X52 l52 y52 z52 st52 hQ52
      subst y52 z52
      replace X52 := X52.mono (Nat.le_of_ble_eq_true rfl : _ ≤ 10) (Nat.le_of_ble_eq_true rfl : _ ≤ 27)
      obtain ⟨rfl, Nq52, K52, -, F_name_b50, F_text_b50, F_span_b50, F_spanFirst_b50⟩ := hQ52
      have N52 : Fr n0 L52 := by rw [l52]; exact Fr.app N51 Nq52
      refine own_go (fun zt zk => st52.trans zk) ?_
      replace O := O.keep K52 (allS g_b50 all0)
      replace Kp := Kp.trans K52 (allS (Or.inr sz_b50) all0)
      replace V_b1 := V_b1.keep K52 (ninS ne_b1_b50 nin0)
      replace Ea_b1 := Ea_b1.keep K52
      replace V_b8 := V_b8.keep K52 (ninS ne_b8_b50 nin0)
      replace Ea_b8 := Ea_b8.keep K52
      replace Ex_b15 := Ex_b15.keep K52
      replace Fc16 := Fc16.keep K52 (ninS ne_b15_b50 nin0)
      replace Fv16 := Fv16.keep K52 (ninS ne_b15_b50 nin0)
      replace Vt16 := Vt16.keep K52 (ninS ne_t16_b50 nin0)
      replace Ex_b17 := Ex_b17.keep K52
      replace Fc18 := Fc18.keep K52 (ninS ne_b17_b50 nin0)
      replace Fv18 := Fv18.keep K52 (ninS ne_b17_b50 nin0)
      replace Vt18 := Vt18.keep K52 (ninS ne_t18_b50 nin0)
      replace Ex_b45 := Ex_b45.keep K52
      replace F_start_b45 := F_start_b45.keep K52 (ninS ne_b45_b50 nin0)
      replace F_end_b45 := F_end_b45.keep K52 (ninS ne_b45_b50 nin0)
      replace Ex_b49 := Ex_b49.keep K52
      replace Fn49 := Fn49.keep K52 (ninS ne_b49_b50 nin0)
      replace Ft49 := Ft49.keep K52 (ninS ne_b49_b50 nin0)
      replace Fs49 := Fs49.keep K52 (ninS ne_b49_b50 nin0)
      replace Fz49 := Fz49.keep K52 (ninS ne_b49_b50 nin0)
      replace Ex_b50 := Ex_b50.keep K52
      show own_Go p e below s _ _ _ (T52.setTop (mkF m 179 #[iv p1, iv p2, iv p3, iv p4, iv p5, rv b1, rv b8, rv b15, rv b17, iv (1 : Int32), iv (0 : Int32), iv (p3 &&& (2147483647 : Int32)), iv (p4 &&& (2147483647 : Int32)), rv b49, .unset, .unset] [(.ref b50)]))
      refine own_go (fun zt zk => (XS.astore X52.here hx rfl (hb hby at_179) rfl rfl (l' := #[iv p1, iv p2, iv p3, iv p4, iv p5, rv b1, rv b8, rv b15, rv b17, iv (1 : Int32), iv (0 : Int32), iv (p3 &&& (2147483647 : Int32)), iv (p4 &&& (2147483647 : Int32)), rv b49, rv b50, .unset]) rfl (XS.aload X52.here hx rfl (hb hby at_181) rfl rfl zk))) ?_
      show own_Go p e below s _ _ _ (T52.setTop (mkF m 183 #[iv p1, iv p2, iv p3, iv p4, iv p5, rv b1, rv b8, rv b15, rv b17, iv (1 : Int32), iv (0 : Int32), iv (p3 &&& (2147483647 : Int32)), iv (p4 &&& (2147483647 : Int32)), rv b49, rv b50, .unset] [(.ref b50)]))
      obtain ⟨cq53, kq53, qa53, qb53, qc53⟩ := isOf hZ rfl Ex_b50
      obtain ⟨_, _, ⟨T53, L53, k53, n53⟩, -, X53, ⟨Lc53, hQ53, l53, y53, z53⟩, st53⟩ := X52.virtualBack hx (y := (⟨"com/example/tranche/tranche/model/Row$Field", "withSpanFirst", "()Lcom/example/tranche/tranche/model/Row$Field;"⟩ : MethodName)) (z := (⟨"com/example/tranche/tranche/model/Row$Field", "withSpanFirst", "()Lcom/example/tranche/tranche/model/Row$Field;"⟩ : MethodName)) hown (mvT hZ (hw _ (List.mem_of_getElem? (i := 66) rfl))) (mvT hZ (hw _ (List.mem_of_getElem? (i := 67) rfl))) (notFace_of_selects (args := #[]) (mvT hZ (hw _ (List.mem_of_getElem? (i := 69) rfl)))) (mvT hZ (hw _ (List.mem_of_getElem? (i := 69) rfl))) (mvT hZ (hw _ (List.mem_of_getElem? (i := 68) rfl))) (by decide) (backOf (W := 0) (own_rwsf l Z a0 hw [] b50 b15 b17 op49 T52.heap n0 (Nat.le_trans Z0 Kp.1) F_name_b50 F_text_b50 F_span_b50) hZ (hw _ (List.mem_of_getElem? (i := 70) rfl)) (hw _ (List.mem_of_getElem? (i := 33) rfl)) (by decide) (by decide)) qa53 qc53 (g := (mkF m 183 #[iv p1, iv p2, iv p3, iv p4, iv p5, rv b1, rv b8, rv b15, rv b17, iv (1 : Int32), iv (0 : Int32), iv (p3 &&& (2147483647 : Int32)), iv (p4 &&& (2147483647 : Int32)), rv b49, rv b50, .unset] [(.ref b50)])) rfl (by rw [hml]; rfl) (Steps.refl _) (argsL := []) (rest := []) (lenOf own_pd___Lcom_example_tranche_tranche_model_Row_Field_ rfl) rfl (by show 2 * 0 + _ ≤ _; exact Nat.le_of_eq rfl) (hb hby at_183) (fun _ _ => ⟨rfl, rfl, (by decide : 10 + 1 ≤ _), (by decide : 27 + 4 ≤ _)⟩)
      dsimp only [Pt.U, Pt.locs, Pt.cells, Pt.slots] at X53 l53 y53 z53 st53 hQ53
      subst y53 z53
      replace X53 := X53.mono (Nat.le_of_ble_eq_true rfl : _ ≤ 11) (Nat.le_of_ble_eq_true rfl : _ ≤ 31)
      obtain ⟨b53, rfl, Nq53, K53, sb53, Ex_b53, Fn53, Ft53, Fs53, Fz53⟩ := hQ53
      have N53 : Fr n0 L53 := by rw [l53]; exact Fr.app N52 Nq53
      refine own_go (fun zt zk => st53.trans zk) ?_
      replace O := O.keep K53 all0
      replace Kp := Kp.trans K53 all0
      replace V_b1 := V_b1.keep K53 nin0
      replace Ea_b1 := Ea_b1.keep K53
      replace V_b8 := V_b8.keep K53 nin0
      replace Ea_b8 := Ea_b8.keep K53
      replace Ex_b15 := Ex_b15.keep K53
      replace Fc16 := Fc16.keep K53 nin0
      replace Fv16 := Fv16.keep K53 nin0
      replace Vt16 := Vt16.keep K53 nin0
      replace Ex_b17 := Ex_b17.keep K53
      replace Fc18 := Fc18.keep K53 nin0
      replace Fv18 := Fv18.keep K53 nin0
      replace Vt18 := Vt18.keep K53 nin0
      replace Ex_b45 := Ex_b45.keep K53
      replace F_start_b45 := F_start_b45.keep K53 nin0
      replace F_end_b45 := F_end_b45.keep K53 nin0
      replace Ex_b49 := Ex_b49.keep K53
      replace Fn49 := Fn49.keep K53 nin0
      replace Ft49 := Ft49.keep K53 nin0
      replace Fs49 := Fs49.keep K53 nin0
      replace Fz49 := Fz49.keep K53 nin0
      replace Ex_b50 := Ex_b50.keep K53
      replace F_name_b50 := F_name_b50.keep K53 nin0
      replace F_text_b50 := F_text_b50.keep K53 nin0
      replace F_span_b50 := F_span_b50.keep K53 nin0
      replace F_spanFirst_b50 := F_spanFirst_b50.keep K53 nin0
      show own_Go p e below s _ _ _ (T53.setTop (mkF m 186 #[iv p1, iv p2, iv p3, iv p4, iv p5, rv b1, rv b8, rv b15, rv b17, iv (1 : Int32), iv (0 : Int32), iv (p3 &&& (2147483647 : Int32)), iv (p4 &&& (2147483647 : Int32)), rv b49, rv b50, .unset] [(.ref b53)]))
      refine own_go (fun zt zk => (XS.astore X53.here hx rfl (hb hby at_186) rfl rfl (l' := #[iv p1, iv p2, iv p3, iv p4, iv p5, rv b1, rv b8, rv b15, rv b17, iv (1 : Int32), iv (0 : Int32), iv (p3 &&& (2147483647 : Int32)), iv (p4 &&& (2147483647 : Int32)), rv b49, rv b50, rv b53]) rfl (XS.aload X53.here hx rfl (hb hby at_188) rfl rfl (XS.ifnullNo X53.here hx rfl (hb hby at_190) rfl (XS.aload X53.here hx rfl (hb hby at_193) rfl rfl zk))))) ?_
      show own_Go p e below s _ _ _ (T53.setTop (mkF m 195 #[iv p1, iv p2, iv p3, iv p4, iv p5, rv b1, rv b8, rv b15, rv b17, iv (1 : Int32), iv (0 : Int32), iv (p3 &&& (2147483647 : Int32)), iv (p4 &&& (2147483647 : Int32)), rv b49, rv b50, rv b53] [(.ref b53)]))
      obtain ⟨cq54, kq54, qa54, qb54, qc54⟩ := isOf hZ rfl Ex_b53
      obtain ⟨_, _, ⟨T54, L54, k54, n54⟩, -, X54, ⟨Lc54, hQ54, l54, y54, z54⟩, st54⟩ := X53.virtualBack hx (y := (⟨"com/example/tranche/tranche/model/Row$Field", "name", "()Ljava/lang/String;"⟩ : MethodName)) (z := (⟨"com/example/tranche/tranche/model/Row$Field", "name", "()Ljava/lang/String;"⟩ : MethodName)) hown (mvT hZ (hw _ (List.mem_of_getElem? (i := 71) rfl))) (mvT hZ (hw _ (List.mem_of_getElem? (i := 72) rfl))) (notFace_of_selects (args := #[]) (mvT hZ (hw _ (List.mem_of_getElem? (i := 74) rfl)))) (mvT hZ (hw _ (List.mem_of_getElem? (i := 74) rfl))) (mvT hZ (hw _ (List.mem_of_getElem? (i := 73) rfl))) (by decide) (backOf (W := 0) (own_gname l Z a0 hw [] b53 b15 T53.heap n0 (Nat.le_trans Z0 Kp.1) Fn53) hZ (hw _ (List.mem_of_getElem? (i := 75) rfl)) (hw _ (List.mem_of_getElem? (i := 33) rfl)) (by decide) (by decide)) qa54 qc54 (g := (mkF m 195 #[iv p1, iv p2, iv p3, iv p4, iv p5, rv b1, rv b8, rv b15, rv b17, iv (1 : Int32), iv (0 : Int32), iv (p3 &&& (2147483647 : Int32)), iv (p4 &&& (2147483647 : Int32)), rv b49, rv b50, rv b53] [(.ref b53)])) rfl (by rw [hml]; rfl) (Steps.refl _) (argsL := []) (rest := []) (lenOf own_pd___Ljava_lang_String_ rfl) rfl (by show 2 * 0 + _ ≤ _; exact Nat.le_of_eq rfl) (hb hby at_195) (fun _ _ => ⟨rfl, rfl, (by decide : 11 + 0 ≤ _), (by decide : 31 + 0 ≤ _)⟩)
      dsimp only [Pt.U, Pt.locs, Pt.cells, Pt.slots] at X54 l54 y54 z54 st54 hQ54
      subst y54 z54
      replace X54 := X54.mono (Nat.le_of_ble_eq_true rfl : _ ≤ 11) (Nat.le_of_ble_eq_true rfl : _ ≤ 31)
      obtain ⟨rfl, Nq54, e54⟩ := hQ54
      have N54 : Fr n0 L54 := by rw [l54]; exact Fr.app N53 Nq54
      refine own_go (fun zt zk => st54.trans zk) ?_
      show own_Go p e below s _ _ _ (T54.setTop (mkF m 198 #[iv p1, iv p2, iv p3, iv p4, iv p5, rv b1, rv b8, rv b15, rv b17, iv (1 : Int32), iv (0 : Int32), iv (p3 &&& (2147483647 : Int32)), iv (p4 &&& (2147483647 : Int32)), rv b49, rv b50, rv b53] [(.ref b15)]))
      refine own_go (fun zt zk => (XS.aload X54.here hx rfl (hb hby at_198) rfl rfl zk)) ?_
      show own_Go p e below s _ _ _ (T54.setTop (mkF m 200 #[iv p1, iv p2, iv p3, iv p4, iv p5, rv b1, rv b8, rv b15, rv b17, iv (1 : Int32), iv (0 : Int32), iv (p3 &&& (2147483647 : Int32)), iv (p4 &&& (2147483647 : Int32)), rv b49, rv b50, rv b53] [(.ref b15), (.ref b15)]))
      obtain ⟨cq55, kq55, qa55, qb55, qc55⟩ := isOf hZ e54 Ex_b15
      obtain ⟨_, _, ⟨T55, L55, k55, n55⟩, -, X55, ⟨Lc55, hQ55, l55, y55, z55⟩, st55⟩ := X54.virtualBack hx (y := (⟨"java/lang/String", "equals", "(Ljava/lang/Object;)Z"⟩ : MethodName)) (z := (⟨"java/lang/String", "equals", "(Ljava/lang/Object;)Z"⟩ : MethodName)) hown (mvT hZ (hw _ (List.mem_of_getElem? (i := 76) rfl))) (mvT hZ (hw _ (List.mem_of_getElem? (i := 77) rfl))) (notFace_of_selects (args := #[]) (mvT hZ (hw _ (List.mem_of_getElem? (i := 79) rfl)))) (mvT hZ (hw _ (List.mem_of_getElem? (i := 79) rfl))) (mvT hZ (hw _ (List.mem_of_getElem? (i := 78) rfl))) (by decide) (backOf (W := 0) (own_reqs l Z a0 hw [] b15  T53.heap n0 (Nat.le_trans Z0 Kp.1) ) hZ (hw _ (List.mem_of_getElem? (i := 80) rfl)) (hw _ (List.mem_of_getElem? (i := 3) rfl)) (by decide) (by decide)) qa55 qc55 (g := (mkF m 200 #[iv p1, iv p2, iv p3, iv p4, iv p5, rv b1, rv b8, rv b15, rv b17, iv (1 : Int32), iv (0 : Int32), iv (p3 &&& (2147483647 : Int32)), iv (p4 &&& (2147483647 : Int32)), rv b49, rv b50, rv b53] [(.ref b15), (.ref b15)])) rfl (by rw [hml]; rfl) (Steps.refl _) (argsL := [(.ref b15)]) (rest := []) (lenOf own_pd__Ljava_lang_Object__Z rfl) rfl (by show 2 * 0 + _ ≤ _; exact Nat.le_of_eq rfl) (hb hby at_200) (fun _ _ => ⟨rfl, e54, (by decide : 11 + 0 ≤ _), (by decide : 31 + 0 ≤ _)⟩)
      dsimp only [Pt.U, Pt.locs, Pt.cells, Pt.slots] at X55 l55 y55 z55 st55 hQ55
      subst y55 z55
      replace X55 := X55.mono (Nat.le_of_ble_eq_true rfl : _ ≤ 11) (Nat.le_of_ble_eq_true rfl : _ ≤ 31)
      obtain ⟨rfl, Nq55, e55⟩ := hQ55
      have N55 : Fr n0 L55 := by rw [l55]; exact Fr.app N54 Nq55
      refine own_go (fun zt zk => st55.trans zk) ?_
      show own_Go p e below s _ _ _ (T55.setTop (mkF m 203 #[iv p1, iv p2, iv p3, iv p4, iv p5, rv b1, rv b8, rv b15, rv b17, iv (1 : Int32), iv (0 : Int32), iv (p3 &&& (2147483647 : Int32)), iv (p4 &&& (2147483647 : Int32)), rv b49, rv b50, rv b53] [(.int (1 : Int32))]))
      refine own_go (fun zt zk => (XS.ifNo X55.here hx rfl (hb hby at_203) rfl ((if0 _ _).trans (feq ((by decide) : ¬ ((1 : Int32) = (0 : Int32)))).1) (XS.aload X55.here hx rfl (hb hby at_206) rfl rfl zk))) ?_
      show own_Go p e below s _ _ _ (T55.setTop (mkF m 208 #[iv p1, iv p2, iv p3, iv p4, iv p5, rv b1, rv b8, rv b15, rv b17, iv (1 : Int32), iv (0 : Int32), iv (p3 &&& (2147483647 : Int32)), iv (p4 &&& (2147483647 : Int32)), rv b49, rv b50, rv b53] [(.ref b53)]))
      obtain ⟨cq56, kq56, qa56, qb56, qc56⟩ := isOf hZ e55 Ex_b53
      obtain ⟨_, _, ⟨T56, L56, k56, n56⟩, -, X56, ⟨Lc56, hQ56, l56, y56, z56⟩, st56⟩ := X55.virtualBack hx (y := (⟨"com/example/tranche/tranche/model/Row$Field", "text", "()Ljava/lang/String;"⟩ : MethodName)) (z := (⟨"com/example/tranche/tranche/model/Row$Field", "text", "()Ljava/lang/String;"⟩ : MethodName)) hown (mvT hZ (hw _ (List.mem_of_getElem? (i := 81) rfl))) (mvT hZ (hw _ (List.mem_of_getElem? (i := 82) rfl))) (notFace_of_selects (args := #[]) (mvT hZ (hw _ (List.mem_of_getElem? (i := 84) rfl)))) (mvT hZ (hw _ (List.mem_of_getElem? (i := 84) rfl))) (mvT hZ (hw _ (List.mem_of_getElem? (i := 83) rfl))) (by decide) (backOf (W := 0) (own_gtext l Z a0 hw [] b53 b17 T53.heap n0 (Nat.le_trans Z0 Kp.1) Ft53) hZ (hw _ (List.mem_of_getElem? (i := 85) rfl)) (hw _ (List.mem_of_getElem? (i := 33) rfl)) (by decide) (by decide)) qa56 qc56 (g := (mkF m 208 #[iv p1, iv p2, iv p3, iv p4, iv p5, rv b1, rv b8, rv b15, rv b17, iv (1 : Int32), iv (0 : Int32), iv (p3 &&& (2147483647 : Int32)), iv (p4 &&& (2147483647 : Int32)), rv b49, rv b50, rv b53] [(.ref b53)])) rfl (by rw [hml]; rfl) (Steps.refl _) (argsL := []) (rest := []) (lenOf own_pd___Ljava_lang_String_ rfl) rfl (by show 2 * 0 + _ ≤ _; exact Nat.le_of_eq rfl) (hb hby at_208) (fun _ _ => ⟨rfl, e55, (by decide : 11 + 0 ≤ _), (by decide : 31 + 0 ≤ _)⟩)
      dsimp only [Pt.U, Pt.locs, Pt.cells, Pt.slots] at X56 l56 y56 z56 st56 hQ56
      subst y56 z56
      replace X56 := X56.mono (Nat.le_of_ble_eq_true rfl : _ ≤ 11) (Nat.le_of_ble_eq_true rfl : _ ≤ 31)
      obtain ⟨rfl, Nq56, e56⟩ := hQ56
      have N56 : Fr n0 L56 := by rw [l56]; exact Fr.app N55 Nq56
      refine own_go (fun zt zk => st56.trans zk) ?_
      show own_Go p e below s _ _ _ (T56.setTop (mkF m 211 #[iv p1, iv p2, iv p3, iv p4, iv p5, rv b1, rv b8, rv b15, rv b17, iv (1 : Int32), iv (0 : Int32), iv (p3 &&& (2147483647 : Int32)), iv (p4 &&& (2147483647 : Int32)), rv b49, rv b50, rv b53] [(.ref b17)]))
      refine own_go (fun zt zk => (XS.aload X56.here hx rfl (hb hby at_211) rfl rfl zk)) ?_
      show own_Go p e below s _ _ _ (T56.setTop (mkF m 213 #[iv p1, iv p2, iv p3, iv p4, iv p5, rv b1, rv b8, rv b15, rv b17, iv (1 : Int32), iv (0 : Int32), iv (p3 &&& (2147483647 : Int32)), iv (p4 &&& (2147483647 : Int32)), rv b49, rv b50, rv b53] [(.ref b17), (.ref b17)]))
      obtain ⟨cq57, kq57, qa57, qb57, qc57⟩ := isOf hZ e56 Ex_b17
      obtain ⟨_, _, ⟨T57, L57, k57, n57⟩, -, X57, ⟨Lc57, hQ57, l57, y57, z57⟩, st57⟩ := X56.virtualBack hx (y := (⟨"java/lang/String", "equals", "(Ljava/lang/Object;)Z"⟩ : MethodName)) (z := (⟨"java/lang/String", "equals", "(Ljava/lang/Object;)Z"⟩ : MethodName)) hown (mvT hZ (hw _ (List.mem_of_getElem? (i := 76) rfl))) (mvT hZ (hw _ (List.mem_of_getElem? (i := 77) rfl))) (notFace_of_selects (args := #[]) (mvT hZ (hw _ (List.mem_of_getElem? (i := 79) rfl)))) (mvT hZ (hw _ (List.mem_of_getElem? (i := 79) rfl))) (mvT hZ (hw _ (List.mem_of_getElem? (i := 78) rfl))) (by decide) (backOf (W := 0) (own_reqs l Z a0 hw [] b17  T53.heap n0 (Nat.le_trans Z0 Kp.1) ) hZ (hw _ (List.mem_of_getElem? (i := 80) rfl)) (hw _ (List.mem_of_getElem? (i := 3) rfl)) (by decide) (by decide)) qa57 qc57 (g := (mkF m 213 #[iv p1, iv p2, iv p3, iv p4, iv p5, rv b1, rv b8, rv b15, rv b17, iv (1 : Int32), iv (0 : Int32), iv (p3 &&& (2147483647 : Int32)), iv (p4 &&& (2147483647 : Int32)), rv b49, rv b50, rv b53] [(.ref b17), (.ref b17)])) rfl (by rw [hml]; rfl) (Steps.refl _) (argsL := [(.ref b17)]) (rest := []) (lenOf own_pd__Ljava_lang_Object__Z rfl) rfl (by show 2 * 0 + _ ≤ _; exact Nat.le_of_eq rfl) (hb hby at_213) (fun _ _ => ⟨rfl, e56, (by decide : 11 + 0 ≤ _), (by decide : 31 + 0 ≤ _)⟩)
      dsimp only [Pt.U, Pt.locs, Pt.cells, Pt.slots] at X57 l57 y57 z57 st57 hQ57
      subst y57 z57
      replace X57 := X57.mono (Nat.le_of_ble_eq_true rfl : _ ≤ 11) (Nat.le_of_ble_eq_true rfl : _ ≤ 31)
      obtain ⟨rfl, Nq57, e57⟩ := hQ57
      have N57 : Fr n0 L57 := by rw [l57]; exact Fr.app N56 Nq57
      refine own_go (fun zt zk => st57.trans zk) ?_
      show own_Go p e below s _ _ _ (T57.setTop (mkF m 216 #[iv p1, iv p2, iv p3, iv p4, iv p5, rv b1, rv b8, rv b15, rv b17, iv (1 : Int32), iv (0 : Int32), iv (p3 &&& (2147483647 : Int32)), iv (p4 &&& (2147483647 : Int32)), rv b49, rv b50, rv b53] [(.int (1 : Int32))]))
      refine own_go (fun zt zk => (XS.ifNo X57.here hx rfl (hb hby at_216) rfl ((if0 _ _).trans (feq ((by decide) : ¬ ((1 : Int32) = (0 : Int32)))).1) (XS.aload X57.here hx rfl (hb hby at_219) rfl rfl zk))) ?_
      show own_Go p e below s _ _ _ (T57.setTop (mkF m 221 #[iv p1, iv p2, iv p3, iv p4, iv p5, rv b1, rv b8, rv b15, rv b17, iv (1 : Int32), iv (0 : Int32), iv (p3 &&& (2147483647 : Int32)), iv (p4 &&& (2147483647 : Int32)), rv b49, rv b50, rv b53] [(.ref b53)]))
      obtain ⟨cq58, kq58, qa58, qb58, qc58⟩ := isOf hZ e57 Ex_b53
      obtain ⟨_, _, ⟨T58, L58, k58, n58⟩, -, X58, ⟨Lc58, hQ58, l58, y58, z58⟩, st58⟩ := X57.virtualBack hx (y := (⟨"com/example/tranche/tranche/model/Row$Field", "span", "()Ljava/util/Optional;"⟩ : MethodName)) (z := (⟨"com/example/tranche/tranche/model/Row$Field", "span", "()Ljava/util/Optional;"⟩ : MethodName)) hown (mvT hZ (hw _ (List.mem_of_getElem? (i := 60) rfl))) (mvT hZ (hw _ (List.mem_of_getElem? (i := 61) rfl))) (notFace_of_selects (args := #[]) (mvT hZ (hw _ (List.mem_of_getElem? (i := 63) rfl)))) (mvT hZ (hw _ (List.mem_of_getElem? (i := 63) rfl))) (mvT hZ (hw _ (List.mem_of_getElem? (i := 62) rfl))) (by decide) (backOf (W := 0) (own_gspan l Z a0 hw [] b53 op49 T53.heap n0 (Nat.le_trans Z0 Kp.1) Fs53) hZ (hw _ (List.mem_of_getElem? (i := 64) rfl)) (hw _ (List.mem_of_getElem? (i := 33) rfl)) (by decide) (by decide)) qa58 qc58 (g := (mkF m 221 #[iv p1, iv p2, iv p3, iv p4, iv p5, rv b1, rv b8, rv b15, rv b17, iv (1 : Int32), iv (0 : Int32), iv (p3 &&& (2147483647 : Int32)), iv (p4 &&& (2147483647 : Int32)), rv b49, rv b50, rv b53] [(.ref b53)])) rfl (by rw [hml]; rfl) (Steps.refl _) (argsL := []) (rest := []) (lenOf own_pd___Ljava_util_Optional_ rfl) rfl (by show 2 * 0 + _ ≤ _; exact Nat.le_of_eq rfl) (hb hby at_221) (fun _ _ => ⟨rfl, e57, (by decide : 11 + 0 ≤ _), (by decide : 31 + 0 ≤ _)⟩)
      dsimp only [Pt.U, Pt.locs, Pt.cells, Pt.slots] at X58 l58 y58 z58 st58 hQ58
      subst y58 z58
      replace X58 := X58.mono (Nat.le_of_ble_eq_true rfl : _ ≤ 11) (Nat.le_of_ble_eq_true rfl : _ ≤ 31)
      obtain ⟨rfl, Nq58, e58⟩ := hQ58
      have N58 : Fr n0 L58 := by rw [l58]; exact Fr.app N57 Nq58
      refine own_go (fun zt zk => st58.trans zk) ?_
      show own_Go p e below s _ _ _ (T58.setTop (mkF m 224 #[iv p1, iv p2, iv p3, iv p4, iv p5, rv b1, rv b8, rv b15, rv b17, iv (1 : Int32), iv (0 : Int32), iv (p3 &&& (2147483647 : Int32)), iv (p4 &&& (2147483647 : Int32)), rv b49, rv b50, rv b53] [(.ref op49)]))
      refine own_go (fun zt zk => (XS.aload X58.here hx rfl (hb hby at_224) rfl rfl zk)) ?_
      show own_Go p e below s _ _ _ (T58.setTop (mkF m 226 #[iv p1, iv p2, iv p3, iv p4, iv p5, rv b1, rv b8, rv b15, rv b17, iv (1 : Int32), iv (0 : Int32), iv (p3 &&& (2147483647 : Int32)), iv (p4 &&& (2147483647 : Int32)), rv b49, rv b50, rv b53] [(.ref b49), (.ref op49)]))
      obtain ⟨cq59, kq59, qa59, qb59, qc59⟩ := isOf hZ e58 Ex_b49
      obtain ⟨_, _, ⟨T59, L59, k59, n59⟩, -, X59, ⟨Lc59, hQ59, l59, y59, z59⟩, st59⟩ := X58.virtualBack hx (y := (⟨"com/example/tranche/tranche/model/Row$Field", "span", "()Ljava/util/Optional;"⟩ : MethodName)) (z := (⟨"com/example/tranche/tranche/model/Row$Field", "span", "()Ljava/util/Optional;"⟩ : MethodName)) hown (mvT hZ (hw _ (List.mem_of_getElem? (i := 60) rfl))) (mvT hZ (hw _ (List.mem_of_getElem? (i := 61) rfl))) (notFace_of_selects (args := #[]) (mvT hZ (hw _ (List.mem_of_getElem? (i := 63) rfl)))) (mvT hZ (hw _ (List.mem_of_getElem? (i := 63) rfl))) (mvT hZ (hw _ (List.mem_of_getElem? (i := 62) rfl))) (by decide) (backOf (W := 1) (own_gspan l Z a0 hw [] b49 op49 T53.heap n0 (Nat.le_trans Z0 Kp.1) Fs49) hZ (hw _ (List.mem_of_getElem? (i := 64) rfl)) (hw _ (List.mem_of_getElem? (i := 33) rfl)) (by decide) (by decide)) qa59 qc59 (g := (mkF m 226 #[iv p1, iv p2, iv p3, iv p4, iv p5, rv b1, rv b8, rv b15, rv b17, iv (1 : Int32), iv (0 : Int32), iv (p3 &&& (2147483647 : Int32)), iv (p4 &&& (2147483647 : Int32)), rv b49, rv b50, rv b53] [(.ref b49), (.ref op49)])) rfl (by rw [hml]; rfl) (Steps.refl _) (argsL := []) (rest := [(.ref op49)]) (lenOf own_pd___Ljava_util_Optional_ rfl) rfl (by show 2 * 0 + _ ≤ _; exact Nat.le_of_eq rfl) (hb hby at_226) (fun _ _ => ⟨rfl, e58, (by decide : 11 + 0 ≤ _), (by decide : 31 + 0 ≤ _)⟩)
      dsimp only [Pt.U, Pt.locs, Pt.cells, Pt.slots] at X59 l59 y59 z59 st59 hQ59
      subst y59 z59
      replace X59 := X59.mono (Nat.le_of_ble_eq_true rfl : _ ≤ 11) (Nat.le_of_ble_eq_true rfl : _ ≤ 31)
      obtain ⟨rfl, Nq59, e59⟩ := hQ59
      have N59 : Fr n0 L59 := by rw [l59]; exact Fr.app N58 Nq59
      refine own_go (fun zt zk => st59.trans zk) ?_
      show own_Go p e below s _ _ _ (T59.setTop (mkF m 229 #[iv p1, iv p2, iv p3, iv p4, iv p5, rv b1, rv b8, rv b15, rv b17, iv (1 : Int32), iv (0 : Int32), iv (p3 &&& (2147483647 : Int32)), iv (p4 &&& (2147483647 : Int32)), rv b49, rv b50, rv b53] [(.ref op49), (.ref op49)]))
      refine own_go (fun zt zk => Jvm.RoadKit.acmp (g := (mkF m 229 #[iv p1, iv p2, iv p3, iv p4, iv p5, rv b1, rv b8, rv b15, rv b17, iv (1 : Int32), iv (0 : Int32), iv (p3 &&& (2147483647 : Int32)), iv (p4 &&& (2147483647 : Int32)), rv b49, rv b50, rv b53] [(.ref op49), (.ref op49)])) X59 hx rfl rfl rfl (pc0 := 229) (pc' := 232) (same := true) rfl (hb hby at_229) rfl (decide_eq_true rfl) (by decide) (by decide) zk) ?_
      show own_Go p e below s _ _ _ (T59.setTop (mkF m 232 #[iv p1, iv p2, iv p3, iv p4, iv p5, rv b1, rv b8, rv b15, rv b17, iv (1 : Int32), iv (0 : Int32), iv (p3 &&& (2147483647 : Int32)), iv (p4 &&& (2147483647 : Int32)), rv b49, rv b50, rv b53] []))
      refine own_go (fun zt zk => (XS.aload X59.here hx rfl (hb hby at_232) rfl rfl zk)) ?_
      show own_Go p e below s _ _ _ (T59.setTop (mkF m 234 #[iv p1, iv p2, iv p3, iv p4, iv p5, rv b1, rv b8, rv b15, rv b17, iv (1 : Int32), iv (0 : Int32), iv (p3 &&& (2147483647 : Int32)), iv (p4 &&& (2147483647 : Int32)), rv b49, rv b50, rv b53] [(.ref b53)]))
      obtain ⟨cq60, kq60, qa60, qb60, qc60⟩ := isOf hZ e59 Ex_b53
      obtain ⟨_, _, ⟨T60, L60, k60, n60⟩, -, X60, ⟨Lc60, hQ60, l60, y60, z60⟩, st60⟩ := X59.virtualBack hx (y := (⟨"com/example/tranche/tranche/model/Row$Field", "spanFirst", "()Z"⟩ : MethodName)) (z := (⟨"com/example/tranche/tranche/model/Row$Field", "spanFirst", "()Z"⟩ : MethodName)) hown (mvT hZ (hw _ (List.mem_of_getElem? (i := 86) rfl))) (mvT hZ (hw _ (List.mem_of_getElem? (i := 87) rfl))) (notFace_of_selects (args := #[]) (mvT hZ (hw _ (List.mem_of_getElem? (i := 89) rfl)))) (mvT hZ (hw _ (List.mem_of_getElem? (i := 89) rfl))) (mvT hZ (hw _ (List.mem_of_getElem? (i := 88) rfl))) (by decide) (backOf (W := 0) (own_gsf l Z a0 hw [] b53 (1 : Int32) T53.heap n0 (Nat.le_trans Z0 Kp.1) Fz53 rfl) hZ (hw _ (List.mem_of_getElem? (i := 90) rfl)) (hw _ (List.mem_of_getElem? (i := 33) rfl)) (by decide) (by decide)) qa60 qc60 (g := (mkF m 234 #[iv p1, iv p2, iv p3, iv p4, iv p5, rv b1, rv b8, rv b15, rv b17, iv (1 : Int32), iv (0 : Int32), iv (p3 &&& (2147483647 : Int32)), iv (p4 &&& (2147483647 : Int32)), rv b49, rv b50, rv b53] [(.ref b53)])) rfl (by rw [hml]; rfl) (Steps.refl _) (argsL := []) (rest := []) (lenOf own_pd___Z rfl) rfl (by show 2 * 0 + _ ≤ _; exact Nat.le_of_eq rfl) (hb hby at_234) (fun _ _ => ⟨rfl, e59, (by decide : 11 + 0 ≤ _), (by decide : 31 + 0 ≤ _)⟩)
      dsimp only [Pt.U, Pt.locs, Pt.cells, Pt.slots] at X60 l60 y60 z60 st60 hQ60
      subst y60 z60
      replace X60 := X60.mono (Nat.le_of_ble_eq_true rfl : _ ≤ 11) (Nat.le_of_ble_eq_true rfl : _ ≤ 31)
      obtain ⟨rfl, Nq60, e60⟩ := hQ60
      have N60 : Fr n0 L60 := by rw [l60]; exact Fr.app N59 Nq60
      refine own_go (fun zt zk => st60.trans zk) ?_
      show own_Go p e below s _ _ _ (T60.setTop (mkF m 237 #[iv p1, iv p2, iv p3, iv p4, iv p5, rv b1, rv b8, rv b15, rv b17, iv (1 : Int32), iv (0 : Int32), iv (p3 &&& (2147483647 : Int32)), iv (p4 &&& (2147483647 : Int32)), rv b49, rv b50, rv b53] [(.int (1 : Int32))]))
      refine own_go (fun zt zk => (XS.ifNo X60.here hx rfl (hb hby at_237) rfl ((if0 _ _).trans (feq ((by decide) : ¬ ((1 : Int32) = (0 : Int32)))).1) (XS.aload X60.here hx rfl (hb hby at_240) rfl rfl zk))) ?_
      show own_Go p e below s _ _ _ (T60.setTop (mkF m 242 #[iv p1, iv p2, iv p3, iv p4, iv p5, rv b1, rv b8, rv b15, rv b17, iv (1 : Int32), iv (0 : Int32), iv (p3 &&& (2147483647 : Int32)), iv (p4 &&& (2147483647 : Int32)), rv b49, rv b50, rv b53] [(.ref b50)]))
      obtain ⟨cq61, kq61, qa61, qb61, qc61⟩ := isOf hZ e60 Ex_b50
      obtain ⟨_, _, ⟨T61, L61, k61, n61⟩, -, X61, ⟨Lc61, hQ61, l61, y61, z61⟩, st61⟩ := X60.virtualBack hx (y := (⟨"com/example/tranche/tranche/model/Row$Field", "spanFirst", "()Z"⟩ : MethodName)) (z := (⟨"com/example/tranche/tranche/model/Row$Field", "spanFirst", "()Z"⟩ : MethodName)) hown (mvT hZ (hw _ (List.mem_of_getElem? (i := 86) rfl))) (mvT hZ (hw _ (List.mem_of_getElem? (i := 87) rfl))) (notFace_of_selects (args := #[]) (mvT hZ (hw _ (List.mem_of_getElem? (i := 89) rfl)))) (mvT hZ (hw _ (List.mem_of_getElem? (i := 89) rfl))) (mvT hZ (hw _ (List.mem_of_getElem? (i := 88) rfl))) (by decide) (backOf (W := 0) (own_gsf l Z a0 hw [] b50 (0 : Int32) T53.heap n0 (Nat.le_trans Z0 Kp.1) F_spanFirst_b50 rfl) hZ (hw _ (List.mem_of_getElem? (i := 90) rfl)) (hw _ (List.mem_of_getElem? (i := 33) rfl)) (by decide) (by decide)) qa61 qc61 (g := (mkF m 242 #[iv p1, iv p2, iv p3, iv p4, iv p5, rv b1, rv b8, rv b15, rv b17, iv (1 : Int32), iv (0 : Int32), iv (p3 &&& (2147483647 : Int32)), iv (p4 &&& (2147483647 : Int32)), rv b49, rv b50, rv b53] [(.ref b50)])) rfl (by rw [hml]; rfl) (Steps.refl _) (argsL := []) (rest := []) (lenOf own_pd___Z rfl) rfl (by show 2 * 0 + _ ≤ _; exact Nat.le_of_eq rfl) (hb hby at_242) (fun _ _ => ⟨rfl, e60, (by decide : 11 + 0 ≤ _), (by decide : 31 + 0 ≤ _)⟩)
      dsimp only [Pt.U, Pt.locs, Pt.cells, Pt.slots] at X61 l61 y61 z61 st61 hQ61
      subst y61 z61
      replace X61 := X61.mono (Nat.le_of_ble_eq_true rfl : _ ≤ 11) (Nat.le_of_ble_eq_true rfl : _ ≤ 31)
      obtain ⟨rfl, Nq61, e61⟩ := hQ61
      have N61 : Fr n0 L61 := by rw [l61]; exact Fr.app N60 Nq61
      refine own_go (fun zt zk => st61.trans zk) ?_
      show own_Go p e below s _ _ _ (T61.setTop (mkF m 245 #[iv p1, iv p2, iv p3, iv p4, iv p5, rv b1, rv b8, rv b15, rv b17, iv (1 : Int32), iv (0 : Int32), iv (p3 &&& (2147483647 : Int32)), iv (p4 &&& (2147483647 : Int32)), rv b49, rv b50, rv b53] [(.int (0 : Int32))]))
      refine own_go (fun zt zk => (XS.iload X61.here hx rfl (hb hby at_245) rfl (XS.icmpNo X61.here hx rfl (hb hby at_247) rfl (teq (rfl : (0 : Int32) = (0 : Int32))).2 (XS.iconst X61.here hx rfl (hb hby at_250) (XS.goto X61.here hx rfl (pc0 := 251) (pc' := 255) rfl (hb hby at_251) (by decide) (by decide) zk))))) ?_
      show own_Go p e below s _ _ _ (T61.setTop (mkF m 255 #[iv p1, iv p2, iv p3, iv p4, iv p5, rv b1, rv b8, rv b15, rv b17, iv (1 : Int32), iv (0 : Int32), iv (p3 &&& (2147483647 : Int32)), iv (p4 &&& (2147483647 : Int32)), rv b49, rv b50, rv b53] [(.int (1 : Int32))]))
      exact own_fin X61 Bd.notSynchronized (fun h => by rw [Bd.returns] at h; cases h) (fun fs hr => retN X61 hx (t := .boolean) Bd.returns (by simp) (hb hby at_255) hr) (by rw [e61]; exact ⟨rfl, N61⟩) (by decide) (by decide)
    · refine own_go (fun zt zk => (XS.ifNo X18.here hx rfl (hb hby at_92) rfl ((if0 _ _).trans (feq (hf : ¬ ((p5 &&& (2 : Int32)) = (0 : Int32)))).1) (XS.iconst X18.here hx rfl (hb hby at_95) (XS.goto X18.here hx rfl (pc0 := 96) (pc' := 100) rfl (hb hby at_96) (by decide) (by decide) (XS.istore X18.here hx rfl (hb hby at_100) rfl (l' := #[iv p1, iv p2, iv p3, iv p4, iv p5, rv b1, rv b8, rv b15, rv b17, iv (1 : Int32), iv (1 : Int32), .unset, .unset, .unset, .unset, .unset]) rfl (XS.iloadN X18.here hx rfl (hb hby at_102) rfl (X18.ldcI hx hown (mvT hZ (hw _ (List.mem_of_getElem? (i := 30) rfl))) (g := (mkF m 103 #[iv p1, iv p2, iv p3, iv p4, iv p5, rv b1, rv b8, rv b15, rv b17, iv (1 : Int32), iv (1 : Int32), .unset, .unset, .unset, .unset, .unset] [(.int p3)])) rfl (hb hby at_103) (XS.iand X18.here hx rfl (hb hby at_105) rfl (XS.istore X18.here hx rfl (hb hby at_106) rfl (l' := #[iv p1, iv p2, iv p3, iv p4, iv p5, rv b1, rv b8, rv b15, rv b17, iv (1 : Int32), iv (1 : Int32), iv (p3 &&& (2147483647 : Int32)), .unset, .unset, .unset, .unset]) rfl (XS.iloadN X18.here hx rfl (hb hby at_108) rfl (X18.ldcI hx hown (mvT hZ (hw _ (List.mem_of_getElem? (i := 30) rfl))) (g := (mkF m 109 #[iv p1, iv p2, iv p3, iv p4, iv p5, rv b1, rv b8, rv b15, rv b17, iv (1 : Int32), iv (1 : Int32), iv (p3 &&& (2147483647 : Int32)), .unset, .unset, .unset, .unset] [(.int p4)])) rfl (hb hby at_109) (XS.iand X18.here hx rfl (hb hby at_111) rfl (XS.istore X18.here hx rfl (hb hby at_112) rfl (l' := #[iv p1, iv p2, iv p3, iv p4, iv p5, rv b1, rv b8, rv b15, rv b17, iv (1 : Int32), iv (1 : Int32), iv (p3 &&& (2147483647 : Int32)), iv (p4 &&& (2147483647 : Int32)), .unset, .unset, .unset]) rfl zk))))))))))))) ?_
      show own_Go p e below s _ _ _ (T18.setTop (mkF m 114 #[iv p1, iv p2, iv p3, iv p4, iv p5, rv b1, rv b8, rv b15, rv b17, iv (1 : Int32), iv (1 : Int32), iv (p3 &&& (2147483647 : Int32)), iv (p4 &&& (2147483647 : Int32)), .unset, .unset, .unset] []))
      refine own_go (fun zt zk => (XS.iload X18.here hx rfl (hb hby at_114) rfl (XS.ifNo X18.here hx rfl (hb hby at_116) rfl ((if0 _ _).trans (feq ((by decide) : ¬ ((1 : Int32) = (0 : Int32)))).1) (XS.aload X18.here hx rfl (hb hby at_119) rfl rfl (XS.aload X18.here hx rfl (hb hby at_121) rfl rfl zk))))) ?_
      show own_Go p e below s _ _ _ (T18.setTop (mkF m 123 #[iv p1, iv p2, iv p3, iv p4, iv p5, rv b1, rv b8, rv b15, rv b17, iv (1 : Int32), iv (1 : Int32), iv (p3 &&& (2147483647 : Int32)), iv (p4 &&& (2147483647 : Int32)), .unset, .unset, .unset] [(.ref b17), (.ref b15)]))
      obtain ⟨T62, h62, X62, e62, E62, A62, D62, -, st62⟩ := newO X18 hx hZ hown (hw _ (List.mem_of_getElem? (i := 91) rfl)) (hw _ (List.mem_of_getElem? (i := 92) rfl)) (hw _ (List.mem_of_getElem? (i := 93) rfl)) rfl (g := (mkF m 123 #[iv p1, iv p2, iv p3, iv p4, iv p5, rv b1, rv b8, rv b15, rv b17, iv (1 : Int32), iv (1 : Int32), iv (p3 &&& (2147483647 : Int32)), iv (p4 &&& (2147483647 : Int32)), .unset, .unset, .unset] [(.ref b17), (.ref b15)])) rfl (hb hby at_123) (by decide) (by decide)
      obtain ⟨b62, g62⟩ : ∃ z, z = T18.heap.size := ⟨_, rfl⟩
      rw [← g62] at A62 D62 st62
      refine own_go st62 ?_
      have ne_o_EMPTY_b62 : o_EMPTY ≠ b62 := Nat.ne_of_lt (Nat.lt_of_lt_of_le (Ex_o_EMPTY.ext O.2).lt (Nat.le_of_eq g62.symm))
      have ne_b1_b62 : b1 ≠ b62 := Nat.ne_of_lt (Nat.lt_of_lt_of_le V_b1.lt (Nat.le_of_eq g62.symm))
      have ne_b8_b62 : b8 ≠ b62 := Nat.ne_of_lt (Nat.lt_of_lt_of_le V_b8.lt (Nat.le_of_eq g62.symm))
      have ne_b15_b62 : b15 ≠ b62 := Nat.ne_of_lt (Nat.lt_of_lt_of_le Ex_b15.lt (Nat.le_of_eq g62.symm))
      have ne_t16_b62 : t16 ≠ b62 := Nat.ne_of_lt (Nat.lt_of_lt_of_le Vt16.lt (Nat.le_of_eq g62.symm))
      have ne_b17_b62 : b17 ≠ b62 := Nat.ne_of_lt (Nat.lt_of_lt_of_le Ex_b17.lt (Nat.le_of_eq g62.symm))
      have ne_t18_b62 : t18 ≠ b62 := Nat.ne_of_lt (Nat.lt_of_lt_of_le Vt18.lt (Nat.le_of_eq g62.symm))
      have sz_b62 : h0.size ≤ b62 := Nat.le_trans Kp.1 (Nat.le_of_eq g62.symm)
      have g_b62 : n0 ≤ b62 := Nat.le_trans Z0 sz_b62
      replace O := O.ext E62
      replace Kp := Kp.ext E62
      replace V_b1 := V_b1.ext E62
      replace Ea_b1 := Ea_b1.ext E62
      replace V_b8 := V_b8.ext E62
      replace Ea_b8 := Ea_b8.ext E62
      replace Ex_b15 := Ex_b15.ext E62
      replace Fc16 := Fc16.ext E62
      replace Fv16 := Fv16.ext E62
      replace Vt16 := Vt16.ext E62
      replace Ex_b17 := Ex_b17.ext E62
      replace Fc18 := Fc18.ext E62
      replace Fv18 := Fv18.ext E62
      replace Vt18 := Vt18.ext E62
      have Ex_b62 := A62
      have F_start_b62 : Fld Z h62 b62 "com/example/tranche/tranche/model/Span" "start" "I" (.int (0 : Int32)) := D62 (Or.inr (hw _ (List.mem_of_getElem? (i := 106) rfl))) (ty := .int) (by decide)
      have F_end_b62 : Fld Z h62 b62 "com/example/tranche/tranche/model/Span" "end" "I" (.int (0 : Int32)) := D62 (Or.inr (hw _ (List.mem_of_getElem? (i := 108) rfl))) (ty := .int) (by decide)
      show own_Go p e below s _ _ _ (T62.setTop (mkF m 126 #[iv p1, iv p2, iv p3, iv p4, iv p5, rv b1, rv b8, rv b15, rv b17, iv (1 : Int32), iv (1 : Int32), iv (p3 &&& (2147483647 : Int32)), iv (p4 &&& (2147483647 : Int32)), .unset, .unset, .unset] [(.ref b62), (.ref b17), (.ref b15)]))
      refine own_go (fun zt zk => (XS.dup X62.here hx rfl (hb hby at_126) rfl rfl (XS.iload X62.here hx rfl (hb hby at_127) rfl (XS.iload X62.here hx rfl (hb hby at_129) rfl zk)))) ?_
      show own_Go p e below s _ _ _ (T62.setTop (mkF m 131 #[iv p1, iv p2, iv p3, iv p4, iv p5, rv b1, rv b8, rv b15, rv b17, iv (1 : Int32), iv (1 : Int32), iv (p3 &&& (2147483647 : Int32)), iv (p4 &&& (2147483647 : Int32)), .unset, .unset, .unset] [(.int (p4 &&& (2147483647 : Int32))), (.int (p3 &&& (2147483647 : Int32))), (.ref b62), (.ref b62), (.ref b17), (.ref b15)]))
      obtain ⟨_, _, ⟨T63, L63, k63, n63⟩, -, X63, ⟨Lc63, hQ63, l63, y63, z63⟩, st63⟩ := Jvm.LawKit.callS X62 hx (y := (⟨"java/lang/Math", "min", "(II)I"⟩ : MethodName)) hown (mvT hZ (hw _ (List.mem_of_getElem? (i := 94) rfl))) (mvT hZ (hw _ (List.mem_of_getElem? (i := 95) rfl))) (mvT hZ (hw _ (List.mem_of_getElem? (i := 96) rfl))) (mvT hZ (hw _ (List.mem_of_getElem? (i := 97) rfl))) (by decide) (backOf (W := 4) (own_rmin l Z a0 hw [] (p3 &&& (2147483647 : Int32)) (p4 &&& (2147483647 : Int32))  h62 n0 (Nat.le_trans Z0 Kp.1) ) hZ (hw _ (List.mem_of_getElem? (i := 97) rfl)) (hw _ (List.mem_of_getElem? (i := 96) rfl)) (by decide) (by decide)) (g := (mkF m 131 #[iv p1, iv p2, iv p3, iv p4, iv p5, rv b1, rv b8, rv b15, rv b17, iv (1 : Int32), iv (1 : Int32), iv (p3 &&& (2147483647 : Int32)), iv (p4 &&& (2147483647 : Int32)), .unset, .unset, .unset] [(.int (p4 &&& (2147483647 : Int32))), (.int (p3 &&& (2147483647 : Int32))), (.ref b62), (.ref b62), (.ref b17), (.ref b15)])) rfl (by rw [hml]; rfl) (argsL := [(.int (p3 &&& (2147483647 : Int32))), (.int (p4 &&& (2147483647 : Int32)))]) (rest := [(.ref b62), (.ref b62), (.ref b17), (.ref b15)]) (lenOf own_pd__II_I rfl) rfl (by show 2 * 0 + _ ≤ _; exact Nat.le_of_eq rfl) (hb hby at_131) (fun _ _ => ⟨rfl, e62, (by decide : 7 + 0 ≤ _), (by decide : 18 + 0 ≤ _)⟩)
      dsimp only [Pt.U, Pt.locs, Pt.cells, Pt.slots] at X63 l63 y63 z63 st63 hQ63
      subst y63 z63
      replace X63 := X63.mono (Nat.le_of_ble_eq_true rfl : _ ≤ 7) (Nat.le_of_ble_eq_true rfl : _ ≤ 18)
      obtain ⟨rfl, Nq63, e63⟩ := hQ63
      have N63 : Fr n0 L63 := by rw [l63]; exact Fr.app N18 Nq63
      refine own_go st63 ?_
      show own_Go p e below s _ _ _ (T63.setTop (mkF m 134 #[iv p1, iv p2, iv p3, iv p4, iv p5, rv b1, rv b8, rv b15, rv b17, iv (1 : Int32), iv (1 : Int32), iv (p3 &&& (2147483647 : Int32)), iv (p4 &&& (2147483647 : Int32)), .unset, .unset, .unset] [(.int (own_min (p3 &&& (2147483647 : Int32)) (p4 &&& (2147483647 : Int32)))), (.ref b62), (.ref b62), (.ref b17), (.ref b15)]))
      refine own_go (fun zt zk => (XS.iload X63.here hx rfl (hb hby at_134) rfl (XS.iload X63.here hx rfl (hb hby at_136) rfl zk))) ?_
      show own_Go p e below s _ _ _ (T63.setTop (mkF m 138 #[iv p1, iv p2, iv p3, iv p4, iv p5, rv b1, rv b8, rv b15, rv b17, iv (1 : Int32), iv (1 : Int32), iv (p3 &&& (2147483647 : Int32)), iv (p4 &&& (2147483647 : Int32)), .unset, .unset, .unset] [(.int (p4 &&& (2147483647 : Int32))), (.int (p3 &&& (2147483647 : Int32))), (.int (own_min (p3 &&& (2147483647 : Int32)) (p4 &&& (2147483647 : Int32)))), (.ref b62), (.ref b62), (.ref b17), (.ref b15)]))
      obtain ⟨_, _, ⟨T64, L64, k64, n64⟩, -, X64, ⟨Lc64, hQ64, l64, y64, z64⟩, st64⟩ := Jvm.LawKit.callS X63 hx (y := (⟨"java/lang/Math", "max", "(II)I"⟩ : MethodName)) hown (mvT hZ (hw _ (List.mem_of_getElem? (i := 98) rfl))) (mvT hZ (hw _ (List.mem_of_getElem? (i := 99) rfl))) (mvT hZ (hw _ (List.mem_of_getElem? (i := 96) rfl))) (mvT hZ (hw _ (List.mem_of_getElem? (i := 100) rfl))) (by decide) (backOf (W := 5) (own_rmax l Z a0 hw [] (p3 &&& (2147483647 : Int32)) (p4 &&& (2147483647 : Int32))  h62 n0 (Nat.le_trans Z0 Kp.1) ) hZ (hw _ (List.mem_of_getElem? (i := 100) rfl)) (hw _ (List.mem_of_getElem? (i := 96) rfl)) (by decide) (by decide)) (g := (mkF m 138 #[iv p1, iv p2, iv p3, iv p4, iv p5, rv b1, rv b8, rv b15, rv b17, iv (1 : Int32), iv (1 : Int32), iv (p3 &&& (2147483647 : Int32)), iv (p4 &&& (2147483647 : Int32)), .unset, .unset, .unset] [(.int (p4 &&& (2147483647 : Int32))), (.int (p3 &&& (2147483647 : Int32))), (.int (own_min (p3 &&& (2147483647 : Int32)) (p4 &&& (2147483647 : Int32)))), (.ref b62), (.ref b62), (.ref b17), (.ref b15)])) rfl (by rw [hml]; rfl) (argsL := [(.int (p3 &&& (2147483647 : Int32))), (.int (p4 &&& (2147483647 : Int32)))]) (rest := [(.int (own_min (p3 &&& (2147483647 : Int32)) (p4 &&& (2147483647 : Int32)))), (.ref b62), (.ref b62), (.ref b17), (.ref b15)]) (lenOf own_pd__II_I rfl) rfl (by show 2 * 0 + _ ≤ _; exact Nat.le_of_eq rfl) (hb hby at_138) (fun _ _ => ⟨rfl, e63, (by decide : 7 + 0 ≤ _), (by decide : 18 + 0 ≤ _)⟩)
      dsimp only [Pt.U, Pt.locs, Pt.cells, Pt.slots] at X64 l64 y64 z64 st64 hQ64
      subst y64 z64
      replace X64 := X64.mono (Nat.le_of_ble_eq_true rfl : _ ≤ 7) (Nat.le_of_ble_eq_true rfl : _ ≤ 18)
      obtain ⟨rfl, Nq64, e64⟩ := hQ64
      have N64 : Fr n0 L64 := by rw [l64]; exact Fr.app N63 Nq64
      refine own_go st64 ?_
      show own_Go p e below s _ _ _ (T64.setTop (mkF m 141 #[iv p1, iv p2, iv p3, iv p4, iv p5, rv b1, rv b8, rv b15, rv b17, iv (1 : Int32), iv (1 : Int32), iv (p3 &&& (2147483647 : Int32)), iv (p4 &&& (2147483647 : Int32)), .unset, .unset, .unset] [(.int (own_max (p3 &&& (2147483647 : Int32)) (p4 &&& (2147483647 : Int32)))), (.int (own_min (p3 &&& (2147483647 : Int32)) (p4 &&& (2147483647 : Int32)))), (.ref b62), (.ref b62), (.ref b17), (.ref b15)]))
      obtain ⟨_, _, ⟨T65, L65, k65, n65⟩, -, X65, ⟨Lc65, hQ65, l65, y65, z65⟩, st65⟩ := X64.specialBack hx (y := (⟨"com/example/tranche/tranche/model/Span", "<init>", "(II)V"⟩ : MethodName)) rfl hown (mvT hZ (hw _ (List.mem_of_getElem? (i := 101) rfl))) (mvT hZ (hw _ (List.mem_of_getElem? (i := 102) rfl))) (mvT hZ (hw _ (List.mem_of_getElem? (i := 103) rfl))) (by decide) (backOf (W := 3) (own_rspan l Z a0 hw [] b62 (own_min (p3 &&& (2147483647 : Int32)) (p4 &&& (2147483647 : Int32))) (own_max (p3 &&& (2147483647 : Int32)) (p4 &&& (2147483647 : Int32)))  h62 n0 (Nat.le_trans Z0 Kp.1) Ex_b62 F_start_b62 F_end_b62 g_b62 (own_min_nn (own_nn _) (own_nn _)) (own_mm _ _)) hZ (hw _ (List.mem_of_getElem? (i := 103) rfl)) (hw _ (List.mem_of_getElem? (i := 93) rfl)) (by decide) (by decide)) (g := (mkF m 141 #[iv p1, iv p2, iv p3, iv p4, iv p5, rv b1, rv b8, rv b15, rv b17, iv (1 : Int32), iv (1 : Int32), iv (p3 &&& (2147483647 : Int32)), iv (p4 &&& (2147483647 : Int32)), .unset, .unset, .unset] [(.int (own_max (p3 &&& (2147483647 : Int32)) (p4 &&& (2147483647 : Int32)))), (.int (own_min (p3 &&& (2147483647 : Int32)) (p4 &&& (2147483647 : Int32)))), (.ref b62), (.ref b62), (.ref b17), (.ref b15)])) rfl (by rw [hml]; rfl) (Steps.refl _) (a := b62) (argsL := [(.int (own_min (p3 &&& (2147483647 : Int32)) (p4 &&& (2147483647 : Int32)))), (.int (own_max (p3 &&& (2147483647 : Int32)) (p4 &&& (2147483647 : Int32))))]) (rest := [(.ref b62), (.ref b17), (.ref b15)]) (lenOf own_pd__II_V rfl) rfl (by show 2 * 0 + _ ≤ _; exact Nat.le_of_eq rfl) (hb hby at_141) (fun _ _ => ⟨rfl, e64, (by decide : 7 + 0 ≤ _), (by decide : 18 + 0 ≤ _)⟩)
      dsimp only [Pt.U, Pt.locs, Pt.cells, Pt.slots] at X65 l65 y65 z65 st65 hQ65
      subst y65 z65
      replace X65 := X65.mono (Nat.le_of_ble_eq_true rfl : _ ≤ 7) (Nat.le_of_ble_eq_true rfl : _ ≤ 18)
      obtain ⟨rfl, Nq65, K65, -, F_start_b62, F_end_b62⟩ := hQ65
      have N65 : Fr n0 L65 := by rw [l65]; exact Fr.app N64 Nq65
      refine own_go (fun zt zk => st65.trans zk) ?_
      replace O := O.keep K65 (allS g_b62 all0)
      replace Kp := Kp.trans K65 (allS (Or.inr sz_b62) all0)
      replace V_b1 := V_b1.keep K65 (ninS ne_b1_b62 nin0)
      replace Ea_b1 := Ea_b1.keep K65
      replace V_b8 := V_b8.keep K65 (ninS ne_b8_b62 nin0)
      replace Ea_b8 := Ea_b8.keep K65
      replace Ex_b15 := Ex_b15.keep K65
      replace Fc16 := Fc16.keep K65 (ninS ne_b15_b62 nin0)
      replace Fv16 := Fv16.keep K65 (ninS ne_b15_b62 nin0)
      replace Vt16 := Vt16.keep K65 (ninS ne_t16_b62 nin0)
      replace Ex_b17 := Ex_b17.keep K65
      replace Fc18 := Fc18.keep K65 (ninS ne_b17_b62 nin0)
      replace Fv18 := Fv18.keep K65 (ninS ne_b17_b62 nin0)
      replace Vt18 := Vt18.keep K65 (ninS ne_t18_b62 nin0)
      replace Ex_b62 := Ex_b62.keep K65
      show own_Go p e below s _ _ _ (T65.setTop (mkF m 144 #[iv p1, iv p2, iv p3, iv p4, iv p5, rv b1, rv b8, rv b15, rv b17, iv (1 : Int32), iv (1 : Int32), iv (p3 &&& (2147483647 : Int32)), iv (p4 &&& (2147483647 : Int32)), .unset, .unset, .unset] [(.ref b62), (.ref b17), (.ref b15)]))
      obtain ⟨_, _, ⟨T66, L66, k66, n66⟩, -, X66, ⟨Lc66, hQ66, l66, y66, z66⟩, st66⟩ := Jvm.LawKit.callS X65 hx (y := (⟨"com/example/tranche/tranche/model/Row$Field", "stated", "(Ljava/lang/String;Ljava/lang/String;Lcom/example/tranche/tranche/model/Span;)Lcom/example/tranche/tranche/model/Row$Field;"⟩ : MethodName)) hown (mvT hZ (hw _ (List.mem_of_getElem? (i := 109) rfl))) (mvT hZ (hw _ (List.mem_of_getElem? (i := 110) rfl))) (mvT hZ (hw _ (List.mem_of_getElem? (i := 33) rfl))) (mvT hZ (hw _ (List.mem_of_getElem? (i := 111) rfl))) (by decide) (backOf (W := 0) (own_rstated l Z a0 hw [] b15 b17 b62  T65.heap n0 (Nat.le_trans Z0 Kp.1) ) hZ (hw _ (List.mem_of_getElem? (i := 111) rfl)) (hw _ (List.mem_of_getElem? (i := 33) rfl)) (by decide) (by decide)) (g := (mkF m 144 #[iv p1, iv p2, iv p3, iv p4, iv p5, rv b1, rv b8, rv b15, rv b17, iv (1 : Int32), iv (1 : Int32), iv (p3 &&& (2147483647 : Int32)), iv (p4 &&& (2147483647 : Int32)), .unset, .unset, .unset] [(.ref b62), (.ref b17), (.ref b15)])) rfl (by rw [hml]; rfl) (argsL := [(.ref b15), (.ref b17), (.ref b62)]) (rest := []) (lenOf own_pd__Ljava_lang_String_Ljava_lang_String_Lcom_example_tranche_tranche_model_Span__Lcom_example_tranche_tranche_model_Row_Field_ rfl) rfl (by show 2 * 0 + _ ≤ _; exact Nat.le_of_eq rfl) (hb hby at_144) (fun _ _ => ⟨rfl, rfl, (by decide : 7 + 2 ≤ _), (by decide : 18 + 5 ≤ _)⟩)
      dsimp only [Pt.U, Pt.locs, Pt.cells, Pt.slots] at X66 l66 y66 z66 st66 hQ66
      subst y66 z66
      replace X66 := X66.mono (Nat.le_of_ble_eq_true rfl : _ ≤ 9) (Nat.le_of_ble_eq_true rfl : _ ≤ 23)
      obtain ⟨b66, op66, rfl, Nq66, K66, sb66, Ex_b66, Fn66, Ft66, Fs66, Fz66⟩ := hQ66
      have N66 : Fr n0 L66 := by rw [l66]; exact Fr.app N65 Nq66
      refine own_go st66 ?_
      replace O := O.keep K66 all0
      replace Kp := Kp.trans K66 all0
      replace V_b1 := V_b1.keep K66 nin0
      replace Ea_b1 := Ea_b1.keep K66
      replace V_b8 := V_b8.keep K66 nin0
      replace Ea_b8 := Ea_b8.keep K66
      replace Ex_b15 := Ex_b15.keep K66
      replace Fc16 := Fc16.keep K66 nin0
      replace Fv16 := Fv16.keep K66 nin0
      replace Vt16 := Vt16.keep K66 nin0
      replace Ex_b17 := Ex_b17.keep K66
      replace Fc18 := Fc18.keep K66 nin0
      replace Fv18 := Fv18.keep K66 nin0
      replace Vt18 := Vt18.keep K66 nin0
      replace Ex_b62 := Ex_b62.keep K66
      replace F_start_b62 := F_start_b62.keep K66 nin0
      replace F_end_b62 := F_end_b62.keep K66 nin0
      show own_Go p e below s _ _ _ (T66.setTop (mkF m 147 #[iv p1, iv p2, iv p3, iv p4, iv p5, rv b1, rv b8, rv b15, rv b17, iv (1 : Int32), iv (1 : Int32), iv (p3 &&& (2147483647 : Int32)), iv (p4 &&& (2147483647 : Int32)), .unset, .unset, .unset] [(.ref b66)]))
      refine own_go (fun zt zk => (XS.astore X66.here hx rfl (hb hby at_147) rfl rfl (l' := #[iv p1, iv p2, iv p3, iv p4, iv p5, rv b1, rv b8, rv b15, rv b17, iv (1 : Int32), iv (1 : Int32), iv (p3 &&& (2147483647 : Int32)), iv (p4 &&& (2147483647 : Int32)), rv b66, .unset, .unset]) rfl (XS.goto X66.here hx rfl (pc0 := 149) (pc' := 161) rfl (hb hby at_149) (by decide) (by decide) zk))) ?_
      show own_Go p e below s _ _ _ (T66.setTop (mkF m 161 #[iv p1, iv p2, iv p3, iv p4, iv p5, rv b1, rv b8, rv b15, rv b17, iv (1 : Int32), iv (1 : Int32), iv (p3 &&& (2147483647 : Int32)), iv (p4 &&& (2147483647 : Int32)), rv b66, .unset, .unset] []))
      obtain ⟨T67, h67, X67, e67, E67, A67, D67, -, st67⟩ := newO X66 hx hZ hown (hw _ (List.mem_of_getElem? (i := 59) rfl)) (hw _ (List.mem_of_getElem? (i := 36) rfl)) (hw _ (List.mem_of_getElem? (i := 33) rfl)) rfl (g := (mkF m 161 #[iv p1, iv p2, iv p3, iv p4, iv p5, rv b1, rv b8, rv b15, rv b17, iv (1 : Int32), iv (1 : Int32), iv (p3 &&& (2147483647 : Int32)), iv (p4 &&& (2147483647 : Int32)), rv b66, .unset, .unset] [])) rfl (hb hby at_161) (by decide) (by decide)
      obtain ⟨b67, g67⟩ : ∃ z, z = T66.heap.size := ⟨_, rfl⟩
      rw [← g67] at A67 D67 st67
      refine own_go st67 ?_
      have ne_o_EMPTY_b67 : o_EMPTY ≠ b67 := Nat.ne_of_lt (Nat.lt_of_lt_of_le (Ex_o_EMPTY.ext O.2).lt (Nat.le_of_eq g67.symm))
      have ne_b1_b67 : b1 ≠ b67 := Nat.ne_of_lt (Nat.lt_of_lt_of_le V_b1.lt (Nat.le_of_eq g67.symm))
      have ne_b8_b67 : b8 ≠ b67 := Nat.ne_of_lt (Nat.lt_of_lt_of_le V_b8.lt (Nat.le_of_eq g67.symm))
      have ne_b15_b67 : b15 ≠ b67 := Nat.ne_of_lt (Nat.lt_of_lt_of_le Ex_b15.lt (Nat.le_of_eq g67.symm))
      have ne_t16_b67 : t16 ≠ b67 := Nat.ne_of_lt (Nat.lt_of_lt_of_le Vt16.lt (Nat.le_of_eq g67.symm))
      have ne_b17_b67 : b17 ≠ b67 := Nat.ne_of_lt (Nat.lt_of_lt_of_le Ex_b17.lt (Nat.le_of_eq g67.symm))
      have ne_t18_b67 : t18 ≠ b67 := Nat.ne_of_lt (Nat.lt_of_lt_of_le Vt18.lt (Nat.le_of_eq g67.symm))
      have ne_b62_b67 : b62 ≠ b67 := Nat.ne_of_lt (Nat.lt_of_lt_of_le Ex_b62.lt (Nat.le_of_eq g67.symm))
      have ne_b66_b67 : b66 ≠ b67 := Nat.ne_of_lt (Nat.lt_of_lt_of_le Ex_b66.lt (Nat.le_of_eq g67.symm))
      have sz_b67 : h0.size ≤ b67 := Nat.le_trans Kp.1 (Nat.le_of_eq g67.symm)
      have g_b67 : n0 ≤ b67 := Nat.le_trans Z0 sz_b67
      replace O := O.ext E67
      replace Kp := Kp.ext E67
      replace V_b1 := V_b1.ext E67
      replace Ea_b1 := Ea_b1.ext E67
      replace V_b8 := V_b8.ext E67
      replace Ea_b8 := Ea_b8.ext E67
      replace Ex_b15 := Ex_b15.ext E67
      replace Fc16 := Fc16.ext E67
      replace Fv16 := Fv16.ext E67
      replace Vt16 := Vt16.ext E67
      replace Ex_b17 := Ex_b17.ext E67
      replace Fc18 := Fc18.ext E67
      replace Fv18 := Fv18.ext E67
      replace Vt18 := Vt18.ext E67
      replace Ex_b62 := Ex_b62.ext E67
      replace F_start_b62 := F_start_b62.ext E67
      replace F_end_b62 := F_end_b62.ext E67
      replace Ex_b66 := Ex_b66.ext E67
      replace Fn66 := Fn66.ext E67
      replace Ft66 := Ft66.ext E67
      replace Fs66 := Fs66.ext E67
      replace Fz66 := Fz66.ext E67
      have Ex_b67 := A67
      have F_name_b67 : Fld Z h67 b67 "com/example/tranche/tranche/model/Row$Field" "name" "Ljava/lang/String;" .null := D67 (Or.inr (hw _ (List.mem_of_getElem? (i := 52) rfl))) (ty := (.object "java/lang/String")) (by decide)
      have F_text_b67 : Fld Z h67 b67 "com/example/tranche/tranche/model/Row$Field" "text" "Ljava/lang/String;" .null := D67 (Or.inr (hw _ (List.mem_of_getElem? (i := 54) rfl))) (ty := (.object "java/lang/String")) (by decide)
      have F_span_b67 : Fld Z h67 b67 "com/example/tranche/tranche/model/Row$Field" "span" "Ljava/util/Optional;" .null := D67 (Or.inr (hw _ (List.mem_of_getElem? (i := 56) rfl))) (ty := (.object "java/util/Optional")) (by decide)
      have F_spanFirst_b67 : Fld Z h67 b67 "com/example/tranche/tranche/model/Row$Field" "spanFirst" "Z" (.int (0 : Int32)) := D67 (Or.inr (hw _ (List.mem_of_getElem? (i := 58) rfl))) (ty := .boolean) (by decide)
      show own_Go p e below s _ _ _ (T67.setTop (mkF m 164 #[iv p1, iv p2, iv p3, iv p4, iv p5, rv b1, rv b8, rv b15, rv b17, iv (1 : Int32), iv (1 : Int32), iv (p3 &&& (2147483647 : Int32)), iv (p4 &&& (2147483647 : Int32)), rv b66, .unset, .unset] [(.ref b67)]))
      refine own_go (fun zt zk => (XS.dup X67.here hx rfl (hb hby at_164) rfl rfl (XS.aload X67.here hx rfl (hb hby at_165) rfl rfl (XS.aload X67.here hx rfl (hb hby at_167) rfl rfl (XS.aload X67.here hx rfl (hb hby at_169) rfl rfl zk))))) ?_
      show own_Go p e below s _ _ _ (T67.setTop (mkF m 171 #[iv p1, iv p2, iv p3, iv p4, iv p5, rv b1, rv b8, rv b15, rv b17, iv (1 : Int32), iv (1 : Int32), iv (p3 &&& (2147483647 : Int32)), iv (p4 &&& (2147483647 : Int32)), rv b66, .unset, .unset] [(.ref b66), (.ref b17), (.ref b15), (.ref b67), (.ref b67)]))
      obtain ⟨cq68, kq68, qa68, qb68, qc68⟩ := isOf hZ e67 Ex_b66
      obtain ⟨_, _, ⟨T68, L68, k68, n68⟩, -, X68, ⟨Lc68, hQ68, l68, y68, z68⟩, st68⟩ := X67.virtualBack hx (y := (⟨"com/example/tranche/tranche/model/Row$Field", "span", "()Ljava/util/Optional;"⟩ : MethodName)) (z := (⟨"com/example/tranche/tranche/model/Row$Field", "span", "()Ljava/util/Optional;"⟩ : MethodName)) hown (mvT hZ (hw _ (List.mem_of_getElem? (i := 60) rfl))) (mvT hZ (hw _ (List.mem_of_getElem? (i := 61) rfl))) (notFace_of_selects (args := #[]) (mvT hZ (hw _ (List.mem_of_getElem? (i := 63) rfl)))) (mvT hZ (hw _ (List.mem_of_getElem? (i := 63) rfl))) (mvT hZ (hw _ (List.mem_of_getElem? (i := 62) rfl))) (by decide) (backOf (W := 4) (own_gspan l Z a0 hw [] b66 op66 h67 n0 (Nat.le_trans Z0 Kp.1) Fs66) hZ (hw _ (List.mem_of_getElem? (i := 64) rfl)) (hw _ (List.mem_of_getElem? (i := 33) rfl)) (by decide) (by decide)) qa68 qc68 (g := (mkF m 171 #[iv p1, iv p2, iv p3, iv p4, iv p5, rv b1, rv b8, rv b15, rv b17, iv (1 : Int32), iv (1 : Int32), iv (p3 &&& (2147483647 : Int32)), iv (p4 &&& (2147483647 : Int32)), rv b66, .unset, .unset] [(.ref b66), (.ref b17), (.ref b15), (.ref b67), (.ref b67)])) rfl (by rw [hml]; rfl) (Steps.refl _) (argsL := []) (rest := [(.ref b17), (.ref b15), (.ref b67), (.ref b67)]) (lenOf own_pd___Ljava_util_Optional_ rfl) rfl (by show 2 * 0 + _ ≤ _; exact Nat.le_of_eq rfl) (hb hby at_171) (fun _ _ => ⟨rfl, e67, (by decide : 10 + 0 ≤ _), (by decide : 27 + 0 ≤ _)⟩)
      dsimp only [Pt.U, Pt.locs, Pt.cells, Pt.slots] at X68 l68 y68 z68 st68 hQ68
      subst y68 z68
      replace X68 := X68.mono (Nat.le_of_ble_eq_true rfl : _ ≤ 10) (Nat.le_of_ble_eq_true rfl : _ ≤ 27)
      obtain ⟨rfl, Nq68, e68⟩ := hQ68
      have N68 : Fr n0 L68 := by rw [l68]; exact Fr.app N66 Nq68
      refine own_go (fun zt zk => st68.trans zk) ?_
      show own_Go p e below s _ _ _ (T68.setTop (mkF m 174 #[iv p1, iv p2, iv p3, iv p4, iv p5, rv b1, rv b8, rv b15, rv b17, iv (1 : Int32), iv (1 : Int32), iv (p3 &&& (2147483647 : Int32)), iv (p4 &&& (2147483647 : Int32)), rv b66, .unset, .unset] [(.ref op66), (.ref b17), (.ref b15), (.ref b67), (.ref b67)]))
      refine own_go (fun zt zk => (XS.iload X68.here hx rfl (hb hby at_174) rfl zk)) ?_
      show own_Go p e below s _ _ _ (T68.setTop (mkF m 176 #[iv p1, iv p2, iv p3, iv p4, iv p5, rv b1, rv b8, rv b15, rv b17, iv (1 : Int32), iv (1 : Int32), iv (p3 &&& (2147483647 : Int32)), iv (p4 &&& (2147483647 : Int32)), rv b66, .unset, .unset] [(.int (1 : Int32)), (.ref op66), (.ref b17), (.ref b15), (.ref b67), (.ref b67)]))
      obtain ⟨_, _, ⟨T69, L69, k69, n69⟩, -, X69, ⟨Lc69, hQ69, l69, y69, z69⟩, st69⟩ := X68.specialBack hx (y := (⟨"com/example/tranche/tranche/model/Row$Field", "<init>", "(Ljava/lang/String;Ljava/lang/String;Ljava/util/Optional;Z)V"⟩ : MethodName)) rfl hown (mvT hZ (hw _ (List.mem_of_getElem? (i := 65) rfl))) (mvT hZ (hw _ (List.mem_of_getElem? (i := 43) rfl))) (mvT hZ (hw _ (List.mem_of_getElem? (i := 44) rfl))) (by decide) (backOf (W := 1) (own_rfld1 l Z a0 hw [] b67 b15 b17 op66  h67 n0 (Nat.le_trans Z0 Kp.1) Ex_b67 F_name_b67 F_text_b67 F_span_b67 F_spanFirst_b67 g_b67 ) hZ (hw _ (List.mem_of_getElem? (i := 44) rfl)) (hw _ (List.mem_of_getElem? (i := 33) rfl)) (by decide) (by decide)) (g := (mkF m 176 #[iv p1, iv p2, iv p3, iv p4, iv p5, rv b1, rv b8, rv b15, rv b17, iv (1 : Int32), iv (1 : Int32), iv (p3 &&& (2147483647 : Int32)), iv (p4 &&& (2147483647 : Int32)), rv b66, .unset, .unset] [(.int (1 : Int32)), (.ref op66), (.ref b17), (.ref b15), (.ref b67), (.ref b67)])) rfl (by rw [hml]; rfl) (Steps.refl _) (a := b67) (argsL := [(.ref b15), (.ref b17), (.ref op66), (.int (1 : Int32))]) (rest := [(.ref b67)]) (lenOf own_pd__Ljava_lang_String_Ljava_lang_String_Ljava_util_Optional_Z_V rfl) rfl (by show 2 * 0 + _ ≤ _; exact Nat.le_of_eq rfl) (hb hby at_176) (fun _ _ => ⟨rfl, e68, (by decide : 10 + 0 ≤ _), (by decide : 27 + 0 ≤ _)⟩)
      dsimp only [Pt.U, Pt.locs, Pt.cells, Pt.slots] at X69 l69 y69 z69 st69 hQ69
      subst y69 z69
      replace X69 := X69.mono (Nat.le_of_ble_eq_true rfl : _ ≤ 10) (Nat.le_of_ble_eq_true rfl : _ ≤ 27)
      obtain ⟨rfl, Nq69, K69, -, F_name_b67, F_text_b67, F_span_b67, F_spanFirst_b67⟩ := hQ69
      have N69 : Fr n0 L69 := by rw [l69]; exact Fr.app N68 Nq69
      refine own_go (fun zt zk => st69.trans zk) ?_
      replace O := O.keep K69 (allS g_b67 all0)
      replace Kp := Kp.trans K69 (allS (Or.inr sz_b67) all0)
      replace V_b1 := V_b1.keep K69 (ninS ne_b1_b67 nin0)
      replace Ea_b1 := Ea_b1.keep K69
      replace V_b8 := V_b8.keep K69 (ninS ne_b8_b67 nin0)
      replace Ea_b8 := Ea_b8.keep K69
      replace Ex_b15 := Ex_b15.keep K69
      replace Fc16 := Fc16.keep K69 (ninS ne_b15_b67 nin0)
      replace Fv16 := Fv16.keep K69 (ninS ne_b15_b67 nin0)
      replace Vt16 := Vt16.keep K69 (ninS ne_t16_b67 nin0)
      replace Ex_b17 := Ex_b17.keep K69
      replace Fc18 := Fc18.keep K69 (ninS ne_b17_b67 nin0)
      replace Fv18 := Fv18.keep K69 (ninS ne_b17_b67 nin0)
      replace Vt18 := Vt18.keep K69 (ninS ne_t18_b67 nin0)
      replace Ex_b62 := Ex_b62.keep K69
      replace F_start_b62 := F_start_b62.keep K69 (ninS ne_b62_b67 nin0)
      replace F_end_b62 := F_end_b62.keep K69 (ninS ne_b62_b67 nin0)
      replace Ex_b66 := Ex_b66.keep K69
      replace Fn66 := Fn66.keep K69 (ninS ne_b66_b67 nin0)
      replace Ft66 := Ft66.keep K69 (ninS ne_b66_b67 nin0)
      replace Fs66 := Fs66.keep K69 (ninS ne_b66_b67 nin0)
      replace Fz66 := Fz66.keep K69 (ninS ne_b66_b67 nin0)
      replace Ex_b67 := Ex_b67.keep K69
      show own_Go p e below s _ _ _ (T69.setTop (mkF m 179 #[iv p1, iv p2, iv p3, iv p4, iv p5, rv b1, rv b8, rv b15, rv b17, iv (1 : Int32), iv (1 : Int32), iv (p3 &&& (2147483647 : Int32)), iv (p4 &&& (2147483647 : Int32)), rv b66, .unset, .unset] [(.ref b67)]))
      refine own_go (fun zt zk => (XS.astore X69.here hx rfl (hb hby at_179) rfl rfl (l' := #[iv p1, iv p2, iv p3, iv p4, iv p5, rv b1, rv b8, rv b15, rv b17, iv (1 : Int32), iv (1 : Int32), iv (p3 &&& (2147483647 : Int32)), iv (p4 &&& (2147483647 : Int32)), rv b66, rv b67, .unset]) rfl (XS.aload X69.here hx rfl (hb hby at_181) rfl rfl zk))) ?_
      show own_Go p e below s _ _ _ (T69.setTop (mkF m 183 #[iv p1, iv p2, iv p3, iv p4, iv p5, rv b1, rv b8, rv b15, rv b17, iv (1 : Int32), iv (1 : Int32), iv (p3 &&& (2147483647 : Int32)), iv (p4 &&& (2147483647 : Int32)), rv b66, rv b67, .unset] [(.ref b67)]))
      obtain ⟨cq70, kq70, qa70, qb70, qc70⟩ := isOf hZ rfl Ex_b67
      obtain ⟨_, _, ⟨T70, L70, k70, n70⟩, -, X70, ⟨Lc70, hQ70, l70, y70, z70⟩, st70⟩ := X69.virtualBack hx (y := (⟨"com/example/tranche/tranche/model/Row$Field", "withSpanFirst", "()Lcom/example/tranche/tranche/model/Row$Field;"⟩ : MethodName)) (z := (⟨"com/example/tranche/tranche/model/Row$Field", "withSpanFirst", "()Lcom/example/tranche/tranche/model/Row$Field;"⟩ : MethodName)) hown (mvT hZ (hw _ (List.mem_of_getElem? (i := 66) rfl))) (mvT hZ (hw _ (List.mem_of_getElem? (i := 67) rfl))) (notFace_of_selects (args := #[]) (mvT hZ (hw _ (List.mem_of_getElem? (i := 69) rfl)))) (mvT hZ (hw _ (List.mem_of_getElem? (i := 69) rfl))) (mvT hZ (hw _ (List.mem_of_getElem? (i := 68) rfl))) (by decide) (backOf (W := 0) (own_rwsf l Z a0 hw [] b67 b15 b17 op66 T69.heap n0 (Nat.le_trans Z0 Kp.1) F_name_b67 F_text_b67 F_span_b67) hZ (hw _ (List.mem_of_getElem? (i := 70) rfl)) (hw _ (List.mem_of_getElem? (i := 33) rfl)) (by decide) (by decide)) qa70 qc70 (g := (mkF m 183 #[iv p1, iv p2, iv p3, iv p4, iv p5, rv b1, rv b8, rv b15, rv b17, iv (1 : Int32), iv (1 : Int32), iv (p3 &&& (2147483647 : Int32)), iv (p4 &&& (2147483647 : Int32)), rv b66, rv b67, .unset] [(.ref b67)])) rfl (by rw [hml]; rfl) (Steps.refl _) (argsL := []) (rest := []) (lenOf own_pd___Lcom_example_tranche_tranche_model_Row_Field_ rfl) rfl (by show 2 * 0 + _ ≤ _; exact Nat.le_of_eq rfl) (hb hby at_183) (fun _ _ => ⟨rfl, rfl, (by decide : 10 + 1 ≤ _), (by decide : 27 + 4 ≤ _)⟩)
      dsimp only [Pt.U, Pt.locs, Pt.cells, Pt.slots] at X70 l70 y70 z70 st70 hQ70
      subst y70 z70
      replace X70 := X70.mono (Nat.le_of_ble_eq_true rfl : _ ≤ 11) (Nat.le_of_ble_eq_true rfl : _ ≤ 31)
      obtain ⟨b70, rfl, Nq70, K70, sb70, Ex_b70, Fn70, Ft70, Fs70, Fz70⟩ := hQ70
      have N70 : Fr n0 L70 := by rw [l70]; exact Fr.app N69 Nq70
      refine own_go (fun zt zk => st70.trans zk) ?_
      replace O := O.keep K70 all0
      replace Kp := Kp.trans K70 all0
      replace V_b1 := V_b1.keep K70 nin0
      replace Ea_b1 := Ea_b1.keep K70
      replace V_b8 := V_b8.keep K70 nin0
      replace Ea_b8 := Ea_b8.keep K70
      replace Ex_b15 := Ex_b15.keep K70
      replace Fc16 := Fc16.keep K70 nin0
      replace Fv16 := Fv16.keep K70 nin0
      replace Vt16 := Vt16.keep K70 nin0
      replace Ex_b17 := Ex_b17.keep K70
      replace Fc18 := Fc18.keep K70 nin0
      replace Fv18 := Fv18.keep K70 nin0
      replace Vt18 := Vt18.keep K70 nin0
      replace Ex_b62 := Ex_b62.keep K70
      replace F_start_b62 := F_start_b62.keep K70 nin0
      replace F_end_b62 := F_end_b62.keep K70 nin0
      replace Ex_b66 := Ex_b66.keep K70
      replace Fn66 := Fn66.keep K70 nin0
      replace Ft66 := Ft66.keep K70 nin0
      replace Fs66 := Fs66.keep K70 nin0
      replace Fz66 := Fz66.keep K70 nin0
      replace Ex_b67 := Ex_b67.keep K70
      replace F_name_b67 := F_name_b67.keep K70 nin0
      replace F_text_b67 := F_text_b67.keep K70 nin0
      replace F_span_b67 := F_span_b67.keep K70 nin0
      replace F_spanFirst_b67 := F_spanFirst_b67.keep K70 nin0
      show own_Go p e below s _ _ _ (T70.setTop (mkF m 186 #[iv p1, iv p2, iv p3, iv p4, iv p5, rv b1, rv b8, rv b15, rv b17, iv (1 : Int32), iv (1 : Int32), iv (p3 &&& (2147483647 : Int32)), iv (p4 &&& (2147483647 : Int32)), rv b66, rv b67, .unset] [(.ref b70)]))
      refine own_go (fun zt zk => (XS.astore X70.here hx rfl (hb hby at_186) rfl rfl (l' := #[iv p1, iv p2, iv p3, iv p4, iv p5, rv b1, rv b8, rv b15, rv b17, iv (1 : Int32), iv (1 : Int32), iv (p3 &&& (2147483647 : Int32)), iv (p4 &&& (2147483647 : Int32)), rv b66, rv b67, rv b70]) rfl (XS.aload X70.here hx rfl (hb hby at_188) rfl rfl (XS.ifnullNo X70.here hx rfl (hb hby at_190) rfl (XS.aload X70.here hx rfl (hb hby at_193) rfl rfl zk))))) ?_
      show own_Go p e below s _ _ _ (T70.setTop (mkF m 195 #[iv p1, iv p2, iv p3, iv p4, iv p5, rv b1, rv b8, rv b15, rv b17, iv (1 : Int32), iv (1 : Int32), iv (p3 &&& (2147483647 : Int32)), iv (p4 &&& (2147483647 : Int32)), rv b66, rv b67, rv b70] [(.ref b70)]))
      obtain ⟨cq71, kq71, qa71, qb71, qc71⟩ := isOf hZ rfl Ex_b70
      obtain ⟨_, _, ⟨T71, L71, k71, n71⟩, -, X71, ⟨Lc71, hQ71, l71, y71, z71⟩, st71⟩ := X70.virtualBack hx (y := (⟨"com/example/tranche/tranche/model/Row$Field", "name", "()Ljava/lang/String;"⟩ : MethodName)) (z := (⟨"com/example/tranche/tranche/model/Row$Field", "name", "()Ljava/lang/String;"⟩ : MethodName)) hown (mvT hZ (hw _ (List.mem_of_getElem? (i := 71) rfl))) (mvT hZ (hw _ (List.mem_of_getElem? (i := 72) rfl))) (notFace_of_selects (args := #[]) (mvT hZ (hw _ (List.mem_of_getElem? (i := 74) rfl)))) (mvT hZ (hw _ (List.mem_of_getElem? (i := 74) rfl))) (mvT hZ (hw _ (List.mem_of_getElem? (i := 73) rfl))) (by decide) (backOf (W := 0) (own_gname l Z a0 hw [] b70 b15 T70.heap n0 (Nat.le_trans Z0 Kp.1) Fn70) hZ (hw _ (List.mem_of_getElem? (i := 75) rfl)) (hw _ (List.mem_of_getElem? (i := 33) rfl)) (by decide) (by decide)) qa71 qc71 (g := (mkF m 195 #[iv p1, iv p2, iv p3, iv p4, iv p5, rv b1, rv b8, rv b15, rv b17, iv (1 : Int32), iv (1 : Int32), iv (p3 &&& (2147483647 : Int32)), iv (p4 &&& (2147483647 : Int32)), rv b66, rv b67, rv b70] [(.ref b70)])) rfl (by rw [hml]; rfl) (Steps.refl _) (argsL := []) (rest := []) (lenOf own_pd___Ljava_lang_String_ rfl) rfl (by show 2 * 0 + _ ≤ _; exact Nat.le_of_eq rfl) (hb hby at_195) (fun _ _ => ⟨rfl, rfl, (by decide : 11 + 0 ≤ _), (by decide : 31 + 0 ≤ _)⟩)
      dsimp only [Pt.U, Pt.locs, Pt.cells, Pt.slots] at X71 l71 y71 z71 st71 hQ71
      subst y71 z71
      replace X71 := X71.mono (Nat.le_of_ble_eq_true rfl : _ ≤ 11) (Nat.le_of_ble_eq_true rfl : _ ≤ 31)
      obtain ⟨rfl, Nq71, e71⟩ := hQ71
      have N71 : Fr n0 L71 := by rw [l71]; exact Fr.app N70 Nq71
      refine own_go (fun zt zk => st71.trans zk) ?_
      show own_Go p e below s _ _ _ (T71.setTop (mkF m 198 #[iv p1, iv p2, iv p3, iv p4, iv p5, rv b1, rv b8, rv b15, rv b17, iv (1 : Int32), iv (1 : Int32), iv (p3 &&& (2147483647 : Int32)), iv (p4 &&& (2147483647 : Int32)), rv b66, rv b67, rv b70] [(.ref b15)]))
      refine own_go (fun zt zk => (XS.aload X71.here hx rfl (hb hby at_198) rfl rfl zk)) ?_
      show own_Go p e below s _ _ _ (T71.setTop (mkF m 200 #[iv p1, iv p2, iv p3, iv p4, iv p5, rv b1, rv b8, rv b15, rv b17, iv (1 : Int32), iv (1 : Int32), iv (p3 &&& (2147483647 : Int32)), iv (p4 &&& (2147483647 : Int32)), rv b66, rv b67, rv b70] [(.ref b15), (.ref b15)]))
      obtain ⟨cq72, kq72, qa72, qb72, qc72⟩ := isOf hZ e71 Ex_b15
      obtain ⟨_, _, ⟨T72, L72, k72, n72⟩, -, X72, ⟨Lc72, hQ72, l72, y72, z72⟩, st72⟩ := X71.virtualBack hx (y := (⟨"java/lang/String", "equals", "(Ljava/lang/Object;)Z"⟩ : MethodName)) (z := (⟨"java/lang/String", "equals", "(Ljava/lang/Object;)Z"⟩ : MethodName)) hown (mvT hZ (hw _ (List.mem_of_getElem? (i := 76) rfl))) (mvT hZ (hw _ (List.mem_of_getElem? (i := 77) rfl))) (notFace_of_selects (args := #[]) (mvT hZ (hw _ (List.mem_of_getElem? (i := 79) rfl)))) (mvT hZ (hw _ (List.mem_of_getElem? (i := 79) rfl))) (mvT hZ (hw _ (List.mem_of_getElem? (i := 78) rfl))) (by decide) (backOf (W := 0) (own_reqs l Z a0 hw [] b15  T70.heap n0 (Nat.le_trans Z0 Kp.1) ) hZ (hw _ (List.mem_of_getElem? (i := 80) rfl)) (hw _ (List.mem_of_getElem? (i := 3) rfl)) (by decide) (by decide)) qa72 qc72 (g := (mkF m 200 #[iv p1, iv p2, iv p3, iv p4, iv p5, rv b1, rv b8, rv b15, rv b17, iv (1 : Int32), iv (1 : Int32), iv (p3 &&& (2147483647 : Int32)), iv (p4 &&& (2147483647 : Int32)), rv b66, rv b67, rv b70] [(.ref b15), (.ref b15)])) rfl (by rw [hml]; rfl) (Steps.refl _) (argsL := [(.ref b15)]) (rest := []) (lenOf own_pd__Ljava_lang_Object__Z rfl) rfl (by show 2 * 0 + _ ≤ _; exact Nat.le_of_eq rfl) (hb hby at_200) (fun _ _ => ⟨rfl, e71, (by decide : 11 + 0 ≤ _), (by decide : 31 + 0 ≤ _)⟩)
      dsimp only [Pt.U, Pt.locs, Pt.cells, Pt.slots] at X72 l72 y72 z72 st72 hQ72
      subst y72 z72
      replace X72 := X72.mono (Nat.le_of_ble_eq_true rfl : _ ≤ 11) (Nat.le_of_ble_eq_true rfl : _ ≤ 31)
      obtain ⟨rfl, Nq72, e72⟩ := hQ72
      have N72 : Fr n0 L72 := by rw [l72]; exact Fr.app N71 Nq72
      refine own_go (fun zt zk => st72.trans zk) ?_
      show own_Go p e below s _ _ _ (T72.setTop (mkF m 203 #[iv p1, iv p2, iv p3, iv p4, iv p5, rv b1, rv b8, rv b15, rv b17, iv (1 : Int32), iv (1 : Int32), iv (p3 &&& (2147483647 : Int32)), iv (p4 &&& (2147483647 : Int32)), rv b66, rv b67, rv b70] [(.int (1 : Int32))]))
      refine own_go (fun zt zk => (XS.ifNo X72.here hx rfl (hb hby at_203) rfl ((if0 _ _).trans (feq ((by decide) : ¬ ((1 : Int32) = (0 : Int32)))).1) (XS.aload X72.here hx rfl (hb hby at_206) rfl rfl zk))) ?_
      show own_Go p e below s _ _ _ (T72.setTop (mkF m 208 #[iv p1, iv p2, iv p3, iv p4, iv p5, rv b1, rv b8, rv b15, rv b17, iv (1 : Int32), iv (1 : Int32), iv (p3 &&& (2147483647 : Int32)), iv (p4 &&& (2147483647 : Int32)), rv b66, rv b67, rv b70] [(.ref b70)]))
      obtain ⟨cq73, kq73, qa73, qb73, qc73⟩ := isOf hZ e72 Ex_b70
      obtain ⟨_, _, ⟨T73, L73, k73, n73⟩, -, X73, ⟨Lc73, hQ73, l73, y73, z73⟩, st73⟩ := X72.virtualBack hx (y := (⟨"com/example/tranche/tranche/model/Row$Field", "text", "()Ljava/lang/String;"⟩ : MethodName)) (z := (⟨"com/example/tranche/tranche/model/Row$Field", "text", "()Ljava/lang/String;"⟩ : MethodName)) hown (mvT hZ (hw _ (List.mem_of_getElem? (i := 81) rfl))) (mvT hZ (hw _ (List.mem_of_getElem? (i := 82) rfl))) (notFace_of_selects (args := #[]) (mvT hZ (hw _ (List.mem_of_getElem? (i := 84) rfl)))) (mvT hZ (hw _ (List.mem_of_getElem? (i := 84) rfl))) (mvT hZ (hw _ (List.mem_of_getElem? (i := 83) rfl))) (by decide) (backOf (W := 0) (own_gtext l Z a0 hw [] b70 b17 T70.heap n0 (Nat.le_trans Z0 Kp.1) Ft70) hZ (hw _ (List.mem_of_getElem? (i := 85) rfl)) (hw _ (List.mem_of_getElem? (i := 33) rfl)) (by decide) (by decide)) qa73 qc73 (g := (mkF m 208 #[iv p1, iv p2, iv p3, iv p4, iv p5, rv b1, rv b8, rv b15, rv b17, iv (1 : Int32), iv (1 : Int32), iv (p3 &&& (2147483647 : Int32)), iv (p4 &&& (2147483647 : Int32)), rv b66, rv b67, rv b70] [(.ref b70)])) rfl (by rw [hml]; rfl) (Steps.refl _) (argsL := []) (rest := []) (lenOf own_pd___Ljava_lang_String_ rfl) rfl (by show 2 * 0 + _ ≤ _; exact Nat.le_of_eq rfl) (hb hby at_208) (fun _ _ => ⟨rfl, e72, (by decide : 11 + 0 ≤ _), (by decide : 31 + 0 ≤ _)⟩)
      dsimp only [Pt.U, Pt.locs, Pt.cells, Pt.slots] at X73 l73 y73 z73 st73 hQ73
      subst y73 z73
      replace X73 := X73.mono (Nat.le_of_ble_eq_true rfl : _ ≤ 11) (Nat.le_of_ble_eq_true rfl : _ ≤ 31)
      obtain ⟨rfl, Nq73, e73⟩ := hQ73
      have N73 : Fr n0 L73 := by rw [l73]; exact Fr.app N72 Nq73
      refine own_go (fun zt zk => st73.trans zk) ?_
      show own_Go p e below s _ _ _ (T73.setTop (mkF m 211 #[iv p1, iv p2, iv p3, iv p4, iv p5, rv b1, rv b8, rv b15, rv b17, iv (1 : Int32), iv (1 : Int32), iv (p3 &&& (2147483647 : Int32)), iv (p4 &&& (2147483647 : Int32)), rv b66, rv b67, rv b70] [(.ref b17)]))
      refine own_go (fun zt zk => (XS.aload X73.here hx rfl (hb hby at_211) rfl rfl zk)) ?_
      show own_Go p e below s _ _ _ (T73.setTop (mkF m 213 #[iv p1, iv p2, iv p3, iv p4, iv p5, rv b1, rv b8, rv b15, rv b17, iv (1 : Int32), iv (1 : Int32), iv (p3 &&& (2147483647 : Int32)), iv (p4 &&& (2147483647 : Int32)), rv b66, rv b67, rv b70] [(.ref b17), (.ref b17)]))
      obtain ⟨cq74, kq74, qa74, qb74, qc74⟩ := isOf hZ e73 Ex_b17
      obtain ⟨_, _, ⟨T74, L74, k74, n74⟩, -, X74, ⟨Lc74, hQ74, l74, y74, z74⟩, st74⟩ := X73.virtualBack hx (y := (⟨"java/lang/String", "equals", "(Ljava/lang/Object;)Z"⟩ : MethodName)) (z := (⟨"java/lang/String", "equals", "(Ljava/lang/Object;)Z"⟩ : MethodName)) hown (mvT hZ (hw _ (List.mem_of_getElem? (i := 76) rfl))) (mvT hZ (hw _ (List.mem_of_getElem? (i := 77) rfl))) (notFace_of_selects (args := #[]) (mvT hZ (hw _ (List.mem_of_getElem? (i := 79) rfl)))) (mvT hZ (hw _ (List.mem_of_getElem? (i := 79) rfl))) (mvT hZ (hw _ (List.mem_of_getElem? (i := 78) rfl))) (by decide) (backOf (W := 0) (own_reqs l Z a0 hw [] b17  T70.heap n0 (Nat.le_trans Z0 Kp.1) ) hZ (hw _ (List.mem_of_getElem? (i := 80) rfl)) (hw _ (List.mem_of_getElem? (i := 3) rfl)) (by decide) (by decide)) qa74 qc74 (g := (mkF m 213 #[iv p1, iv p2, iv p3, iv p4, iv p5, rv b1, rv b8, rv b15, rv b17, iv (1 : Int32), iv (1 : Int32), iv (p3 &&& (2147483647 : Int32)), iv (p4 &&& (2147483647 : Int32)), rv b66, rv b67, rv b70] [(.ref b17), (.ref b17)])) rfl (by rw [hml]; rfl) (Steps.refl _) (argsL := [(.ref b17)]) (rest := []) (lenOf own_pd__Ljava_lang_Object__Z rfl) rfl (by show 2 * 0 + _ ≤ _; exact Nat.le_of_eq rfl) (hb hby at_213) (fun _ _ => ⟨rfl, e73, (by decide : 11 + 0 ≤ _), (by decide : 31 + 0 ≤ _)⟩)
      dsimp only [Pt.U, Pt.locs, Pt.cells, Pt.slots] at X74 l74 y74 z74 st74 hQ74
      subst y74 z74
      replace X74 := X74.mono (Nat.le_of_ble_eq_true rfl : _ ≤ 11) (Nat.le_of_ble_eq_true rfl : _ ≤ 31)
      obtain ⟨rfl, Nq74, e74⟩ := hQ74
      have N74 : Fr n0 L74 := by rw [l74]; exact Fr.app N73 Nq74
      refine own_go (fun zt zk => st74.trans zk) ?_
      show own_Go p e below s _ _ _ (T74.setTop (mkF m 216 #[iv p1, iv p2, iv p3, iv p4, iv p5, rv b1, rv b8, rv b15, rv b17, iv (1 : Int32), iv (1 : Int32), iv (p3 &&& (2147483647 : Int32)), iv (p4 &&& (2147483647 : Int32)), rv b66, rv b67, rv b70] [(.int (1 : Int32))]))
      refine own_go (fun zt zk => (XS.ifNo X74.here hx rfl (hb hby at_216) rfl ((if0 _ _).trans (feq ((by decide) : ¬ ((1 : Int32) = (0 : Int32)))).1) (XS.aload X74.here hx rfl (hb hby at_219) rfl rfl zk))) ?_
      show own_Go p e below s _ _ _ (T74.setTop (mkF m 221 #[iv p1, iv p2, iv p3, iv p4, iv p5, rv b1, rv b8, rv b15, rv b17, iv (1 : Int32), iv (1 : Int32), iv (p3 &&& (2147483647 : Int32)), iv (p4 &&& (2147483647 : Int32)), rv b66, rv b67, rv b70] [(.ref b70)]))
      obtain ⟨cq75, kq75, qa75, qb75, qc75⟩ := isOf hZ e74 Ex_b70
      obtain ⟨_, _, ⟨T75, L75, k75, n75⟩, -, X75, ⟨Lc75, hQ75, l75, y75, z75⟩, st75⟩ := X74.virtualBack hx (y := (⟨"com/example/tranche/tranche/model/Row$Field", "span", "()Ljava/util/Optional;"⟩ : MethodName)) (z := (⟨"com/example/tranche/tranche/model/Row$Field", "span", "()Ljava/util/Optional;"⟩ : MethodName)) hown (mvT hZ (hw _ (List.mem_of_getElem? (i := 60) rfl))) (mvT hZ (hw _ (List.mem_of_getElem? (i := 61) rfl))) (notFace_of_selects (args := #[]) (mvT hZ (hw _ (List.mem_of_getElem? (i := 63) rfl)))) (mvT hZ (hw _ (List.mem_of_getElem? (i := 63) rfl))) (mvT hZ (hw _ (List.mem_of_getElem? (i := 62) rfl))) (by decide) (backOf (W := 0) (own_gspan l Z a0 hw [] b70 op66 T70.heap n0 (Nat.le_trans Z0 Kp.1) Fs70) hZ (hw _ (List.mem_of_getElem? (i := 64) rfl)) (hw _ (List.mem_of_getElem? (i := 33) rfl)) (by decide) (by decide)) qa75 qc75 (g := (mkF m 221 #[iv p1, iv p2, iv p3, iv p4, iv p5, rv b1, rv b8, rv b15, rv b17, iv (1 : Int32), iv (1 : Int32), iv (p3 &&& (2147483647 : Int32)), iv (p4 &&& (2147483647 : Int32)), rv b66, rv b67, rv b70] [(.ref b70)])) rfl (by rw [hml]; rfl) (Steps.refl _) (argsL := []) (rest := []) (lenOf own_pd___Ljava_util_Optional_ rfl) rfl (by show 2 * 0 + _ ≤ _; exact Nat.le_of_eq rfl) (hb hby at_221) (fun _ _ => ⟨rfl, e74, (by decide : 11 + 0 ≤ _), (by decide : 31 + 0 ≤ _)⟩)
      dsimp only [Pt.U, Pt.locs, Pt.cells, Pt.slots] at X75 l75 y75 z75 st75 hQ75
      subst y75 z75
      replace X75 := X75.mono (Nat.le_of_ble_eq_true rfl : _ ≤ 11) (Nat.le_of_ble_eq_true rfl : _ ≤ 31)
      obtain ⟨rfl, Nq75, e75⟩ := hQ75
      have N75 : Fr n0 L75 := by rw [l75]; exact Fr.app N74 Nq75
      refine own_go (fun zt zk => st75.trans zk) ?_
      show own_Go p e below s _ _ _ (T75.setTop (mkF m 224 #[iv p1, iv p2, iv p3, iv p4, iv p5, rv b1, rv b8, rv b15, rv b17, iv (1 : Int32), iv (1 : Int32), iv (p3 &&& (2147483647 : Int32)), iv (p4 &&& (2147483647 : Int32)), rv b66, rv b67, rv b70] [(.ref op66)]))
      refine own_go (fun zt zk => (XS.aload X75.here hx rfl (hb hby at_224) rfl rfl zk)) ?_
      show own_Go p e below s _ _ _ (T75.setTop (mkF m 226 #[iv p1, iv p2, iv p3, iv p4, iv p5, rv b1, rv b8, rv b15, rv b17, iv (1 : Int32), iv (1 : Int32), iv (p3 &&& (2147483647 : Int32)), iv (p4 &&& (2147483647 : Int32)), rv b66, rv b67, rv b70] [(.ref b66), (.ref op66)]))
      obtain ⟨cq76, kq76, qa76, qb76, qc76⟩ := isOf hZ e75 Ex_b66
      obtain ⟨_, _, ⟨T76, L76, k76, n76⟩, -, X76, ⟨Lc76, hQ76, l76, y76, z76⟩, st76⟩ := X75.virtualBack hx (y := (⟨"com/example/tranche/tranche/model/Row$Field", "span", "()Ljava/util/Optional;"⟩ : MethodName)) (z := (⟨"com/example/tranche/tranche/model/Row$Field", "span", "()Ljava/util/Optional;"⟩ : MethodName)) hown (mvT hZ (hw _ (List.mem_of_getElem? (i := 60) rfl))) (mvT hZ (hw _ (List.mem_of_getElem? (i := 61) rfl))) (notFace_of_selects (args := #[]) (mvT hZ (hw _ (List.mem_of_getElem? (i := 63) rfl)))) (mvT hZ (hw _ (List.mem_of_getElem? (i := 63) rfl))) (mvT hZ (hw _ (List.mem_of_getElem? (i := 62) rfl))) (by decide) (backOf (W := 1) (own_gspan l Z a0 hw [] b66 op66 T70.heap n0 (Nat.le_trans Z0 Kp.1) Fs66) hZ (hw _ (List.mem_of_getElem? (i := 64) rfl)) (hw _ (List.mem_of_getElem? (i := 33) rfl)) (by decide) (by decide)) qa76 qc76 (g := (mkF m 226 #[iv p1, iv p2, iv p3, iv p4, iv p5, rv b1, rv b8, rv b15, rv b17, iv (1 : Int32), iv (1 : Int32), iv (p3 &&& (2147483647 : Int32)), iv (p4 &&& (2147483647 : Int32)), rv b66, rv b67, rv b70] [(.ref b66), (.ref op66)])) rfl (by rw [hml]; rfl) (Steps.refl _) (argsL := []) (rest := [(.ref op66)]) (lenOf own_pd___Ljava_util_Optional_ rfl) rfl (by show 2 * 0 + _ ≤ _; exact Nat.le_of_eq rfl) (hb hby at_226) (fun _ _ => ⟨rfl, e75, (by decide : 11 + 0 ≤ _), (by decide : 31 + 0 ≤ _)⟩)
      dsimp only [Pt.U, Pt.locs, Pt.cells, Pt.slots] at X76 l76 y76 z76 st76 hQ76
      subst y76 z76
      replace X76 := X76.mono (Nat.le_of_ble_eq_true rfl : _ ≤ 11) (Nat.le_of_ble_eq_true rfl : _ ≤ 31)
      obtain ⟨rfl, Nq76, e76⟩ := hQ76
      have N76 : Fr n0 L76 := by rw [l76]; exact Fr.app N75 Nq76
      refine own_go (fun zt zk => st76.trans zk) ?_
      show own_Go p e below s _ _ _ (T76.setTop (mkF m 229 #[iv p1, iv p2, iv p3, iv p4, iv p5, rv b1, rv b8, rv b15, rv b17, iv (1 : Int32), iv (1 : Int32), iv (p3 &&& (2147483647 : Int32)), iv (p4 &&& (2147483647 : Int32)), rv b66, rv b67, rv b70] [(.ref op66), (.ref op66)]))
      refine own_go (fun zt zk => Jvm.RoadKit.acmp (g := (mkF m 229 #[iv p1, iv p2, iv p3, iv p4, iv p5, rv b1, rv b8, rv b15, rv b17, iv (1 : Int32), iv (1 : Int32), iv (p3 &&& (2147483647 : Int32)), iv (p4 &&& (2147483647 : Int32)), rv b66, rv b67, rv b70] [(.ref op66), (.ref op66)])) X76 hx rfl rfl rfl (pc0 := 229) (pc' := 232) (same := true) rfl (hb hby at_229) rfl (decide_eq_true rfl) (by decide) (by decide) zk) ?_
      show own_Go p e below s _ _ _ (T76.setTop (mkF m 232 #[iv p1, iv p2, iv p3, iv p4, iv p5, rv b1, rv b8, rv b15, rv b17, iv (1 : Int32), iv (1 : Int32), iv (p3 &&& (2147483647 : Int32)), iv (p4 &&& (2147483647 : Int32)), rv b66, rv b67, rv b70] []))
      refine own_go (fun zt zk => (XS.aload X76.here hx rfl (hb hby at_232) rfl rfl zk)) ?_
      show own_Go p e below s _ _ _ (T76.setTop (mkF m 234 #[iv p1, iv p2, iv p3, iv p4, iv p5, rv b1, rv b8, rv b15, rv b17, iv (1 : Int32), iv (1 : Int32), iv (p3 &&& (2147483647 : Int32)), iv (p4 &&& (2147483647 : Int32)), rv b66, rv b67, rv b70] [(.ref b70)]))
      obtain ⟨cq77, kq77, qa77, qb77, qc77⟩ := isOf hZ e76 Ex_b70
      obtain ⟨_, _, ⟨T77, L77, k77, n77⟩, -, X77, ⟨Lc77, hQ77, l77, y77, z77⟩, st77⟩ := X76.virtualBack hx (y := (⟨"com/example/tranche/tranche/model/Row$Field", "spanFirst", "()Z"⟩ : MethodName)) (z := (⟨"com/example/tranche/tranche/model/Row$Field", "spanFirst", "()Z"⟩ : MethodName)) hown (mvT hZ (hw _ (List.mem_of_getElem? (i := 86) rfl))) (mvT hZ (hw _ (List.mem_of_getElem? (i := 87) rfl))) (notFace_of_selects (args := #[]) (mvT hZ (hw _ (List.mem_of_getElem? (i := 89) rfl)))) (mvT hZ (hw _ (List.mem_of_getElem? (i := 89) rfl))) (mvT hZ (hw _ (List.mem_of_getElem? (i := 88) rfl))) (by decide) (backOf (W := 0) (own_gsf l Z a0 hw [] b70 (1 : Int32) T70.heap n0 (Nat.le_trans Z0 Kp.1) Fz70 rfl) hZ (hw _ (List.mem_of_getElem? (i := 90) rfl)) (hw _ (List.mem_of_getElem? (i := 33) rfl)) (by decide) (by decide)) qa77 qc77 (g := (mkF m 234 #[iv p1, iv p2, iv p3, iv p4, iv p5, rv b1, rv b8, rv b15, rv b17, iv (1 : Int32), iv (1 : Int32), iv (p3 &&& (2147483647 : Int32)), iv (p4 &&& (2147483647 : Int32)), rv b66, rv b67, rv b70] [(.ref b70)])) rfl (by rw [hml]; rfl) (Steps.refl _) (argsL := []) (rest := []) (lenOf own_pd___Z rfl) rfl (by show 2 * 0 + _ ≤ _; exact Nat.le_of_eq rfl) (hb hby at_234) (fun _ _ => ⟨rfl, e76, (by decide : 11 + 0 ≤ _), (by decide : 31 + 0 ≤ _)⟩)
      dsimp only [Pt.U, Pt.locs, Pt.cells, Pt.slots] at X77 l77 y77 z77 st77 hQ77
      subst y77 z77
      replace X77 := X77.mono (Nat.le_of_ble_eq_true rfl : _ ≤ 11) (Nat.le_of_ble_eq_true rfl : _ ≤ 31)
      obtain ⟨rfl, Nq77, e77⟩ := hQ77
      have N77 : Fr n0 L77 := by rw [l77]; exact Fr.app N76 Nq77
      refine own_go (fun zt zk => st77.trans zk) ?_
      show own_Go p e below s _ _ _ (T77.setTop (mkF m 237 #[iv p1, iv p2, iv p3, iv p4, iv p5, rv b1, rv b8, rv b15, rv b17, iv (1 : Int32), iv (1 : Int32), iv (p3 &&& (2147483647 : Int32)), iv (p4 &&& (2147483647 : Int32)), rv b66, rv b67, rv b70] [(.int (1 : Int32))]))
      refine own_go (fun zt zk => (XS.ifNo X77.here hx rfl (hb hby at_237) rfl ((if0 _ _).trans (feq ((by decide) : ¬ ((1 : Int32) = (0 : Int32)))).1) (XS.aload X77.here hx rfl (hb hby at_240) rfl rfl zk))) ?_
      show own_Go p e below s _ _ _ (T77.setTop (mkF m 242 #[iv p1, iv p2, iv p3, iv p4, iv p5, rv b1, rv b8, rv b15, rv b17, iv (1 : Int32), iv (1 : Int32), iv (p3 &&& (2147483647 : Int32)), iv (p4 &&& (2147483647 : Int32)), rv b66, rv b67, rv b70] [(.ref b67)]))
      obtain ⟨cq78, kq78, qa78, qb78, qc78⟩ := isOf hZ e77 Ex_b67
      obtain ⟨_, _, ⟨T78, L78, k78, n78⟩, -, X78, ⟨Lc78, hQ78, l78, y78, z78⟩, st78⟩ := X77.virtualBack hx (y := (⟨"com/example/tranche/tranche/model/Row$Field", "spanFirst", "()Z"⟩ : MethodName)) (z := (⟨"com/example/tranche/tranche/model/Row$Field", "spanFirst", "()Z"⟩ : MethodName)) hown (mvT hZ (hw _ (List.mem_of_getElem? (i := 86) rfl))) (mvT hZ (hw _ (List.mem_of_getElem? (i := 87) rfl))) (notFace_of_selects (args := #[]) (mvT hZ (hw _ (List.mem_of_getElem? (i := 89) rfl)))) (mvT hZ (hw _ (List.mem_of_getElem? (i := 89) rfl))) (mvT hZ (hw _ (List.mem_of_getElem? (i := 88) rfl))) (by decide) (backOf (W := 0) (own_gsf l Z a0 hw [] b67 (1 : Int32) T70.heap n0 (Nat.le_trans Z0 Kp.1) F_spanFirst_b67 rfl) hZ (hw _ (List.mem_of_getElem? (i := 90) rfl)) (hw _ (List.mem_of_getElem? (i := 33) rfl)) (by decide) (by decide)) qa78 qc78 (g := (mkF m 242 #[iv p1, iv p2, iv p3, iv p4, iv p5, rv b1, rv b8, rv b15, rv b17, iv (1 : Int32), iv (1 : Int32), iv (p3 &&& (2147483647 : Int32)), iv (p4 &&& (2147483647 : Int32)), rv b66, rv b67, rv b70] [(.ref b67)])) rfl (by rw [hml]; rfl) (Steps.refl _) (argsL := []) (rest := []) (lenOf own_pd___Z rfl) rfl (by show 2 * 0 + _ ≤ _; exact Nat.le_of_eq rfl) (hb hby at_242) (fun _ _ => ⟨rfl, e77, (by decide : 11 + 0 ≤ _), (by decide : 31 + 0 ≤ _)⟩)
      dsimp only [Pt.U, Pt.locs, Pt.cells, Pt.slots] at X78 l78 y78 z78 st78 hQ78
      subst y78 z78
      replace X78 := X78.mono (Nat.le_of_ble_eq_true rfl : _ ≤ 11) (Nat.le_of_ble_eq_true rfl : _ ≤ 31)
      obtain ⟨rfl, Nq78, e78⟩ := hQ78
      have N78 : Fr n0 L78 := by rw [l78]; exact Fr.app N77 Nq78
      refine own_go (fun zt zk => st78.trans zk) ?_
      show own_Go p e below s _ _ _ (T78.setTop (mkF m 245 #[iv p1, iv p2, iv p3, iv p4, iv p5, rv b1, rv b8, rv b15, rv b17, iv (1 : Int32), iv (1 : Int32), iv (p3 &&& (2147483647 : Int32)), iv (p4 &&& (2147483647 : Int32)), rv b66, rv b67, rv b70] [(.int (1 : Int32))]))
      refine own_go (fun zt zk => (XS.iload X78.here hx rfl (hb hby at_245) rfl (XS.icmpNo X78.here hx rfl (hb hby at_247) rfl (teq (rfl : (1 : Int32) = (1 : Int32))).2 (XS.iconst X78.here hx rfl (hb hby at_250) (XS.goto X78.here hx rfl (pc0 := 251) (pc' := 255) rfl (hb hby at_251) (by decide) (by decide) zk))))) ?_
      show own_Go p e below s _ _ _ (T78.setTop (mkF m 255 #[iv p1, iv p2, iv p3, iv p4, iv p5, rv b1, rv b8, rv b15, rv b17, iv (1 : Int32), iv (1 : Int32), iv (p3 &&& (2147483647 : Int32)), iv (p4 &&& (2147483647 : Int32)), rv b66, rv b67, rv b70] [(.int (1 : Int32))]))
      exact own_fin X78 Bd.notSynchronized (fun h => by rw [Bd.returns] at h; cases h) (fun fs hr => retN X78 hx (t := .boolean) Bd.returns (by simp) (hb hby at_255) hr) (by rw [e78]; exact ⟨rfl, N78⟩) (by decide) (by decide)
set_option maxRecDepth 65536 in
set_option maxHeartbeats 40000000 in
theorem comes_1 {Post : Tables → Env → Array Value → State → Outcome → State → Prop} (hpost : ∀ tb e args s v u, (limb_1_1.after args s (.returned v) u = true ∧ limb_1_2.after args s (.returned v) u = true ∧ True) → FrameEnd s (.returned v) u (Jvm.fieldLocs frame_1_writes args s ++ Jvm.arrayLocs frame_1_arrays args s ++ Jvm.staticLocs frame_1_statics s) 32 128 → Post tb e args s (.returned v) u) :
    ArmFor flags0 classFile x code maxLocals ret World_1 tables_1 room_1 Calls_1 rest_1 Pre_1 Post := by
  intro l hfl _ _ p e ha hc hk s m args below hf hA hF happ hP
  obtain ⟨hcalls, hrest, hpre⟩ := hP
  obtain ⟨-, -, -, hnamed, -, -, -, hat⟩ := (Spec.applies_iff hf).mp happ
  obtain ⟨hg, hn⟩ := and_e (Cond.before_iff.mp (show (Jvm.Cond.and given_1 narrow_1).before args s = true from hpre))
  obtain ⟨g0, r0⟩ := and_e hg
  obtain ⟨g1, r1⟩ := and_e r0
  obtain ⟨g2, r2⟩ := and_e r1
  obtain ⟨g3, r3⟩ := and_e r2
  obtain ⟨g4, r4⟩ := and_e r3
  have g5 := r4
  obtain ⟨w0, w1, w2, w3, w4, rfl⟩ : ∃ w0 w1 w2 w3 w4 : Value, args = #[w0, w1, w2, w3, w4] := by
    have hs : args.size = 5 := by simpa [Cond.value, given_1] using g0
    obtain ⟨L⟩ := args
    match L, hs with
    | [w0, w1, w2, w3, w4], _ => exact ⟨w0, w1, w2, w3, w4, rfl⟩
  have hw := fun d (hd : d ∈ tables_1) => atoms_spec (ws := Jvm.Cond.code x code maxLocals ret :: tables_1) hat d (List.mem_cons_of_mem _ hd)
  have hfit : Fit s := fun {y c} hc i hi => by
    obtain ⟨ha, rfl⟩ := Array.getElem?_eq_some_iff.mp hc
    have q := List.all_eq_true.mp ((Array.all_eq_true_iff_forall_mem.mp hF) _ (Array.getElem_mem ha)) i (List.mem_range.mpr hi)
    simpa [Array.getElem?_eq_getElem hi] using q
  obtain ⟨hsets, hown0⟩ := atoms_of _ (rest_1_c_eq ▸ (show rest_1_c.before _ s = true from hrest))
  obtain ⟨i0, ei0⟩ := is_v g1
  obtain rfl : w0 = (.int i0) := Option.some.inj ei0
  obtain ⟨i1, ei1⟩ := is_v g2
  obtain rfl : w1 = (.int i1) := Option.some.inj ei1
  obtain ⟨i2, ei2⟩ := is_v g3
  obtain rfl : w2 = (.int i2) := Option.some.inj ei2
  obtain ⟨i3, ei3⟩ := is_v g4
  obtain rfl : w3 = (.int i3) := Option.some.inj ei3
  obtain ⟨i4, ei4⟩ := is_v g5
  obtain rfl : w4 = (.int i4) := Option.some.inj ei4
  obtain ⟨o_COMPACT_STRINGS, e_o_COMPACT_STRINGS⟩ := is_v (Cond.before_iff.mp (hsets _ (List.mem_of_getElem? (i := 1) rfl)))
  have S_o_COMPACT_STRINGS := Sta.start e_o_COMPACT_STRINGS (Or.inl (hsets _ (List.mem_of_getElem? (i := 0) rfl)))
  have nz_o_COMPACT_STRINGS : ¬ (o_COMPACT_STRINGS = (0 : Int32)) := gotF (Cond.eq_ints e_o_COMPACT_STRINGS (Term.int_eval 0)) (not_v (Cond.before_iff.mp (hsets _ (List.mem_of_getElem? (i := 2) rfl))))
  obtain ⟨o_SIOOBE_FORMATTER, e_o_SIOOBE_FORMATTER, r_o_SIOOBE_FORMATTER⟩ := isR_v (Cond.before_iff.mp (hsets _ (List.mem_of_getElem? (i := 8) rfl)))
  have S_o_SIOOBE_FORMATTER := Sta.start e_o_SIOOBE_FORMATTER (Or.inl (hsets _ (List.mem_of_getElem? (i := 7) rfl)))
  obtain ⟨o_EMPTY, e_o_EMPTY⟩ := exa_v (Cond.before_iff.mp (hsets _ (List.mem_of_getElem? (i := 11) rfl)))
  have S_o_EMPTY := Sta.start e_o_EMPTY (Or.inl (hsets _ (List.mem_of_getElem? (i := 10) rfl)))
  have Ex_o_EMPTY := Exa.start e_o_EMPTY (Cond.before_iff.mp (hsets _ (List.mem_of_getElem? (i := 11) rfl)))
  have F_o_EMPTY_value := Fld.start ((fld_at e_o_EMPTY).symm.trans (null_v (Cond.before_iff.mp (hsets _ (List.mem_of_getElem? (i := 12) rfl)))))
  obtain ⟨n, o, h1, h2, h3, _, L, rfl, ⟨rfl, N⟩, hq⟩ := own_law l s _ hw tables_1 i0 i1 i2 i3 i4 o_COMPACT_STRINGS o_SIOOBE_FORMATTER o_EMPTY s.heap s.heap.size (Nat.le_refl _) (Old.start s) S_o_COMPACT_STRINGS S_o_SIOOBE_FORMATTER S_o_EMPTY Ex_o_EMPTY F_o_EMPTY_value nz_o_COMPACT_STRINGS r_o_SIOOBE_FORMATTER p e ha hc hk s m _ below hf ((Spec.applies_iff_loose hf).mp happ).1 ⟨rfl, State.Warmed39.refl s, rfl⟩ trivial
  refine ⟨n, _, h1, h2, h3, hpost _ _ _ _ _ _ ⟨Cond.after_iff.mpr rfl, Cond.after_iff.mpr (eq_i res_at (Term.int_eval (1)) rfl), trivial⟩ ⟨hq.1, hq.2.1, (hq.2.2.sift fun y hy => Or.inr (N y hy)).mono (by decide) (by decide)⟩⟩
theorem main_1_1 : Claimed_1_1 := comes_1 fun _ _ _ _ _ _ h hF => ⟨h.1, hF⟩
theorem main_1_2 : Claimed_1_2 := comes_1 fun _ _ _ _ _ _ h hF => ⟨h.2.1, hF⟩
end Jvm.Pilot.@@N@@
namespace Jvm.Pilot.@@N@@
open Jvm Jvm.ClassFile Sem Op Lib Jvm.Free Jvm.Stand Jvm.Pilot.@@N@@.Jvm.D
/-! MADE BY PROGRAM (witnessworld.py) out of the Statement's table words and the real class files: 25 classes; the members and pool entries that the words name. The judged class is class 1, her method 1. -/
namespace start1
open Jvm.ClassFile
def u (s : String) : CpInfo := .utf8 (stringToUtf16 s)
/-- a pool by its gaps: so many unusable entries, then the entry; so many at the end -/
def gap : Nat → List CpInfo → List CpInfo
  | 0, r => r
  | n + 1, r => .unusable :: gap n r
def poolList (es : List (Nat × CpInfo)) (last : Nat) : List CpInfo := es.foldr (fun e r => gap e.1 (e.2 :: r)) (gap last [])
def pool (es : List (Nat × CpInfo)) (last : Nat) : Array CpInfo := ⟨poolList es last⟩
def fileOf (pool : Array CpInfo) (this : Nat) (attrs : Array Attribute := #[]) (ms : Array MethodInfo := #[]) (fl : Nat := 33) (sup : Nat := 0) (ifs : Array Nat := #[]) (fds : Array FieldInfo := #[]) : ClassFile where
  minorVersion := 0
  majorVersion := 65
  constantPool := pool
  accessFlags := fl
  thisClass := this
  superClass := sup
  interfaces := ifs
  fields := fds
  methods := ms
  attributes := attrs
def plain (name : String) (sup : Option ClassId) : Class where
  name := name
  kind := .ordinary
  loader := none
  accessFlags := 33
  super := sup
  interfaces := #[]
  cf := none
  fields := #[]
  methods := #[]
  instanceTypes := #[]
  staticTypes := #[]
  resolved := #[]
  callSites := []
  init := .initialized
  statics := none
  mirror := none

def pool0 : Array CpInfo := pool [(5, u "<init>"), (0, u "()V"), (1, .class_ 10), (1, u "java/lang/Object")] 113

def k0c0 : Code := { maxStack := 0, maxLocals := 1, code := object_method_1_code, exceptionTable := #[], attributes := #[] }
def k0m0 : Method := { name := "<init>", desc := "()V", sig := { parameters := [], returnType := none }, accessFlags := 1, code := some k0c0 }
/-- java/lang/Object -/
def k0 : Class := { plain "java/lang/Object" none with
  accessFlags := 33
  interfaces := #[]
  cf := some (fileOf pool0 8 #[] #[{ accessFlags := 1, nameIndex := 5, descriptorIndex := 6, attributes := #[] }] 33 0 #[] #[])
  fields := #[]
  methods := #[k0m0]
  instanceTypes := #[]
  staticTypes := #[]
  resolved := Array.replicate 124 none
  statics := none }

def pool1 : Array CpInfo := pool [(2, .class_ 4), (1, u "java/lang/Object"), (0, u "<init>"), (0, u "()V"), (0, .class_ 8), (0, u "java/lang/String"), (0, .methodref 7 10), (0, .nameAndType 5 11), (0, u "([C)V"), (0, .integer 2147483647), (0, .class_ 14), (0, u "com/example/tranche/tranche/model/Span"), (0, .methodref 16 17), (0, .class_ 18), (0, .nameAndType 19 20), (0, u "java/lang/Math"), (0, u "min"), (0, u "(II)I"), (0, .methodref 16 22), (0, .nameAndType 23 20), (0, u "max"), (0, .methodref 13 25), (0, .nameAndType 5 26), (0, u "(II)V"), (0, .methodref 28 29), (0, .class_ 30), (0, .nameAndType 31 32), (0, u "com/example/tranche/tranche/model/Row$Field"), (0, u "stated"), (0, u "(Ljava/lang/String;Ljava/lang/String;Lcom/example/tranche/tranche/model/Span;)Lcom/example/tranche/tranche/model/Row$Field;"), (0, .methodref 28 34), (0, .nameAndType 35 36), (0, u "given"), (0, u "(Ljava/lang/String;Ljava/lang/String;)Lcom/example/tranche/tranche/model/Row$Field;"), (0, .methodref 28 38), (0, .nameAndType 39 40), (0, u "span"), (0, u "()Ljava/util/Optional;"), (0, .methodref 28 42), (0, .nameAndType 5 43), (0, u "(Ljava/lang/String;Ljava/lang/String;Ljava/util/Optional;Z)V"), (0, .methodref 28 45), (0, .nameAndType 46 47), (0, u "withSpanFirst"), (0, u "()Lcom/example/tranche/tranche/model/Row$Field;"), (0, .methodref 28 49), (0, .nameAndType 50 51), (0, u "name"), (0, u "()Ljava/lang/String;"), (0, .methodref 7 53), (0, .nameAndType 54 55), (0, u "equals"), (0, u "(Ljava/lang/Object;)Z"), (0, .methodref 28 57), (0, .nameAndType 58 51), (0, u "text"), (0, .methodref 28 60), (0, .nameAndType 61 62), (0, u "spanFirst"), (0, u "()Z"), (0, .class_ 64), (0, u "com/example/tranche/tranche/model/FieldWithSpanFirstPinLaw"), (2, u "law"), (0, u "(IIIII)Z")] 9

def k1m0 : Method := { name := "<init>", desc := "()V", sig := { parameters := [], returnType := none }, accessFlags := 2, code := none }
def k1c1 : Code := { maxStack := 7, maxLocals := 16, code := code, exceptionTable := #[], attributes := #[] }
def k1m1 : Method := { name := "law", desc := "(IIIII)Z", sig := { parameters := [.int, .int, .int, .int, .int], returnType := some .boolean }, accessFlags := 9, code := some k1c1 }
/-- com/example/tranche/tranche/model/FieldWithSpanFirstPinLaw -/
def k1 : Class := { plain "com/example/tranche/tranche/model/FieldWithSpanFirstPinLaw" (some 0) with
  accessFlags := 49
  interfaces := #[]
  cf := some (fileOf pool1 63 #[] #[{ accessFlags := 2, nameIndex := 5, descriptorIndex := 6, attributes := #[] }, { accessFlags := 9, nameIndex := 67, descriptorIndex := 68, attributes := #[] }] 49 2 #[] #[])
  fields := #[]
  methods := #[k1m0, k1m1]
  instanceTypes := #[]
  staticTypes := #[]
  resolved := Array.replicate 78 none
  statics := none }

def pool2 : Array CpInfo := pool [(1, .class_ 2), (0, u "java/io/Serializable"), (0, .class_ 4), (0, u "java/lang/Object")] 2

/-- java/io/Serializable -/
def k2 : Class := { plain "java/io/Serializable" (some 0) with
  accessFlags := 1537
  interfaces := #[]
  cf := some (fileOf pool2 1 #[] #[] 1537 3 #[] #[])
  fields := #[]
  methods := #[]
  instanceTypes := #[]
  staticTypes := #[]
  resolved := Array.replicate 7 none
  statics := none }

def pool3 : Array CpInfo := pool [(1, .class_ 2), (0, u "java/lang/Comparable"), (0, .class_ 4), (0, u "java/lang/Object")] 7

/-- java/lang/Comparable -/
def k3 : Class := { plain "java/lang/Comparable" (some 0) with
  accessFlags := 1537
  interfaces := #[]
  cf := some (fileOf pool3 1 #[] #[] 1537 3 #[] #[])
  fields := #[]
  methods := #[]
  instanceTypes := #[]
  staticTypes := #[]
  resolved := Array.replicate 12 none
  statics := none }

def pool4 : Array CpInfo := pool [(2, .class_ 4), (1, u "java/lang/CharSequence"), (42, .class_ 48), (0, u "java/lang/CharSequence$1CodePointIterator"), (10, .class_ 60), (0, u "java/lang/CharSequence$1CharIterator"), (5, .class_ 67), (0, u "java/lang/Object")] 63

/-- java/lang/CharSequence -/
def k4 : Class := { plain "java/lang/CharSequence" (some 0) with
  accessFlags := 1537
  interfaces := #[]
  cf := some (fileOf pool4 2 #[.nestMembers #[47, 59]] #[] 1537 66 #[] #[])
  fields := #[]
  methods := #[]
  instanceTypes := #[]
  staticTypes := #[]
  resolved := Array.replicate 131 none
  statics := none }

def pool5 : Array CpInfo := pool [(1, .class_ 2), (0, u "java/lang/constant/Constable"), (0, .class_ 4), (0, u "java/lang/Object")] 6

/-- java/lang/constant/Constable -/
def k5 : Class := { plain "java/lang/constant/Constable" (some 0) with
  accessFlags := 1537
  interfaces := #[]
  cf := some (fileOf pool5 1 #[] #[] 1537 3 #[] #[])
  fields := #[]
  methods := #[]
  instanceTypes := #[]
  staticTypes := #[]
  resolved := Array.replicate 11 none
  statics := none }

def pool6 : Array CpInfo := pool [(1, .class_ 2), (0, u "java/lang/constant/ConstantDesc"), (0, .class_ 4), (0, u "java/lang/Object")] 32

/-- java/lang/constant/ConstantDesc -/
def k6 : Class := { plain "java/lang/constant/ConstantDesc" (some 0) with
  accessFlags := 1537
  interfaces := #[]
  cf := some (fileOf pool6 1 #[] #[] 1537 3 #[] #[])
  fields := #[]
  methods := #[]
  instanceTypes := #[]
  staticTypes := #[]
  resolved := Array.replicate 37 none
  statics := none }

def pool7 : Array CpInfo := pool [(1, .methodref 2 3), (0, .class_ 4), (0, .nameAndType 5 6), (0, u "java/lang/Object"), (0, u "<init>"), (0, u "()V"), (2, .fieldref 10 11), (0, .class_ 12), (0, .nameAndType 13 14), (0, u "java/lang/String"), (0, u "value"), (0, u "[B"), (0, .fieldref 10 16), (0, .nameAndType 17 18), (0, u "coder"), (0, u "B"), (2, u "hash"), (0, u "I"), (2, u "hashIsZero"), (0, u "Z"), (0, .methodref 10 28), (0, .nameAndType 5 29), (0, u "([CIILjava/lang/Void;)V"), (8, .fieldref 10 39), (0, .nameAndType 40 26), (0, u "COMPACT_STRINGS"), (1, .class_ 44), (1, u "java/lang/StringUTF16"), (0, u "compress"), (1, .methodref 42 48), (0, .nameAndType 49 50), (0, u "coderFromArrayLen"), (0, u "([BI)B"), (126, .methodref 42 178), (0, .nameAndType 45 179), (0, u "([CII)[B"), (363, u "equals"), (29, u "(Ljava/lang/Object;)Z"), (1, .class_ 576), (0, u "java/lang/CharSequence"), (22, u "CASE_INSENSITIVE_ORDER"), (0, u "Ljava/util/Comparator;"), (409, u "([C)V"), (90, u "serialPersistentFields"), (0, u "[Ljava/io/ObjectStreamField;"), (0, .class_ 1104), (0, u "java/lang/String$CaseInsensitiveComparator"), (1, .class_ 1107), (0, u "java/io/Serializable"), (0, .class_ 1109), (0, u "java/lang/Comparable"), (0, .class_ 1111), (0, u "java/lang/constant/Constable"), (0, .class_ 1113), (0, u "java/lang/constant/ConstantDesc"), (2, u "serialVersionUID"), (0, u "J"), (3, u "REPL"), (0, u "C"), (2, u "LATIN1"), (1, u "UTF16")] 323

def k7m0 : Method := { name := "<init>", desc := "()V", sig := { parameters := [], returnType := none }, accessFlags := 1, code := none }
def k7c1 : Code := { maxStack := 5, maxLocals := 2, code := jdk_42_method_3_code, exceptionTable := #[], attributes := #[] }
def k7m1 : Method := { name := "<init>", desc := "([C)V", sig := { parameters := [(.array .char)], returnType := none }, accessFlags := 1, code := some k7c1 }
def k7c2 : Code := { maxStack := 2, maxLocals := 3, code := jdk_42_method_66_code, exceptionTable := #[], attributes := #[] }
def k7m2 : Method := { name := "equals", desc := "(Ljava/lang/Object;)Z", sig := { parameters := [(.object "java/lang/Object")], returnType := some .boolean }, accessFlags := 1, code := some k7c2 }
def k7c3 : Code := { maxStack := 4, maxLocals := 6, code := jdk_42_method_149_code, exceptionTable := #[], attributes := #[] }
def k7m3 : Method := { name := "<init>", desc := "([CIILjava/lang/Void;)V", sig := { parameters := [(.array .char), .int, .int, (.object "java/lang/Void")], returnType := none }, accessFlags := 2, code := some k7c3 }
/-- java/lang/String -/
def k7 : Class := { plain "java/lang/String" (some 0) with
  accessFlags := 49
  interfaces := #[2, 3, 4, 5, 6]
  cf := some (fileOf pool7 10 #[.nestMembers #[1103]] #[{ accessFlags := 1, nameIndex := 5, descriptorIndex := 6, attributes := #[] }, { accessFlags := 1, nameIndex := 5, descriptorIndex := 1010, attributes := #[] }, { accessFlags := 1, nameIndex := 543, descriptorIndex := 573, attributes := #[] }, { accessFlags := 2, nameIndex := 5, descriptorIndex := 29, attributes := #[] }] 49 2 #[1106, 1108, 575, 1110, 1112] #[{ accessFlags := 18, nameIndex := 13, descriptorIndex := 14, attributes := #[] }, { accessFlags := 18, nameIndex := 17, descriptorIndex := 18, attributes := #[] }, { accessFlags := 2, nameIndex := 21, descriptorIndex := 22, attributes := #[] }, { accessFlags := 2, nameIndex := 25, descriptorIndex := 26, attributes := #[] }, { accessFlags := 26, nameIndex := 1116, descriptorIndex := 1117, attributes := #[] }, { accessFlags := 24, nameIndex := 40, descriptorIndex := 26, attributes := #[] }, { accessFlags := 26, nameIndex := 1101, descriptorIndex := 1102, attributes := #[] }, { accessFlags := 26, nameIndex := 1121, descriptorIndex := 1122, attributes := #[] }, { accessFlags := 25, nameIndex := 599, descriptorIndex := 600, attributes := #[] }, { accessFlags := 24, nameIndex := 1125, descriptorIndex := 18, attributes := #[] }, { accessFlags := 24, nameIndex := 1127, descriptorIndex := 18, attributes := #[] }])
  fields := #[{ name := "value", type := (.array .byte), accessFlags := 18, slot := 0, constantValue := 0 }, { name := "coder", type := .byte, accessFlags := 18, slot := 1, constantValue := 0 }, { name := "hash", type := .int, accessFlags := 2, slot := 2, constantValue := 0 }, { name := "hashIsZero", type := .boolean, accessFlags := 2, slot := 3, constantValue := 0 }, { name := "serialVersionUID", type := .long, accessFlags := 26, slot := 0, constantValue := 0 }, { name := "COMPACT_STRINGS", type := .boolean, accessFlags := 24, slot := 1, constantValue := 0 }, { name := "serialPersistentFields", type := (.array (.object "java/io/ObjectStreamField")), accessFlags := 26, slot := 2, constantValue := 0 }, { name := "REPL", type := .char, accessFlags := 26, slot := 3, constantValue := 0 }, { name := "CASE_INSENSITIVE_ORDER", type := (.object "java/util/Comparator"), accessFlags := 25, slot := 4, constantValue := 0 }, { name := "LATIN1", type := .byte, accessFlags := 24, slot := 5, constantValue := 0 }, { name := "UTF16", type := .byte, accessFlags := 24, slot := 6, constantValue := 0 }]
  methods := #[k7m0, k7m1, k7m2, k7m3]
  instanceTypes := #[(.array .byte), .byte, .int, .boolean]
  staticTypes := #[.long, .boolean, (.array (.object "java/io/ObjectStreamField")), .char, (.object "java/util/Comparator"), .byte, .byte]
  resolved := Array.replicate 1451 none
  statics := some 0 }

def pool8 : Array CpInfo := pool [(6, .class_ 8), (1, u "java/lang/Object"), (0, u "<init>"), (0, u "()V"), (1, .class_ 14), (1, u "java/lang/StringUTF16"), (31, u "$assertionsDisabled"), (0, u "Z"), (13, u "HI_BYTE_SHIFT"), (0, u "I"), (2, u "LO_BYTE_SHIFT"), (49, .methodref 12 116), (0, .nameAndType 117 118), (0, u "compress"), (0, u "([CI[BII)I"), (3, u "([CII)[B"), (138, u "coderFromArrayLen"), (0, u "([BI)B"), (106, .class_ 371), (1, u "java/lang/StringUTF16$LinesSpliterator"), (58, u "MAX_LENGTH"), (196, .class_ 628), (0, u "java/lang/StringUTF16$CodePointsSpliterator"), (0, .class_ 630), (0, u "java/lang/StringUTF16$CharsSpliterator")] 4

def k8m0 : Method := { name := "<init>", desc := "()V", sig := { parameters := [], returnType := none }, accessFlags := 0, code := none }
def k8c1 : Code := { maxStack := 2, maxLocals := 2, code := jdk_52_method_15_code, exceptionTable := #[], attributes := #[] }
def k8m1 : Method := { name := "coderFromArrayLen", desc := "([BI)B", sig := { parameters := [(.array .byte), .int], returnType := some .byte }, accessFlags := 8, code := some k8c1 }
def k8c2 : Code := { maxStack := 5, maxLocals := 6, code := jdk_52_method_16_code, exceptionTable := #[], attributes := #[] }
def k8m2 : Method := { name := "compress", desc := "([CII)[B", sig := { parameters := [(.array .char), .int, .int], returnType := some (.array .byte) }, accessFlags := 9, code := some k8c2 }
def k8c3 : Code := { maxStack := 3, maxLocals := 7, code := jdk_52_method_21_code, exceptionTable := #[], attributes := #[] }
def k8m3 : Method := { name := "compress", desc := "([CI[BII)I", sig := { parameters := [(.array .char), .int, (.array .byte), .int, .int], returnType := some .int }, accessFlags := 9, code := some k8c3 }
/-- java/lang/StringUTF16 -/
def k8 : Class := { plain "java/lang/StringUTF16" (some 0) with
  accessFlags := 48
  interfaces := #[]
  cf := some (fileOf pool8 12 #[.nestMembers #[627, 629, 369]] #[{ accessFlags := 0, nameIndex := 9, descriptorIndex := 10, attributes := #[] }, { accessFlags := 8, nameIndex := 261, descriptorIndex := 262, attributes := #[] }, { accessFlags := 9, nameIndex := 117, descriptorIndex := 122, attributes := #[] }, { accessFlags := 9, nameIndex := 117, descriptorIndex := 118, attributes := #[] }] 48 6 #[] #[{ accessFlags := 26, nameIndex := 61, descriptorIndex := 62, attributes := #[] }, { accessFlags := 26, nameIndex := 65, descriptorIndex := 62, attributes := #[] }, { accessFlags := 24, nameIndex := 430, descriptorIndex := 62, attributes := #[] }, { accessFlags := 4120, nameIndex := 46, descriptorIndex := 47, attributes := #[] }])
  fields := #[{ name := "HI_BYTE_SHIFT", type := .int, accessFlags := 26, slot := 0, constantValue := 0 }, { name := "LO_BYTE_SHIFT", type := .int, accessFlags := 26, slot := 1, constantValue := 0 }, { name := "MAX_LENGTH", type := .int, accessFlags := 24, slot := 2, constantValue := 0 }, { name := "$assertionsDisabled", type := .boolean, accessFlags := 4120, slot := 3, constantValue := 0 }]
  methods := #[k8m0, k8m1, k8m2, k8m3]
  instanceTypes := #[]
  staticTypes := #[.int, .int, .int, .boolean]
  resolved := Array.replicate 635 none
  statics := none }

def pool9 : Array CpInfo := pool [(1, .methodref 2 3), (0, .class_ 4), (0, .nameAndType 5 6), (0, u "java/lang/Object"), (0, u "<init>"), (0, u "()V"), (0, .class_ 8), (0, u "java/lang/Record")] 13

def k9c0 : Code := { maxStack := 1, maxLocals := 1, code := jdk_30_method_1_code, exceptionTable := #[], attributes := #[] }
def k9m0 : Method := { name := "<init>", desc := "()V", sig := { parameters := [], returnType := none }, accessFlags := 4, code := some k9c0 }
/-- java/lang/Record -/
def k9 : Class := { plain "java/lang/Record" (some 0) with
  accessFlags := 1057
  interfaces := #[]
  cf := some (fileOf pool9 7 #[] #[{ accessFlags := 4, nameIndex := 5, descriptorIndex := 6, attributes := #[] }] 1057 2 #[] #[])
  fields := #[]
  methods := #[k9m0]
  instanceTypes := #[]
  staticTypes := #[]
  resolved := Array.replicate 22 none
  statics := none }

def pool10 : Array CpInfo := pool [(1, .methodref 2 3), (0, .class_ 4), (0, .nameAndType 5 6), (0, u "java/lang/Record"), (0, u "<init>"), (0, u "()V"), (0, .fieldref 8 9), (0, .class_ 10), (0, .nameAndType 11 12), (0, u "com/example/tranche/tranche/model/Row$Field"), (0, u "name"), (0, u "Ljava/lang/String;"), (0, .fieldref 8 14), (0, .nameAndType 15 12), (0, u "text"), (0, .fieldref 8 17), (0, .nameAndType 18 19), (0, u "span"), (0, u "Ljava/util/Optional;"), (0, .fieldref 8 21), (0, .nameAndType 22 23), (0, u "spanFirst"), (0, u "Z"), (0, .methodref 25 26), (0, .class_ 27), (0, .nameAndType 28 29), (0, u "java/util/Optional"), (0, u "empty"), (0, u "()Ljava/util/Optional;"), (0, .methodref 8 31), (0, .nameAndType 5 32), (0, u "(Ljava/lang/String;Ljava/lang/String;Ljava/util/Optional;Z)V"), (0, .methodref 25 34), (0, .nameAndType 35 36), (0, u "of"), (0, u "(Ljava/lang/Object;)Ljava/util/Optional;"), (13, u "stated"), (0, u "(Ljava/lang/String;Ljava/lang/String;Lcom/example/tranche/tranche/model/Span;)Lcom/example/tranche/tranche/model/Row$Field;"), (18, u "given"), (0, u "(Ljava/lang/String;Ljava/lang/String;)Lcom/example/tranche/tranche/model/Row$Field;"), (2, u "withSpanFirst"), (0, u "()Lcom/example/tranche/tranche/model/Row$Field;"), (0, u "()Ljava/lang/String;"), (3, u "()Z"), (3, .class_ 85), (0, u "com/example/tranche/tranche/model/Row")] 22

def k10c0 : Code := { maxStack := 2, maxLocals := 5, code := prog_34_method_1_code, exceptionTable := #[], attributes := #[] }
def k10m0 : Method := { name := "<init>", desc := "(Ljava/lang/String;Ljava/lang/String;Ljava/util/Optional;Z)V", sig := { parameters := [(.object "java/lang/String"), (.object "java/lang/String"), (.object "java/util/Optional"), .boolean], returnType := none }, accessFlags := 1, code := some k10c0 }
def k10c1 : Code := { maxStack := 6, maxLocals := 2, code := prog_34_method_2_code, exceptionTable := #[], attributes := #[] }
def k10m1 : Method := { name := "given", desc := "(Ljava/lang/String;Ljava/lang/String;)Lcom/example/tranche/tranche/model/Row$Field;", sig := { parameters := [(.object "java/lang/String"), (.object "java/lang/String")], returnType := some (.object "com/example/tranche/tranche/model/Row$Field") }, accessFlags := 9, code := some k10c1 }
def k10c2 : Code := { maxStack := 6, maxLocals := 3, code := prog_34_method_3_code, exceptionTable := #[], attributes := #[] }
def k10m2 : Method := { name := "stated", desc := "(Ljava/lang/String;Ljava/lang/String;Lcom/example/tranche/tranche/model/Span;)Lcom/example/tranche/tranche/model/Row$Field;", sig := { parameters := [(.object "java/lang/String"), (.object "java/lang/String"), (.object "com/example/tranche/tranche/model/Span")], returnType := some (.object "com/example/tranche/tranche/model/Row$Field") }, accessFlags := 9, code := some k10c2 }
def k10c3 : Code := { maxStack := 6, maxLocals := 1, code := prog_34_method_5_code, exceptionTable := #[], attributes := #[] }
def k10m3 : Method := { name := "withSpanFirst", desc := "()Lcom/example/tranche/tranche/model/Row$Field;", sig := { parameters := [], returnType := some (.object "com/example/tranche/tranche/model/Row$Field") }, accessFlags := 1, code := some k10c3 }
def k10c4 : Code := { maxStack := 1, maxLocals := 1, code := prog_34_method_9_code, exceptionTable := #[], attributes := #[] }
def k10m4 : Method := { name := "name", desc := "()Ljava/lang/String;", sig := { parameters := [], returnType := some (.object "java/lang/String") }, accessFlags := 1, code := some k10c4 }
def k10c5 : Code := { maxStack := 1, maxLocals := 1, code := prog_34_method_10_code, exceptionTable := #[], attributes := #[] }
def k10m5 : Method := { name := "text", desc := "()Ljava/lang/String;", sig := { parameters := [], returnType := some (.object "java/lang/String") }, accessFlags := 1, code := some k10c5 }
def k10c6 : Code := { maxStack := 1, maxLocals := 1, code := prog_34_method_11_code, exceptionTable := #[], attributes := #[] }
def k10m6 : Method := { name := "span", desc := "()Ljava/util/Optional;", sig := { parameters := [], returnType := some (.object "java/util/Optional") }, accessFlags := 1, code := some k10c6 }
def k10c7 : Code := { maxStack := 1, maxLocals := 1, code := prog_34_method_12_code, exceptionTable := #[], attributes := #[] }
def k10m7 : Method := { name := "spanFirst", desc := "()Z", sig := { parameters := [], returnType := some .boolean }, accessFlags := 1, code := some k10c7 }
/-- com/example/tranche/tranche/model/Row$Field -/
def k10 : Class := { plain "com/example/tranche/tranche/model/Row$Field" (some 9) with
  accessFlags := 49
  interfaces := #[]
  cf := some (fileOf pool10 8 #[.nestHost 84] #[{ accessFlags := 1, nameIndex := 5, descriptorIndex := 32, attributes := #[] }, { accessFlags := 9, nameIndex := 70, descriptorIndex := 71, attributes := #[] }, { accessFlags := 9, nameIndex := 50, descriptorIndex := 51, attributes := #[] }, { accessFlags := 1, nameIndex := 74, descriptorIndex := 75, attributes := #[] }, { accessFlags := 1, nameIndex := 11, descriptorIndex := 76, attributes := #[] }, { accessFlags := 1, nameIndex := 15, descriptorIndex := 76, attributes := #[] }, { accessFlags := 1, nameIndex := 18, descriptorIndex := 29, attributes := #[] }, { accessFlags := 1, nameIndex := 22, descriptorIndex := 80, attributes := #[] }] 49 2 #[] #[{ accessFlags := 18, nameIndex := 11, descriptorIndex := 12, attributes := #[] }, { accessFlags := 18, nameIndex := 15, descriptorIndex := 12, attributes := #[] }, { accessFlags := 18, nameIndex := 18, descriptorIndex := 19, attributes := #[] }, { accessFlags := 18, nameIndex := 22, descriptorIndex := 23, attributes := #[] }])
  fields := #[{ name := "name", type := (.object "java/lang/String"), accessFlags := 18, slot := 0, constantValue := 0 }, { name := "text", type := (.object "java/lang/String"), accessFlags := 18, slot := 1, constantValue := 0 }, { name := "span", type := (.object "java/util/Optional"), accessFlags := 18, slot := 2, constantValue := 0 }, { name := "spanFirst", type := .boolean, accessFlags := 18, slot := 3, constantValue := 0 }]
  methods := #[k10m0, k10m1, k10m2, k10m3, k10m4, k10m5, k10m6, k10m7]
  instanceTypes := #[(.object "java/lang/String"), (.object "java/lang/String"), (.object "java/util/Optional"), .boolean]
  staticTypes := #[]
  resolved := Array.replicate 108 none
  statics := none }

def pool11 : Array CpInfo := pool [(1, .fieldref 2 3), (0, .class_ 4), (0, .nameAndType 5 6), (0, u "java/util/Optional"), (0, u "EMPTY"), (0, u "Ljava/util/Optional;"), (0, .methodref 8 9), (0, .class_ 10), (0, .nameAndType 11 12), (0, u "java/lang/Object"), (0, u "<init>"), (0, u "()V"), (0, .fieldref 2 14), (0, .nameAndType 15 16), (0, u "value"), (0, u "Ljava/lang/Object;"), (0, .methodref 18 19), (0, .class_ 20), (0, .nameAndType 21 22), (0, u "java/util/Objects"), (0, u "requireNonNull"), (0, u "(Ljava/lang/Object;)Ljava/lang/Object;"), (0, .methodref 2 24), (0, .nameAndType 11 25), (0, u "(Ljava/lang/Object;)V"), (29, u "empty"), (0, u "()Ljava/util/Optional;"), (8, u "(Ljava/lang/Object;)Ljava/util/Optional;"), (16, u "of")] 104

def k11c0 : Code := { maxStack := 1, maxLocals := 1, code := jdk_32_method_1_code, exceptionTable := #[], attributes := #[] }
def k11m0 : Method := { name := "empty", desc := "()Ljava/util/Optional;", sig := { parameters := [], returnType := some (.object "java/util/Optional") }, accessFlags := 9, code := some k11c0 }
def k11c1 : Code := { maxStack := 2, maxLocals := 2, code := jdk_32_method_2_code, exceptionTable := #[], attributes := #[] }
def k11m1 : Method := { name := "<init>", desc := "(Ljava/lang/Object;)V", sig := { parameters := [(.object "java/lang/Object")], returnType := none }, accessFlags := 2, code := some k11c1 }
def k11c2 : Code := { maxStack := 3, maxLocals := 1, code := jdk_32_method_3_code, exceptionTable := #[], attributes := #[] }
def k11m2 : Method := { name := "of", desc := "(Ljava/lang/Object;)Ljava/util/Optional;", sig := { parameters := [(.object "java/lang/Object")], returnType := some (.object "java/util/Optional") }, accessFlags := 9, code := some k11c2 }
/-- java/util/Optional -/
def k11 : Class := { plain "java/util/Optional" (some 0) with
  accessFlags := 49
  interfaces := #[]
  cf := some (fileOf pool11 2 #[] #[{ accessFlags := 9, nameIndex := 55, descriptorIndex := 56, attributes := #[] }, { accessFlags := 2, nameIndex := 11, descriptorIndex := 25, attributes := #[] }, { accessFlags := 9, nameIndex := 82, descriptorIndex := 65, attributes := #[] }] 49 8 #[] #[{ accessFlags := 26, nameIndex := 5, descriptorIndex := 6, attributes := #[] }, { accessFlags := 18, nameIndex := 15, descriptorIndex := 16, attributes := #[] }])
  fields := #[{ name := "EMPTY", type := (.object "java/util/Optional"), accessFlags := 26, slot := 0, constantValue := 0 }, { name := "value", type := (.object "java/lang/Object"), accessFlags := 18, slot := 0, constantValue := 0 }]
  methods := #[k11m0, k11m1, k11m2]
  instanceTypes := #[(.object "java/lang/Object")]
  staticTypes := #[(.object "java/util/Optional")]
  resolved := Array.replicate 187 none
  statics := some 1 }

def pool12 : Array CpInfo := pool [(1, .methodref 2 3), (0, .class_ 4), (0, .nameAndType 5 6), (0, u "java/lang/Record"), (0, u "<init>"), (0, u "()V"), (9, .fieldref 17 18), (0, .class_ 19), (0, .nameAndType 20 21), (0, u "com/example/tranche/tranche/model/Span"), (0, u "start"), (0, u "I"), (0, .fieldref 17 23), (0, .nameAndType 24 21), (0, u "end"), (24, u "(II)V")] 40

def k12c0 : Code := { maxStack := 4, maxLocals := 3, code := prog_35_method_1_code, exceptionTable := #[], attributes := #[] }
def k12m0 : Method := { name := "<init>", desc := "(II)V", sig := { parameters := [.int, .int], returnType := none }, accessFlags := 1, code := some k12c0 }
/-- com/example/tranche/tranche/model/Span -/
def k12 : Class := { plain "com/example/tranche/tranche/model/Span" (some 9) with
  accessFlags := 49
  interfaces := #[]
  cf := some (fileOf pool12 17 #[] #[{ accessFlags := 1, nameIndex := 5, descriptorIndex := 49, attributes := #[] }] 49 2 #[] #[{ accessFlags := 18, nameIndex := 20, descriptorIndex := 21, attributes := #[] }, { accessFlags := 18, nameIndex := 24, descriptorIndex := 21, attributes := #[] }])
  fields := #[{ name := "start", type := .int, accessFlags := 18, slot := 0, constantValue := 0 }, { name := "end", type := .int, accessFlags := 18, slot := 1, constantValue := 0 }]
  methods := #[k12m0]
  instanceTypes := #[.int, .int]
  staticTypes := #[]
  resolved := Array.replicate 90 none
  statics := none }

def pool13 : Array CpInfo := pool [(1, .class_ 2), (0, u "java/lang/Math"), (1, .class_ 6), (1, u "java/lang/Object"), (0, u "<init>"), (0, u "()V"), (89, .class_ 100), (1, u "java/lang/Math$RandomNumberGeneratorHolder"), (71, u "negativeZeroFloatBits"), (0, u "J"), (2, u "negativeZeroDoubleBits"), (21, u "max"), (2, u "min"), (43, u "$assertionsDisabled"), (0, u "Z"), (88, u "(II)I"), (2, u "twoToTheDoubleScaleDown"), (0, u "D"), (4, u "twoToTheDoubleScaleUp"), (9, u "E"), (3, u "PI"), (2, u "TAU"), (2, u "DEGREES_TO_RADIANS"), (0, u "RADIANS_TO_DEGREES")] 94

def k13m0 : Method := { name := "<init>", desc := "()V", sig := { parameters := [], returnType := none }, accessFlags := 2, code := none }
def k13c1 : Code := { maxStack := 2, maxLocals := 2, code := jdk_29_method_65_code, exceptionTable := #[], attributes := #[] }
def k13m1 : Method := { name := "max", desc := "(II)I", sig := { parameters := [.int, .int], returnType := some .int }, accessFlags := 9, code := some k13c1 }
def k13c2 : Code := { maxStack := 2, maxLocals := 2, code := jdk_29_method_69_code, exceptionTable := #[], attributes := #[] }
def k13m2 : Method := { name := "min", desc := "(II)I", sig := { parameters := [.int, .int], returnType := some .int }, accessFlags := 9, code := some k13c2 }
/-- java/lang/Math -/
def k13 : Class := { plain "java/lang/Math" (some 0) with
  accessFlags := 49
  interfaces := #[]
  cf := some (fileOf pool13 1 #[.nestMembers #[98]] #[{ accessFlags := 2, nameIndex := 7, descriptorIndex := 8, attributes := #[] }, { accessFlags := 9, nameIndex := 198, descriptorIndex := 335, attributes := #[] }, { accessFlags := 9, nameIndex := 201, descriptorIndex := 335, attributes := #[] }] 49 4 #[] #[{ accessFlags := 25, nameIndex := 354, descriptorIndex := 339, attributes := #[] }, { accessFlags := 25, nameIndex := 358, descriptorIndex := 339, attributes := #[] }, { accessFlags := 25, nameIndex := 361, descriptorIndex := 339, attributes := #[] }, { accessFlags := 26, nameIndex := 364, descriptorIndex := 339, attributes := #[] }, { accessFlags := 26, nameIndex := 365, descriptorIndex := 339, attributes := #[] }, { accessFlags := 26, nameIndex := 172, descriptorIndex := 173, attributes := #[] }, { accessFlags := 26, nameIndex := 176, descriptorIndex := 173, attributes := #[] }, { accessFlags := 8, nameIndex := 344, descriptorIndex := 339, attributes := #[] }, { accessFlags := 8, nameIndex := 338, descriptorIndex := 339, attributes := #[] }, { accessFlags := 4120, nameIndex := 245, descriptorIndex := 246, attributes := #[] }])
  fields := #[{ name := "E", type := .double, accessFlags := 25, slot := 0, constantValue := 0 }, { name := "PI", type := .double, accessFlags := 25, slot := 1, constantValue := 0 }, { name := "TAU", type := .double, accessFlags := 25, slot := 2, constantValue := 0 }, { name := "DEGREES_TO_RADIANS", type := .double, accessFlags := 26, slot := 3, constantValue := 0 }, { name := "RADIANS_TO_DEGREES", type := .double, accessFlags := 26, slot := 4, constantValue := 0 }, { name := "negativeZeroFloatBits", type := .long, accessFlags := 26, slot := 5, constantValue := 0 }, { name := "negativeZeroDoubleBits", type := .long, accessFlags := 26, slot := 6, constantValue := 0 }, { name := "twoToTheDoubleScaleUp", type := .double, accessFlags := 8, slot := 7, constantValue := 0 }, { name := "twoToTheDoubleScaleDown", type := .double, accessFlags := 8, slot := 8, constantValue := 0 }, { name := "$assertionsDisabled", type := .boolean, accessFlags := 4120, slot := 9, constantValue := 0 }]
  methods := #[k13m0, k13m1, k13m2]
  instanceTypes := #[]
  staticTypes := #[.double, .double, .double, .double, .double, .long, .long, .double, .double, .boolean]
  resolved := Array.replicate 460 none
  statics := none }

def pool14 : Array CpInfo := pool [(2, .class_ 4), (1, u "java/lang/Object"), (0, u "<init>"), (0, u "()V"), (35, .class_ 44), (1, u "java/util/Objects"), (0, u "requireNonNull"), (0, u "(Ljava/lang/Object;)Ljava/lang/Object;")] 137

def k14m0 : Method := { name := "<init>", desc := "()V", sig := { parameters := [], returnType := none }, accessFlags := 2, code := none }
def k14c1 : Code := { maxStack := 2, maxLocals := 1, code := jdk_31_method_10_code, exceptionTable := #[], attributes := #[] }
def k14m1 : Method := { name := "requireNonNull", desc := "(Ljava/lang/Object;)Ljava/lang/Object;", sig := { parameters := [(.object "java/lang/Object")], returnType := some (.object "java/lang/Object") }, accessFlags := 9, code := some k14c1 }
/-- java/util/Objects -/
def k14 : Class := { plain "java/util/Objects" (some 0) with
  accessFlags := 49
  interfaces := #[]
  cf := some (fileOf pool14 42 #[] #[{ accessFlags := 2, nameIndex := 5, descriptorIndex := 6, attributes := #[] }, { accessFlags := 9, nameIndex := 45, descriptorIndex := 46, attributes := #[] }] 49 2 #[] #[])
  fields := #[]
  methods := #[k14m0, k14m1]
  instanceTypes := #[]
  staticTypes := #[]
  resolved := Array.replicate 184 none
  statics := none }

def pool15 : Array CpInfo := pool [(4, .class_ 6), (1, u "java/lang/Object"), (0, u "<init>"), (0, u "()V"), (5, .class_ 16), (1, u "java/lang/StringLatin1"), (104, u "$assertionsDisabled"), (0, u "Z"), (98, .class_ 223), (1, u "java/lang/StringLatin1$LinesSpliterator"), (166, .class_ 391), (0, u "java/lang/StringLatin1$CharsSpliterator")] 3

def k15m0 : Method := { name := "<init>", desc := "()V", sig := { parameters := [], returnType := none }, accessFlags := 0, code := none }
/-- java/lang/StringLatin1 -/
def k15 : Class := { plain "java/lang/StringLatin1" (some 0) with
  accessFlags := 48
  interfaces := #[]
  cf := some (fileOf pool15 14 #[.nestMembers #[390, 221]] #[{ accessFlags := 0, nameIndex := 7, descriptorIndex := 8, attributes := #[] }] 48 4 #[] #[{ accessFlags := 4120, nameIndex := 121, descriptorIndex := 122, attributes := #[] }])
  fields := #[{ name := "$assertionsDisabled", type := .boolean, accessFlags := 4120, slot := 0, constantValue := 0 }]
  methods := #[k15m0]
  instanceTypes := #[]
  staticTypes := #[.boolean]
  resolved := Array.replicate 395 none
  statics := none }

def pool16 : Array CpInfo := pool [(2, .class_ 4), (1, u "java/lang/Object"), (0, u "<init>"), (0, u "()V"), (17, .class_ 26), (1, u "jdk/internal/util/Preconditions"), (28, .class_ 56), (0, u "jdk/internal/util/Preconditions$4"), (57, .class_ 115), (0, u "jdk/internal/util/Preconditions$1"), (7, u "SIOOBE_FORMATTER"), (0, u "Ljava/util/function/BiFunction;"), (0, .class_ 126), (0, u "jdk/internal/util/Preconditions$2"), (3, u "AIOOBE_FORMATTER"), (0, .class_ 132), (0, u "jdk/internal/util/Preconditions$3"), (3, u "IOOBE_FORMATTER")] 57

def k16m0 : Method := { name := "<init>", desc := "()V", sig := { parameters := [], returnType := none }, accessFlags := 1, code := none }
/-- jdk/internal/util/Preconditions -/
def k16 : Class := { plain "jdk/internal/util/Preconditions" (some 0) with
  accessFlags := 33
  interfaces := #[]
  cf := some (fileOf pool16 24 #[.nestMembers #[55, 131, 125, 114]] #[{ accessFlags := 1, nameIndex := 5, descriptorIndex := 6, attributes := #[] }] 33 2 #[] #[{ accessFlags := 25, nameIndex := 123, descriptorIndex := 124, attributes := #[] }, { accessFlags := 25, nameIndex := 130, descriptorIndex := 124, attributes := #[] }, { accessFlags := 25, nameIndex := 136, descriptorIndex := 124, attributes := #[] }])
  fields := #[{ name := "SIOOBE_FORMATTER", type := (.object "java/util/function/BiFunction"), accessFlags := 25, slot := 0, constantValue := 0 }, { name := "AIOOBE_FORMATTER", type := (.object "java/util/function/BiFunction"), accessFlags := 25, slot := 1, constantValue := 0 }, { name := "IOOBE_FORMATTER", type := (.object "java/util/function/BiFunction"), accessFlags := 25, slot := 2, constantValue := 0 }]
  methods := #[k16m0]
  instanceTypes := #[]
  staticTypes := #[(.object "java/util/function/BiFunction"), (.object "java/util/function/BiFunction"), (.object "java/util/function/BiFunction")]
  resolved := Array.replicate 194 none
  statics := some 2 }

def pool17 : Array CpInfo := pool [(9, u "<init>"), (6, .class_ 18), (1, u "java/lang/Object"), (0, u "()V"), (1, .class_ 23), (1, u "jdk/internal/util/ArraysSupport"), (0, u "LOG2_ARRAY_LONG_INDEX_SCALE"), (0, u "I"), (2, u "U"), (0, u "Ljdk/internal/misc/Unsafe;"), (8, u "BIG_ENDIAN"), (0, u "Z"), (8, u "LOG2_BYTE_BIT_SIZE"), (4, u "LOG2_ARRAY_INT_INDEX_SCALE"), (54, u "JLA"), (0, u "Ljdk/internal/access/JavaLangAccess;"), (11, u "LOG2_ARRAY_BOOLEAN_INDEX_SCALE"), (9, u "LOG2_ARRAY_BYTE_INDEX_SCALE"), (5, u "LOG2_ARRAY_CHAR_INDEX_SCALE"), (5, u "LOG2_ARRAY_SHORT_INDEX_SCALE"), (18, u "LOG2_ARRAY_FLOAT_INDEX_SCALE"), (24, u "LOG2_ARRAY_DOUBLE_INDEX_SCALE"), (89, u "T_BOOLEAN"), (2, u "T_CHAR"), (1, u "T_FLOAT"), (1, u "T_DOUBLE"), (1, u "T_BYTE"), (1, u "T_SHORT"), (1, u "T_INT"), (1, u "T_LONG"), (1, u "SOFT_MAX_ARRAY_LENGTH")] 83

def k17m0 : Method := { name := "<init>", desc := "()V", sig := { parameters := [], returnType := none }, accessFlags := 2, code := none }
/-- jdk/internal/util/ArraysSupport -/
def k17 : Class := { plain "jdk/internal/util/ArraysSupport" (some 0) with
  accessFlags := 33
  interfaces := #[]
  cf := some (fileOf pool17 21 #[] #[{ accessFlags := 2, nameIndex := 9, descriptorIndex := 19, attributes := #[] }] 33 16 #[] #[{ accessFlags := 24, nameIndex := 28, descriptorIndex := 29, attributes := #[] }, { accessFlags := 26, nameIndex := 38, descriptorIndex := 39, attributes := #[] }, { accessFlags := 25, nameIndex := 121, descriptorIndex := 25, attributes := #[] }, { accessFlags := 25, nameIndex := 131, descriptorIndex := 25, attributes := #[] }, { accessFlags := 25, nameIndex := 137, descriptorIndex := 25, attributes := #[] }, { accessFlags := 25, nameIndex := 143, descriptorIndex := 25, attributes := #[] }, { accessFlags := 25, nameIndex := 53, descriptorIndex := 25, attributes := #[] }, { accessFlags := 25, nameIndex := 24, descriptorIndex := 25, attributes := #[] }, { accessFlags := 25, nameIndex := 162, descriptorIndex := 25, attributes := #[] }, { accessFlags := 25, nameIndex := 187, descriptorIndex := 25, attributes := #[] }, { accessFlags := 26, nameIndex := 48, descriptorIndex := 25, attributes := #[] }, { accessFlags := 25, nameIndex := 277, descriptorIndex := 25, attributes := #[] }, { accessFlags := 25, nameIndex := 280, descriptorIndex := 25, attributes := #[] }, { accessFlags := 25, nameIndex := 282, descriptorIndex := 25, attributes := #[] }, { accessFlags := 25, nameIndex := 284, descriptorIndex := 25, attributes := #[] }, { accessFlags := 25, nameIndex := 286, descriptorIndex := 25, attributes := #[] }, { accessFlags := 25, nameIndex := 288, descriptorIndex := 25, attributes := #[] }, { accessFlags := 25, nameIndex := 290, descriptorIndex := 25, attributes := #[] }, { accessFlags := 25, nameIndex := 292, descriptorIndex := 25, attributes := #[] }, { accessFlags := 26, nameIndex := 108, descriptorIndex := 109, attributes := #[] }, { accessFlags := 25, nameIndex := 294, descriptorIndex := 25, attributes := #[] }])
  fields := #[{ name := "U", type := (.object "jdk/internal/misc/Unsafe"), accessFlags := 24, slot := 0, constantValue := 0 }, { name := "BIG_ENDIAN", type := .boolean, accessFlags := 26, slot := 1, constantValue := 0 }, { name := "LOG2_ARRAY_BOOLEAN_INDEX_SCALE", type := .int, accessFlags := 25, slot := 2, constantValue := 0 }, { name := "LOG2_ARRAY_BYTE_INDEX_SCALE", type := .int, accessFlags := 25, slot := 3, constantValue := 0 }, { name := "LOG2_ARRAY_CHAR_INDEX_SCALE", type := .int, accessFlags := 25, slot := 4, constantValue := 0 }, { name := "LOG2_ARRAY_SHORT_INDEX_SCALE", type := .int, accessFlags := 25, slot := 5, constantValue := 0 }, { name := "LOG2_ARRAY_INT_INDEX_SCALE", type := .int, accessFlags := 25, slot := 6, constantValue := 0 }, { name := "LOG2_ARRAY_LONG_INDEX_SCALE", type := .int, accessFlags := 25, slot := 7, constantValue := 0 }, { name := "LOG2_ARRAY_FLOAT_INDEX_SCALE", type := .int, accessFlags := 25, slot := 8, constantValue := 0 }, { name := "LOG2_ARRAY_DOUBLE_INDEX_SCALE", type := .int, accessFlags := 25, slot := 9, constantValue := 0 }, { name := "LOG2_BYTE_BIT_SIZE", type := .int, accessFlags := 26, slot := 10, constantValue := 0 }, { name := "T_BOOLEAN", type := .int, accessFlags := 25, slot := 11, constantValue := 0 }, { name := "T_CHAR", type := .int, accessFlags := 25, slot := 12, constantValue := 0 }, { name := "T_FLOAT", type := .int, accessFlags := 25, slot := 13, constantValue := 0 }, { name := "T_DOUBLE", type := .int, accessFlags := 25, slot := 14, constantValue := 0 }, { name := "T_BYTE", type := .int, accessFlags := 25, slot := 15, constantValue := 0 }, { name := "T_SHORT", type := .int, accessFlags := 25, slot := 16, constantValue := 0 }, { name := "T_INT", type := .int, accessFlags := 25, slot := 17, constantValue := 0 }, { name := "T_LONG", type := .int, accessFlags := 25, slot := 18, constantValue := 0 }, { name := "JLA", type := (.object "jdk/internal/access/JavaLangAccess"), accessFlags := 26, slot := 19, constantValue := 0 }, { name := "SOFT_MAX_ARRAY_LENGTH", type := .int, accessFlags := 25, slot := 20, constantValue := 0 }]
  methods := #[k17m0]
  instanceTypes := #[]
  staticTypes := #[(.object "jdk/internal/misc/Unsafe"), .boolean, .int, .int, .int, .int, .int, .int, .int, .int, .int, .int, .int, .int, .int, .int, .int, .int, .int, (.object "jdk/internal/access/JavaLangAccess"), .int]
  resolved := Array.replicate 378 none
  statics := none }

def pool18 : Array CpInfo := pool [(1, u "java/lang/Cloneable"), (0, .class_ 1), (0, u "java/lang/Object"), (0, .class_ 3)] 3

/-- java/lang/Cloneable -/
def k18 : Class := { plain "java/lang/Cloneable" (some 0) with
  accessFlags := 1537
  interfaces := #[]
  cf := some (fileOf pool18 2 #[] #[] 1537 4 #[] #[])
  fields := #[]
  methods := #[]
  instanceTypes := #[]
  staticTypes := #[]
  resolved := Array.replicate 8 none
  statics := none }

/-- the primitive byte -/
def k19 : Class := { plain "byte" none with kind := .primitive 'B', accessFlags := 0x411 }
/-- [B -/
def k20 : Class := { plain "[B" (some 0) with kind := .array 19 .byte, interfaces := #[18, 2], accessFlags := 1041 }

/-- the primitive char -/
def k21 : Class := { plain "char" none with kind := .primitive 'C', accessFlags := 0x411 }
/-- [C -/
def k22 : Class := { plain "[C" (some 0) with kind := .array 21 .char, interfaces := #[18, 2], accessFlags := 1041 }

/-- the primitive int -/
def k23 : Class := { plain "int" none with kind := .primitive 'I', accessFlags := 0x411 }
/-- [I -/
def k24 : Class := { plain "[I" (some 0) with kind := .array 23 .int, interfaces := #[18, 2], accessFlags := 1041 }

def heap : Heap := #[{ cls := 7, slots := #[.long 0, .int 1, .null, .int 0, .null, .int 0, .int 0], vm := .statics 7 },
  { cls := 11, slots := #[.ref 3], vm := .statics 11 },
  { cls := 16, slots := #[.null, .null, .null], vm := .statics 16 },
  { cls := 11, slots := #[.null], vm := .none }]
def classes : Array Class := #[k0, k1, k2, k3, k4, k5, k6, k7, k8, k9, k10, k11, k12, k13, k14, k15, k16, k17, k18, k19, k20, k21, k22, k23, k24]
def interned : List (Array UInt16 × Addr) := []
def slotsUsed : Nat := 12
def theMethod : MethodId := ⟨1, 1⟩
def args0 : Array Value := #[.int 1, .int 2, .int 3, .int 4, .int 5]
def aboutOver (below : List Frame) : State where
  vm := { classes := classes, interned := interned.toArray }
  heap := heap
  slotsUsed := slotsUsed
  threads := #[{ frames := .invoking theMethod args0 :: below }]
def below0 : List Frame := [.native { method := ⟨0, 0⟩, args := #[] }]
def about1 : State := aboutOver below0
def p0 : Program := .bare "" "" ""
def e0 : Env := launch0.env 0 0 0
theorem w_frames : about1.frames = Frame.invoking theMethod args0 :: below0 := rfl
set_option maxRecDepth 65536 in
theorem w_args : argsFit about1.vm theMethod args0 = true := by decide +kernel
set_option maxRecDepth 65536 in
theorem w_heap : heapFits about1 = true := by decide +kernel
set_option maxRecDepth 65536 in
theorem w_runnable : about1.curStatus? = some .runnable := by decide +kernel
set_option maxRecDepth 65536 in
theorem w_alone : about1.alone = true := by decide +kernel
set_option maxRecDepth 65536 in
theorem w_named : about1.methodNamed? x = some theMethod := by decide +kernel
set_option maxRecDepth 65536 in
theorem w_hears : about1.hears theMethod below0 = true := by decide +kernel
set_option maxRecDepth 65536 in
theorem w_ripe : about1.ripe theMethod args0 below0 = true := by decide +kernel
theorem w_running : about1.status = .running := rfl
set_option maxRecDepth 65536 in
theorem w_room : about1.hasRoom e0.platform room_1 = true :=
  launch0.hasRoom_least _ room_1 (by decide +kernel) (by decide +kernel) (by decide +kernel) (by decide +kernel) (by decide +kernel) (by decide +kernel)
theorem allAtoms_all (ts : List Jvm.Cond) (a : Array Jvm.Value) (st : Jvm.State) : (allAtoms ts).before a st = ts.all (fun c => c.before a st) := by
  induction ts with
  | nil => rfl
  | cons c t ih =>
    show (Jvm.Cond.and c (allAtoms t)).before a st = _
    rw [Jvm.Cond.before_and, ih, List.all_cons]
def words1 : List Jvm.Cond := Jvm.Cond.code x code maxLocals ret :: tables_1
/-- a 'code' word, met by the world's own term for the bytes: nothing is compared byte by byte -/
theorem code_word {y : MethodName} {bytes : ByteArray} {mx : Nat} {rt : Option FieldType} {a : Array Value} {s : State} {m : MethodId} {meth : Method} {c : Code} (h1 : s.methodNamed? y = some m) (h2 : s.vm.method? m = some meth) (h3 : meth.code = some c) (h4 : c.code = bytes)
    (h5 : (c.maxLocals == mx && c.exceptionTable.isEmpty && decide (c.maxStack ≤ mostOperands) && decide (meth.sig.returnType = rt) && !meth.locks && decide (parseMethodDescriptor y.desc = some meth.sig)) = true) : (Jvm.Cond.code y bytes mx rt).before a s = true := by
  simp only [Bool.and_eq_true, beq_iff_eq, Bool.not_eq_true', decide_eq_true_eq] at h5
  obtain ⟨⟨⟨⟨⟨g1, g2⟩, g3⟩, g4⟩, g5⟩, g6⟩ := h5
  simp [Cond.before, Cond.holds, Cond.value, h1, h2, h3, h4, g1, g2, g3, g4, g5, g6]
def isCode : Jvm.Cond → Bool
  | .code _ _ _ _ => true
  | _ => false
theorem all_split {L : List Jvm.Cond} {P : Jvm.Cond → Bool} (h1 : L.all (fun c => isCode c || P c) = true) (h2 : ∀ c ∈ L.filter isCode, P c = true) : L.all P = true := by
  refine List.all_eq_true.mpr fun c hc => ?_
  have h := List.all_eq_true.mp h1 c hc
  rcases Bool.eq_false_or_eq_true (isCode c) with hi | hi
  · exact h2 c (List.mem_filter.mpr ⟨hc, hi⟩)
  · simpa [hi] using h
set_option maxRecDepth 65536 in
theorem w_c0 : (Jvm.Cond.code x code maxLocals ret).before args0 about1 = true := code_word (m := ⟨1, 1⟩) (meth := k1m1) (c := k1c1) (by decide +kernel) rfl rfl rfl (by decide +kernel)
set_option maxRecDepth 65536 in
theorem w_c1 : (Jvm.Cond.code ({ cls := "java/lang/String", name := "<init>", desc := "([C)V" } : Jvm.MethodName) jdk_42_method_3_code (2 : Nat) (Option.none : Option Jvm.ClassFile.FieldType)).before args0 about1 = true := code_word (m := ⟨7, 1⟩) (meth := k7m1) (c := k7c1) (by decide +kernel) rfl rfl rfl (by decide +kernel)
set_option maxRecDepth 65536 in
theorem w_c2 : (Jvm.Cond.code ({ cls := "java/lang/String", name := "<init>", desc := "([CIILjava/lang/Void;)V" } : Jvm.MethodName) jdk_42_method_149_code (6 : Nat) (Option.none : Option Jvm.ClassFile.FieldType)).before args0 about1 = true := code_word (m := ⟨7, 3⟩) (meth := k7m3) (c := k7c3) (by decide +kernel) rfl rfl rfl (by decide +kernel)
set_option maxRecDepth 65536 in
theorem w_c3 : (Jvm.Cond.code ({ cls := "java/lang/Object", name := "<init>", desc := "()V" } : Jvm.MethodName) object_method_1_code (1 : Nat) (Option.none : Option Jvm.ClassFile.FieldType)).before args0 about1 = true := code_word (m := ⟨0, 0⟩) (meth := k0m0) (c := k0c0) (by decide +kernel) rfl rfl rfl (by decide +kernel)
set_option maxRecDepth 65536 in
theorem w_c4 : (Jvm.Cond.code ({ cls := "java/lang/StringUTF16", name := "compress", desc := "([CII)[B" } : Jvm.MethodName) jdk_52_method_16_code (6 : Nat) (Option.some (Jvm.ClassFile.FieldType.array Jvm.ClassFile.FieldType.byte))).before args0 about1 = true := code_word (m := ⟨8, 2⟩) (meth := k8m2) (c := k8c2) (by decide +kernel) rfl rfl rfl (by decide +kernel)
set_option maxRecDepth 65536 in
theorem w_c5 : (Jvm.Cond.code ({ cls := "java/lang/StringUTF16", name := "compress", desc := "([CI[BII)I" } : Jvm.MethodName) jdk_52_method_21_code (7 : Nat) (Option.some Jvm.ClassFile.FieldType.int)).before args0 about1 = true := code_word (m := ⟨8, 3⟩) (meth := k8m3) (c := k8c3) (by decide +kernel) rfl rfl rfl (by decide +kernel)
set_option maxRecDepth 65536 in
theorem w_c6 : (Jvm.Cond.code ({ cls := "java/lang/StringUTF16", name := "coderFromArrayLen", desc := "([BI)B" } : Jvm.MethodName) jdk_52_method_15_code (2 : Nat) (Option.some Jvm.ClassFile.FieldType.byte)).before args0 about1 = true := code_word (m := ⟨8, 1⟩) (meth := k8m1) (c := k8c1) (by decide +kernel) rfl rfl rfl (by decide +kernel)
set_option maxRecDepth 65536 in
theorem w_c7 : (Jvm.Cond.code ({ cls := "com/example/tranche/tranche/model/Row$Field", name := "given", desc := "(Ljava/lang/String;Ljava/lang/String;)Lcom/example/tranche/tranche/model/Row$Field;" } : Jvm.MethodName) prog_34_method_2_code (2 : Nat) (Option.some (Jvm.ClassFile.FieldType.object "com/example/tranche/tranche/model/Row$Field"))).before args0 about1 = true := code_word (m := ⟨10, 1⟩) (meth := k10m1) (c := k10c1) (by decide +kernel) rfl rfl rfl (by decide +kernel)
set_option maxRecDepth 65536 in
theorem w_c8 : (Jvm.Cond.code ({ cls := "java/util/Optional", name := "empty", desc := "()Ljava/util/Optional;" } : Jvm.MethodName) jdk_32_method_1_code (1 : Nat) (Option.some (Jvm.ClassFile.FieldType.object "java/util/Optional"))).before args0 about1 = true := code_word (m := ⟨11, 0⟩) (meth := k11m0) (c := k11c0) (by decide +kernel) rfl rfl rfl (by decide +kernel)
set_option maxRecDepth 65536 in
theorem w_c9 : (Jvm.Cond.code ({ cls := "com/example/tranche/tranche/model/Row$Field", name := "<init>", desc := "(Ljava/lang/String;Ljava/lang/String;Ljava/util/Optional;Z)V" } : Jvm.MethodName) prog_34_method_1_code (5 : Nat) (Option.none : Option Jvm.ClassFile.FieldType)).before args0 about1 = true := code_word (m := ⟨10, 0⟩) (meth := k10m0) (c := k10c0) (by decide +kernel) rfl rfl rfl (by decide +kernel)
set_option maxRecDepth 65536 in
theorem w_c10 : (Jvm.Cond.code ({ cls := "java/lang/Record", name := "<init>", desc := "()V" } : Jvm.MethodName) jdk_30_method_1_code (1 : Nat) (Option.none : Option Jvm.ClassFile.FieldType)).before args0 about1 = true := code_word (m := ⟨9, 0⟩) (meth := k9m0) (c := k9c0) (by decide +kernel) rfl rfl rfl (by decide +kernel)
set_option maxRecDepth 65536 in
theorem w_c11 : (Jvm.Cond.code ({ cls := "com/example/tranche/tranche/model/Row$Field", name := "span", desc := "()Ljava/util/Optional;" } : Jvm.MethodName) prog_34_method_11_code (1 : Nat) (Option.some (Jvm.ClassFile.FieldType.object "java/util/Optional"))).before args0 about1 = true := code_word (m := ⟨10, 6⟩) (meth := k10m6) (c := k10c6) (by decide +kernel) rfl rfl rfl (by decide +kernel)
set_option maxRecDepth 65536 in
theorem w_c12 : (Jvm.Cond.code ({ cls := "com/example/tranche/tranche/model/Row$Field", name := "withSpanFirst", desc := "()Lcom/example/tranche/tranche/model/Row$Field;" } : Jvm.MethodName) prog_34_method_5_code (1 : Nat) (Option.some (Jvm.ClassFile.FieldType.object "com/example/tranche/tranche/model/Row$Field"))).before args0 about1 = true := code_word (m := ⟨10, 3⟩) (meth := k10m3) (c := k10c3) (by decide +kernel) rfl rfl rfl (by decide +kernel)
set_option maxRecDepth 65536 in
theorem w_c13 : (Jvm.Cond.code ({ cls := "com/example/tranche/tranche/model/Row$Field", name := "name", desc := "()Ljava/lang/String;" } : Jvm.MethodName) prog_34_method_9_code (1 : Nat) (Option.some (Jvm.ClassFile.FieldType.object "java/lang/String"))).before args0 about1 = true := code_word (m := ⟨10, 4⟩) (meth := k10m4) (c := k10c4) (by decide +kernel) rfl rfl rfl (by decide +kernel)
set_option maxRecDepth 65536 in
theorem w_c14 : (Jvm.Cond.code ({ cls := "java/lang/String", name := "equals", desc := "(Ljava/lang/Object;)Z" } : Jvm.MethodName) jdk_42_method_66_code (3 : Nat) (Option.some Jvm.ClassFile.FieldType.boolean)).before args0 about1 = true := code_word (m := ⟨7, 2⟩) (meth := k7m2) (c := k7c2) (by decide +kernel) rfl rfl rfl (by decide +kernel)
set_option maxRecDepth 65536 in
theorem w_c15 : (Jvm.Cond.code ({ cls := "com/example/tranche/tranche/model/Row$Field", name := "text", desc := "()Ljava/lang/String;" } : Jvm.MethodName) prog_34_method_10_code (1 : Nat) (Option.some (Jvm.ClassFile.FieldType.object "java/lang/String"))).before args0 about1 = true := code_word (m := ⟨10, 5⟩) (meth := k10m5) (c := k10c5) (by decide +kernel) rfl rfl rfl (by decide +kernel)
set_option maxRecDepth 65536 in
theorem w_c16 : (Jvm.Cond.code ({ cls := "com/example/tranche/tranche/model/Row$Field", name := "spanFirst", desc := "()Z" } : Jvm.MethodName) prog_34_method_12_code (1 : Nat) (Option.some Jvm.ClassFile.FieldType.boolean)).before args0 about1 = true := code_word (m := ⟨10, 7⟩) (meth := k10m7) (c := k10c7) (by decide +kernel) rfl rfl rfl (by decide +kernel)
set_option maxRecDepth 65536 in
theorem w_c17 : (Jvm.Cond.code ({ cls := "java/lang/Math", name := "min", desc := "(II)I" } : Jvm.MethodName) jdk_29_method_69_code (2 : Nat) (Option.some Jvm.ClassFile.FieldType.int)).before args0 about1 = true := code_word (m := ⟨13, 2⟩) (meth := k13m2) (c := k13c2) (by decide +kernel) rfl rfl rfl (by decide +kernel)
set_option maxRecDepth 65536 in
theorem w_c18 : (Jvm.Cond.code ({ cls := "java/lang/Math", name := "max", desc := "(II)I" } : Jvm.MethodName) jdk_29_method_65_code (2 : Nat) (Option.some Jvm.ClassFile.FieldType.int)).before args0 about1 = true := code_word (m := ⟨13, 1⟩) (meth := k13m1) (c := k13c1) (by decide +kernel) rfl rfl rfl (by decide +kernel)
set_option maxRecDepth 65536 in
theorem w_c19 : (Jvm.Cond.code ({ cls := "com/example/tranche/tranche/model/Span", name := "<init>", desc := "(II)V" } : Jvm.MethodName) prog_35_method_1_code (3 : Nat) (Option.none : Option Jvm.ClassFile.FieldType)).before args0 about1 = true := code_word (m := ⟨12, 0⟩) (meth := k12m0) (c := k12c0) (by decide +kernel) rfl rfl rfl (by decide +kernel)
set_option maxRecDepth 65536 in
theorem w_c20 : (Jvm.Cond.code ({ cls := "com/example/tranche/tranche/model/Row$Field", name := "stated", desc := "(Ljava/lang/String;Ljava/lang/String;Lcom/example/tranche/tranche/model/Span;)Lcom/example/tranche/tranche/model/Row$Field;" } : Jvm.MethodName) prog_34_method_3_code (3 : Nat) (Option.some (Jvm.ClassFile.FieldType.object "com/example/tranche/tranche/model/Row$Field"))).before args0 about1 = true := code_word (m := ⟨10, 2⟩) (meth := k10m2) (c := k10c2) (by decide +kernel) rfl rfl rfl (by decide +kernel)
set_option maxRecDepth 65536 in
theorem w_c21 : (Jvm.Cond.code ({ cls := "java/util/Optional", name := "of", desc := "(Ljava/lang/Object;)Ljava/util/Optional;" } : Jvm.MethodName) jdk_32_method_3_code (1 : Nat) (Option.some (Jvm.ClassFile.FieldType.object "java/util/Optional"))).before args0 about1 = true := code_word (m := ⟨11, 2⟩) (meth := k11m2) (c := k11c2) (by decide +kernel) rfl rfl rfl (by decide +kernel)
set_option maxRecDepth 65536 in
theorem w_c22 : (Jvm.Cond.code ({ cls := "java/util/Objects", name := "requireNonNull", desc := "(Ljava/lang/Object;)Ljava/lang/Object;" } : Jvm.MethodName) jdk_31_method_10_code (1 : Nat) (Option.some (Jvm.ClassFile.FieldType.object "java/lang/Object"))).before args0 about1 = true := code_word (m := ⟨14, 1⟩) (meth := k14m1) (c := k14c1) (by decide +kernel) rfl rfl rfl (by decide +kernel)
set_option maxRecDepth 65536 in
theorem w_c23 : (Jvm.Cond.code ({ cls := "java/util/Optional", name := "<init>", desc := "(Ljava/lang/Object;)V" } : Jvm.MethodName) jdk_32_method_2_code (2 : Nat) (Option.none : Option Jvm.ClassFile.FieldType)).before args0 about1 = true := code_word (m := ⟨11, 1⟩) (meth := k11m1) (c := k11c1) (by decide +kernel) rfl rfl rfl (by decide +kernel)
def codes1 : List Jvm.Cond := [Jvm.Cond.code x code maxLocals ret, Jvm.Cond.code ({ cls := "java/lang/String", name := "<init>", desc := "([C)V" } : Jvm.MethodName) jdk_42_method_3_code (2 : Nat) (Option.none : Option Jvm.ClassFile.FieldType), Jvm.Cond.code ({ cls := "java/lang/String", name := "<init>", desc := "([CIILjava/lang/Void;)V" } : Jvm.MethodName) jdk_42_method_149_code (6 : Nat) (Option.none : Option Jvm.ClassFile.FieldType), Jvm.Cond.code ({ cls := "java/lang/Object", name := "<init>", desc := "()V" } : Jvm.MethodName) object_method_1_code (1 : Nat) (Option.none : Option Jvm.ClassFile.FieldType), Jvm.Cond.code ({ cls := "java/lang/StringUTF16", name := "compress", desc := "([CII)[B" } : Jvm.MethodName) jdk_52_method_16_code (6 : Nat) (Option.some (Jvm.ClassFile.FieldType.array Jvm.ClassFile.FieldType.byte)), Jvm.Cond.code ({ cls := "java/lang/StringUTF16", name := "compress", desc := "([CI[BII)I" } : Jvm.MethodName) jdk_52_method_21_code (7 : Nat) (Option.some Jvm.ClassFile.FieldType.int), Jvm.Cond.code ({ cls := "java/lang/StringUTF16", name := "coderFromArrayLen", desc := "([BI)B" } : Jvm.MethodName) jdk_52_method_15_code (2 : Nat) (Option.some Jvm.ClassFile.FieldType.byte), Jvm.Cond.code ({ cls := "com/example/tranche/tranche/model/Row$Field", name := "given", desc := "(Ljava/lang/String;Ljava/lang/String;)Lcom/example/tranche/tranche/model/Row$Field;" } : Jvm.MethodName) prog_34_method_2_code (2 : Nat) (Option.some (Jvm.ClassFile.FieldType.object "com/example/tranche/tranche/model/Row$Field")), Jvm.Cond.code ({ cls := "java/util/Optional", name := "empty", desc := "()Ljava/util/Optional;" } : Jvm.MethodName) jdk_32_method_1_code (1 : Nat) (Option.some (Jvm.ClassFile.FieldType.object "java/util/Optional")), Jvm.Cond.code ({ cls := "com/example/tranche/tranche/model/Row$Field", name := "<init>", desc := "(Ljava/lang/String;Ljava/lang/String;Ljava/util/Optional;Z)V" } : Jvm.MethodName) prog_34_method_1_code (5 : Nat) (Option.none : Option Jvm.ClassFile.FieldType), Jvm.Cond.code ({ cls := "java/lang/Record", name := "<init>", desc := "()V" } : Jvm.MethodName) jdk_30_method_1_code (1 : Nat) (Option.none : Option Jvm.ClassFile.FieldType), Jvm.Cond.code ({ cls := "com/example/tranche/tranche/model/Row$Field", name := "span", desc := "()Ljava/util/Optional;" } : Jvm.MethodName) prog_34_method_11_code (1 : Nat) (Option.some (Jvm.ClassFile.FieldType.object "java/util/Optional")), Jvm.Cond.code ({ cls := "com/example/tranche/tranche/model/Row$Field", name := "withSpanFirst", desc := "()Lcom/example/tranche/tranche/model/Row$Field;" } : Jvm.MethodName) prog_34_method_5_code (1 : Nat) (Option.some (Jvm.ClassFile.FieldType.object "com/example/tranche/tranche/model/Row$Field")), Jvm.Cond.code ({ cls := "com/example/tranche/tranche/model/Row$Field", name := "name", desc := "()Ljava/lang/String;" } : Jvm.MethodName) prog_34_method_9_code (1 : Nat) (Option.some (Jvm.ClassFile.FieldType.object "java/lang/String")), Jvm.Cond.code ({ cls := "java/lang/String", name := "equals", desc := "(Ljava/lang/Object;)Z" } : Jvm.MethodName) jdk_42_method_66_code (3 : Nat) (Option.some Jvm.ClassFile.FieldType.boolean), Jvm.Cond.code ({ cls := "com/example/tranche/tranche/model/Row$Field", name := "text", desc := "()Ljava/lang/String;" } : Jvm.MethodName) prog_34_method_10_code (1 : Nat) (Option.some (Jvm.ClassFile.FieldType.object "java/lang/String")), Jvm.Cond.code ({ cls := "com/example/tranche/tranche/model/Row$Field", name := "spanFirst", desc := "()Z" } : Jvm.MethodName) prog_34_method_12_code (1 : Nat) (Option.some Jvm.ClassFile.FieldType.boolean), Jvm.Cond.code ({ cls := "java/lang/Math", name := "min", desc := "(II)I" } : Jvm.MethodName) jdk_29_method_69_code (2 : Nat) (Option.some Jvm.ClassFile.FieldType.int), Jvm.Cond.code ({ cls := "java/lang/Math", name := "max", desc := "(II)I" } : Jvm.MethodName) jdk_29_method_65_code (2 : Nat) (Option.some Jvm.ClassFile.FieldType.int), Jvm.Cond.code ({ cls := "com/example/tranche/tranche/model/Span", name := "<init>", desc := "(II)V" } : Jvm.MethodName) prog_35_method_1_code (3 : Nat) (Option.none : Option Jvm.ClassFile.FieldType), Jvm.Cond.code ({ cls := "com/example/tranche/tranche/model/Row$Field", name := "stated", desc := "(Ljava/lang/String;Ljava/lang/String;Lcom/example/tranche/tranche/model/Span;)Lcom/example/tranche/tranche/model/Row$Field;" } : Jvm.MethodName) prog_34_method_3_code (3 : Nat) (Option.some (Jvm.ClassFile.FieldType.object "com/example/tranche/tranche/model/Row$Field")), Jvm.Cond.code ({ cls := "java/util/Optional", name := "of", desc := "(Ljava/lang/Object;)Ljava/util/Optional;" } : Jvm.MethodName) jdk_32_method_3_code (1 : Nat) (Option.some (Jvm.ClassFile.FieldType.object "java/util/Optional")), Jvm.Cond.code ({ cls := "java/util/Objects", name := "requireNonNull", desc := "(Ljava/lang/Object;)Ljava/lang/Object;" } : Jvm.MethodName) jdk_31_method_10_code (1 : Nat) (Option.some (Jvm.ClassFile.FieldType.object "java/lang/Object")), Jvm.Cond.code ({ cls := "java/util/Optional", name := "<init>", desc := "(Ljava/lang/Object;)V" } : Jvm.MethodName) jdk_32_method_2_code (2 : Nat) (Option.none : Option Jvm.ClassFile.FieldType)]
set_option maxRecDepth 65536 in
theorem codes_eq : words1.filter isCode = codes1 := rfl
theorem w_codes : ∀ c ∈ words1.filter isCode, c.before args0 about1 = true := by
  rw [codes_eq]
  intro c hc
  simp only [codes1, List.mem_cons, List.not_mem_nil, or_false] at hc
  rcases hc with rfl | rfl | rfl | rfl | rfl | rfl | rfl | rfl | rfl | rfl | rfl | rfl | rfl | rfl | rfl | rfl | rfl | rfl | rfl | rfl | rfl | rfl | rfl | rfl
  · exact w_c0
  · exact w_c1
  · exact w_c2
  · exact w_c3
  · exact w_c4
  · exact w_c5
  · exact w_c6
  · exact w_c7
  · exact w_c8
  · exact w_c9
  · exact w_c10
  · exact w_c11
  · exact w_c12
  · exact w_c13
  · exact w_c14
  · exact w_c15
  · exact w_c16
  · exact w_c17
  · exact w_c18
  · exact w_c19
  · exact w_c20
  · exact w_c21
  · exact w_c22
  · exact w_c23
set_option maxRecDepth 65536 in
theorem w_t1 : (words1.take 24).all (fun c => isCode c || c.before args0 about1) = true := by decide +kernel
set_option maxRecDepth 65536 in
theorem w_t2 : ((words1.drop 24).take 24).all (fun c => isCode c || c.before args0 about1) = true := by decide +kernel
set_option maxRecDepth 65536 in
theorem w_t3 : (((words1.drop 24).drop 24).take 24).all (fun c => isCode c || c.before args0 about1) = true := by decide +kernel
set_option maxRecDepth 65536 in
theorem w_t4 : ((((words1.drop 24).drop 24).drop 24).take 24).all (fun c => isCode c || c.before args0 about1) = true := by decide +kernel
set_option maxRecDepth 65536 in
theorem w_t5 : (((((words1.drop 24).drop 24).drop 24).drop 24).take 24).all (fun c => isCode c || c.before args0 about1) = true := by decide +kernel
set_option maxRecDepth 65536 in
theorem w_t6 : (((((words1.drop 24).drop 24).drop 24).drop 24).drop 24).all (fun c => isCode c || c.before args0 about1) = true := by decide +kernel
theorem w_tables : (allAtoms (Jvm.Cond.code x code maxLocals ret :: tables_1)).before args0 about1 = true := by
  rw [allAtoms_all]
  show words1.all (fun c => c.before args0 about1) = true
  refine all_split ?_ w_codes
  rw [← List.take_append_drop 24 words1, List.all_append, w_t1, ← List.take_append_drop 24 (words1.drop 24), List.all_append, w_t2, ← List.take_append_drop 24 ((words1.drop 24).drop 24), List.all_append, w_t3, ← List.take_append_drop 24 (((words1.drop 24).drop 24).drop 24), List.all_append, w_t4, ← List.take_append_drop 24 ((((words1.drop 24).drop 24).drop 24).drop 24), List.all_append, w_t5, w_t6]
  rfl
set_option maxRecDepth 65536 in
theorem w_rest : rest_1_c.before args0 about1 = true := by decide +kernel
set_option maxRecDepth 65536 in
theorem w_case : (Jvm.Cond.and given_1 narrow_1).before args0 about1 = true := by decide +kernel
theorem w_applies : (headSpec (Jvm.Cond.code x code maxLocals ret :: tables_1) room_1).applies x e0.platform about1 = true :=
  (Spec.applies_iff w_frames).mpr ⟨w_running, w_runnable, w_alone, w_named, w_hears, w_ripe, w_room, w_tables⟩
theorem atStart : AtStart classFile x code maxLocals ret World_1 tables_1 room_1 Calls_1 rest_1 Pre_1 launch0 p0 e0 about1 theMethod args0 below0 :=
  ⟨lists_1, trivial, launch0.admits_env _ _ _, launch0.least_env, fairChoices_fair.cas, fairChoices_fair.clock, w_frames, w_args, w_heap, w_applies, trivial, w_rest, w_case⟩
end start1
theorem witness_1 : WitnessClaimed_1 := ⟨start1.p0, start1.e0, start1.about1, start1.theMethod, start1.args0, start1.below0, start1.atStart⟩
end Jvm.Pilot.@@N@@
