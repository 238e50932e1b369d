import JvmDerived
import JvmDerived.Pilot.@@N@@Statement
import JvmDerived.Pilot.@@N@@Code
set_option linter.unusedVariables false
set_option linter.unusedSimpArgs false
/- laws to paste: Road.backV (cut by pick.py; bodies as the Statement names them) -/
namespace Jvm.Pilot.@@N@@
namespace StrChars
open Jvm Sem ClassFile Op Lib Jvm.Stand Jvm.Free.XT Jvm.Free.ALB Jvm.Free.JM Jvm.Free
open Jvm.Lib.Cold (StaticIs)
/-- a char array whose places are chars -/
def Ch (a : Addr) (A : Cell) (U : State) : Prop := Arr .char a A U ∧ Typed .char A
theorem Ch.mv {a : Addr} {A : Cell} {U U' : State} (h : Ch a A U) (hal : U.vm.Alike U'.vm) (hh : U'.heap = U.heap) : Ch a A U' := ⟨h.1.mv hal hh, h.2⟩
theorem Ch.keep {a : Addr} {A : Cell} {U U' : State} (h : Ch a A U) (hal : U.vm.Alike U'.vm) (hk : U'.heap[a]? = some A) : Ch a A U' := ⟨h.1.keep hal hk, h.2⟩
/-- what place i of a char[]'s cell holds -/
def cv (A : Cell) (i : Nat) : Int32 := match A.slots[i]? with | some (.int x) => x | _ => 0
theorem Ch.get {a : Addr} {A : Cell} {U : State} (h : Ch a A U) {i : Nat} (hi : i < A.slots.size) : A.slots[i]? = some (.int (cv A i)) := by
  have e := Array.getElem?_eq_getElem hi
  have f := h.2 i _ e
  unfold cv; rw [e]
  generalize A.slots[i] = v at f
  cases v <;> simp [fits] at f ⊢
/-- the byte that i2b leaves of a char -/
def lo8 (x : Int32) : Int32 := x.toInt8.toInt32
theorem fits_lo8 (y : Int32) : fits .byte (.int (lo8 y)) = true := by
  have h1 := y.toInt8.le_toInt
  have h2 := y.toInt8.toInt_lt
  simp only [lo8, fits, Bool.and_eq_true, decide_eq_true_eq, Int32.le_iff_toInt_le, Int8.toInt_toInt32, show (-128 : Int32).toInt = -128 from by decide, show (127 : Int32).toInt = 127 from by decide]
  omega
/-- A' is A but that each place j of lo .. hi - 1 holds f j -/
def Laid (A A' : Cell) (lo hi : Nat) (f : Nat → Value) : Prop := A'.cls = A.cls ∧ A'.vm = A.vm ∧ A'.slots.size = A.slots.size ∧ ∀ i, A'.slots[i]? = if lo ≤ i ∧ i < hi then some (f i) else A.slots[i]?
theorem Laid.zero (A : Cell) (lo : Nat) (f : Nat → Value) : Laid A A lo (lo + 0) f := ⟨rfl, rfl, rfl, fun i => by rw [if_neg (by omega)]⟩
theorem Laid.step {A Ak : Cell} {lo k : Nat} {f : Nat → Value} {v : Value} (h : Laid A Ak lo k f) (hlo : lo ≤ k) (hk : k < Ak.slots.size) (hv : v = f k) : Laid A (Ak.setSlot k v) lo (k + 1) f := by
  refine ⟨h.1, h.2.1, by simpa [Cell.setSlot] using h.2.2.1, fun i => ?_⟩
  by_cases e : k = i
  · subst e; rw [Cell.slots_setSlot_self v hk, if_pos (by omega), hv]
  · rw [Cell.slots_setSlot_ne v e, h.2.2.2 i]
    by_cases q : lo ≤ i ∧ i < k
    · rw [if_pos q, if_pos (by omega)]
    · rw [if_neg q, if_neg (by omega)]
def U16 : String := "java/lang/StringUTF16"
namespace Cmp5
def yN : MethodName := ⟨"java/lang/StringUTF16", "compress", "([CI[BII)I"⟩
abbrev yB : ByteArray := jdk_52_method_21_code
theorem d0 : decode yB 0 = .ok (.iconst 0, 1) := by decide +kernel
theorem d1 : decode yB 1 = .ok (.istore 5, 2) := by decide +kernel
theorem d3 : decode yB 3 = .ok (.iload 5, 2) := by decide +kernel
theorem d5 : decode yB 5 = .ok (.iload 4, 2) := by decide +kernel
theorem d7 : decode yB 7 = .ok (.if_icmp (.ge) 37, 3) := by decide +kernel
theorem d10 : decode yB 10 = .ok (.aload_n 0, 1) := by decide +kernel
theorem d11 : decode yB 11 = .ok (.iload_n 1, 1) := by decide +kernel
theorem d12 : decode yB 12 = .ok (.caload, 1) := by decide +kernel
theorem d13 : decode yB 13 = .ok (.istore 6, 2) := by decide +kernel
theorem d15 : decode yB 15 = .ok (.iload 6, 2) := by decide +kernel
theorem d17 : decode yB 17 = .ok (.sipush 255, 3) := by decide +kernel
theorem d20 : decode yB 20 = .ok (.if_icmp (.le) 6, 3) := by decide +kernel
theorem d26 : decode yB 26 = .ok (.aload_n 2, 1) := by decide +kernel
theorem d27 : decode yB 27 = .ok (.iload_n 3, 1) := by decide +kernel
theorem d28 : decode yB 28 = .ok (.iload 6, 2) := by decide +kernel
theorem d30 : decode yB 30 = .ok (.i2b, 1) := by decide +kernel
theorem d31 : decode yB 31 = .ok (.bastore, 1) := by decide +kernel
theorem d32 : decode yB 32 = .ok (.iinc 1 1, 3) := by decide +kernel
theorem d35 : decode yB 35 = .ok (.iinc 3 1, 3) := by decide +kernel
theorem d38 : decode yB 38 = .ok (.iinc 5 1, 3) := by decide +kernel
theorem d41 : decode yB 41 = .ok (.goto (-38), 3) := by decide +kernel
theorem d44 : decode yB 44 = .ok (.iload 4, 2) := by decide +kernel
theorem d46 : decode yB 46 = .ok (.ireturn, 1) := by decide +kernel
def site : List Cond := []
def tab : Cond := tabOf yN yB 7 (some .int) site
def P (b : Addr) (A : Cell) (d : Addr) (B : Cell) (o q len : Nat) (args : Array Value) (s : State) : Prop := args = #[.ref b, .int (Int32.ofNat o), .ref d, .int (Int32.ofNat q), .int (Int32.ofNat len)] ∧ Ch b A s ∧ Arr .byte d B s ∧ b ≠ d ∧ o + len ≤ A.slots.size ∧ q + len ≤ B.slots.size ∧ ∀ i, i < len → ¬ 255 < cv A (o + i)
def E (b : Addr) (A : Cell) (d : Addr) (B : Cell) (o q len : Nat) (r : Option Value) (s u : State) : Prop := r = some (.int (Int32.ofNat len)) ∧ ∃ B', Put d B' s u ∧ Laid B B' q (q + len) (fun j => Value.int (lo8 (cv A (o + (j - q)))))
/-- no char of the range above 255: len; the places written hold each char's low byte -/
theorem law (l : Launch) (b : Addr) (A : Cell) (d : Addr) (B : Cell) (o q len : Nat) : Law l yN 5 5 0 0 yB 7 (some .int) site (P b A d B o q len) (E b A d B o q len) (copyLocs d q len) 0 0 := by
  refine Law.of_walk (plainFor_of_name (by decide +kernel)) (by decide +kernel) (by decide +kernel) (by decide) (fun _ _ h => by rw [h.1]; rfl) (fun _ U U' hal hh h => ⟨h.1, h.2.1.mv hal hh, h.2.2.1.mv hal hh, h.2.2.2⟩) (fun r U U' V V' h1 hal h2 h => ⟨h.1, h.2.elim fun B' q => ⟨B', q.1.mv h1 h2, q.2⟩⟩) ?_
  intro p e s m args below meth c s₁ X0 hexec hbytes hml hret hlk hnm hown hh0 W hP
  obtain ⟨rfl, hA, hB, hne, l1, l2, hp⟩ := hP
  have c1 : Steps p.tables e below (s₁.setTop (entryFrame m #[.ref b, .int (Int32.ofNat o), .ref d, .int (Int32.ofNat q), .int (Int32.ofNat len)] 7)) (s₁.setTop (mkF m 0 #[.val (.ref b), .val (.int (Int32.ofNat o)), .val (.ref d), .val (.int (Int32.ofNat q)), .val (.int (Int32.ofNat len)), .unset, .unset] [])) := entry rfl
  have hA0 := hA.1.mv X0.warmed.alike hh0
  have hB0 := hB.mv X0.warmed.alike hh0
  have a31 := hA.1.2.2.2
  have c2 : Steps p.tables e below (s₁.setTop (entryFrame m #[.ref b, .int (Int32.ofNat o), .ref d, .int (Int32.ofNat q), .int (Int32.ofNat len)] 7)) (s₁.setTop (mkF m 3 #[.val (.ref b), .val (.int (Int32.ofNat o)), .val (.ref d), .val (.int (Int32.ofNat q)), .val (.int (Int32.ofNat len)), .val (.int 0), .unset] [])) := c1.trans (by
    refine iconstV X0.here hexec rfl 0 (hb hbytes d0) (by decide) ?_
    refine XS.istore X0.here hexec rfl (hb hbytes d1) rfl rfl ?_
    exact Steps.refl _)
  have loop : ∀ (r i : Nat), i + r = len → ∀ (z : Slot), (z = .unset ∨ ∃ w, z = .val w ∧ w.category = 1) → ∀ (Tl : State) (Bk : Cell), Stand p l e { frames := 0, locals := 0, cells := 0, slots := 0 } s m #[.ref b, .int (Int32.ofNat o), .ref d, .int (Int32.ofNat q), .int (Int32.ofNat len)] below meth c Tl ([] ++ copyLocs d q i) 0 0 → Put d Bk s₁ Tl → Laid B Bk q (q + i) (fun j => Value.int (lo8 (cv A (o + (j - q))))) →
      Steps p.tables e below (s₁.setTop (entryFrame m #[.ref b, .int (Int32.ofNat o), .ref d, .int (Int32.ofNat q), .int (Int32.ofNat len)] 7)) (Tl.setTop (mkF m 3 #[.val (.ref b), .val (.int (Int32.ofNat (o + i))), .val (.ref d), .val (.int (Int32.ofNat (q + i))), .val (.int (Int32.ofNat len)), .val (.int (Int32.ofNat i)), z] [])) → ∃ (T' : State) (B' : Cell) (z' : Slot), Stand p l e { frames := 0, locals := 0, cells := 0, slots := 0 } s m #[.ref b, .int (Int32.ofNat o), .ref d, .int (Int32.ofNat q), .int (Int32.ofNat len)] below meth c T' ([] ++ copyLocs d q len) 0 0 ∧ Put d B' s₁ T' ∧ Laid B B' q (q + len) (fun j => Value.int (lo8 (cv A (o + (j - q))))) ∧
      Steps p.tables e below (s₁.setTop (entryFrame m #[.ref b, .int (Int32.ofNat o), .ref d, .int (Int32.ofNat q), .int (Int32.ofNat len)] 7)) (T'.setTop (mkF m 3 #[.val (.ref b), .val (.int (Int32.ofNat (o + len))), .val (.ref d), .val (.int (Int32.ofNat (q + len))), .val (.int (Int32.ofNat len)), .val (.int (Int32.ofNat len)), z'] [])) := by
    intro r
    induction r with
    | zero =>
      intro i hi z hz Tl Bk Xl pl fl cl
      have hil : i = len := by omega
      rw [hil] at Xl fl cl
      exact ⟨Tl, Bk, z, Xl, pl, fl, cl⟩
    | succ r ih =>
      intro i hi z hz Tl Bk Xl pl fl cl
      have all := X0.warmed.alike.symm.trans Xl.warmed.alike
      have hAl := hA0.keep all (pl.other hne hA0.1)
      have hBk := hB0.like all pl.1 fl.1 fl.2.1 fl.2.2.1
      have hlt : q + i < Bk.slots.size := by rw [fl.2.2.1]; omega
      have c3 : Steps p.tables e below (s₁.setTop (entryFrame m #[.ref b, .int (Int32.ofNat o), .ref d, .int (Int32.ofNat q), .int (Int32.ofNat len)] 7)) (Tl.setTop (mkF m 12 #[.val (.ref b), .val (.int (Int32.ofNat (o + i))), .val (.ref d), .val (.int (Int32.ofNat (q + i))), .val (.int (Int32.ofNat len)), .val (.int (Int32.ofNat i)), z] [.int (Int32.ofNat (o + i)), .ref b])) := cl.trans (by
        refine XS.iload Xl.here hexec rfl (hb hbytes d3) rfl ?_
        refine XS.iload Xl.here hexec rfl (hb hbytes d5) rfl ?_
        refine XS.icmpNo Xl.here hexec rfl (hb hbytes d7) rfl (ii_ge_f (lt32 (by omega) (by omega))) ?_
        refine XS.aloadN Xl.here hexec rfl (hb hbytes d10) rfl rfl ?_
        refine XS.iloadN Xl.here hexec rfl (hb hbytes d11) rfl ?_
        exact Steps.refl _)
      have c4 : Steps p.tables e below (s₁.setTop (entryFrame m #[.ref b, .int (Int32.ofNat o), .ref d, .int (Int32.ofNat q), .int (Int32.ofNat len)] 7)) (Tl.setTop (mkF m 13 #[.val (.ref b), .val (.int (Int32.ofNat (o + i))), .val (.ref d), .val (.int (Int32.ofNat (q + i))), .val (.int (Int32.ofNat len)), .val (.int (Int32.ofNat i)), z] [.int (cv A (o + i))])) := c3.trans (by
        refine Xl.aget hexec hAl rfl (hA.get (i := o + i) (by omega)) rfl rfl (hb hbytes d12) ?_
        exact Steps.refl _)
      have c5 : Steps p.tables e below (s₁.setTop (entryFrame m #[.ref b, .int (Int32.ofNat o), .ref d, .int (Int32.ofNat q), .int (Int32.ofNat len)] 7)) (Tl.setTop (mkF m 15 #[.val (.ref b), .val (.int (Int32.ofNat (o + i))), .val (.ref d), .val (.int (Int32.ofNat (q + i))), .val (.int (Int32.ofNat len)), .val (.int (Int32.ofNat i)), .val (.int (cv A (o + i)))] [])) := c4.trans (by
        refine XS.istoreS Xl.here hexec rfl (hb hbytes d13) rfl rfl hz ?_
        exact Steps.refl _)
      have c6 : Steps p.tables e below (s₁.setTop (entryFrame m #[.ref b, .int (Int32.ofNat o), .ref d, .int (Int32.ofNat q), .int (Int32.ofNat len)] 7)) (Tl.setTop (mkF m 31 #[.val (.ref b), .val (.int (Int32.ofNat (o + i))), .val (.ref d), .val (.int (Int32.ofNat (q + i))), .val (.int (Int32.ofNat len)), .val (.int (Int32.ofNat i)), .val (.int (cv A (o + i)))] [.int (lo8 (cv A (o + i))), .int (Int32.ofNat (q + i)), .ref d])) := c5.trans (by
        refine XS.iload Xl.here hexec rfl (hb hbytes d15) rfl ?_
        refine sipushV Xl.here hexec rfl 255 (hb hbytes d17) (by decide) ?_
        refine XS.icmpYes Xl.here hexec rfl (pc0 := 20) rfl (hb hbytes d20) rfl (ii_le_t (hp i (by omega))) (by decide) rfl ?_
        refine XS.aloadN Xl.here hexec rfl (hb hbytes d26) rfl rfl ?_
        refine XS.iloadN Xl.here hexec rfl (hb hbytes d27) rfl ?_
        refine XS.iload Xl.here hexec rfl (hb hbytes d28) rfl ?_
        refine i2b Xl.here hexec rfl (hb hbytes d30) rfl ?_
        exact Steps.refl _)
      obtain ⟨T7, X7, p7, st7⟩ := Xl.aput hexec hBk rfl hlt rfl (fits_lo8 (cv A (o + i))) (g := (mkF m 31 #[.val (.ref b), .val (.int (Int32.ofNat (o + i))), .val (.ref d), .val (.int (Int32.ofNat (q + i))), .val (.int (Int32.ofNat len)), .val (.int (Int32.ofNat i)), .val (.int (cv A (o + i)))] [.int (lo8 (cv A (o + i))), .int (Int32.ofNat (q + i)), .ref d])) rfl (rest := []) rfl (hb hbytes d31)
      have c8 : Steps p.tables e below (s₁.setTop (entryFrame m #[.ref b, .int (Int32.ofNat o), .ref d, .int (Int32.ofNat q), .int (Int32.ofNat len)] 7)) (T7.setTop (mkF m 32 #[.val (.ref b), .val (.int (Int32.ofNat (o + i))), .val (.ref d), .val (.int (Int32.ofNat (q + i))), .val (.int (Int32.ofNat len)), .val (.int (Int32.ofNat i)), .val (.int (cv A (o + i)))] [])) := c6.trans (st7 _ (Steps.refl _))
      have c9 : Steps p.tables e below (s₁.setTop (entryFrame m #[.ref b, .int (Int32.ofNat o), .ref d, .int (Int32.ofNat q), .int (Int32.ofNat len)] 7)) (T7.setTop (mkF m 3 #[.val (.ref b), .val (.int (Int32.ofNat (o + i) + 1)), .val (.ref d), .val (.int (Int32.ofNat (q + i) + 1)), .val (.int (Int32.ofNat len)), .val (.int (Int32.ofNat i + 1)), .val (.int (cv A (o + i)))] [])) := c8.trans (by
        refine iincV X7.here hexec rfl 1 (hb hbytes d32) (by decide) rfl rfl ?_
        refine iincV X7.here hexec rfl 1 (hb hbytes d35) (by decide) rfl rfl ?_
        refine iincV X7.here hexec rfl 1 (hb hbytes d38) (by decide) rfl rfl ?_
        refine XS.goto X7.here hexec rfl (pc0 := 41) rfl (hb hbytes d41) (by decide) rfl ?_
        exact Steps.refl _)
      have c10 : Steps p.tables e below (s₁.setTop (entryFrame m #[.ref b, .int (Int32.ofNat o), .ref d, .int (Int32.ofNat q), .int (Int32.ofNat len)] 7)) (T7.setTop (mkF m 3 #[.val (.ref b), .val (.int (Int32.ofNat (o + (i + 1)))), .val (.ref d), .val (.int (Int32.ofNat (q + (i + 1)))), .val (.int (Int32.ofNat len)), .val (.int (Int32.ofNat (i + 1))), .val (.int (cv A (o + i)))] [])) := by
        have := c9
        rw [succ32, succ32, succ32] at this
        exact this
      exact ih (i + 1) (by omega) _ (Or.inr ⟨_, rfl, rfl⟩) T7 _ (by rw [copyLocs_step, ← List.append_assoc]; exact X7) (pl.trans p7) (fl.step (by omega) hlt (by simp)) c10
  obtain ⟨T9, B9, z9, X9, p9, f9, g9⟩ := loop len 0 (by omega) .unset (Or.inl rfl) s₁ B (by simpa [copyLocs] using X0) ⟨hB0.1, fun _ _ => rfl, rfl⟩ (Laid.zero _ _ _) c2
  have c11 : Steps p.tables e below (s₁.setTop (entryFrame m #[.ref b, .int (Int32.ofNat o), .ref d, .int (Int32.ofNat q), .int (Int32.ofNat len)] 7)) (T9.setTop (mkF m 46 #[.val (.ref b), .val (.int (Int32.ofNat (o + len))), .val (.ref d), .val (.int (Int32.ofNat (q + len))), .val (.int (Int32.ofNat len)), .val (.int (Int32.ofNat len)), z9] [.int (Int32.ofNat len)])) := g9.trans (by
    refine XS.iload X9.here hexec rfl (hb hbytes d3) rfl ?_
    refine XS.iload X9.here hexec rfl (hb hbytes d5) rfl ?_
    refine XS.icmpYes X9.here hexec rfl (pc0 := 7) rfl (hb hbytes d7) rfl (ii_ge_t (nlt32 (by omega) (Nat.le_refl _))) (by decide) rfl ?_
    refine XS.iload X9.here hexec rfl (hb hbytes d44) rfl ?_
    exact Steps.refl _)
  exact ⟨T9, some (.int (Int32.ofNat len)), _, _, _, X9, by simp, rfl, rfl, (fun h => by cases h), ⟨rfl, B9, p9.from hh0, f9⟩, fun fs hl => c11.trans (X9.ireturnOut hexec hret rfl (Or.inl rfl) (hb hbytes d46) hl)⟩
end Cmp5
namespace Cmp3
def yN : MethodName := ⟨"java/lang/StringUTF16", "compress", "([CII)[B"⟩
abbrev yB : ByteArray := jdk_52_method_16_code
theorem d0 : decode yB 0 = .ok (.iload_n 2, 1) := by decide +kernel
theorem d1 : decode yB 1 = .ok (.newarray .byte, 2) := by decide +kernel
theorem d3 : decode yB 3 = .ok (.astore_n 3, 1) := by decide +kernel
theorem d4 : decode yB 4 = .ok (.aload_n 0, 1) := by decide +kernel
theorem d5 : decode yB 5 = .ok (.iload_n 1, 1) := by decide +kernel
theorem d6 : decode yB 6 = .ok (.aload_n 3, 1) := by decide +kernel
theorem d7 : decode yB 7 = .ok (.iconst 0, 1) := by decide +kernel
theorem d8 : decode yB 8 = .ok (.iload_n 2, 1) := by decide +kernel
theorem d9 : decode yB 9 = .ok (.invokestatic 115, 3) := by decide +kernel
theorem d12 : decode yB 12 = .ok (.istore 4, 2) := by decide +kernel
theorem d14 : decode yB 14 = .ok (.iload 4, 2) := by decide +kernel
theorem d16 : decode yB 16 = .ok (.iload_n 2, 1) := by decide +kernel
theorem d17 : decode yB 17 = .ok (.if_icmp (.eq) 40, 3) := by decide +kernel
theorem d57 : decode yB 57 = .ok (.aload_n 3, 1) := by decide +kernel
theorem d58 : decode yB 58 = .ok (.areturn, 1) := by decide +kernel
def site : List Cond := [.arrayClass .byte, Cmp5.tab] ++ staticW U16 115 Cmp5.yN
def tab : Cond := tabOf yN yB 6 (some (.array .byte)) site
def P (b : Addr) (A : Cell) (o len : Nat) (args : Array Value) (s : State) : Prop := args = #[.ref b, .int (Int32.ofNat o), .int (Int32.ofNat len)] ∧ Ch b A s ∧ o + len ≤ A.slots.size ∧ len ≤ 536870912 ∧ ∀ i, i < len → ¬ 255 < cv A (o + i)
def E (b : Addr) (A : Cell) (o len : Nat) (r : Option Value) (s u : State) : Prop := NewArr .byte "[B" len (fun j => .int (lo8 (cv A (o + j)))) r s u ∧ u.heap.size = s.heap.size + 1
/-- no char of the range above 255: a new byte[] of their low bytes -/
theorem law (l : Launch) (b : Addr) (A : Cell) (o len : Nat) : Law l yN 3 3 1 18 yB 6 (some (.array .byte)) site (P b A o len) (E b A o len) [] 1 len := by
  refine Law.of_walk (plainFor_of_name (by decide +kernel)) (by decide +kernel) (by decide +kernel) (by decide) (fun _ _ h => by rw [h.1]; rfl) (fun _ U U' hal hh h => ⟨h.1, h.2.1.mv hal hh, h.2.2⟩) (fun r U U' V V' h1 hal h2 h => ⟨NewArr.mv r U U' V V' h1 hal h2 h.1, by rw [h1, h2]; exact h.2⟩) ?_
  intro p e s m args below meth c s₁ X0 hexec hbytes hml hret hlk hnm hown hh0 W hP
  obtain ⟨rfl, hA, l1, l2, hp⟩ := hP
  have a31 := hA.1.2.2.2
  have c1 : Steps p.tables e below (s₁.setTop (entryFrame m #[.ref b, .int (Int32.ofNat o), .int (Int32.ofNat len)] 6)) (s₁.setTop (mkF m 0 #[.val (.ref b), .val (.int (Int32.ofNat o)), .val (.int (Int32.ofNat len)), .unset, .unset, .unset] [])) := entry rfl
  have c2 : Steps p.tables e below (s₁.setTop (entryFrame m #[.ref b, .int (Int32.ofNat o), .int (Int32.ofNat len)] 6)) (s₁.setTop (mkF m 1 #[.val (.ref b), .val (.int (Int32.ofNat o)), .val (.int (Int32.ofNat len)), .unset, .unset, .unset] [.int (Int32.ofNat len)])) := c1.trans (by
    refine XS.iloadN X0.here hexec rfl (hb hbytes d0) rfl ?_
    exact Steps.refl _)
  obtain ⟨T3, B3, X3, ba3, bs3, bv3, bh3, bf3, st3⟩ := X0.anew hexec (atype := .byte) (wk W (.arrayClass .byte)) rfl (by show len * 1 ≤ _; omega) (by omega) (g := (mkF m 1 #[.val (.ref b), .val (.int (Int32.ofNat o)), .val (.int (Int32.ofNat len)), .unset, .unset, .unset] [.int (Int32.ofNat len)])) rfl (hb hbytes d1) (rest := []) rfl (Nat.le_refl _) (by show 0 + len ≤ len; omega)
  rw [hh0] at ba3 st3
  have kp3 : XT.Kept s T3 := (XT.Kept.of_eq hh0).push bh3
  have hA3 := hA.keep X3.warmed.alike (kp3 _ _ hA.1.1)
  have hne : b ≠ s.heap.size := hA.1.ne
  have c4 : Steps p.tables e below (s₁.setTop (entryFrame m #[.ref b, .int (Int32.ofNat o), .int (Int32.ofNat len)] 6)) (T3.setTop (mkF m 3 #[.val (.ref b), .val (.int (Int32.ofNat o)), .val (.int (Int32.ofNat len)), .unset, .unset, .unset] [.ref s.heap.size])) := c2.trans (st3 _ (Steps.refl _))
  have c5 : Steps p.tables e below (s₁.setTop (entryFrame m #[.ref b, .int (Int32.ofNat o), .int (Int32.ofNat len)] 6)) (T3.setTop (mkF m 9 #[.val (.ref b), .val (.int (Int32.ofNat o)), .val (.int (Int32.ofNat len)), .val (.ref s.heap.size), .unset, .unset] [.int (Int32.ofNat len), .int 0, .ref s.heap.size, .int (Int32.ofNat o), .ref b])) := c4.trans (by
    refine XS.astoreN X3.here hexec rfl (hb hbytes d3) rfl rfl rfl ?_
    refine XS.aloadN X3.here hexec rfl (hb hbytes d4) rfl rfl ?_
    refine XS.iloadN X3.here hexec rfl (hb hbytes d5) rfl ?_
    refine XS.aloadN X3.here hexec rfl (hb hbytes d6) rfl rfl ?_
    refine iconstV X3.here hexec rfl 0 (hb hbytes d7) (by decide) ?_
    refine XS.iloadN X3.here hexec rfl (hb hbytes d8) rfl ?_
    exact Steps.refl _)
  obtain ⟨v6, T6, X6, E6, g6⟩ := X3.callS hexec (Cmp5.law l b A s.heap.size B3 o 0 len) hown (wks W (staticW U16 115 Cmp5.yN)) (wk W Cmp5.tab) (W := 0) (Nat.le_of_ble_eq_true rfl) (Nat.le_of_ble_eq_true rfl) (Nat.le_refl _) (by show 0 + len + 0 ≤ len; omega) (g := (mkF m 9 #[.val (.ref b), .val (.int (Int32.ofNat o)), .val (.int (Int32.ofNat len)), .val (.ref s.heap.size), .unset, .unset] [.int (Int32.ofNat len), .int (Int32.ofNat 0), .ref s.heap.size, .int (Int32.ofNat o), .ref b])) rfl (by rw [hml]; rfl) c5 (argsL := [.ref b, .int (Int32.ofNat o), .ref s.heap.size, .int (Int32.ofNat 0), .int (Int32.ofNat len)]) (rest := []) rfl rfl (by show 2 * 0 + 0 ≤ _; decide) (hb hbytes d9) (⟨rfl, hA3, ba3, hne, l1, by rw [bs3]; simp, hp⟩)
  obtain ⟨rfl, B6, p6, f6⟩ := E6
  have c7 : Steps p.tables e below (s₁.setTop (entryFrame m #[.ref b, .int (Int32.ofNat o), .int (Int32.ofNat len)] 6)) (T6.setTop (mkF m 12 #[.val (.ref b), .val (.int (Int32.ofNat o)), .val (.int (Int32.ofNat len)), .val (.ref s.heap.size), .unset, .unset] [.int (Int32.ofNat len)])) := g6
  have c8 : Steps p.tables e below (s₁.setTop (entryFrame m #[.ref b, .int (Int32.ofNat o), .int (Int32.ofNat len)] 6)) (T6.setTop (mkF m 58 #[.val (.ref b), .val (.int (Int32.ofNat o)), .val (.int (Int32.ofNat len)), .val (.ref s.heap.size), .val (.int (Int32.ofNat len)), .unset] [.ref s.heap.size])) := c7.trans (by
    refine XS.istore X6.here hexec rfl (hb hbytes d12) rfl rfl ?_
    refine XS.iload X6.here hexec rfl (hb hbytes d14) rfl ?_
    refine XS.iloadN X6.here hexec rfl (hb hbytes d16) rfl ?_
    refine XS.icmpYes X6.here hexec rfl (pc0 := 17) rfl (hb hbytes d17) rfl (ii_eq_t rfl) (by decide) rfl ?_
    refine XS.aloadN X6.here hexec rfl (hb hbytes d57) rfl rfl ?_
    exact Steps.refl _)
  have X8 := X6.wide (L' := []) (cells' := 1) (slots' := len) (fun x hx hlt => by
    simp only [List.nil_append, copyLocs, List.mem_map, List.mem_range] at hx
    obtain ⟨i, -, rfl⟩ := hx
    exact absurd hlt (Nat.lt_irrefl _)) (Nat.le_refl _) (by omega)
  exact ⟨T6, some (.ref s.heap.size), _, _, _, X8, rfl, rfl, rfl, (fun h => by cases h), ⟨⟨rfl, B6, ba3.like (X3.warmed.alike.symm.trans X6.warmed.alike) p6.1 f6.1 f6.2.1 f6.2.2.1, f6.2.1.trans bv3, by rw [X6.warmed.alike.findClass, f6.1]; exact bf3, by rw [f6.2.2.1, bs3]; simp, fun j hj => by rw [f6.2.2.2 j, if_pos (by omega)]; rfl, kp3.put p6 (Nat.le_refl _)⟩, by rw [p6.2.2, bh3, hh0]; simp⟩, fun fs hl => c8.trans (X8.areturnOut hexec rfl hret rfl (hb hbytes d58) hl)⟩
end Cmp3
namespace CodL
def yN : MethodName := ⟨"java/lang/StringUTF16", "coderFromArrayLen", "([BI)B"⟩
abbrev yB : ByteArray := jdk_52_method_15_code
theorem d0 : decode yB 0 = .ok (.iload_n 1, 1) := by decide +kernel
theorem d1 : decode yB 1 = .ok (.aload_n 0, 1) := by decide +kernel
theorem d2 : decode yB 2 = .ok (.arraylength, 1) := by decide +kernel
theorem d3 : decode yB 3 = .ok (.isub, 1) := by decide +kernel
theorem d4 : decode yB 4 = .ok (.bipush 31, 2) := by decide +kernel
theorem d6 : decode yB 6 = .ok (.iushr, 1) := by decide +kernel
theorem d7 : decode yB 7 = .ok (.i2b, 1) := by decide +kernel
theorem d8 : decode yB 8 = .ok (.ireturn, 1) := by decide +kernel
def site : List Cond := []
def tab : Cond := tabOf yN yB 2 (some .byte) site
def P (d : Addr) (B : Cell) (args : Array Value) (s : State) : Prop := args = #[.ref d, .int (Int32.ofNat B.slots.size)] ∧ Arr .byte d B s
def E (r : Option Value) (s u : State) : Prop := XT.PureE (some (.int 0)) r s u
/-- an array as long as the number of chars: LATIN1 -/
theorem law (l : Launch) (d : Addr) (B : Cell) : Law l yN 2 2 0 0 yB 2 (some .byte) site (P d B) E [] 0 0 := by
  refine Law.of_walk (plainFor_of_name (by decide +kernel)) (by decide +kernel) (by decide +kernel) (by decide) (fun _ _ h => by rw [h.1]; rfl) (fun _ U U' hal hh h => ⟨h.1, h.2.mv hal hh⟩) (fun r U U' V V' h1 hal h2 h => XT.PureE.mv r U U' V V' h1 hal h2 h) ?_
  intro p e s m args below meth c s₁ X0 hexec hbytes hml hret hlk hnm hown hh0 W hP
  obtain ⟨rfl, hB⟩ := hP
  have hB0 := hB.mv X0.warmed.alike hh0
  have c1 : Steps p.tables e below (s₁.setTop (entryFrame m #[.ref d, .int (Int32.ofNat B.slots.size)] 2)) (s₁.setTop (mkF m 0 #[.val (.ref d), .val (.int (Int32.ofNat B.slots.size))] [])) := entry rfl
  have c2 : Steps p.tables e below (s₁.setTop (entryFrame m #[.ref d, .int (Int32.ofNat B.slots.size)] 2)) (s₁.setTop (mkF m 2 #[.val (.ref d), .val (.int (Int32.ofNat B.slots.size))] [.ref d, .int (Int32.ofNat B.slots.size)])) := c1.trans (by
    refine XS.iloadN X0.here hexec rfl (hb hbytes d0) rfl ?_
    refine XS.aloadN X0.here hexec rfl (hb hbytes d1) rfl rfl ?_
    exact Steps.refl _)
  have c3 : Steps p.tables e below (s₁.setTop (entryFrame m #[.ref d, .int (Int32.ofNat B.slots.size)] 2)) (s₁.setTop (mkF m 8 #[.val (.ref d), .val (.int (Int32.ofNat B.slots.size))] [.int (lo8 (ushr (Int32.ofNat B.slots.size - Int32.ofNat B.slots.size) 31))])) := c2.trans (by
    refine X0.alen hexec hB0 rfl rfl (hb hbytes d2) ?_
    refine XS.isub X0.here hexec rfl (hb hbytes d3) rfl ?_
    refine bipushV X0.here hexec rfl 31 (hb hbytes d4) (by decide) ?_
    refine iushr X0.here hexec rfl (hb hbytes d6) rfl ?_
    refine i2b X0.here hexec rfl (hb hbytes d7) rfl ?_
    exact Steps.refl _)
  have e0 : lo8 (ushr (Int32.ofNat B.slots.size - Int32.ofNat B.slots.size) 31) = 0 := by rw [Int32.sub_self]; decide
  rw [e0] at c3
  exact ⟨s₁, some (.int 0), _, _, _, X0, rfl, rfl, rfl, (fun h => by cases h), ⟨rfl, hh0⟩, fun fs hl => c3.trans (X0.ireturnOut hexec hret rfl (Or.inr (Or.inr (Or.inl rfl))) (hb hbytes d8) hl)⟩
end CodL
/-- the String at a is Latin-1 over a new byte[] (the heap's one new cell): the low bytes of the len chars of A from o on; every cell but a is kept -/
def Got (a : Addr) (D : Cell) (fV fC : Field) (A : Cell) (o len : Nat) (r : Option Value) (s u : State) : Prop := r = none ∧ ∃ D' V : Cell, Blank "java/lang/String" a D' u ∧ Same D D' [fV.slot, fC.slot] ∧ D'.slots[fV.slot]? = some (.ref s.heap.size) ∧ D'.slots[fC.slot]? = some (.int 0) ∧ Arr .byte s.heap.size V u ∧ V.vm = .none ∧ u.vm.findClass "[B" = some V.cls ∧ V.slots.size = len ∧ (∀ j, j < len → V.slots[j]? = some (.int (lo8 (cv A (o + j))))) ∧ (∀ (y : Addr) (c : Cell), y ≠ a → s.heap[y]? = some c → u.heap[y]? = some c) ∧ u.heap.size = s.heap.size + 1
theorem Got.mv {a : Addr} {D A : Cell} {fV fC : Field} {o len : Nat} : ∀ r (U U' V V' : State), U'.heap = U.heap → V.vm.Alike V'.vm → V'.heap = V.heap → Got a D fV fC A o len r U V → Got a D fV fC A o len r U' V' :=
  fun r U U' V V' h1 hal h2 ⟨e0, D', X, a1, a2, a3, a4, a5, a6, a7, a8, a9, a10, a11⟩ => ⟨e0, D', X, a1.mv hal h2, a2, by rw [h1]; exact a3, a4, by rw [h1]; exact a5.mv hal h2, a6, by rw [hal.findClass]; exact a7, a8, a9, by rw [h1, h2]; exact a10, by rw [h1, h2]; exact a11⟩
namespace New4
def yN : MethodName := ⟨"java/lang/String", "<init>", "([CIILjava/lang/Void;)V"⟩
abbrev yB : ByteArray := jdk_42_method_149_code
theorem d0 : decode yB 0 = .ok (.aload_n 0, 1) := by decide +kernel
theorem d1 : decode yB 1 = .ok (.invokespecial 1, 3) := by decide +kernel
theorem d4 : decode yB 4 = .ok (.iload_n 3, 1) := by decide +kernel
theorem d5 : decode yB 5 = .ok (.ifCond (.ne) 22, 3) := by decide +kernel
theorem d27 : decode yB 27 = .ok (.getstatic 38, 3) := by decide +kernel
theorem d30 : decode yB 30 = .ok (.ifCond (.eq) 28, 3) := by decide +kernel
theorem d33 : decode yB 33 = .ok (.aload_n 1, 1) := by decide +kernel
theorem d34 : decode yB 34 = .ok (.iload_n 2, 1) := by decide +kernel
theorem d35 : decode yB 35 = .ok (.iload_n 3, 1) := by decide +kernel
theorem d36 : decode yB 36 = .ok (.invokestatic 177, 3) := by decide +kernel
theorem d39 : decode yB 39 = .ok (.astore 5, 2) := by decide +kernel
theorem d41 : decode yB 41 = .ok (.aload_n 0, 1) := by decide +kernel
theorem d42 : decode yB 42 = .ok (.aload 5, 2) := by decide +kernel
theorem d44 : decode yB 44 = .ok (.iload_n 3, 1) := by decide +kernel
theorem d45 : decode yB 45 = .ok (.invokestatic 47, 3) := by decide +kernel
theorem d48 : decode yB 48 = .ok (.putfield 15, 3) := by decide +kernel
theorem d51 : decode yB 51 = .ok (.aload_n 0, 1) := by decide +kernel
theorem d52 : decode yB 52 = .ok (.aload 5, 2) := by decide +kernel
theorem d54 : decode yB 54 = .ok (.putfield 9, 3) := by decide +kernel
theorem d57 : decode yB 57 = .ok (.return_, 1) := by decide +kernel
def site : List Cond := [.fieldLink "java/lang/String" 38 "java/lang/String" "COMPACT_STRINGS" "Z", Cmp3.tab, CodL.tab, .laysFinal "java/lang/String" "java/lang/String" "value" "[B", .fieldLink "java/lang/String" 9 "java/lang/String" "value" "[B", .laysFinal "java/lang/String" "java/lang/String" "coder" "B", .fieldLink "java/lang/String" 15 "java/lang/String" "coder" "B"] ++ objW "java/lang/String" 1 ++ staticW "java/lang/String" 177 Cmp3.yN ++ staticW "java/lang/String" 47 CodL.yN
def tab : Cond := tabOf yN yB 6 none site
def P (a : Addr) (D : Cell) (fV fC : Field) (b : Addr) (A : Cell) (z : Int32) (o len : Nat) (args : Array Value) (s : State) : Prop := args = #[.ref a, .ref b, .int (Int32.ofNat o), .int (Int32.ofNat len), .null] ∧ Blank "java/lang/String" a D s ∧ Found "java/lang/String" "value" "[B" fV s ∧ Found "java/lang/String" "coder" "B" fC s ∧ Ch b A s ∧ StaticIs s "java/lang/String" "COMPACT_STRINGS" "Z" (.int z) ∧ ¬ z = 0 ∧ 0 < len ∧ o + len ≤ A.slots.size ∧ len ≤ 536870912 ∧ ∀ i, i < len → ¬ 255 < cv A (o + i)
def E (a : Addr) (D : Cell) (fV fC : Field) (A : Cell) (o len : Nat) (r : Option Value) (s u : State) : Prop := Got a D fV fC A o len r s u
/-- len > 0, no char of the range above 255: a Latin-1 String of their low bytes -/
theorem law (l : Launch) (a : Addr) (D : Cell) (fV fC : Field) (b : Addr) (A : Cell) (z : Int32) (o len : Nat) : Law l yN 5 4 2 35 yB 6 none site (P a D fV fC b A z o len) (E a D fV fC A o len) [⟨a, fC.slot⟩, ⟨a, fV.slot⟩] 1 len := by
  refine Law.of_walk (plainFor_of_name (by decide +kernel)) (by decide +kernel) (by decide +kernel) (by decide) (fun _ _ h => by rw [h.1]; rfl) (fun _ U U' hal hh h => ⟨h.1, h.2.1.mv hal hh, h.2.2.1.al hal, h.2.2.2.1.al hal, h.2.2.2.2.1.mv hal hh, h.2.2.2.2.2.1.there hal hh, h.2.2.2.2.2.2⟩) (fun r U U' V V' h1 hal h2 h => Got.mv r U U' V V' h1 hal h2 h) ?_
  intro p e s m args below meth c s₁ X0 hexec hbytes hml hret hlk hnm hown hh0 W hP
  obtain ⟨rfl, hB, f1, f2, hA, s1, hz, l0, l1, l2, hp⟩ := hP
  have a31 := hA.1.2.2.2
  have c1 : Steps p.tables e below (s₁.setTop (entryFrame m #[.ref a, .ref b, .int (Int32.ofNat o), .int (Int32.ofNat len), .null] 6)) (s₁.setTop (mkF m 0 #[.val (.ref a), .val (.ref b), .val (.int (Int32.ofNat o)), .val (.int (Int32.ofNat len)), .val .null, .unset] [])) := entry rfl
  have c2 : Steps p.tables e below (s₁.setTop (entryFrame m #[.ref a, .ref b, .int (Int32.ofNat o), .int (Int32.ofNat len), .null] 6)) (s₁.setTop (mkF m 1 #[.val (.ref a), .val (.ref b), .val (.int (Int32.ofNat o)), .val (.int (Int32.ofNat len)), .val .null, .unset] [.ref a])) := c1.trans (by
    refine XS.aloadN X0.here hexec rfl (hb hbytes d0) rfl rfl ?_
    exact Steps.refl _)
  obtain ⟨T3, X3, q3, st3⟩ := X0.oinit hexec hown (wks W (objW "java/lang/String" 1)) (g := (mkF m 1 #[.val (.ref a), .val (.ref b), .val (.int (Int32.ofNat o)), .val (.int (Int32.ofNat len)), .val .null, .unset] [.ref a])) rfl (by rw [hml]; rfl) (rest := []) rfl (hb hbytes d1) (W := 0) (by show 2 * 0 + 0 ≤ _; decide) (Nat.le_of_ble_eq_true rfl) (Nat.le_of_ble_eq_true rfl)
  have hh3 := q3.trans hh0
  have c4 : Steps p.tables e below (s₁.setTop (entryFrame m #[.ref a, .ref b, .int (Int32.ofNat o), .int (Int32.ofNat len), .null] 6)) (T3.setTop (mkF m 27 #[.val (.ref a), .val (.ref b), .val (.int (Int32.ofNat o)), .val (.int (Int32.ofNat len)), .val .null, .unset] [])) := (c2.trans (st3 _ (Steps.refl _))).trans (by
    refine XS.iloadN X3.here hexec rfl (hb hbytes d4) rfl ?_
    refine XS.ifYes X3.here hexec rfl (pc0 := 5) rfl (hb hbytes d5) rfl (i0_ne_t (nz32 (by omega) l0)) (by decide) rfl ?_
    exact Steps.refl _)
  obtain ⟨T5, X5, q5, st5⟩ := X3.sget hexec hown (wk W (.fieldLink "java/lang/String" 38 "java/lang/String" "COMPACT_STRINGS" "Z")) s1 (fun _ _ h => by rw [hh3]; exact h) (g := (mkF m 27 #[.val (.ref a), .val (.ref b), .val (.int (Int32.ofNat o)), .val (.int (Int32.ofNat len)), .val .null, .unset] [])) rfl (hb hbytes d27)
  have hh5 := q5.trans hh3
  have c6 : Steps p.tables e below (s₁.setTop (entryFrame m #[.ref a, .ref b, .int (Int32.ofNat o), .int (Int32.ofNat len), .null] 6)) (T5.setTop (mkF m 30 #[.val (.ref a), .val (.ref b), .val (.int (Int32.ofNat o)), .val (.int (Int32.ofNat len)), .val .null, .unset] [.int z])) := c4.trans (st5 _ (Steps.refl _))
  have c7 : Steps p.tables e below (s₁.setTop (entryFrame m #[.ref a, .ref b, .int (Int32.ofNat o), .int (Int32.ofNat len), .null] 6)) (T5.setTop (mkF m 36 #[.val (.ref a), .val (.ref b), .val (.int (Int32.ofNat o)), .val (.int (Int32.ofNat len)), .val .null, .unset] [.int (Int32.ofNat len), .int (Int32.ofNat o), .ref b])) := c6.trans (by
    refine XS.ifNo X5.here hexec rfl (hb hbytes d30) rfl (i0_eq_f hz) ?_
    refine XS.aloadN X5.here hexec rfl (hb hbytes d33) rfl rfl ?_
    refine XS.iloadN X5.here hexec rfl (hb hbytes d34) rfl ?_
    refine XS.iloadN X5.here hexec rfl (hb hbytes d35) rfl ?_
    exact Steps.refl _)
  obtain ⟨v8, T8, X8, E8, g8⟩ := X5.callS hexec (Cmp3.law l b A o len) hown (wks W (staticW "java/lang/String" 177 Cmp3.yN)) (wk W Cmp3.tab) (W := 0) (Nat.le_of_ble_eq_true rfl) (Nat.le_of_ble_eq_true rfl) (Nat.le_refl _) (by show 0 + len ≤ len; omega) (g := (mkF m 36 #[.val (.ref a), .val (.ref b), .val (.int (Int32.ofNat o)), .val (.int (Int32.ofNat len)), .val .null, .unset] [.int (Int32.ofNat len), .int (Int32.ofNat o), .ref b])) rfl (by rw [hml]; rfl) c7 (argsL := [.ref b, .int (Int32.ofNat o), .int (Int32.ofNat len)]) (rest := []) rfl rfl (by show 2 * 0 + 0 ≤ _; decide) (hb hbytes d36) (⟨rfl, hA.mv X5.warmed.alike hh5, l1, l2, hp⟩)
  obtain ⟨e8, z8⟩ := E8
  obtain ⟨rfl, N, n1, n2, n3, n4, n5, n6⟩ := NewArr.mv _ T5 s _ _ hh5.symm (Vm.Alike.refl _) rfl e8
  rw [hh5] at z8
  have hB1 := hB.keep X8.warmed.alike (n6 _ _ hB.1)
  have hne : s.heap.size ≠ a := (Nat.ne_of_lt (Array.getElem?_eq_some_iff.mp hB.1).1).symm
  have c9 : Steps p.tables e below (s₁.setTop (entryFrame m #[.ref a, .ref b, .int (Int32.ofNat o), .int (Int32.ofNat len), .null] 6)) (T8.setTop (mkF m 39 #[.val (.ref a), .val (.ref b), .val (.int (Int32.ofNat o)), .val (.int (Int32.ofNat len)), .val .null, .unset] [.ref s.heap.size])) := g8
  have c10 : Steps p.tables e below (s₁.setTop (entryFrame m #[.ref a, .ref b, .int (Int32.ofNat o), .int (Int32.ofNat len), .null] 6)) (T8.setTop (mkF m 45 #[.val (.ref a), .val (.ref b), .val (.int (Int32.ofNat o)), .val (.int (Int32.ofNat len)), .val .null, .val (.ref s.heap.size)] [.int (Int32.ofNat N.slots.size), .ref s.heap.size, .ref a])) := by
    have hc : Steps p.tables e below (s₁.setTop (entryFrame m #[.ref a, .ref b, .int (Int32.ofNat o), .int (Int32.ofNat len), .null] 6)) (T8.setTop (mkF m 45 #[.val (.ref a), .val (.ref b), .val (.int (Int32.ofNat o)), .val (.int (Int32.ofNat len)), .val .null, .val (.ref s.heap.size)] [.int (Int32.ofNat len), .ref s.heap.size, .ref a])) := c9.trans (by
      refine XS.astore X8.here hexec rfl (hb hbytes d39) rfl rfl rfl ?_
      refine XS.aloadN X8.here hexec rfl (hb hbytes d41) rfl rfl ?_
      refine XS.aload X8.here hexec rfl (hb hbytes d42) rfl rfl ?_
      refine XS.iloadN X8.here hexec rfl (hb hbytes d44) rfl ?_
      exact Steps.refl _)
    rw [n4]; exact hc
  obtain ⟨v11, T11, X11, E11, g11⟩ := X8.callS hexec (CodL.law l s.heap.size N) hown (wks W (staticW "java/lang/String" 47 CodL.yN)) (wk W CodL.tab) (W := 1) (Nat.le_of_ble_eq_true rfl) (Nat.le_of_ble_eq_true rfl) (Nat.le_refl _) (by show 0 + len + 0 ≤ len; omega) (g := (mkF m 45 #[.val (.ref a), .val (.ref b), .val (.int (Int32.ofNat o)), .val (.int (Int32.ofNat len)), .val .null, .val (.ref s.heap.size)] [.int (Int32.ofNat N.slots.size), .ref s.heap.size, .ref a])) rfl (by rw [hml]; rfl) c10 (argsL := [.ref s.heap.size, .int (Int32.ofNat N.slots.size)]) (rest := [.ref a]) rfl rfl (by show 2 * 0 + (1 + 0) ≤ _; decide) (hb hbytes d45) (⟨rfl, n1⟩)
  obtain ⟨rfl, q11⟩ := E11
  have hB11 := hB1.mv (X8.warmed.alike.symm.trans X11.warmed.alike) q11
  have c12 : Steps p.tables e below (s₁.setTop (entryFrame m #[.ref a, .ref b, .int (Int32.ofNat o), .int (Int32.ofNat len), .null] 6)) (T11.setTop (mkF m 48 #[.val (.ref a), .val (.ref b), .val (.int (Int32.ofNat o)), .val (.int (Int32.ofNat len)), .val .null, .val (.ref s.heap.size)] [.int 0, .ref a])) := g11
  obtain ⟨T13, X13, p13, bl13, sl13, st13⟩ := X11.finit hexec hown (wk W (.fieldLink "java/lang/String" 15 "java/lang/String" "coder" "B")) (Or.inr ⟨_, (wk W (.laysFinal "java/lang/String" "java/lang/String" "coder" "B"))⟩) (Or.inl ⟨rfl, hnm⟩) f2 (Or.inl rfl) hB11 (t := .byte) (by decide +kernel) rfl (g := (mkF m 48 #[.val (.ref a), .val (.ref b), .val (.int (Int32.ofNat o)), .val (.int (Int32.ofNat len)), .val .null, .val (.ref s.heap.size)] [.int 0, .ref a])) rfl (rest := []) rfl (hb hbytes d48)
  have c14 : Steps p.tables e below (s₁.setTop (entryFrame m #[.ref a, .ref b, .int (Int32.ofNat o), .int (Int32.ofNat len), .null] 6)) (T13.setTop (mkF m 54 #[.val (.ref a), .val (.ref b), .val (.int (Int32.ofNat o)), .val (.int (Int32.ofNat len)), .val .null, .val (.ref s.heap.size)] [.ref s.heap.size, .ref a])) := (c12.trans (st13 _ (Steps.refl _))).trans (by
    refine XS.aloadN X13.here hexec rfl (hb hbytes d51) rfl rfl ?_
    refine XS.aload X13.here hexec rfl (hb hbytes d52) rfl rfl ?_
    exact Steps.refl _)
  obtain ⟨T15, X15, p15, bl15, sl15, st15⟩ := X13.finit hexec hown (wk W (.fieldLink "java/lang/String" 9 "java/lang/String" "value" "[B")) (Or.inr ⟨_, (wk W (.laysFinal "java/lang/String" "java/lang/String" "value" "[B"))⟩) (Or.inl ⟨rfl, hnm⟩) f1 (Or.inl rfl) bl13 (t := (.array .byte)) (by decide +kernel) rfl (g := (mkF m 54 #[.val (.ref a), .val (.ref b), .val (.int (Int32.ofNat o)), .val (.int (Int32.ofNat len)), .val .null, .val (.ref s.heap.size)] [.ref s.heap.size, .ref a])) rfl (rest := []) rfl (hb hbytes d54)
  have c16 : Steps p.tables e below (s₁.setTop (entryFrame m #[.ref a, .ref b, .int (Int32.ofNat o), .int (Int32.ofNat len), .null] 6)) (T15.setTop (mkF m 57 #[.val (.ref a), .val (.ref b), .val (.int (Int32.ofNat o)), .val (.int (Int32.ofNat len)), .val .null, .val (.ref s.heap.size)] [])) := c14.trans (st15 _ (Steps.refl _))
  have ap := apart (Or.inr ⟨_, (wk W (.laysFinal "java/lang/String" "java/lang/String" "value" "[B"))⟩) (Or.inr ⟨_, (wk W (.laysFinal "java/lang/String" "java/lang/String" "coder" "B"))⟩) f1 f2 (t₁ := .array .byte) (t₂ := .byte) (by decide +kernel) (by decide +kernel) (by decide)
  have al := X8.warmed.alike.symm.trans X15.warmed.alike
  have n7 : T11.heap[s.heap.size]? = some N := by rw [q11]; exact n1.1
  exact ⟨T15, none, _, _, _, X15, by simp, rfl, by omega, (fun _ => rfl), ⟨rfl, _, N, bl15, ((Same.refl D _).set _ (by simp)).set _ (by simp), sl15, (Cell.slots_setSlot_ne _ ap).trans sl13, n1.keep al (p15.other hne (p13.other hne n7)), n2, by rw [al.findClass]; exact n3, n4, n5, fun y c h1 h2 => p15.other h1 (p13.other h1 (by rw [q11]; exact n6 y c h2)), by rw [p15.2.2, p13.2.2, q11]; exact z8⟩, fun fs hl => c16.trans (X15.returnOut hexec hret (hb hbytes d57) hl)⟩
end New4
namespace New1
def yN : MethodName := ⟨"java/lang/String", "<init>", "([C)V"⟩
abbrev yB : ByteArray := jdk_42_method_3_code
theorem d0 : decode yB 0 = .ok (.aload_n 0, 1) := by decide +kernel
theorem d1 : decode yB 1 = .ok (.aload_n 1, 1) := by decide +kernel
theorem d2 : decode yB 2 = .ok (.iconst 0, 1) := by decide +kernel
theorem d3 : decode yB 3 = .ok (.aload_n 1, 1) := by decide +kernel
theorem d4 : decode yB 4 = .ok (.arraylength, 1) := by decide +kernel
theorem d5 : decode yB 5 = .ok (.aconst_null, 1) := by decide +kernel
theorem d6 : decode yB 6 = .ok (.invokespecial 27, 3) := by decide +kernel
theorem d9 : decode yB 9 = .ok (.return_, 1) := by decide +kernel
def site : List Cond := [New4.tab] ++ initW "java/lang/String" 27 New4.yN
def tab : Cond := tabOf yN yB 2 none site
def P (a : Addr) (D : Cell) (fV fC : Field) (b : Addr) (A : Cell) (z : Int32) (args : Array Value) (s : State) : Prop := args = #[.ref a, .ref b] ∧ Blank "java/lang/String" a D s ∧ Found "java/lang/String" "value" "[B" fV s ∧ Found "java/lang/String" "coder" "B" fC s ∧ Ch b A s ∧ StaticIs s "java/lang/String" "COMPACT_STRINGS" "Z" (.int z) ∧ ¬ z = 0 ∧ 0 < A.slots.size ∧ A.slots.size ≤ 536870912 ∧ ∀ i, i < A.slots.size → ¬ 255 < cv A i
def E (a : Addr) (D : Cell) (fV fC : Field) (A : Cell) (r : Option Value) (s u : State) : Prop := Got a D fV fC A 0 A.slots.size r s u
/-- new String(chars), not empty, no char above 255: a Latin-1 String of their low bytes -/
theorem law (l : Launch) (a : Addr) (D : Cell) (fV fC : Field) (b : Addr) (A : Cell) (z : Int32) : Law l yN 2 1 3 52 yB 2 none site (P a D fV fC b A z) (E a D fV fC A) [⟨a, fC.slot⟩, ⟨a, fV.slot⟩] 1 A.slots.size := by
  refine Law.of_walk (plainFor_of_name (by decide +kernel)) (by decide +kernel) (by decide +kernel) (by decide) (fun _ _ h => by rw [h.1]; rfl) (fun _ U U' hal hh h => ⟨h.1, h.2.1.mv hal hh, h.2.2.1.al hal, h.2.2.2.1.al hal, h.2.2.2.2.1.mv hal hh, h.2.2.2.2.2.1.there hal hh, h.2.2.2.2.2.2⟩) (fun r U U' V V' h1 hal h2 h => Got.mv r U U' V V' h1 hal h2 h) ?_
  intro p e s m args below meth c s₁ X0 hexec hbytes hml hret hlk hnm hown hh0 W hP
  obtain ⟨rfl, hB, f1, f2, hA, s1, hz, l0, l2, hp⟩ := hP
  have c1 : Steps p.tables e below (s₁.setTop (entryFrame m #[.ref a, .ref b] 2)) (s₁.setTop (mkF m 0 #[.val (.ref a), .val (.ref b)] [])) := entry rfl
  have c2 : Steps p.tables e below (s₁.setTop (entryFrame m #[.ref a, .ref b] 2)) (s₁.setTop (mkF m 6 #[.val (.ref a), .val (.ref b)] [.null, .int (Int32.ofNat A.slots.size), .int 0, .ref b, .ref a])) := c1.trans (by
    refine XS.aloadN X0.here hexec rfl (hb hbytes d0) rfl rfl ?_
    refine XS.aloadN X0.here hexec rfl (hb hbytes d1) rfl rfl ?_
    refine iconstV X0.here hexec rfl 0 (hb hbytes d2) (by decide) ?_
    refine XS.aloadN X0.here hexec rfl (hb hbytes d3) rfl rfl ?_
    refine X0.alen hexec (hA.1.mv X0.warmed.alike hh0) rfl rfl (hb hbytes d4) ?_
    refine XS.aconstNull X0.here hexec rfl (hb hbytes d5) ?_
    exact Steps.refl _)
  obtain ⟨v3, T3, X3, E3, g3⟩ := X0.callN hexec (New4.law l a D fV fC b A z 0 A.slots.size) rfl hown (wks W (initW "java/lang/String" 27 New4.yN)) (W New4.tab (by simp only [site, List.mem_cons, List.mem_append, true_or, or_true])) (W := 0) (Nat.le_of_ble_eq_true rfl) (Nat.le_of_ble_eq_true rfl) (Nat.le_refl _) (by show 0 + A.slots.size ≤ A.slots.size; omega) (g := (mkF m 6 #[.val (.ref a), .val (.ref b)] [.null, .int (Int32.ofNat A.slots.size), .int (Int32.ofNat 0), .ref b, .ref a])) rfl (by rw [hml]; rfl) c2 (argsL := [.ref b, .int (Int32.ofNat 0), .int (Int32.ofNat A.slots.size), .null]) (rest := []) rfl rfl (by show 2 * 0 + 0 ≤ _; decide) (hb hbytes d6) (⟨rfl, hB.mv X0.warmed.alike hh0, f1.al X0.warmed.alike, f2.al X0.warmed.alike, hA.mv X0.warmed.alike hh0, s1.there X0.warmed.alike hh0, hz, l0, by omega, l2, fun i hi => by rw [Nat.zero_add]; exact hp i hi⟩)
  have e0 := Got.mv _ s₁ s _ _ hh0.symm (Vm.Alike.refl _) rfl E3
  obtain rfl := e0.1
  have c4 : Steps p.tables e below (s₁.setTop (entryFrame m #[.ref a, .ref b] 2)) (T3.setTop (mkF m 9 #[.val (.ref a), .val (.ref b)] [])) := g3
  exact ⟨T3, none, _, _, _, X3, by simp, rfl, by omega, (fun _ => rfl), e0, fun fs hl => c4.trans (X3.returnOut hexec hret (hb hbytes d9) hl)⟩
theorem pays {l : Launch} {R : Room} {p : Program} {e : Env} {below : List Frame} {s : State} {sargs : Array Value} {len W : Nat} (a : Addr) (D : Cell) (fV fC : Field) (b : Addr) (A : Cell) (z : Int32) (htab : tab.before sargs s = true) (hfr : 4 ≤ R.frames) (hlo : W + 65 ≤ R.locals) :
    Back l R p e below s sargs yN len W (fun A₁ a₁ => A₁.cells + 1 ≤ R.cells ∧ A₁.slots + A.slots.size ≤ R.slots ∧ P a D fV fC b A z a₁ A₁.U) (fun A₁ _ v₁ B₁ => E a D fV fC A v₁ A₁.U B₁.U ∧ B₁.locs = A₁.locs ++ [⟨a, fC.slot⟩, ⟨a, fV.slot⟩] ∧ B₁.cells = A₁.cells + 1 ∧ B₁.slots = A₁.slots + A.slots.size) :=
  (law l a D fV fC b A z).pays htab hfr (by omega)
end New1
end StrChars
namespace StrChars.Road
open Jvm Sem ClassFile Op Lib Jvm.Stand Jvm.Free Jvm.Free.XT
open Jvm.Lib.Cold (StaticIs)
abbrev ST : String := "java/lang/String"
/-- every table word that New1's law asks, flat -/
abbrev words : List Jvm.Cond := [.code New1.yN New1.yB 2 none, .initialized ST, .methodLink ST 27 New4.yN, .instanceMethod New4.yN,
  .code New4.yN New4.yB 6 none, .fieldLink ST 38 ST "COMPACT_STRINGS" "Z", .laysFinal ST ST "value" "[B", .fieldLink ST 9 ST "value" "[B", .laysFinal ST ST "coder" "B", .fieldLink ST 15 ST "coder" "B",
  .methodLink ST 1 Lib.objectInit, .instanceMethod Lib.objectInit, .code Lib.objectInit ⟨#[0xb1]⟩ 1 none, .methodLink ST 177 Cmp3.yN, .static Cmp3.yN, .methodLink ST 47 CodL.yN, .static CodL.yN,
  .code Cmp3.yN Cmp3.yB 6 (some (.array .byte)), .initialized U16, .arrayClass .byte, .methodLink U16 115 Cmp5.yN, .static Cmp5.yN, .code Cmp5.yN Cmp5.yB 7 (some .int), .code CodL.yN CodL.yB 2 (some .byte)]
theorem tab_of {a : Array Value} {s : State} (h : ∀ w ∈ words, w.before a s = true) : New1.tab.before a s = true := by
  have h5 : Cmp5.tab.before a s = true := unparts (wk h (.code Cmp5.yN Cmp5.yB 7 (some .int))) (wks h (.initialized Cmp5.yN.cls :: Cmp5.site))
  have hc : CodL.tab.before a s = true := unparts (wk h (.code CodL.yN CodL.yB 2 (some .byte))) (wks h (.initialized CodL.yN.cls :: CodL.site))
  have q5 : ∀ w ∈ Cmp5.tab :: words, w.before a s = true := fun w hw => (List.mem_cons.mp hw).elim (fun e => e ▸ h5) (h w)
  have h3 : Cmp3.tab.before a s = true := unparts (wk q5 (.code Cmp3.yN Cmp3.yB 6 (some (.array .byte)))) (wks q5 (.initialized Cmp3.yN.cls :: Cmp3.site))
  have q3 : ∀ w ∈ Cmp3.tab :: CodL.tab :: words, w.before a s = true := fun w hw => (List.mem_cons.mp hw).elim (fun e => e ▸ h3) fun hw => (List.mem_cons.mp hw).elim (fun e => e ▸ hc) (h w)
  have h4 : New4.tab.before a s = true := unparts (wk q3 (.code New4.yN New4.yB 6 none)) (wks q3 (.initialized New4.yN.cls :: New4.site))
  have q4 : ∀ w ∈ New4.tab :: words, w.before a s = true := fun w hw => (List.mem_cons.mp hw).elim (fun e => e ▸ h4) (h w)
  exact unparts (wk q4 (.code New1.yN New1.yB 2 none)) (wks q4 (.initialized New1.yN.cls :: New1.site))
/-- the words ride from the start Z to the walk's own state -/
theorem moved {Z s : State} {a0 args : Array Value} (hZ : Z.Warmed39 s.vm) (hw : ∀ d ∈ words, d.before a0 Z = true) : ∀ d ∈ words, d.before args s = true := fun d hd => by
  have q := hw d hd
  have t : ∀ d ∈ words, d = .arrayClass .byte ∨ (d.onTables && d.keepsFace) = true := by decide +kernel
  rcases t d hd with rfl | t
  · exact RoadKit.mvA hZ q
  · exact RoadKit.mv hZ q t
/-- WHAT COMES BACK, over the tables of the start Z: h the heap at the call, h' behind it -/
def Q (Z : State) (x : Addr) (A : Cell) (h : Heap) (v : Option Value) (h' : Heap) (L : List Loc) : Prop := v = none ∧ (∀ y ∈ L, y.base = x) ∧ RoadKit.Keep h h' [x] ∧ h'.size = h.size + 1 ∧ RoadKit.Exa Z h' x ST ∧ RoadKit.Fld Z h' x ST "value" "[B" (.ref h.size) ∧ RoadKit.Fld Z h' x ST "coder" "B" (.int 0) ∧
  (∃ V : Cell, RoadKit.Arr Z h' h.size V .byte ∧ V.vm = .none ∧ Z.vm.findClass "[B" = some V.cls ∧ V.slots.size = A.slots.size ∧ ∀ j, j < A.slots.size → V.slots[j]? = some (.int (lo8 (cv A j)))) ∧
  ∀ (O n d : String) (w : Value), RoadKit.Fld Z h x O n d w → RoadKit.slotOf Z O n d ≠ RoadKit.slotOf Z ST "value" "[B" → RoadKit.slotOf Z O n d ≠ RoadKit.slotOf Z ST "coder" "B" → RoadKit.Fld Z h' x O n d w
/-- **new String(chars) AT A CALL, IN THE ROAD'S FORM**: for specialBack behind newO: x the fresh String, b the char[] with the cell A -/
theorem back {p : Program} {l : Launch} {e : Env} {R : Room} {s : State} {args : Array Value} {below : List Frame} {len W : Nat} {Z : State} {a0 : Array Value} {h : Heap} (hZ : Z.Warmed39 s.vm) (hw : ∀ d ∈ words, d.before a0 Z = true) {kI : Nat} (wi : (Jvm.Cond.instantiable ST kI).before a0 Z = true)
    {x b : Addr} {A : Cell} {z : Int32} {v0 c0 : Value} (E : RoadKit.Exa Z h x ST) (V : RoadKit.Fld Z h x ST "value" "[B" v0) (C : RoadKit.Fld Z h x ST "coder" "B" c0) (K : RoadKit.Arr Z h b A .char) (hty : Typed .char A) (S : RoadKit.Sta Z h ST "COMPACT_STRINGS" "Z" (.int z)) (hz : ¬ z = 0)
    (l0 : 0 < A.slots.size) (l2 : A.slots.size ≤ 536870912) (hp : ∀ i, i < A.slots.size → ¬ 255 < cv A i) (hfr : 4 ≤ R.frames) (hlo : W + 65 ≤ R.locals) :
    Back l R p e below s args New1.yN len W (fun P a => a = #[.ref x, .ref b] ∧ P.U.heap = h ∧ P.cells + 1 ≤ R.cells ∧ P.slots + A.slots.size ≤ R.slots)
      (fun P _ v B => ∃ L, Q Z x A h v B.U.heap L ∧ B.locs = P.locs ++ L ∧ B.cells = P.cells + 1 ∧ B.slots = P.slots + A.slots.size) := by
  intro m meth c P g ig mk a X hg hsize hdg hW hn hp'
  obtain ⟨rfl, rfl, r1, r2⟩ := hp'
  have al : Z.vm.Alike P.U.vm := hZ.alike.trans X.warmed.alike
  obtain ⟨D, cfV, kV, iV, fV, hD, gV, stV, knV, obV, asV, slV⟩ := id V
  obtain ⟨D', cfC, kC, iC, fC, hD', gC, stC, -, -, asC, slC⟩ := id C
  cases hD.symm.trans hD'
  obtain ⟨D2, kD, e1, e2, e3, e4, e5⟩ := id E
  cases hD.symm.trans e1
  obtain ⟨c2, k2, i1, i2, i3, -⟩ := Cond.instantiable_spec wi
  cases e2.symm.trans i1
  cases e3.symm.trans i2
  obtain ⟨kU, u1, u2⟩ := al.2.2 _ _ e3
  have hB : Blank ST x D P.U := ⟨hD, ⟨knV, fun q hq => by rw [hq] at obV; cases obV⟩, by rw [al.findClass]; exact e2, kU, u1, by rw [u2]; exact i3, by rw [u2]; exact e5 i3⟩
  have F1 : Found ST "value" "[B" fV P.U := ⟨SBG.found_only al ⟨cfV, kV, iV, gV⟩, stV⟩
  have F2 : Found ST "coder" "B" fC P.U := ⟨SBG.found_only al ⟨cfC, kC, iC, gC⟩, stC⟩
  have hA : Ch b A P.U := ⟨⟨K.1, State.isArrayOf_alike al K.2.1, K.2.2, by omega⟩, hty⟩
  have hS : StaticIs P.U ST "COMPACT_STRINGS" "Z" (.int z) := by
    obtain ⟨cfS, iS, kS, fS, st, cS, t1, t2, t3, t4, t5, t6, t7⟩ := S
    exact StaticIs.there (s := { Z with heap := P.U.heap }) ⟨cfS, iS, kS, fS, st, cS, t1, t2, t3, t4, t5, (fun q => by rw [q] at t6; cases t6), t7⟩ al rfl
  obtain ⟨v, B, X', ⟨⟨hv, E', V', q1, q2, q3, q4, q5, q6, q7, q8, q9, q10, q11⟩, hl, hc, hs⟩, st⟩ := New1.pays x D fV fC b A z (tab_of (moved hZ hw)) hfr hlo m meth c P g ig mk _ X hg hsize hdg hW hn ⟨r1, r2, rfl, hB, F1, F2, hA, hS, hz, l0, l2, hp⟩
  have al' : Z.vm.Alike B.U.vm := hZ.alike.trans X'.warmed.alike
  have hsz : E'.slots.size = D.slots.size := by
    obtain ⟨-, -, -, kB, w1, w2, w3⟩ := q1
    obtain ⟨kB', y1, y2⟩ := al'.2.2 _ _ e3
    rw [q2.2.1] at w1
    cases w1.symm.trans y1
    rw [w3, e5 i3, y2]
  refine ⟨v, B, X', ⟨_, ⟨hv, ?_, ⟨by omega, fun y cy hy hn' => q10 y cy (by simpa using hn') hy, fun y cy hy => ?_⟩, q11, ⟨E', _, q1.1, by rw [q2.2.1]; exact e2, by rw [q2.2.1]; exact e3, by rw [q2.1]; exact obV, fun _ => by rw [hsz]; exact e5 i3⟩,
    ⟨E', cfV, kV, iV, fV, q1.1, gV, stV, by rw [q2.1]; exact knV, by rw [q2.1]; exact obV, by rw [q2.2.1]; exact asV, q3⟩, ⟨E', cfC, kC, iC, fC, q1.1, gC, stC, by rw [q2.1]; exact knV, by rw [q2.1]; exact obV, by rw [q2.2.1]; exact asC, q4⟩,
    ⟨V', ⟨q5.1, State.isArrayOf_alike al'.symm q5.2.1, q5.2.2.1⟩, q6, by rw [← al'.findClass]; exact q7, q8, fun j hj => by have := q9 j hj; rwa [Nat.zero_add] at this⟩, fun O n d w F n1 n2 => ?_⟩, hl, hc, hs⟩, st⟩
  · intro y hy
    simp only [List.mem_cons, List.not_mem_nil, or_false] at hy
    rcases hy with rfl | rfl <;> rfl
  · by_cases q : y = x
    · subst q
      cases hD.symm.trans hy
      exact ⟨E', q1.1, q2.2.1, q2.1, hsz⟩
    · exact ⟨cy, q10 y cy q hy, rfl, rfl, rfl⟩
  · obtain ⟨D3, cf, k, i, f, g1, g2, g3, g4, g5, g6, g7⟩ := F
    cases hD.symm.trans g1
    simp only [RoadKit.slotOf, g2, gV, gC, Option.map_some, Option.getD_some] at n1 n2
    exact ⟨E', cf, k, i, f, q1.1, g2, g3, by rw [q2.1]; exact g4, by rw [q2.1]; exact g5, by rw [q2.2.1]; exact g6, by rw [q2.2.2 f.slot (by simp [n1, n2])]; exact g7⟩
end StrChars.Road
namespace StrChars.Road
open Jvm Sem ClassFile Op Lib Jvm.Stand Jvm.Free Jvm.Free.XT
/-- WHAT COMES BACK, the byte[] as a list of values -/
def QA (Z : State) (x : Addr) (zn : Int32) (cs : List Int32) (h : Heap) (v : Option Value) (h' : Heap) (L : List Loc) : Prop := v = none ∧ (∀ y ∈ L, y.base = x) ∧ RoadKit.Keep h h' [x] ∧ h'.size = h.size + 1 ∧ RoadKit.Exa Z h' x ST ∧ RoadKit.Fld Z h' x ST "value" "[B" (.ref h.size) ∧ RoadKit.Fld Z h' x ST "coder" "B" (.int 0) ∧
  (∃ kb, Z.vm.findClass "[B" = some kb ∧ RoadKit.Arv Z h' h.size kb .byte zn (cs.map fun c => .int (lo8 c)) (.int 0)) ∧
  ∀ (O n d : String) (w : Value), RoadKit.Fld Z h x O n d w → RoadKit.slotOf Z O n d ≠ RoadKit.slotOf Z ST "value" "[B" → RoadKit.slotOf Z O n d ≠ RoadKit.slotOf Z ST "coder" "B" → RoadKit.Fld Z h' x O n d w
/-- **new String(chars) AT A CALL, THE ARRAYS AS LISTS**: the char[] at b holds cs, not empty, no char above 255 -/
theorem backArv {p : Program} {l : Launch} {e : Env} {R : Room} {s : State} {args : Array Value} {below : List Frame} {len W : Nat} {Z : State} {a0 : Array Value} {h : Heap} (hZ : Z.Warmed39 s.vm) (hw : ∀ d ∈ words, d.before a0 Z = true) {kI : Nat} (wi : (Jvm.Cond.instantiable ST kI).before a0 Z = true)
    {x b : Addr} {k : ClassId} {zn z : Int32} {cs : List Int32} {dv v0 c0 : Value} (E : RoadKit.Exa Z h x ST) (V : RoadKit.Fld Z h x ST "value" "[B" v0) (C : RoadKit.Fld Z h x ST "coder" "B" c0) (K : RoadKit.Arv Z h b k .char zn (cs.map Value.int) dv) (S : RoadKit.Sta Z h ST "COMPACT_STRINGS" "Z" (.int z)) (hz : ¬ z = 0)
    (hlen : zn.toNatClampNeg = cs.length) (h0 : 0 < cs.length) (hbig : cs.length ≤ 536870912) (hall : ∀ c ∈ cs, ¬ 255 < c) (hfr : 4 ≤ R.frames) (hlo : W + 65 ≤ R.locals) :
    Back l R p e below s args New1.yN len W (fun P a => a = #[.ref x, .ref b] ∧ P.U.heap = h ∧ P.cells + 1 ≤ R.cells ∧ P.slots + cs.length ≤ R.slots)
      (fun P _ v B => ∃ L, QA Z x zn cs h v B.U.heap L ∧ B.locs = P.locs ++ L ∧ B.cells = P.cells + 1 ∧ B.slots = P.slots + cs.length) := by
  obtain ⟨A, K1, K2, K3, K4, K5, K6⟩ := K
  have e : A.slots.size = cs.length := K3.trans hlen
  have hat : ∀ (i : Nat) (hi : i < cs.length), A.slots[i]? = some (.int cs[i]) := fun i hi => by rw [K5 i (by omega)]; simp [List.getD_eq_getElem?_getD, hi]
  have hcv : ∀ (i : Nat) (hi : i < cs.length), cv A i = cs[i] := fun i hi => by unfold cv; rw [hat i hi]
  have hty : Typed .char A := fun i v hv => by
    have hi : i < A.slots.size := (Array.getElem?_eq_some_iff.mp hv).1
    have q := K5 i hi
    rw [hv] at q
    rw [Option.some.inj q]
    exact K6 i hi
  refine Back.mono (back hZ hw wi E V C K1 hty S hz (by omega) (by omega) (fun i hi => by rw [hcv i (by omega)]; exact hall _ (List.getElem_mem _)) hfr hlo) (fun P a hp => ⟨hp.1, hp.2.1, hp.2.2.1, by rw [e]; exact hp.2.2.2⟩) (fun P a v B hp hq => ?_)
  obtain ⟨L, ⟨q1, q2, q3, q4, q5, q6, q7, ⟨V', v1, v2, v3, v4, v5⟩, q9⟩, hl, hc, hs⟩ := hq
  refine ⟨L, ⟨q1, q2, q3, q4, q5, q6, q7, ⟨V'.cls, v3, V', v1, rfl, by rw [v4, e, hlen], K4, fun i hi => ?_, fun i hi => ?_⟩, q9⟩, hl, hc, by rw [hs, e]⟩
  · have hi' : i < cs.length := by omega
    rw [v5 i (by omega), hcv i hi']; simp [List.getD_eq_getElem?_getD, hi']
  · have hi' : i < cs.length := by omega
    simp only [List.getD_eq_getElem?_getD, List.getElem?_map, List.getElem?_eq_getElem hi', Option.map_some, Option.getD_some]
    exact fits_lo8 _
end StrChars.Road
namespace StrChars.Road
open Jvm Sem ClassFile Op Lib Jvm.Stand Jvm.Free Jvm.Free.XT
/-- WHAT COMES BACK, in the writer's own shape -/
def QV (Z : State) (x : Addr) (N : Int32) (bs : List Int32) (h : Heap) (n0 : Nat) (v : Option Value) (h' : Heap) (L : List Loc) : Prop := v = none ∧ RoadKit.Fr n0 L ∧ RoadKit.Keep h h' [x] ∧ RoadKit.Exa Z h' x ST ∧ RoadKit.Fld Z h' x ST "coder" "B" (.int 0) ∧
  ∃ (t : Addr) (kb : ClassId), n0 ≤ t ∧ h.size ≤ t ∧ ¬ t = x ∧ RoadKit.Fld Z h' x ST "value" "[B" (.ref t) ∧ RoadKit.Arv Z h' t kb .byte N (bs.map Value.int) (.int 0)
/-- **new String(chars) AT A CALL, FOR THE WRITER**: a char[] of n known ints, each 0 to 255 -/
theorem backV {p : Program} {l : Launch} {e : Env} {R : Room} {s : State} {args : Array Value} {below : List Frame} {len W : Nat} {Z : State} {a0 : Array Value} {h : Heap} (hZ : Z.Warmed39 s.vm) (hw : ∀ d ∈ words, d.before a0 Z = true) {kI : Nat} (wi : (Jvm.Cond.instantiable ST kI).before a0 Z = true)
    {x b : Addr} {kC : ClassId} {cs bs : List Int32} {d v0 c0 : Value} {z N : Int32} {n n0 : Nat} (hx0 : n0 ≤ x) (hh0 : n0 ≤ h.size) (E : RoadKit.Exa Z h x ST) (V : RoadKit.Fld Z h x ST "value" "[B" v0) (C : RoadKit.Fld Z h x ST "coder" "B" c0) (K : RoadKit.Arv Z h b kC .char N (cs.map Value.int) d) (S : RoadKit.Sta Z h ST "COMPACT_STRINGS" "Z" (.int z)) (hz : ¬ z = 0)
    (hn : cs.length = n) (hN : N = Int32.ofNat n) (l0 : 0 < n) (l2 : n ≤ 4000) (hp : ∀ c ∈ cs, ¬ c < 0 ∧ ¬ (255 : Int32) < c) (hb : bs = cs.map (fun c => c.toInt8.toInt32)) (hfr : 4 ≤ R.frames) (hlo : W + 65 ≤ R.locals) :
    Back l R p e below s args (⟨"java/lang/String", "<init>", "([C)V"⟩ : MethodName) len W (fun P a => a = #[.ref x, .ref b] ∧ P.U.heap = h ∧ P.cells + 1 ≤ R.cells ∧ P.slots + n ≤ R.slots)
      (fun P _ v B => ∃ L, QV Z x N bs h n0 v B.U.heap L ∧ B.locs = P.locs ++ L ∧ B.cells = P.cells + 1 ∧ B.slots = P.slots + n) := by
  subst hn hN hb
  refine Back.mono (backArv hZ hw wi E V C K S hz (n32 (by omega)) l0 (by omega) (fun c hc => (hp c hc).2) hfr hlo) (fun P a hp => hp) (fun P a v B hp hq => ?_)
  obtain ⟨L, ⟨q1, q2, q3, q4, q5, q6, q7, ⟨kb, v1, v2⟩, q9⟩, hl, hc, hs⟩ := hq
  exact ⟨L, ⟨q1, fun y hy => by rw [q2 y hy]; exact hx0, q3, q5, q7, h.size, kb, hh0, Nat.le_refl _, Nat.ne_of_gt E.lt, q6, by rw [List.map_map]; exact v2⟩, hl, hc, hs⟩
end StrChars.Road
end Jvm.Pilot.@@N@@

namespace Jvm.Pilot.@@N@@
open Jvm Jvm.ClassFile Sem Op Lib Jvm.Free Jvm.Stand Jvm.LawKit Jvm.RoadKit Bundle Jvm.Pilot.@@N@@.Jvm.D
theorem own_irr (x : Int32) : ¬ x < x := fun h => absurd (Int32.lt_iff_toInt_lt.mp h) (by omega)
theorem own_nn (x : Int32) : ¬ ((x &&& (2147483647 : Int32)) < (0 : Int32)) := fun h => by
  have h1 := Int32.lt_iff_toInt_lt.mp h
  have h2 := (c_and x 2147483647 (by decide)).1
  have h3 : (0 : Int32).toInt = 0 := rfl
  omega
def own_min (a b : Int32) : Int32 := if b < a then b else a
def own_max (a b : Int32) : Int32 := if a < b then b else a
theorem own_mm (a b : Int32) : ¬ (own_max a b < own_min a b) := fun h => by
  have h := Int32.lt_iff_toInt_lt.mp h
  unfold own_max own_min at h
  split at h <;> split at h <;> (simp only [Int32.lt_iff_toInt_lt] at *; omega)
theorem own_min_nn {a b : Int32} (ha : ¬ a < (0 : Int32)) (hb : ¬ b < (0 : Int32)) : ¬ (own_min a b < (0 : Int32)) := by unfold own_min; split <;> assumption
theorem own_max_nn {a b : Int32} (ha : ¬ a < (0 : Int32)) (hb : ¬ b < (0 : Int32)) : ¬ (own_max a b < (0 : Int32)) := by unfold own_max; split <;> assumption
theorem own_mod {x d k : Int32} {D : Int} (hd : d.toInt = D) (hD : 0 < D) (h : (x &&& (2147483647 : Int32)) % d = k) : 0 ≤ k.toInt ∧ k.toInt < D := by
  have h1 := (c_and x 2147483647 (by decide)).1
  have h2 := (c_irem (x &&& 2147483647) d D hd).1 h1
  rw [h] at h2
  rw [h2]
  exact ⟨Int.emod_nonneg _ (by omega), Int.emod_lt_of_pos _ hD⟩
theorem own_ne {k : Int32} (n : Nat) (hc : (Int32.ofNat n).toInt = (n : Int)) (h : ¬ k = Int32.ofNat n) : k.toInt ≠ (n : Int) := fun q => h (Int32.toInt_inj.mp (q.trans hc.symm))
theorem own_r255 {x c : Int32} (h : (x &&& (255 : Int32)) = c) : ¬ (c < (0 : Int32)) ∧ ¬ ((255 : Int32) < c) := by
  have h1 := c_and x 255 (by decide)
  rw [h] at h1
  have e1 : (255 : Int32).toInt = 255 := rfl
  have e0 : (0 : Int32).toInt = 0 := rfl
  simp only [Int32.lt_iff_toInt_lt]
  omega
theorem own_narc {c : Int32} (h : ¬ (c < (0 : Int32)) ∧ ¬ ((255 : Int32) < c)) : nar .char c = c := by
  have e1 : (255 : Int32).toInt = 255 := rfl
  have e0 : (0 : Int32).toInt = 0 := rfl
  have h1 := h.1
  have h2 := h.2
  simp only [Int32.lt_iff_toInt_lt] at h1 h2
  have h3 := c_i2c c
  apply Int32.toInt_inj.mp
  show c.toUInt32.toUInt16.toUInt32.toInt32.toInt = c.toInt
  omega
theorem own_fitc {c : Int32} (h : ¬ (c < (0 : Int32)) ∧ ¬ ((255 : Int32) < c)) : fits .char (.int c) = true := by
  have q := fits_nar_char c
  rw [own_narc h] at q
  exact q
theorem own_b8 (x : Int32) : x.toInt8.toInt32.toInt8.toInt32 = x.toInt8.toInt32 := Int32.toInt_inj.mp (by have a := c_i2b x; have b := c_i2b x.toInt8.toInt32; omega)
theorem own_shr0 (x : Int32) : x >>> ((0 : Int32) &&& 31) = x := Int32.toInt_inj.mp (by rw [c_ishr x 0 0 (by decide)]; simp)
theorem own_nar255 (x : Int32) : nar .char ((x &&& (255 : Int32)).toUInt32.toUInt16.toUInt32.toInt32) = x &&& (255 : Int32) := by rw [i2c_mask]; exact i2c_mask x
/-- from here the run comes to an end at which Q holds, at most so many cells and slots made -/
def own_Go (p : Program) (e : Env) (below : List Frame) (s : State) (Q : Option Value → Heap → List Loc → Prop) (C S : Nat) (A : State) : Prop :=
  ∃ s₂ o, Steps p.tables e below A s₂ ∧ s₂.status = .running ∧ Ended s₂ below o ∧ ∃ v L, o = .returned v ∧ Q v s₂.heap L ∧ FrameEnd s o s₂ L C S
theorem own_go {p : Program} {e : Env} {below : List Frame} {s : State} {Q : Option Value → Heap → List Loc → Prop} {C S : Nat} {A B : State} (k : ∀ t, Steps p.tables e below B t → Steps p.tables e below A t) (h : own_Go p e below s Q C S B) : own_Go p e below s Q C S A := by
  obtain ⟨s₂, o, h1, h2⟩ := h
  exact ⟨s₂, o, k _ h1, h2⟩
theorem own_fin {p : Program} {l : Launch} {e : Env} {R : Room} {s : State} {m : MethodId} {args : Array Value} {below : List Frame} {meth : Method} {c : Code} {T : State} {locs : List Loc} {cells slots : Nat} {Q : Option Value → Heap → List Loc → Prop} {C S : Nat} {A : State} {v : Option Value}
    (X : Stand p l e R s m args below meth c T locs cells slots) (hlocks : meth.locks = false) (hv : meth.sig.returnType = none → v = none)
    (st : ∀ fs, (∀ (f : JFrame) (acts : List Action), f.method = m → f.locked = none → f.entered = [] → (doReturn e (T.setTop f) acts v).1 = T.setFrames fs) → Steps p.tables e below A (T.setFrames fs))
    (hQ : Q v T.heap locs) (hc : cells ≤ C) (hs : slots ≤ S) : own_Go p e below s Q C S A := by
  obtain ⟨fs, hr, hrun, hended, hW, hsame⟩ := X.leave (v := v) hv hlocks
  exact ⟨_, _, st fs hr, hrun, hended, _, _, rfl, hQ, ⟨_, rfl⟩, hW, hsame.mono hc hs⟩
theorem own_eqI {args : Array Value} {first s : State} {o : Option Outcome} {idx : List Nat} {t : Term} {k : Int32} (h : (Jvm.Cond.eq t (.int k)).value args first o s idx = some true) : t.eval args first o idx s = some (.int k) := by
  obtain ⟨x, y, h1, h2, hk, hk'⟩ := cmp_v (Or.inl h)
  have e2 : y = .int k := (Option.some.inj ((Term.int_eval k).symm.trans h2)).symm
  subst e2
  obtain ⟨z, rfl⟩ := hk'
  simp only [Cond.value, h1, h2] at h
  have hz : z = k := by simpa using h
  rw [h1, hz]
theorem own_eqR {args : Array Value} {first s : State} {o : Option Outcome} {idx : List Nat} {t u : Term} {a : Addr} (h : (Jvm.Cond.eq t u).value args first o s idx = some true) (hu : u.eval args first o idx s = some (.ref a)) : t.eval args first o idx s = some (.ref a) := by
  obtain ⟨x, y, h1, h2, hk, hk'⟩ := cmp_v (Or.inl h)
  cases hu.symm.trans h2
  rw [h1, gotT (eq_R h1 hu hk'.2 rfl) h]
theorem own_len {args : Array Value} {s : State} {t : Term} {a : Addr} {cl : Cell} {k : Int32} {ty : FieldType} (h : (Term.length t).eval args s none [] s = some (.int k)) (ht : t.eval args s none [] s = some (.ref a)) (A : Arr s s.heap a cl ty) : cl.slots.size < 2 ^ 31 ∧ cl.slots.size.toInt32 = k := by
  have ha := A.fin (Vm.Alike.refl _)
  simp only [Term.eval, ht, ha, Option.bind_eq_bind, Option.bind_some] at h
  by_cases q : cl.slots.size < 2 ^ 31
  · simp [q] at h; exact ⟨q, h⟩
  · simp [q] at h
theorem own_ofNat {q : Nat} (h : q < 2147483648) : (Int32.ofNat q).toInt = q ∧ (Int32.ofNat q).toNatClampNeg = q := by
  have e : (Int32.ofNat q).toInt = q := Int32.toInt_ofNat_small (by omega)
  exact ⟨e, by show (Int32.ofNat q).toInt.toNat = q; rw [e]; rfl⟩
theorem own_idx {q n : Nat} {N : Int32} (hN : N.toNatClampNeg = n) (hN0 : ¬ N < 0) (hq : q < n) : (¬ (Int32.ofNat q < (0 : Int32)) ∧ Int32.ofNat q < N) ∧ (Int32.ofNat q).toNatClampNeg = q := by
  have h1 := nat_of hN0
  have h2 := (rng32 N).2
  have h3 := own_ofNat (q := q) (by omega)
  refine ⟨⟨fun h => ?_, ?_⟩, h3.2⟩
  · have h4 := Int32.lt_iff_toInt_lt.mp h
    rw [h3.1] at h4
    have e0 : (0 : Int32).toInt = 0 := rfl
    omega
  · rw [Int32.lt_iff_toInt_lt, h3.1, h1, hN]; omega
theorem own_past {n : Nat} {N : Int32} (hN : N.toNatClampNeg = n) (hN0 : ¬ N < 0) : ¬ (Int32.ofNat n < N) := fun h => by
  have h1 := nat_of hN0
  have h2 := (rng32 N).2
  have h3 := own_ofNat (q := n) (by omega)
  have h4 := Int32.lt_iff_toInt_lt.mp h
  rw [h3.1, h1, hN] at h4
  omega
theorem own_incr {q n : Nat} {N : Int32} (hN : N.toNatClampNeg = n) (hN0 : ¬ N < 0) (hq : q < n) : Int32.ofNat q + (1 : Int32) = Int32.ofNat (q + 1) := by
  have h1 := nat_of hN0
  have h2 := (rng32 N).2
  have h3 := own_ofNat (q := q) (by omega)
  apply Int32.toInt_inj.mp
  have a := c_iadd (Int32.ofNat q) 1
  have b := rng32 (Int32.ofNat q + 1)
  have e1 : (1 : Int32).toInt = 1 := rfl
  by_cases hb : q + 1 < 2147483648
  · rw [(own_ofNat hb).1]; rw [h3.1] at a; omega
  · omega
theorem own_mapget (xs : List Int32) (q : Nat) : (xs.map Value.int).getD q (.int (0 : Int32)) = .int (xs.getD q 0) := by
  simp only [List.getD_eq_getElem?_getD, List.getElem?_map]
  cases xs[q]? <;> rfl
theorem own_listeq {xs ys : List Int32} (hl : xs.length = ys.length) (h : ∀ r, r < xs.length → xs.getD r 0 = ys.getD r 0) : xs = ys := by
  apply List.ext_getElem hl
  intro i h1 h2
  have := h i h1
  simpa [List.getD_eq_getElem?_getD, List.getElem?_eq_getElem h1, List.getElem?_eq_getElem h2] using this
def own_eqv (xs ys : List Int32) : Int32 := if xs = ys then 1 else 0
theorem own_fldeq {Z : State} {h : Heap} {a : Addr} {C n d : String} {v w : Value} (F : Fld Z h a C n d v) (G : Fld Z h a C n d w) : v = w := Classical.byContradiction fun q => Fld.ne F G q rfl
theorem own_same {Z : State} {h : Heap} {t : Addr} {k k' : ClassId} {N N' : Int32} {xs ys : List Int32} (F : Arv Z h t k .byte N (xs.map Value.int) (.int (0 : Int32))) (G : Arv Z h t k' .byte N' (ys.map Value.int) (.int (0 : Int32))) (h1 : N.toNatClampNeg = xs.length) (h2 : N'.toNatClampNeg = ys.length) : xs = ys := by
  obtain ⟨c, A, -, S, -, H, -⟩ := F
  obtain ⟨c', A', -, S', -, H', -⟩ := G
  cases A.1.symm.trans A'.1
  refine own_listeq (by omega) fun r hr => ?_
  have e := (H r (by omega)).symm.trans (H' r (by omega))
  rw [own_mapget, own_mapget] at e
  exact Value.int.inj (Option.some.inj e)
theorem own_nat_inj {N N' : Int32} (h : N.toNatClampNeg = N'.toNatClampNeg) (h0 : ¬ N < 0) (h0' : ¬ N' < 0) : N = N' := by
  apply Int32.toInt_inj.mp
  rw [nat_of h0, nat_of h0', h]
theorem own_an {P : Int32 → Prop} : ∀ c ∈ ([] : List Int32), P c := fun _ q => nomatch q
theorem own_ac {P : Int32 → Prop} {x : Int32} {L : List Int32} (h : P x) (r : ∀ c ∈ L, P c) : ∀ c ∈ x :: L, P c := fun c q => (List.mem_cons.mp q).elim (fun u => u ▸ h) (r c)
theorem own_hnew (Z : State) (a0 : Array Value) (hw : ∀ d ∈ tables_1, d.before a0 Z = true) : ∀ d ∈ StrChars.Road.words, d.before a0 Z = true := fun d hd => hw d ((by decide +kernel : ∀ d ∈ StrChars.Road.words, d ∈ tables_1) d hd)
theorem own_d17_0 : decode jdk_42_method_66_code 0 = .ok (.aload_n 0, 1) := by decide +kernel
theorem own_d17_1 : decode jdk_42_method_66_code 1 = .ok (.aload_n 1, 1) := by decide +kernel
theorem own_d17_2 : decode jdk_42_method_66_code 2 = .ok (.if_acmp .ne 5, 3) := by decide +kernel
theorem own_d17_5 : decode jdk_42_method_66_code 5 = .ok (.iconst 1, 1) := by decide +kernel
theorem own_d17_6 : decode jdk_42_method_66_code 6 = .ok (.ireturn, 1) := by decide +kernel
theorem own_pn_java_lang_String : plainName "java/lang/String" = true := by first | (simp [plainName, overriddenIn]; done) | decide +kernel
theorem own_ef_own_reqs (m : MethodId) (a1 : Addr) : entryFrame m #[(.ref a1), (.ref a1)] 3 = mkF m 0 #[rv a1, rv a1, .unset] [] := by first | (simp [entryFrame, mkF, argsToLocals, Value.category]; done) | rfl
def own_Q_own_reqs (Z : State) (a1 : Addr) (h0 : Heap) (n0 : Nat) (v : Option Value) (h : Heap) (L : List Loc) : Prop := v = some (.int (1 : Int32)) ∧ Fr n0 L ∧ h = h0
set_option maxRecDepth 65536 in
set_option maxHeartbeats 40000000 in
theorem own_reqs (l : Launch) (Z : State) (a0 : Array Value) (hw : ∀ d ∈ tables_1, d.before a0 Z = true) (ws : List Jvm.Cond) (a1 : Addr) (h0 : Heap) (n0 : Nat) (Z0 : n0 ≤ h0.size)   :
    MetFree l (⟨"java/lang/String", "equals", "(Ljava/lang/Object;)Z"⟩ : MethodName) (head1 (Jvm.Cond.code (⟨"java/lang/String", "equals", "(Ljava/lang/Object;)Z"⟩ : MethodName) jdk_42_method_66_code 3 (some .boolean) :: ws) ({ frames := 0, cells := 0, slots := 0, locals := 0 } : Room)) (fun a U => a = #[(.ref a1), (.ref a1)] ∧ Z.Warmed39 U.vm ∧ U.heap = h0) (fun _ _ _ _ _ => True) (fun _ U o U' => ∃ v L, o = .returned v ∧ own_Q_own_reqs Z a1 h0 n0 v U'.heap L ∧ FrameEnd U o U' L ({ frames := 0, cells := 0, slots := 0, locals := 0 } : Room).cells ({ frames := 0, cells := 0, slots := 0, locals := 0 } : Room).slots) := by
  refine MetFree.of_bodySF (plainFor_of_name own_pn_java_lang_String) hisR ?_
  intro p e s m args below meth c s₁ Bd hml0 hP hK
  obtain ⟨rfl, hZ, hh⟩ := hP
  have hx := Bd.exec
  have hby := Bd.bytes
  have hml : c.maxLocals = 3 := hml0
  have hown : s.vm.findClass "java/lang/String" = some m.cls := findClass_of_methodNamed Bd.named
  have hnm := (name_of_methodNamed Bd.named Bd.method).1
  have X0 : Stand p l e ({ frames := 0, cells := 0, slots := 0, locals := 0 } : Room) s m #[(.ref a1), (.ref a1)] below meth c s₁ [] 0 0 := Stand.of_body Bd
  have e0 : s₁.heap = h0 := by rw [← hh, Bd.state]; rfl
  have N0 := Fr.nil n0
  show own_Go p e below s (own_Q_own_reqs Z a1 h0 n0) ({ frames := 0, cells := 0, slots := 0, locals := 0 } : Room).cells ({ frames := 0, cells := 0, slots := 0, locals := 0 } : Room).slots (s₁.setTop (entryFrame m #[(.ref a1), (.ref a1)] 3))
  refine own_go (fun zt zk => castTop (own_ef_own_reqs m a1) zk) ?_
  show own_Go p e below s _ _ _ (s₁.setTop (mkF m 0 #[rv a1, rv a1, .unset] []))
  refine own_go (fun zt zk => (XS.aloadN X0.here hx rfl (hb hby own_d17_0) rfl rfl (XS.aloadN X0.here hx rfl (hb hby own_d17_1) rfl rfl zk))) ?_
  show own_Go p e below s _ _ _ (s₁.setTop (mkF m 2 #[rv a1, rv a1, .unset] [(.ref a1), (.ref a1)]))
  refine own_go (fun zt zk => Jvm.RoadKit.acmp (g := (mkF m 2 #[rv a1, rv a1, .unset] [(.ref a1), (.ref a1)])) X0 hx rfl rfl rfl (pc0 := 2) (pc' := 5) (same := true) rfl (hb hby own_d17_2) rfl (decide_eq_true rfl) (by decide) (by decide) zk) ?_
  show own_Go p e below s _ _ _ (s₁.setTop (mkF m 5 #[rv a1, rv a1, .unset] []))
  refine own_go (fun zt zk => (XS.iconst X0.here hx rfl (hb hby own_d17_5) zk)) ?_
  show own_Go p e below s _ _ _ (s₁.setTop (mkF m 6 #[rv a1, rv a1, .unset] [(.int (1 : Int32))]))
  exact own_fin X0 Bd.notSynchronized (fun h => by rw [Bd.returns] at h; cases h) (fun fs hr => retN X0 hx (t := .boolean) Bd.returns (by simp) (hb hby own_d17_6) hr) (by rw [e0]; exact ⟨rfl, N0, rfl⟩) (by decide) (by decide)
theorem own_d19_0 : decode jdk_43_method_3_code 0 = .ok (.iload_n 0, 1) := by decide +kernel
theorem own_d19_1 : decode jdk_43_method_3_code 1 = .ok (.sipush 255, 3) := by decide +kernel
theorem own_d19_4 : decode jdk_43_method_3_code 4 = .ok (.if_icmp .gt 7, 3) := by decide +kernel
theorem own_d19_7 : decode jdk_43_method_3_code 7 = .ok (.iconst 1, 1) := by decide +kernel
theorem own_d19_8 : decode jdk_43_method_3_code 8 = .ok (.goto 4, 3) := by decide +kernel
theorem own_d19_12 : decode jdk_43_method_3_code 12 = .ok (.ireturn, 1) := by decide +kernel
theorem own_pn_java_lang_StringLatin1 : plainName "java/lang/StringLatin1" = true := by first | (simp [plainName, overriddenIn]; done) | decide +kernel
theorem own_ef_own_rcan (m : MethodId) (p1 : Int32) : entryFrame m #[(.int p1)] 1 = mkF m 0 #[iv p1] [] := by first | (simp [entryFrame, mkF, argsToLocals, Value.category]; done) | rfl
def own_Q_own_rcan (Z : State) (p1 : Int32) (h0 : Heap) (n0 : Nat) (v : Option Value) (h : Heap) (L : List Loc) : Prop := v = some (.int (1 : Int32)) ∧ Fr n0 L ∧ h = h0
set_option maxRecDepth 65536 in
set_option maxHeartbeats 40000000 in
theorem own_rcan (l : Launch) (Z : State) (a0 : Array Value) (hw : ∀ d ∈ tables_1, d.before a0 Z = true) (ws : List Jvm.Cond) (p1 : Int32) (h0 : Heap) (n0 : Nat) (Z0 : n0 ≤ h0.size)  (hr : ¬ (p1 < (0 : Int32)) ∧ ¬ ((255 : Int32) < p1)) :
    MetFree l (⟨"java/lang/StringLatin1", "canEncode", "(C)Z"⟩ : MethodName) (head1 (Jvm.Cond.code (⟨"java/lang/StringLatin1", "canEncode", "(C)Z"⟩ : MethodName) jdk_43_method_3_code 1 (some .boolean) :: ws) ({ frames := 0, cells := 0, slots := 0, locals := 0 } : Room)) (fun a U => a = #[(.int p1)] ∧ Z.Warmed39 U.vm ∧ U.heap = h0) (fun _ _ _ _ _ => True) (fun _ U o U' => ∃ v L, o = .returned v ∧ own_Q_own_rcan Z p1 h0 n0 v U'.heap L ∧ FrameEnd U o U' L ({ frames := 0, cells := 0, slots := 0, locals := 0 } : Room).cells ({ frames := 0, cells := 0, slots := 0, locals := 0 } : Room).slots) := by
  refine MetFree.of_bodySF (plainFor_of_name own_pn_java_lang_StringLatin1) hisR ?_
  intro p e s m args below meth c s₁ Bd hml0 hP hK
  obtain ⟨rfl, hZ, hh⟩ := hP
  have hx := Bd.exec
  have hby := Bd.bytes
  have hml : c.maxLocals = 1 := hml0
  have hown : s.vm.findClass "java/lang/StringLatin1" = some m.cls := findClass_of_methodNamed Bd.named
  have hnm := (name_of_methodNamed Bd.named Bd.method).1
  have X0 : Stand p l e ({ frames := 0, cells := 0, slots := 0, locals := 0 } : Room) s m #[(.int p1)] below meth c s₁ [] 0 0 := Stand.of_body Bd
  have e0 : s₁.heap = h0 := by rw [← hh, Bd.state]; rfl
  have N0 := Fr.nil n0
  show own_Go p e below s (own_Q_own_rcan Z p1 h0 n0) ({ frames := 0, cells := 0, slots := 0, locals := 0 } : Room).cells ({ frames := 0, cells := 0, slots := 0, locals := 0 } : Room).slots (s₁.setTop (entryFrame m #[(.int p1)] 1))
  refine own_go (fun zt zk => castTop (own_ef_own_rcan m p1) zk) ?_
  show own_Go p e below s _ _ _ (s₁.setTop (mkF m 0 #[iv p1] []))
  refine own_go (fun zt zk => (XS.iloadN X0.here hx rfl (hb hby own_d19_0) rfl (XS.sipush X0.here hx rfl (hb hby own_d19_1) (XS.icmpNo X0.here hx rfl (hb hby own_d19_4) rfl (flt (hr.2 : ¬ ((255 : Int32) < p1))).2.2.1 (XS.iconst X0.here hx rfl (hb hby own_d19_7) (XS.goto X0.here hx rfl (pc0 := 8) (pc' := 12) rfl (hb hby own_d19_8) (by decide) (by decide) zk)))))) ?_
  show own_Go p e below s _ _ _ (s₁.setTop (mkF m 12 #[iv p1] [(.int (1 : Int32))]))
  exact own_fin X0 Bd.notSynchronized (fun h => by rw [Bd.returns] at h; cases h) (fun fs hr => retN X0 hx (t := .boolean) Bd.returns (by simp) (hb hby own_d19_12) hr) (by rw [e0]; exact ⟨rfl, N0, rfl⟩) (by decide) (by decide)
theorem own_d20_0 : decode jdk_43_method_46_code 0 = .ok (.iconst 1, 1) := by decide +kernel
theorem own_d20_1 : decode jdk_43_method_46_code 1 = .ok (.newarray .byte, 2) := by decide +kernel
theorem own_d20_3 : decode jdk_43_method_46_code 3 = .ok (.dup, 1) := by decide +kernel
theorem own_d20_4 : decode jdk_43_method_46_code 4 = .ok (.iconst 0, 1) := by decide +kernel
theorem own_d20_5 : decode jdk_43_method_46_code 5 = .ok (.iload_n 0, 1) := by decide +kernel
theorem own_d20_6 : decode jdk_43_method_46_code 6 = .ok (.i2b, 1) := by decide +kernel
theorem own_d20_7 : decode jdk_43_method_46_code 7 = .ok (.bastore, 1) := by decide +kernel
theorem own_d20_8 : decode jdk_43_method_46_code 8 = .ok (.areturn, 1) := by decide +kernel
theorem own_ef_own_rtob (m : MethodId) (p1 : Int32) : entryFrame m #[(.int p1)] 1 = mkF m 0 #[iv p1] [] := by first | (simp [entryFrame, mkF, argsToLocals, Value.category]; done) | rfl
def own_Q_own_rtob (Z : State) (p1 : Int32) (h0 : Heap) (n0 : Nat) (v : Option Value) (h : Heap) (L : List Loc) : Prop := ∃ t kb, v = some (.ref t) ∧ Fr n0 L ∧ Keep h0 h [] ∧ h0.size ≤ t ∧ Arv Z h t kb .byte (1 : Int32) [(.int (p1.toInt8.toInt32))] (.int (0 : Int32))
set_option maxRecDepth 65536 in
set_option maxHeartbeats 40000000 in
theorem own_rtob (l : Launch) (Z : State) (a0 : Array Value) (hw : ∀ d ∈ tables_1, d.before a0 Z = true) (ws : List Jvm.Cond) (p1 : Int32) (h0 : Heap) (n0 : Nat) (Z0 : n0 ≤ h0.size)   :
    MetFree l (⟨"java/lang/StringLatin1", "toBytes", "(C)[B"⟩ : MethodName) (head1 (Jvm.Cond.code (⟨"java/lang/StringLatin1", "toBytes", "(C)[B"⟩ : MethodName) jdk_43_method_46_code 1 (some (.array .byte)) :: ws) ({ frames := 0, cells := 1, slots := 1, locals := 0 } : Room)) (fun a U => a = #[(.int p1)] ∧ Z.Warmed39 U.vm ∧ U.heap = h0) (fun _ _ _ _ _ => True) (fun _ U o U' => ∃ v L, o = .returned v ∧ own_Q_own_rtob Z p1 h0 n0 v U'.heap L ∧ FrameEnd U o U' L ({ frames := 0, cells := 1, slots := 1, locals := 0 } : Room).cells ({ frames := 0, cells := 1, slots := 1, locals := 0 } : Room).slots) := by
  refine MetFree.of_bodySF (plainFor_of_name own_pn_java_lang_StringLatin1) hisR ?_
  intro p e s m args below meth c s₁ Bd hml0 hP hK
  obtain ⟨rfl, hZ, hh⟩ := hP
  have hx := Bd.exec
  have hby := Bd.bytes
  have hml : c.maxLocals = 1 := hml0
  have hown : s.vm.findClass "java/lang/StringLatin1" = some m.cls := findClass_of_methodNamed Bd.named
  have hnm := (name_of_methodNamed Bd.named Bd.method).1
  have X0 : Stand p l e ({ frames := 0, cells := 1, slots := 1, locals := 0 } : Room) s m #[(.int p1)] below meth c s₁ [] 0 0 := Stand.of_body Bd
  have e0 : s₁.heap = h0 := by rw [← hh, Bd.state]; rfl
  have N0 := Fr.nil n0
  have Kp : Keep h0 h0 [] := Keep.refl h0 _
  show own_Go p e below s (own_Q_own_rtob Z p1 h0 n0) ({ frames := 0, cells := 1, slots := 1, locals := 0 } : Room).cells ({ frames := 0, cells := 1, slots := 1, locals := 0 } : Room).slots (s₁.setTop (entryFrame m #[(.int p1)] 1))
  refine own_go (fun zt zk => castTop (own_ef_own_rtob m p1) zk) ?_
  show own_Go p e below s _ _ _ (s₁.setTop (mkF m 0 #[iv p1] []))
  refine own_go (fun zt zk => (XS.iconst X0.here hx rfl (hb hby own_d20_0) zk)) ?_
  show own_Go p e below s _ _ _ (s₁.setTop (mkF m 1 #[iv p1] [(.int (1 : Int32))]))
  obtain ⟨T1, h1, k1, X1, e1, E1, A1, Ea1, st1⟩ := newPE X0 hx hZ (hw _ (List.mem_of_getElem? (i := 22) rfl)) e0 (g := (mkF m 1 #[iv p1] [(.int (1 : Int32))])) rfl (hb hby own_d20_1) rfl (by decide) (cap := 1) (by decide) (by decide) (by decide) (by decide) (ad := "[B") (by decide)
  obtain ⟨b1, g1⟩ : ∃ z, z = h0.size := ⟨_, rfl⟩
  rw [← g1] at A1 Ea1 st1
  refine own_go st1 ?_
  have sz_b1 : h0.size ≤ b1 := Nat.le_trans Kp.1 (Nat.le_of_eq g1.symm)
  have g_b1 : n0 ≤ b1 := Nat.le_trans Z0 sz_b1
  replace Kp := Kp.ext E1
  have V_b1 : Arv Z h1 b1 k1 .byte (1 : Int32) [(.int (0 : Int32))] (.int (0 : Int32)) := (Arv.new A1 (by decide)).pad (pad_rep [] (.int (0 : Int32)) 1)
  have Ea_b1 := Ea1
  show own_Go p e below s _ _ _ (T1.setTop (mkF m 3 #[iv p1] [(.ref b1)]))
  refine own_go (fun zt zk => (XS.dup X1.here hx rfl (hb hby own_d20_3) rfl rfl (XS.iconst X1.here hx rfl (hb hby own_d20_4) (XS.iloadN X1.here hx rfl (hb hby own_d20_5) rfl (XS.i2b X1.here hx rfl (hb hby own_d20_6) rfl zk))))) ?_
  show own_Go p e below s _ _ _ (T1.setTop (mkF m 7 #[iv p1] [(.int (p1.toInt8.toInt32)), (.int (0 : Int32)), (.ref b1), (.ref b1)]))
  obtain ⟨cl2, Ar2, q2, Sz2, Nz2, Ha2, Ga2⟩ := id V_b1
  have hin2 : ¬ ((0 : Int32) < 0 ∨ cl2.slots.size ≤ ((0 : Int32)).toNatClampNeg) := inb_of Sz2 ⟨by decide, by decide⟩
  obtain ⟨T3, h3, X3, e3, W3, st3⟩ := stB X1 hx hZ e1 Ar2 (j := (0 : Int32)) hin2 (g := (mkF m 7 #[iv p1] [(.int (p1.toInt8.toInt32)), (.int (0 : Int32)), (.ref b1), (.ref b1)])) rfl rfl (hb hby own_d20_7)
  refine own_go st3 ?_
  rw [show nar .byte (p1.toInt8.toInt32) = (p1.toInt8.toInt32) from own_b8 _] at W3
  have V3 := Arv.set Ar2 q2 Sz2 Nz2 Ha2 Ga2 (fits_nar_byte _) W3 0 rfl (Nat.le_of_ble_eq_true rfl)
  have N3 := Fr.snoc X3 N0 g_b1
  replace Kp := Kp.wr W3 (Or.inr sz_b1)
  replace Ea_b1 := Ea_b1.wr W3
  replace V_b1 : Arv Z h3 b1 k1 .byte (1 : Int32) [(.int (p1.toInt8.toInt32))] (.int (0 : Int32)) := V3
  show own_Go p e below s _ _ _ (T3.setTop (mkF m 8 #[iv p1] [(.ref b1)]))
  exact own_fin X3 Bd.notSynchronized (fun h => by rw [Bd.returns] at h; cases h) (fun fs hr => retOut X3 hx (t := (.array .byte)) (w := (.ref b1)) Bd.returns rfl (Or.inr (Or.inr (Or.inr (Or.inr ⟨rfl, rfl, rfl⟩)))) (hb hby own_d20_8) hr) (by rw [e3]; exact ⟨_, _, rfl, N3, Kp, sz_b1, V_b1⟩) (by decide) (by decide)
theorem own_d21_0 : decode jdk_42_method_151_code 0 = .ok (.aload_n 0, 1) := by decide +kernel
theorem own_d21_1 : decode jdk_42_method_151_code 1 = .ok (.invokespecial 1, 3) := by decide +kernel
theorem own_d21_4 : decode jdk_42_method_151_code 4 = .ok (.aload_n 0, 1) := by decide +kernel
theorem own_d21_5 : decode jdk_42_method_151_code 5 = .ok (.aload_n 1, 1) := by decide +kernel
theorem own_d21_6 : decode jdk_42_method_151_code 6 = .ok (.putfield 9, 3) := by decide +kernel
theorem own_d21_9 : decode jdk_42_method_151_code 9 = .ok (.aload_n 0, 1) := by decide +kernel
theorem own_d21_10 : decode jdk_42_method_151_code 10 = .ok (.iload_n 2, 1) := by decide +kernel
theorem own_d21_11 : decode jdk_42_method_151_code 11 = .ok (.putfield 15, 3) := by decide +kernel
theorem own_d21_14 : decode jdk_42_method_151_code 14 = .ok (.return_, 1) := by decide +kernel
theorem own_ef_own_rnbb (m : MethodId) (a1 : Addr) (t : Addr) : entryFrame m #[(.ref a1), (.ref t), (.int (0 : Int32))] 3 = mkF m 0 #[rv a1, rv t, iv (0 : Int32)] [] := by first | (simp [entryFrame, mkF, argsToLocals, Value.category]; done) | rfl
def own_Q_own_rnbb (Z : State) (a1 : Addr) (t : Addr) (h0 : Heap) (n0 : Nat) (v : Option Value) (h : Heap) (L : List Loc) : Prop := v = none ∧ Fr n0 L ∧ Keep h0 h [a1] ∧ Exa Z h a1 "java/lang/String" ∧ Fld Z h a1 "java/lang/String" "value" "[B" (.ref t) ∧ Fld Z h a1 "java/lang/String" "coder" "B" (.int (0 : Int32))
set_option maxRecDepth 65536 in
set_option maxHeartbeats 40000000 in
theorem own_rnbb (l : Launch) (Z : State) (a0 : Array Value) (hw : ∀ d ∈ tables_1, d.before a0 Z = true) (ws : List Jvm.Cond) (a1 : Addr) (t : Addr) (h0 : Heap) (n0 : Nat) (Z0 : n0 ≤ h0.size) (Ex : Exa Z h0 a1 "java/lang/String") (Fv : Fld Z h0 a1 "java/lang/String" "value" "[B" .null) (Fc : Fld Z h0 a1 "java/lang/String" "coder" "B" (.int (0 : Int32))) (g_a1 : n0 ≤ a1) :
    MetFree l (⟨"java/lang/String", "<init>", "([BB)V"⟩ : MethodName) (head1 (Jvm.Cond.code (⟨"java/lang/String", "<init>", "([BB)V"⟩ : MethodName) jdk_42_method_151_code 3 none :: ws) ({ frames := 1, cells := 0, slots := 0, locals := 12 } : Room)) (fun a U => a = #[(.ref a1), (.ref t), (.int (0 : Int32))] ∧ Z.Warmed39 U.vm ∧ U.heap = h0) (fun _ _ _ _ _ => True) (fun _ U o U' => ∃ v L, o = .returned v ∧ own_Q_own_rnbb Z a1 t h0 n0 v U'.heap L ∧ FrameEnd U o U' L ({ frames := 1, cells := 0, slots := 0, locals := 12 } : Room).cells ({ frames := 1, cells := 0, slots := 0, locals := 12 } : Room).slots) := by
  refine MetFree.of_bodySF (plainFor_of_name own_pn_java_lang_String) hisR ?_
  intro p e s m args below meth c s₁ Bd hml0 hP hK
  obtain ⟨rfl, hZ, hh⟩ := hP
  have hx := Bd.exec
  have hby := Bd.bytes
  have hml : c.maxLocals = 3 := hml0
  have hown : s.vm.findClass "java/lang/String" = some m.cls := findClass_of_methodNamed Bd.named
  have hnm := (name_of_methodNamed Bd.named Bd.method).1
  have X0 : Stand p l e ({ frames := 1, cells := 0, slots := 0, locals := 12 } : Room) s m #[(.ref a1), (.ref t), (.int (0 : Int32))] below meth c s₁ [] 0 0 := Stand.of_body Bd
  have e0 : s₁.heap = h0 := by rw [← hh, Bd.state]; rfl
  have N0 := Fr.nil n0
  have Kp : Keep h0 h0 [a1] := Keep.refl h0 _
  show own_Go p e below s (own_Q_own_rnbb Z a1 t h0 n0) ({ frames := 1, cells := 0, slots := 0, locals := 12 } : Room).cells ({ frames := 1, cells := 0, slots := 0, locals := 12 } : Room).slots (s₁.setTop (entryFrame m #[(.ref a1), (.ref t), (.int (0 : Int32))] 3))
  refine own_go (fun zt zk => castTop (own_ef_own_rnbb m a1 t) zk) ?_
  show own_Go p e below s _ _ _ (s₁.setTop (mkF m 0 #[rv a1, rv t, iv (0 : Int32)] []))
  refine own_go (fun zt zk => (XS.aloadN X0.here hx rfl (hb hby own_d21_0) rfl rfl zk)) ?_
  show own_Go p e below s _ _ _ (s₁.setTop (mkF m 1 #[rv a1, rv t, iv (0 : Int32)] [(.ref a1)]))
  obtain ⟨T1, X1, e1, st1⟩ := initO X0 hx hZ hown (hw _ (List.mem_of_getElem? (i := 14) rfl)) (hw _ (List.mem_of_getElem? (i := 15) rfl)) (hw _ (List.mem_of_getElem? (i := 16) rfl)) e0 (g := (mkF m 1 #[rv a1, rv t, iv (0 : Int32)] [(.ref a1)])) rfl (by rw [hml]; rfl) rfl (hb hby own_d21_1) (by decide) (W := 0) (by show 2 * 0 + _ ≤ _; exact Nat.le_of_eq rfl) (by decide)
  refine own_go st1 ?_
  show own_Go p e below s _ _ _ (T1.setTop (mkF m 4 #[rv a1, rv t, iv (0 : Int32)] []))
  refine own_go (fun zt zk => (XS.aloadN X1.here hx rfl (hb hby own_d21_4) rfl rfl (XS.aloadN X1.here hx rfl (hb hby own_d21_5) rfl rfl zk))) ?_
  show own_Go p e below s _ _ _ (T1.setTop (mkF m 6 #[rv a1, rv t, iv (0 : Int32)] [(.ref t), (.ref a1)]))
  obtain ⟨T2, h2, X2, e2, W2, st2⟩ := putF X1 hx hZ hown (host := "") (Or.inl (hw _ (List.mem_of_getElem? (i := 31) rfl))) Via.refl e1 Fv Ex (Or.inr ⟨(hw _ (List.mem_of_getElem? (i := 32) rfl)), rfl, hnm⟩) (hw _ (List.mem_of_getElem? (i := 5) rfl)) (ty := (.array .byte)) (by decide) rfl rfl (g := (mkF m 6 #[rv a1, rv t, iv (0 : Int32)] [(.ref t), (.ref a1)])) rfl rfl (hb hby own_d21_6)
  refine own_go st2 ?_
  have N2 := Fr.snoc X2 N0 g_a1
  replace Ex := Ex.wr W2
  replace Fc := Fc.other W2 (Or.inr (slot_ne (Or.inr (hw _ (List.mem_of_getElem? (i := 30) rfl))) (Or.inr (hw _ (List.mem_of_getElem? (i := 32) rfl))) (by decide) (t := .byte) (t' := (.array .byte)) (by decide) (by decide)))
  replace Kp := Kp.wr W2 (Or.inl (List.mem_of_getElem? (i := 0) rfl))
  replace Fv := Fv.same W2
  show own_Go p e below s _ _ _ (T2.setTop (mkF m 9 #[rv a1, rv t, iv (0 : Int32)] []))
  refine own_go (fun zt zk => (XS.aloadN X2.here hx rfl (hb hby own_d21_9) rfl rfl (XS.iloadN X2.here hx rfl (hb hby own_d21_10) rfl zk))) ?_
  show own_Go p e below s _ _ _ (T2.setTop (mkF m 11 #[rv a1, rv t, iv (0 : Int32)] [(.int (0 : Int32)), (.ref a1)]))
  obtain ⟨T3, h3, X3, e3, W3, st3⟩ := putFN X2 hx hZ hown (hw _ (List.mem_of_getElem? (i := 29) rfl)) Via.refl e2 Fc Ex (Or.inr ⟨(hw _ (List.mem_of_getElem? (i := 30) rfl)), rfl, hnm⟩) (hw _ (List.mem_of_getElem? (i := 5) rfl)) (ty := .byte) (v' := (.int (0 : Int32))) (by decide) rfl (by decide) (g := (mkF m 11 #[rv a1, rv t, iv (0 : Int32)] [(.int (0 : Int32)), (.ref a1)])) rfl rfl (hb hby own_d21_11)
  refine own_go st3 ?_
  have N3 := Fr.snoc X3 N2 g_a1
  replace Ex := Ex.wr W3
  replace Fv := Fv.other W3 (Or.inr (slot_ne (Or.inr (hw _ (List.mem_of_getElem? (i := 32) rfl))) (Or.inr (hw _ (List.mem_of_getElem? (i := 30) rfl))) (by decide) (t := (.array .byte)) (t' := .byte) (by decide) (by decide)))
  replace Kp := Kp.wr W3 (Or.inl (List.mem_of_getElem? (i := 0) rfl))
  replace Fc := Fc.same W3
  show own_Go p e below s _ _ _ (T3.setTop (mkF m 14 #[rv a1, rv t, iv (0 : Int32)] []))
  exact own_fin X3 Bd.notSynchronized (fun _ => rfl) (fun fs hr => X3.returnOut hx Bd.returns (hb hby own_d21_14) hr) (by rw [e3]; exact ⟨rfl, N3, Kp, Ex, Fv, Fc⟩) (by decide) (by decide)
theorem own_d18_0 : decode jdk_42_method_139_code 0 = .ok (.getstatic 38, 3) := by decide +kernel
theorem own_d18_3 : decode jdk_42_method_139_code 3 = .ok (.ifCond .eq 23, 3) := by decide +kernel
theorem own_d18_6 : decode jdk_42_method_139_code 6 = .ok (.iload_n 0, 1) := by decide +kernel
theorem own_d18_7 : decode jdk_42_method_139_code 7 = .ok (.invokestatic 1015, 3) := by decide +kernel
theorem own_pd__C_Z : parseMethodDescriptor "(C)Z" = some ⟨[.char], some .boolean⟩ := by decide +kernel
theorem own_d18_10 : decode jdk_42_method_139_code 10 = .ok (.ifCond .eq 16, 3) := by decide +kernel
theorem own_d18_13 : decode jdk_42_method_139_code 13 = .ok (.new 10, 3) := by decide +kernel
theorem own_d18_16 : decode jdk_42_method_139_code 16 = .ok (.dup, 1) := by decide +kernel
theorem own_d18_17 : decode jdk_42_method_139_code 17 = .ok (.iload_n 0, 1) := by decide +kernel
theorem own_d18_18 : decode jdk_42_method_139_code 18 = .ok (.invokestatic 1018, 3) := by decide +kernel
theorem own_pd__C__B : parseMethodDescriptor "(C)[B" = some ⟨[.char], some (.array .byte)⟩ := by decide +kernel
theorem own_d18_21 : decode jdk_42_method_139_code 21 = .ok (.iconst 0, 1) := by decide +kernel
theorem own_d18_22 : decode jdk_42_method_139_code 22 = .ok (.invokespecial 209, 3) := by decide +kernel
theorem own_pd___BB_V : parseMethodDescriptor "([BB)V" = some ⟨[(.array .byte), .byte], none⟩ := by decide +kernel
theorem own_d18_25 : decode jdk_42_method_139_code 25 = .ok (.areturn, 1) := by decide +kernel
theorem own_ef_own_rvo (m : MethodId) (p1 : Int32) : entryFrame m #[(.int p1)] 1 = mkF m 0 #[iv p1] [] := by first | (simp [entryFrame, mkF, argsToLocals, Value.category]; done) | rfl
def own_Q_own_rvo (Z : State) (p1 : Int32) (cz : Int32) (h0 : Heap) (n0 : Nat) (v : Option Value) (h : Heap) (L : List Loc) : Prop := ∃ b t kb, v = some (.ref b) ∧ Fr n0 L ∧ Keep h0 h [] ∧ h0.size ≤ b ∧ h0.size ≤ t ∧ b ≠ t ∧ Exa Z h b "java/lang/String" ∧ Fld Z h b "java/lang/String" "value" "[B" (.ref t) ∧ Fld Z h b "java/lang/String" "coder" "B" (.int (0 : Int32)) ∧ Arv Z h t kb .byte (1 : Int32) [(.int (p1.toInt8.toInt32))] (.int (0 : Int32))
set_option maxRecDepth 65536 in
set_option maxHeartbeats 40000000 in
theorem own_rvo (l : Launch) (Z : State) (a0 : Array Value) (hw : ∀ d ∈ tables_1, d.before a0 Z = true) (ws : List Jvm.Cond) (p1 : Int32) (cz : Int32) (h0 : Heap) (n0 : Nat) (Z0 : n0 ≤ h0.size) (O : Old Z n0 h0) (SC : Sta Z Z.heap "java/lang/String" "COMPACT_STRINGS" "Z" (.int cz)) (hz : ¬ (cz = (0 : Int32))) (hr : ¬ (p1 < (0 : Int32)) ∧ ¬ ((255 : Int32) < p1)) :
    MetFree l (⟨"java/lang/String", "valueOf", "(C)Ljava/lang/String;"⟩ : MethodName) (head1 (Jvm.Cond.code (⟨"java/lang/String", "valueOf", "(C)Ljava/lang/String;"⟩ : MethodName) jdk_42_method_139_code 1 (some (.object "java/lang/String")) :: ws) ({ frames := 2, cells := 2, slots := 5, locals := 27 } : Room)) (fun a U => a = #[(.int p1)] ∧ Z.Warmed39 U.vm ∧ U.heap = h0) (fun _ _ _ _ _ => True) (fun _ U o U' => ∃ v L, o = .returned v ∧ own_Q_own_rvo Z p1 cz h0 n0 v U'.heap L ∧ FrameEnd U o U' L ({ frames := 2, cells := 2, slots := 5, locals := 27 } : Room).cells ({ frames := 2, cells := 2, slots := 5, locals := 27 } : Room).slots) := by
  refine MetFree.of_bodySF (plainFor_of_name own_pn_java_lang_String) hisR ?_
  intro p e s m args below meth c s₁ Bd hml0 hP hK
  obtain ⟨rfl, hZ, hh⟩ := hP
  have hx := Bd.exec
  have hby := Bd.bytes
  have hml : c.maxLocals = 1 := hml0
  have hown : s.vm.findClass "java/lang/String" = some m.cls := findClass_of_methodNamed Bd.named
  have hnm := (name_of_methodNamed Bd.named Bd.method).1
  have X0 : Stand p l e ({ frames := 2, cells := 2, slots := 5, locals := 27 } : Room) s m #[(.int p1)] below meth c s₁ [] 0 0 := Stand.of_body Bd
  have e0 : s₁.heap = h0 := by rw [← hh, Bd.state]; rfl
  have N0 := Fr.nil n0
  have Kp : Keep h0 h0 [] := Keep.refl h0 _
  show own_Go p e below s (own_Q_own_rvo Z p1 cz h0 n0) ({ frames := 2, cells := 2, slots := 5, locals := 27 } : Room).cells ({ frames := 2, cells := 2, slots := 5, locals := 27 } : Room).slots (s₁.setTop (entryFrame m #[(.int p1)] 1))
  refine own_go (fun zt zk => castTop (own_ef_own_rvo m p1) zk) ?_
  show own_Go p e below s _ _ _ (s₁.setTop (mkF m 0 #[iv p1] []))
  obtain ⟨T1, X1, e1, st1⟩ := getS2 X0 hx hZ hown (host := "") (Or.inl (hw _ (List.mem_of_getElem? (i := 17) rfl))) Via.refl e0 (SC.ext O.2) (g := (mkF m 0 #[iv p1] [])) rfl (hb hby own_d18_0)
  refine own_go st1 ?_
  show own_Go p e below s _ _ _ (T1.setTop (mkF m 3 #[iv p1] [(.int cz)]))
  refine own_go (fun zt zk => (XS.ifNo X1.here hx rfl (hb hby own_d18_3) rfl ((if0 _ _).trans (feq (hz : ¬ (cz = (0 : Int32)))).1) (XS.iloadN X1.here hx rfl (hb hby own_d18_6) rfl zk))) ?_
  show own_Go p e below s _ _ _ (T1.setTop (mkF m 7 #[iv p1] [(.int p1)]))
  obtain ⟨_, _, ⟨T2, L2, k2, n2⟩, -, X2, ⟨Lc2, hQ2, l2, y2, z2⟩, st2⟩ := Jvm.LawKit.callS X1 hx (y := (⟨"java/lang/StringLatin1", "canEncode", "(C)Z"⟩ : MethodName)) hown (mvT hZ (hw _ (List.mem_of_getElem? (i := 114) rfl))) (mvT hZ (hw _ (List.mem_of_getElem? (i := 115) rfl))) (mvT hZ (hw _ (List.mem_of_getElem? (i := 116) rfl))) (mvT hZ (hw _ (List.mem_of_getElem? (i := 117) rfl))) (by decide) (backOf (W := 0) (own_rcan l Z a0 hw [] p1  h0 n0 Z0 hr) hZ (hw _ (List.mem_of_getElem? (i := 117) rfl)) (hw _ (List.mem_of_getElem? (i := 116) rfl)) (by decide) (by decide)) (g := (mkF m 7 #[iv p1] [(.int p1)])) rfl (by rw [hml]; rfl) (argsL := [(.int p1)]) (rest := []) (lenOf own_pd__C_Z rfl) rfl (by show 2 * 0 + _ ≤ _; exact Nat.le_of_eq rfl) (hb hby own_d18_7) (fun _ _ => ⟨rfl, e1, (by decide : 0 + 0 ≤ _), (by decide : 0 + 0 ≤ _)⟩)
  dsimp only [Pt.U, Pt.locs, Pt.cells, Pt.slots] at X2 l2 y2 z2 st2 hQ2
  subst l2 y2 z2
  obtain ⟨rfl, Nq2, e2⟩ := hQ2
  have N2 := Fr.app N0 Nq2
  refine own_go st2 ?_
  show own_Go p e below s _ _ _ (T2.setTop (mkF m 10 #[iv p1] [(.int (1 : Int32))]))
  refine own_go (fun zt zk => (XS.ifNo X2.here hx rfl (hb hby own_d18_10) rfl ((if0 _ _).trans (feq ((by decide) : ¬ ((1 : Int32) = (0 : Int32)))).1) zk)) ?_
  show own_Go p e below s _ _ _ (T2.setTop (mkF m 13 #[iv p1] []))
  obtain ⟨T3, h3, X3, e3, E3, A3, D3, -, st3⟩ := newO X2 hx hZ hown (hw _ (List.mem_of_getElem? (i := 118) rfl)) (hw _ (List.mem_of_getElem? (i := 5) rfl)) (hw _ (List.mem_of_getElem? (i := 6) rfl)) e2 (g := (mkF m 13 #[iv p1] [])) rfl (hb hby own_d18_13) (by decide) (by decide)
  obtain ⟨b3, g3⟩ : ∃ z, z = h0.size := ⟨_, rfl⟩
  rw [← g3] at A3 D3 st3
  refine own_go st3 ?_
  have sz_b3 : h0.size ≤ b3 := Nat.le_trans Kp.1 (Nat.le_of_eq g3.symm)
  have g_b3 : n0 ≤ b3 := Nat.le_trans Z0 sz_b3
  replace O := O.ext E3
  replace Kp := Kp.ext E3
  have Ex_b3 := A3
  have F_coder_b3 : Fld Z h3 b3 "java/lang/String" "coder" "B" (.int (0 : Int32)) := D3 (Or.inr (hw _ (List.mem_of_getElem? (i := 30) rfl))) (ty := .byte) (by decide)
  have F_value_b3 : Fld Z h3 b3 "java/lang/String" "value" "[B" .null := D3 (Or.inr (hw _ (List.mem_of_getElem? (i := 32) rfl))) (ty := (.array .byte)) (by decide)
  show own_Go p e below s _ _ _ (T3.setTop (mkF m 16 #[iv p1] [(.ref b3)]))
  refine own_go (fun zt zk => (XS.dup X3.here hx rfl (hb hby own_d18_16) rfl rfl (XS.iloadN X3.here hx rfl (hb hby own_d18_17) rfl zk))) ?_
  show own_Go p e below s _ _ _ (T3.setTop (mkF m 18 #[iv p1] [(.int p1), (.ref b3), (.ref b3)]))
  obtain ⟨_, _, ⟨T4, L4, k4, n4⟩, -, X4, ⟨Lc4, hQ4, l4, y4, z4⟩, st4⟩ := Jvm.LawKit.callS X3 hx (y := (⟨"java/lang/StringLatin1", "toBytes", "(C)[B"⟩ : MethodName)) hown (mvT hZ (hw _ (List.mem_of_getElem? (i := 119) rfl))) (mvT hZ (hw _ (List.mem_of_getElem? (i := 120) rfl))) (mvT hZ (hw _ (List.mem_of_getElem? (i := 116) rfl))) (mvT hZ (hw _ (List.mem_of_getElem? (i := 121) rfl))) (by decide) (backOf (W := 2) (own_rtob l Z a0 hw [] p1  h3 n0 (Nat.le_trans Z0 Kp.1) ) hZ (hw _ (List.mem_of_getElem? (i := 121) rfl)) (hw _ (List.mem_of_getElem? (i := 116) rfl)) (by decide) (by decide)) (g := (mkF m 18 #[iv p1] [(.int p1), (.ref b3), (.ref b3)])) rfl (by rw [hml]; rfl) (argsL := [(.int p1)]) (rest := [(.ref b3), (.ref b3)]) (lenOf own_pd__C__B rfl) rfl (by show 2 * 0 + _ ≤ _; exact Nat.le_of_eq rfl) (hb hby own_d18_18) (fun _ _ => ⟨rfl, e3, (by decide : 1 + 1 ≤ _), (by decide : 4 + 1 ≤ _)⟩)
  dsimp only [Pt.U, Pt.locs, Pt.cells, Pt.slots] at X4 l4 y4 z4 st4 hQ4
  subst l4 y4 z4
  obtain ⟨t4, kb4, rfl, Nq4, K4, st4', V_t4⟩ := hQ4
  have sz_t4 : h0.size ≤ t4 := Nat.le_trans Kp.1 st4'
  have ne_b3_t4 : b3 ≠ t4 := Nat.ne_of_lt (Nat.lt_of_lt_of_le Ex_b3.lt st4')
  have N4 := Fr.app N2 Nq4
  refine own_go st4 ?_
  replace O := O.keep K4 all0
  replace Kp := Kp.trans K4 all0
  replace Ex_b3 := Ex_b3.keep K4
  replace F_coder_b3 := F_coder_b3.keep K4 nin0
  replace F_value_b3 := F_value_b3.keep K4 nin0
  show own_Go p e below s _ _ _ (T4.setTop (mkF m 21 #[iv p1] [(.ref t4), (.ref b3), (.ref b3)]))
  refine own_go (fun zt zk => (XS.iconst X4.here hx rfl (hb hby own_d18_21) zk)) ?_
  show own_Go p e below s _ _ _ (T4.setTop (mkF m 22 #[iv p1] [(.int (0 : Int32)), (.ref t4), (.ref b3), (.ref b3)]))
  obtain ⟨_, _, ⟨T5, L5, k5, n5⟩, -, X5, ⟨Lc5, hQ5, l5, y5, z5⟩, st5⟩ := X4.specialBack hx (y := (⟨"java/lang/String", "<init>", "([BB)V"⟩ : MethodName)) rfl hown (mvT hZ (hw _ (List.mem_of_getElem? (i := 122) rfl))) (mvT hZ (hw _ (List.mem_of_getElem? (i := 123) rfl))) (mvT hZ (hw _ (List.mem_of_getElem? (i := 124) rfl))) (by decide) (backOf (W := 1) (own_rnbb l Z a0 hw [] b3 t4  T4.heap n0 (Nat.le_trans Z0 Kp.1) Ex_b3 F_value_b3 F_coder_b3 g_b3) hZ (hw _ (List.mem_of_getElem? (i := 124) rfl)) (hw _ (List.mem_of_getElem? (i := 6) rfl)) (by decide) (by decide)) (g := (mkF m 22 #[iv p1] [(.int (0 : Int32)), (.ref t4), (.ref b3), (.ref b3)])) rfl (by rw [hml]; rfl) (Steps.refl _) (a := b3) (argsL := [(.ref t4), (.int (0 : Int32))]) (rest := [(.ref b3)]) (lenOf own_pd___BB_V rfl) rfl (by show 2 * 0 + _ ≤ _; exact Nat.le_of_eq rfl) (hb hby own_d18_22) (fun _ _ => ⟨rfl, rfl, (by decide : 2 + 0 ≤ _), (by decide : 5 + 0 ≤ _)⟩)
  dsimp only [Pt.U, Pt.locs, Pt.cells, Pt.slots] at X5 l5 y5 z5 st5 hQ5
  subst l5 y5 z5
  obtain ⟨rfl, Nq5, K5, -, F_value_b3, F_coder_b3⟩ := hQ5
  have N5 := Fr.app N4 Nq5
  refine own_go (fun zt zk => st5.trans zk) ?_
  replace O := O.keep K5 (allS g_b3 all0)
  replace Kp := Kp.trans K5 (allS (Or.inr sz_b3) all0)
  replace Ex_b3 := Ex_b3.keep K5
  replace V_t4 := V_t4.keep K5 (ninS (Ne.symm ne_b3_t4) nin0)
  show own_Go p e below s _ _ _ (T5.setTop (mkF m 25 #[iv p1] [(.ref b3)]))
  exact own_fin X5 Bd.notSynchronized (fun h => by rw [Bd.returns] at h; cases h) (fun fs hr => retOut X5 hx (t := (.object "java/lang/String")) (w := (.ref b3)) Bd.returns rfl (Or.inr (Or.inr (Or.inr (Or.inr ⟨rfl, rfl, rfl⟩)))) (hb hby own_d18_25) hr) ⟨_, _, _, rfl, N5, Kp, sz_b3, sz_t4, ne_b3_t4, Ex_b3, F_value_b3, F_coder_b3, V_t4⟩ (by decide) (by decide)
theorem own_d8_0 : decode jdk_30_method_1_code 0 = .ok (.aload_n 0, 1) := by decide +kernel
theorem own_d8_1 : decode jdk_30_method_1_code 1 = .ok (.invokespecial 1, 3) := by decide +kernel
theorem own_d8_4 : decode jdk_30_method_1_code 4 = .ok (.return_, 1) := by decide +kernel
theorem own_pn_java_lang_Record : plainName "java/lang/Record" = true := by first | (simp [plainName, overriddenIn]; done) | decide +kernel
theorem own_ef_own_rrec (m : MethodId) (a1 : Addr) : entryFrame m #[(.ref a1)] 1 = mkF m 0 #[rv a1] [] := by first | (simp [entryFrame, mkF, argsToLocals, Value.category]; done) | rfl
def own_Q_own_rrec (Z : State) (a1 : Addr) (h0 : Heap) (n0 : Nat) (v : Option Value) (h : Heap) (L : List Loc) : Prop := v = none ∧ Fr n0 L ∧ h = h0
set_option maxRecDepth 65536 in
set_option maxHeartbeats 40000000 in
theorem own_rrec (l : Launch) (Z : State) (a0 : Array Value) (hw : ∀ d ∈ tables_1, d.before a0 Z = true) (ws : List Jvm.Cond) (a1 : Addr) (h0 : Heap) (n0 : Nat) (Z0 : n0 ≤ h0.size)   :
    MetFree l (⟨"java/lang/Record", "<init>", "()V"⟩ : MethodName) (head1 (Jvm.Cond.code (⟨"java/lang/Record", "<init>", "()V"⟩ : MethodName) jdk_30_method_1_code 1 none :: ws) ({ frames := 1, cells := 0, slots := 0, locals := 12 } : Room)) (fun a U => a = #[(.ref a1)] ∧ Z.Warmed39 U.vm ∧ U.heap = h0) (fun _ _ _ _ _ => True) (fun _ U o U' => ∃ v L, o = .returned v ∧ own_Q_own_rrec Z a1 h0 n0 v U'.heap L ∧ FrameEnd U o U' L ({ frames := 1, cells := 0, slots := 0, locals := 12 } : Room).cells ({ frames := 1, cells := 0, slots := 0, locals := 12 } : Room).slots) := by
  refine MetFree.of_bodySF (plainFor_of_name own_pn_java_lang_Record) hisR ?_
  intro p e s m args below meth c s₁ Bd hml0 hP hK
  obtain ⟨rfl, hZ, hh⟩ := hP
  have hx := Bd.exec
  have hby := Bd.bytes
  have hml : c.maxLocals = 1 := hml0
  have hown : s.vm.findClass "java/lang/Record" = some m.cls := findClass_of_methodNamed Bd.named
  have hnm := (name_of_methodNamed Bd.named Bd.method).1
  have X0 : Stand p l e ({ frames := 1, cells := 0, slots := 0, locals := 12 } : Room) s m #[(.ref a1)] below meth c s₁ [] 0 0 := Stand.of_body Bd
  have e0 : s₁.heap = h0 := by rw [← hh, Bd.state]; rfl
  have N0 := Fr.nil n0
  show own_Go p e below s (own_Q_own_rrec Z a1 h0 n0) ({ frames := 1, cells := 0, slots := 0, locals := 12 } : Room).cells ({ frames := 1, cells := 0, slots := 0, locals := 12 } : Room).slots (s₁.setTop (entryFrame m #[(.ref a1)] 1))
  refine own_go (fun zt zk => castTop (own_ef_own_rrec m a1) zk) ?_
  show own_Go p e below s _ _ _ (s₁.setTop (mkF m 0 #[rv a1] []))
  refine own_go (fun zt zk => (XS.aloadN X0.here hx rfl (hb hby own_d8_0) rfl rfl zk)) ?_
  show own_Go p e below s _ _ _ (s₁.setTop (mkF m 1 #[rv a1] [(.ref a1)]))
  obtain ⟨T1, X1, e1, st1⟩ := initO X0 hx hZ hown (hw _ (List.mem_of_getElem? (i := 44) rfl)) (hw _ (List.mem_of_getElem? (i := 15) rfl)) (hw _ (List.mem_of_getElem? (i := 16) rfl)) e0 (g := (mkF m 1 #[rv a1] [(.ref a1)])) rfl (by rw [hml]; rfl) rfl (hb hby own_d8_1) (by decide) (W := 0) (by show 2 * 0 + _ ≤ _; exact Nat.le_of_eq rfl) (by decide)
  refine own_go st1 ?_
  show own_Go p e below s _ _ _ (T1.setTop (mkF m 4 #[rv a1] []))
  exact own_fin X1 Bd.notSynchronized (fun _ => rfl) (fun fs hr => X1.returnOut hx Bd.returns (hb hby own_d8_4) hr) (by rw [e1]; exact ⟨rfl, N0, rfl⟩) (by decide) (by decide)
theorem own_d7_0 : decode prog_35_method_1_code 0 = .ok (.aload_n 0, 1) := by decide +kernel
theorem own_d7_1 : decode prog_35_method_1_code 1 = .ok (.invokespecial 1, 3) := by decide +kernel
theorem own_pd___V : parseMethodDescriptor "()V" = some ⟨[], none⟩ := by decide +kernel
theorem own_d7_4 : decode prog_35_method_1_code 4 = .ok (.aload_n 0, 1) := by decide +kernel
theorem own_d7_5 : decode prog_35_method_1_code 5 = .ok (.aload_n 1, 1) := by decide +kernel
theorem own_d7_6 : decode prog_35_method_1_code 6 = .ok (.putfield 7, 3) := by decide +kernel
theorem own_d7_9 : decode prog_35_method_1_code 9 = .ok (.aload_n 0, 1) := by decide +kernel
theorem own_d7_10 : decode prog_35_method_1_code 10 = .ok (.aload_n 2, 1) := by decide +kernel
theorem own_d7_11 : decode prog_35_method_1_code 11 = .ok (.putfield 13, 3) := by decide +kernel
theorem own_d7_14 : decode prog_35_method_1_code 14 = .ok (.return_, 1) := by decide +kernel
theorem own_pn_com_example_tranche_tranche_model_Stated : plainName "com/example/tranche/tranche/model/Stated" = true := by first | (simp [plainName, overriddenIn]; done) | decide +kernel
theorem own_ef_own_rstated (m : MethodId) (a1 : Addr) (x : Addr) : entryFrame m #[(.ref a1), (.ref x), .null] 3 = mkF m 0 #[rv a1, rv x, .val .null] [] := by first | (simp [entryFrame, mkF, argsToLocals, Value.category]; done) | rfl
def own_Q_own_rstated (Z : State) (a1 : Addr) (x : Addr) (h0 : Heap) (n0 : Nat) (v : Option Value) (h : Heap) (L : List Loc) : Prop := v = none ∧ Fr n0 L ∧ Keep h0 h [a1] ∧ Exa Z h a1 "com/example/tranche/tranche/model/Stated" ∧ Fld Z h a1 "com/example/tranche/tranche/model/Stated" "value" "Ljava/lang/Object;" (.ref x) ∧ Fld Z h a1 "com/example/tranche/tranche/model/Stated" "span" "Lcom/example/tranche/tranche/model/Span;" .null
set_option maxRecDepth 65536 in
set_option maxHeartbeats 40000000 in
theorem own_rstated (l : Launch) (Z : State) (a0 : Array Value) (hw : ∀ d ∈ tables_1, d.before a0 Z = true) (ws : List Jvm.Cond) (a1 : Addr) (x : Addr) (h0 : Heap) (n0 : Nat) (Z0 : n0 ≤ h0.size) (Ex : Exa Z h0 a1 "com/example/tranche/tranche/model/Stated") (F_value : Fld Z h0 a1 "com/example/tranche/tranche/model/Stated" "value" "Ljava/lang/Object;" .null) (F_span : Fld Z h0 a1 "com/example/tranche/tranche/model/Stated" "span" "Lcom/example/tranche/tranche/model/Span;" .null) (g_a1 : n0 ≤ a1)  :
    MetFree l (⟨"com/example/tranche/tranche/model/Stated", "<init>", "(Ljava/lang/Object;Lcom/example/tranche/tranche/model/Span;)V"⟩ : MethodName) (head1 (Jvm.Cond.code (⟨"com/example/tranche/tranche/model/Stated", "<init>", "(Ljava/lang/Object;Lcom/example/tranche/tranche/model/Span;)V"⟩ : MethodName) prog_35_method_1_code 3 none :: ws) ({ frames := 2, cells := 0, slots := 0, locals := 24 } : Room)) (fun a U => a = #[(.ref a1), (.ref x), .null] ∧ Z.Warmed39 U.vm ∧ U.heap = h0) (fun _ _ _ _ _ => True) (fun _ U o U' => ∃ v L, o = .returned v ∧ own_Q_own_rstated Z a1 x h0 n0 v U'.heap L ∧ FrameEnd U o U' L ({ frames := 2, cells := 0, slots := 0, locals := 24 } : Room).cells ({ frames := 2, cells := 0, slots := 0, locals := 24 } : Room).slots) := by
  refine MetFree.of_bodySF (plainFor_of_name own_pn_com_example_tranche_tranche_model_Stated) hisR ?_
  intro p e s m args below meth c s₁ Bd hml0 hP hK
  obtain ⟨rfl, hZ, hh⟩ := hP
  have hx := Bd.exec
  have hby := Bd.bytes
  have hml : c.maxLocals = 3 := hml0
  have hown : s.vm.findClass "com/example/tranche/tranche/model/Stated" = some m.cls := findClass_of_methodNamed Bd.named
  have hnm := (name_of_methodNamed Bd.named Bd.method).1
  have X0 : Stand p l e ({ frames := 2, cells := 0, slots := 0, locals := 24 } : Room) s m #[(.ref a1), (.ref x), .null] below meth c s₁ [] 0 0 := Stand.of_body Bd
  have e0 : s₁.heap = h0 := by rw [← hh, Bd.state]; rfl
  have N0 := Fr.nil n0
  have Kp : Keep h0 h0 [a1] := Keep.refl h0 _
  show own_Go p e below s (own_Q_own_rstated Z a1 x h0 n0) ({ frames := 2, cells := 0, slots := 0, locals := 24 } : Room).cells ({ frames := 2, cells := 0, slots := 0, locals := 24 } : Room).slots (s₁.setTop (entryFrame m #[(.ref a1), (.ref x), .null] 3))
  refine own_go (fun zt zk => castTop (own_ef_own_rstated m a1 x) zk) ?_
  show own_Go p e below s _ _ _ (s₁.setTop (mkF m 0 #[rv a1, rv x, .val .null] []))
  refine own_go (fun zt zk => (XS.aloadN X0.here hx rfl (hb hby own_d7_0) rfl rfl zk)) ?_
  show own_Go p e below s _ _ _ (s₁.setTop (mkF m 1 #[rv a1, rv x, .val .null] [(.ref a1)]))
  obtain ⟨_, _, ⟨T1, L1, k1, n1⟩, -, X1, ⟨Lc1, hQ1, l1, y1, z1⟩, st1⟩ := X0.specialBack hx (y := (⟨"java/lang/Record", "<init>", "()V"⟩ : MethodName)) rfl hown (mvT hZ (hw _ (List.mem_of_getElem? (i := 39) rfl))) (mvT hZ (hw _ (List.mem_of_getElem? (i := 40) rfl))) (mvT hZ (hw _ (List.mem_of_getElem? (i := 43) rfl))) (by decide) (backOf (W := 0) (own_rrec l Z a0 hw [] a1  h0 n0 Z0 ) hZ (hw _ (List.mem_of_getElem? (i := 43) rfl)) (hw _ (List.mem_of_getElem? (i := 42) rfl)) (by decide) (by decide)) (g := (mkF m 1 #[rv a1, rv x, .val .null] [(.ref a1)])) rfl (by rw [hml]; rfl) (Steps.refl _) (a := a1) (argsL := []) (rest := []) (lenOf own_pd___V rfl) rfl (by show 2 * 0 + _ ≤ _; exact Nat.le_of_eq rfl) (hb hby own_d7_1) (fun _ _ => ⟨rfl, e0, (by decide : 0 + 0 ≤ _), (by decide : 0 + 0 ≤ _)⟩)
  dsimp only [Pt.U, Pt.locs, Pt.cells, Pt.slots] at X1 l1 y1 z1 st1 hQ1
  subst l1 y1 z1
  obtain ⟨rfl, Nq1, e1⟩ := hQ1
  have N1 := Fr.app N0 Nq1
  refine own_go (fun zt zk => st1.trans zk) ?_
  show own_Go p e below s _ _ _ (T1.setTop (mkF m 4 #[rv a1, rv x, .val .null] []))
  refine own_go (fun zt zk => (XS.aloadN X1.here hx rfl (hb hby own_d7_4) rfl rfl (XS.aloadN X1.here hx rfl (hb hby own_d7_5) rfl rfl zk))) ?_
  show own_Go p e below s _ _ _ (T1.setTop (mkF m 6 #[rv a1, rv x, .val .null] [(.ref x), (.ref a1)]))
  obtain ⟨T2, h2, X2, e2, W2, st2⟩ := putF X1 hx hZ hown (host := "") (Or.inl (hw _ (List.mem_of_getElem? (i := 45) rfl))) Via.refl e1 F_value Ex (Or.inr ⟨(hw _ (List.mem_of_getElem? (i := 46) rfl)), rfl, hnm⟩) (hw _ (List.mem_of_getElem? (i := 34) rfl)) (ty := (.object "java/lang/Object")) (by decide) rfl rfl (g := (mkF m 6 #[rv a1, rv x, .val .null] [(.ref x), (.ref a1)])) rfl rfl (hb hby own_d7_6)
  refine own_go st2 ?_
  have N2 := Fr.snoc X2 N1 g_a1
  replace Ex := Ex.wr W2
  replace F_span := F_span.other W2 (Or.inr (slot_ne (Or.inr (hw _ (List.mem_of_getElem? (i := 48) rfl))) (Or.inr (hw _ (List.mem_of_getElem? (i := 46) rfl))) (by decide) (t := (.object "com/example/tranche/tranche/model/Span")) (t' := (.object "java/lang/Object")) (by decide) (by decide)))
  replace Kp := Kp.wr W2 (Or.inl (List.mem_of_getElem? (i := 0) rfl))
  replace F_value := F_value.same W2
  show own_Go p e below s _ _ _ (T2.setTop (mkF m 9 #[rv a1, rv x, .val .null] []))
  refine own_go (fun zt zk => (XS.aloadN X2.here hx rfl (hb hby own_d7_9) rfl rfl (XS.aloadN X2.here hx rfl (hb hby own_d7_10) rfl rfl zk))) ?_
  show own_Go p e below s _ _ _ (T2.setTop (mkF m 11 #[rv a1, rv x, .val .null] [.null, (.ref a1)]))
  obtain ⟨T3, h3, X3, e3, W3, st3⟩ := putF X2 hx hZ hown (host := "") (Or.inl (hw _ (List.mem_of_getElem? (i := 47) rfl))) Via.refl e2 F_span Ex (Or.inr ⟨(hw _ (List.mem_of_getElem? (i := 48) rfl)), rfl, hnm⟩) (hw _ (List.mem_of_getElem? (i := 34) rfl)) (ty := (.object "com/example/tranche/tranche/model/Span")) (by decide) rfl rfl (g := (mkF m 11 #[rv a1, rv x, .val .null] [.null, (.ref a1)])) rfl rfl (hb hby own_d7_11)
  refine own_go st3 ?_
  have N3 := Fr.snoc X3 N2 g_a1
  replace Ex := Ex.wr W3
  replace F_value := F_value.other W3 (Or.inr (slot_ne (Or.inr (hw _ (List.mem_of_getElem? (i := 46) rfl))) (Or.inr (hw _ (List.mem_of_getElem? (i := 48) rfl))) (by decide) (t := (.object "java/lang/Object")) (t' := (.object "com/example/tranche/tranche/model/Span")) (by decide) (by decide)))
  replace Kp := Kp.wr W3 (Or.inl (List.mem_of_getElem? (i := 0) rfl))
  replace F_span := F_span.same W3
  show own_Go p e below s _ _ _ (T3.setTop (mkF m 14 #[rv a1, rv x, .val .null] []))
  exact own_fin X3 Bd.notSynchronized (fun _ => rfl) (fun fs hr => X3.returnOut hx Bd.returns (hb hby own_d7_14) hr) (by rw [e3]; exact ⟨rfl, N3, Kp, Ex, F_value, F_span⟩) (by decide) (by decide)
theorem own_d9_0 : decode prog_20_method_1_code 0 = .ok (.aload_n 0, 1) := by decide +kernel
theorem own_d9_1 : decode prog_20_method_1_code 1 = .ok (.invokespecial 1, 3) := by decide +kernel
theorem own_d9_4 : decode prog_20_method_1_code 4 = .ok (.aload_n 0, 1) := by decide +kernel
theorem own_d9_5 : decode prog_20_method_1_code 5 = .ok (.aload_n 1, 1) := by decide +kernel
theorem own_d9_6 : decode prog_20_method_1_code 6 = .ok (.putfield 7, 3) := by decide +kernel
theorem own_d9_9 : decode prog_20_method_1_code 9 = .ok (.aload_n 0, 1) := by decide +kernel
theorem own_d9_10 : decode prog_20_method_1_code 10 = .ok (.aload_n 2, 1) := by decide +kernel
theorem own_d9_11 : decode prog_20_method_1_code 11 = .ok (.putfield 13, 3) := by decide +kernel
theorem own_d9_14 : decode prog_20_method_1_code 14 = .ok (.aload_n 0, 1) := by decide +kernel
theorem own_d9_15 : decode prog_20_method_1_code 15 = .ok (.aload_n 3, 1) := by decide +kernel
theorem own_d9_16 : decode prog_20_method_1_code 16 = .ok (.putfield 17, 3) := by decide +kernel
theorem own_d9_19 : decode prog_20_method_1_code 19 = .ok (.aload_n 0, 1) := by decide +kernel
theorem own_d9_20 : decode prog_20_method_1_code 20 = .ok (.aload 4, 2) := by decide +kernel
theorem own_d9_22 : decode prog_20_method_1_code 22 = .ok (.putfield 20, 3) := by decide +kernel
theorem own_d9_25 : decode prog_20_method_1_code 25 = .ok (.return_, 1) := by decide +kernel
theorem own_pn_com_example_tranche_tranche_model_Heading : plainName "com/example/tranche/tranche/model/Heading" = true := by first | (simp [plainName, overriddenIn]; done) | decide +kernel
theorem own_ef_own_rheading (m : MethodId) (a1 : Addr) (k : Addr) (u : Addr) (t : Addr) : entryFrame m #[(.ref a1), (.ref k), (.ref u), (.ref t), .null] 5 = mkF m 0 #[rv a1, rv k, rv u, rv t, .val .null] [] := by first | (simp [entryFrame, mkF, argsToLocals, Value.category]; done) | rfl
def own_Q_own_rheading (Z : State) (a1 : Addr) (k : Addr) (u : Addr) (t : Addr) (h0 : Heap) (n0 : Nat) (v : Option Value) (h : Heap) (L : List Loc) : Prop := v = none ∧ Fr n0 L ∧ Keep h0 h [a1] ∧ Exa Z h a1 "com/example/tranche/tranche/model/Heading" ∧ Fld Z h a1 "com/example/tranche/tranche/model/Heading" "kind" "Lcom/example/tranche/tranche/model/Heading$Kind;" (.ref k) ∧ Fld Z h a1 "com/example/tranche/tranche/model/Heading" "number" "Lcom/example/tranche/tranche/model/Stated;" (.ref u) ∧ Fld Z h a1 "com/example/tranche/tranche/model/Heading" "title" "Lcom/example/tranche/tranche/model/Stated;" (.ref t) ∧ Fld Z h a1 "com/example/tranche/tranche/model/Heading" "span" "Lcom/example/tranche/tranche/model/Span;" .null
set_option maxRecDepth 65536 in
set_option maxHeartbeats 40000000 in
theorem own_rheading (l : Launch) (Z : State) (a0 : Array Value) (hw : ∀ d ∈ tables_1, d.before a0 Z = true) (ws : List Jvm.Cond) (a1 : Addr) (k : Addr) (u : Addr) (t : Addr) (h0 : Heap) (n0 : Nat) (Z0 : n0 ≤ h0.size) (Ex : Exa Z h0 a1 "com/example/tranche/tranche/model/Heading") (F_kind : Fld Z h0 a1 "com/example/tranche/tranche/model/Heading" "kind" "Lcom/example/tranche/tranche/model/Heading$Kind;" .null) (F_number : Fld Z h0 a1 "com/example/tranche/tranche/model/Heading" "number" "Lcom/example/tranche/tranche/model/Stated;" .null) (F_title : Fld Z h0 a1 "com/example/tranche/tranche/model/Heading" "title" "Lcom/example/tranche/tranche/model/Stated;" .null) (F_span : Fld Z h0 a1 "com/example/tranche/tranche/model/Heading" "span" "Lcom/example/tranche/tranche/model/Span;" .null) (g_a1 : n0 ≤ a1)  :
    MetFree l (⟨"com/example/tranche/tranche/model/Heading", "<init>", "(Lcom/example/tranche/tranche/model/Heading$Kind;Lcom/example/tranche/tranche/model/Stated;Lcom/example/tranche/tranche/model/Stated;Lcom/example/tranche/tranche/model/Span;)V"⟩ : MethodName) (head1 (Jvm.Cond.code (⟨"com/example/tranche/tranche/model/Heading", "<init>", "(Lcom/example/tranche/tranche/model/Heading$Kind;Lcom/example/tranche/tranche/model/Stated;Lcom/example/tranche/tranche/model/Stated;Lcom/example/tranche/tranche/model/Span;)V"⟩ : MethodName) prog_20_method_1_code 5 none :: ws) ({ frames := 2, cells := 0, slots := 0, locals := 24 } : Room)) (fun a U => a = #[(.ref a1), (.ref k), (.ref u), (.ref t), .null] ∧ Z.Warmed39 U.vm ∧ U.heap = h0) (fun _ _ _ _ _ => True) (fun _ U o U' => ∃ v L, o = .returned v ∧ own_Q_own_rheading Z a1 k u t h0 n0 v U'.heap L ∧ FrameEnd U o U' L ({ frames := 2, cells := 0, slots := 0, locals := 24 } : Room).cells ({ frames := 2, cells := 0, slots := 0, locals := 24 } : Room).slots) := by
  refine MetFree.of_bodySF (plainFor_of_name own_pn_com_example_tranche_tranche_model_Heading) hisR ?_
  intro p e s m args below meth c s₁ Bd hml0 hP hK
  obtain ⟨rfl, hZ, hh⟩ := hP
  have hx := Bd.exec
  have hby := Bd.bytes
  have hml : c.maxLocals = 5 := hml0
  have hown : s.vm.findClass "com/example/tranche/tranche/model/Heading" = some m.cls := findClass_of_methodNamed Bd.named
  have hnm := (name_of_methodNamed Bd.named Bd.method).1
  have X0 : Stand p l e ({ frames := 2, cells := 0, slots := 0, locals := 24 } : Room) s m #[(.ref a1), (.ref k), (.ref u), (.ref t), .null] below meth c s₁ [] 0 0 := Stand.of_body Bd
  have e0 : s₁.heap = h0 := by rw [← hh, Bd.state]; rfl
  have N0 := Fr.nil n0
  have Kp : Keep h0 h0 [a1] := Keep.refl h0 _
  show own_Go p e below s (own_Q_own_rheading Z a1 k u t h0 n0) ({ frames := 2, cells := 0, slots := 0, locals := 24 } : Room).cells ({ frames := 2, cells := 0, slots := 0, locals := 24 } : Room).slots (s₁.setTop (entryFrame m #[(.ref a1), (.ref k), (.ref u), (.ref t), .null] 5))
  refine own_go (fun zt zk => castTop (own_ef_own_rheading m a1 k u t) zk) ?_
  show own_Go p e below s _ _ _ (s₁.setTop (mkF m 0 #[rv a1, rv k, rv u, rv t, .val .null] []))
  refine own_go (fun zt zk => (XS.aloadN X0.here hx rfl (hb hby own_d9_0) rfl rfl zk)) ?_
  show own_Go p e below s _ _ _ (s₁.setTop (mkF m 1 #[rv a1, rv k, rv u, rv t, .val .null] [(.ref a1)]))
  obtain ⟨_, _, ⟨T1, L1, k1, n1⟩, -, X1, ⟨Lc1, hQ1, l1, y1, z1⟩, st1⟩ := X0.specialBack hx (y := (⟨"java/lang/Record", "<init>", "()V"⟩ : MethodName)) rfl hown (mvT hZ (hw _ (List.mem_of_getElem? (i := 55) rfl))) (mvT hZ (hw _ (List.mem_of_getElem? (i := 40) rfl))) (mvT hZ (hw _ (List.mem_of_getElem? (i := 43) rfl))) (by decide) (backOf (W := 0) (own_rrec l Z a0 hw [] a1  h0 n0 Z0 ) hZ (hw _ (List.mem_of_getElem? (i := 43) rfl)) (hw _ (List.mem_of_getElem? (i := 42) rfl)) (by decide) (by decide)) (g := (mkF m 1 #[rv a1, rv k, rv u, rv t, .val .null] [(.ref a1)])) rfl (by rw [hml]; rfl) (Steps.refl _) (a := a1) (argsL := []) (rest := []) (lenOf own_pd___V rfl) rfl (by show 2 * 0 + _ ≤ _; exact Nat.le_of_eq rfl) (hb hby own_d9_1) (fun _ _ => ⟨rfl, e0, (by decide : 0 + 0 ≤ _), (by decide : 0 + 0 ≤ _)⟩)
  dsimp only [Pt.U, Pt.locs, Pt.cells, Pt.slots] at X1 l1 y1 z1 st1 hQ1
  subst l1 y1 z1
  obtain ⟨rfl, Nq1, e1⟩ := hQ1
  have N1 := Fr.app N0 Nq1
  refine own_go (fun zt zk => st1.trans zk) ?_
  show own_Go p e below s _ _ _ (T1.setTop (mkF m 4 #[rv a1, rv k, rv u, rv t, .val .null] []))
  refine own_go (fun zt zk => (XS.aloadN X1.here hx rfl (hb hby own_d9_4) rfl rfl (XS.aloadN X1.here hx rfl (hb hby own_d9_5) rfl rfl zk))) ?_
  show own_Go p e below s _ _ _ (T1.setTop (mkF m 6 #[rv a1, rv k, rv u, rv t, .val .null] [(.ref k), (.ref a1)]))
  obtain ⟨T2, h2, X2, e2, W2, st2⟩ := putF X1 hx hZ hown (host := "") (Or.inl (hw _ (List.mem_of_getElem? (i := 56) rfl))) Via.refl e1 F_kind Ex (Or.inr ⟨(hw _ (List.mem_of_getElem? (i := 57) rfl)), rfl, hnm⟩) (hw _ (List.mem_of_getElem? (i := 50) rfl)) (ty := (.object "com/example/tranche/tranche/model/Heading$Kind")) (by decide) rfl rfl (g := (mkF m 6 #[rv a1, rv k, rv u, rv t, .val .null] [(.ref k), (.ref a1)])) rfl rfl (hb hby own_d9_6)
  refine own_go st2 ?_
  have N2 := Fr.snoc X2 N1 g_a1
  replace Ex := Ex.wr W2
  replace F_number := F_number.other W2 (Or.inr (slot_ne (Or.inr (hw _ (List.mem_of_getElem? (i := 59) rfl))) (Or.inr (hw _ (List.mem_of_getElem? (i := 57) rfl))) (by decide) (t := (.object "com/example/tranche/tranche/model/Stated")) (t' := (.object "com/example/tranche/tranche/model/Heading$Kind")) (by decide) (by decide)))
  replace F_title := F_title.other W2 (Or.inr (slot_ne (Or.inr (hw _ (List.mem_of_getElem? (i := 61) rfl))) (Or.inr (hw _ (List.mem_of_getElem? (i := 57) rfl))) (by decide) (t := (.object "com/example/tranche/tranche/model/Stated")) (t' := (.object "com/example/tranche/tranche/model/Heading$Kind")) (by decide) (by decide)))
  replace F_span := F_span.other W2 (Or.inr (slot_ne (Or.inr (hw _ (List.mem_of_getElem? (i := 63) rfl))) (Or.inr (hw _ (List.mem_of_getElem? (i := 57) rfl))) (by decide) (t := (.object "com/example/tranche/tranche/model/Span")) (t' := (.object "com/example/tranche/tranche/model/Heading$Kind")) (by decide) (by decide)))
  replace Kp := Kp.wr W2 (Or.inl (List.mem_of_getElem? (i := 0) rfl))
  replace F_kind := F_kind.same W2
  show own_Go p e below s _ _ _ (T2.setTop (mkF m 9 #[rv a1, rv k, rv u, rv t, .val .null] []))
  refine own_go (fun zt zk => (XS.aloadN X2.here hx rfl (hb hby own_d9_9) rfl rfl (XS.aloadN X2.here hx rfl (hb hby own_d9_10) rfl rfl zk))) ?_
  show own_Go p e below s _ _ _ (T2.setTop (mkF m 11 #[rv a1, rv k, rv u, rv t, .val .null] [(.ref u), (.ref a1)]))
  obtain ⟨T3, h3, X3, e3, W3, st3⟩ := putF X2 hx hZ hown (host := "") (Or.inl (hw _ (List.mem_of_getElem? (i := 58) rfl))) Via.refl e2 F_number Ex (Or.inr ⟨(hw _ (List.mem_of_getElem? (i := 59) rfl)), rfl, hnm⟩) (hw _ (List.mem_of_getElem? (i := 50) rfl)) (ty := (.object "com/example/tranche/tranche/model/Stated")) (by decide) rfl rfl (g := (mkF m 11 #[rv a1, rv k, rv u, rv t, .val .null] [(.ref u), (.ref a1)])) rfl rfl (hb hby own_d9_11)
  refine own_go st3 ?_
  have N3 := Fr.snoc X3 N2 g_a1
  replace Ex := Ex.wr W3
  replace F_kind := F_kind.other W3 (Or.inr (slot_ne (Or.inr (hw _ (List.mem_of_getElem? (i := 57) rfl))) (Or.inr (hw _ (List.mem_of_getElem? (i := 59) rfl))) (by decide) (t := (.object "com/example/tranche/tranche/model/Heading$Kind")) (t' := (.object "com/example/tranche/tranche/model/Stated")) (by decide) (by decide)))
  replace F_title := F_title.other W3 (Or.inr (slot_ne (Or.inr (hw _ (List.mem_of_getElem? (i := 61) rfl))) (Or.inr (hw _ (List.mem_of_getElem? (i := 59) rfl))) (by decide) (t := (.object "com/example/tranche/tranche/model/Stated")) (t' := (.object "com/example/tranche/tranche/model/Stated")) (by decide) (by decide)))
  replace F_span := F_span.other W3 (Or.inr (slot_ne (Or.inr (hw _ (List.mem_of_getElem? (i := 63) rfl))) (Or.inr (hw _ (List.mem_of_getElem? (i := 59) rfl))) (by decide) (t := (.object "com/example/tranche/tranche/model/Span")) (t' := (.object "com/example/tranche/tranche/model/Stated")) (by decide) (by decide)))
  replace Kp := Kp.wr W3 (Or.inl (List.mem_of_getElem? (i := 0) rfl))
  replace F_number := F_number.same W3
  show own_Go p e below s _ _ _ (T3.setTop (mkF m 14 #[rv a1, rv k, rv u, rv t, .val .null] []))
  refine own_go (fun zt zk => (XS.aloadN X3.here hx rfl (hb hby own_d9_14) rfl rfl (XS.aloadN X3.here hx rfl (hb hby own_d9_15) rfl rfl zk))) ?_
  show own_Go p e below s _ _ _ (T3.setTop (mkF m 16 #[rv a1, rv k, rv u, rv t, .val .null] [(.ref t), (.ref a1)]))
  obtain ⟨T4, h4, X4, e4, W4, st4⟩ := putF X3 hx hZ hown (host := "") (Or.inl (hw _ (List.mem_of_getElem? (i := 60) rfl))) Via.refl e3 F_title Ex (Or.inr ⟨(hw _ (List.mem_of_getElem? (i := 61) rfl)), rfl, hnm⟩) (hw _ (List.mem_of_getElem? (i := 50) rfl)) (ty := (.object "com/example/tranche/tranche/model/Stated")) (by decide) rfl rfl (g := (mkF m 16 #[rv a1, rv k, rv u, rv t, .val .null] [(.ref t), (.ref a1)])) rfl rfl (hb hby own_d9_16)
  refine own_go st4 ?_
  have N4 := Fr.snoc X4 N3 g_a1
  replace Ex := Ex.wr W4
  replace F_kind := F_kind.other W4 (Or.inr (slot_ne (Or.inr (hw _ (List.mem_of_getElem? (i := 57) rfl))) (Or.inr (hw _ (List.mem_of_getElem? (i := 61) rfl))) (by decide) (t := (.object "com/example/tranche/tranche/model/Heading$Kind")) (t' := (.object "com/example/tranche/tranche/model/Stated")) (by decide) (by decide)))
  replace F_number := F_number.other W4 (Or.inr (slot_ne (Or.inr (hw _ (List.mem_of_getElem? (i := 59) rfl))) (Or.inr (hw _ (List.mem_of_getElem? (i := 61) rfl))) (by decide) (t := (.object "com/example/tranche/tranche/model/Stated")) (t' := (.object "com/example/tranche/tranche/model/Stated")) (by decide) (by decide)))
  replace F_span := F_span.other W4 (Or.inr (slot_ne (Or.inr (hw _ (List.mem_of_getElem? (i := 63) rfl))) (Or.inr (hw _ (List.mem_of_getElem? (i := 61) rfl))) (by decide) (t := (.object "com/example/tranche/tranche/model/Span")) (t' := (.object "com/example/tranche/tranche/model/Stated")) (by decide) (by decide)))
  replace Kp := Kp.wr W4 (Or.inl (List.mem_of_getElem? (i := 0) rfl))
  replace F_title := F_title.same W4
  show own_Go p e below s _ _ _ (T4.setTop (mkF m 19 #[rv a1, rv k, rv u, rv t, .val .null] []))
  refine own_go (fun zt zk => (XS.aloadN X4.here hx rfl (hb hby own_d9_19) rfl rfl (XS.aload X4.here hx rfl (hb hby own_d9_20) rfl rfl zk))) ?_
  show own_Go p e below s _ _ _ (T4.setTop (mkF m 22 #[rv a1, rv k, rv u, rv t, .val .null] [.null, (.ref a1)]))
  obtain ⟨T5, h5, X5, e5, W5, st5⟩ := putF X4 hx hZ hown (host := "") (Or.inl (hw _ (List.mem_of_getElem? (i := 62) rfl))) Via.refl e4 F_span Ex (Or.inr ⟨(hw _ (List.mem_of_getElem? (i := 63) rfl)), rfl, hnm⟩) (hw _ (List.mem_of_getElem? (i := 50) rfl)) (ty := (.object "com/example/tranche/tranche/model/Span")) (by decide) rfl rfl (g := (mkF m 22 #[rv a1, rv k, rv u, rv t, .val .null] [.null, (.ref a1)])) rfl rfl (hb hby own_d9_22)
  refine own_go st5 ?_
  have N5 := Fr.snoc X5 N4 g_a1
  replace Ex := Ex.wr W5
  replace F_kind := F_kind.other W5 (Or.inr (slot_ne (Or.inr (hw _ (List.mem_of_getElem? (i := 57) rfl))) (Or.inr (hw _ (List.mem_of_getElem? (i := 63) rfl))) (by decide) (t := (.object "com/example/tranche/tranche/model/Heading$Kind")) (t' := (.object "com/example/tranche/tranche/model/Span")) (by decide) (by decide)))
  replace F_number := F_number.other W5 (Or.inr (slot_ne (Or.inr (hw _ (List.mem_of_getElem? (i := 59) rfl))) (Or.inr (hw _ (List.mem_of_getElem? (i := 63) rfl))) (by decide) (t := (.object "com/example/tranche/tranche/model/Stated")) (t' := (.object "com/example/tranche/tranche/model/Span")) (by decide) (by decide)))
  replace F_title := F_title.other W5 (Or.inr (slot_ne (Or.inr (hw _ (List.mem_of_getElem? (i := 61) rfl))) (Or.inr (hw _ (List.mem_of_getElem? (i := 63) rfl))) (by decide) (t := (.object "com/example/tranche/tranche/model/Stated")) (t' := (.object "com/example/tranche/tranche/model/Span")) (by decide) (by decide)))
  replace Kp := Kp.wr W5 (Or.inl (List.mem_of_getElem? (i := 0) rfl))
  replace F_span := F_span.same W5
  show own_Go p e below s _ _ _ (T5.setTop (mkF m 25 #[rv a1, rv k, rv u, rv t, .val .null] []))
  exact own_fin X5 Bd.notSynchronized (fun _ => rfl) (fun fs hr => X5.returnOut hx Bd.returns (hb hby own_d9_25) hr) (by rw [e5]; exact ⟨rfl, N5, Kp, Ex, F_kind, F_number, F_title, F_span⟩) (by decide) (by decide)
theorem own_d14_0 : decode prog_64_method_1_code 0 = .ok (.aload_n 0, 1) := by decide +kernel
theorem own_d14_1 : decode prog_64_method_1_code 1 = .ok (.invokespecial 1, 3) := by decide +kernel
theorem own_d14_4 : decode prog_64_method_1_code 4 = .ok (.aload_n 0, 1) := by decide +kernel
theorem own_d14_5 : decode prog_64_method_1_code 5 = .ok (.aload_n 1, 1) := by decide +kernel
theorem own_d14_6 : decode prog_64_method_1_code 6 = .ok (.putfield 7, 3) := by decide +kernel
theorem own_d14_9 : decode prog_64_method_1_code 9 = .ok (.aload_n 0, 1) := by decide +kernel
theorem own_d14_10 : decode prog_64_method_1_code 10 = .ok (.aload_n 2, 1) := by decide +kernel
theorem own_d14_11 : decode prog_64_method_1_code 11 = .ok (.putfield 13, 3) := by decide +kernel
theorem own_d14_14 : decode prog_64_method_1_code 14 = .ok (.return_, 1) := by decide +kernel
theorem own_pn_com_example_tranche_tranche_service_HeadingNumber : plainName "com/example/tranche/tranche/service/HeadingNumber" = true := by first | (simp [plainName, overriddenIn]; done) | decide +kernel
theorem own_ef_own_rhn (m : MethodId) (a1 : Addr) (k : Addr) (u : Addr) : entryFrame m #[(.ref a1), (.ref k), (.ref u)] 3 = mkF m 0 #[rv a1, rv k, rv u] [] := by first | (simp [entryFrame, mkF, argsToLocals, Value.category]; done) | rfl
def own_Q_own_rhn (Z : State) (a1 : Addr) (k : Addr) (u : Addr) (h0 : Heap) (n0 : Nat) (v : Option Value) (h : Heap) (L : List Loc) : Prop := v = none ∧ Fr n0 L ∧ Keep h0 h [a1] ∧ Exa Z h a1 "com/example/tranche/tranche/service/HeadingNumber" ∧ Fld Z h a1 "com/example/tranche/tranche/service/HeadingNumber" "kind" "Lcom/example/tranche/tranche/model/Heading$Kind;" (.ref k) ∧ Fld Z h a1 "com/example/tranche/tranche/service/HeadingNumber" "number" "Ljava/lang/String;" (.ref u)
set_option maxRecDepth 65536 in
set_option maxHeartbeats 40000000 in
theorem own_rhn (l : Launch) (Z : State) (a0 : Array Value) (hw : ∀ d ∈ tables_1, d.before a0 Z = true) (ws : List Jvm.Cond) (a1 : Addr) (k : Addr) (u : Addr) (h0 : Heap) (n0 : Nat) (Z0 : n0 ≤ h0.size) (Ex : Exa Z h0 a1 "com/example/tranche/tranche/service/HeadingNumber") (F_kind : Fld Z h0 a1 "com/example/tranche/tranche/service/HeadingNumber" "kind" "Lcom/example/tranche/tranche/model/Heading$Kind;" .null) (F_number : Fld Z h0 a1 "com/example/tranche/tranche/service/HeadingNumber" "number" "Ljava/lang/String;" .null) (g_a1 : n0 ≤ a1)  :
    MetFree l (⟨"com/example/tranche/tranche/service/HeadingNumber", "<init>", "(Lcom/example/tranche/tranche/model/Heading$Kind;Ljava/lang/String;)V"⟩ : MethodName) (head1 (Jvm.Cond.code (⟨"com/example/tranche/tranche/service/HeadingNumber", "<init>", "(Lcom/example/tranche/tranche/model/Heading$Kind;Ljava/lang/String;)V"⟩ : MethodName) prog_64_method_1_code 3 none :: ws) ({ frames := 2, cells := 0, slots := 0, locals := 24 } : Room)) (fun a U => a = #[(.ref a1), (.ref k), (.ref u)] ∧ Z.Warmed39 U.vm ∧ U.heap = h0) (fun _ _ _ _ _ => True) (fun _ U o U' => ∃ v L, o = .returned v ∧ own_Q_own_rhn Z a1 k u h0 n0 v U'.heap L ∧ FrameEnd U o U' L ({ frames := 2, cells := 0, slots := 0, locals := 24 } : Room).cells ({ frames := 2, cells := 0, slots := 0, locals := 24 } : Room).slots) := by
  refine MetFree.of_bodySF (plainFor_of_name own_pn_com_example_tranche_tranche_service_HeadingNumber) hisR ?_
  intro p e s m args below meth c s₁ Bd hml0 hP hK
  obtain ⟨rfl, hZ, hh⟩ := hP
  have hx := Bd.exec
  have hby := Bd.bytes
  have hml : c.maxLocals = 3 := hml0
  have hown : s.vm.findClass "com/example/tranche/tranche/service/HeadingNumber" = some m.cls := findClass_of_methodNamed Bd.named
  have hnm := (name_of_methodNamed Bd.named Bd.method).1
  have X0 : Stand p l e ({ frames := 2, cells := 0, slots := 0, locals := 24 } : Room) s m #[(.ref a1), (.ref k), (.ref u)] below meth c s₁ [] 0 0 := Stand.of_body Bd
  have e0 : s₁.heap = h0 := by rw [← hh, Bd.state]; rfl
  have N0 := Fr.nil n0
  have Kp : Keep h0 h0 [a1] := Keep.refl h0 _
  show own_Go p e below s (own_Q_own_rhn Z a1 k u h0 n0) ({ frames := 2, cells := 0, slots := 0, locals := 24 } : Room).cells ({ frames := 2, cells := 0, slots := 0, locals := 24 } : Room).slots (s₁.setTop (entryFrame m #[(.ref a1), (.ref k), (.ref u)] 3))
  refine own_go (fun zt zk => castTop (own_ef_own_rhn m a1 k u) zk) ?_
  show own_Go p e below s _ _ _ (s₁.setTop (mkF m 0 #[rv a1, rv k, rv u] []))
  refine own_go (fun zt zk => (XS.aloadN X0.here hx rfl (hb hby own_d14_0) rfl rfl zk)) ?_
  show own_Go p e below s _ _ _ (s₁.setTop (mkF m 1 #[rv a1, rv k, rv u] [(.ref a1)]))
  obtain ⟨_, _, ⟨T1, L1, k1, n1⟩, -, X1, ⟨Lc1, hQ1, l1, y1, z1⟩, st1⟩ := X0.specialBack hx (y := (⟨"java/lang/Record", "<init>", "()V"⟩ : MethodName)) rfl hown (mvT hZ (hw _ (List.mem_of_getElem? (i := 89) rfl))) (mvT hZ (hw _ (List.mem_of_getElem? (i := 40) rfl))) (mvT hZ (hw _ (List.mem_of_getElem? (i := 43) rfl))) (by decide) (backOf (W := 0) (own_rrec l Z a0 hw [] a1  h0 n0 Z0 ) hZ (hw _ (List.mem_of_getElem? (i := 43) rfl)) (hw _ (List.mem_of_getElem? (i := 42) rfl)) (by decide) (by decide)) (g := (mkF m 1 #[rv a1, rv k, rv u] [(.ref a1)])) rfl (by rw [hml]; rfl) (Steps.refl _) (a := a1) (argsL := []) (rest := []) (lenOf own_pd___V rfl) rfl (by show 2 * 0 + _ ≤ _; exact Nat.le_of_eq rfl) (hb hby own_d14_1) (fun _ _ => ⟨rfl, e0, (by decide : 0 + 0 ≤ _), (by decide : 0 + 0 ≤ _)⟩)
  dsimp only [Pt.U, Pt.locs, Pt.cells, Pt.slots] at X1 l1 y1 z1 st1 hQ1
  subst l1 y1 z1
  obtain ⟨rfl, Nq1, e1⟩ := hQ1
  have N1 := Fr.app N0 Nq1
  refine own_go (fun zt zk => st1.trans zk) ?_
  show own_Go p e below s _ _ _ (T1.setTop (mkF m 4 #[rv a1, rv k, rv u] []))
  refine own_go (fun zt zk => (XS.aloadN X1.here hx rfl (hb hby own_d14_4) rfl rfl (XS.aloadN X1.here hx rfl (hb hby own_d14_5) rfl rfl zk))) ?_
  show own_Go p e below s _ _ _ (T1.setTop (mkF m 6 #[rv a1, rv k, rv u] [(.ref k), (.ref a1)]))
  obtain ⟨T2, h2, X2, e2, W2, st2⟩ := putF X1 hx hZ hown (host := "") (Or.inl (hw _ (List.mem_of_getElem? (i := 90) rfl))) Via.refl e1 F_kind Ex (Or.inr ⟨(hw _ (List.mem_of_getElem? (i := 91) rfl)), rfl, hnm⟩) (hw _ (List.mem_of_getElem? (i := 69) rfl)) (ty := (.object "com/example/tranche/tranche/model/Heading$Kind")) (by decide) rfl rfl (g := (mkF m 6 #[rv a1, rv k, rv u] [(.ref k), (.ref a1)])) rfl rfl (hb hby own_d14_6)
  refine own_go st2 ?_
  have N2 := Fr.snoc X2 N1 g_a1
  replace Ex := Ex.wr W2
  replace F_number := F_number.other W2 (Or.inr (slot_ne (Or.inr (hw _ (List.mem_of_getElem? (i := 93) rfl))) (Or.inr (hw _ (List.mem_of_getElem? (i := 91) rfl))) (by decide) (t := (.object "java/lang/String")) (t' := (.object "com/example/tranche/tranche/model/Heading$Kind")) (by decide) (by decide)))
  replace Kp := Kp.wr W2 (Or.inl (List.mem_of_getElem? (i := 0) rfl))
  replace F_kind := F_kind.same W2
  show own_Go p e below s _ _ _ (T2.setTop (mkF m 9 #[rv a1, rv k, rv u] []))
  refine own_go (fun zt zk => (XS.aloadN X2.here hx rfl (hb hby own_d14_9) rfl rfl (XS.aloadN X2.here hx rfl (hb hby own_d14_10) rfl rfl zk))) ?_
  show own_Go p e below s _ _ _ (T2.setTop (mkF m 11 #[rv a1, rv k, rv u] [(.ref u), (.ref a1)]))
  obtain ⟨T3, h3, X3, e3, W3, st3⟩ := putF X2 hx hZ hown (host := "") (Or.inl (hw _ (List.mem_of_getElem? (i := 92) rfl))) Via.refl e2 F_number Ex (Or.inr ⟨(hw _ (List.mem_of_getElem? (i := 93) rfl)), rfl, hnm⟩) (hw _ (List.mem_of_getElem? (i := 69) rfl)) (ty := (.object "java/lang/String")) (by decide) rfl rfl (g := (mkF m 11 #[rv a1, rv k, rv u] [(.ref u), (.ref a1)])) rfl rfl (hb hby own_d14_11)
  refine own_go st3 ?_
  have N3 := Fr.snoc X3 N2 g_a1
  replace Ex := Ex.wr W3
  replace F_kind := F_kind.other W3 (Or.inr (slot_ne (Or.inr (hw _ (List.mem_of_getElem? (i := 91) rfl))) (Or.inr (hw _ (List.mem_of_getElem? (i := 93) rfl))) (by decide) (t := (.object "com/example/tranche/tranche/model/Heading$Kind")) (t' := (.object "java/lang/String")) (by decide) (by decide)))
  replace Kp := Kp.wr W3 (Or.inl (List.mem_of_getElem? (i := 0) rfl))
  replace F_number := F_number.same W3
  show own_Go p e below s _ _ _ (T3.setTop (mkF m 14 #[rv a1, rv k, rv u] []))
  exact own_fin X3 Bd.notSynchronized (fun _ => rfl) (fun fs hr => X3.returnOut hx Bd.returns (hb hby own_d14_14) hr) (by rw [e3]; exact ⟨rfl, N3, Kp, Ex, F_kind, F_number⟩) (by decide) (by decide)
theorem own_d11_0 : decode prog_20_method_5_code 0 = .ok (.aload_n 0, 1) := by decide +kernel
theorem own_d11_1 : decode prog_20_method_5_code 1 = .ok (.getfield 7, 3) := by decide +kernel
theorem own_d11_4 : decode prog_20_method_5_code 4 = .ok (.areturn, 1) := by decide +kernel
theorem own_ef_own_gkind (m : MethodId) (a1 : Addr) : entryFrame m #[(.ref a1)] 1 = mkF m 0 #[rv a1] [] := by first | (simp [entryFrame, mkF, argsToLocals, Value.category]; done) | rfl
def own_Q_own_gkind (Z : State) (a1 : Addr) (b : Addr) (h0 : Heap) (n0 : Nat) (v : Option Value) (h : Heap) (L : List Loc) : Prop := v = some (.ref b) ∧ Fr n0 L ∧ h = h0
set_option maxRecDepth 65536 in
set_option maxHeartbeats 40000000 in
theorem own_gkind (l : Launch) (Z : State) (a0 : Array Value) (hw : ∀ d ∈ tables_1, d.before a0 Z = true) (ws : List Jvm.Cond) (a1 : Addr) (b : Addr) (h0 : Heap) (n0 : Nat) (Z0 : n0 ≤ h0.size) (F1 : Fld Z h0 a1 "com/example/tranche/tranche/model/Heading" "kind" "Lcom/example/tranche/tranche/model/Heading$Kind;" (.ref b))  :
    MetFree l (⟨"com/example/tranche/tranche/model/Heading", "kind", "()Lcom/example/tranche/tranche/model/Heading$Kind;"⟩ : MethodName) (head1 (Jvm.Cond.code (⟨"com/example/tranche/tranche/model/Heading", "kind", "()Lcom/example/tranche/tranche/model/Heading$Kind;"⟩ : MethodName) prog_20_method_5_code 1 (some (.object "com/example/tranche/tranche/model/Heading$Kind")) :: ws) ({ frames := 0, cells := 0, slots := 0, locals := 0 } : Room)) (fun a U => a = #[(.ref a1)] ∧ Z.Warmed39 U.vm ∧ U.heap = h0) (fun _ _ _ _ _ => True) (fun _ U o U' => ∃ v L, o = .returned v ∧ own_Q_own_gkind Z a1 b h0 n0 v U'.heap L ∧ FrameEnd U o U' L ({ frames := 0, cells := 0, slots := 0, locals := 0 } : Room).cells ({ frames := 0, cells := 0, slots := 0, locals := 0 } : Room).slots) := by
  refine MetFree.of_bodySF (plainFor_of_name own_pn_com_example_tranche_tranche_model_Heading) hisR ?_
  intro p e s m args below meth c s₁ Bd hml0 hP hK
  obtain ⟨rfl, hZ, hh⟩ := hP
  have hx := Bd.exec
  have hby := Bd.bytes
  have hml : c.maxLocals = 1 := hml0
  have hown : s.vm.findClass "com/example/tranche/tranche/model/Heading" = some m.cls := findClass_of_methodNamed Bd.named
  have hnm := (name_of_methodNamed Bd.named Bd.method).1
  have X0 : Stand p l e ({ frames := 0, cells := 0, slots := 0, locals := 0 } : Room) s m #[(.ref a1)] below meth c s₁ [] 0 0 := Stand.of_body Bd
  have e0 : s₁.heap = h0 := by rw [← hh, Bd.state]; rfl
  have N0 := Fr.nil n0
  show own_Go p e below s (own_Q_own_gkind Z a1 b h0 n0) ({ frames := 0, cells := 0, slots := 0, locals := 0 } : Room).cells ({ frames := 0, cells := 0, slots := 0, locals := 0 } : Room).slots (s₁.setTop (entryFrame m #[(.ref a1)] 1))
  refine own_go (fun zt zk => castTop (own_ef_own_gkind m a1) zk) ?_
  show own_Go p e below s _ _ _ (s₁.setTop (mkF m 0 #[rv a1] []))
  refine own_go (fun zt zk => (XS.aloadN X0.here hx rfl (hb hby own_d11_0) rfl rfl zk)) ?_
  show own_Go p e below s _ _ _ (s₁.setTop (mkF m 1 #[rv a1] [(.ref a1)]))
  obtain ⟨T1, X1, e1, st1⟩ := getF X0 hx hZ hown (host := "") (Or.inl (hw _ (List.mem_of_getElem? (i := 56) rfl))) Via.refl e0 F1 (g := (mkF m 1 #[rv a1] [(.ref a1)])) rfl rfl (hb hby own_d11_1)
  refine own_go st1 ?_
  show own_Go p e below s _ _ _ (T1.setTop (mkF m 4 #[rv a1] [(.ref b)]))
  exact own_fin X1 Bd.notSynchronized (fun h => by rw [Bd.returns] at h; cases h) (fun fs hr => retOut X1 hx (t := (.object "com/example/tranche/tranche/model/Heading$Kind")) (w := (.ref b)) Bd.returns rfl (Or.inr (Or.inr (Or.inr (Or.inr ⟨rfl, rfl, rfl⟩)))) (hb hby own_d11_4) hr) (by rw [e1]; exact ⟨rfl, N0, rfl⟩) (by decide) (by decide)
theorem own_d12_0 : decode prog_20_method_6_code 0 = .ok (.aload_n 0, 1) := by decide +kernel
theorem own_d12_1 : decode prog_20_method_6_code 1 = .ok (.getfield 13, 3) := by decide +kernel
theorem own_d12_4 : decode prog_20_method_6_code 4 = .ok (.areturn, 1) := by decide +kernel
theorem own_ef_own_gnumber (m : MethodId) (a1 : Addr) : entryFrame m #[(.ref a1)] 1 = mkF m 0 #[rv a1] [] := by first | (simp [entryFrame, mkF, argsToLocals, Value.category]; done) | rfl
def own_Q_own_gnumber (Z : State) (a1 : Addr) (b : Addr) (h0 : Heap) (n0 : Nat) (v : Option Value) (h : Heap) (L : List Loc) : Prop := v = some (.ref b) ∧ Fr n0 L ∧ h = h0
set_option maxRecDepth 65536 in
set_option maxHeartbeats 40000000 in
theorem own_gnumber (l : Launch) (Z : State) (a0 : Array Value) (hw : ∀ d ∈ tables_1, d.before a0 Z = true) (ws : List Jvm.Cond) (a1 : Addr) (b : Addr) (h0 : Heap) (n0 : Nat) (Z0 : n0 ≤ h0.size) (F1 : Fld Z h0 a1 "com/example/tranche/tranche/model/Heading" "number" "Lcom/example/tranche/tranche/model/Stated;" (.ref b))  :
    MetFree l (⟨"com/example/tranche/tranche/model/Heading", "number", "()Lcom/example/tranche/tranche/model/Stated;"⟩ : MethodName) (head1 (Jvm.Cond.code (⟨"com/example/tranche/tranche/model/Heading", "number", "()Lcom/example/tranche/tranche/model/Stated;"⟩ : MethodName) prog_20_method_6_code 1 (some (.object "com/example/tranche/tranche/model/Stated")) :: ws) ({ frames := 0, cells := 0, slots := 0, locals := 0 } : Room)) (fun a U => a = #[(.ref a1)] ∧ Z.Warmed39 U.vm ∧ U.heap = h0) (fun _ _ _ _ _ => True) (fun _ U o U' => ∃ v L, o = .returned v ∧ own_Q_own_gnumber Z a1 b h0 n0 v U'.heap L ∧ FrameEnd U o U' L ({ frames := 0, cells := 0, slots := 0, locals := 0 } : Room).cells ({ frames := 0, cells := 0, slots := 0, locals := 0 } : Room).slots) := by
  refine MetFree.of_bodySF (plainFor_of_name own_pn_com_example_tranche_tranche_model_Heading) hisR ?_
  intro p e s m args below meth c s₁ Bd hml0 hP hK
  obtain ⟨rfl, hZ, hh⟩ := hP
  have hx := Bd.exec
  have hby := Bd.bytes
  have hml : c.maxLocals = 1 := hml0
  have hown : s.vm.findClass "com/example/tranche/tranche/model/Heading" = some m.cls := findClass_of_methodNamed Bd.named
  have hnm := (name_of_methodNamed Bd.named Bd.method).1
  have X0 : Stand p l e ({ frames := 0, cells := 0, slots := 0, locals := 0 } : Room) s m #[(.ref a1)] below meth c s₁ [] 0 0 := Stand.of_body Bd
  have e0 : s₁.heap = h0 := by rw [← hh, Bd.state]; rfl
  have N0 := Fr.nil n0
  show own_Go p e below s (own_Q_own_gnumber Z a1 b h0 n0) ({ frames := 0, cells := 0, slots := 0, locals := 0 } : Room).cells ({ frames := 0, cells := 0, slots := 0, locals := 0 } : Room).slots (s₁.setTop (entryFrame m #[(.ref a1)] 1))
  refine own_go (fun zt zk => castTop (own_ef_own_gnumber m a1) zk) ?_
  show own_Go p e below s _ _ _ (s₁.setTop (mkF m 0 #[rv a1] []))
  refine own_go (fun zt zk => (XS.aloadN X0.here hx rfl (hb hby own_d12_0) rfl rfl zk)) ?_
  show own_Go p e below s _ _ _ (s₁.setTop (mkF m 1 #[rv a1] [(.ref a1)]))
  obtain ⟨T1, X1, e1, st1⟩ := getF X0 hx hZ hown (host := "") (Or.inl (hw _ (List.mem_of_getElem? (i := 58) rfl))) Via.refl e0 F1 (g := (mkF m 1 #[rv a1] [(.ref a1)])) rfl rfl (hb hby own_d12_1)
  refine own_go st1 ?_
  show own_Go p e below s _ _ _ (T1.setTop (mkF m 4 #[rv a1] [(.ref b)]))
  exact own_fin X1 Bd.notSynchronized (fun h => by rw [Bd.returns] at h; cases h) (fun fs hr => retOut X1 hx (t := (.object "com/example/tranche/tranche/model/Stated")) (w := (.ref b)) Bd.returns rfl (Or.inr (Or.inr (Or.inr (Or.inr ⟨rfl, rfl, rfl⟩)))) (hb hby own_d12_4) hr) (by rw [e1]; exact ⟨rfl, N0, rfl⟩) (by decide) (by decide)
theorem own_d13_0 : decode prog_35_method_5_code 0 = .ok (.aload_n 0, 1) := by decide +kernel
theorem own_d13_1 : decode prog_35_method_5_code 1 = .ok (.getfield 7, 3) := by decide +kernel
theorem own_d13_4 : decode prog_35_method_5_code 4 = .ok (.areturn, 1) := by decide +kernel
theorem own_ef_own_gvalue (m : MethodId) (a1 : Addr) : entryFrame m #[(.ref a1)] 1 = mkF m 0 #[rv a1] [] := by first | (simp [entryFrame, mkF, argsToLocals, Value.category]; done) | rfl
def own_Q_own_gvalue (Z : State) (a1 : Addr) (b : Addr) (h0 : Heap) (n0 : Nat) (v : Option Value) (h : Heap) (L : List Loc) : Prop := v = some (.ref b) ∧ Fr n0 L ∧ h = h0
set_option maxRecDepth 65536 in
set_option maxHeartbeats 40000000 in
theorem own_gvalue (l : Launch) (Z : State) (a0 : Array Value) (hw : ∀ d ∈ tables_1, d.before a0 Z = true) (ws : List Jvm.Cond) (a1 : Addr) (b : Addr) (h0 : Heap) (n0 : Nat) (Z0 : n0 ≤ h0.size) (F1 : Fld Z h0 a1 "com/example/tranche/tranche/model/Stated" "value" "Ljava/lang/Object;" (.ref b))  :
    MetFree l (⟨"com/example/tranche/tranche/model/Stated", "value", "()Ljava/lang/Object;"⟩ : MethodName) (head1 (Jvm.Cond.code (⟨"com/example/tranche/tranche/model/Stated", "value", "()Ljava/lang/Object;"⟩ : MethodName) prog_35_method_5_code 1 (some (.object "java/lang/Object")) :: ws) ({ frames := 0, cells := 0, slots := 0, locals := 0 } : Room)) (fun a U => a = #[(.ref a1)] ∧ Z.Warmed39 U.vm ∧ U.heap = h0) (fun _ _ _ _ _ => True) (fun _ U o U' => ∃ v L, o = .returned v ∧ own_Q_own_gvalue Z a1 b h0 n0 v U'.heap L ∧ FrameEnd U o U' L ({ frames := 0, cells := 0, slots := 0, locals := 0 } : Room).cells ({ frames := 0, cells := 0, slots := 0, locals := 0 } : Room).slots) := by
  refine MetFree.of_bodySF (plainFor_of_name own_pn_com_example_tranche_tranche_model_Stated) hisR ?_
  intro p e s m args below meth c s₁ Bd hml0 hP hK
  obtain ⟨rfl, hZ, hh⟩ := hP
  have hx := Bd.exec
  have hby := Bd.bytes
  have hml : c.maxLocals = 1 := hml0
  have hown : s.vm.findClass "com/example/tranche/tranche/model/Stated" = some m.cls := findClass_of_methodNamed Bd.named
  have hnm := (name_of_methodNamed Bd.named Bd.method).1
  have X0 : Stand p l e ({ frames := 0, cells := 0, slots := 0, locals := 0 } : Room) s m #[(.ref a1)] below meth c s₁ [] 0 0 := Stand.of_body Bd
  have e0 : s₁.heap = h0 := by rw [← hh, Bd.state]; rfl
  have N0 := Fr.nil n0
  show own_Go p e below s (own_Q_own_gvalue Z a1 b h0 n0) ({ frames := 0, cells := 0, slots := 0, locals := 0 } : Room).cells ({ frames := 0, cells := 0, slots := 0, locals := 0 } : Room).slots (s₁.setTop (entryFrame m #[(.ref a1)] 1))
  refine own_go (fun zt zk => castTop (own_ef_own_gvalue m a1) zk) ?_
  show own_Go p e below s _ _ _ (s₁.setTop (mkF m 0 #[rv a1] []))
  refine own_go (fun zt zk => (XS.aloadN X0.here hx rfl (hb hby own_d13_0) rfl rfl zk)) ?_
  show own_Go p e below s _ _ _ (s₁.setTop (mkF m 1 #[rv a1] [(.ref a1)]))
  obtain ⟨T1, X1, e1, st1⟩ := getF X0 hx hZ hown (host := "") (Or.inl (hw _ (List.mem_of_getElem? (i := 45) rfl))) Via.refl e0 F1 (g := (mkF m 1 #[rv a1] [(.ref a1)])) rfl rfl (hb hby own_d13_1)
  refine own_go st1 ?_
  show own_Go p e below s _ _ _ (T1.setTop (mkF m 4 #[rv a1] [(.ref b)]))
  exact own_fin X1 Bd.notSynchronized (fun h => by rw [Bd.returns] at h; cases h) (fun fs hr => retOut X1 hx (t := (.object "java/lang/Object")) (w := (.ref b)) Bd.returns rfl (Or.inr (Or.inr (Or.inr (Or.inr ⟨rfl, rfl, rfl⟩)))) (hb hby own_d13_4) hr) (by rw [e1]; exact ⟨rfl, N0, rfl⟩) (by decide) (by decide)
theorem own_d15_0 : decode prog_64_method_13_code 0 = .ok (.aload_n 0, 1) := by decide +kernel
theorem own_d15_1 : decode prog_64_method_13_code 1 = .ok (.getfield 7, 3) := by decide +kernel
theorem own_d15_4 : decode prog_64_method_13_code 4 = .ok (.areturn, 1) := by decide +kernel
theorem own_ef_own_gkind2 (m : MethodId) (a1 : Addr) : entryFrame m #[(.ref a1)] 1 = mkF m 0 #[rv a1] [] := by first | (simp [entryFrame, mkF, argsToLocals, Value.category]; done) | rfl
def own_Q_own_gkind2 (Z : State) (a1 : Addr) (b : Addr) (h0 : Heap) (n0 : Nat) (v : Option Value) (h : Heap) (L : List Loc) : Prop := v = some (.ref b) ∧ Fr n0 L ∧ h = h0
set_option maxRecDepth 65536 in
set_option maxHeartbeats 40000000 in
theorem own_gkind2 (l : Launch) (Z : State) (a0 : Array Value) (hw : ∀ d ∈ tables_1, d.before a0 Z = true) (ws : List Jvm.Cond) (a1 : Addr) (b : Addr) (h0 : Heap) (n0 : Nat) (Z0 : n0 ≤ h0.size) (F1 : Fld Z h0 a1 "com/example/tranche/tranche/service/HeadingNumber" "kind" "Lcom/example/tranche/tranche/model/Heading$Kind;" (.ref b))  :
    MetFree l (⟨"com/example/tranche/tranche/service/HeadingNumber", "kind", "()Lcom/example/tranche/tranche/model/Heading$Kind;"⟩ : MethodName) (head1 (Jvm.Cond.code (⟨"com/example/tranche/tranche/service/HeadingNumber", "kind", "()Lcom/example/tranche/tranche/model/Heading$Kind;"⟩ : MethodName) prog_64_method_13_code 1 (some (.object "com/example/tranche/tranche/model/Heading$Kind")) :: ws) ({ frames := 0, cells := 0, slots := 0, locals := 0 } : Room)) (fun a U => a = #[(.ref a1)] ∧ Z.Warmed39 U.vm ∧ U.heap = h0) (fun _ _ _ _ _ => True) (fun _ U o U' => ∃ v L, o = .returned v ∧ own_Q_own_gkind2 Z a1 b h0 n0 v U'.heap L ∧ FrameEnd U o U' L ({ frames := 0, cells := 0, slots := 0, locals := 0 } : Room).cells ({ frames := 0, cells := 0, slots := 0, locals := 0 } : Room).slots) := by
  refine MetFree.of_bodySF (plainFor_of_name own_pn_com_example_tranche_tranche_service_HeadingNumber) hisR ?_
  intro p e s m args below meth c s₁ Bd hml0 hP hK
  obtain ⟨rfl, hZ, hh⟩ := hP
  have hx := Bd.exec
  have hby := Bd.bytes
  have hml : c.maxLocals = 1 := hml0
  have hown : s.vm.findClass "com/example/tranche/tranche/service/HeadingNumber" = some m.cls := findClass_of_methodNamed Bd.named
  have hnm := (name_of_methodNamed Bd.named Bd.method).1
  have X0 : Stand p l e ({ frames := 0, cells := 0, slots := 0, locals := 0 } : Room) s m #[(.ref a1)] below meth c s₁ [] 0 0 := Stand.of_body Bd
  have e0 : s₁.heap = h0 := by rw [← hh, Bd.state]; rfl
  have N0 := Fr.nil n0
  show own_Go p e below s (own_Q_own_gkind2 Z a1 b h0 n0) ({ frames := 0, cells := 0, slots := 0, locals := 0 } : Room).cells ({ frames := 0, cells := 0, slots := 0, locals := 0 } : Room).slots (s₁.setTop (entryFrame m #[(.ref a1)] 1))
  refine own_go (fun zt zk => castTop (own_ef_own_gkind2 m a1) zk) ?_
  show own_Go p e below s _ _ _ (s₁.setTop (mkF m 0 #[rv a1] []))
  refine own_go (fun zt zk => (XS.aloadN X0.here hx rfl (hb hby own_d15_0) rfl rfl zk)) ?_
  show own_Go p e below s _ _ _ (s₁.setTop (mkF m 1 #[rv a1] [(.ref a1)]))
  obtain ⟨T1, X1, e1, st1⟩ := getF X0 hx hZ hown (host := "") (Or.inl (hw _ (List.mem_of_getElem? (i := 90) rfl))) Via.refl e0 F1 (g := (mkF m 1 #[rv a1] [(.ref a1)])) rfl rfl (hb hby own_d15_1)
  refine own_go st1 ?_
  show own_Go p e below s _ _ _ (T1.setTop (mkF m 4 #[rv a1] [(.ref b)]))
  exact own_fin X1 Bd.notSynchronized (fun h => by rw [Bd.returns] at h; cases h) (fun fs hr => retOut X1 hx (t := (.object "com/example/tranche/tranche/model/Heading$Kind")) (w := (.ref b)) Bd.returns rfl (Or.inr (Or.inr (Or.inr (Or.inr ⟨rfl, rfl, rfl⟩)))) (hb hby own_d15_4) hr) (by rw [e1]; exact ⟨rfl, N0, rfl⟩) (by decide) (by decide)
theorem own_d16_0 : decode prog_64_method_14_code 0 = .ok (.aload_n 0, 1) := by decide +kernel
theorem own_d16_1 : decode prog_64_method_14_code 1 = .ok (.getfield 13, 3) := by decide +kernel
theorem own_d16_4 : decode prog_64_method_14_code 4 = .ok (.areturn, 1) := by decide +kernel
theorem own_ef_own_gnumber2 (m : MethodId) (a1 : Addr) : entryFrame m #[(.ref a1)] 1 = mkF m 0 #[rv a1] [] := by first | (simp [entryFrame, mkF, argsToLocals, Value.category]; done) | rfl
def own_Q_own_gnumber2 (Z : State) (a1 : Addr) (b : Addr) (h0 : Heap) (n0 : Nat) (v : Option Value) (h : Heap) (L : List Loc) : Prop := v = some (.ref b) ∧ Fr n0 L ∧ h = h0
set_option maxRecDepth 65536 in
set_option maxHeartbeats 40000000 in
theorem own_gnumber2 (l : Launch) (Z : State) (a0 : Array Value) (hw : ∀ d ∈ tables_1, d.before a0 Z = true) (ws : List Jvm.Cond) (a1 : Addr) (b : Addr) (h0 : Heap) (n0 : Nat) (Z0 : n0 ≤ h0.size) (F1 : Fld Z h0 a1 "com/example/tranche/tranche/service/HeadingNumber" "number" "Ljava/lang/String;" (.ref b))  :
    MetFree l (⟨"com/example/tranche/tranche/service/HeadingNumber", "number", "()Ljava/lang/String;"⟩ : MethodName) (head1 (Jvm.Cond.code (⟨"com/example/tranche/tranche/service/HeadingNumber", "number", "()Ljava/lang/String;"⟩ : MethodName) prog_64_method_14_code 1 (some (.object "java/lang/String")) :: ws) ({ frames := 0, cells := 0, slots := 0, locals := 0 } : Room)) (fun a U => a = #[(.ref a1)] ∧ Z.Warmed39 U.vm ∧ U.heap = h0) (fun _ _ _ _ _ => True) (fun _ U o U' => ∃ v L, o = .returned v ∧ own_Q_own_gnumber2 Z a1 b h0 n0 v U'.heap L ∧ FrameEnd U o U' L ({ frames := 0, cells := 0, slots := 0, locals := 0 } : Room).cells ({ frames := 0, cells := 0, slots := 0, locals := 0 } : Room).slots) := by
  refine MetFree.of_bodySF (plainFor_of_name own_pn_com_example_tranche_tranche_service_HeadingNumber) hisR ?_
  intro p e s m args below meth c s₁ Bd hml0 hP hK
  obtain ⟨rfl, hZ, hh⟩ := hP
  have hx := Bd.exec
  have hby := Bd.bytes
  have hml : c.maxLocals = 1 := hml0
  have hown : s.vm.findClass "com/example/tranche/tranche/service/HeadingNumber" = some m.cls := findClass_of_methodNamed Bd.named
  have hnm := (name_of_methodNamed Bd.named Bd.method).1
  have X0 : Stand p l e ({ frames := 0, cells := 0, slots := 0, locals := 0 } : Room) s m #[(.ref a1)] below meth c s₁ [] 0 0 := Stand.of_body Bd
  have e0 : s₁.heap = h0 := by rw [← hh, Bd.state]; rfl
  have N0 := Fr.nil n0
  show own_Go p e below s (own_Q_own_gnumber2 Z a1 b h0 n0) ({ frames := 0, cells := 0, slots := 0, locals := 0 } : Room).cells ({ frames := 0, cells := 0, slots := 0, locals := 0 } : Room).slots (s₁.setTop (entryFrame m #[(.ref a1)] 1))
  refine own_go (fun zt zk => castTop (own_ef_own_gnumber2 m a1) zk) ?_
  show own_Go p e below s _ _ _ (s₁.setTop (mkF m 0 #[rv a1] []))
  refine own_go (fun zt zk => (XS.aloadN X0.here hx rfl (hb hby own_d16_0) rfl rfl zk)) ?_
  show own_Go p e below s _ _ _ (s₁.setTop (mkF m 1 #[rv a1] [(.ref a1)]))
  obtain ⟨T1, X1, e1, st1⟩ := getF X0 hx hZ hown (host := "") (Or.inl (hw _ (List.mem_of_getElem? (i := 92) rfl))) Via.refl e0 F1 (g := (mkF m 1 #[rv a1] [(.ref a1)])) rfl rfl (hb hby own_d16_1)
  refine own_go st1 ?_
  show own_Go p e below s _ _ _ (T1.setTop (mkF m 4 #[rv a1] [(.ref b)]))
  exact own_fin X1 Bd.notSynchronized (fun h => by rw [Bd.returns] at h; cases h) (fun fs hr => retOut X1 hx (t := (.object "java/lang/String")) (w := (.ref b)) Bd.returns rfl (Or.inr (Or.inr (Or.inr (Or.inr ⟨rfl, rfl, rfl⟩)))) (hb hby own_d16_4) hr) (by rw [e1]; exact ⟨rfl, N0, rfl⟩) (by decide) (by decide)
theorem own_d10_0 : decode prog_64_method_2_code 0 = .ok (.new 8, 3) := by decide +kernel
theorem own_d10_3 : decode prog_64_method_2_code 3 = .ok (.dup, 1) := by decide +kernel
theorem own_d10_4 : decode prog_64_method_2_code 4 = .ok (.aload_n 0, 1) := by decide +kernel
theorem own_d10_5 : decode prog_64_method_2_code 5 = .ok (.invokevirtual 17, 3) := by decide +kernel
theorem own_pd___Lcom_example_tranche_tranche_model_Heading_Kind_ : parseMethodDescriptor "()Lcom/example/tranche/tranche/model/Heading$Kind;" = some ⟨[], some (.object "com/example/tranche/tranche/model/Heading$Kind")⟩ := by decide +kernel
theorem own_d10_8 : decode prog_64_method_2_code 8 = .ok (.aload_n 0, 1) := by decide +kernel
theorem own_d10_9 : decode prog_64_method_2_code 9 = .ok (.invokevirtual 22, 3) := by decide +kernel
theorem own_pd___Lcom_example_tranche_tranche_model_Stated_ : parseMethodDescriptor "()Lcom/example/tranche/tranche/model/Stated;" = some ⟨[], some (.object "com/example/tranche/tranche/model/Stated")⟩ := by decide +kernel
theorem own_d10_12 : decode prog_64_method_2_code 12 = .ok (.invokevirtual 25, 3) := by decide +kernel
theorem own_pd___Ljava_lang_Object_ : parseMethodDescriptor "()Ljava/lang/Object;" = some ⟨[], some (.object "java/lang/Object")⟩ := by decide +kernel
theorem own_d10_15 : decode prog_64_method_2_code 15 = .ok (.checkcast 31, 3) := by decide +kernel
theorem own_d10_18 : decode prog_64_method_2_code 18 = .ok (.invokespecial 33, 3) := by decide +kernel
theorem own_pd__Lcom_example_tranche_tranche_model_Heading_Kind_Ljava_lang_String__V : parseMethodDescriptor "(Lcom/example/tranche/tranche/model/Heading$Kind;Ljava/lang/String;)V" = some ⟨[(.object "com/example/tranche/tranche/model/Heading$Kind"), (.object "java/lang/String")], none⟩ := by decide +kernel
theorem own_d10_21 : decode prog_64_method_2_code 21 = .ok (.areturn, 1) := by decide +kernel
theorem own_ef_own_rof (m : MethodId) (a1 : Addr) : entryFrame m #[(.ref a1)] 1 = mkF m 0 #[rv a1] [] := by first | (simp [entryFrame, mkF, argsToLocals, Value.category]; done) | rfl
def own_Q_own_rof (Z : State) (a1 : Addr) (k u x : Addr) (h0 : Heap) (n0 : Nat) (v : Option Value) (h : Heap) (L : List Loc) : Prop := ∃ b, v = some (.ref b) ∧ Fr n0 L ∧ Keep h0 h [] ∧ h0.size ≤ b ∧ Exa Z h b "com/example/tranche/tranche/service/HeadingNumber" ∧ Fld Z h b "com/example/tranche/tranche/service/HeadingNumber" "kind" "Lcom/example/tranche/tranche/model/Heading$Kind;" (.ref k) ∧ Fld Z h b "com/example/tranche/tranche/service/HeadingNumber" "number" "Ljava/lang/String;" (.ref x)
set_option maxRecDepth 65536 in
set_option maxHeartbeats 40000000 in
theorem own_rof (l : Launch) (Z : State) (a0 : Array Value) (hw : ∀ d ∈ tables_1, d.before a0 Z = true) (ws : List Jvm.Cond) (a1 : Addr) (k u x : Addr) (h0 : Heap) (n0 : Nat) (Z0 : n0 ≤ h0.size) (Eq1 : Exa Z h0 a1 "com/example/tranche/tranche/model/Heading") (F1 : Fld Z h0 a1 "com/example/tranche/tranche/model/Heading" "kind" "Lcom/example/tranche/tranche/model/Heading$Kind;" (.ref k)) (F2 : Fld Z h0 a1 "com/example/tranche/tranche/model/Heading" "number" "Lcom/example/tranche/tranche/model/Stated;" (.ref u)) (E2 : Exa Z h0 u "com/example/tranche/tranche/model/Stated") (F3 : Fld Z h0 u "com/example/tranche/tranche/model/Stated" "value" "Ljava/lang/Object;" (.ref x)) (E3 : Exa Z h0 x "java/lang/String")  :
    MetFree l (⟨"com/example/tranche/tranche/service/HeadingNumber", "of", "(Lcom/example/tranche/tranche/model/Heading;)Lcom/example/tranche/tranche/service/HeadingNumber;"⟩ : MethodName) (head1 (Jvm.Cond.code (⟨"com/example/tranche/tranche/service/HeadingNumber", "of", "(Lcom/example/tranche/tranche/model/Heading;)Lcom/example/tranche/tranche/service/HeadingNumber;"⟩ : MethodName) prog_64_method_2_code 1 (some (.object "com/example/tranche/tranche/service/HeadingNumber")) :: ws) ({ frames := 3, cells := 1, slots := 2, locals := 39 } : Room)) (fun a U => a = #[(.ref a1)] ∧ Z.Warmed39 U.vm ∧ U.heap = h0) (fun _ _ _ _ _ => True) (fun _ U o U' => ∃ v L, o = .returned v ∧ own_Q_own_rof Z a1 k u x h0 n0 v U'.heap L ∧ FrameEnd U o U' L ({ frames := 3, cells := 1, slots := 2, locals := 39 } : Room).cells ({ frames := 3, cells := 1, slots := 2, locals := 39 } : Room).slots) := by
  refine MetFree.of_bodySF (plainFor_of_name own_pn_com_example_tranche_tranche_service_HeadingNumber) hisR ?_
  intro p e s m args below meth c s₁ Bd hml0 hP hK
  obtain ⟨rfl, hZ, hh⟩ := hP
  have hx := Bd.exec
  have hby := Bd.bytes
  have hml : c.maxLocals = 1 := hml0
  have hown : s.vm.findClass "com/example/tranche/tranche/service/HeadingNumber" = some m.cls := findClass_of_methodNamed Bd.named
  have hnm := (name_of_methodNamed Bd.named Bd.method).1
  have X0 : Stand p l e ({ frames := 3, cells := 1, slots := 2, locals := 39 } : Room) s m #[(.ref a1)] below meth c s₁ [] 0 0 := Stand.of_body Bd
  have e0 : s₁.heap = h0 := by rw [← hh, Bd.state]; rfl
  have N0 := Fr.nil n0
  have Kp : Keep h0 h0 [] := Keep.refl h0 _
  show own_Go p e below s (own_Q_own_rof Z a1 k u x h0 n0) ({ frames := 3, cells := 1, slots := 2, locals := 39 } : Room).cells ({ frames := 3, cells := 1, slots := 2, locals := 39 } : Room).slots (s₁.setTop (entryFrame m #[(.ref a1)] 1))
  refine own_go (fun zt zk => castTop (own_ef_own_rof m a1) zk) ?_
  show own_Go p e below s _ _ _ (s₁.setTop (mkF m 0 #[rv a1] []))
  obtain ⟨T1, h1, X1, e1, E1, A1, D1, -, st1⟩ := newO X0 hx hZ hown (hw _ (List.mem_of_getElem? (i := 68) rfl)) (hw _ (List.mem_of_getElem? (i := 69) rfl)) (hw _ (List.mem_of_getElem? (i := 66) rfl)) e0 (g := (mkF m 0 #[rv a1] [])) rfl (hb hby own_d10_0) (by decide) (by decide)
  obtain ⟨b1, g1⟩ : ∃ z, z = h0.size := ⟨_, rfl⟩
  rw [← g1] at A1 D1 st1
  refine own_go st1 ?_
  have ne_a1_b1 : a1 ≠ b1 := Nat.ne_of_lt (Nat.lt_of_lt_of_le Eq1.lt (Nat.le_of_eq g1.symm))
  have ne_u_b1 : u ≠ b1 := Nat.ne_of_lt (Nat.lt_of_lt_of_le E2.lt (Nat.le_of_eq g1.symm))
  have ne_x_b1 : x ≠ b1 := Nat.ne_of_lt (Nat.lt_of_lt_of_le E3.lt (Nat.le_of_eq g1.symm))
  have sz_b1 : h0.size ≤ b1 := Nat.le_trans Kp.1 (Nat.le_of_eq g1.symm)
  have g_b1 : n0 ≤ b1 := Nat.le_trans Z0 sz_b1
  replace Eq1 := Eq1.ext E1
  replace F1 := F1.ext E1
  replace F2 := F2.ext E1
  replace E2 := E2.ext E1
  replace F3 := F3.ext E1
  replace E3 := E3.ext E1
  replace Kp := Kp.ext E1
  have Ex_b1 := A1
  have F_kind_b1 : Fld Z h1 b1 "com/example/tranche/tranche/service/HeadingNumber" "kind" "Lcom/example/tranche/tranche/model/Heading$Kind;" .null := D1 (Or.inr (hw _ (List.mem_of_getElem? (i := 91) rfl))) (ty := (.object "com/example/tranche/tranche/model/Heading$Kind")) (by decide)
  have F_number_b1 : Fld Z h1 b1 "com/example/tranche/tranche/service/HeadingNumber" "number" "Ljava/lang/String;" .null := D1 (Or.inr (hw _ (List.mem_of_getElem? (i := 93) rfl))) (ty := (.object "java/lang/String")) (by decide)
  show own_Go p e below s _ _ _ (T1.setTop (mkF m 3 #[rv a1] [(.ref b1)]))
  refine own_go (fun zt zk => (XS.dup X1.here hx rfl (hb hby own_d10_3) rfl rfl (XS.aloadN X1.here hx rfl (hb hby own_d10_4) rfl rfl zk))) ?_
  show own_Go p e below s _ _ _ (T1.setTop (mkF m 5 #[rv a1] [(.ref a1), (.ref b1), (.ref b1)]))
  obtain ⟨cq2, kq2, qa2, qb2, qc2⟩ := isOf hZ e1 Eq1
  obtain ⟨_, _, ⟨T2, L2, k2, n2⟩, -, X2, ⟨Lc2, hQ2, l2, y2, z2⟩, st2⟩ := X1.virtualBack hx (y := (⟨"com/example/tranche/tranche/model/Heading", "kind", "()Lcom/example/tranche/tranche/model/Heading$Kind;"⟩ : MethodName)) (z := (⟨"com/example/tranche/tranche/model/Heading", "kind", "()Lcom/example/tranche/tranche/model/Heading$Kind;"⟩ : MethodName)) hown (mvT hZ (hw _ (List.mem_of_getElem? (i := 70) rfl))) (mvT hZ (hw _ (List.mem_of_getElem? (i := 71) rfl))) (notFace_of_selects (args := #[]) (mvT hZ (hw _ (List.mem_of_getElem? (i := 73) rfl)))) (mvT hZ (hw _ (List.mem_of_getElem? (i := 73) rfl))) (mvT hZ (hw _ (List.mem_of_getElem? (i := 72) rfl))) (by decide) (backOf (W := 2) (own_gkind l Z a0 hw [] a1 k h1 n0 (Nat.le_trans Z0 Kp.1) F1) hZ (hw _ (List.mem_of_getElem? (i := 74) rfl)) (hw _ (List.mem_of_getElem? (i := 51) rfl)) (by decide) (by decide)) qa2 qc2 (g := (mkF m 5 #[rv a1] [(.ref a1), (.ref b1), (.ref b1)])) rfl (by rw [hml]; rfl) (Steps.refl _) (argsL := []) (rest := [(.ref b1), (.ref b1)]) (lenOf own_pd___Lcom_example_tranche_tranche_model_Heading_Kind_ rfl) rfl (by show 2 * 0 + _ ≤ _; exact Nat.le_of_eq rfl) (hb hby own_d10_5) (fun _ _ => ⟨rfl, e1, (by decide : 1 + 0 ≤ _), (by decide : 2 + 0 ≤ _)⟩)
  dsimp only [Pt.U, Pt.locs, Pt.cells, Pt.slots] at X2 l2 y2 z2 st2 hQ2
  subst l2 y2 z2
  obtain ⟨rfl, Nq2, e2⟩ := hQ2
  have N2 := Fr.app N0 Nq2
  refine own_go (fun zt zk => st2.trans zk) ?_
  show own_Go p e below s _ _ _ (T2.setTop (mkF m 8 #[rv a1] [(.ref k), (.ref b1), (.ref b1)]))
  refine own_go (fun zt zk => (XS.aloadN X2.here hx rfl (hb hby own_d10_8) rfl rfl zk)) ?_
  show own_Go p e below s _ _ _ (T2.setTop (mkF m 9 #[rv a1] [(.ref a1), (.ref k), (.ref b1), (.ref b1)]))
  obtain ⟨cq3, kq3, qa3, qb3, qc3⟩ := isOf hZ e2 Eq1
  obtain ⟨_, _, ⟨T3, L3, k3, n3⟩, -, X3, ⟨Lc3, hQ3, l3, y3, z3⟩, st3⟩ := X2.virtualBack hx (y := (⟨"com/example/tranche/tranche/model/Heading", "number", "()Lcom/example/tranche/tranche/model/Stated;"⟩ : MethodName)) (z := (⟨"com/example/tranche/tranche/model/Heading", "number", "()Lcom/example/tranche/tranche/model/Stated;"⟩ : MethodName)) hown (mvT hZ (hw _ (List.mem_of_getElem? (i := 75) rfl))) (mvT hZ (hw _ (List.mem_of_getElem? (i := 76) rfl))) (notFace_of_selects (args := #[]) (mvT hZ (hw _ (List.mem_of_getElem? (i := 78) rfl)))) (mvT hZ (hw _ (List.mem_of_getElem? (i := 78) rfl))) (mvT hZ (hw _ (List.mem_of_getElem? (i := 77) rfl))) (by decide) (backOf (W := 3) (own_gnumber l Z a0 hw [] a1 u h1 n0 (Nat.le_trans Z0 Kp.1) F2) hZ (hw _ (List.mem_of_getElem? (i := 79) rfl)) (hw _ (List.mem_of_getElem? (i := 51) rfl)) (by decide) (by decide)) qa3 qc3 (g := (mkF m 9 #[rv a1] [(.ref a1), (.ref k), (.ref b1), (.ref b1)])) rfl (by rw [hml]; rfl) (Steps.refl _) (argsL := []) (rest := [(.ref k), (.ref b1), (.ref b1)]) (lenOf own_pd___Lcom_example_tranche_tranche_model_Stated_ rfl) rfl (by show 2 * 0 + _ ≤ _; exact Nat.le_of_eq rfl) (hb hby own_d10_9) (fun _ _ => ⟨rfl, e2, (by decide : 1 + 0 ≤ _), (by decide : 2 + 0 ≤ _)⟩)
  dsimp only [Pt.U, Pt.locs, Pt.cells, Pt.slots] at X3 l3 y3 z3 st3 hQ3
  subst l3 y3 z3
  obtain ⟨rfl, Nq3, e3⟩ := hQ3
  have N3 := Fr.app N2 Nq3
  refine own_go (fun zt zk => st3.trans zk) ?_
  show own_Go p e below s _ _ _ (T3.setTop (mkF m 12 #[rv a1] [(.ref u), (.ref k), (.ref b1), (.ref b1)]))
  obtain ⟨cq4, kq4, qa4, qb4, qc4⟩ := isOf hZ e3 E2
  obtain ⟨_, _, ⟨T4, L4, k4, n4⟩, -, X4, ⟨Lc4, hQ4, l4, y4, z4⟩, st4⟩ := X3.virtualBack hx (y := (⟨"com/example/tranche/tranche/model/Stated", "value", "()Ljava/lang/Object;"⟩ : MethodName)) (z := (⟨"com/example/tranche/tranche/model/Stated", "value", "()Ljava/lang/Object;"⟩ : MethodName)) hown (mvT hZ (hw _ (List.mem_of_getElem? (i := 80) rfl))) (mvT hZ (hw _ (List.mem_of_getElem? (i := 81) rfl))) (notFace_of_selects (args := #[]) (mvT hZ (hw _ (List.mem_of_getElem? (i := 83) rfl)))) (mvT hZ (hw _ (List.mem_of_getElem? (i := 83) rfl))) (mvT hZ (hw _ (List.mem_of_getElem? (i := 82) rfl))) (by decide) (backOf (W := 3) (own_gvalue l Z a0 hw [] u x h1 n0 (Nat.le_trans Z0 Kp.1) F3) hZ (hw _ (List.mem_of_getElem? (i := 84) rfl)) (hw _ (List.mem_of_getElem? (i := 35) rfl)) (by decide) (by decide)) qa4 qc4 (g := (mkF m 12 #[rv a1] [(.ref u), (.ref k), (.ref b1), (.ref b1)])) rfl (by rw [hml]; rfl) (Steps.refl _) (argsL := []) (rest := [(.ref k), (.ref b1), (.ref b1)]) (lenOf own_pd___Ljava_lang_Object_ rfl) rfl (by show 2 * 0 + _ ≤ _; exact Nat.le_of_eq rfl) (hb hby own_d10_12) (fun _ _ => ⟨rfl, e3, (by decide : 1 + 0 ≤ _), (by decide : 2 + 0 ≤ _)⟩)
  dsimp only [Pt.U, Pt.locs, Pt.cells, Pt.slots] at X4 l4 y4 z4 st4 hQ4
  subst l4 y4 z4
  obtain ⟨rfl, Nq4, e4⟩ := hQ4
  have N4 := Fr.app N3 Nq4
  refine own_go (fun zt zk => st4.trans zk) ?_
  show own_Go p e below s _ _ _ (T4.setTop (mkF m 15 #[rv a1] [(.ref x), (.ref k), (.ref b1), (.ref b1)]))
  obtain ⟨T5, X5, e5, st5⟩ := castY X4 hx hZ hown (hw _ (List.mem_of_getElem? (i := 85) rfl)) e4 (Ins.self E3) (g := (mkF m 15 #[rv a1] [(.ref x), (.ref k), (.ref b1), (.ref b1)])) rfl rfl (hb hby own_d10_15)
  refine own_go st5 ?_
  show own_Go p e below s _ _ _ (T5.setTop (mkF m 18 #[rv a1] [(.ref x), (.ref k), (.ref b1), (.ref b1)]))
  obtain ⟨_, _, ⟨T6, L6, k6, n6⟩, -, X6, ⟨Lc6, hQ6, l6, y6, z6⟩, st6⟩ := X5.specialBack hx (y := (⟨"com/example/tranche/tranche/service/HeadingNumber", "<init>", "(Lcom/example/tranche/tranche/model/Heading$Kind;Ljava/lang/String;)V"⟩ : MethodName)) rfl hown (mvT hZ (hw _ (List.mem_of_getElem? (i := 86) rfl))) (mvT hZ (hw _ (List.mem_of_getElem? (i := 87) rfl))) (mvT hZ (hw _ (List.mem_of_getElem? (i := 88) rfl))) (by decide) (backOf (W := 1) (own_rhn l Z a0 hw [] b1 k x  h1 n0 (Nat.le_trans Z0 Kp.1) Ex_b1 F_kind_b1 F_number_b1 g_b1 ) hZ (hw _ (List.mem_of_getElem? (i := 88) rfl)) (hw _ (List.mem_of_getElem? (i := 66) rfl)) (by decide) (by decide)) (g := (mkF m 18 #[rv a1] [(.ref x), (.ref k), (.ref b1), (.ref b1)])) rfl (by rw [hml]; rfl) (Steps.refl _) (a := b1) (argsL := [(.ref k), (.ref x)]) (rest := [(.ref b1)]) (lenOf own_pd__Lcom_example_tranche_tranche_model_Heading_Kind_Ljava_lang_String__V rfl) rfl (by show 2 * 0 + _ ≤ _; exact Nat.le_of_eq rfl) (hb hby own_d10_18) (fun _ _ => ⟨rfl, e5, (by decide : 1 + 0 ≤ _), (by decide : 2 + 0 ≤ _)⟩)
  dsimp only [Pt.U, Pt.locs, Pt.cells, Pt.slots] at X6 l6 y6 z6 st6 hQ6
  subst l6 y6 z6
  obtain ⟨rfl, Nq6, K6, -, F_kind_b1, F_number_b1⟩ := hQ6
  have N6 := Fr.app N4 Nq6
  refine own_go (fun zt zk => st6.trans zk) ?_
  replace Eq1 := Eq1.keep K6
  replace F1 := F1.keep K6 (ninS ne_a1_b1 nin0)
  replace F2 := F2.keep K6 (ninS ne_a1_b1 nin0)
  replace E2 := E2.keep K6
  replace F3 := F3.keep K6 (ninS ne_u_b1 nin0)
  replace E3 := E3.keep K6
  replace Kp := Kp.trans K6 (allS (Or.inr sz_b1) all0)
  replace Ex_b1 := Ex_b1.keep K6
  show own_Go p e below s _ _ _ (T6.setTop (mkF m 21 #[rv a1] [(.ref b1)]))
  exact own_fin X6 Bd.notSynchronized (fun h => by rw [Bd.returns] at h; cases h) (fun fs hr => retOut X6 hx (t := (.object "com/example/tranche/tranche/service/HeadingNumber")) (w := (.ref b1)) Bd.returns rfl (Or.inr (Or.inr (Or.inr (Or.inr ⟨rfl, rfl, rfl⟩)))) (hb hby own_d10_21) hr) ⟨_, rfl, N6, Kp, sz_b1, Ex_b1, F_kind_b1, F_number_b1⟩ (by decide) (by decide)
theorem own_pd___C_V : parseMethodDescriptor "([C)V" = some ⟨[(.array .char)], none⟩ := by decide +kernel
theorem own_pd__Ljava_lang_Object_Lcom_example_tranche_tranche_model_Span__V : parseMethodDescriptor "(Ljava/lang/Object;Lcom/example/tranche/tranche/model/Span;)V" = some ⟨[(.object "java/lang/Object"), (.object "com/example/tranche/tranche/model/Span")], none⟩ := by decide +kernel
theorem own_pd__Lcom_example_tranche_tranche_model_Heading_Kind_Lcom_example_tranche_tranche_model_Stated_Lcom_example_tranche_tranche_model_Stated_Lcom_example_tranche_tranche_model_Span__V : parseMethodDescriptor "(Lcom/example/tranche/tranche/model/Heading$Kind;Lcom/example/tranche/tranche/model/Stated;Lcom/example/tranche/tranche/model/Stated;Lcom/example/tranche/tranche/model/Span;)V" = some ⟨[(.object "com/example/tranche/tranche/model/Heading$Kind"), (.object "com/example/tranche/tranche/model/Stated"), (.object "com/example/tranche/tranche/model/Stated"), (.object "com/example/tranche/tranche/model/Span")], none⟩ := by decide +kernel
theorem own_pd__Lcom_example_tranche_tranche_model_Heading__Lcom_example_tranche_tranche_service_HeadingNumber_ : parseMethodDescriptor "(Lcom/example/tranche/tranche/model/Heading;)Lcom/example/tranche/tranche/service/HeadingNumber;" = some ⟨[(.object "com/example/tranche/tranche/model/Heading")], some (.object "com/example/tranche/tranche/service/HeadingNumber")⟩ := by decide +kernel
theorem own_pd___Ljava_lang_String_ : parseMethodDescriptor "()Ljava/lang/String;" = some ⟨[], some (.object "java/lang/String")⟩ := by decide +kernel
theorem own_pd__Ljava_lang_Object__Z : parseMethodDescriptor "(Ljava/lang/Object;)Z" = some ⟨[(.object "java/lang/Object")], some .boolean⟩ := by decide +kernel
theorem own_pd__C_Ljava_lang_String_ : parseMethodDescriptor "(C)Ljava/lang/String;" = some ⟨[.char], some (.object "java/lang/String")⟩ := by decide +kernel
theorem own_pn_com_example_tranche_tranche_service_HeadingNumberOfPinLaw : plainName "com/example/tranche/tranche/service/HeadingNumberOfPinLaw" = true := by first | (simp [plainName, overriddenIn]; done) | decide +kernel
theorem own_ef_own_law (m : MethodId) (p1 : Int32) (p2 : Int32) (p3 : Int32) (p4 : Int32) (p5 : Int32) : entryFrame m #[(.int p1), (.int p2), (.int p3), (.int p4), (.int p5)] maxLocals = mkF m 0 #[iv p1, iv p2, iv p3, iv p4, iv p5, .unset, .unset, .unset, .unset, .unset, .unset, .unset, .unset] [] := by first | (simp [entryFrame, mkF, argsToLocals, Value.category, maxLocals]; done) | rfl
def own_Q_own_law (Z : State) (p1 : Int32) (p2 : Int32) (p3 : Int32) (p4 : Int32) (p5 : Int32) (o_ARTICLE : Addr) (o_SECTION : Addr) (o_COMPACT_STRINGS : Int32) (o_SIOOBE_FORMATTER : Value) (h0 : Heap) (n0 : Nat) (v : Option Value) (h : Heap) (L : List Loc) : Prop := v = some (.int 1) ∧ Fr n0 L
set_option maxRecDepth 65536 in
set_option maxHeartbeats 40000000 in
theorem own_law (l : Launch) (Z : State) (a0 : Array Value) (hw : ∀ d ∈ tables_1, d.before a0 Z = true) (ws : List Jvm.Cond) (p1 : Int32) (p2 : Int32) (p3 : Int32) (p4 : Int32) (p5 : Int32) (o_ARTICLE : Addr) (o_SECTION : Addr) (o_COMPACT_STRINGS : Int32) (o_SIOOBE_FORMATTER : Value) (h0 : Heap) (n0 : Nat) (Z0 : n0 ≤ h0.size) (O : Old Z n0 h0) (S_o_ARTICLE : Sta Z Z.heap "com/example/tranche/tranche/model/Heading$Kind" "ARTICLE" "Lcom/example/tranche/tranche/model/Heading$Kind;" (.ref o_ARTICLE)) (Ex_o_ARTICLE : Exa Z Z.heap o_ARTICLE "com/example/tranche/tranche/model/Heading$Kind") (S_o_SECTION : Sta Z Z.heap "com/example/tranche/tranche/model/Heading$Kind" "SECTION" "Lcom/example/tranche/tranche/model/Heading$Kind;" (.ref o_SECTION)) (Ex_o_SECTION : Exa Z Z.heap o_SECTION "com/example/tranche/tranche/model/Heading$Kind") (S_o_COMPACT_STRINGS : Sta Z Z.heap "java/lang/String" "COMPACT_STRINGS" "Z" (.int o_COMPACT_STRINGS)) (S_o_SIOOBE_FORMATTER : Sta Z Z.heap "jdk/internal/util/Preconditions" "SIOOBE_FORMATTER" "Ljava/util/function/BiFunction;" o_SIOOBE_FORMATTER) (nz_o_COMPACT_STRINGS : ¬ (o_COMPACT_STRINGS = (0 : Int32))) (r_o_SIOOBE_FORMATTER : o_SIOOBE_FORMATTER.isRef = true) :
    MetFree l x (head1 (Jvm.Cond.code x code maxLocals ret :: ws) room_1) (fun a U => a = #[(.int p1), (.int p2), (.int p3), (.int p4), (.int p5)] ∧ Z.Warmed39 U.vm ∧ U.heap = h0) (fun _ _ _ _ _ => True) (fun _ U o U' => ∃ v L, o = .returned v ∧ own_Q_own_law Z p1 p2 p3 p4 p5 o_ARTICLE o_SECTION o_COMPACT_STRINGS o_SIOOBE_FORMATTER h0 n0 v U'.heap L ∧ FrameEnd U o U' L room_1.cells room_1.slots) := by
  refine MetFree.of_bodySF (plainFor_of_name own_pn_com_example_tranche_tranche_service_HeadingNumberOfPinLaw) hisR ?_
  intro p e s m args below meth c s₁ Bd hml0 hP hK
  obtain ⟨rfl, hZ, hh⟩ := hP
  have hx := Bd.exec
  have hby := Bd.bytes
  have hml : c.maxLocals = 13 := hml0
  have hown : s.vm.findClass "com/example/tranche/tranche/service/HeadingNumberOfPinLaw" = some m.cls := findClass_of_methodNamed Bd.named
  have hnm := (name_of_methodNamed Bd.named Bd.method).1
  have X0 : Stand p l e room_1 s m #[(.int p1), (.int p2), (.int p3), (.int p4), (.int p5)] below meth c s₁ [] 0 0 := Stand.of_body Bd
  have e0 : s₁.heap = h0 := by rw [← hh, Bd.state]; rfl
  have N0 := Fr.nil n0
  have Kp : Keep h0 h0 [] := Keep.refl h0 _
  show own_Go p e below s (own_Q_own_law Z p1 p2 p3 p4 p5 o_ARTICLE o_SECTION o_COMPACT_STRINGS o_SIOOBE_FORMATTER h0 n0) room_1.cells room_1.slots (s₁.setTop (entryFrame m #[(.int p1), (.int p2), (.int p3), (.int p4), (.int p5)] maxLocals))
  refine own_go (fun zt zk => castTop (own_ef_own_law m p1 p2 p3 p4 p5) zk) ?_
  show own_Go p e below s _ _ _ (s₁.setTop (mkF m 0 #[iv p1, iv p2, iv p3, iv p4, iv p5, .unset, .unset, .unset, .unset, .unset, .unset, .unset, .unset] []))
  refine own_go (fun zt zk => (XS.iloadN X0.here hx rfl (hb hby at_0) rfl (XS.iconst X0.here hx rfl (hb hby at_1) (XS.iand X0.here hx rfl (hb hby at_2) rfl zk)))) ?_
  show own_Go p e below s _ _ _ (s₁.setTop (mkF m 3 #[iv p1, iv p2, iv p3, iv p4, iv p5, .unset, .unset, .unset, .unset, .unset, .unset, .unset, .unset] [(.int (p1 &&& (1 : Int32)))]))
  by_cases ha : (p1 &&& (1 : Int32)) = (0 : Int32)
  · refine own_go (fun zt zk => (XS.ifYes X0.here hx rfl (pc0 := 3) (pc' := 12) rfl (hb hby at_3) rfl ((if0 _ _).trans (teq (ha : (p1 &&& (1 : Int32)) = (0 : Int32))).1) (by decide) (by decide) zk)) ?_
    show own_Go p e below s _ _ _ (s₁.setTop (mkF m 12 #[iv p1, iv p2, iv p3, iv p4, iv p5, .unset, .unset, .unset, .unset, .unset, .unset, .unset, .unset] []))
    obtain ⟨T1, X1, e1, st1⟩ := getS2 X0 hx hZ hown (host := "") (Or.inl (hw _ (List.mem_of_getElem? (i := 0) rfl))) Via.refl e0 (S_o_ARTICLE.ext O.2) (g := (mkF m 12 #[iv p1, iv p2, iv p3, iv p4, iv p5, .unset, .unset, .unset, .unset, .unset, .unset, .unset, .unset] [])) rfl (hb hby at_12)
    refine own_go st1 ?_
    show own_Go p e below s _ _ _ (T1.setTop (mkF m 15 #[iv p1, iv p2, iv p3, iv p4, iv p5, .unset, .unset, .unset, .unset, .unset, .unset, .unset, .unset] [(.ref o_ARTICLE)]))
    refine own_go (fun zt zk => (XS.astore X1.here hx rfl (hb hby at_15) rfl rfl (l' := #[iv p1, iv p2, iv p3, iv p4, iv p5, rv o_ARTICLE, .unset, .unset, .unset, .unset, .unset, .unset, .unset]) rfl (XS.iloadN X1.here hx rfl (hb hby at_17) rfl (XS.iconst X1.here hx rfl (hb hby at_18) (XS.iand X1.here hx rfl (hb hby at_19) rfl zk))))) ?_
    show own_Go p e below s _ _ _ (T1.setTop (mkF m 20 #[iv p1, iv p2, iv p3, iv p4, iv p5, rv o_ARTICLE, .unset, .unset, .unset, .unset, .unset, .unset, .unset] [(.int (p1 &&& (2 : Int32)))]))
    by_cases hB : (p1 &&& (2 : Int32)) = (0 : Int32)
    · refine own_go (fun zt zk => (XS.ifYes X1.here hx rfl (pc0 := 20) (pc' := 37) rfl (hb hby at_20) rfl ((if0 _ _).trans (teq (hB : (p1 &&& (2 : Int32)) = (0 : Int32))).1) (by decide) (by decide) (XS.iconst X1.here hx rfl (hb hby at_37) zk))) ?_
      show own_Go p e below s _ _ _ (T1.setTop (mkF m 38 #[iv p1, iv p2, iv p3, iv p4, iv p5, rv o_ARTICLE, .unset, .unset, .unset, .unset, .unset, .unset, .unset] [(.int (3 : Int32))]))
      obtain ⟨T2, h2, k2, X2, e2, E2, A2, Ea2, st2⟩ := newPE X1 hx hZ (hw _ (List.mem_of_getElem? (i := 3) rfl)) e1 (g := (mkF m 38 #[iv p1, iv p2, iv p3, iv p4, iv p5, rv o_ARTICLE, .unset, .unset, .unset, .unset, .unset, .unset, .unset] [(.int (3 : Int32))])) rfl (hb hby at_38) rfl (by decide) (cap := 3) (by decide) (by decide) (by decide) (by decide) (ad := "[C") (by decide)
      obtain ⟨b2, g2⟩ : ∃ z, z = h0.size := ⟨_, rfl⟩
      rw [← g2] at A2 Ea2 st2
      refine own_go st2 ?_
      have ne_o_ARTICLE_b2 : o_ARTICLE ≠ b2 := Nat.ne_of_lt (Nat.lt_of_lt_of_le (Ex_o_ARTICLE.ext O.2).lt (Nat.le_of_eq g2.symm))
      have ne_o_SECTION_b2 : o_SECTION ≠ b2 := Nat.ne_of_lt (Nat.lt_of_lt_of_le (Ex_o_SECTION.ext O.2).lt (Nat.le_of_eq g2.symm))
      have sz_b2 : h0.size ≤ b2 := Nat.le_trans Kp.1 (Nat.le_of_eq g2.symm)
      have g_b2 : n0 ≤ b2 := Nat.le_trans Z0 sz_b2
      replace O := O.ext E2
      replace Kp := Kp.ext E2
      have V_b2 : Arv Z h2 b2 k2 .char (3 : Int32) [(.int (0 : Int32)), (.int (0 : Int32)), (.int (0 : Int32))] (.int (0 : Int32)) := (Arv.new A2 (by decide)).pad (pad_rep [] (.int (0 : Int32)) 3)
      have Ea_b2 := Ea2
      show own_Go p e below s _ _ _ (T2.setTop (mkF m 40 #[iv p1, iv p2, iv p3, iv p4, iv p5, rv o_ARTICLE, .unset, .unset, .unset, .unset, .unset, .unset, .unset] [(.ref b2)]))
      refine own_go (fun zt zk => (XS.astore X2.here hx rfl (hb hby at_40) rfl rfl (l' := #[iv p1, iv p2, iv p3, iv p4, iv p5, rv o_ARTICLE, .unset, rv b2, .unset, .unset, .unset, .unset, .unset]) rfl (XS.aload X2.here hx rfl (hb hby at_42) rfl rfl (XS.iconst X2.here hx rfl (hb hby at_44) (XS.iloadN X2.here hx rfl (hb hby at_45) rfl (XS.sipush X2.here hx rfl (hb hby at_46) (XS.iand X2.here hx rfl (hb hby at_49) rfl (XS.i2c X2.here hx rfl (hb hby at_50) rfl zk)))))))) ?_
      show own_Go p e below s _ _ _ (T2.setTop (mkF m 51 #[iv p1, iv p2, iv p3, iv p4, iv p5, rv o_ARTICLE, .unset, rv b2, .unset, .unset, .unset, .unset, .unset] [(.int ((p2 &&& (255 : Int32)).toUInt32.toUInt16.toUInt32.toInt32)), (.int (0 : Int32)), (.ref b2)]))
      rw [i2c_mask]
      generalize hv_c3 : (p2 &&& (255 : Int32)) = c3
      have hr_c3 := own_r255 hv_c3
      show own_Go p e below s _ _ _ (T2.setTop (mkF m 51 #[iv p1, iv p2, iv p3, iv p4, iv p5, rv o_ARTICLE, .unset, rv b2, .unset, .unset, .unset, .unset, .unset] [(.int c3), (.int (0 : Int32)), (.ref b2)]))
      obtain ⟨cl4, Ar4, q4, Sz4, Nz4, Ha4, Ga4⟩ := id V_b2
      have hin4 : ¬ ((0 : Int32) < 0 ∨ cl4.slots.size ≤ ((0 : Int32)).toNatClampNeg) := inb_of Sz4 ⟨by decide, by decide⟩
      obtain ⟨T5, h5, X5, e5, W5, st5⟩ := stC X2 hx hZ e2 Ar4 (j := (0 : Int32)) hin4 (g := (mkF m 51 #[iv p1, iv p2, iv p3, iv p4, iv p5, rv o_ARTICLE, .unset, rv b2, .unset, .unset, .unset, .unset, .unset] [(.int c3), (.int (0 : Int32)), (.ref b2)])) rfl rfl (hb hby at_51)
      refine own_go st5 ?_
      rw [show nar .char c3 = c3 from own_narc hr_c3] at W5
      have V5 := Arv.set Ar4 q4 Sz4 Nz4 Ha4 Ga4 (own_fitc hr_c3) W5 0 rfl (Nat.le_of_ble_eq_true rfl)
      have N5 := Fr.snoc X5 N0 g_b2
      replace O := O.wr W5 g_b2
      replace Kp := Kp.wr W5 (Or.inr sz_b2)
      replace Ea_b2 := Ea_b2.wr W5
      replace V_b2 : Arv Z h5 b2 k2 .char (3 : Int32) [(.int c3), (.int (0 : Int32)), (.int (0 : Int32))] (.int (0 : Int32)) := V5
      show own_Go p e below s _ _ _ (T5.setTop (mkF m 52 #[iv p1, iv p2, iv p3, iv p4, iv p5, rv o_ARTICLE, .unset, rv b2, .unset, .unset, .unset, .unset, .unset] []))
      refine own_go (fun zt zk => (XS.aload X5.here hx rfl (hb hby at_52) rfl rfl (XS.iconst X5.here hx rfl (hb hby at_54) (XS.iloadN X5.here hx rfl (hb hby at_55) rfl (XS.bipush X5.here hx rfl (hb hby at_56) (XS.iushr X5.here hx rfl (hb hby at_58) rfl (XS.sipush X5.here hx rfl (hb hby at_59) (XS.iand X5.here hx rfl (hb hby at_62) rfl (XS.i2c X5.here hx rfl (hb hby at_63) rfl zk))))))))) ?_
      show own_Go p e below s _ _ _ (T5.setTop (mkF m 64 #[iv p1, iv p2, iv p3, iv p4, iv p5, rv o_ARTICLE, .unset, rv b2, .unset, .unset, .unset, .unset, .unset] [(.int ((((p2.toUInt32 >>> ((8 : Int32) &&& 31).toUInt32).toInt32) &&& (255 : Int32)).toUInt32.toUInt16.toUInt32.toInt32)), (.int (1 : Int32)), (.ref b2)]))
      rw [i2c_mask]
      generalize hv_c6 : (((p2.toUInt32 >>> ((8 : Int32) &&& 31).toUInt32).toInt32) &&& (255 : Int32)) = c6
      have hr_c6 := own_r255 hv_c6
      show own_Go p e below s _ _ _ (T5.setTop (mkF m 64 #[iv p1, iv p2, iv p3, iv p4, iv p5, rv o_ARTICLE, .unset, rv b2, .unset, .unset, .unset, .unset, .unset] [(.int c6), (.int (1 : Int32)), (.ref b2)]))
      obtain ⟨cl7, Ar7, q7, Sz7, Nz7, Ha7, Ga7⟩ := id V_b2
      have hin7 : ¬ ((1 : Int32) < 0 ∨ cl7.slots.size ≤ ((1 : Int32)).toNatClampNeg) := inb_of Sz7 ⟨by decide, by decide⟩
      obtain ⟨T8, h8, X8, e8, W8, st8⟩ := stC X5 hx hZ e5 Ar7 (j := (1 : Int32)) hin7 (g := (mkF m 64 #[iv p1, iv p2, iv p3, iv p4, iv p5, rv o_ARTICLE, .unset, rv b2, .unset, .unset, .unset, .unset, .unset] [(.int c6), (.int (1 : Int32)), (.ref b2)])) rfl rfl (hb hby at_64)
      refine own_go st8 ?_
      rw [show nar .char c6 = c6 from own_narc hr_c6] at W8
      have V8 := Arv.set Ar7 q7 Sz7 Nz7 Ha7 Ga7 (own_fitc hr_c6) W8 1 rfl (Nat.le_of_ble_eq_true rfl)
      have N8 := Fr.snoc X8 N5 g_b2
      replace O := O.wr W8 g_b2
      replace Kp := Kp.wr W8 (Or.inr sz_b2)
      replace Ea_b2 := Ea_b2.wr W8
      replace V_b2 : Arv Z h8 b2 k2 .char (3 : Int32) [(.int c3), (.int c6), (.int (0 : Int32))] (.int (0 : Int32)) := V8
      show own_Go p e below s _ _ _ (T8.setTop (mkF m 65 #[iv p1, iv p2, iv p3, iv p4, iv p5, rv o_ARTICLE, .unset, rv b2, .unset, .unset, .unset, .unset, .unset] []))
      refine own_go (fun zt zk => (XS.aload X8.here hx rfl (hb hby at_65) rfl rfl (XS.iconst X8.here hx rfl (hb hby at_67) (XS.iloadN X8.here hx rfl (hb hby at_68) rfl (XS.sipush X8.here hx rfl (hb hby at_69) (XS.iand X8.here hx rfl (hb hby at_72) rfl (XS.i2c X8.here hx rfl (hb hby at_73) rfl zk))))))) ?_
      show own_Go p e below s _ _ _ (T8.setTop (mkF m 74 #[iv p1, iv p2, iv p3, iv p4, iv p5, rv o_ARTICLE, .unset, rv b2, .unset, .unset, .unset, .unset, .unset] [(.int ((p3 &&& (255 : Int32)).toUInt32.toUInt16.toUInt32.toInt32)), (.int (2 : Int32)), (.ref b2)]))
      rw [i2c_mask]
      generalize hv_c9 : (p3 &&& (255 : Int32)) = c9
      have hr_c9 := own_r255 hv_c9
      show own_Go p e below s _ _ _ (T8.setTop (mkF m 74 #[iv p1, iv p2, iv p3, iv p4, iv p5, rv o_ARTICLE, .unset, rv b2, .unset, .unset, .unset, .unset, .unset] [(.int c9), (.int (2 : Int32)), (.ref b2)]))
      obtain ⟨cl10, Ar10, q10, Sz10, Nz10, Ha10, Ga10⟩ := id V_b2
      have hin10 : ¬ ((2 : Int32) < 0 ∨ cl10.slots.size ≤ ((2 : Int32)).toNatClampNeg) := inb_of Sz10 ⟨by decide, by decide⟩
      obtain ⟨T11, h11, X11, e11, W11, st11⟩ := stC X8 hx hZ e8 Ar10 (j := (2 : Int32)) hin10 (g := (mkF m 74 #[iv p1, iv p2, iv p3, iv p4, iv p5, rv o_ARTICLE, .unset, rv b2, .unset, .unset, .unset, .unset, .unset] [(.int c9), (.int (2 : Int32)), (.ref b2)])) rfl rfl (hb hby at_74)
      refine own_go st11 ?_
      rw [show nar .char c9 = c9 from own_narc hr_c9] at W11
      have V11 := Arv.set Ar10 q10 Sz10 Nz10 Ha10 Ga10 (own_fitc hr_c9) W11 2 rfl (Nat.le_of_ble_eq_true rfl)
      have N11 := Fr.snoc X11 N8 g_b2
      replace O := O.wr W11 g_b2
      replace Kp := Kp.wr W11 (Or.inr sz_b2)
      replace Ea_b2 := Ea_b2.wr W11
      replace V_b2 : Arv Z h11 b2 k2 .char (3 : Int32) [(.int c3), (.int c6), (.int c9)] (.int (0 : Int32)) := V11
      show own_Go p e below s _ _ _ (T11.setTop (mkF m 75 #[iv p1, iv p2, iv p3, iv p4, iv p5, rv o_ARTICLE, .unset, rv b2, .unset, .unset, .unset, .unset, .unset] []))
      obtain ⟨T12, h12, X12, e12, E12, A12, D12, -, st12⟩ := newO X11 hx hZ hown (hw _ (List.mem_of_getElem? (i := 4) rfl)) (hw _ (List.mem_of_getElem? (i := 5) rfl)) (hw _ (List.mem_of_getElem? (i := 6) rfl)) e11 (g := (mkF m 75 #[iv p1, iv p2, iv p3, iv p4, iv p5, rv o_ARTICLE, .unset, rv b2, .unset, .unset, .unset, .unset, .unset] [])) rfl (hb hby at_75) (by decide) (by decide)
      obtain ⟨b12, g12⟩ : ∃ z, z = h11.size := ⟨_, rfl⟩
      rw [← g12] at A12 D12 st12
      refine own_go st12 ?_
      have ne_o_ARTICLE_b12 : o_ARTICLE ≠ b12 := Nat.ne_of_lt (Nat.lt_of_lt_of_le (Ex_o_ARTICLE.ext O.2).lt (Nat.le_of_eq g12.symm))
      have ne_o_SECTION_b12 : o_SECTION ≠ b12 := Nat.ne_of_lt (Nat.lt_of_lt_of_le (Ex_o_SECTION.ext O.2).lt (Nat.le_of_eq g12.symm))
      have ne_b2_b12 : b2 ≠ b12 := Nat.ne_of_lt (Nat.lt_of_lt_of_le V_b2.lt (Nat.le_of_eq g12.symm))
      have sz_b12 : h0.size ≤ b12 := Nat.le_trans Kp.1 (Nat.le_of_eq g12.symm)
      have g_b12 : n0 ≤ b12 := Nat.le_trans Z0 sz_b12
      replace O := O.ext E12
      replace Kp := Kp.ext E12
      replace V_b2 := V_b2.ext E12
      replace Ea_b2 := Ea_b2.ext E12
      have Ex_b12 := A12
      have F_coder_b12 : Fld Z h12 b12 "java/lang/String" "coder" "B" (.int (0 : Int32)) := D12 (Or.inr (hw _ (List.mem_of_getElem? (i := 30) rfl))) (ty := .byte) (by decide)
      have F_value_b12 : Fld Z h12 b12 "java/lang/String" "value" "[B" .null := D12 (Or.inr (hw _ (List.mem_of_getElem? (i := 32) rfl))) (ty := (.array .byte)) (by decide)
      show own_Go p e below s _ _ _ (T12.setTop (mkF m 78 #[iv p1, iv p2, iv p3, iv p4, iv p5, rv o_ARTICLE, .unset, rv b2, .unset, .unset, .unset, .unset, .unset] [(.ref b12)]))
      refine own_go (fun zt zk => (XS.dup X12.here hx rfl (hb hby at_78) rfl rfl (XS.aload X12.here hx rfl (hb hby at_79) rfl rfl zk))) ?_
      show own_Go p e below s _ _ _ (T12.setTop (mkF m 81 #[iv p1, iv p2, iv p3, iv p4, iv p5, rv o_ARTICLE, .unset, rv b2, .unset, .unset, .unset, .unset, .unset] [(.ref b2), (.ref b12), (.ref b12)]))
      obtain ⟨_, _, ⟨T13, L13, k13, n13⟩, -, X13, ⟨Lc13, hQ13, l13, y13, z13⟩, st13⟩ := X12.specialBack hx (y := (⟨"java/lang/String", "<init>", "([C)V"⟩ : MethodName)) rfl hown (mvT hZ (hw _ (List.mem_of_getElem? (i := 7) rfl))) (mvT hZ (hw _ (List.mem_of_getElem? (i := 8) rfl))) (mvT hZ (hw _ (List.mem_of_getElem? (i := 9) rfl))) (by decide) (StrChars.Road.backV (W := 1) hZ (own_hnew Z a0 hw) (kI := 4) (hw _ (List.mem_of_getElem? (i := 5) rfl)) (cs := [c3, c6, c9]) (bs := [(c3.toInt8.toInt32), (c6.toInt8.toInt32), (c9.toInt8.toInt32)]) (n := 3) g_b12 (Nat.le_trans Z0 Kp.1) Ex_b12 F_value_b12 F_coder_b12 V_b2 (S_o_COMPACT_STRINGS.ext O.2) nz_o_COMPACT_STRINGS rfl rfl (by decide) (by decide) (own_ac hr_c3 (own_ac hr_c6 (own_ac hr_c9 own_an))) rfl (by decide) (by decide)) (g := (mkF m 81 #[iv p1, iv p2, iv p3, iv p4, iv p5, rv o_ARTICLE, .unset, rv b2, .unset, .unset, .unset, .unset, .unset] [(.ref b2), (.ref b12), (.ref b12)])) rfl (by rw [hml]; rfl) (Steps.refl _) (a := b12) (argsL := [(.ref b2)]) (rest := [(.ref b12)]) (lenOf own_pd___C_V rfl) rfl (by show 2 * 0 + _ ≤ _; exact Nat.le_of_eq rfl) (hb hby at_81) (fun _ _ => ⟨rfl, e12, (by decide : 2 + 1 ≤ _), (by decide : 7 + 3 ≤ _)⟩)
      dsimp only [Pt.U, Pt.locs, Pt.cells, Pt.slots] at X13 l13 y13 z13 st13 hQ13
      subst l13 y13 z13
      obtain ⟨rfl, Nq13, K13, -, Fc13, t13, kb13, -, sz13, -, Fv13, Vt13⟩ := hQ13
      have sz_t13 : h0.size ≤ t13 := Nat.le_trans Kp.1 sz13
      have g_t13 : n0 ≤ t13 := Nat.le_trans Z0 sz_t13
      have ne_b2_t13 : b2 ≠ t13 := Nat.ne_of_lt (Nat.lt_of_lt_of_le V_b2.lt sz13)
      have ne_b12_t13 : b12 ≠ t13 := Nat.ne_of_lt (Nat.lt_of_lt_of_le Ex_b12.lt sz13)
      have N13 := Fr.app N11 Nq13
      refine own_go (fun zt zk => st13.trans zk) ?_
      replace O := O.keep K13 (allS g_b12 all0)
      replace Kp := Kp.trans K13 (allS (Or.inr sz_b12) all0)
      replace V_b2 := V_b2.keep K13 (ninS ne_b2_b12 nin0)
      replace Ea_b2 := Ea_b2.keep K13
      replace Ex_b12 := Ex_b12.keep K13
      show own_Go p e below s _ _ _ (T13.setTop (mkF m 84 #[iv p1, iv p2, iv p3, iv p4, iv p5, rv o_ARTICLE, .unset, rv b2, .unset, .unset, .unset, .unset, .unset] [(.ref b12)]))
      refine own_go (fun zt zk => (XS.astore X13.here hx rfl (hb hby at_84) rfl rfl (l' := #[iv p1, iv p2, iv p3, iv p4, iv p5, rv o_ARTICLE, rv b12, rv b2, .unset, .unset, .unset, .unset, .unset]) rfl (XS.iconst X13.here hx rfl (hb hby at_86) zk))) ?_
      show own_Go p e below s _ _ _ (T13.setTop (mkF m 87 #[iv p1, iv p2, iv p3, iv p4, iv p5, rv o_ARTICLE, rv b12, rv b2, .unset, .unset, .unset, .unset, .unset] [(.int (3 : Int32))]))
      obtain ⟨T14, h14, k14, X14, e14, E14, A14, Ea14, st14⟩ := newPE X13 hx hZ (hw _ (List.mem_of_getElem? (i := 3) rfl)) rfl (g := (mkF m 87 #[iv p1, iv p2, iv p3, iv p4, iv p5, rv o_ARTICLE, rv b12, rv b2, .unset, .unset, .unset, .unset, .unset] [(.int (3 : Int32))])) rfl (hb hby at_87) rfl (by decide) (cap := 3) (by decide) (by decide) (by decide) (by decide) (ad := "[C") (by decide)
      obtain ⟨b14, g14⟩ : ∃ z, z = T13.heap.size := ⟨_, rfl⟩
      rw [← g14] at A14 Ea14 st14
      refine own_go st14 ?_
      have ne_o_ARTICLE_b14 : o_ARTICLE ≠ b14 := Nat.ne_of_lt (Nat.lt_of_lt_of_le (Ex_o_ARTICLE.ext O.2).lt (Nat.le_of_eq g14.symm))
      have ne_o_SECTION_b14 : o_SECTION ≠ b14 := Nat.ne_of_lt (Nat.lt_of_lt_of_le (Ex_o_SECTION.ext O.2).lt (Nat.le_of_eq g14.symm))
      have ne_b2_b14 : b2 ≠ b14 := Nat.ne_of_lt (Nat.lt_of_lt_of_le V_b2.lt (Nat.le_of_eq g14.symm))
      have ne_b12_b14 : b12 ≠ b14 := Nat.ne_of_lt (Nat.lt_of_lt_of_le Ex_b12.lt (Nat.le_of_eq g14.symm))
      have ne_t13_b14 : t13 ≠ b14 := Nat.ne_of_lt (Nat.lt_of_lt_of_le Vt13.lt (Nat.le_of_eq g14.symm))
      have sz_b14 : h0.size ≤ b14 := Nat.le_trans Kp.1 (Nat.le_of_eq g14.symm)
      have g_b14 : n0 ≤ b14 := Nat.le_trans Z0 sz_b14
      replace O := O.ext E14
      replace Kp := Kp.ext E14
      replace V_b2 := V_b2.ext E14
      replace Ea_b2 := Ea_b2.ext E14
      replace Ex_b12 := Ex_b12.ext E14
      replace Fc13 := Fc13.ext E14
      replace Fv13 := Fv13.ext E14
      replace Vt13 := Vt13.ext E14
      have V_b14 : Arv Z h14 b14 k14 .char (3 : Int32) [(.int (0 : Int32)), (.int (0 : Int32)), (.int (0 : Int32))] (.int (0 : Int32)) := (Arv.new A14 (by decide)).pad (pad_rep [] (.int (0 : Int32)) 3)
      have Ea_b14 := Ea14
      show own_Go p e below s _ _ _ (T14.setTop (mkF m 89 #[iv p1, iv p2, iv p3, iv p4, iv p5, rv o_ARTICLE, rv b12, rv b2, .unset, .unset, .unset, .unset, .unset] [(.ref b14)]))
      refine own_go (fun zt zk => (XS.astore X14.here hx rfl (hb hby at_89) rfl rfl (l' := #[iv p1, iv p2, iv p3, iv p4, iv p5, rv o_ARTICLE, rv b12, rv b14, .unset, .unset, .unset, .unset, .unset]) rfl (XS.aload X14.here hx rfl (hb hby at_91) rfl rfl (XS.iconst X14.here hx rfl (hb hby at_93) (XS.iloadN X14.here hx rfl (hb hby at_94) rfl (XS.sipush X14.here hx rfl (hb hby at_95) (XS.iand X14.here hx rfl (hb hby at_98) rfl (XS.i2c X14.here hx rfl (hb hby at_99) rfl zk)))))))) ?_
      show own_Go p e below s _ _ _ (T14.setTop (mkF m 100 #[iv p1, iv p2, iv p3, iv p4, iv p5, rv o_ARTICLE, rv b12, rv b14, .unset, .unset, .unset, .unset, .unset] [(.int ((p4 &&& (255 : Int32)).toUInt32.toUInt16.toUInt32.toInt32)), (.int (0 : Int32)), (.ref b14)]))
      rw [i2c_mask]
      generalize hv_c15 : (p4 &&& (255 : Int32)) = c15
      have hr_c15 := own_r255 hv_c15
      show own_Go p e below s _ _ _ (T14.setTop (mkF m 100 #[iv p1, iv p2, iv p3, iv p4, iv p5, rv o_ARTICLE, rv b12, rv b14, .unset, .unset, .unset, .unset, .unset] [(.int c15), (.int (0 : Int32)), (.ref b14)]))
      obtain ⟨cl16, Ar16, q16, Sz16, Nz16, Ha16, Ga16⟩ := id V_b14
      have hin16 : ¬ ((0 : Int32) < 0 ∨ cl16.slots.size ≤ ((0 : Int32)).toNatClampNeg) := inb_of Sz16 ⟨by decide, by decide⟩
      obtain ⟨T17, h17, X17, e17, W17, st17⟩ := stC X14 hx hZ e14 Ar16 (j := (0 : Int32)) hin16 (g := (mkF m 100 #[iv p1, iv p2, iv p3, iv p4, iv p5, rv o_ARTICLE, rv b12, rv b14, .unset, .unset, .unset, .unset, .unset] [(.int c15), (.int (0 : Int32)), (.ref b14)])) rfl rfl (hb hby at_100)
      refine own_go st17 ?_
      rw [show nar .char c15 = c15 from own_narc hr_c15] at W17
      have V17 := Arv.set Ar16 q16 Sz16 Nz16 Ha16 Ga16 (own_fitc hr_c15) W17 0 rfl (Nat.le_of_ble_eq_true rfl)
      have N17 := Fr.snoc X17 N13 g_b14
      replace O := O.wr W17 g_b14
      replace Kp := Kp.wr W17 (Or.inr sz_b14)
      replace V_b2 := V_b2.other W17 ne_b2_b14
      replace Ea_b2 := Ea_b2.wr W17
      replace Ex_b12 := Ex_b12.wr W17
      replace Fc13 := Fc13.other W17 (Or.inl ne_b12_b14)
      replace Fv13 := Fv13.other W17 (Or.inl ne_b12_b14)
      replace Vt13 := Vt13.other W17 ne_t13_b14
      replace Ea_b14 := Ea_b14.wr W17
      replace V_b14 : Arv Z h17 b14 k14 .char (3 : Int32) [(.int c15), (.int (0 : Int32)), (.int (0 : Int32))] (.int (0 : Int32)) := V17
      show own_Go p e below s _ _ _ (T17.setTop (mkF m 101 #[iv p1, iv p2, iv p3, iv p4, iv p5, rv o_ARTICLE, rv b12, rv b14, .unset, .unset, .unset, .unset, .unset] []))
      refine own_go (fun zt zk => (XS.aload X17.here hx rfl (hb hby at_101) rfl rfl (XS.iconst X17.here hx rfl (hb hby at_103) (XS.iloadN X17.here hx rfl (hb hby at_104) rfl (XS.bipush X17.here hx rfl (hb hby at_105) (XS.iushr X17.here hx rfl (hb hby at_107) rfl (XS.sipush X17.here hx rfl (hb hby at_108) (XS.iand X17.here hx rfl (hb hby at_111) rfl (XS.i2c X17.here hx rfl (hb hby at_112) rfl zk))))))))) ?_
      show own_Go p e below s _ _ _ (T17.setTop (mkF m 113 #[iv p1, iv p2, iv p3, iv p4, iv p5, rv o_ARTICLE, rv b12, rv b14, .unset, .unset, .unset, .unset, .unset] [(.int ((((p4.toUInt32 >>> ((8 : Int32) &&& 31).toUInt32).toInt32) &&& (255 : Int32)).toUInt32.toUInt16.toUInt32.toInt32)), (.int (1 : Int32)), (.ref b14)]))
      rw [i2c_mask]
      generalize hv_c18 : (((p4.toUInt32 >>> ((8 : Int32) &&& 31).toUInt32).toInt32) &&& (255 : Int32)) = c18
      have hr_c18 := own_r255 hv_c18
      show own_Go p e below s _ _ _ (T17.setTop (mkF m 113 #[iv p1, iv p2, iv p3, iv p4, iv p5, rv o_ARTICLE, rv b12, rv b14, .unset, .unset, .unset, .unset, .unset] [(.int c18), (.int (1 : Int32)), (.ref b14)]))
      obtain ⟨cl19, Ar19, q19, Sz19, Nz19, Ha19, Ga19⟩ := id V_b14
      have hin19 : ¬ ((1 : Int32) < 0 ∨ cl19.slots.size ≤ ((1 : Int32)).toNatClampNeg) := inb_of Sz19 ⟨by decide, by decide⟩
      obtain ⟨T20, h20, X20, e20, W20, st20⟩ := stC X17 hx hZ e17 Ar19 (j := (1 : Int32)) hin19 (g := (mkF m 113 #[iv p1, iv p2, iv p3, iv p4, iv p5, rv o_ARTICLE, rv b12, rv b14, .unset, .unset, .unset, .unset, .unset] [(.int c18), (.int (1 : Int32)), (.ref b14)])) rfl rfl (hb hby at_113)
      refine own_go st20 ?_
      rw [show nar .char c18 = c18 from own_narc hr_c18] at W20
      have V20 := Arv.set Ar19 q19 Sz19 Nz19 Ha19 Ga19 (own_fitc hr_c18) W20 1 rfl (Nat.le_of_ble_eq_true rfl)
      have N20 := Fr.snoc X20 N17 g_b14
      replace O := O.wr W20 g_b14
      replace Kp := Kp.wr W20 (Or.inr sz_b14)
      replace V_b2 := V_b2.other W20 ne_b2_b14
      replace Ea_b2 := Ea_b2.wr W20
      replace Ex_b12 := Ex_b12.wr W20
      replace Fc13 := Fc13.other W20 (Or.inl ne_b12_b14)
      replace Fv13 := Fv13.other W20 (Or.inl ne_b12_b14)
      replace Vt13 := Vt13.other W20 ne_t13_b14
      replace Ea_b14 := Ea_b14.wr W20
      replace V_b14 : Arv Z h20 b14 k14 .char (3 : Int32) [(.int c15), (.int c18), (.int (0 : Int32))] (.int (0 : Int32)) := V20
      show own_Go p e below s _ _ _ (T20.setTop (mkF m 114 #[iv p1, iv p2, iv p3, iv p4, iv p5, rv o_ARTICLE, rv b12, rv b14, .unset, .unset, .unset, .unset, .unset] []))
      refine own_go (fun zt zk => (XS.aload X20.here hx rfl (hb hby at_114) rfl rfl (XS.iconst X20.here hx rfl (hb hby at_116) (XS.iload X20.here hx rfl (hb hby at_117) rfl (XS.sipush X20.here hx rfl (hb hby at_119) (XS.iand X20.here hx rfl (hb hby at_122) rfl (XS.i2c X20.here hx rfl (hb hby at_123) rfl zk))))))) ?_
      show own_Go p e below s _ _ _ (T20.setTop (mkF m 124 #[iv p1, iv p2, iv p3, iv p4, iv p5, rv o_ARTICLE, rv b12, rv b14, .unset, .unset, .unset, .unset, .unset] [(.int ((p5 &&& (255 : Int32)).toUInt32.toUInt16.toUInt32.toInt32)), (.int (2 : Int32)), (.ref b14)]))
      rw [i2c_mask]
      generalize hv_c21 : (p5 &&& (255 : Int32)) = c21
      have hr_c21 := own_r255 hv_c21
      show own_Go p e below s _ _ _ (T20.setTop (mkF m 124 #[iv p1, iv p2, iv p3, iv p4, iv p5, rv o_ARTICLE, rv b12, rv b14, .unset, .unset, .unset, .unset, .unset] [(.int c21), (.int (2 : Int32)), (.ref b14)]))
      obtain ⟨cl22, Ar22, q22, Sz22, Nz22, Ha22, Ga22⟩ := id V_b14
      have hin22 : ¬ ((2 : Int32) < 0 ∨ cl22.slots.size ≤ ((2 : Int32)).toNatClampNeg) := inb_of Sz22 ⟨by decide, by decide⟩
      obtain ⟨T23, h23, X23, e23, W23, st23⟩ := stC X20 hx hZ e20 Ar22 (j := (2 : Int32)) hin22 (g := (mkF m 124 #[iv p1, iv p2, iv p3, iv p4, iv p5, rv o_ARTICLE, rv b12, rv b14, .unset, .unset, .unset, .unset, .unset] [(.int c21), (.int (2 : Int32)), (.ref b14)])) rfl rfl (hb hby at_124)
      refine own_go st23 ?_
      rw [show nar .char c21 = c21 from own_narc hr_c21] at W23
      have V23 := Arv.set Ar22 q22 Sz22 Nz22 Ha22 Ga22 (own_fitc hr_c21) W23 2 rfl (Nat.le_of_ble_eq_true rfl)
      have N23 := Fr.snoc X23 N20 g_b14
      replace O := O.wr W23 g_b14
      replace Kp := Kp.wr W23 (Or.inr sz_b14)
      replace V_b2 := V_b2.other W23 ne_b2_b14
      replace Ea_b2 := Ea_b2.wr W23
      replace Ex_b12 := Ex_b12.wr W23
      replace Fc13 := Fc13.other W23 (Or.inl ne_b12_b14)
      replace Fv13 := Fv13.other W23 (Or.inl ne_b12_b14)
      replace Vt13 := Vt13.other W23 ne_t13_b14
      replace Ea_b14 := Ea_b14.wr W23
      replace V_b14 : Arv Z h23 b14 k14 .char (3 : Int32) [(.int c15), (.int c18), (.int c21)] (.int (0 : Int32)) := V23
      show own_Go p e below s _ _ _ (T23.setTop (mkF m 125 #[iv p1, iv p2, iv p3, iv p4, iv p5, rv o_ARTICLE, rv b12, rv b14, .unset, .unset, .unset, .unset, .unset] []))
      obtain ⟨T24, h24, X24, e24, E24, A24, D24, -, st24⟩ := newO X23 hx hZ hown (hw _ (List.mem_of_getElem? (i := 4) rfl)) (hw _ (List.mem_of_getElem? (i := 5) rfl)) (hw _ (List.mem_of_getElem? (i := 6) rfl)) e23 (g := (mkF m 125 #[iv p1, iv p2, iv p3, iv p4, iv p5, rv o_ARTICLE, rv b12, rv b14, .unset, .unset, .unset, .unset, .unset] [])) rfl (hb hby at_125) (by decide) (by decide)
      obtain ⟨b24, g24⟩ : ∃ z, z = h23.size := ⟨_, rfl⟩
      rw [← g24] at A24 D24 st24
      refine own_go st24 ?_
      have ne_o_ARTICLE_b24 : o_ARTICLE ≠ b24 := Nat.ne_of_lt (Nat.lt_of_lt_of_le (Ex_o_ARTICLE.ext O.2).lt (Nat.le_of_eq g24.symm))
      have ne_o_SECTION_b24 : o_SECTION ≠ b24 := Nat.ne_of_lt (Nat.lt_of_lt_of_le (Ex_o_SECTION.ext O.2).lt (Nat.le_of_eq g24.symm))
      have ne_b2_b24 : b2 ≠ b24 := Nat.ne_of_lt (Nat.lt_of_lt_of_le V_b2.lt (Nat.le_of_eq g24.symm))
      have ne_b12_b24 : b12 ≠ b24 := Nat.ne_of_lt (Nat.lt_of_lt_of_le Ex_b12.lt (Nat.le_of_eq g24.symm))
      have ne_t13_b24 : t13 ≠ b24 := Nat.ne_of_lt (Nat.lt_of_lt_of_le Vt13.lt (Nat.le_of_eq g24.symm))
      have ne_b14_b24 : b14 ≠ b24 := Nat.ne_of_lt (Nat.lt_of_lt_of_le V_b14.lt (Nat.le_of_eq g24.symm))
      have sz_b24 : h0.size ≤ b24 := Nat.le_trans Kp.1 (Nat.le_of_eq g24.symm)
      have g_b24 : n0 ≤ b24 := Nat.le_trans Z0 sz_b24
      replace O := O.ext E24
      replace Kp := Kp.ext E24
      replace V_b2 := V_b2.ext E24
      replace Ea_b2 := Ea_b2.ext E24
      replace Ex_b12 := Ex_b12.ext E24
      replace Fc13 := Fc13.ext E24
      replace Fv13 := Fv13.ext E24
      replace Vt13 := Vt13.ext E24
      replace V_b14 := V_b14.ext E24
      replace Ea_b14 := Ea_b14.ext E24
      have Ex_b24 := A24
      have F_coder_b24 : Fld Z h24 b24 "java/lang/String" "coder" "B" (.int (0 : Int32)) := D24 (Or.inr (hw _ (List.mem_of_getElem? (i := 30) rfl))) (ty := .byte) (by decide)
      have F_value_b24 : Fld Z h24 b24 "java/lang/String" "value" "[B" .null := D24 (Or.inr (hw _ (List.mem_of_getElem? (i := 32) rfl))) (ty := (.array .byte)) (by decide)
      show own_Go p e below s _ _ _ (T24.setTop (mkF m 128 #[iv p1, iv p2, iv p3, iv p4, iv p5, rv o_ARTICLE, rv b12, rv b14, .unset, .unset, .unset, .unset, .unset] [(.ref b24)]))
      refine own_go (fun zt zk => (XS.dup X24.here hx rfl (hb hby at_128) rfl rfl (XS.aload X24.here hx rfl (hb hby at_129) rfl rfl zk))) ?_
      show own_Go p e below s _ _ _ (T24.setTop (mkF m 131 #[iv p1, iv p2, iv p3, iv p4, iv p5, rv o_ARTICLE, rv b12, rv b14, .unset, .unset, .unset, .unset, .unset] [(.ref b14), (.ref b24), (.ref b24)]))
      obtain ⟨_, _, ⟨T25, L25, k25, n25⟩, -, X25, ⟨Lc25, hQ25, l25, y25, z25⟩, st25⟩ := X24.specialBack hx (y := (⟨"java/lang/String", "<init>", "([C)V"⟩ : MethodName)) rfl hown (mvT hZ (hw _ (List.mem_of_getElem? (i := 7) rfl))) (mvT hZ (hw _ (List.mem_of_getElem? (i := 8) rfl))) (mvT hZ (hw _ (List.mem_of_getElem? (i := 9) rfl))) (by decide) (StrChars.Road.backV (W := 1) hZ (own_hnew Z a0 hw) (kI := 4) (hw _ (List.mem_of_getElem? (i := 5) rfl)) (cs := [c15, c18, c21]) (bs := [(c15.toInt8.toInt32), (c18.toInt8.toInt32), (c21.toInt8.toInt32)]) (n := 3) g_b24 (Nat.le_trans Z0 Kp.1) Ex_b24 F_value_b24 F_coder_b24 V_b14 (S_o_COMPACT_STRINGS.ext O.2) nz_o_COMPACT_STRINGS rfl rfl (by decide) (by decide) (own_ac hr_c15 (own_ac hr_c18 (own_ac hr_c21 own_an))) rfl (by decide) (by decide)) (g := (mkF m 131 #[iv p1, iv p2, iv p3, iv p4, iv p5, rv o_ARTICLE, rv b12, rv b14, .unset, .unset, .unset, .unset, .unset] [(.ref b14), (.ref b24), (.ref b24)])) rfl (by rw [hml]; rfl) (Steps.refl _) (a := b24) (argsL := [(.ref b14)]) (rest := [(.ref b24)]) (lenOf own_pd___C_V rfl) rfl (by show 2 * 0 + _ ≤ _; exact Nat.le_of_eq rfl) (hb hby at_131) (fun _ _ => ⟨rfl, e24, (by decide : 5 + 1 ≤ _), (by decide : 17 + 3 ≤ _)⟩)
      dsimp only [Pt.U, Pt.locs, Pt.cells, Pt.slots] at X25 l25 y25 z25 st25 hQ25
      subst l25 y25 z25
      obtain ⟨rfl, Nq25, K25, -, Fc25, t25, kb25, -, sz25, -, Fv25, Vt25⟩ := hQ25
      have sz_t25 : h0.size ≤ t25 := Nat.le_trans Kp.1 sz25
      have g_t25 : n0 ≤ t25 := Nat.le_trans Z0 sz_t25
      have ne_b2_t25 : b2 ≠ t25 := Nat.ne_of_lt (Nat.lt_of_lt_of_le V_b2.lt sz25)
      have ne_b12_t25 : b12 ≠ t25 := Nat.ne_of_lt (Nat.lt_of_lt_of_le Ex_b12.lt sz25)
      have ne_t13_t25 : t13 ≠ t25 := Nat.ne_of_lt (Nat.lt_of_lt_of_le Vt13.lt sz25)
      have ne_b14_t25 : b14 ≠ t25 := Nat.ne_of_lt (Nat.lt_of_lt_of_le V_b14.lt sz25)
      have ne_b24_t25 : b24 ≠ t25 := Nat.ne_of_lt (Nat.lt_of_lt_of_le Ex_b24.lt sz25)
      have N25 := Fr.app N23 Nq25
      refine own_go (fun zt zk => st25.trans zk) ?_
      replace O := O.keep K25 (allS g_b24 all0)
      replace Kp := Kp.trans K25 (allS (Or.inr sz_b24) all0)
      replace V_b2 := V_b2.keep K25 (ninS ne_b2_b24 nin0)
      replace Ea_b2 := Ea_b2.keep K25
      replace Ex_b12 := Ex_b12.keep K25
      replace Fc13 := Fc13.keep K25 (ninS ne_b12_b24 nin0)
      replace Fv13 := Fv13.keep K25 (ninS ne_b12_b24 nin0)
      replace Vt13 := Vt13.keep K25 (ninS ne_t13_b24 nin0)
      replace V_b14 := V_b14.keep K25 (ninS ne_b14_b24 nin0)
      replace Ea_b14 := Ea_b14.keep K25
      replace Ex_b24 := Ex_b24.keep K25
      show own_Go p e below s _ _ _ (T25.setTop (mkF m 134 #[iv p1, iv p2, iv p3, iv p4, iv p5, rv o_ARTICLE, rv b12, rv b14, .unset, .unset, .unset, .unset, .unset] [(.ref b24)]))
      refine own_go (fun zt zk => (XS.astore X25.here hx rfl (hb hby at_134) rfl rfl (l' := #[iv p1, iv p2, iv p3, iv p4, iv p5, rv o_ARTICLE, rv b12, rv b14, rv b24, .unset, .unset, .unset, .unset]) rfl zk)) ?_
      show own_Go p e below s _ _ _ (T25.setTop (mkF m 136 #[iv p1, iv p2, iv p3, iv p4, iv p5, rv o_ARTICLE, rv b12, rv b14, rv b24, .unset, .unset, .unset, .unset] []))
      obtain ⟨T26, h26, X26, e26, E26, A26, D26, -, st26⟩ := newO X25 hx hZ hown (hw _ (List.mem_of_getElem? (i := 33) rfl)) (hw _ (List.mem_of_getElem? (i := 34) rfl)) (hw _ (List.mem_of_getElem? (i := 35) rfl)) rfl (g := (mkF m 136 #[iv p1, iv p2, iv p3, iv p4, iv p5, rv o_ARTICLE, rv b12, rv b14, rv b24, .unset, .unset, .unset, .unset] [])) rfl (hb hby at_136) (by decide) (by decide)
      obtain ⟨b26, g26⟩ : ∃ z, z = T25.heap.size := ⟨_, rfl⟩
      rw [← g26] at A26 D26 st26
      refine own_go st26 ?_
      have ne_o_ARTICLE_b26 : o_ARTICLE ≠ b26 := Nat.ne_of_lt (Nat.lt_of_lt_of_le (Ex_o_ARTICLE.ext O.2).lt (Nat.le_of_eq g26.symm))
      have ne_o_SECTION_b26 : o_SECTION ≠ b26 := Nat.ne_of_lt (Nat.lt_of_lt_of_le (Ex_o_SECTION.ext O.2).lt (Nat.le_of_eq g26.symm))
      have ne_b2_b26 : b2 ≠ b26 := Nat.ne_of_lt (Nat.lt_of_lt_of_le V_b2.lt (Nat.le_of_eq g26.symm))
      have ne_b12_b26 : b12 ≠ b26 := Nat.ne_of_lt (Nat.lt_of_lt_of_le Ex_b12.lt (Nat.le_of_eq g26.symm))
      have ne_t13_b26 : t13 ≠ b26 := Nat.ne_of_lt (Nat.lt_of_lt_of_le Vt13.lt (Nat.le_of_eq g26.symm))
      have ne_b14_b26 : b14 ≠ b26 := Nat.ne_of_lt (Nat.lt_of_lt_of_le V_b14.lt (Nat.le_of_eq g26.symm))
      have ne_b24_b26 : b24 ≠ b26 := Nat.ne_of_lt (Nat.lt_of_lt_of_le Ex_b24.lt (Nat.le_of_eq g26.symm))
      have ne_t25_b26 : t25 ≠ b26 := Nat.ne_of_lt (Nat.lt_of_lt_of_le Vt25.lt (Nat.le_of_eq g26.symm))
      have sz_b26 : h0.size ≤ b26 := Nat.le_trans Kp.1 (Nat.le_of_eq g26.symm)
      have g_b26 : n0 ≤ b26 := Nat.le_trans Z0 sz_b26
      replace O := O.ext E26
      replace Kp := Kp.ext E26
      replace V_b2 := V_b2.ext E26
      replace Ea_b2 := Ea_b2.ext E26
      replace Ex_b12 := Ex_b12.ext E26
      replace Fc13 := Fc13.ext E26
      replace Fv13 := Fv13.ext E26
      replace Vt13 := Vt13.ext E26
      replace V_b14 := V_b14.ext E26
      replace Ea_b14 := Ea_b14.ext E26
      replace Ex_b24 := Ex_b24.ext E26
      replace Fc25 := Fc25.ext E26
      replace Fv25 := Fv25.ext E26
      replace Vt25 := Vt25.ext E26
      have Ex_b26 := A26
      have F_value_b26 : Fld Z h26 b26 "com/example/tranche/tranche/model/Stated" "value" "Ljava/lang/Object;" .null := D26 (Or.inr (hw _ (List.mem_of_getElem? (i := 46) rfl))) (ty := (.object "java/lang/Object")) (by decide)
      have F_span_b26 : Fld Z h26 b26 "com/example/tranche/tranche/model/Stated" "span" "Lcom/example/tranche/tranche/model/Span;" .null := D26 (Or.inr (hw _ (List.mem_of_getElem? (i := 48) rfl))) (ty := (.object "com/example/tranche/tranche/model/Span")) (by decide)
      show own_Go p e below s _ _ _ (T26.setTop (mkF m 139 #[iv p1, iv p2, iv p3, iv p4, iv p5, rv o_ARTICLE, rv b12, rv b14, rv b24, .unset, .unset, .unset, .unset] [(.ref b26)]))
      refine own_go (fun zt zk => (XS.dup X26.here hx rfl (hb hby at_139) rfl rfl (XS.aload X26.here hx rfl (hb hby at_140) rfl rfl (XS.aconstNull X26.here hx rfl (hb hby at_142) zk)))) ?_
      show own_Go p e below s _ _ _ (T26.setTop (mkF m 143 #[iv p1, iv p2, iv p3, iv p4, iv p5, rv o_ARTICLE, rv b12, rv b14, rv b24, .unset, .unset, .unset, .unset] [.null, (.ref b12), (.ref b26), (.ref b26)]))
      obtain ⟨_, _, ⟨T27, L27, k27, n27⟩, -, X27, ⟨Lc27, hQ27, l27, y27, z27⟩, st27⟩ := X26.specialBack hx (y := (⟨"com/example/tranche/tranche/model/Stated", "<init>", "(Ljava/lang/Object;Lcom/example/tranche/tranche/model/Span;)V"⟩ : MethodName)) rfl hown (mvT hZ (hw _ (List.mem_of_getElem? (i := 36) rfl))) (mvT hZ (hw _ (List.mem_of_getElem? (i := 37) rfl))) (mvT hZ (hw _ (List.mem_of_getElem? (i := 38) rfl))) (by decide) (backOf (W := 1) (own_rstated l Z a0 hw [] b26 b12  h26 n0 (Nat.le_trans Z0 Kp.1) Ex_b26 F_value_b26 F_span_b26 g_b26 ) hZ (hw _ (List.mem_of_getElem? (i := 38) rfl)) (hw _ (List.mem_of_getElem? (i := 35) rfl)) (by decide) (by decide)) (g := (mkF m 143 #[iv p1, iv p2, iv p3, iv p4, iv p5, rv o_ARTICLE, rv b12, rv b14, rv b24, .unset, .unset, .unset, .unset] [.null, (.ref b12), (.ref b26), (.ref b26)])) rfl (by rw [hml]; rfl) (Steps.refl _) (a := b26) (argsL := [(.ref b12), .null]) (rest := [(.ref b26)]) (lenOf own_pd__Ljava_lang_Object_Lcom_example_tranche_tranche_model_Span__V rfl) rfl (by show 2 * 0 + _ ≤ _; exact Nat.le_of_eq rfl) (hb hby at_143) (fun _ _ => ⟨rfl, e26, (by decide : 7 + 0 ≤ _), (by decide : 22 + 0 ≤ _)⟩)
      dsimp only [Pt.U, Pt.locs, Pt.cells, Pt.slots] at X27 l27 y27 z27 st27 hQ27
      subst l27 y27 z27
      obtain ⟨rfl, Nq27, K27, -, F_value_b26, F_span_b26⟩ := hQ27
      have N27 := Fr.app N25 Nq27
      refine own_go (fun zt zk => st27.trans zk) ?_
      replace O := O.keep K27 (allS g_b26 all0)
      replace Kp := Kp.trans K27 (allS (Or.inr sz_b26) all0)
      replace V_b2 := V_b2.keep K27 (ninS ne_b2_b26 nin0)
      replace Ea_b2 := Ea_b2.keep K27
      replace Ex_b12 := Ex_b12.keep K27
      replace Fc13 := Fc13.keep K27 (ninS ne_b12_b26 nin0)
      replace Fv13 := Fv13.keep K27 (ninS ne_b12_b26 nin0)
      replace Vt13 := Vt13.keep K27 (ninS ne_t13_b26 nin0)
      replace V_b14 := V_b14.keep K27 (ninS ne_b14_b26 nin0)
      replace Ea_b14 := Ea_b14.keep K27
      replace Ex_b24 := Ex_b24.keep K27
      replace Fc25 := Fc25.keep K27 (ninS ne_b24_b26 nin0)
      replace Fv25 := Fv25.keep K27 (ninS ne_b24_b26 nin0)
      replace Vt25 := Vt25.keep K27 (ninS ne_t25_b26 nin0)
      replace Ex_b26 := Ex_b26.keep K27
      show own_Go p e below s _ _ _ (T27.setTop (mkF m 146 #[iv p1, iv p2, iv p3, iv p4, iv p5, rv o_ARTICLE, rv b12, rv b14, rv b24, .unset, .unset, .unset, .unset] [(.ref b26)]))
      refine own_go (fun zt zk => (XS.astore X27.here hx rfl (hb hby at_146) rfl rfl (l' := #[iv p1, iv p2, iv p3, iv p4, iv p5, rv o_ARTICLE, rv b12, rv b14, rv b24, rv b26, .unset, .unset, .unset]) rfl zk)) ?_
      show own_Go p e below s _ _ _ (T27.setTop (mkF m 148 #[iv p1, iv p2, iv p3, iv p4, iv p5, rv o_ARTICLE, rv b12, rv b14, rv b24, rv b26, .unset, .unset, .unset] []))
      obtain ⟨T28, h28, X28, e28, E28, A28, D28, -, st28⟩ := newO X27 hx hZ hown (hw _ (List.mem_of_getElem? (i := 33) rfl)) (hw _ (List.mem_of_getElem? (i := 34) rfl)) (hw _ (List.mem_of_getElem? (i := 35) rfl)) rfl (g := (mkF m 148 #[iv p1, iv p2, iv p3, iv p4, iv p5, rv o_ARTICLE, rv b12, rv b14, rv b24, rv b26, .unset, .unset, .unset] [])) rfl (hb hby at_148) (by decide) (by decide)
      obtain ⟨b28, g28⟩ : ∃ z, z = T27.heap.size := ⟨_, rfl⟩
      rw [← g28] at A28 D28 st28
      refine own_go st28 ?_
      have ne_o_ARTICLE_b28 : o_ARTICLE ≠ b28 := Nat.ne_of_lt (Nat.lt_of_lt_of_le (Ex_o_ARTICLE.ext O.2).lt (Nat.le_of_eq g28.symm))
      have ne_o_SECTION_b28 : o_SECTION ≠ b28 := Nat.ne_of_lt (Nat.lt_of_lt_of_le (Ex_o_SECTION.ext O.2).lt (Nat.le_of_eq g28.symm))
      have ne_b2_b28 : b2 ≠ b28 := Nat.ne_of_lt (Nat.lt_of_lt_of_le V_b2.lt (Nat.le_of_eq g28.symm))
      have ne_b12_b28 : b12 ≠ b28 := Nat.ne_of_lt (Nat.lt_of_lt_of_le Ex_b12.lt (Nat.le_of_eq g28.symm))
      have ne_t13_b28 : t13 ≠ b28 := Nat.ne_of_lt (Nat.lt_of_lt_of_le Vt13.lt (Nat.le_of_eq g28.symm))
      have ne_b14_b28 : b14 ≠ b28 := Nat.ne_of_lt (Nat.lt_of_lt_of_le V_b14.lt (Nat.le_of_eq g28.symm))
      have ne_b24_b28 : b24 ≠ b28 := Nat.ne_of_lt (Nat.lt_of_lt_of_le Ex_b24.lt (Nat.le_of_eq g28.symm))
      have ne_t25_b28 : t25 ≠ b28 := Nat.ne_of_lt (Nat.lt_of_lt_of_le Vt25.lt (Nat.le_of_eq g28.symm))
      have ne_b26_b28 : b26 ≠ b28 := Nat.ne_of_lt (Nat.lt_of_lt_of_le Ex_b26.lt (Nat.le_of_eq g28.symm))
      have sz_b28 : h0.size ≤ b28 := Nat.le_trans Kp.1 (Nat.le_of_eq g28.symm)
      have g_b28 : n0 ≤ b28 := Nat.le_trans Z0 sz_b28
      replace O := O.ext E28
      replace Kp := Kp.ext E28
      replace V_b2 := V_b2.ext E28
      replace Ea_b2 := Ea_b2.ext E28
      replace Ex_b12 := Ex_b12.ext E28
      replace Fc13 := Fc13.ext E28
      replace Fv13 := Fv13.ext E28
      replace Vt13 := Vt13.ext E28
      replace V_b14 := V_b14.ext E28
      replace Ea_b14 := Ea_b14.ext E28
      replace Ex_b24 := Ex_b24.ext E28
      replace Fc25 := Fc25.ext E28
      replace Fv25 := Fv25.ext E28
      replace Vt25 := Vt25.ext E28
      replace Ex_b26 := Ex_b26.ext E28
      replace F_value_b26 := F_value_b26.ext E28
      replace F_span_b26 := F_span_b26.ext E28
      have Ex_b28 := A28
      have F_value_b28 : Fld Z h28 b28 "com/example/tranche/tranche/model/Stated" "value" "Ljava/lang/Object;" .null := D28 (Or.inr (hw _ (List.mem_of_getElem? (i := 46) rfl))) (ty := (.object "java/lang/Object")) (by decide)
      have F_span_b28 : Fld Z h28 b28 "com/example/tranche/tranche/model/Stated" "span" "Lcom/example/tranche/tranche/model/Span;" .null := D28 (Or.inr (hw _ (List.mem_of_getElem? (i := 48) rfl))) (ty := (.object "com/example/tranche/tranche/model/Span")) (by decide)
      show own_Go p e below s _ _ _ (T28.setTop (mkF m 151 #[iv p1, iv p2, iv p3, iv p4, iv p5, rv o_ARTICLE, rv b12, rv b14, rv b24, rv b26, .unset, .unset, .unset] [(.ref b28)]))
      refine own_go (fun zt zk => (XS.dup X28.here hx rfl (hb hby at_151) rfl rfl (XS.aload X28.here hx rfl (hb hby at_152) rfl rfl (XS.aconstNull X28.here hx rfl (hb hby at_154) zk)))) ?_
      show own_Go p e below s _ _ _ (T28.setTop (mkF m 155 #[iv p1, iv p2, iv p3, iv p4, iv p5, rv o_ARTICLE, rv b12, rv b14, rv b24, rv b26, .unset, .unset, .unset] [.null, (.ref b24), (.ref b28), (.ref b28)]))
      obtain ⟨_, _, ⟨T29, L29, k29, n29⟩, -, X29, ⟨Lc29, hQ29, l29, y29, z29⟩, st29⟩ := X28.specialBack hx (y := (⟨"com/example/tranche/tranche/model/Stated", "<init>", "(Ljava/lang/Object;Lcom/example/tranche/tranche/model/Span;)V"⟩ : MethodName)) rfl hown (mvT hZ (hw _ (List.mem_of_getElem? (i := 36) rfl))) (mvT hZ (hw _ (List.mem_of_getElem? (i := 37) rfl))) (mvT hZ (hw _ (List.mem_of_getElem? (i := 38) rfl))) (by decide) (backOf (W := 1) (own_rstated l Z a0 hw [] b28 b24  h28 n0 (Nat.le_trans Z0 Kp.1) Ex_b28 F_value_b28 F_span_b28 g_b28 ) hZ (hw _ (List.mem_of_getElem? (i := 38) rfl)) (hw _ (List.mem_of_getElem? (i := 35) rfl)) (by decide) (by decide)) (g := (mkF m 155 #[iv p1, iv p2, iv p3, iv p4, iv p5, rv o_ARTICLE, rv b12, rv b14, rv b24, rv b26, .unset, .unset, .unset] [.null, (.ref b24), (.ref b28), (.ref b28)])) rfl (by rw [hml]; rfl) (Steps.refl _) (a := b28) (argsL := [(.ref b24), .null]) (rest := [(.ref b28)]) (lenOf own_pd__Ljava_lang_Object_Lcom_example_tranche_tranche_model_Span__V rfl) rfl (by show 2 * 0 + _ ≤ _; exact Nat.le_of_eq rfl) (hb hby at_155) (fun _ _ => ⟨rfl, e28, (by decide : 8 + 0 ≤ _), (by decide : 24 + 0 ≤ _)⟩)
      dsimp only [Pt.U, Pt.locs, Pt.cells, Pt.slots] at X29 l29 y29 z29 st29 hQ29
      subst l29 y29 z29
      obtain ⟨rfl, Nq29, K29, -, F_value_b28, F_span_b28⟩ := hQ29
      have N29 := Fr.app N27 Nq29
      refine own_go (fun zt zk => st29.trans zk) ?_
      replace O := O.keep K29 (allS g_b28 all0)
      replace Kp := Kp.trans K29 (allS (Or.inr sz_b28) all0)
      replace V_b2 := V_b2.keep K29 (ninS ne_b2_b28 nin0)
      replace Ea_b2 := Ea_b2.keep K29
      replace Ex_b12 := Ex_b12.keep K29
      replace Fc13 := Fc13.keep K29 (ninS ne_b12_b28 nin0)
      replace Fv13 := Fv13.keep K29 (ninS ne_b12_b28 nin0)
      replace Vt13 := Vt13.keep K29 (ninS ne_t13_b28 nin0)
      replace V_b14 := V_b14.keep K29 (ninS ne_b14_b28 nin0)
      replace Ea_b14 := Ea_b14.keep K29
      replace Ex_b24 := Ex_b24.keep K29
      replace Fc25 := Fc25.keep K29 (ninS ne_b24_b28 nin0)
      replace Fv25 := Fv25.keep K29 (ninS ne_b24_b28 nin0)
      replace Vt25 := Vt25.keep K29 (ninS ne_t25_b28 nin0)
      replace Ex_b26 := Ex_b26.keep K29
      replace F_value_b26 := F_value_b26.keep K29 (ninS ne_b26_b28 nin0)
      replace F_span_b26 := F_span_b26.keep K29 (ninS ne_b26_b28 nin0)
      replace Ex_b28 := Ex_b28.keep K29
      show own_Go p e below s _ _ _ (T29.setTop (mkF m 158 #[iv p1, iv p2, iv p3, iv p4, iv p5, rv o_ARTICLE, rv b12, rv b14, rv b24, rv b26, .unset, .unset, .unset] [(.ref b28)]))
      refine own_go (fun zt zk => (XS.astore X29.here hx rfl (hb hby at_158) rfl rfl (l' := #[iv p1, iv p2, iv p3, iv p4, iv p5, rv o_ARTICLE, rv b12, rv b14, rv b24, rv b26, rv b28, .unset, .unset]) rfl zk)) ?_
      show own_Go p e below s _ _ _ (T29.setTop (mkF m 160 #[iv p1, iv p2, iv p3, iv p4, iv p5, rv o_ARTICLE, rv b12, rv b14, rv b24, rv b26, rv b28, .unset, .unset] []))
      obtain ⟨T30, h30, X30, e30, E30, A30, D30, -, st30⟩ := newO X29 hx hZ hown (hw _ (List.mem_of_getElem? (i := 49) rfl)) (hw _ (List.mem_of_getElem? (i := 50) rfl)) (hw _ (List.mem_of_getElem? (i := 51) rfl)) rfl (g := (mkF m 160 #[iv p1, iv p2, iv p3, iv p4, iv p5, rv o_ARTICLE, rv b12, rv b14, rv b24, rv b26, rv b28, .unset, .unset] [])) rfl (hb hby at_160) (by decide) (by decide)
      obtain ⟨b30, g30⟩ : ∃ z, z = T29.heap.size := ⟨_, rfl⟩
      rw [← g30] at A30 D30 st30
      refine own_go st30 ?_
      have ne_o_ARTICLE_b30 : o_ARTICLE ≠ b30 := Nat.ne_of_lt (Nat.lt_of_lt_of_le (Ex_o_ARTICLE.ext O.2).lt (Nat.le_of_eq g30.symm))
      have ne_o_SECTION_b30 : o_SECTION ≠ b30 := Nat.ne_of_lt (Nat.lt_of_lt_of_le (Ex_o_SECTION.ext O.2).lt (Nat.le_of_eq g30.symm))
      have ne_b2_b30 : b2 ≠ b30 := Nat.ne_of_lt (Nat.lt_of_lt_of_le V_b2.lt (Nat.le_of_eq g30.symm))
      have ne_b12_b30 : b12 ≠ b30 := Nat.ne_of_lt (Nat.lt_of_lt_of_le Ex_b12.lt (Nat.le_of_eq g30.symm))
      have ne_t13_b30 : t13 ≠ b30 := Nat.ne_of_lt (Nat.lt_of_lt_of_le Vt13.lt (Nat.le_of_eq g30.symm))
      have ne_b14_b30 : b14 ≠ b30 := Nat.ne_of_lt (Nat.lt_of_lt_of_le V_b14.lt (Nat.le_of_eq g30.symm))
      have ne_b24_b30 : b24 ≠ b30 := Nat.ne_of_lt (Nat.lt_of_lt_of_le Ex_b24.lt (Nat.le_of_eq g30.symm))
      have ne_t25_b30 : t25 ≠ b30 := Nat.ne_of_lt (Nat.lt_of_lt_of_le Vt25.lt (Nat.le_of_eq g30.symm))
      have ne_b26_b30 : b26 ≠ b30 := Nat.ne_of_lt (Nat.lt_of_lt_of_le Ex_b26.lt (Nat.le_of_eq g30.symm))
      have ne_b28_b30 : b28 ≠ b30 := Nat.ne_of_lt (Nat.lt_of_lt_of_le Ex_b28.lt (Nat.le_of_eq g30.symm))
      have sz_b30 : h0.size ≤ b30 := Nat.le_trans Kp.1 (Nat.le_of_eq g30.symm)
      have g_b30 : n0 ≤ b30 := Nat.le_trans Z0 sz_b30
      replace O := O.ext E30
      replace Kp := Kp.ext E30
      replace V_b2 := V_b2.ext E30
      replace Ea_b2 := Ea_b2.ext E30
      replace Ex_b12 := Ex_b12.ext E30
      replace Fc13 := Fc13.ext E30
      replace Fv13 := Fv13.ext E30
      replace Vt13 := Vt13.ext E30
      replace V_b14 := V_b14.ext E30
      replace Ea_b14 := Ea_b14.ext E30
      replace Ex_b24 := Ex_b24.ext E30
      replace Fc25 := Fc25.ext E30
      replace Fv25 := Fv25.ext E30
      replace Vt25 := Vt25.ext E30
      replace Ex_b26 := Ex_b26.ext E30
      replace F_value_b26 := F_value_b26.ext E30
      replace F_span_b26 := F_span_b26.ext E30
      replace Ex_b28 := Ex_b28.ext E30
      replace F_value_b28 := F_value_b28.ext E30
      replace F_span_b28 := F_span_b28.ext E30
      have Ex_b30 := A30
      have F_kind_b30 : Fld Z h30 b30 "com/example/tranche/tranche/model/Heading" "kind" "Lcom/example/tranche/tranche/model/Heading$Kind;" .null := D30 (Or.inr (hw _ (List.mem_of_getElem? (i := 57) rfl))) (ty := (.object "com/example/tranche/tranche/model/Heading$Kind")) (by decide)
      have F_number_b30 : Fld Z h30 b30 "com/example/tranche/tranche/model/Heading" "number" "Lcom/example/tranche/tranche/model/Stated;" .null := D30 (Or.inr (hw _ (List.mem_of_getElem? (i := 59) rfl))) (ty := (.object "com/example/tranche/tranche/model/Stated")) (by decide)
      have F_title_b30 : Fld Z h30 b30 "com/example/tranche/tranche/model/Heading" "title" "Lcom/example/tranche/tranche/model/Stated;" .null := D30 (Or.inr (hw _ (List.mem_of_getElem? (i := 61) rfl))) (ty := (.object "com/example/tranche/tranche/model/Stated")) (by decide)
      have F_span_b30 : Fld Z h30 b30 "com/example/tranche/tranche/model/Heading" "span" "Lcom/example/tranche/tranche/model/Span;" .null := D30 (Or.inr (hw _ (List.mem_of_getElem? (i := 63) rfl))) (ty := (.object "com/example/tranche/tranche/model/Span")) (by decide)
      show own_Go p e below s _ _ _ (T30.setTop (mkF m 163 #[iv p1, iv p2, iv p3, iv p4, iv p5, rv o_ARTICLE, rv b12, rv b14, rv b24, rv b26, rv b28, .unset, .unset] [(.ref b30)]))
      refine own_go (fun zt zk => (XS.dup X30.here hx rfl (hb hby at_163) rfl rfl (XS.aload X30.here hx rfl (hb hby at_164) rfl rfl (XS.aload X30.here hx rfl (hb hby at_166) rfl rfl (XS.aload X30.here hx rfl (hb hby at_168) rfl rfl (XS.aconstNull X30.here hx rfl (hb hby at_170) zk)))))) ?_
      show own_Go p e below s _ _ _ (T30.setTop (mkF m 171 #[iv p1, iv p2, iv p3, iv p4, iv p5, rv o_ARTICLE, rv b12, rv b14, rv b24, rv b26, rv b28, .unset, .unset] [.null, (.ref b28), (.ref b26), (.ref o_ARTICLE), (.ref b30), (.ref b30)]))
      obtain ⟨_, _, ⟨T31, L31, k31, n31⟩, -, X31, ⟨Lc31, hQ31, l31, y31, z31⟩, st31⟩ := X30.specialBack hx (y := (⟨"com/example/tranche/tranche/model/Heading", "<init>", "(Lcom/example/tranche/tranche/model/Heading$Kind;Lcom/example/tranche/tranche/model/Stated;Lcom/example/tranche/tranche/model/Stated;Lcom/example/tranche/tranche/model/Span;)V"⟩ : MethodName)) rfl hown (mvT hZ (hw _ (List.mem_of_getElem? (i := 52) rfl))) (mvT hZ (hw _ (List.mem_of_getElem? (i := 53) rfl))) (mvT hZ (hw _ (List.mem_of_getElem? (i := 54) rfl))) (by decide) (backOf (W := 1) (own_rheading l Z a0 hw [] b30 o_ARTICLE b26 b28  h30 n0 (Nat.le_trans Z0 Kp.1) Ex_b30 F_kind_b30 F_number_b30 F_title_b30 F_span_b30 g_b30 ) hZ (hw _ (List.mem_of_getElem? (i := 54) rfl)) (hw _ (List.mem_of_getElem? (i := 51) rfl)) (by decide) (by decide)) (g := (mkF m 171 #[iv p1, iv p2, iv p3, iv p4, iv p5, rv o_ARTICLE, rv b12, rv b14, rv b24, rv b26, rv b28, .unset, .unset] [.null, (.ref b28), (.ref b26), (.ref o_ARTICLE), (.ref b30), (.ref b30)])) rfl (by rw [hml]; rfl) (Steps.refl _) (a := b30) (argsL := [(.ref o_ARTICLE), (.ref b26), (.ref b28), .null]) (rest := [(.ref b30)]) (lenOf own_pd__Lcom_example_tranche_tranche_model_Heading_Kind_Lcom_example_tranche_tranche_model_Stated_Lcom_example_tranche_tranche_model_Stated_Lcom_example_tranche_tranche_model_Span__V rfl) rfl (by show 2 * 0 + _ ≤ _; exact Nat.le_of_eq rfl) (hb hby at_171) (fun _ _ => ⟨rfl, e30, (by decide : 9 + 0 ≤ _), (by decide : 28 + 0 ≤ _)⟩)
      dsimp only [Pt.U, Pt.locs, Pt.cells, Pt.slots] at X31 l31 y31 z31 st31 hQ31
      subst l31 y31 z31
      obtain ⟨rfl, Nq31, K31, -, F_kind_b30, F_number_b30, F_title_b30, F_span_b30⟩ := hQ31
      have N31 := Fr.app N29 Nq31
      refine own_go (fun zt zk => st31.trans zk) ?_
      replace O := O.keep K31 (allS g_b30 all0)
      replace Kp := Kp.trans K31 (allS (Or.inr sz_b30) all0)
      replace V_b2 := V_b2.keep K31 (ninS ne_b2_b30 nin0)
      replace Ea_b2 := Ea_b2.keep K31
      replace Ex_b12 := Ex_b12.keep K31
      replace Fc13 := Fc13.keep K31 (ninS ne_b12_b30 nin0)
      replace Fv13 := Fv13.keep K31 (ninS ne_b12_b30 nin0)
      replace Vt13 := Vt13.keep K31 (ninS ne_t13_b30 nin0)
      replace V_b14 := V_b14.keep K31 (ninS ne_b14_b30 nin0)
      replace Ea_b14 := Ea_b14.keep K31
      replace Ex_b24 := Ex_b24.keep K31
      replace Fc25 := Fc25.keep K31 (ninS ne_b24_b30 nin0)
      replace Fv25 := Fv25.keep K31 (ninS ne_b24_b30 nin0)
      replace Vt25 := Vt25.keep K31 (ninS ne_t25_b30 nin0)
      replace Ex_b26 := Ex_b26.keep K31
      replace F_value_b26 := F_value_b26.keep K31 (ninS ne_b26_b30 nin0)
      replace F_span_b26 := F_span_b26.keep K31 (ninS ne_b26_b30 nin0)
      replace Ex_b28 := Ex_b28.keep K31
      replace F_value_b28 := F_value_b28.keep K31 (ninS ne_b28_b30 nin0)
      replace F_span_b28 := F_span_b28.keep K31 (ninS ne_b28_b30 nin0)
      replace Ex_b30 := Ex_b30.keep K31
      show own_Go p e below s _ _ _ (T31.setTop (mkF m 174 #[iv p1, iv p2, iv p3, iv p4, iv p5, rv o_ARTICLE, rv b12, rv b14, rv b24, rv b26, rv b28, .unset, .unset] [(.ref b30)]))
      refine own_go (fun zt zk => (XS.astore X31.here hx rfl (hb hby at_174) rfl rfl (l' := #[iv p1, iv p2, iv p3, iv p4, iv p5, rv o_ARTICLE, rv b12, rv b14, rv b24, rv b26, rv b28, rv b30, .unset]) rfl (XS.aload X31.here hx rfl (hb hby at_176) rfl rfl zk))) ?_
      show own_Go p e below s _ _ _ (T31.setTop (mkF m 178 #[iv p1, iv p2, iv p3, iv p4, iv p5, rv o_ARTICLE, rv b12, rv b14, rv b24, rv b26, rv b28, rv b30, .unset] [(.ref b30)]))
      obtain ⟨_, _, ⟨T32, L32, k32, n32⟩, -, X32, ⟨Lc32, hQ32, l32, y32, z32⟩, st32⟩ := Jvm.LawKit.callS X31 hx (y := (⟨"com/example/tranche/tranche/service/HeadingNumber", "of", "(Lcom/example/tranche/tranche/model/Heading;)Lcom/example/tranche/tranche/service/HeadingNumber;"⟩ : MethodName)) hown (mvT hZ (hw _ (List.mem_of_getElem? (i := 64) rfl))) (mvT hZ (hw _ (List.mem_of_getElem? (i := 65) rfl))) (mvT hZ (hw _ (List.mem_of_getElem? (i := 66) rfl))) (mvT hZ (hw _ (List.mem_of_getElem? (i := 67) rfl))) (by decide) (backOf (W := 0) (own_rof l Z a0 hw [] b30 o_ARTICLE b26 b12 T31.heap n0 (Nat.le_trans Z0 Kp.1) Ex_b30 F_kind_b30 F_number_b30 Ex_b26 F_value_b26 Ex_b12) hZ (hw _ (List.mem_of_getElem? (i := 67) rfl)) (hw _ (List.mem_of_getElem? (i := 66) rfl)) (by decide) (by decide)) (g := (mkF m 178 #[iv p1, iv p2, iv p3, iv p4, iv p5, rv o_ARTICLE, rv b12, rv b14, rv b24, rv b26, rv b28, rv b30, .unset] [(.ref b30)])) rfl (by rw [hml]; rfl) (argsL := [(.ref b30)]) (rest := []) (lenOf own_pd__Lcom_example_tranche_tranche_model_Heading__Lcom_example_tranche_tranche_service_HeadingNumber_ rfl) rfl (by show 2 * 0 + _ ≤ _; exact Nat.le_of_eq rfl) (hb hby at_178) (fun _ _ => ⟨rfl, rfl, (by decide : 9 + 1 ≤ _), (by decide : 28 + 2 ≤ _)⟩)
      dsimp only [Pt.U, Pt.locs, Pt.cells, Pt.slots] at X32 l32 y32 z32 st32 hQ32
      subst l32 y32 z32
      obtain ⟨r32, rfl, Nq32, K32, sr32, Ex_r32, Fk32, Fn32⟩ := hQ32
      have N32 := Fr.app N31 Nq32
      refine own_go st32 ?_
      replace O := O.keep K32 all0
      replace Kp := Kp.trans K32 all0
      replace V_b2 := V_b2.keep K32 nin0
      replace Ea_b2 := Ea_b2.keep K32
      replace Ex_b12 := Ex_b12.keep K32
      replace Fc13 := Fc13.keep K32 nin0
      replace Fv13 := Fv13.keep K32 nin0
      replace Vt13 := Vt13.keep K32 nin0
      replace V_b14 := V_b14.keep K32 nin0
      replace Ea_b14 := Ea_b14.keep K32
      replace Ex_b24 := Ex_b24.keep K32
      replace Fc25 := Fc25.keep K32 nin0
      replace Fv25 := Fv25.keep K32 nin0
      replace Vt25 := Vt25.keep K32 nin0
      replace Ex_b26 := Ex_b26.keep K32
      replace F_value_b26 := F_value_b26.keep K32 nin0
      replace F_span_b26 := F_span_b26.keep K32 nin0
      replace Ex_b28 := Ex_b28.keep K32
      replace F_value_b28 := F_value_b28.keep K32 nin0
      replace F_span_b28 := F_span_b28.keep K32 nin0
      replace Ex_b30 := Ex_b30.keep K32
      replace F_kind_b30 := F_kind_b30.keep K32 nin0
      replace F_number_b30 := F_number_b30.keep K32 nin0
      replace F_title_b30 := F_title_b30.keep K32 nin0
      replace F_span_b30 := F_span_b30.keep K32 nin0
      show own_Go p e below s _ _ _ (T32.setTop (mkF m 181 #[iv p1, iv p2, iv p3, iv p4, iv p5, rv o_ARTICLE, rv b12, rv b14, rv b24, rv b26, rv b28, rv b30, .unset] [(.ref r32)]))
      refine own_go (fun zt zk => (XS.astore X32.here hx rfl (hb hby at_181) rfl rfl (l' := #[iv p1, iv p2, iv p3, iv p4, iv p5, rv o_ARTICLE, rv b12, rv b14, rv b24, rv b26, rv b28, rv b30, rv r32]) rfl (XS.aload X32.here hx rfl (hb hby at_183) rfl rfl (XS.ifnullNo X32.here hx rfl (hb hby at_185) rfl (XS.aload X32.here hx rfl (hb hby at_188) rfl rfl zk))))) ?_
      show own_Go p e below s _ _ _ (T32.setTop (mkF m 190 #[iv p1, iv p2, iv p3, iv p4, iv p5, rv o_ARTICLE, rv b12, rv b14, rv b24, rv b26, rv b28, rv b30, rv r32] [(.ref r32)]))
      obtain ⟨cq33, kq33, qa33, qb33, qc33⟩ := isOf hZ rfl Ex_r32
      obtain ⟨_, _, ⟨T33, L33, k33, n33⟩, -, X33, ⟨Lc33, hQ33, l33, y33, z33⟩, st33⟩ := X32.virtualBack hx (y := (⟨"com/example/tranche/tranche/service/HeadingNumber", "kind", "()Lcom/example/tranche/tranche/model/Heading$Kind;"⟩ : MethodName)) (z := (⟨"com/example/tranche/tranche/service/HeadingNumber", "kind", "()Lcom/example/tranche/tranche/model/Heading$Kind;"⟩ : MethodName)) hown (mvT hZ (hw _ (List.mem_of_getElem? (i := 94) rfl))) (mvT hZ (hw _ (List.mem_of_getElem? (i := 95) rfl))) (notFace_of_selects (args := #[]) (mvT hZ (hw _ (List.mem_of_getElem? (i := 97) rfl)))) (mvT hZ (hw _ (List.mem_of_getElem? (i := 97) rfl))) (mvT hZ (hw _ (List.mem_of_getElem? (i := 96) rfl))) (by decide) (backOf (W := 0) (own_gkind2 l Z a0 hw [] r32 o_ARTICLE T32.heap n0 (Nat.le_trans Z0 Kp.1) Fk32) hZ (hw _ (List.mem_of_getElem? (i := 98) rfl)) (hw _ (List.mem_of_getElem? (i := 66) rfl)) (by decide) (by decide)) qa33 qc33 (g := (mkF m 190 #[iv p1, iv p2, iv p3, iv p4, iv p5, rv o_ARTICLE, rv b12, rv b14, rv b24, rv b26, rv b28, rv b30, rv r32] [(.ref r32)])) rfl (by rw [hml]; rfl) (Steps.refl _) (argsL := []) (rest := []) (lenOf own_pd___Lcom_example_tranche_tranche_model_Heading_Kind_ rfl) rfl (by show 2 * 0 + _ ≤ _; exact Nat.le_of_eq rfl) (hb hby at_190) (fun _ _ => ⟨rfl, rfl, (by decide : 10 + 0 ≤ _), (by decide : 30 + 0 ≤ _)⟩)
      dsimp only [Pt.U, Pt.locs, Pt.cells, Pt.slots] at X33 l33 y33 z33 st33 hQ33
      subst l33 y33 z33
      obtain ⟨rfl, Nq33, e33⟩ := hQ33
      have N33 := Fr.app N32 Nq33
      refine own_go (fun zt zk => st33.trans zk) ?_
      show own_Go p e below s _ _ _ (T33.setTop (mkF m 193 #[iv p1, iv p2, iv p3, iv p4, iv p5, rv o_ARTICLE, rv b12, rv b14, rv b24, rv b26, rv b28, rv b30, rv r32] [(.ref o_ARTICLE)]))
      refine own_go (fun zt zk => (XS.aload X33.here hx rfl (hb hby at_193) rfl rfl zk)) ?_
      show own_Go p e below s _ _ _ (T33.setTop (mkF m 195 #[iv p1, iv p2, iv p3, iv p4, iv p5, rv o_ARTICLE, rv b12, rv b14, rv b24, rv b26, rv b28, rv b30, rv r32] [(.ref o_ARTICLE), (.ref o_ARTICLE)]))
      refine own_go (fun zt zk => Jvm.RoadKit.acmp (g := (mkF m 195 #[iv p1, iv p2, iv p3, iv p4, iv p5, rv o_ARTICLE, rv b12, rv b14, rv b24, rv b26, rv b28, rv b30, rv r32] [(.ref o_ARTICLE), (.ref o_ARTICLE)])) X33 hx rfl rfl rfl (pc0 := 195) (pc' := 198) (same := true) rfl (hb hby at_195) rfl (decide_eq_true rfl) (by decide) (by decide) zk) ?_
      show own_Go p e below s _ _ _ (T33.setTop (mkF m 198 #[iv p1, iv p2, iv p3, iv p4, iv p5, rv o_ARTICLE, rv b12, rv b14, rv b24, rv b26, rv b28, rv b30, rv r32] []))
      refine own_go (fun zt zk => (XS.aload X33.here hx rfl (hb hby at_198) rfl rfl (XS.aload X33.here hx rfl (hb hby at_200) rfl rfl zk))) ?_
      show own_Go p e below s _ _ _ (T33.setTop (mkF m 202 #[iv p1, iv p2, iv p3, iv p4, iv p5, rv o_ARTICLE, rv b12, rv b14, rv b24, rv b26, rv b28, rv b30, rv r32] [(.ref r32), (.ref b12)]))
      obtain ⟨cq34, kq34, qa34, qb34, qc34⟩ := isOf hZ e33 Ex_r32
      obtain ⟨_, _, ⟨T34, L34, k34, n34⟩, -, X34, ⟨Lc34, hQ34, l34, y34, z34⟩, st34⟩ := X33.virtualBack hx (y := (⟨"com/example/tranche/tranche/service/HeadingNumber", "number", "()Ljava/lang/String;"⟩ : MethodName)) (z := (⟨"com/example/tranche/tranche/service/HeadingNumber", "number", "()Ljava/lang/String;"⟩ : MethodName)) hown (mvT hZ (hw _ (List.mem_of_getElem? (i := 99) rfl))) (mvT hZ (hw _ (List.mem_of_getElem? (i := 100) rfl))) (notFace_of_selects (args := #[]) (mvT hZ (hw _ (List.mem_of_getElem? (i := 102) rfl)))) (mvT hZ (hw _ (List.mem_of_getElem? (i := 102) rfl))) (mvT hZ (hw _ (List.mem_of_getElem? (i := 101) rfl))) (by decide) (backOf (W := 1) (own_gnumber2 l Z a0 hw [] r32 b12 T32.heap n0 (Nat.le_trans Z0 Kp.1) Fn32) hZ (hw _ (List.mem_of_getElem? (i := 103) rfl)) (hw _ (List.mem_of_getElem? (i := 66) rfl)) (by decide) (by decide)) qa34 qc34 (g := (mkF m 202 #[iv p1, iv p2, iv p3, iv p4, iv p5, rv o_ARTICLE, rv b12, rv b14, rv b24, rv b26, rv b28, rv b30, rv r32] [(.ref r32), (.ref b12)])) rfl (by rw [hml]; rfl) (Steps.refl _) (argsL := []) (rest := [(.ref b12)]) (lenOf own_pd___Ljava_lang_String_ rfl) rfl (by show 2 * 0 + _ ≤ _; exact Nat.le_of_eq rfl) (hb hby at_202) (fun _ _ => ⟨rfl, e33, (by decide : 10 + 0 ≤ _), (by decide : 30 + 0 ≤ _)⟩)
      dsimp only [Pt.U, Pt.locs, Pt.cells, Pt.slots] at X34 l34 y34 z34 st34 hQ34
      subst l34 y34 z34
      obtain ⟨rfl, Nq34, e34⟩ := hQ34
      have N34 := Fr.app N33 Nq34
      refine own_go (fun zt zk => st34.trans zk) ?_
      show own_Go p e below s _ _ _ (T34.setTop (mkF m 205 #[iv p1, iv p2, iv p3, iv p4, iv p5, rv o_ARTICLE, rv b12, rv b14, rv b24, rv b26, rv b28, rv b30, rv r32] [(.ref b12), (.ref b12)]))
      obtain ⟨cq35, kq35, qa35, qb35, qc35⟩ := isOf hZ e34 Ex_b12
      obtain ⟨_, _, ⟨T35, L35, k35, n35⟩, -, X35, ⟨Lc35, hQ35, l35, y35, z35⟩, st35⟩ := X34.virtualBack hx (y := (⟨"java/lang/String", "equals", "(Ljava/lang/Object;)Z"⟩ : MethodName)) (z := (⟨"java/lang/String", "equals", "(Ljava/lang/Object;)Z"⟩ : MethodName)) hown (mvT hZ (hw _ (List.mem_of_getElem? (i := 104) rfl))) (mvT hZ (hw _ (List.mem_of_getElem? (i := 105) rfl))) (notFace_of_selects (args := #[]) (mvT hZ (hw _ (List.mem_of_getElem? (i := 107) rfl)))) (mvT hZ (hw _ (List.mem_of_getElem? (i := 107) rfl))) (mvT hZ (hw _ (List.mem_of_getElem? (i := 106) rfl))) (by decide) (backOf (W := 0) (own_reqs l Z a0 hw [] b12  T32.heap n0 (Nat.le_trans Z0 Kp.1) ) hZ (hw _ (List.mem_of_getElem? (i := 108) rfl)) (hw _ (List.mem_of_getElem? (i := 6) rfl)) (by decide) (by decide)) qa35 qc35 (g := (mkF m 205 #[iv p1, iv p2, iv p3, iv p4, iv p5, rv o_ARTICLE, rv b12, rv b14, rv b24, rv b26, rv b28, rv b30, rv r32] [(.ref b12), (.ref b12)])) rfl (by rw [hml]; rfl) (Steps.refl _) (argsL := [(.ref b12)]) (rest := []) (lenOf own_pd__Ljava_lang_Object__Z rfl) rfl (by show 2 * 0 + _ ≤ _; exact Nat.le_of_eq rfl) (hb hby at_205) (fun _ _ => ⟨rfl, e34, (by decide : 10 + 0 ≤ _), (by decide : 30 + 0 ≤ _)⟩)
      dsimp only [Pt.U, Pt.locs, Pt.cells, Pt.slots] at X35 l35 y35 z35 st35 hQ35
      subst l35 y35 z35
      obtain ⟨rfl, Nq35, e35⟩ := hQ35
      have N35 := Fr.app N34 Nq35
      refine own_go (fun zt zk => st35.trans zk) ?_
      show own_Go p e below s _ _ _ (T35.setTop (mkF m 208 #[iv p1, iv p2, iv p3, iv p4, iv p5, rv o_ARTICLE, rv b12, rv b14, rv b24, rv b26, rv b28, rv b30, rv r32] [(.int (1 : Int32))]))
      refine own_go (fun zt zk => (XS.ifNo X35.here hx rfl (hb hby at_208) rfl ((if0 _ _).trans (feq ((by decide) : ¬ ((1 : Int32) = (0 : Int32)))).1) (XS.iconst X35.here hx rfl (hb hby at_211) (XS.goto X35.here hx rfl (pc0 := 212) (pc' := 216) rfl (hb hby at_212) (by decide) (by decide) zk)))) ?_
      show own_Go p e below s _ _ _ (T35.setTop (mkF m 216 #[iv p1, iv p2, iv p3, iv p4, iv p5, rv o_ARTICLE, rv b12, rv b14, rv b24, rv b26, rv b28, rv b30, rv r32] [(.int (1 : Int32))]))
      exact own_fin X35 Bd.notSynchronized (fun h => by rw [Bd.returns] at h; cases h) (fun fs hr => retN X35 hx (t := .boolean) Bd.returns (by simp) (hb hby at_216) hr) (by rw [e35]; exact ⟨rfl, N35⟩) (by decide) (by decide)
    · refine own_go (fun zt zk => (XS.ifNo X1.here hx rfl (hb hby at_20) rfl ((if0 _ _).trans (feq (hB : ¬ ((p1 &&& (2 : Int32)) = (0 : Int32)))).1) (XS.iloadN X1.here hx rfl (hb hby at_23) rfl (XS.sipush X1.here hx rfl (hb hby at_24) (XS.iand X1.here hx rfl (hb hby at_27) rfl (XS.i2c X1.here hx rfl (hb hby at_28) rfl zk)))))) ?_
      show own_Go p e below s _ _ _ (T1.setTop (mkF m 29 #[iv p1, iv p2, iv p3, iv p4, iv p5, rv o_ARTICLE, .unset, .unset, .unset, .unset, .unset, .unset, .unset] [(.int ((p2 &&& (255 : Int32)).toUInt32.toUInt16.toUInt32.toInt32))]))
      rw [i2c_mask]
      generalize hv_c36 : (p2 &&& (255 : Int32)) = c36
      have hr_c36 := own_r255 hv_c36
      show own_Go p e below s _ _ _ (T1.setTop (mkF m 29 #[iv p1, iv p2, iv p3, iv p4, iv p5, rv o_ARTICLE, .unset, .unset, .unset, .unset, .unset, .unset, .unset] [(.int c36)]))
      obtain ⟨_, _, ⟨T37, L37, k37, n37⟩, -, X37, ⟨Lc37, hQ37, l37, y37, z37⟩, st37⟩ := Jvm.LawKit.callS X1 hx (y := (⟨"java/lang/String", "valueOf", "(C)Ljava/lang/String;"⟩ : MethodName)) hown (mvT hZ (hw _ (List.mem_of_getElem? (i := 111) rfl))) (mvT hZ (hw _ (List.mem_of_getElem? (i := 112) rfl))) (mvT hZ (hw _ (List.mem_of_getElem? (i := 6) rfl))) (mvT hZ (hw _ (List.mem_of_getElem? (i := 113) rfl))) (by decide) (backOf (W := 0) (own_rvo l Z a0 hw [] c36 o_COMPACT_STRINGS h0 n0 Z0 O S_o_COMPACT_STRINGS nz_o_COMPACT_STRINGS hr_c36) hZ (hw _ (List.mem_of_getElem? (i := 113) rfl)) (hw _ (List.mem_of_getElem? (i := 6) rfl)) (by decide) (by decide)) (g := (mkF m 29 #[iv p1, iv p2, iv p3, iv p4, iv p5, rv o_ARTICLE, .unset, .unset, .unset, .unset, .unset, .unset, .unset] [(.int c36)])) rfl (by rw [hml]; rfl) (argsL := [(.int c36)]) (rest := []) (lenOf own_pd__C_Ljava_lang_String_ rfl) rfl (by show 2 * 0 + _ ≤ _; exact Nat.le_of_eq rfl) (hb hby at_29) (fun _ _ => ⟨rfl, e1, (by decide : 0 + 2 ≤ _), (by decide : 0 + 5 ≤ _)⟩)
      dsimp only [Pt.U, Pt.locs, Pt.cells, Pt.slots] at X37 l37 y37 z37 st37 hQ37
      subst l37 y37 z37
      obtain ⟨b37, t37, kb37, rfl, Nq37, K37, sb37, st37', ne_b37_t37, Ex_b37, Fv37, Fc37, Vt37⟩ := hQ37
      have sz_b37 : h0.size ≤ b37 := Nat.le_trans Kp.1 sb37
      have g_b37 := Nat.le_trans Z0 sz_b37
      have sz_t37 : h0.size ≤ t37 := Nat.le_trans Kp.1 st37'
      have N37 := Fr.app N0 Nq37
      refine own_go st37 ?_
      replace O := O.keep K37 all0
      replace Kp := Kp.trans K37 all0
      show own_Go p e below s _ _ _ (T37.setTop (mkF m 32 #[iv p1, iv p2, iv p3, iv p4, iv p5, rv o_ARTICLE, .unset, .unset, .unset, .unset, .unset, .unset, .unset] [(.ref b37)]))
      refine own_go (fun zt zk => (XS.astore X37.here hx rfl (hb hby at_32) rfl rfl (l' := #[iv p1, iv p2, iv p3, iv p4, iv p5, rv o_ARTICLE, rv b37, .unset, .unset, .unset, .unset, .unset, .unset]) rfl (XS.goto X37.here hx rfl (pc0 := 34) (pc' := 86) rfl (hb hby at_34) (by decide) (by decide) (XS.iconst X37.here hx rfl (hb hby at_86) zk)))) ?_
      show own_Go p e below s _ _ _ (T37.setTop (mkF m 87 #[iv p1, iv p2, iv p3, iv p4, iv p5, rv o_ARTICLE, rv b37, .unset, .unset, .unset, .unset, .unset, .unset] [(.int (3 : Int32))]))
      obtain ⟨T38, h38, k38, X38, e38, E38, A38, Ea38, st38⟩ := newPE X37 hx hZ (hw _ (List.mem_of_getElem? (i := 3) rfl)) rfl (g := (mkF m 87 #[iv p1, iv p2, iv p3, iv p4, iv p5, rv o_ARTICLE, rv b37, .unset, .unset, .unset, .unset, .unset, .unset] [(.int (3 : Int32))])) rfl (hb hby at_87) rfl (by decide) (cap := 3) (by decide) (by decide) (by decide) (by decide) (ad := "[C") (by decide)
      obtain ⟨b38, g38⟩ : ∃ z, z = T37.heap.size := ⟨_, rfl⟩
      rw [← g38] at A38 Ea38 st38
      refine own_go st38 ?_
      have ne_o_ARTICLE_b38 : o_ARTICLE ≠ b38 := Nat.ne_of_lt (Nat.lt_of_lt_of_le (Ex_o_ARTICLE.ext O.2).lt (Nat.le_of_eq g38.symm))
      have ne_o_SECTION_b38 : o_SECTION ≠ b38 := Nat.ne_of_lt (Nat.lt_of_lt_of_le (Ex_o_SECTION.ext O.2).lt (Nat.le_of_eq g38.symm))
      have ne_b37_b38 : b37 ≠ b38 := Nat.ne_of_lt (Nat.lt_of_lt_of_le Ex_b37.lt (Nat.le_of_eq g38.symm))
      have ne_t37_b38 : t37 ≠ b38 := Nat.ne_of_lt (Nat.lt_of_lt_of_le Vt37.lt (Nat.le_of_eq g38.symm))
      have sz_b38 : h0.size ≤ b38 := Nat.le_trans Kp.1 (Nat.le_of_eq g38.symm)
      have g_b38 : n0 ≤ b38 := Nat.le_trans Z0 sz_b38
      replace O := O.ext E38
      replace Kp := Kp.ext E38
      replace Ex_b37 := Ex_b37.ext E38
      replace Fv37 := Fv37.ext E38
      replace Fc37 := Fc37.ext E38
      replace Vt37 := Vt37.ext E38
      have V_b38 : Arv Z h38 b38 k38 .char (3 : Int32) [(.int (0 : Int32)), (.int (0 : Int32)), (.int (0 : Int32))] (.int (0 : Int32)) := (Arv.new A38 (by decide)).pad (pad_rep [] (.int (0 : Int32)) 3)
      have Ea_b38 := Ea38
      show own_Go p e below s _ _ _ (T38.setTop (mkF m 89 #[iv p1, iv p2, iv p3, iv p4, iv p5, rv o_ARTICLE, rv b37, .unset, .unset, .unset, .unset, .unset, .unset] [(.ref b38)]))
      refine own_go (fun zt zk => (XS.astore X38.here hx rfl (hb hby at_89) rfl rfl (l' := #[iv p1, iv p2, iv p3, iv p4, iv p5, rv o_ARTICLE, rv b37, rv b38, .unset, .unset, .unset, .unset, .unset]) rfl (XS.aload X38.here hx rfl (hb hby at_91) rfl rfl (XS.iconst X38.here hx rfl (hb hby at_93) (XS.iloadN X38.here hx rfl (hb hby at_94) rfl (XS.sipush X38.here hx rfl (hb hby at_95) (XS.iand X38.here hx rfl (hb hby at_98) rfl (XS.i2c X38.here hx rfl (hb hby at_99) rfl zk)))))))) ?_
      show own_Go p e below s _ _ _ (T38.setTop (mkF m 100 #[iv p1, iv p2, iv p3, iv p4, iv p5, rv o_ARTICLE, rv b37, rv b38, .unset, .unset, .unset, .unset, .unset] [(.int ((p4 &&& (255 : Int32)).toUInt32.toUInt16.toUInt32.toInt32)), (.int (0 : Int32)), (.ref b38)]))
      rw [i2c_mask]
      generalize hv_c39 : (p4 &&& (255 : Int32)) = c39
      have hr_c39 := own_r255 hv_c39
      show own_Go p e below s _ _ _ (T38.setTop (mkF m 100 #[iv p1, iv p2, iv p3, iv p4, iv p5, rv o_ARTICLE, rv b37, rv b38, .unset, .unset, .unset, .unset, .unset] [(.int c39), (.int (0 : Int32)), (.ref b38)]))
      obtain ⟨cl40, Ar40, q40, Sz40, Nz40, Ha40, Ga40⟩ := id V_b38
      have hin40 : ¬ ((0 : Int32) < 0 ∨ cl40.slots.size ≤ ((0 : Int32)).toNatClampNeg) := inb_of Sz40 ⟨by decide, by decide⟩
      obtain ⟨T41, h41, X41, e41, W41, st41⟩ := stC X38 hx hZ e38 Ar40 (j := (0 : Int32)) hin40 (g := (mkF m 100 #[iv p1, iv p2, iv p3, iv p4, iv p5, rv o_ARTICLE, rv b37, rv b38, .unset, .unset, .unset, .unset, .unset] [(.int c39), (.int (0 : Int32)), (.ref b38)])) rfl rfl (hb hby at_100)
      refine own_go st41 ?_
      rw [show nar .char c39 = c39 from own_narc hr_c39] at W41
      have V41 := Arv.set Ar40 q40 Sz40 Nz40 Ha40 Ga40 (own_fitc hr_c39) W41 0 rfl (Nat.le_of_ble_eq_true rfl)
      have N41 := Fr.snoc X41 N37 g_b38
      replace O := O.wr W41 g_b38
      replace Kp := Kp.wr W41 (Or.inr sz_b38)
      replace Ex_b37 := Ex_b37.wr W41
      replace Fv37 := Fv37.other W41 (Or.inl ne_b37_b38)
      replace Fc37 := Fc37.other W41 (Or.inl ne_b37_b38)
      replace Vt37 := Vt37.other W41 ne_t37_b38
      replace Ea_b38 := Ea_b38.wr W41
      replace V_b38 : Arv Z h41 b38 k38 .char (3 : Int32) [(.int c39), (.int (0 : Int32)), (.int (0 : Int32))] (.int (0 : Int32)) := V41
      show own_Go p e below s _ _ _ (T41.setTop (mkF m 101 #[iv p1, iv p2, iv p3, iv p4, iv p5, rv o_ARTICLE, rv b37, rv b38, .unset, .unset, .unset, .unset, .unset] []))
      refine own_go (fun zt zk => (XS.aload X41.here hx rfl (hb hby at_101) rfl rfl (XS.iconst X41.here hx rfl (hb hby at_103) (XS.iloadN X41.here hx rfl (hb hby at_104) rfl (XS.bipush X41.here hx rfl (hb hby at_105) (XS.iushr X41.here hx rfl (hb hby at_107) rfl (XS.sipush X41.here hx rfl (hb hby at_108) (XS.iand X41.here hx rfl (hb hby at_111) rfl (XS.i2c X41.here hx rfl (hb hby at_112) rfl zk))))))))) ?_
      show own_Go p e below s _ _ _ (T41.setTop (mkF m 113 #[iv p1, iv p2, iv p3, iv p4, iv p5, rv o_ARTICLE, rv b37, rv b38, .unset, .unset, .unset, .unset, .unset] [(.int ((((p4.toUInt32 >>> ((8 : Int32) &&& 31).toUInt32).toInt32) &&& (255 : Int32)).toUInt32.toUInt16.toUInt32.toInt32)), (.int (1 : Int32)), (.ref b38)]))
      rw [i2c_mask]
      generalize hv_c42 : (((p4.toUInt32 >>> ((8 : Int32) &&& 31).toUInt32).toInt32) &&& (255 : Int32)) = c42
      have hr_c42 := own_r255 hv_c42
      show own_Go p e below s _ _ _ (T41.setTop (mkF m 113 #[iv p1, iv p2, iv p3, iv p4, iv p5, rv o_ARTICLE, rv b37, rv b38, .unset, .unset, .unset, .unset, .unset] [(.int c42), (.int (1 : Int32)), (.ref b38)]))
      obtain ⟨cl43, Ar43, q43, Sz43, Nz43, Ha43, Ga43⟩ := id V_b38
      have hin43 : ¬ ((1 : Int32) < 0 ∨ cl43.slots.size ≤ ((1 : Int32)).toNatClampNeg) := inb_of Sz43 ⟨by decide, by decide⟩
      obtain ⟨T44, h44, X44, e44, W44, st44⟩ := stC X41 hx hZ e41 Ar43 (j := (1 : Int32)) hin43 (g := (mkF m 113 #[iv p1, iv p2, iv p3, iv p4, iv p5, rv o_ARTICLE, rv b37, rv b38, .unset, .unset, .unset, .unset, .unset] [(.int c42), (.int (1 : Int32)), (.ref b38)])) rfl rfl (hb hby at_113)
      refine own_go st44 ?_
      rw [show nar .char c42 = c42 from own_narc hr_c42] at W44
      have V44 := Arv.set Ar43 q43 Sz43 Nz43 Ha43 Ga43 (own_fitc hr_c42) W44 1 rfl (Nat.le_of_ble_eq_true rfl)
      have N44 := Fr.snoc X44 N41 g_b38
      replace O := O.wr W44 g_b38
      replace Kp := Kp.wr W44 (Or.inr sz_b38)
      replace Ex_b37 := Ex_b37.wr W44
      replace Fv37 := Fv37.other W44 (Or.inl ne_b37_b38)
      replace Fc37 := Fc37.other W44 (Or.inl ne_b37_b38)
      replace Vt37 := Vt37.other W44 ne_t37_b38
      replace Ea_b38 := Ea_b38.wr W44
      replace V_b38 : Arv Z h44 b38 k38 .char (3 : Int32) [(.int c39), (.int c42), (.int (0 : Int32))] (.int (0 : Int32)) := V44
      show own_Go p e below s _ _ _ (T44.setTop (mkF m 114 #[iv p1, iv p2, iv p3, iv p4, iv p5, rv o_ARTICLE, rv b37, rv b38, .unset, .unset, .unset, .unset, .unset] []))
      refine own_go (fun zt zk => (XS.aload X44.here hx rfl (hb hby at_114) rfl rfl (XS.iconst X44.here hx rfl (hb hby at_116) (XS.iload X44.here hx rfl (hb hby at_117) rfl (XS.sipush X44.here hx rfl (hb hby at_119) (XS.iand X44.here hx rfl (hb hby at_122) rfl (XS.i2c X44.here hx rfl (hb hby at_123) rfl zk))))))) ?_
      show own_Go p e below s _ _ _ (T44.setTop (mkF m 124 #[iv p1, iv p2, iv p3, iv p4, iv p5, rv o_ARTICLE, rv b37, rv b38, .unset, .unset, .unset, .unset, .unset] [(.int ((p5 &&& (255 : Int32)).toUInt32.toUInt16.toUInt32.toInt32)), (.int (2 : Int32)), (.ref b38)]))
      rw [i2c_mask]
      generalize hv_c45 : (p5 &&& (255 : Int32)) = c45
      have hr_c45 := own_r255 hv_c45
      show own_Go p e below s _ _ _ (T44.setTop (mkF m 124 #[iv p1, iv p2, iv p3, iv p4, iv p5, rv o_ARTICLE, rv b37, rv b38, .unset, .unset, .unset, .unset, .unset] [(.int c45), (.int (2 : Int32)), (.ref b38)]))
      obtain ⟨cl46, Ar46, q46, Sz46, Nz46, Ha46, Ga46⟩ := id V_b38
      have hin46 : ¬ ((2 : Int32) < 0 ∨ cl46.slots.size ≤ ((2 : Int32)).toNatClampNeg) := inb_of Sz46 ⟨by decide, by decide⟩
      obtain ⟨T47, h47, X47, e47, W47, st47⟩ := stC X44 hx hZ e44 Ar46 (j := (2 : Int32)) hin46 (g := (mkF m 124 #[iv p1, iv p2, iv p3, iv p4, iv p5, rv o_ARTICLE, rv b37, rv b38, .unset, .unset, .unset, .unset, .unset] [(.int c45), (.int (2 : Int32)), (.ref b38)])) rfl rfl (hb hby at_124)
      refine own_go st47 ?_
      rw [show nar .char c45 = c45 from own_narc hr_c45] at W47
      have V47 := Arv.set Ar46 q46 Sz46 Nz46 Ha46 Ga46 (own_fitc hr_c45) W47 2 rfl (Nat.le_of_ble_eq_true rfl)
      have N47 := Fr.snoc X47 N44 g_b38
      replace O := O.wr W47 g_b38
      replace Kp := Kp.wr W47 (Or.inr sz_b38)
      replace Ex_b37 := Ex_b37.wr W47
      replace Fv37 := Fv37.other W47 (Or.inl ne_b37_b38)
      replace Fc37 := Fc37.other W47 (Or.inl ne_b37_b38)
      replace Vt37 := Vt37.other W47 ne_t37_b38
      replace Ea_b38 := Ea_b38.wr W47
      replace V_b38 : Arv Z h47 b38 k38 .char (3 : Int32) [(.int c39), (.int c42), (.int c45)] (.int (0 : Int32)) := V47
      show own_Go p e below s _ _ _ (T47.setTop (mkF m 125 #[iv p1, iv p2, iv p3, iv p4, iv p5, rv o_ARTICLE, rv b37, rv b38, .unset, .unset, .unset, .unset, .unset] []))
      obtain ⟨T48, h48, X48, e48, E48, A48, D48, -, st48⟩ := newO X47 hx hZ hown (hw _ (List.mem_of_getElem? (i := 4) rfl)) (hw _ (List.mem_of_getElem? (i := 5) rfl)) (hw _ (List.mem_of_getElem? (i := 6) rfl)) e47 (g := (mkF m 125 #[iv p1, iv p2, iv p3, iv p4, iv p5, rv o_ARTICLE, rv b37, rv b38, .unset, .unset, .unset, .unset, .unset] [])) rfl (hb hby at_125) (by decide) (by decide)
      obtain ⟨b48, g48⟩ : ∃ z, z = h47.size := ⟨_, rfl⟩
      rw [← g48] at A48 D48 st48
      refine own_go st48 ?_
      have ne_o_ARTICLE_b48 : o_ARTICLE ≠ b48 := Nat.ne_of_lt (Nat.lt_of_lt_of_le (Ex_o_ARTICLE.ext O.2).lt (Nat.le_of_eq g48.symm))
      have ne_o_SECTION_b48 : o_SECTION ≠ b48 := Nat.ne_of_lt (Nat.lt_of_lt_of_le (Ex_o_SECTION.ext O.2).lt (Nat.le_of_eq g48.symm))
      have ne_b37_b48 : b37 ≠ b48 := Nat.ne_of_lt (Nat.lt_of_lt_of_le Ex_b37.lt (Nat.le_of_eq g48.symm))
      have ne_t37_b48 : t37 ≠ b48 := Nat.ne_of_lt (Nat.lt_of_lt_of_le Vt37.lt (Nat.le_of_eq g48.symm))
      have ne_b38_b48 : b38 ≠ b48 := Nat.ne_of_lt (Nat.lt_of_lt_of_le V_b38.lt (Nat.le_of_eq g48.symm))
      have sz_b48 : h0.size ≤ b48 := Nat.le_trans Kp.1 (Nat.le_of_eq g48.symm)
      have g_b48 : n0 ≤ b48 := Nat.le_trans Z0 sz_b48
      replace O := O.ext E48
      replace Kp := Kp.ext E48
      replace Ex_b37 := Ex_b37.ext E48
      replace Fv37 := Fv37.ext E48
      replace Fc37 := Fc37.ext E48
      replace Vt37 := Vt37.ext E48
      replace V_b38 := V_b38.ext E48
      replace Ea_b38 := Ea_b38.ext E48
      have Ex_b48 := A48
      have F_coder_b48 : Fld Z h48 b48 "java/lang/String" "coder" "B" (.int (0 : Int32)) := D48 (Or.inr (hw _ (List.mem_of_getElem? (i := 30) rfl))) (ty := .byte) (by decide)
      have F_value_b48 : Fld Z h48 b48 "java/lang/String" "value" "[B" .null := D48 (Or.inr (hw _ (List.mem_of_getElem? (i := 32) rfl))) (ty := (.array .byte)) (by decide)
      show own_Go p e below s _ _ _ (T48.setTop (mkF m 128 #[iv p1, iv p2, iv p3, iv p4, iv p5, rv o_ARTICLE, rv b37, rv b38, .unset, .unset, .unset, .unset, .unset] [(.ref b48)]))
      refine own_go (fun zt zk => (XS.dup X48.here hx rfl (hb hby at_128) rfl rfl (XS.aload X48.here hx rfl (hb hby at_129) rfl rfl zk))) ?_
      show own_Go p e below s _ _ _ (T48.setTop (mkF m 131 #[iv p1, iv p2, iv p3, iv p4, iv p5, rv o_ARTICLE, rv b37, rv b38, .unset, .unset, .unset, .unset, .unset] [(.ref b38), (.ref b48), (.ref b48)]))
      obtain ⟨_, _, ⟨T49, L49, k49, n49⟩, -, X49, ⟨Lc49, hQ49, l49, y49, z49⟩, st49⟩ := X48.specialBack hx (y := (⟨"java/lang/String", "<init>", "([C)V"⟩ : MethodName)) rfl hown (mvT hZ (hw _ (List.mem_of_getElem? (i := 7) rfl))) (mvT hZ (hw _ (List.mem_of_getElem? (i := 8) rfl))) (mvT hZ (hw _ (List.mem_of_getElem? (i := 9) rfl))) (by decide) (StrChars.Road.backV (W := 1) hZ (own_hnew Z a0 hw) (kI := 4) (hw _ (List.mem_of_getElem? (i := 5) rfl)) (cs := [c39, c42, c45]) (bs := [(c39.toInt8.toInt32), (c42.toInt8.toInt32), (c45.toInt8.toInt32)]) (n := 3) g_b48 (Nat.le_trans Z0 Kp.1) Ex_b48 F_value_b48 F_coder_b48 V_b38 (S_o_COMPACT_STRINGS.ext O.2) nz_o_COMPACT_STRINGS rfl rfl (by decide) (by decide) (own_ac hr_c39 (own_ac hr_c42 (own_ac hr_c45 own_an))) rfl (by decide) (by decide)) (g := (mkF m 131 #[iv p1, iv p2, iv p3, iv p4, iv p5, rv o_ARTICLE, rv b37, rv b38, .unset, .unset, .unset, .unset, .unset] [(.ref b38), (.ref b48), (.ref b48)])) rfl (by rw [hml]; rfl) (Steps.refl _) (a := b48) (argsL := [(.ref b38)]) (rest := [(.ref b48)]) (lenOf own_pd___C_V rfl) rfl (by show 2 * 0 + _ ≤ _; exact Nat.le_of_eq rfl) (hb hby at_131) (fun _ _ => ⟨rfl, e48, (by decide : 4 + 1 ≤ _), (by decide : 12 + 3 ≤ _)⟩)
      dsimp only [Pt.U, Pt.locs, Pt.cells, Pt.slots] at X49 l49 y49 z49 st49 hQ49
      subst l49 y49 z49
      obtain ⟨rfl, Nq49, K49, -, Fc49, t49, kb49, -, sz49, -, Fv49, Vt49⟩ := hQ49
      have sz_t49 : h0.size ≤ t49 := Nat.le_trans Kp.1 sz49
      have g_t49 : n0 ≤ t49 := Nat.le_trans Z0 sz_t49
      have ne_b37_t49 : b37 ≠ t49 := Nat.ne_of_lt (Nat.lt_of_lt_of_le Ex_b37.lt sz49)
      have ne_t37_t49 : t37 ≠ t49 := Nat.ne_of_lt (Nat.lt_of_lt_of_le Vt37.lt sz49)
      have ne_b38_t49 : b38 ≠ t49 := Nat.ne_of_lt (Nat.lt_of_lt_of_le V_b38.lt sz49)
      have ne_b48_t49 : b48 ≠ t49 := Nat.ne_of_lt (Nat.lt_of_lt_of_le Ex_b48.lt sz49)
      have N49 := Fr.app N47 Nq49
      refine own_go (fun zt zk => st49.trans zk) ?_
      replace O := O.keep K49 (allS g_b48 all0)
      replace Kp := Kp.trans K49 (allS (Or.inr sz_b48) all0)
      replace Ex_b37 := Ex_b37.keep K49
      replace Fv37 := Fv37.keep K49 (ninS ne_b37_b48 nin0)
      replace Fc37 := Fc37.keep K49 (ninS ne_b37_b48 nin0)
      replace Vt37 := Vt37.keep K49 (ninS ne_t37_b48 nin0)
      replace V_b38 := V_b38.keep K49 (ninS ne_b38_b48 nin0)
      replace Ea_b38 := Ea_b38.keep K49
      replace Ex_b48 := Ex_b48.keep K49
      show own_Go p e below s _ _ _ (T49.setTop (mkF m 134 #[iv p1, iv p2, iv p3, iv p4, iv p5, rv o_ARTICLE, rv b37, rv b38, .unset, .unset, .unset, .unset, .unset] [(.ref b48)]))
      refine own_go (fun zt zk => (XS.astore X49.here hx rfl (hb hby at_134) rfl rfl (l' := #[iv p1, iv p2, iv p3, iv p4, iv p5, rv o_ARTICLE, rv b37, rv b38, rv b48, .unset, .unset, .unset, .unset]) rfl zk)) ?_
      show own_Go p e below s _ _ _ (T49.setTop (mkF m 136 #[iv p1, iv p2, iv p3, iv p4, iv p5, rv o_ARTICLE, rv b37, rv b38, rv b48, .unset, .unset, .unset, .unset] []))
      obtain ⟨T50, h50, X50, e50, E50, A50, D50, -, st50⟩ := newO X49 hx hZ hown (hw _ (List.mem_of_getElem? (i := 33) rfl)) (hw _ (List.mem_of_getElem? (i := 34) rfl)) (hw _ (List.mem_of_getElem? (i := 35) rfl)) rfl (g := (mkF m 136 #[iv p1, iv p2, iv p3, iv p4, iv p5, rv o_ARTICLE, rv b37, rv b38, rv b48, .unset, .unset, .unset, .unset] [])) rfl (hb hby at_136) (by decide) (by decide)
      obtain ⟨b50, g50⟩ : ∃ z, z = T49.heap.size := ⟨_, rfl⟩
      rw [← g50] at A50 D50 st50
      refine own_go st50 ?_
      have ne_o_ARTICLE_b50 : o_ARTICLE ≠ b50 := Nat.ne_of_lt (Nat.lt_of_lt_of_le (Ex_o_ARTICLE.ext O.2).lt (Nat.le_of_eq g50.symm))
      have ne_o_SECTION_b50 : o_SECTION ≠ b50 := Nat.ne_of_lt (Nat.lt_of_lt_of_le (Ex_o_SECTION.ext O.2).lt (Nat.le_of_eq g50.symm))
      have ne_b37_b50 : b37 ≠ b50 := Nat.ne_of_lt (Nat.lt_of_lt_of_le Ex_b37.lt (Nat.le_of_eq g50.symm))
      have ne_t37_b50 : t37 ≠ b50 := Nat.ne_of_lt (Nat.lt_of_lt_of_le Vt37.lt (Nat.le_of_eq g50.symm))
      have ne_b38_b50 : b38 ≠ b50 := Nat.ne_of_lt (Nat.lt_of_lt_of_le V_b38.lt (Nat.le_of_eq g50.symm))
      have ne_b48_b50 : b48 ≠ b50 := Nat.ne_of_lt (Nat.lt_of_lt_of_le Ex_b48.lt (Nat.le_of_eq g50.symm))
      have ne_t49_b50 : t49 ≠ b50 := Nat.ne_of_lt (Nat.lt_of_lt_of_le Vt49.lt (Nat.le_of_eq g50.symm))
      have sz_b50 : h0.size ≤ b50 := Nat.le_trans Kp.1 (Nat.le_of_eq g50.symm)
      have g_b50 : n0 ≤ b50 := Nat.le_trans Z0 sz_b50
      replace O := O.ext E50
      replace Kp := Kp.ext E50
      replace Ex_b37 := Ex_b37.ext E50
      replace Fv37 := Fv37.ext E50
      replace Fc37 := Fc37.ext E50
      replace Vt37 := Vt37.ext E50
      replace V_b38 := V_b38.ext E50
      replace Ea_b38 := Ea_b38.ext E50
      replace Ex_b48 := Ex_b48.ext E50
      replace Fc49 := Fc49.ext E50
      replace Fv49 := Fv49.ext E50
      replace Vt49 := Vt49.ext E50
      have Ex_b50 := A50
      have F_value_b50 : Fld Z h50 b50 "com/example/tranche/tranche/model/Stated" "value" "Ljava/lang/Object;" .null := D50 (Or.inr (hw _ (List.mem_of_getElem? (i := 46) rfl))) (ty := (.object "java/lang/Object")) (by decide)
      have F_span_b50 : Fld Z h50 b50 "com/example/tranche/tranche/model/Stated" "span" "Lcom/example/tranche/tranche/model/Span;" .null := D50 (Or.inr (hw _ (List.mem_of_getElem? (i := 48) rfl))) (ty := (.object "com/example/tranche/tranche/model/Span")) (by decide)
      show own_Go p e below s _ _ _ (T50.setTop (mkF m 139 #[iv p1, iv p2, iv p3, iv p4, iv p5, rv o_ARTICLE, rv b37, rv b38, rv b48, .unset, .unset, .unset, .unset] [(.ref b50)]))
      refine own_go (fun zt zk => (XS.dup X50.here hx rfl (hb hby at_139) rfl rfl (XS.aload X50.here hx rfl (hb hby at_140) rfl rfl (XS.aconstNull X50.here hx rfl (hb hby at_142) zk)))) ?_
      show own_Go p e below s _ _ _ (T50.setTop (mkF m 143 #[iv p1, iv p2, iv p3, iv p4, iv p5, rv o_ARTICLE, rv b37, rv b38, rv b48, .unset, .unset, .unset, .unset] [.null, (.ref b37), (.ref b50), (.ref b50)]))
      obtain ⟨_, _, ⟨T51, L51, k51, n51⟩, -, X51, ⟨Lc51, hQ51, l51, y51, z51⟩, st51⟩ := X50.specialBack hx (y := (⟨"com/example/tranche/tranche/model/Stated", "<init>", "(Ljava/lang/Object;Lcom/example/tranche/tranche/model/Span;)V"⟩ : MethodName)) rfl hown (mvT hZ (hw _ (List.mem_of_getElem? (i := 36) rfl))) (mvT hZ (hw _ (List.mem_of_getElem? (i := 37) rfl))) (mvT hZ (hw _ (List.mem_of_getElem? (i := 38) rfl))) (by decide) (backOf (W := 1) (own_rstated l Z a0 hw [] b50 b37  h50 n0 (Nat.le_trans Z0 Kp.1) Ex_b50 F_value_b50 F_span_b50 g_b50 ) hZ (hw _ (List.mem_of_getElem? (i := 38) rfl)) (hw _ (List.mem_of_getElem? (i := 35) rfl)) (by decide) (by decide)) (g := (mkF m 143 #[iv p1, iv p2, iv p3, iv p4, iv p5, rv o_ARTICLE, rv b37, rv b38, rv b48, .unset, .unset, .unset, .unset] [.null, (.ref b37), (.ref b50), (.ref b50)])) rfl (by rw [hml]; rfl) (Steps.refl _) (a := b50) (argsL := [(.ref b37), .null]) (rest := [(.ref b50)]) (lenOf own_pd__Ljava_lang_Object_Lcom_example_tranche_tranche_model_Span__V rfl) rfl (by show 2 * 0 + _ ≤ _; exact Nat.le_of_eq rfl) (hb hby at_143) (fun _ _ => ⟨rfl, e50, (by decide : 6 + 0 ≤ _), (by decide : 17 + 0 ≤ _)⟩)
      dsimp only [Pt.U, Pt.locs, Pt.cells, Pt.slots] at X51 l51 y51 z51 st51 hQ51
      subst l51 y51 z51
      obtain ⟨rfl, Nq51, K51, -, F_value_b50, F_span_b50⟩ := hQ51
      have N51 := Fr.app N49 Nq51
      refine own_go (fun zt zk => st51.trans zk) ?_
      replace O := O.keep K51 (allS g_b50 all0)
      replace Kp := Kp.trans K51 (allS (Or.inr sz_b50) all0)
      replace Ex_b37 := Ex_b37.keep K51
      replace Fv37 := Fv37.keep K51 (ninS ne_b37_b50 nin0)
      replace Fc37 := Fc37.keep K51 (ninS ne_b37_b50 nin0)
      replace Vt37 := Vt37.keep K51 (ninS ne_t37_b50 nin0)
      replace V_b38 := V_b38.keep K51 (ninS ne_b38_b50 nin0)
      replace Ea_b38 := Ea_b38.keep K51
      replace Ex_b48 := Ex_b48.keep K51
      replace Fc49 := Fc49.keep K51 (ninS ne_b48_b50 nin0)
      replace Fv49 := Fv49.keep K51 (ninS ne_b48_b50 nin0)
      replace Vt49 := Vt49.keep K51 (ninS ne_t49_b50 nin0)
      replace Ex_b50 := Ex_b50.keep K51
      show own_Go p e below s _ _ _ (T51.setTop (mkF m 146 #[iv p1, iv p2, iv p3, iv p4, iv p5, rv o_ARTICLE, rv b37, rv b38, rv b48, .unset, .unset, .unset, .unset] [(.ref b50)]))
      refine own_go (fun zt zk => (XS.astore X51.here hx rfl (hb hby at_146) rfl rfl (l' := #[iv p1, iv p2, iv p3, iv p4, iv p5, rv o_ARTICLE, rv b37, rv b38, rv b48, rv b50, .unset, .unset, .unset]) rfl zk)) ?_
      show own_Go p e below s _ _ _ (T51.setTop (mkF m 148 #[iv p1, iv p2, iv p3, iv p4, iv p5, rv o_ARTICLE, rv b37, rv b38, rv b48, rv b50, .unset, .unset, .unset] []))
      obtain ⟨T52, h52, X52, e52, E52, A52, D52, -, st52⟩ := newO X51 hx hZ hown (hw _ (List.mem_of_getElem? (i := 33) rfl)) (hw _ (List.mem_of_getElem? (i := 34) rfl)) (hw _ (List.mem_of_getElem? (i := 35) rfl)) rfl (g := (mkF m 148 #[iv p1, iv p2, iv p3, iv p4, iv p5, rv o_ARTICLE, rv b37, rv b38, rv b48, rv b50, .unset, .unset, .unset] [])) rfl (hb hby at_148) (by decide) (by decide)
      obtain ⟨b52, g52⟩ : ∃ z, z = T51.heap.size := ⟨_, rfl⟩
      rw [← g52] at A52 D52 st52
      refine own_go st52 ?_
      have ne_o_ARTICLE_b52 : o_ARTICLE ≠ b52 := Nat.ne_of_lt (Nat.lt_of_lt_of_le (Ex_o_ARTICLE.ext O.2).lt (Nat.le_of_eq g52.symm))
      have ne_o_SECTION_b52 : o_SECTION ≠ b52 := Nat.ne_of_lt (Nat.lt_of_lt_of_le (Ex_o_SECTION.ext O.2).lt (Nat.le_of_eq g52.symm))
      have ne_b37_b52 : b37 ≠ b52 := Nat.ne_of_lt (Nat.lt_of_lt_of_le Ex_b37.lt (Nat.le_of_eq g52.symm))
      have ne_t37_b52 : t37 ≠ b52 := Nat.ne_of_lt (Nat.lt_of_lt_of_le Vt37.lt (Nat.le_of_eq g52.symm))
      have ne_b38_b52 : b38 ≠ b52 := Nat.ne_of_lt (Nat.lt_of_lt_of_le V_b38.lt (Nat.le_of_eq g52.symm))
      have ne_b48_b52 : b48 ≠ b52 := Nat.ne_of_lt (Nat.lt_of_lt_of_le Ex_b48.lt (Nat.le_of_eq g52.symm))
      have ne_t49_b52 : t49 ≠ b52 := Nat.ne_of_lt (Nat.lt_of_lt_of_le Vt49.lt (Nat.le_of_eq g52.symm))
      have ne_b50_b52 : b50 ≠ b52 := Nat.ne_of_lt (Nat.lt_of_lt_of_le Ex_b50.lt (Nat.le_of_eq g52.symm))
      have sz_b52 : h0.size ≤ b52 := Nat.le_trans Kp.1 (Nat.le_of_eq g52.symm)
      have g_b52 : n0 ≤ b52 := Nat.le_trans Z0 sz_b52
      replace O := O.ext E52
      replace Kp := Kp.ext E52
      replace Ex_b37 := Ex_b37.ext E52
      replace Fv37 := Fv37.ext E52
      replace Fc37 := Fc37.ext E52
      replace Vt37 := Vt37.ext E52
      replace V_b38 := V_b38.ext E52
      replace Ea_b38 := Ea_b38.ext E52
      replace Ex_b48 := Ex_b48.ext E52
      replace Fc49 := Fc49.ext E52
      replace Fv49 := Fv49.ext E52
      replace Vt49 := Vt49.ext E52
      replace Ex_b50 := Ex_b50.ext E52
      replace F_value_b50 := F_value_b50.ext E52
      replace F_span_b50 := F_span_b50.ext E52
      have Ex_b52 := A52
      have F_value_b52 : Fld Z h52 b52 "com/example/tranche/tranche/model/Stated" "value" "Ljava/lang/Object;" .null := D52 (Or.inr (hw _ (List.mem_of_getElem? (i := 46) rfl))) (ty := (.object "java/lang/Object")) (by decide)
      have F_span_b52 : Fld Z h52 b52 "com/example/tranche/tranche/model/Stated" "span" "Lcom/example/tranche/tranche/model/Span;" .null := D52 (Or.inr (hw _ (List.mem_of_getElem? (i := 48) rfl))) (ty := (.object "com/example/tranche/tranche/model/Span")) (by decide)
      show own_Go p e below s _ _ _ (T52.setTop (mkF m 151 #[iv p1, iv p2, iv p3, iv p4, iv p5, rv o_ARTICLE, rv b37, rv b38, rv b48, rv b50, .unset, .unset, .unset] [(.ref b52)]))
      refine own_go (fun zt zk => (XS.dup X52.here hx rfl (hb hby at_151) rfl rfl (XS.aload X52.here hx rfl (hb hby at_152) rfl rfl (XS.aconstNull X52.here hx rfl (hb hby at_154) zk)))) ?_
      show own_Go p e below s _ _ _ (T52.setTop (mkF m 155 #[iv p1, iv p2, iv p3, iv p4, iv p5, rv o_ARTICLE, rv b37, rv b38, rv b48, rv b50, .unset, .unset, .unset] [.null, (.ref b48), (.ref b52), (.ref b52)]))
      obtain ⟨_, _, ⟨T53, L53, k53, n53⟩, -, X53, ⟨Lc53, hQ53, l53, y53, z53⟩, st53⟩ := X52.specialBack hx (y := (⟨"com/example/tranche/tranche/model/Stated", "<init>", "(Ljava/lang/Object;Lcom/example/tranche/tranche/model/Span;)V"⟩ : MethodName)) rfl hown (mvT hZ (hw _ (List.mem_of_getElem? (i := 36) rfl))) (mvT hZ (hw _ (List.mem_of_getElem? (i := 37) rfl))) (mvT hZ (hw _ (List.mem_of_getElem? (i := 38) rfl))) (by decide) (backOf (W := 1) (own_rstated l Z a0 hw [] b52 b48  h52 n0 (Nat.le_trans Z0 Kp.1) Ex_b52 F_value_b52 F_span_b52 g_b52 ) hZ (hw _ (List.mem_of_getElem? (i := 38) rfl)) (hw _ (List.mem_of_getElem? (i := 35) rfl)) (by decide) (by decide)) (g := (mkF m 155 #[iv p1, iv p2, iv p3, iv p4, iv p5, rv o_ARTICLE, rv b37, rv b38, rv b48, rv b50, .unset, .unset, .unset] [.null, (.ref b48), (.ref b52), (.ref b52)])) rfl (by rw [hml]; rfl) (Steps.refl _) (a := b52) (argsL := [(.ref b48), .null]) (rest := [(.ref b52)]) (lenOf own_pd__Ljava_lang_Object_Lcom_example_tranche_tranche_model_Span__V rfl) rfl (by show 2 * 0 + _ ≤ _; exact Nat.le_of_eq rfl) (hb hby at_155) (fun _ _ => ⟨rfl, e52, (by decide : 7 + 0 ≤ _), (by decide : 19 + 0 ≤ _)⟩)
      dsimp only [Pt.U, Pt.locs, Pt.cells, Pt.slots] at X53 l53 y53 z53 st53 hQ53
      subst l53 y53 z53
      obtain ⟨rfl, Nq53, K53, -, F_value_b52, F_span_b52⟩ := hQ53
      have N53 := Fr.app N51 Nq53
      refine own_go (fun zt zk => st53.trans zk) ?_
      replace O := O.keep K53 (allS g_b52 all0)
      replace Kp := Kp.trans K53 (allS (Or.inr sz_b52) all0)
      replace Ex_b37 := Ex_b37.keep K53
      replace Fv37 := Fv37.keep K53 (ninS ne_b37_b52 nin0)
      replace Fc37 := Fc37.keep K53 (ninS ne_b37_b52 nin0)
      replace Vt37 := Vt37.keep K53 (ninS ne_t37_b52 nin0)
      replace V_b38 := V_b38.keep K53 (ninS ne_b38_b52 nin0)
      replace Ea_b38 := Ea_b38.keep K53
      replace Ex_b48 := Ex_b48.keep K53
      replace Fc49 := Fc49.keep K53 (ninS ne_b48_b52 nin0)
      replace Fv49 := Fv49.keep K53 (ninS ne_b48_b52 nin0)
      replace Vt49 := Vt49.keep K53 (ninS ne_t49_b52 nin0)
      replace Ex_b50 := Ex_b50.keep K53
      replace F_value_b50 := F_value_b50.keep K53 (ninS ne_b50_b52 nin0)
      replace F_span_b50 := F_span_b50.keep K53 (ninS ne_b50_b52 nin0)
      replace Ex_b52 := Ex_b52.keep K53
      show own_Go p e below s _ _ _ (T53.setTop (mkF m 158 #[iv p1, iv p2, iv p3, iv p4, iv p5, rv o_ARTICLE, rv b37, rv b38, rv b48, rv b50, .unset, .unset, .unset] [(.ref b52)]))
      refine own_go (fun zt zk => (XS.astore X53.here hx rfl (hb hby at_158) rfl rfl (l' := #[iv p1, iv p2, iv p3, iv p4, iv p5, rv o_ARTICLE, rv b37, rv b38, rv b48, rv b50, rv b52, .unset, .unset]) rfl zk)) ?_
      show own_Go p e below s _ _ _ (T53.setTop (mkF m 160 #[iv p1, iv p2, iv p3, iv p4, iv p5, rv o_ARTICLE, rv b37, rv b38, rv b48, rv b50, rv b52, .unset, .unset] []))
      obtain ⟨T54, h54, X54, e54, E54, A54, D54, -, st54⟩ := newO X53 hx hZ hown (hw _ (List.mem_of_getElem? (i := 49) rfl)) (hw _ (List.mem_of_getElem? (i := 50) rfl)) (hw _ (List.mem_of_getElem? (i := 51) rfl)) rfl (g := (mkF m 160 #[iv p1, iv p2, iv p3, iv p4, iv p5, rv o_ARTICLE, rv b37, rv b38, rv b48, rv b50, rv b52, .unset, .unset] [])) rfl (hb hby at_160) (by decide) (by decide)
      obtain ⟨b54, g54⟩ : ∃ z, z = T53.heap.size := ⟨_, rfl⟩
      rw [← g54] at A54 D54 st54
      refine own_go st54 ?_
      have ne_o_ARTICLE_b54 : o_ARTICLE ≠ b54 := Nat.ne_of_lt (Nat.lt_of_lt_of_le (Ex_o_ARTICLE.ext O.2).lt (Nat.le_of_eq g54.symm))
      have ne_o_SECTION_b54 : o_SECTION ≠ b54 := Nat.ne_of_lt (Nat.lt_of_lt_of_le (Ex_o_SECTION.ext O.2).lt (Nat.le_of_eq g54.symm))
      have ne_b37_b54 : b37 ≠ b54 := Nat.ne_of_lt (Nat.lt_of_lt_of_le Ex_b37.lt (Nat.le_of_eq g54.symm))
      have ne_t37_b54 : t37 ≠ b54 := Nat.ne_of_lt (Nat.lt_of_lt_of_le Vt37.lt (Nat.le_of_eq g54.symm))
      have ne_b38_b54 : b38 ≠ b54 := Nat.ne_of_lt (Nat.lt_of_lt_of_le V_b38.lt (Nat.le_of_eq g54.symm))
      have ne_b48_b54 : b48 ≠ b54 := Nat.ne_of_lt (Nat.lt_of_lt_of_le Ex_b48.lt (Nat.le_of_eq g54.symm))
      have ne_t49_b54 : t49 ≠ b54 := Nat.ne_of_lt (Nat.lt_of_lt_of_le Vt49.lt (Nat.le_of_eq g54.symm))
      have ne_b50_b54 : b50 ≠ b54 := Nat.ne_of_lt (Nat.lt_of_lt_of_le Ex_b50.lt (Nat.le_of_eq g54.symm))
      have ne_b52_b54 : b52 ≠ b54 := Nat.ne_of_lt (Nat.lt_of_lt_of_le Ex_b52.lt (Nat.le_of_eq g54.symm))
      have sz_b54 : h0.size ≤ b54 := Nat.le_trans Kp.1 (Nat.le_of_eq g54.symm)
      have g_b54 : n0 ≤ b54 := Nat.le_trans Z0 sz_b54
      replace O := O.ext E54
      replace Kp := Kp.ext E54
      replace Ex_b37 := Ex_b37.ext E54
      replace Fv37 := Fv37.ext E54
      replace Fc37 := Fc37.ext E54
      replace Vt37 := Vt37.ext E54
      replace V_b38 := V_b38.ext E54
      replace Ea_b38 := Ea_b38.ext E54
      replace Ex_b48 := Ex_b48.ext E54
      replace Fc49 := Fc49.ext E54
      replace Fv49 := Fv49.ext E54
      replace Vt49 := Vt49.ext E54
      replace Ex_b50 := Ex_b50.ext E54
      replace F_value_b50 := F_value_b50.ext E54
      replace F_span_b50 := F_span_b50.ext E54
      replace Ex_b52 := Ex_b52.ext E54
      replace F_value_b52 := F_value_b52.ext E54
      replace F_span_b52 := F_span_b52.ext E54
      have Ex_b54 := A54
      have F_kind_b54 : Fld Z h54 b54 "com/example/tranche/tranche/model/Heading" "kind" "Lcom/example/tranche/tranche/model/Heading$Kind;" .null := D54 (Or.inr (hw _ (List.mem_of_getElem? (i := 57) rfl))) (ty := (.object "com/example/tranche/tranche/model/Heading$Kind")) (by decide)
      have F_number_b54 : Fld Z h54 b54 "com/example/tranche/tranche/model/Heading" "number" "Lcom/example/tranche/tranche/model/Stated;" .null := D54 (Or.inr (hw _ (List.mem_of_getElem? (i := 59) rfl))) (ty := (.object "com/example/tranche/tranche/model/Stated")) (by decide)
      have F_title_b54 : Fld Z h54 b54 "com/example/tranche/tranche/model/Heading" "title" "Lcom/example/tranche/tranche/model/Stated;" .null := D54 (Or.inr (hw _ (List.mem_of_getElem? (i := 61) rfl))) (ty := (.object "com/example/tranche/tranche/model/Stated")) (by decide)
      have F_span_b54 : Fld Z h54 b54 "com/example/tranche/tranche/model/Heading" "span" "Lcom/example/tranche/tranche/model/Span;" .null := D54 (Or.inr (hw _ (List.mem_of_getElem? (i := 63) rfl))) (ty := (.object "com/example/tranche/tranche/model/Span")) (by decide)
      show own_Go p e below s _ _ _ (T54.setTop (mkF m 163 #[iv p1, iv p2, iv p3, iv p4, iv p5, rv o_ARTICLE, rv b37, rv b38, rv b48, rv b50, rv b52, .unset, .unset] [(.ref b54)]))
      refine own_go (fun zt zk => (XS.dup X54.here hx rfl (hb hby at_163) rfl rfl (XS.aload X54.here hx rfl (hb hby at_164) rfl rfl (XS.aload X54.here hx rfl (hb hby at_166) rfl rfl (XS.aload X54.here hx rfl (hb hby at_168) rfl rfl (XS.aconstNull X54.here hx rfl (hb hby at_170) zk)))))) ?_
      show own_Go p e below s _ _ _ (T54.setTop (mkF m 171 #[iv p1, iv p2, iv p3, iv p4, iv p5, rv o_ARTICLE, rv b37, rv b38, rv b48, rv b50, rv b52, .unset, .unset] [.null, (.ref b52), (.ref b50), (.ref o_ARTICLE), (.ref b54), (.ref b54)]))
      obtain ⟨_, _, ⟨T55, L55, k55, n55⟩, -, X55, ⟨Lc55, hQ55, l55, y55, z55⟩, st55⟩ := X54.specialBack hx (y := (⟨"com/example/tranche/tranche/model/Heading", "<init>", "(Lcom/example/tranche/tranche/model/Heading$Kind;Lcom/example/tranche/tranche/model/Stated;Lcom/example/tranche/tranche/model/Stated;Lcom/example/tranche/tranche/model/Span;)V"⟩ : MethodName)) rfl hown (mvT hZ (hw _ (List.mem_of_getElem? (i := 52) rfl))) (mvT hZ (hw _ (List.mem_of_getElem? (i := 53) rfl))) (mvT hZ (hw _ (List.mem_of_getElem? (i := 54) rfl))) (by decide) (backOf (W := 1) (own_rheading l Z a0 hw [] b54 o_ARTICLE b50 b52  h54 n0 (Nat.le_trans Z0 Kp.1) Ex_b54 F_kind_b54 F_number_b54 F_title_b54 F_span_b54 g_b54 ) hZ (hw _ (List.mem_of_getElem? (i := 54) rfl)) (hw _ (List.mem_of_getElem? (i := 51) rfl)) (by decide) (by decide)) (g := (mkF m 171 #[iv p1, iv p2, iv p3, iv p4, iv p5, rv o_ARTICLE, rv b37, rv b38, rv b48, rv b50, rv b52, .unset, .unset] [.null, (.ref b52), (.ref b50), (.ref o_ARTICLE), (.ref b54), (.ref b54)])) rfl (by rw [hml]; rfl) (Steps.refl _) (a := b54) (argsL := [(.ref o_ARTICLE), (.ref b50), (.ref b52), .null]) (rest := [(.ref b54)]) (lenOf own_pd__Lcom_example_tranche_tranche_model_Heading_Kind_Lcom_example_tranche_tranche_model_Stated_Lcom_example_tranche_tranche_model_Stated_Lcom_example_tranche_tranche_model_Span__V rfl) rfl (by show 2 * 0 + _ ≤ _; exact Nat.le_of_eq rfl) (hb hby at_171) (fun _ _ => ⟨rfl, e54, (by decide : 8 + 0 ≤ _), (by decide : 23 + 0 ≤ _)⟩)
      dsimp only [Pt.U, Pt.locs, Pt.cells, Pt.slots] at X55 l55 y55 z55 st55 hQ55
      subst l55 y55 z55
      obtain ⟨rfl, Nq55, K55, -, F_kind_b54, F_number_b54, F_title_b54, F_span_b54⟩ := hQ55
      have N55 := Fr.app N53 Nq55
      refine own_go (fun zt zk => st55.trans zk) ?_
      replace O := O.keep K55 (allS g_b54 all0)
      replace Kp := Kp.trans K55 (allS (Or.inr sz_b54) all0)
      replace Ex_b37 := Ex_b37.keep K55
      replace Fv37 := Fv37.keep K55 (ninS ne_b37_b54 nin0)
      replace Fc37 := Fc37.keep K55 (ninS ne_b37_b54 nin0)
      replace Vt37 := Vt37.keep K55 (ninS ne_t37_b54 nin0)
      replace V_b38 := V_b38.keep K55 (ninS ne_b38_b54 nin0)
      replace Ea_b38 := Ea_b38.keep K55
      replace Ex_b48 := Ex_b48.keep K55
      replace Fc49 := Fc49.keep K55 (ninS ne_b48_b54 nin0)
      replace Fv49 := Fv49.keep K55 (ninS ne_b48_b54 nin0)
      replace Vt49 := Vt49.keep K55 (ninS ne_t49_b54 nin0)
      replace Ex_b50 := Ex_b50.keep K55
      replace F_value_b50 := F_value_b50.keep K55 (ninS ne_b50_b54 nin0)
      replace F_span_b50 := F_span_b50.keep K55 (ninS ne_b50_b54 nin0)
      replace Ex_b52 := Ex_b52.keep K55
      replace F_value_b52 := F_value_b52.keep K55 (ninS ne_b52_b54 nin0)
      replace F_span_b52 := F_span_b52.keep K55 (ninS ne_b52_b54 nin0)
      replace Ex_b54 := Ex_b54.keep K55
      show own_Go p e below s _ _ _ (T55.setTop (mkF m 174 #[iv p1, iv p2, iv p3, iv p4, iv p5, rv o_ARTICLE, rv b37, rv b38, rv b48, rv b50, rv b52, .unset, .unset] [(.ref b54)]))
      refine own_go (fun zt zk => (XS.astore X55.here hx rfl (hb hby at_174) rfl rfl (l' := #[iv p1, iv p2, iv p3, iv p4, iv p5, rv o_ARTICLE, rv b37, rv b38, rv b48, rv b50, rv b52, rv b54, .unset]) rfl (XS.aload X55.here hx rfl (hb hby at_176) rfl rfl zk))) ?_
      show own_Go p e below s _ _ _ (T55.setTop (mkF m 178 #[iv p1, iv p2, iv p3, iv p4, iv p5, rv o_ARTICLE, rv b37, rv b38, rv b48, rv b50, rv b52, rv b54, .unset] [(.ref b54)]))
      obtain ⟨_, _, ⟨T56, L56, k56, n56⟩, -, X56, ⟨Lc56, hQ56, l56, y56, z56⟩, st56⟩ := Jvm.LawKit.callS X55 hx (y := (⟨"com/example/tranche/tranche/service/HeadingNumber", "of", "(Lcom/example/tranche/tranche/model/Heading;)Lcom/example/tranche/tranche/service/HeadingNumber;"⟩ : MethodName)) hown (mvT hZ (hw _ (List.mem_of_getElem? (i := 64) rfl))) (mvT hZ (hw _ (List.mem_of_getElem? (i := 65) rfl))) (mvT hZ (hw _ (List.mem_of_getElem? (i := 66) rfl))) (mvT hZ (hw _ (List.mem_of_getElem? (i := 67) rfl))) (by decide) (backOf (W := 0) (own_rof l Z a0 hw [] b54 o_ARTICLE b50 b37 T55.heap n0 (Nat.le_trans Z0 Kp.1) Ex_b54 F_kind_b54 F_number_b54 Ex_b50 F_value_b50 Ex_b37) hZ (hw _ (List.mem_of_getElem? (i := 67) rfl)) (hw _ (List.mem_of_getElem? (i := 66) rfl)) (by decide) (by decide)) (g := (mkF m 178 #[iv p1, iv p2, iv p3, iv p4, iv p5, rv o_ARTICLE, rv b37, rv b38, rv b48, rv b50, rv b52, rv b54, .unset] [(.ref b54)])) rfl (by rw [hml]; rfl) (argsL := [(.ref b54)]) (rest := []) (lenOf own_pd__Lcom_example_tranche_tranche_model_Heading__Lcom_example_tranche_tranche_service_HeadingNumber_ rfl) rfl (by show 2 * 0 + _ ≤ _; exact Nat.le_of_eq rfl) (hb hby at_178) (fun _ _ => ⟨rfl, rfl, (by decide : 8 + 1 ≤ _), (by decide : 23 + 2 ≤ _)⟩)
      dsimp only [Pt.U, Pt.locs, Pt.cells, Pt.slots] at X56 l56 y56 z56 st56 hQ56
      subst l56 y56 z56
      obtain ⟨r56, rfl, Nq56, K56, sr56, Ex_r56, Fk56, Fn56⟩ := hQ56
      have N56 := Fr.app N55 Nq56
      refine own_go st56 ?_
      replace O := O.keep K56 all0
      replace Kp := Kp.trans K56 all0
      replace Ex_b37 := Ex_b37.keep K56
      replace Fv37 := Fv37.keep K56 nin0
      replace Fc37 := Fc37.keep K56 nin0
      replace Vt37 := Vt37.keep K56 nin0
      replace V_b38 := V_b38.keep K56 nin0
      replace Ea_b38 := Ea_b38.keep K56
      replace Ex_b48 := Ex_b48.keep K56
      replace Fc49 := Fc49.keep K56 nin0
      replace Fv49 := Fv49.keep K56 nin0
      replace Vt49 := Vt49.keep K56 nin0
      replace Ex_b50 := Ex_b50.keep K56
      replace F_value_b50 := F_value_b50.keep K56 nin0
      replace F_span_b50 := F_span_b50.keep K56 nin0
      replace Ex_b52 := Ex_b52.keep K56
      replace F_value_b52 := F_value_b52.keep K56 nin0
      replace F_span_b52 := F_span_b52.keep K56 nin0
      replace Ex_b54 := Ex_b54.keep K56
      replace F_kind_b54 := F_kind_b54.keep K56 nin0
      replace F_number_b54 := F_number_b54.keep K56 nin0
      replace F_title_b54 := F_title_b54.keep K56 nin0
      replace F_span_b54 := F_span_b54.keep K56 nin0
      show own_Go p e below s _ _ _ (T56.setTop (mkF m 181 #[iv p1, iv p2, iv p3, iv p4, iv p5, rv o_ARTICLE, rv b37, rv b38, rv b48, rv b50, rv b52, rv b54, .unset] [(.ref r56)]))
      refine own_go (fun zt zk => (XS.astore X56.here hx rfl (hb hby at_181) rfl rfl (l' := #[iv p1, iv p2, iv p3, iv p4, iv p5, rv o_ARTICLE, rv b37, rv b38, rv b48, rv b50, rv b52, rv b54, rv r56]) rfl (XS.aload X56.here hx rfl (hb hby at_183) rfl rfl (XS.ifnullNo X56.here hx rfl (hb hby at_185) rfl (XS.aload X56.here hx rfl (hb hby at_188) rfl rfl zk))))) ?_
      show own_Go p e below s _ _ _ (T56.setTop (mkF m 190 #[iv p1, iv p2, iv p3, iv p4, iv p5, rv o_ARTICLE, rv b37, rv b38, rv b48, rv b50, rv b52, rv b54, rv r56] [(.ref r56)]))
      obtain ⟨cq57, kq57, qa57, qb57, qc57⟩ := isOf hZ rfl Ex_r56
      obtain ⟨_, _, ⟨T57, L57, k57, n57⟩, -, X57, ⟨Lc57, hQ57, l57, y57, z57⟩, st57⟩ := X56.virtualBack hx (y := (⟨"com/example/tranche/tranche/service/HeadingNumber", "kind", "()Lcom/example/tranche/tranche/model/Heading$Kind;"⟩ : MethodName)) (z := (⟨"com/example/tranche/tranche/service/HeadingNumber", "kind", "()Lcom/example/tranche/tranche/model/Heading$Kind;"⟩ : MethodName)) hown (mvT hZ (hw _ (List.mem_of_getElem? (i := 94) rfl))) (mvT hZ (hw _ (List.mem_of_getElem? (i := 95) rfl))) (notFace_of_selects (args := #[]) (mvT hZ (hw _ (List.mem_of_getElem? (i := 97) rfl)))) (mvT hZ (hw _ (List.mem_of_getElem? (i := 97) rfl))) (mvT hZ (hw _ (List.mem_of_getElem? (i := 96) rfl))) (by decide) (backOf (W := 0) (own_gkind2 l Z a0 hw [] r56 o_ARTICLE T56.heap n0 (Nat.le_trans Z0 Kp.1) Fk56) hZ (hw _ (List.mem_of_getElem? (i := 98) rfl)) (hw _ (List.mem_of_getElem? (i := 66) rfl)) (by decide) (by decide)) qa57 qc57 (g := (mkF m 190 #[iv p1, iv p2, iv p3, iv p4, iv p5, rv o_ARTICLE, rv b37, rv b38, rv b48, rv b50, rv b52, rv b54, rv r56] [(.ref r56)])) rfl (by rw [hml]; rfl) (Steps.refl _) (argsL := []) (rest := []) (lenOf own_pd___Lcom_example_tranche_tranche_model_Heading_Kind_ rfl) rfl (by show 2 * 0 + _ ≤ _; exact Nat.le_of_eq rfl) (hb hby at_190) (fun _ _ => ⟨rfl, rfl, (by decide : 9 + 0 ≤ _), (by decide : 25 + 0 ≤ _)⟩)
      dsimp only [Pt.U, Pt.locs, Pt.cells, Pt.slots] at X57 l57 y57 z57 st57 hQ57
      subst l57 y57 z57
      obtain ⟨rfl, Nq57, e57⟩ := hQ57
      have N57 := Fr.app N56 Nq57
      refine own_go (fun zt zk => st57.trans zk) ?_
      show own_Go p e below s _ _ _ (T57.setTop (mkF m 193 #[iv p1, iv p2, iv p3, iv p4, iv p5, rv o_ARTICLE, rv b37, rv b38, rv b48, rv b50, rv b52, rv b54, rv r56] [(.ref o_ARTICLE)]))
      refine own_go (fun zt zk => (XS.aload X57.here hx rfl (hb hby at_193) rfl rfl zk)) ?_
      show own_Go p e below s _ _ _ (T57.setTop (mkF m 195 #[iv p1, iv p2, iv p3, iv p4, iv p5, rv o_ARTICLE, rv b37, rv b38, rv b48, rv b50, rv b52, rv b54, rv r56] [(.ref o_ARTICLE), (.ref o_ARTICLE)]))
      refine own_go (fun zt zk => Jvm.RoadKit.acmp (g := (mkF m 195 #[iv p1, iv p2, iv p3, iv p4, iv p5, rv o_ARTICLE, rv b37, rv b38, rv b48, rv b50, rv b52, rv b54, rv r56] [(.ref o_ARTICLE), (.ref o_ARTICLE)])) X57 hx rfl rfl rfl (pc0 := 195) (pc' := 198) (same := true) rfl (hb hby at_195) rfl (decide_eq_true rfl) (by decide) (by decide) zk) ?_
      show own_Go p e below s _ _ _ (T57.setTop (mkF m 198 #[iv p1, iv p2, iv p3, iv p4, iv p5, rv o_ARTICLE, rv b37, rv b38, rv b48, rv b50, rv b52, rv b54, rv r56] []))
      refine own_go (fun zt zk => (XS.aload X57.here hx rfl (hb hby at_198) rfl rfl (XS.aload X57.here hx rfl (hb hby at_200) rfl rfl zk))) ?_
      show own_Go p e below s _ _ _ (T57.setTop (mkF m 202 #[iv p1, iv p2, iv p3, iv p4, iv p5, rv o_ARTICLE, rv b37, rv b38, rv b48, rv b50, rv b52, rv b54, rv r56] [(.ref r56), (.ref b37)]))
      obtain ⟨cq58, kq58, qa58, qb58, qc58⟩ := isOf hZ e57 Ex_r56
      obtain ⟨_, _, ⟨T58, L58, k58, n58⟩, -, X58, ⟨Lc58, hQ58, l58, y58, z58⟩, st58⟩ := X57.virtualBack hx (y := (⟨"com/example/tranche/tranche/service/HeadingNumber", "number", "()Ljava/lang/String;"⟩ : MethodName)) (z := (⟨"com/example/tranche/tranche/service/HeadingNumber", "number", "()Ljava/lang/String;"⟩ : MethodName)) hown (mvT hZ (hw _ (List.mem_of_getElem? (i := 99) rfl))) (mvT hZ (hw _ (List.mem_of_getElem? (i := 100) rfl))) (notFace_of_selects (args := #[]) (mvT hZ (hw _ (List.mem_of_getElem? (i := 102) rfl)))) (mvT hZ (hw _ (List.mem_of_getElem? (i := 102) rfl))) (mvT hZ (hw _ (List.mem_of_getElem? (i := 101) rfl))) (by decide) (backOf (W := 1) (own_gnumber2 l Z a0 hw [] r56 b37 T56.heap n0 (Nat.le_trans Z0 Kp.1) Fn56) hZ (hw _ (List.mem_of_getElem? (i := 103) rfl)) (hw _ (List.mem_of_getElem? (i := 66) rfl)) (by decide) (by decide)) qa58 qc58 (g := (mkF m 202 #[iv p1, iv p2, iv p3, iv p4, iv p5, rv o_ARTICLE, rv b37, rv b38, rv b48, rv b50, rv b52, rv b54, rv r56] [(.ref r56), (.ref b37)])) rfl (by rw [hml]; rfl) (Steps.refl _) (argsL := []) (rest := [(.ref b37)]) (lenOf own_pd___Ljava_lang_String_ rfl) rfl (by show 2 * 0 + _ ≤ _; exact Nat.le_of_eq rfl) (hb hby at_202) (fun _ _ => ⟨rfl, e57, (by decide : 9 + 0 ≤ _), (by decide : 25 + 0 ≤ _)⟩)
      dsimp only [Pt.U, Pt.locs, Pt.cells, Pt.slots] at X58 l58 y58 z58 st58 hQ58
      subst l58 y58 z58
      obtain ⟨rfl, Nq58, e58⟩ := hQ58
      have N58 := Fr.app N57 Nq58
      refine own_go (fun zt zk => st58.trans zk) ?_
      show own_Go p e below s _ _ _ (T58.setTop (mkF m 205 #[iv p1, iv p2, iv p3, iv p4, iv p5, rv o_ARTICLE, rv b37, rv b38, rv b48, rv b50, rv b52, rv b54, rv r56] [(.ref b37), (.ref b37)]))
      obtain ⟨cq59, kq59, qa59, qb59, qc59⟩ := isOf hZ e58 Ex_b37
      obtain ⟨_, _, ⟨T59, L59, k59, n59⟩, -, X59, ⟨Lc59, hQ59, l59, y59, z59⟩, st59⟩ := X58.virtualBack hx (y := (⟨"java/lang/String", "equals", "(Ljava/lang/Object;)Z"⟩ : MethodName)) (z := (⟨"java/lang/String", "equals", "(Ljava/lang/Object;)Z"⟩ : MethodName)) hown (mvT hZ (hw _ (List.mem_of_getElem? (i := 104) rfl))) (mvT hZ (hw _ (List.mem_of_getElem? (i := 105) rfl))) (notFace_of_selects (args := #[]) (mvT hZ (hw _ (List.mem_of_getElem? (i := 107) rfl)))) (mvT hZ (hw _ (List.mem_of_getElem? (i := 107) rfl))) (mvT hZ (hw _ (List.mem_of_getElem? (i := 106) rfl))) (by decide) (backOf (W := 0) (own_reqs l Z a0 hw [] b37  T56.heap n0 (Nat.le_trans Z0 Kp.1) ) hZ (hw _ (List.mem_of_getElem? (i := 108) rfl)) (hw _ (List.mem_of_getElem? (i := 6) rfl)) (by decide) (by decide)) qa59 qc59 (g := (mkF m 205 #[iv p1, iv p2, iv p3, iv p4, iv p5, rv o_ARTICLE, rv b37, rv b38, rv b48, rv b50, rv b52, rv b54, rv r56] [(.ref b37), (.ref b37)])) rfl (by rw [hml]; rfl) (Steps.refl _) (argsL := [(.ref b37)]) (rest := []) (lenOf own_pd__Ljava_lang_Object__Z rfl) rfl (by show 2 * 0 + _ ≤ _; exact Nat.le_of_eq rfl) (hb hby at_205) (fun _ _ => ⟨rfl, e58, (by decide : 9 + 0 ≤ _), (by decide : 25 + 0 ≤ _)⟩)
      dsimp only [Pt.U, Pt.locs, Pt.cells, Pt.slots] at X59 l59 y59 z59 st59 hQ59
      subst l59 y59 z59
      obtain ⟨rfl, Nq59, e59⟩ := hQ59
      have N59 := Fr.app N58 Nq59
      refine own_go (fun zt zk => st59.trans zk) ?_
      show own_Go p e below s _ _ _ (T59.setTop (mkF m 208 #[iv p1, iv p2, iv p3, iv p4, iv p5, rv o_ARTICLE, rv b37, rv b38, rv b48, rv b50, rv b52, rv b54, rv r56] [(.int (1 : Int32))]))
      refine own_go (fun zt zk => (XS.ifNo X59.here hx rfl (hb hby at_208) rfl ((if0 _ _).trans (feq ((by decide) : ¬ ((1 : Int32) = (0 : Int32)))).1) (XS.iconst X59.here hx rfl (hb hby at_211) (XS.goto X59.here hx rfl (pc0 := 212) (pc' := 216) rfl (hb hby at_212) (by decide) (by decide) zk)))) ?_
      show own_Go p e below s _ _ _ (T59.setTop (mkF m 216 #[iv p1, iv p2, iv p3, iv p4, iv p5, rv o_ARTICLE, rv b37, rv b38, rv b48, rv b50, rv b52, rv b54, rv r56] [(.int (1 : Int32))]))
      exact own_fin X59 Bd.notSynchronized (fun h => by rw [Bd.returns] at h; cases h) (fun fs hr => retN X59 hx (t := .boolean) Bd.returns (by simp) (hb hby at_216) hr) (by rw [e59]; exact ⟨rfl, N59⟩) (by decide) (by decide)
  · refine own_go (fun zt zk => (XS.ifNo X0.here hx rfl (hb hby at_3) rfl ((if0 _ _).trans (feq (ha : ¬ ((p1 &&& (1 : Int32)) = (0 : Int32)))).1) zk)) ?_
    show own_Go p e below s _ _ _ (s₁.setTop (mkF m 6 #[iv p1, iv p2, iv p3, iv p4, iv p5, .unset, .unset, .unset, .unset, .unset, .unset, .unset, .unset] []))
    obtain ⟨T60, X60, e60, st60⟩ := getS2 X0 hx hZ hown (host := "") (Or.inl (hw _ (List.mem_of_getElem? (i := 109) rfl))) Via.refl e0 (S_o_SECTION.ext O.2) (g := (mkF m 6 #[iv p1, iv p2, iv p3, iv p4, iv p5, .unset, .unset, .unset, .unset, .unset, .unset, .unset, .unset] [])) rfl (hb hby at_6)
    refine own_go st60 ?_
    show own_Go p e below s _ _ _ (T60.setTop (mkF m 9 #[iv p1, iv p2, iv p3, iv p4, iv p5, .unset, .unset, .unset, .unset, .unset, .unset, .unset, .unset] [(.ref o_SECTION)]))
    refine own_go (fun zt zk => (XS.goto X60.here hx rfl (pc0 := 9) (pc' := 15) rfl (hb hby at_9) (by decide) (by decide) (XS.astore X60.here hx rfl (hb hby at_15) rfl rfl (l' := #[iv p1, iv p2, iv p3, iv p4, iv p5, rv o_SECTION, .unset, .unset, .unset, .unset, .unset, .unset, .unset]) rfl (XS.iloadN X60.here hx rfl (hb hby at_17) rfl (XS.iconst X60.here hx rfl (hb hby at_18) (XS.iand X60.here hx rfl (hb hby at_19) rfl zk)))))) ?_
    show own_Go p e below s _ _ _ (T60.setTop (mkF m 20 #[iv p1, iv p2, iv p3, iv p4, iv p5, rv o_SECTION, .unset, .unset, .unset, .unset, .unset, .unset, .unset] [(.int (p1 &&& (2 : Int32)))]))
    by_cases hB : (p1 &&& (2 : Int32)) = (0 : Int32)
    · refine own_go (fun zt zk => (XS.ifYes X60.here hx rfl (pc0 := 20) (pc' := 37) rfl (hb hby at_20) rfl ((if0 _ _).trans (teq (hB : (p1 &&& (2 : Int32)) = (0 : Int32))).1) (by decide) (by decide) (XS.iconst X60.here hx rfl (hb hby at_37) zk))) ?_
      show own_Go p e below s _ _ _ (T60.setTop (mkF m 38 #[iv p1, iv p2, iv p3, iv p4, iv p5, rv o_SECTION, .unset, .unset, .unset, .unset, .unset, .unset, .unset] [(.int (3 : Int32))]))
      obtain ⟨T61, h61, k61, X61, e61, E61, A61, Ea61, st61⟩ := newPE X60 hx hZ (hw _ (List.mem_of_getElem? (i := 3) rfl)) e60 (g := (mkF m 38 #[iv p1, iv p2, iv p3, iv p4, iv p5, rv o_SECTION, .unset, .unset, .unset, .unset, .unset, .unset, .unset] [(.int (3 : Int32))])) rfl (hb hby at_38) rfl (by decide) (cap := 3) (by decide) (by decide) (by decide) (by decide) (ad := "[C") (by decide)
      obtain ⟨b61, g61⟩ : ∃ z, z = h0.size := ⟨_, rfl⟩
      rw [← g61] at A61 Ea61 st61
      refine own_go st61 ?_
      have ne_o_ARTICLE_b61 : o_ARTICLE ≠ b61 := Nat.ne_of_lt (Nat.lt_of_lt_of_le (Ex_o_ARTICLE.ext O.2).lt (Nat.le_of_eq g61.symm))
      have ne_o_SECTION_b61 : o_SECTION ≠ b61 := Nat.ne_of_lt (Nat.lt_of_lt_of_le (Ex_o_SECTION.ext O.2).lt (Nat.le_of_eq g61.symm))
      have sz_b61 : h0.size ≤ b61 := Nat.le_trans Kp.1 (Nat.le_of_eq g61.symm)
      have g_b61 : n0 ≤ b61 := Nat.le_trans Z0 sz_b61
      replace O := O.ext E61
      replace Kp := Kp.ext E61
      have V_b61 : Arv Z h61 b61 k61 .char (3 : Int32) [(.int (0 : Int32)), (.int (0 : Int32)), (.int (0 : Int32))] (.int (0 : Int32)) := (Arv.new A61 (by decide)).pad (pad_rep [] (.int (0 : Int32)) 3)
      have Ea_b61 := Ea61
      show own_Go p e below s _ _ _ (T61.setTop (mkF m 40 #[iv p1, iv p2, iv p3, iv p4, iv p5, rv o_SECTION, .unset, .unset, .unset, .unset, .unset, .unset, .unset] [(.ref b61)]))
      refine own_go (fun zt zk => (XS.astore X61.here hx rfl (hb hby at_40) rfl rfl (l' := #[iv p1, iv p2, iv p3, iv p4, iv p5, rv o_SECTION, .unset, rv b61, .unset, .unset, .unset, .unset, .unset]) rfl (XS.aload X61.here hx rfl (hb hby at_42) rfl rfl (XS.iconst X61.here hx rfl (hb hby at_44) (XS.iloadN X61.here hx rfl (hb hby at_45) rfl (XS.sipush X61.here hx rfl (hb hby at_46) (XS.iand X61.here hx rfl (hb hby at_49) rfl (XS.i2c X61.here hx rfl (hb hby at_50) rfl zk)))))))) ?_
      show own_Go p e below s _ _ _ (T61.setTop (mkF m 51 #[iv p1, iv p2, iv p3, iv p4, iv p5, rv o_SECTION, .unset, rv b61, .unset, .unset, .unset, .unset, .unset] [(.int ((p2 &&& (255 : Int32)).toUInt32.toUInt16.toUInt32.toInt32)), (.int (0 : Int32)), (.ref b61)]))
      rw [i2c_mask]
      generalize hv_c62 : (p2 &&& (255 : Int32)) = c62
      have hr_c62 := own_r255 hv_c62
      show own_Go p e below s _ _ _ (T61.setTop (mkF m 51 #[iv p1, iv p2, iv p3, iv p4, iv p5, rv o_SECTION, .unset, rv b61, .unset, .unset, .unset, .unset, .unset] [(.int c62), (.int (0 : Int32)), (.ref b61)]))
      obtain ⟨cl63, Ar63, q63, Sz63, Nz63, Ha63, Ga63⟩ := id V_b61
      have hin63 : ¬ ((0 : Int32) < 0 ∨ cl63.slots.size ≤ ((0 : Int32)).toNatClampNeg) := inb_of Sz63 ⟨by decide, by decide⟩
      obtain ⟨T64, h64, X64, e64, W64, st64⟩ := stC X61 hx hZ e61 Ar63 (j := (0 : Int32)) hin63 (g := (mkF m 51 #[iv p1, iv p2, iv p3, iv p4, iv p5, rv o_SECTION, .unset, rv b61, .unset, .unset, .unset, .unset, .unset] [(.int c62), (.int (0 : Int32)), (.ref b61)])) rfl rfl (hb hby at_51)
      refine own_go st64 ?_
      rw [show nar .char c62 = c62 from own_narc hr_c62] at W64
      have V64 := Arv.set Ar63 q63 Sz63 Nz63 Ha63 Ga63 (own_fitc hr_c62) W64 0 rfl (Nat.le_of_ble_eq_true rfl)
      have N64 := Fr.snoc X64 N0 g_b61
      replace O := O.wr W64 g_b61
      replace Kp := Kp.wr W64 (Or.inr sz_b61)
      replace Ea_b61 := Ea_b61.wr W64
      replace V_b61 : Arv Z h64 b61 k61 .char (3 : Int32) [(.int c62), (.int (0 : Int32)), (.int (0 : Int32))] (.int (0 : Int32)) := V64
      show own_Go p e below s _ _ _ (T64.setTop (mkF m 52 #[iv p1, iv p2, iv p3, iv p4, iv p5, rv o_SECTION, .unset, rv b61, .unset, .unset, .unset, .unset, .unset] []))
      refine own_go (fun zt zk => (XS.aload X64.here hx rfl (hb hby at_52) rfl rfl (XS.iconst X64.here hx rfl (hb hby at_54) (XS.iloadN X64.here hx rfl (hb hby at_55) rfl (XS.bipush X64.here hx rfl (hb hby at_56) (XS.iushr X64.here hx rfl (hb hby at_58) rfl (XS.sipush X64.here hx rfl (hb hby at_59) (XS.iand X64.here hx rfl (hb hby at_62) rfl (XS.i2c X64.here hx rfl (hb hby at_63) rfl zk))))))))) ?_
      show own_Go p e below s _ _ _ (T64.setTop (mkF m 64 #[iv p1, iv p2, iv p3, iv p4, iv p5, rv o_SECTION, .unset, rv b61, .unset, .unset, .unset, .unset, .unset] [(.int ((((p2.toUInt32 >>> ((8 : Int32) &&& 31).toUInt32).toInt32) &&& (255 : Int32)).toUInt32.toUInt16.toUInt32.toInt32)), (.int (1 : Int32)), (.ref b61)]))
      rw [i2c_mask]
      generalize hv_c65 : (((p2.toUInt32 >>> ((8 : Int32) &&& 31).toUInt32).toInt32) &&& (255 : Int32)) = c65
      have hr_c65 := own_r255 hv_c65
      show own_Go p e below s _ _ _ (T64.setTop (mkF m 64 #[iv p1, iv p2, iv p3, iv p4, iv p5, rv o_SECTION, .unset, rv b61, .unset, .unset, .unset, .unset, .unset] [(.int c65), (.int (1 : Int32)), (.ref b61)]))
      obtain ⟨cl66, Ar66, q66, Sz66, Nz66, Ha66, Ga66⟩ := id V_b61
      have hin66 : ¬ ((1 : Int32) < 0 ∨ cl66.slots.size ≤ ((1 : Int32)).toNatClampNeg) := inb_of Sz66 ⟨by decide, by decide⟩
      obtain ⟨T67, h67, X67, e67, W67, st67⟩ := stC X64 hx hZ e64 Ar66 (j := (1 : Int32)) hin66 (g := (mkF m 64 #[iv p1, iv p2, iv p3, iv p4, iv p5, rv o_SECTION, .unset, rv b61, .unset, .unset, .unset, .unset, .unset] [(.int c65), (.int (1 : Int32)), (.ref b61)])) rfl rfl (hb hby at_64)
      refine own_go st67 ?_
      rw [show nar .char c65 = c65 from own_narc hr_c65] at W67
      have V67 := Arv.set Ar66 q66 Sz66 Nz66 Ha66 Ga66 (own_fitc hr_c65) W67 1 rfl (Nat.le_of_ble_eq_true rfl)
      have N67 := Fr.snoc X67 N64 g_b61
      replace O := O.wr W67 g_b61
      replace Kp := Kp.wr W67 (Or.inr sz_b61)
      replace Ea_b61 := Ea_b61.wr W67
      replace V_b61 : Arv Z h67 b61 k61 .char (3 : Int32) [(.int c62), (.int c65), (.int (0 : Int32))] (.int (0 : Int32)) := V67
      show own_Go p e below s _ _ _ (T67.setTop (mkF m 65 #[iv p1, iv p2, iv p3, iv p4, iv p5, rv o_SECTION, .unset, rv b61, .unset, .unset, .unset, .unset, .unset] []))
      refine own_go (fun zt zk => (XS.aload X67.here hx rfl (hb hby at_65) rfl rfl (XS.iconst X67.here hx rfl (hb hby at_67) (XS.iloadN X67.here hx rfl (hb hby at_68) rfl (XS.sipush X67.here hx rfl (hb hby at_69) (XS.iand X67.here hx rfl (hb hby at_72) rfl (XS.i2c X67.here hx rfl (hb hby at_73) rfl zk))))))) ?_
      show own_Go p e below s _ _ _ (T67.setTop (mkF m 74 #[iv p1, iv p2, iv p3, iv p4, iv p5, rv o_SECTION, .unset, rv b61, .unset, .unset, .unset, .unset, .unset] [(.int ((p3 &&& (255 : Int32)).toUInt32.toUInt16.toUInt32.toInt32)), (.int (2 : Int32)), (.ref b61)]))
      rw [i2c_mask]
      generalize hv_c68 : (p3 &&& (255 : Int32)) = c68
      have hr_c68 := own_r255 hv_c68
      show own_Go p e below s _ _ _ (T67.setTop (mkF m 74 #[iv p1, iv p2, iv p3, iv p4, iv p5, rv o_SECTION, .unset, rv b61, .unset, .unset, .unset, .unset, .unset] [(.int c68), (.int (2 : Int32)), (.ref b61)]))
      obtain ⟨cl69, Ar69, q69, Sz69, Nz69, Ha69, Ga69⟩ := id V_b61
      have hin69 : ¬ ((2 : Int32) < 0 ∨ cl69.slots.size ≤ ((2 : Int32)).toNatClampNeg) := inb_of Sz69 ⟨by decide, by decide⟩
      obtain ⟨T70, h70, X70, e70, W70, st70⟩ := stC X67 hx hZ e67 Ar69 (j := (2 : Int32)) hin69 (g := (mkF m 74 #[iv p1, iv p2, iv p3, iv p4, iv p5, rv o_SECTION, .unset, rv b61, .unset, .unset, .unset, .unset, .unset] [(.int c68), (.int (2 : Int32)), (.ref b61)])) rfl rfl (hb hby at_74)
      refine own_go st70 ?_
      rw [show nar .char c68 = c68 from own_narc hr_c68] at W70
      have V70 := Arv.set Ar69 q69 Sz69 Nz69 Ha69 Ga69 (own_fitc hr_c68) W70 2 rfl (Nat.le_of_ble_eq_true rfl)
      have N70 := Fr.snoc X70 N67 g_b61
      replace O := O.wr W70 g_b61
      replace Kp := Kp.wr W70 (Or.inr sz_b61)
      replace Ea_b61 := Ea_b61.wr W70
      replace V_b61 : Arv Z h70 b61 k61 .char (3 : Int32) [(.int c62), (.int c65), (.int c68)] (.int (0 : Int32)) := V70
      show own_Go p e below s _ _ _ (T70.setTop (mkF m 75 #[iv p1, iv p2, iv p3, iv p4, iv p5, rv o_SECTION, .unset, rv b61, .unset, .unset, .unset, .unset, .unset] []))
      obtain ⟨T71, h71, X71, e71, E71, A71, D71, -, st71⟩ := newO X70 hx hZ hown (hw _ (List.mem_of_getElem? (i := 4) rfl)) (hw _ (List.mem_of_getElem? (i := 5) rfl)) (hw _ (List.mem_of_getElem? (i := 6) rfl)) e70 (g := (mkF m 75 #[iv p1, iv p2, iv p3, iv p4, iv p5, rv o_SECTION, .unset, rv b61, .unset, .unset, .unset, .unset, .unset] [])) rfl (hb hby at_75) (by decide) (by decide)
      obtain ⟨b71, g71⟩ : ∃ z, z = h70.size := ⟨_, rfl⟩
      rw [← g71] at A71 D71 st71
      refine own_go st71 ?_
      have ne_o_ARTICLE_b71 : o_ARTICLE ≠ b71 := Nat.ne_of_lt (Nat.lt_of_lt_of_le (Ex_o_ARTICLE.ext O.2).lt (Nat.le_of_eq g71.symm))
      have ne_o_SECTION_b71 : o_SECTION ≠ b71 := Nat.ne_of_lt (Nat.lt_of_lt_of_le (Ex_o_SECTION.ext O.2).lt (Nat.le_of_eq g71.symm))
      have ne_b61_b71 : b61 ≠ b71 := Nat.ne_of_lt (Nat.lt_of_lt_of_le V_b61.lt (Nat.le_of_eq g71.symm))
      have sz_b71 : h0.size ≤ b71 := Nat.le_trans Kp.1 (Nat.le_of_eq g71.symm)
      have g_b71 : n0 ≤ b71 := Nat.le_trans Z0 sz_b71
      replace O := O.ext E71
      replace Kp := Kp.ext E71
      replace V_b61 := V_b61.ext E71
      replace Ea_b61 := Ea_b61.ext E71
      have Ex_b71 := A71
      have F_coder_b71 : Fld Z h71 b71 "java/lang/String" "coder" "B" (.int (0 : Int32)) := D71 (Or.inr (hw _ (List.mem_of_getElem? (i := 30) rfl))) (ty := .byte) (by decide)
      have F_value_b71 : Fld Z h71 b71 "java/lang/String" "value" "[B" .null := D71 (Or.inr (hw _ (List.mem_of_getElem? (i := 32) rfl))) (ty := (.array .byte)) (by decide)
      show own_Go p e below s _ _ _ (T71.setTop (mkF m 78 #[iv p1, iv p2, iv p3, iv p4, iv p5, rv o_SECTION, .unset, rv b61, .unset, .unset, .unset, .unset, .unset] [(.ref b71)]))
      refine own_go (fun zt zk => (XS.dup X71.here hx rfl (hb hby at_78) rfl rfl (XS.aload X71.here hx rfl (hb hby at_79) rfl rfl zk))) ?_
      show own_Go p e below s _ _ _ (T71.setTop (mkF m 81 #[iv p1, iv p2, iv p3, iv p4, iv p5, rv o_SECTION, .unset, rv b61, .unset, .unset, .unset, .unset, .unset] [(.ref b61), (.ref b71), (.ref b71)]))
      obtain ⟨_, _, ⟨T72, L72, k72, n72⟩, -, X72, ⟨Lc72, hQ72, l72, y72, z72⟩, st72⟩ := X71.specialBack hx (y := (⟨"java/lang/String", "<init>", "([C)V"⟩ : MethodName)) rfl hown (mvT hZ (hw _ (List.mem_of_getElem? (i := 7) rfl))) (mvT hZ (hw _ (List.mem_of_getElem? (i := 8) rfl))) (mvT hZ (hw _ (List.mem_of_getElem? (i := 9) rfl))) (by decide) (StrChars.Road.backV (W := 1) hZ (own_hnew Z a0 hw) (kI := 4) (hw _ (List.mem_of_getElem? (i := 5) rfl)) (cs := [c62, c65, c68]) (bs := [(c62.toInt8.toInt32), (c65.toInt8.toInt32), (c68.toInt8.toInt32)]) (n := 3) g_b71 (Nat.le_trans Z0 Kp.1) Ex_b71 F_value_b71 F_coder_b71 V_b61 (S_o_COMPACT_STRINGS.ext O.2) nz_o_COMPACT_STRINGS rfl rfl (by decide) (by decide) (own_ac hr_c62 (own_ac hr_c65 (own_ac hr_c68 own_an))) rfl (by decide) (by decide)) (g := (mkF m 81 #[iv p1, iv p2, iv p3, iv p4, iv p5, rv o_SECTION, .unset, rv b61, .unset, .unset, .unset, .unset, .unset] [(.ref b61), (.ref b71), (.ref b71)])) rfl (by rw [hml]; rfl) (Steps.refl _) (a := b71) (argsL := [(.ref b61)]) (rest := [(.ref b71)]) (lenOf own_pd___C_V rfl) rfl (by show 2 * 0 + _ ≤ _; exact Nat.le_of_eq rfl) (hb hby at_81) (fun _ _ => ⟨rfl, e71, (by decide : 2 + 1 ≤ _), (by decide : 7 + 3 ≤ _)⟩)
      dsimp only [Pt.U, Pt.locs, Pt.cells, Pt.slots] at X72 l72 y72 z72 st72 hQ72
      subst l72 y72 z72
      obtain ⟨rfl, Nq72, K72, -, Fc72, t72, kb72, -, sz72, -, Fv72, Vt72⟩ := hQ72
      have sz_t72 : h0.size ≤ t72 := Nat.le_trans Kp.1 sz72
      have g_t72 : n0 ≤ t72 := Nat.le_trans Z0 sz_t72
      have ne_b61_t72 : b61 ≠ t72 := Nat.ne_of_lt (Nat.lt_of_lt_of_le V_b61.lt sz72)
      have ne_b71_t72 : b71 ≠ t72 := Nat.ne_of_lt (Nat.lt_of_lt_of_le Ex_b71.lt sz72)
      have N72 := Fr.app N70 Nq72
      refine own_go (fun zt zk => st72.trans zk) ?_
      replace O := O.keep K72 (allS g_b71 all0)
      replace Kp := Kp.trans K72 (allS (Or.inr sz_b71) all0)
      replace V_b61 := V_b61.keep K72 (ninS ne_b61_b71 nin0)
      replace Ea_b61 := Ea_b61.keep K72
      replace Ex_b71 := Ex_b71.keep K72
      show own_Go p e below s _ _ _ (T72.setTop (mkF m 84 #[iv p1, iv p2, iv p3, iv p4, iv p5, rv o_SECTION, .unset, rv b61, .unset, .unset, .unset, .unset, .unset] [(.ref b71)]))
      refine own_go (fun zt zk => (XS.astore X72.here hx rfl (hb hby at_84) rfl rfl (l' := #[iv p1, iv p2, iv p3, iv p4, iv p5, rv o_SECTION, rv b71, rv b61, .unset, .unset, .unset, .unset, .unset]) rfl (XS.iconst X72.here hx rfl (hb hby at_86) zk))) ?_
      show own_Go p e below s _ _ _ (T72.setTop (mkF m 87 #[iv p1, iv p2, iv p3, iv p4, iv p5, rv o_SECTION, rv b71, rv b61, .unset, .unset, .unset, .unset, .unset] [(.int (3 : Int32))]))
      obtain ⟨T73, h73, k73, X73, e73, E73, A73, Ea73, st73⟩ := newPE X72 hx hZ (hw _ (List.mem_of_getElem? (i := 3) rfl)) rfl (g := (mkF m 87 #[iv p1, iv p2, iv p3, iv p4, iv p5, rv o_SECTION, rv b71, rv b61, .unset, .unset, .unset, .unset, .unset] [(.int (3 : Int32))])) rfl (hb hby at_87) rfl (by decide) (cap := 3) (by decide) (by decide) (by decide) (by decide) (ad := "[C") (by decide)
      obtain ⟨b73, g73⟩ : ∃ z, z = T72.heap.size := ⟨_, rfl⟩
      rw [← g73] at A73 Ea73 st73
      refine own_go st73 ?_
      have ne_o_ARTICLE_b73 : o_ARTICLE ≠ b73 := Nat.ne_of_lt (Nat.lt_of_lt_of_le (Ex_o_ARTICLE.ext O.2).lt (Nat.le_of_eq g73.symm))
      have ne_o_SECTION_b73 : o_SECTION ≠ b73 := Nat.ne_of_lt (Nat.lt_of_lt_of_le (Ex_o_SECTION.ext O.2).lt (Nat.le_of_eq g73.symm))
      have ne_b61_b73 : b61 ≠ b73 := Nat.ne_of_lt (Nat.lt_of_lt_of_le V_b61.lt (Nat.le_of_eq g73.symm))
      have ne_b71_b73 : b71 ≠ b73 := Nat.ne_of_lt (Nat.lt_of_lt_of_le Ex_b71.lt (Nat.le_of_eq g73.symm))
      have ne_t72_b73 : t72 ≠ b73 := Nat.ne_of_lt (Nat.lt_of_lt_of_le Vt72.lt (Nat.le_of_eq g73.symm))
      have sz_b73 : h0.size ≤ b73 := Nat.le_trans Kp.1 (Nat.le_of_eq g73.symm)
      have g_b73 : n0 ≤ b73 := Nat.le_trans Z0 sz_b73
      replace O := O.ext E73
      replace Kp := Kp.ext E73
      replace V_b61 := V_b61.ext E73
      replace Ea_b61 := Ea_b61.ext E73
      replace Ex_b71 := Ex_b71.ext E73
      replace Fc72 := Fc72.ext E73
      replace Fv72 := Fv72.ext E73
      replace Vt72 := Vt72.ext E73
      have V_b73 : Arv Z h73 b73 k73 .char (3 : Int32) [(.int (0 : Int32)), (.int (0 : Int32)), (.int (0 : Int32))] (.int (0 : Int32)) := (Arv.new A73 (by decide)).pad (pad_rep [] (.int (0 : Int32)) 3)
      have Ea_b73 := Ea73
      show own_Go p e below s _ _ _ (T73.setTop (mkF m 89 #[iv p1, iv p2, iv p3, iv p4, iv p5, rv o_SECTION, rv b71, rv b61, .unset, .unset, .unset, .unset, .unset] [(.ref b73)]))
      refine own_go (fun zt zk => (XS.astore X73.here hx rfl (hb hby at_89) rfl rfl (l' := #[iv p1, iv p2, iv p3, iv p4, iv p5, rv o_SECTION, rv b71, rv b73, .unset, .unset, .unset, .unset, .unset]) rfl (XS.aload X73.here hx rfl (hb hby at_91) rfl rfl (XS.iconst X73.here hx rfl (hb hby at_93) (XS.iloadN X73.here hx rfl (hb hby at_94) rfl (XS.sipush X73.here hx rfl (hb hby at_95) (XS.iand X73.here hx rfl (hb hby at_98) rfl (XS.i2c X73.here hx rfl (hb hby at_99) rfl zk)))))))) ?_
      show own_Go p e below s _ _ _ (T73.setTop (mkF m 100 #[iv p1, iv p2, iv p3, iv p4, iv p5, rv o_SECTION, rv b71, rv b73, .unset, .unset, .unset, .unset, .unset] [(.int ((p4 &&& (255 : Int32)).toUInt32.toUInt16.toUInt32.toInt32)), (.int (0 : Int32)), (.ref b73)]))
      rw [i2c_mask]
      generalize hv_c74 : (p4 &&& (255 : Int32)) = c74
      have hr_c74 := own_r255 hv_c74
      show own_Go p e below s _ _ _ (T73.setTop (mkF m 100 #[iv p1, iv p2, iv p3, iv p4, iv p5, rv o_SECTION, rv b71, rv b73, .unset, .unset, .unset, .unset, .unset] [(.int c74), (.int (0 : Int32)), (.ref b73)]))
      obtain ⟨cl75, Ar75, q75, Sz75, Nz75, Ha75, Ga75⟩ := id V_b73
      have hin75 : ¬ ((0 : Int32) < 0 ∨ cl75.slots.size ≤ ((0 : Int32)).toNatClampNeg) := inb_of Sz75 ⟨by decide, by decide⟩
      obtain ⟨T76, h76, X76, e76, W76, st76⟩ := stC X73 hx hZ e73 Ar75 (j := (0 : Int32)) hin75 (g := (mkF m 100 #[iv p1, iv p2, iv p3, iv p4, iv p5, rv o_SECTION, rv b71, rv b73, .unset, .unset, .unset, .unset, .unset] [(.int c74), (.int (0 : Int32)), (.ref b73)])) rfl rfl (hb hby at_100)
      refine own_go st76 ?_
      rw [show nar .char c74 = c74 from own_narc hr_c74] at W76
      have V76 := Arv.set Ar75 q75 Sz75 Nz75 Ha75 Ga75 (own_fitc hr_c74) W76 0 rfl (Nat.le_of_ble_eq_true rfl)
      have N76 := Fr.snoc X76 N72 g_b73
      replace O := O.wr W76 g_b73
      replace Kp := Kp.wr W76 (Or.inr sz_b73)
      replace V_b61 := V_b61.other W76 ne_b61_b73
      replace Ea_b61 := Ea_b61.wr W76
      replace Ex_b71 := Ex_b71.wr W76
      replace Fc72 := Fc72.other W76 (Or.inl ne_b71_b73)
      replace Fv72 := Fv72.other W76 (Or.inl ne_b71_b73)
      replace Vt72 := Vt72.other W76 ne_t72_b73
      replace Ea_b73 := Ea_b73.wr W76
      replace V_b73 : Arv Z h76 b73 k73 .char (3 : Int32) [(.int c74), (.int (0 : Int32)), (.int (0 : Int32))] (.int (0 : Int32)) := V76
      show own_Go p e below s _ _ _ (T76.setTop (mkF m 101 #[iv p1, iv p2, iv p3, iv p4, iv p5, rv o_SECTION, rv b71, rv b73, .unset, .unset, .unset, .unset, .unset] []))
      refine own_go (fun zt zk => (XS.aload X76.here hx rfl (hb hby at_101) rfl rfl (XS.iconst X76.here hx rfl (hb hby at_103) (XS.iloadN X76.here hx rfl (hb hby at_104) rfl (XS.bipush X76.here hx rfl (hb hby at_105) (XS.iushr X76.here hx rfl (hb hby at_107) rfl (XS.sipush X76.here hx rfl (hb hby at_108) (XS.iand X76.here hx rfl (hb hby at_111) rfl (XS.i2c X76.here hx rfl (hb hby at_112) rfl zk))))))))) ?_
      show own_Go p e below s _ _ _ (T76.setTop (mkF m 113 #[iv p1, iv p2, iv p3, iv p4, iv p5, rv o_SECTION, rv b71, rv b73, .unset, .unset, .unset, .unset, .unset] [(.int ((((p4.toUInt32 >>> ((8 : Int32) &&& 31).toUInt32).toInt32) &&& (255 : Int32)).toUInt32.toUInt16.toUInt32.toInt32)), (.int (1 : Int32)), (.ref b73)]))
      rw [i2c_mask]
      generalize hv_c77 : (((p4.toUInt32 >>> ((8 : Int32) &&& 31).toUInt32).toInt32) &&& (255 : Int32)) = c77
      have hr_c77 := own_r255 hv_c77
      show own_Go p e below s _ _ _ (T76.setTop (mkF m 113 #[iv p1, iv p2, iv p3, iv p4, iv p5, rv o_SECTION, rv b71, rv b73, .unset, .unset, .unset, .unset, .unset] [(.int c77), (.int (1 : Int32)), (.ref b73)]))
      obtain ⟨cl78, Ar78, q78, Sz78, Nz78, Ha78, Ga78⟩ := id V_b73
      have hin78 : ¬ ((1 : Int32) < 0 ∨ cl78.slots.size ≤ ((1 : Int32)).toNatClampNeg) := inb_of Sz78 ⟨by decide, by decide⟩
      obtain ⟨T79, h79, X79, e79, W79, st79⟩ := stC X76 hx hZ e76 Ar78 (j := (1 : Int32)) hin78 (g := (mkF m 113 #[iv p1, iv p2, iv p3, iv p4, iv p5, rv o_SECTION, rv b71, rv b73, .unset, .unset, .unset, .unset, .unset] [(.int c77), (.int (1 : Int32)), (.ref b73)])) rfl rfl (hb hby at_113)
      refine own_go st79 ?_
      rw [show nar .char c77 = c77 from own_narc hr_c77] at W79
      have V79 := Arv.set Ar78 q78 Sz78 Nz78 Ha78 Ga78 (own_fitc hr_c77) W79 1 rfl (Nat.le_of_ble_eq_true rfl)
      have N79 := Fr.snoc X79 N76 g_b73
      replace O := O.wr W79 g_b73
      replace Kp := Kp.wr W79 (Or.inr sz_b73)
      replace V_b61 := V_b61.other W79 ne_b61_b73
      replace Ea_b61 := Ea_b61.wr W79
      replace Ex_b71 := Ex_b71.wr W79
      replace Fc72 := Fc72.other W79 (Or.inl ne_b71_b73)
      replace Fv72 := Fv72.other W79 (Or.inl ne_b71_b73)
      replace Vt72 := Vt72.other W79 ne_t72_b73
      replace Ea_b73 := Ea_b73.wr W79
      replace V_b73 : Arv Z h79 b73 k73 .char (3 : Int32) [(.int c74), (.int c77), (.int (0 : Int32))] (.int (0 : Int32)) := V79
      show own_Go p e below s _ _ _ (T79.setTop (mkF m 114 #[iv p1, iv p2, iv p3, iv p4, iv p5, rv o_SECTION, rv b71, rv b73, .unset, .unset, .unset, .unset, .unset] []))
      refine own_go (fun zt zk => (XS.aload X79.here hx rfl (hb hby at_114) rfl rfl (XS.iconst X79.here hx rfl (hb hby at_116) (XS.iload X79.here hx rfl (hb hby at_117) rfl (XS.sipush X79.here hx rfl (hb hby at_119) (XS.iand X79.here hx rfl (hb hby at_122) rfl (XS.i2c X79.here hx rfl (hb hby at_123) rfl zk))))))) ?_
      show own_Go p e below s _ _ _ (T79.setTop (mkF m 124 #[iv p1, iv p2, iv p3, iv p4, iv p5, rv o_SECTION, rv b71, rv b73, .unset, .unset, .unset, .unset, .unset] [(.int ((p5 &&& (255 : Int32)).toUInt32.toUInt16.toUInt32.toInt32)), (.int (2 : Int32)), (.ref b73)]))
      rw [i2c_mask]
      generalize hv_c80 : (p5 &&& (255 : Int32)) = c80
      have hr_c80 := own_r255 hv_c80
      show own_Go p e below s _ _ _ (T79.setTop (mkF m 124 #[iv p1, iv p2, iv p3, iv p4, iv p5, rv o_SECTION, rv b71, rv b73, .unset, .unset, .unset, .unset, .unset] [(.int c80), (.int (2 : Int32)), (.ref b73)]))
      obtain ⟨cl81, Ar81, q81, Sz81, Nz81, Ha81, Ga81⟩ := id V_b73
      have hin81 : ¬ ((2 : Int32) < 0 ∨ cl81.slots.size ≤ ((2 : Int32)).toNatClampNeg) := inb_of Sz81 ⟨by decide, by decide⟩
      obtain ⟨T82, h82, X82, e82, W82, st82⟩ := stC X79 hx hZ e79 Ar81 (j := (2 : Int32)) hin81 (g := (mkF m 124 #[iv p1, iv p2, iv p3, iv p4, iv p5, rv o_SECTION, rv b71, rv b73, .unset, .unset, .unset, .unset, .unset] [(.int c80), (.int (2 : Int32)), (.ref b73)])) rfl rfl (hb hby at_124)
      refine own_go st82 ?_
      rw [show nar .char c80 = c80 from own_narc hr_c80] at W82
      have V82 := Arv.set Ar81 q81 Sz81 Nz81 Ha81 Ga81 (own_fitc hr_c80) W82 2 rfl (Nat.le_of_ble_eq_true rfl)
      have N82 := Fr.snoc X82 N79 g_b73
      replace O := O.wr W82 g_b73
      replace Kp := Kp.wr W82 (Or.inr sz_b73)
      replace V_b61 := V_b61.other W82 ne_b61_b73
      replace Ea_b61 := Ea_b61.wr W82
      replace Ex_b71 := Ex_b71.wr W82
      replace Fc72 := Fc72.other W82 (Or.inl ne_b71_b73)
      replace Fv72 := Fv72.other W82 (Or.inl ne_b71_b73)
      replace Vt72 := Vt72.other W82 ne_t72_b73
      replace Ea_b73 := Ea_b73.wr W82
      replace V_b73 : Arv Z h82 b73 k73 .char (3 : Int32) [(.int c74), (.int c77), (.int c80)] (.int (0 : Int32)) := V82
      show own_Go p e below s _ _ _ (T82.setTop (mkF m 125 #[iv p1, iv p2, iv p3, iv p4, iv p5, rv o_SECTION, rv b71, rv b73, .unset, .unset, .unset, .unset, .unset] []))
      obtain ⟨T83, h83, X83, e83, E83, A83, D83, -, st83⟩ := newO X82 hx hZ hown (hw _ (List.mem_of_getElem? (i := 4) rfl)) (hw _ (List.mem_of_getElem? (i := 5) rfl)) (hw _ (List.mem_of_getElem? (i := 6) rfl)) e82 (g := (mkF m 125 #[iv p1, iv p2, iv p3, iv p4, iv p5, rv o_SECTION, rv b71, rv b73, .unset, .unset, .unset, .unset, .unset] [])) rfl (hb hby at_125) (by decide) (by decide)
      obtain ⟨b83, g83⟩ : ∃ z, z = h82.size := ⟨_, rfl⟩
      rw [← g83] at A83 D83 st83
      refine own_go st83 ?_
      have ne_o_ARTICLE_b83 : o_ARTICLE ≠ b83 := Nat.ne_of_lt (Nat.lt_of_lt_of_le (Ex_o_ARTICLE.ext O.2).lt (Nat.le_of_eq g83.symm))
      have ne_o_SECTION_b83 : o_SECTION ≠ b83 := Nat.ne_of_lt (Nat.lt_of_lt_of_le (Ex_o_SECTION.ext O.2).lt (Nat.le_of_eq g83.symm))
      have ne_b61_b83 : b61 ≠ b83 := Nat.ne_of_lt (Nat.lt_of_lt_of_le V_b61.lt (Nat.le_of_eq g83.symm))
      have ne_b71_b83 : b71 ≠ b83 := Nat.ne_of_lt (Nat.lt_of_lt_of_le Ex_b71.lt (Nat.le_of_eq g83.symm))
      have ne_t72_b83 : t72 ≠ b83 := Nat.ne_of_lt (Nat.lt_of_lt_of_le Vt72.lt (Nat.le_of_eq g83.symm))
      have ne_b73_b83 : b73 ≠ b83 := Nat.ne_of_lt (Nat.lt_of_lt_of_le V_b73.lt (Nat.le_of_eq g83.symm))
      have sz_b83 : h0.size ≤ b83 := Nat.le_trans Kp.1 (Nat.le_of_eq g83.symm)
      have g_b83 : n0 ≤ b83 := Nat.le_trans Z0 sz_b83
      replace O := O.ext E83
      replace Kp := Kp.ext E83
      replace V_b61 := V_b61.ext E83
      replace Ea_b61 := Ea_b61.ext E83
      replace Ex_b71 := Ex_b71.ext E83
      replace Fc72 := Fc72.ext E83
      replace Fv72 := Fv72.ext E83
      replace Vt72 := Vt72.ext E83
      replace V_b73 := V_b73.ext E83
      replace Ea_b73 := Ea_b73.ext E83
      have Ex_b83 := A83
      have F_coder_b83 : Fld Z h83 b83 "java/lang/String" "coder" "B" (.int (0 : Int32)) := D83 (Or.inr (hw _ (List.mem_of_getElem? (i := 30) rfl))) (ty := .byte) (by decide)
      have F_value_b83 : Fld Z h83 b83 "java/lang/String" "value" "[B" .null := D83 (Or.inr (hw _ (List.mem_of_getElem? (i := 32) rfl))) (ty := (.array .byte)) (by decide)
      show own_Go p e below s _ _ _ (T83.setTop (mkF m 128 #[iv p1, iv p2, iv p3, iv p4, iv p5, rv o_SECTION, rv b71, rv b73, .unset, .unset, .unset, .unset, .unset] [(.ref b83)]))
      refine own_go (fun zt zk => (XS.dup X83.here hx rfl (hb hby at_128) rfl rfl (XS.aload X83.here hx rfl (hb hby at_129) rfl rfl zk))) ?_
      show own_Go p e below s _ _ _ (T83.setTop (mkF m 131 #[iv p1, iv p2, iv p3, iv p4, iv p5, rv o_SECTION, rv b71, rv b73, .unset, .unset, .unset, .unset, .unset] [(.ref b73), (.ref b83), (.ref b83)]))
      obtain ⟨_, _, ⟨T84, L84, k84, n84⟩, -, X84, ⟨Lc84, hQ84, l84, y84, z84⟩, st84⟩ := X83.specialBack hx (y := (⟨"java/lang/String", "<init>", "([C)V"⟩ : MethodName)) rfl hown (mvT hZ (hw _ (List.mem_of_getElem? (i := 7) rfl))) (mvT hZ (hw _ (List.mem_of_getElem? (i := 8) rfl))) (mvT hZ (hw _ (List.mem_of_getElem? (i := 9) rfl))) (by decide) (StrChars.Road.backV (W := 1) hZ (own_hnew Z a0 hw) (kI := 4) (hw _ (List.mem_of_getElem? (i := 5) rfl)) (cs := [c74, c77, c80]) (bs := [(c74.toInt8.toInt32), (c77.toInt8.toInt32), (c80.toInt8.toInt32)]) (n := 3) g_b83 (Nat.le_trans Z0 Kp.1) Ex_b83 F_value_b83 F_coder_b83 V_b73 (S_o_COMPACT_STRINGS.ext O.2) nz_o_COMPACT_STRINGS rfl rfl (by decide) (by decide) (own_ac hr_c74 (own_ac hr_c77 (own_ac hr_c80 own_an))) rfl (by decide) (by decide)) (g := (mkF m 131 #[iv p1, iv p2, iv p3, iv p4, iv p5, rv o_SECTION, rv b71, rv b73, .unset, .unset, .unset, .unset, .unset] [(.ref b73), (.ref b83), (.ref b83)])) rfl (by rw [hml]; rfl) (Steps.refl _) (a := b83) (argsL := [(.ref b73)]) (rest := [(.ref b83)]) (lenOf own_pd___C_V rfl) rfl (by show 2 * 0 + _ ≤ _; exact Nat.le_of_eq rfl) (hb hby at_131) (fun _ _ => ⟨rfl, e83, (by decide : 5 + 1 ≤ _), (by decide : 17 + 3 ≤ _)⟩)
      dsimp only [Pt.U, Pt.locs, Pt.cells, Pt.slots] at X84 l84 y84 z84 st84 hQ84
      subst l84 y84 z84
      obtain ⟨rfl, Nq84, K84, -, Fc84, t84, kb84, -, sz84, -, Fv84, Vt84⟩ := hQ84
      have sz_t84 : h0.size ≤ t84 := Nat.le_trans Kp.1 sz84
      have g_t84 : n0 ≤ t84 := Nat.le_trans Z0 sz_t84
      have ne_b61_t84 : b61 ≠ t84 := Nat.ne_of_lt (Nat.lt_of_lt_of_le V_b61.lt sz84)
      have ne_b71_t84 : b71 ≠ t84 := Nat.ne_of_lt (Nat.lt_of_lt_of_le Ex_b71.lt sz84)
      have ne_t72_t84 : t72 ≠ t84 := Nat.ne_of_lt (Nat.lt_of_lt_of_le Vt72.lt sz84)
      have ne_b73_t84 : b73 ≠ t84 := Nat.ne_of_lt (Nat.lt_of_lt_of_le V_b73.lt sz84)
      have ne_b83_t84 : b83 ≠ t84 := Nat.ne_of_lt (Nat.lt_of_lt_of_le Ex_b83.lt sz84)
      have N84 := Fr.app N82 Nq84
      refine own_go (fun zt zk => st84.trans zk) ?_
      replace O := O.keep K84 (allS g_b83 all0)
      replace Kp := Kp.trans K84 (allS (Or.inr sz_b83) all0)
      replace V_b61 := V_b61.keep K84 (ninS ne_b61_b83 nin0)
      replace Ea_b61 := Ea_b61.keep K84
      replace Ex_b71 := Ex_b71.keep K84
      replace Fc72 := Fc72.keep K84 (ninS ne_b71_b83 nin0)
      replace Fv72 := Fv72.keep K84 (ninS ne_b71_b83 nin0)
      replace Vt72 := Vt72.keep K84 (ninS ne_t72_b83 nin0)
      replace V_b73 := V_b73.keep K84 (ninS ne_b73_b83 nin0)
      replace Ea_b73 := Ea_b73.keep K84
      replace Ex_b83 := Ex_b83.keep K84
      show own_Go p e below s _ _ _ (T84.setTop (mkF m 134 #[iv p1, iv p2, iv p3, iv p4, iv p5, rv o_SECTION, rv b71, rv b73, .unset, .unset, .unset, .unset, .unset] [(.ref b83)]))
      refine own_go (fun zt zk => (XS.astore X84.here hx rfl (hb hby at_134) rfl rfl (l' := #[iv p1, iv p2, iv p3, iv p4, iv p5, rv o_SECTION, rv b71, rv b73, rv b83, .unset, .unset, .unset, .unset]) rfl zk)) ?_
      show own_Go p e below s _ _ _ (T84.setTop (mkF m 136 #[iv p1, iv p2, iv p3, iv p4, iv p5, rv o_SECTION, rv b71, rv b73, rv b83, .unset, .unset, .unset, .unset] []))
      obtain ⟨T85, h85, X85, e85, E85, A85, D85, -, st85⟩ := newO X84 hx hZ hown (hw _ (List.mem_of_getElem? (i := 33) rfl)) (hw _ (List.mem_of_getElem? (i := 34) rfl)) (hw _ (List.mem_of_getElem? (i := 35) rfl)) rfl (g := (mkF m 136 #[iv p1, iv p2, iv p3, iv p4, iv p5, rv o_SECTION, rv b71, rv b73, rv b83, .unset, .unset, .unset, .unset] [])) rfl (hb hby at_136) (by decide) (by decide)
      obtain ⟨b85, g85⟩ : ∃ z, z = T84.heap.size := ⟨_, rfl⟩
      rw [← g85] at A85 D85 st85
      refine own_go st85 ?_
      have ne_o_ARTICLE_b85 : o_ARTICLE ≠ b85 := Nat.ne_of_lt (Nat.lt_of_lt_of_le (Ex_o_ARTICLE.ext O.2).lt (Nat.le_of_eq g85.symm))
      have ne_o_SECTION_b85 : o_SECTION ≠ b85 := Nat.ne_of_lt (Nat.lt_of_lt_of_le (Ex_o_SECTION.ext O.2).lt (Nat.le_of_eq g85.symm))
      have ne_b61_b85 : b61 ≠ b85 := Nat.ne_of_lt (Nat.lt_of_lt_of_le V_b61.lt (Nat.le_of_eq g85.symm))
      have ne_b71_b85 : b71 ≠ b85 := Nat.ne_of_lt (Nat.lt_of_lt_of_le Ex_b71.lt (Nat.le_of_eq g85.symm))
      have ne_t72_b85 : t72 ≠ b85 := Nat.ne_of_lt (Nat.lt_of_lt_of_le Vt72.lt (Nat.le_of_eq g85.symm))
      have ne_b73_b85 : b73 ≠ b85 := Nat.ne_of_lt (Nat.lt_of_lt_of_le V_b73.lt (Nat.le_of_eq g85.symm))
      have ne_b83_b85 : b83 ≠ b85 := Nat.ne_of_lt (Nat.lt_of_lt_of_le Ex_b83.lt (Nat.le_of_eq g85.symm))
      have ne_t84_b85 : t84 ≠ b85 := Nat.ne_of_lt (Nat.lt_of_lt_of_le Vt84.lt (Nat.le_of_eq g85.symm))
      have sz_b85 : h0.size ≤ b85 := Nat.le_trans Kp.1 (Nat.le_of_eq g85.symm)
      have g_b85 : n0 ≤ b85 := Nat.le_trans Z0 sz_b85
      replace O := O.ext E85
      replace Kp := Kp.ext E85
      replace V_b61 := V_b61.ext E85
      replace Ea_b61 := Ea_b61.ext E85
      replace Ex_b71 := Ex_b71.ext E85
      replace Fc72 := Fc72.ext E85
      replace Fv72 := Fv72.ext E85
      replace Vt72 := Vt72.ext E85
      replace V_b73 := V_b73.ext E85
      replace Ea_b73 := Ea_b73.ext E85
      replace Ex_b83 := Ex_b83.ext E85
      replace Fc84 := Fc84.ext E85
      replace Fv84 := Fv84.ext E85
      replace Vt84 := Vt84.ext E85
      have Ex_b85 := A85
      have F_value_b85 : Fld Z h85 b85 "com/example/tranche/tranche/model/Stated" "value" "Ljava/lang/Object;" .null := D85 (Or.inr (hw _ (List.mem_of_getElem? (i := 46) rfl))) (ty := (.object "java/lang/Object")) (by decide)
      have F_span_b85 : Fld Z h85 b85 "com/example/tranche/tranche/model/Stated" "span" "Lcom/example/tranche/tranche/model/Span;" .null := D85 (Or.inr (hw _ (List.mem_of_getElem? (i := 48) rfl))) (ty := (.object "com/example/tranche/tranche/model/Span")) (by decide)
      show own_Go p e below s _ _ _ (T85.setTop (mkF m 139 #[iv p1, iv p2, iv p3, iv p4, iv p5, rv o_SECTION, rv b71, rv b73, rv b83, .unset, .unset, .unset, .unset] [(.ref b85)]))
      refine own_go (fun zt zk => (XS.dup X85.here hx rfl (hb hby at_139) rfl rfl (XS.aload X85.here hx rfl (hb hby at_140) rfl rfl (XS.aconstNull X85.here hx rfl (hb hby at_142) zk)))) ?_
      show own_Go p e below s _ _ _ (T85.setTop (mkF m 143 #[iv p1, iv p2, iv p3, iv p4, iv p5, rv o_SECTION, rv b71, rv b73, rv b83, .unset, .unset, .unset, .unset] [.null, (.ref b71), (.ref b85), (.ref b85)]))
      obtain ⟨_, _, ⟨T86, L86, k86, n86⟩, -, X86, ⟨Lc86, hQ86, l86, y86, z86⟩, st86⟩ := X85.specialBack hx (y := (⟨"com/example/tranche/tranche/model/Stated", "<init>", "(Ljava/lang/Object;Lcom/example/tranche/tranche/model/Span;)V"⟩ : MethodName)) rfl hown (mvT hZ (hw _ (List.mem_of_getElem? (i := 36) rfl))) (mvT hZ (hw _ (List.mem_of_getElem? (i := 37) rfl))) (mvT hZ (hw _ (List.mem_of_getElem? (i := 38) rfl))) (by decide) (backOf (W := 1) (own_rstated l Z a0 hw [] b85 b71  h85 n0 (Nat.le_trans Z0 Kp.1) Ex_b85 F_value_b85 F_span_b85 g_b85 ) hZ (hw _ (List.mem_of_getElem? (i := 38) rfl)) (hw _ (List.mem_of_getElem? (i := 35) rfl)) (by decide) (by decide)) (g := (mkF m 143 #[iv p1, iv p2, iv p3, iv p4, iv p5, rv o_SECTION, rv b71, rv b73, rv b83, .unset, .unset, .unset, .unset] [.null, (.ref b71), (.ref b85), (.ref b85)])) rfl (by rw [hml]; rfl) (Steps.refl _) (a := b85) (argsL := [(.ref b71), .null]) (rest := [(.ref b85)]) (lenOf own_pd__Ljava_lang_Object_Lcom_example_tranche_tranche_model_Span__V rfl) rfl (by show 2 * 0 + _ ≤ _; exact Nat.le_of_eq rfl) (hb hby at_143) (fun _ _ => ⟨rfl, e85, (by decide : 7 + 0 ≤ _), (by decide : 22 + 0 ≤ _)⟩)
      dsimp only [Pt.U, Pt.locs, Pt.cells, Pt.slots] at X86 l86 y86 z86 st86 hQ86
      subst l86 y86 z86
      obtain ⟨rfl, Nq86, K86, -, F_value_b85, F_span_b85⟩ := hQ86
      have N86 := Fr.app N84 Nq86
      refine own_go (fun zt zk => st86.trans zk) ?_
      replace O := O.keep K86 (allS g_b85 all0)
      replace Kp := Kp.trans K86 (allS (Or.inr sz_b85) all0)
      replace V_b61 := V_b61.keep K86 (ninS ne_b61_b85 nin0)
      replace Ea_b61 := Ea_b61.keep K86
      replace Ex_b71 := Ex_b71.keep K86
      replace Fc72 := Fc72.keep K86 (ninS ne_b71_b85 nin0)
      replace Fv72 := Fv72.keep K86 (ninS ne_b71_b85 nin0)
      replace Vt72 := Vt72.keep K86 (ninS ne_t72_b85 nin0)
      replace V_b73 := V_b73.keep K86 (ninS ne_b73_b85 nin0)
      replace Ea_b73 := Ea_b73.keep K86
      replace Ex_b83 := Ex_b83.keep K86
      replace Fc84 := Fc84.keep K86 (ninS ne_b83_b85 nin0)
      replace Fv84 := Fv84.keep K86 (ninS ne_b83_b85 nin0)
      replace Vt84 := Vt84.keep K86 (ninS ne_t84_b85 nin0)
      replace Ex_b85 := Ex_b85.keep K86
      show own_Go p e below s _ _ _ (T86.setTop (mkF m 146 #[iv p1, iv p2, iv p3, iv p4, iv p5, rv o_SECTION, rv b71, rv b73, rv b83, .unset, .unset, .unset, .unset] [(.ref b85)]))
      refine own_go (fun zt zk => (XS.astore X86.here hx rfl (hb hby at_146) rfl rfl (l' := #[iv p1, iv p2, iv p3, iv p4, iv p5, rv o_SECTION, rv b71, rv b73, rv b83, rv b85, .unset, .unset, .unset]) rfl zk)) ?_
      show own_Go p e below s _ _ _ (T86.setTop (mkF m 148 #[iv p1, iv p2, iv p3, iv p4, iv p5, rv o_SECTION, rv b71, rv b73, rv b83, rv b85, .unset, .unset, .unset] []))
      obtain ⟨T87, h87, X87, e87, E87, A87, D87, -, st87⟩ := newO X86 hx hZ hown (hw _ (List.mem_of_getElem? (i := 33) rfl)) (hw _ (List.mem_of_getElem? (i := 34) rfl)) (hw _ (List.mem_of_getElem? (i := 35) rfl)) rfl (g := (mkF m 148 #[iv p1, iv p2, iv p3, iv p4, iv p5, rv o_SECTION, rv b71, rv b73, rv b83, rv b85, .unset, .unset, .unset] [])) rfl (hb hby at_148) (by decide) (by decide)
      obtain ⟨b87, g87⟩ : ∃ z, z = T86.heap.size := ⟨_, rfl⟩
      rw [← g87] at A87 D87 st87
      refine own_go st87 ?_
      have ne_o_ARTICLE_b87 : o_ARTICLE ≠ b87 := Nat.ne_of_lt (Nat.lt_of_lt_of_le (Ex_o_ARTICLE.ext O.2).lt (Nat.le_of_eq g87.symm))
      have ne_o_SECTION_b87 : o_SECTION ≠ b87 := Nat.ne_of_lt (Nat.lt_of_lt_of_le (Ex_o_SECTION.ext O.2).lt (Nat.le_of_eq g87.symm))
      have ne_b61_b87 : b61 ≠ b87 := Nat.ne_of_lt (Nat.lt_of_lt_of_le V_b61.lt (Nat.le_of_eq g87.symm))
      have ne_b71_b87 : b71 ≠ b87 := Nat.ne_of_lt (Nat.lt_of_lt_of_le Ex_b71.lt (Nat.le_of_eq g87.symm))
      have ne_t72_b87 : t72 ≠ b87 := Nat.ne_of_lt (Nat.lt_of_lt_of_le Vt72.lt (Nat.le_of_eq g87.symm))
      have ne_b73_b87 : b73 ≠ b87 := Nat.ne_of_lt (Nat.lt_of_lt_of_le V_b73.lt (Nat.le_of_eq g87.symm))
      have ne_b83_b87 : b83 ≠ b87 := Nat.ne_of_lt (Nat.lt_of_lt_of_le Ex_b83.lt (Nat.le_of_eq g87.symm))
      have ne_t84_b87 : t84 ≠ b87 := Nat.ne_of_lt (Nat.lt_of_lt_of_le Vt84.lt (Nat.le_of_eq g87.symm))
      have ne_b85_b87 : b85 ≠ b87 := Nat.ne_of_lt (Nat.lt_of_lt_of_le Ex_b85.lt (Nat.le_of_eq g87.symm))
      have sz_b87 : h0.size ≤ b87 := Nat.le_trans Kp.1 (Nat.le_of_eq g87.symm)
      have g_b87 : n0 ≤ b87 := Nat.le_trans Z0 sz_b87
      replace O := O.ext E87
      replace Kp := Kp.ext E87
      replace V_b61 := V_b61.ext E87
      replace Ea_b61 := Ea_b61.ext E87
      replace Ex_b71 := Ex_b71.ext E87
      replace Fc72 := Fc72.ext E87
      replace Fv72 := Fv72.ext E87
      replace Vt72 := Vt72.ext E87
      replace V_b73 := V_b73.ext E87
      replace Ea_b73 := Ea_b73.ext E87
      replace Ex_b83 := Ex_b83.ext E87
      replace Fc84 := Fc84.ext E87
      replace Fv84 := Fv84.ext E87
      replace Vt84 := Vt84.ext E87
      replace Ex_b85 := Ex_b85.ext E87
      replace F_value_b85 := F_value_b85.ext E87
      replace F_span_b85 := F_span_b85.ext E87
      have Ex_b87 := A87
      have F_value_b87 : Fld Z h87 b87 "com/example/tranche/tranche/model/Stated" "value" "Ljava/lang/Object;" .null := D87 (Or.inr (hw _ (List.mem_of_getElem? (i := 46) rfl))) (ty := (.object "java/lang/Object")) (by decide)
      have F_span_b87 : Fld Z h87 b87 "com/example/tranche/tranche/model/Stated" "span" "Lcom/example/tranche/tranche/model/Span;" .null := D87 (Or.inr (hw _ (List.mem_of_getElem? (i := 48) rfl))) (ty := (.object "com/example/tranche/tranche/model/Span")) (by decide)
      show own_Go p e below s _ _ _ (T87.setTop (mkF m 151 #[iv p1, iv p2, iv p3, iv p4, iv p5, rv o_SECTION, rv b71, rv b73, rv b83, rv b85, .unset, .unset, .unset] [(.ref b87)]))
      refine own_go (fun zt zk => (XS.dup X87.here hx rfl (hb hby at_151) rfl rfl (XS.aload X87.here hx rfl (hb hby at_152) rfl rfl (XS.aconstNull X87.here hx rfl (hb hby at_154) zk)))) ?_
      show own_Go p e below s _ _ _ (T87.setTop (mkF m 155 #[iv p1, iv p2, iv p3, iv p4, iv p5, rv o_SECTION, rv b71, rv b73, rv b83, rv b85, .unset, .unset, .unset] [.null, (.ref b83), (.ref b87), (.ref b87)]))
      obtain ⟨_, _, ⟨T88, L88, k88, n88⟩, -, X88, ⟨Lc88, hQ88, l88, y88, z88⟩, st88⟩ := X87.specialBack hx (y := (⟨"com/example/tranche/tranche/model/Stated", "<init>", "(Ljava/lang/Object;Lcom/example/tranche/tranche/model/Span;)V"⟩ : MethodName)) rfl hown (mvT hZ (hw _ (List.mem_of_getElem? (i := 36) rfl))) (mvT hZ (hw _ (List.mem_of_getElem? (i := 37) rfl))) (mvT hZ (hw _ (List.mem_of_getElem? (i := 38) rfl))) (by decide) (backOf (W := 1) (own_rstated l Z a0 hw [] b87 b83  h87 n0 (Nat.le_trans Z0 Kp.1) Ex_b87 F_value_b87 F_span_b87 g_b87 ) hZ (hw _ (List.mem_of_getElem? (i := 38) rfl)) (hw _ (List.mem_of_getElem? (i := 35) rfl)) (by decide) (by decide)) (g := (mkF m 155 #[iv p1, iv p2, iv p3, iv p4, iv p5, rv o_SECTION, rv b71, rv b73, rv b83, rv b85, .unset, .unset, .unset] [.null, (.ref b83), (.ref b87), (.ref b87)])) rfl (by rw [hml]; rfl) (Steps.refl _) (a := b87) (argsL := [(.ref b83), .null]) (rest := [(.ref b87)]) (lenOf own_pd__Ljava_lang_Object_Lcom_example_tranche_tranche_model_Span__V rfl) rfl (by show 2 * 0 + _ ≤ _; exact Nat.le_of_eq rfl) (hb hby at_155) (fun _ _ => ⟨rfl, e87, (by decide : 8 + 0 ≤ _), (by decide : 24 + 0 ≤ _)⟩)
      dsimp only [Pt.U, Pt.locs, Pt.cells, Pt.slots] at X88 l88 y88 z88 st88 hQ88
      subst l88 y88 z88
      obtain ⟨rfl, Nq88, K88, -, F_value_b87, F_span_b87⟩ := hQ88
      have N88 := Fr.app N86 Nq88
      refine own_go (fun zt zk => st88.trans zk) ?_
      replace O := O.keep K88 (allS g_b87 all0)
      replace Kp := Kp.trans K88 (allS (Or.inr sz_b87) all0)
      replace V_b61 := V_b61.keep K88 (ninS ne_b61_b87 nin0)
      replace Ea_b61 := Ea_b61.keep K88
      replace Ex_b71 := Ex_b71.keep K88
      replace Fc72 := Fc72.keep K88 (ninS ne_b71_b87 nin0)
      replace Fv72 := Fv72.keep K88 (ninS ne_b71_b87 nin0)
      replace Vt72 := Vt72.keep K88 (ninS ne_t72_b87 nin0)
      replace V_b73 := V_b73.keep K88 (ninS ne_b73_b87 nin0)
      replace Ea_b73 := Ea_b73.keep K88
      replace Ex_b83 := Ex_b83.keep K88
      replace Fc84 := Fc84.keep K88 (ninS ne_b83_b87 nin0)
      replace Fv84 := Fv84.keep K88 (ninS ne_b83_b87 nin0)
      replace Vt84 := Vt84.keep K88 (ninS ne_t84_b87 nin0)
      replace Ex_b85 := Ex_b85.keep K88
      replace F_value_b85 := F_value_b85.keep K88 (ninS ne_b85_b87 nin0)
      replace F_span_b85 := F_span_b85.keep K88 (ninS ne_b85_b87 nin0)
      replace Ex_b87 := Ex_b87.keep K88
      show own_Go p e below s _ _ _ (T88.setTop (mkF m 158 #[iv p1, iv p2, iv p3, iv p4, iv p5, rv o_SECTION, rv b71, rv b73, rv b83, rv b85, .unset, .unset, .unset] [(.ref b87)]))
      refine own_go (fun zt zk => (XS.astore X88.here hx rfl (hb hby at_158) rfl rfl (l' := #[iv p1, iv p2, iv p3, iv p4, iv p5, rv o_SECTION, rv b71, rv b73, rv b83, rv b85, rv b87, .unset, .unset]) rfl zk)) ?_
      show own_Go p e below s _ _ _ (T88.setTop (mkF m 160 #[iv p1, iv p2, iv p3, iv p4, iv p5, rv o_SECTION, rv b71, rv b73, rv b83, rv b85, rv b87, .unset, .unset] []))
      obtain ⟨T89, h89, X89, e89, E89, A89, D89, -, st89⟩ := newO X88 hx hZ hown (hw _ (List.mem_of_getElem? (i := 49) rfl)) (hw _ (List.mem_of_getElem? (i := 50) rfl)) (hw _ (List.mem_of_getElem? (i := 51) rfl)) rfl (g := (mkF m 160 #[iv p1, iv p2, iv p3, iv p4, iv p5, rv o_SECTION, rv b71, rv b73, rv b83, rv b85, rv b87, .unset, .unset] [])) rfl (hb hby at_160) (by decide) (by decide)
      obtain ⟨b89, g89⟩ : ∃ z, z = T88.heap.size := ⟨_, rfl⟩
      rw [← g89] at A89 D89 st89
      refine own_go st89 ?_
      have ne_o_ARTICLE_b89 : o_ARTICLE ≠ b89 := Nat.ne_of_lt (Nat.lt_of_lt_of_le (Ex_o_ARTICLE.ext O.2).lt (Nat.le_of_eq g89.symm))
      have ne_o_SECTION_b89 : o_SECTION ≠ b89 := Nat.ne_of_lt (Nat.lt_of_lt_of_le (Ex_o_SECTION.ext O.2).lt (Nat.le_of_eq g89.symm))
      have ne_b61_b89 : b61 ≠ b89 := Nat.ne_of_lt (Nat.lt_of_lt_of_le V_b61.lt (Nat.le_of_eq g89.symm))
      have ne_b71_b89 : b71 ≠ b89 := Nat.ne_of_lt (Nat.lt_of_lt_of_le Ex_b71.lt (Nat.le_of_eq g89.symm))
      have ne_t72_b89 : t72 ≠ b89 := Nat.ne_of_lt (Nat.lt_of_lt_of_le Vt72.lt (Nat.le_of_eq g89.symm))
      have ne_b73_b89 : b73 ≠ b89 := Nat.ne_of_lt (Nat.lt_of_lt_of_le V_b73.lt (Nat.le_of_eq g89.symm))
      have ne_b83_b89 : b83 ≠ b89 := Nat.ne_of_lt (Nat.lt_of_lt_of_le Ex_b83.lt (Nat.le_of_eq g89.symm))
      have ne_t84_b89 : t84 ≠ b89 := Nat.ne_of_lt (Nat.lt_of_lt_of_le Vt84.lt (Nat.le_of_eq g89.symm))
      have ne_b85_b89 : b85 ≠ b89 := Nat.ne_of_lt (Nat.lt_of_lt_of_le Ex_b85.lt (Nat.le_of_eq g89.symm))
      have ne_b87_b89 : b87 ≠ b89 := Nat.ne_of_lt (Nat.lt_of_lt_of_le Ex_b87.lt (Nat.le_of_eq g89.symm))
      have sz_b89 : h0.size ≤ b89 := Nat.le_trans Kp.1 (Nat.le_of_eq g89.symm)
      have g_b89 : n0 ≤ b89 := Nat.le_trans Z0 sz_b89
      replace O := O.ext E89
      replace Kp := Kp.ext E89
      replace V_b61 := V_b61.ext E89
      replace Ea_b61 := Ea_b61.ext E89
      replace Ex_b71 := Ex_b71.ext E89
      replace Fc72 := Fc72.ext E89
      replace Fv72 := Fv72.ext E89
      replace Vt72 := Vt72.ext E89
      replace V_b73 := V_b73.ext E89
      replace Ea_b73 := Ea_b73.ext E89
      replace Ex_b83 := Ex_b83.ext E89
      replace Fc84 := Fc84.ext E89
      replace Fv84 := Fv84.ext E89
      replace Vt84 := Vt84.ext E89
      replace Ex_b85 := Ex_b85.ext E89
      replace F_value_b85 := F_value_b85.ext E89
      replace F_span_b85 := F_span_b85.ext E89
      replace Ex_b87 := Ex_b87.ext E89
      replace F_value_b87 := F_value_b87.ext E89
      replace F_span_b87 := F_span_b87.ext E89
      have Ex_b89 := A89
      have F_kind_b89 : Fld Z h89 b89 "com/example/tranche/tranche/model/Heading" "kind" "Lcom/example/tranche/tranche/model/Heading$Kind;" .null := D89 (Or.inr (hw _ (List.mem_of_getElem? (i := 57) rfl))) (ty := (.object "com/example/tranche/tranche/model/Heading$Kind")) (by decide)
      have F_number_b89 : Fld Z h89 b89 "com/example/tranche/tranche/model/Heading" "number" "Lcom/example/tranche/tranche/model/Stated;" .null := D89 (Or.inr (hw _ (List.mem_of_getElem? (i := 59) rfl))) (ty := (.object "com/example/tranche/tranche/model/Stated")) (by decide)
      have F_title_b89 : Fld Z h89 b89 "com/example/tranche/tranche/model/Heading" "title" "Lcom/example/tranche/tranche/model/Stated;" .null := D89 (Or.inr (hw _ (List.mem_of_getElem? (i := 61) rfl))) (ty := (.object "com/example/tranche/tranche/model/Stated")) (by decide)
      have F_span_b89 : Fld Z h89 b89 "com/example/tranche/tranche/model/Heading" "span" "Lcom/example/tranche/tranche/model/Span;" .null := D89 (Or.inr (hw _ (List.mem_of_getElem? (i := 63) rfl))) (ty := (.object "com/example/tranche/tranche/model/Span")) (by decide)
      show own_Go p e below s _ _ _ (T89.setTop (mkF m 163 #[iv p1, iv p2, iv p3, iv p4, iv p5, rv o_SECTION, rv b71, rv b73, rv b83, rv b85, rv b87, .unset, .unset] [(.ref b89)]))
      refine own_go (fun zt zk => (XS.dup X89.here hx rfl (hb hby at_163) rfl rfl (XS.aload X89.here hx rfl (hb hby at_164) rfl rfl (XS.aload X89.here hx rfl (hb hby at_166) rfl rfl (XS.aload X89.here hx rfl (hb hby at_168) rfl rfl (XS.aconstNull X89.here hx rfl (hb hby at_170) zk)))))) ?_
      show own_Go p e below s _ _ _ (T89.setTop (mkF m 171 #[iv p1, iv p2, iv p3, iv p4, iv p5, rv o_SECTION, rv b71, rv b73, rv b83, rv b85, rv b87, .unset, .unset] [.null, (.ref b87), (.ref b85), (.ref o_SECTION), (.ref b89), (.ref b89)]))
      obtain ⟨_, _, ⟨T90, L90, k90, n90⟩, -, X90, ⟨Lc90, hQ90, l90, y90, z90⟩, st90⟩ := X89.specialBack hx (y := (⟨"com/example/tranche/tranche/model/Heading", "<init>", "(Lcom/example/tranche/tranche/model/Heading$Kind;Lcom/example/tranche/tranche/model/Stated;Lcom/example/tranche/tranche/model/Stated;Lcom/example/tranche/tranche/model/Span;)V"⟩ : MethodName)) rfl hown (mvT hZ (hw _ (List.mem_of_getElem? (i := 52) rfl))) (mvT hZ (hw _ (List.mem_of_getElem? (i := 53) rfl))) (mvT hZ (hw _ (List.mem_of_getElem? (i := 54) rfl))) (by decide) (backOf (W := 1) (own_rheading l Z a0 hw [] b89 o_SECTION b85 b87  h89 n0 (Nat.le_trans Z0 Kp.1) Ex_b89 F_kind_b89 F_number_b89 F_title_b89 F_span_b89 g_b89 ) hZ (hw _ (List.mem_of_getElem? (i := 54) rfl)) (hw _ (List.mem_of_getElem? (i := 51) rfl)) (by decide) (by decide)) (g := (mkF m 171 #[iv p1, iv p2, iv p3, iv p4, iv p5, rv o_SECTION, rv b71, rv b73, rv b83, rv b85, rv b87, .unset, .unset] [.null, (.ref b87), (.ref b85), (.ref o_SECTION), (.ref b89), (.ref b89)])) rfl (by rw [hml]; rfl) (Steps.refl _) (a := b89) (argsL := [(.ref o_SECTION), (.ref b85), (.ref b87), .null]) (rest := [(.ref b89)]) (lenOf own_pd__Lcom_example_tranche_tranche_model_Heading_Kind_Lcom_example_tranche_tranche_model_Stated_Lcom_example_tranche_tranche_model_Stated_Lcom_example_tranche_tranche_model_Span__V rfl) rfl (by show 2 * 0 + _ ≤ _; exact Nat.le_of_eq rfl) (hb hby at_171) (fun _ _ => ⟨rfl, e89, (by decide : 9 + 0 ≤ _), (by decide : 28 + 0 ≤ _)⟩)
      dsimp only [Pt.U, Pt.locs, Pt.cells, Pt.slots] at X90 l90 y90 z90 st90 hQ90
      subst l90 y90 z90
      obtain ⟨rfl, Nq90, K90, -, F_kind_b89, F_number_b89, F_title_b89, F_span_b89⟩ := hQ90
      have N90 := Fr.app N88 Nq90
      refine own_go (fun zt zk => st90.trans zk) ?_
      replace O := O.keep K90 (allS g_b89 all0)
      replace Kp := Kp.trans K90 (allS (Or.inr sz_b89) all0)
      replace V_b61 := V_b61.keep K90 (ninS ne_b61_b89 nin0)
      replace Ea_b61 := Ea_b61.keep K90
      replace Ex_b71 := Ex_b71.keep K90
      replace Fc72 := Fc72.keep K90 (ninS ne_b71_b89 nin0)
      replace Fv72 := Fv72.keep K90 (ninS ne_b71_b89 nin0)
      replace Vt72 := Vt72.keep K90 (ninS ne_t72_b89 nin0)
      replace V_b73 := V_b73.keep K90 (ninS ne_b73_b89 nin0)
      replace Ea_b73 := Ea_b73.keep K90
      replace Ex_b83 := Ex_b83.keep K90
      replace Fc84 := Fc84.keep K90 (ninS ne_b83_b89 nin0)
      replace Fv84 := Fv84.keep K90 (ninS ne_b83_b89 nin0)
      replace Vt84 := Vt84.keep K90 (ninS ne_t84_b89 nin0)
      replace Ex_b85 := Ex_b85.keep K90
      replace F_value_b85 := F_value_b85.keep K90 (ninS ne_b85_b89 nin0)
      replace F_span_b85 := F_span_b85.keep K90 (ninS ne_b85_b89 nin0)
      replace Ex_b87 := Ex_b87.keep K90
      replace F_value_b87 := F_value_b87.keep K90 (ninS ne_b87_b89 nin0)
      replace F_span_b87 := F_span_b87.keep K90 (ninS ne_b87_b89 nin0)
      replace Ex_b89 := Ex_b89.keep K90
      show own_Go p e below s _ _ _ (T90.setTop (mkF m 174 #[iv p1, iv p2, iv p3, iv p4, iv p5, rv o_SECTION, rv b71, rv b73, rv b83, rv b85, rv b87, .unset, .unset] [(.ref b89)]))
      refine own_go (fun zt zk => (XS.astore X90.here hx rfl (hb hby at_174) rfl rfl (l' := #[iv p1, iv p2, iv p3, iv p4, iv p5, rv o_SECTION, rv b71, rv b73, rv b83, rv b85, rv b87, rv b89, .unset]) rfl (XS.aload X90.here hx rfl (hb hby at_176) rfl rfl zk))) ?_
      show own_Go p e below s _ _ _ (T90.setTop (mkF m 178 #[iv p1, iv p2, iv p3, iv p4, iv p5, rv o_SECTION, rv b71, rv b73, rv b83, rv b85, rv b87, rv b89, .unset] [(.ref b89)]))
      obtain ⟨_, _, ⟨T91, L91, k91, n91⟩, -, X91, ⟨Lc91, hQ91, l91, y91, z91⟩, st91⟩ := Jvm.LawKit.callS X90 hx (y := (⟨"com/example/tranche/tranche/service/HeadingNumber", "of", "(Lcom/example/tranche/tranche/model/Heading;)Lcom/example/tranche/tranche/service/HeadingNumber;"⟩ : MethodName)) hown (mvT hZ (hw _ (List.mem_of_getElem? (i := 64) rfl))) (mvT hZ (hw _ (List.mem_of_getElem? (i := 65) rfl))) (mvT hZ (hw _ (List.mem_of_getElem? (i := 66) rfl))) (mvT hZ (hw _ (List.mem_of_getElem? (i := 67) rfl))) (by decide) (backOf (W := 0) (own_rof l Z a0 hw [] b89 o_SECTION b85 b71 T90.heap n0 (Nat.le_trans Z0 Kp.1) Ex_b89 F_kind_b89 F_number_b89 Ex_b85 F_value_b85 Ex_b71) hZ (hw _ (List.mem_of_getElem? (i := 67) rfl)) (hw _ (List.mem_of_getElem? (i := 66) rfl)) (by decide) (by decide)) (g := (mkF m 178 #[iv p1, iv p2, iv p3, iv p4, iv p5, rv o_SECTION, rv b71, rv b73, rv b83, rv b85, rv b87, rv b89, .unset] [(.ref b89)])) rfl (by rw [hml]; rfl) (argsL := [(.ref b89)]) (rest := []) (lenOf own_pd__Lcom_example_tranche_tranche_model_Heading__Lcom_example_tranche_tranche_service_HeadingNumber_ rfl) rfl (by show 2 * 0 + _ ≤ _; exact Nat.le_of_eq rfl) (hb hby at_178) (fun _ _ => ⟨rfl, rfl, (by decide : 9 + 1 ≤ _), (by decide : 28 + 2 ≤ _)⟩)
      dsimp only [Pt.U, Pt.locs, Pt.cells, Pt.slots] at X91 l91 y91 z91 st91 hQ91
      subst l91 y91 z91
      obtain ⟨r91, rfl, Nq91, K91, sr91, Ex_r91, Fk91, Fn91⟩ := hQ91
      have N91 := Fr.app N90 Nq91
      refine own_go st91 ?_
      replace O := O.keep K91 all0
      replace Kp := Kp.trans K91 all0
      replace V_b61 := V_b61.keep K91 nin0
      replace Ea_b61 := Ea_b61.keep K91
      replace Ex_b71 := Ex_b71.keep K91
      replace Fc72 := Fc72.keep K91 nin0
      replace Fv72 := Fv72.keep K91 nin0
      replace Vt72 := Vt72.keep K91 nin0
      replace V_b73 := V_b73.keep K91 nin0
      replace Ea_b73 := Ea_b73.keep K91
      replace Ex_b83 := Ex_b83.keep K91
      replace Fc84 := Fc84.keep K91 nin0
      replace Fv84 := Fv84.keep K91 nin0
      replace Vt84 := Vt84.keep K91 nin0
      replace Ex_b85 := Ex_b85.keep K91
      replace F_value_b85 := F_value_b85.keep K91 nin0
      replace F_span_b85 := F_span_b85.keep K91 nin0
      replace Ex_b87 := Ex_b87.keep K91
      replace F_value_b87 := F_value_b87.keep K91 nin0
      replace F_span_b87 := F_span_b87.keep K91 nin0
      replace Ex_b89 := Ex_b89.keep K91
      replace F_kind_b89 := F_kind_b89.keep K91 nin0
      replace F_number_b89 := F_number_b89.keep K91 nin0
      replace F_title_b89 := F_title_b89.keep K91 nin0
      replace F_span_b89 := F_span_b89.keep K91 nin0
      show own_Go p e below s _ _ _ (T91.setTop (mkF m 181 #[iv p1, iv p2, iv p3, iv p4, iv p5, rv o_SECTION, rv b71, rv b73, rv b83, rv b85, rv b87, rv b89, .unset] [(.ref r91)]))
      refine own_go (fun zt zk => (XS.astore X91.here hx rfl (hb hby at_181) rfl rfl (l' := #[iv p1, iv p2, iv p3, iv p4, iv p5, rv o_SECTION, rv b71, rv b73, rv b83, rv b85, rv b87, rv b89, rv r91]) rfl (XS.aload X91.here hx rfl (hb hby at_183) rfl rfl (XS.ifnullNo X91.here hx rfl (hb hby at_185) rfl (XS.aload X91.here hx rfl (hb hby at_188) rfl rfl zk))))) ?_
      show own_Go p e below s _ _ _ (T91.setTop (mkF m 190 #[iv p1, iv p2, iv p3, iv p4, iv p5, rv o_SECTION, rv b71, rv b73, rv b83, rv b85, rv b87, rv b89, rv r91] [(.ref r91)]))
      obtain ⟨cq92, kq92, qa92, qb92, qc92⟩ := isOf hZ rfl Ex_r91
      obtain ⟨_, _, ⟨T92, L92, k92, n92⟩, -, X92, ⟨Lc92, hQ92, l92, y92, z92⟩, st92⟩ := X91.virtualBack hx (y := (⟨"com/example/tranche/tranche/service/HeadingNumber", "kind", "()Lcom/example/tranche/tranche/model/Heading$Kind;"⟩ : MethodName)) (z := (⟨"com/example/tranche/tranche/service/HeadingNumber", "kind", "()Lcom/example/tranche/tranche/model/Heading$Kind;"⟩ : MethodName)) hown (mvT hZ (hw _ (List.mem_of_getElem? (i := 94) rfl))) (mvT hZ (hw _ (List.mem_of_getElem? (i := 95) rfl))) (notFace_of_selects (args := #[]) (mvT hZ (hw _ (List.mem_of_getElem? (i := 97) rfl)))) (mvT hZ (hw _ (List.mem_of_getElem? (i := 97) rfl))) (mvT hZ (hw _ (List.mem_of_getElem? (i := 96) rfl))) (by decide) (backOf (W := 0) (own_gkind2 l Z a0 hw [] r91 o_SECTION T91.heap n0 (Nat.le_trans Z0 Kp.1) Fk91) hZ (hw _ (List.mem_of_getElem? (i := 98) rfl)) (hw _ (List.mem_of_getElem? (i := 66) rfl)) (by decide) (by decide)) qa92 qc92 (g := (mkF m 190 #[iv p1, iv p2, iv p3, iv p4, iv p5, rv o_SECTION, rv b71, rv b73, rv b83, rv b85, rv b87, rv b89, rv r91] [(.ref r91)])) rfl (by rw [hml]; rfl) (Steps.refl _) (argsL := []) (rest := []) (lenOf own_pd___Lcom_example_tranche_tranche_model_Heading_Kind_ rfl) rfl (by show 2 * 0 + _ ≤ _; exact Nat.le_of_eq rfl) (hb hby at_190) (fun _ _ => ⟨rfl, rfl, (by decide : 10 + 0 ≤ _), (by decide : 30 + 0 ≤ _)⟩)
      dsimp only [Pt.U, Pt.locs, Pt.cells, Pt.slots] at X92 l92 y92 z92 st92 hQ92
      subst l92 y92 z92
      obtain ⟨rfl, Nq92, e92⟩ := hQ92
      have N92 := Fr.app N91 Nq92
      refine own_go (fun zt zk => st92.trans zk) ?_
      show own_Go p e below s _ _ _ (T92.setTop (mkF m 193 #[iv p1, iv p2, iv p3, iv p4, iv p5, rv o_SECTION, rv b71, rv b73, rv b83, rv b85, rv b87, rv b89, rv r91] [(.ref o_SECTION)]))
      refine own_go (fun zt zk => (XS.aload X92.here hx rfl (hb hby at_193) rfl rfl zk)) ?_
      show own_Go p e below s _ _ _ (T92.setTop (mkF m 195 #[iv p1, iv p2, iv p3, iv p4, iv p5, rv o_SECTION, rv b71, rv b73, rv b83, rv b85, rv b87, rv b89, rv r91] [(.ref o_SECTION), (.ref o_SECTION)]))
      refine own_go (fun zt zk => Jvm.RoadKit.acmp (g := (mkF m 195 #[iv p1, iv p2, iv p3, iv p4, iv p5, rv o_SECTION, rv b71, rv b73, rv b83, rv b85, rv b87, rv b89, rv r91] [(.ref o_SECTION), (.ref o_SECTION)])) X92 hx rfl rfl rfl (pc0 := 195) (pc' := 198) (same := true) rfl (hb hby at_195) rfl (decide_eq_true rfl) (by decide) (by decide) zk) ?_
      show own_Go p e below s _ _ _ (T92.setTop (mkF m 198 #[iv p1, iv p2, iv p3, iv p4, iv p5, rv o_SECTION, rv b71, rv b73, rv b83, rv b85, rv b87, rv b89, rv r91] []))
      refine own_go (fun zt zk => (XS.aload X92.here hx rfl (hb hby at_198) rfl rfl (XS.aload X92.here hx rfl (hb hby at_200) rfl rfl zk))) ?_
      show own_Go p e below s _ _ _ (T92.setTop (mkF m 202 #[iv p1, iv p2, iv p3, iv p4, iv p5, rv o_SECTION, rv b71, rv b73, rv b83, rv b85, rv b87, rv b89, rv r91] [(.ref r91), (.ref b71)]))
      obtain ⟨cq93, kq93, qa93, qb93, qc93⟩ := isOf hZ e92 Ex_r91
      obtain ⟨_, _, ⟨T93, L93, k93, n93⟩, -, X93, ⟨Lc93, hQ93, l93, y93, z93⟩, st93⟩ := X92.virtualBack hx (y := (⟨"com/example/tranche/tranche/service/HeadingNumber", "number", "()Ljava/lang/String;"⟩ : MethodName)) (z := (⟨"com/example/tranche/tranche/service/HeadingNumber", "number", "()Ljava/lang/String;"⟩ : MethodName)) hown (mvT hZ (hw _ (List.mem_of_getElem? (i := 99) rfl))) (mvT hZ (hw _ (List.mem_of_getElem? (i := 100) rfl))) (notFace_of_selects (args := #[]) (mvT hZ (hw _ (List.mem_of_getElem? (i := 102) rfl)))) (mvT hZ (hw _ (List.mem_of_getElem? (i := 102) rfl))) (mvT hZ (hw _ (List.mem_of_getElem? (i := 101) rfl))) (by decide) (backOf (W := 1) (own_gnumber2 l Z a0 hw [] r91 b71 T91.heap n0 (Nat.le_trans Z0 Kp.1) Fn91) hZ (hw _ (List.mem_of_getElem? (i := 103) rfl)) (hw _ (List.mem_of_getElem? (i := 66) rfl)) (by decide) (by decide)) qa93 qc93 (g := (mkF m 202 #[iv p1, iv p2, iv p3, iv p4, iv p5, rv o_SECTION, rv b71, rv b73, rv b83, rv b85, rv b87, rv b89, rv r91] [(.ref r91), (.ref b71)])) rfl (by rw [hml]; rfl) (Steps.refl _) (argsL := []) (rest := [(.ref b71)]) (lenOf own_pd___Ljava_lang_String_ rfl) rfl (by show 2 * 0 + _ ≤ _; exact Nat.le_of_eq rfl) (hb hby at_202) (fun _ _ => ⟨rfl, e92, (by decide : 10 + 0 ≤ _), (by decide : 30 + 0 ≤ _)⟩)
      dsimp only [Pt.U, Pt.locs, Pt.cells, Pt.slots] at X93 l93 y93 z93 st93 hQ93
      subst l93 y93 z93
      obtain ⟨rfl, Nq93, e93⟩ := hQ93
      have N93 := Fr.app N92 Nq93
      refine own_go (fun zt zk => st93.trans zk) ?_
      show own_Go p e below s _ _ _ (T93.setTop (mkF m 205 #[iv p1, iv p2, iv p3, iv p4, iv p5, rv o_SECTION, rv b71, rv b73, rv b83, rv b85, rv b87, rv b89, rv r91] [(.ref b71), (.ref b71)]))
      obtain ⟨cq94, kq94, qa94, qb94, qc94⟩ := isOf hZ e93 Ex_b71
      obtain ⟨_, _, ⟨T94, L94, k94, n94⟩, -, X94, ⟨Lc94, hQ94, l94, y94, z94⟩, st94⟩ := X93.virtualBack hx (y := (⟨"java/lang/String", "equals", "(Ljava/lang/Object;)Z"⟩ : MethodName)) (z := (⟨"java/lang/String", "equals", "(Ljava/lang/Object;)Z"⟩ : MethodName)) hown (mvT hZ (hw _ (List.mem_of_getElem? (i := 104) rfl))) (mvT hZ (hw _ (List.mem_of_getElem? (i := 105) rfl))) (notFace_of_selects (args := #[]) (mvT hZ (hw _ (List.mem_of_getElem? (i := 107) rfl)))) (mvT hZ (hw _ (List.mem_of_getElem? (i := 107) rfl))) (mvT hZ (hw _ (List.mem_of_getElem? (i := 106) rfl))) (by decide) (backOf (W := 0) (own_reqs l Z a0 hw [] b71  T91.heap n0 (Nat.le_trans Z0 Kp.1) ) hZ (hw _ (List.mem_of_getElem? (i := 108) rfl)) (hw _ (List.mem_of_getElem? (i := 6) rfl)) (by decide) (by decide)) qa94 qc94 (g := (mkF m 205 #[iv p1, iv p2, iv p3, iv p4, iv p5, rv o_SECTION, rv b71, rv b73, rv b83, rv b85, rv b87, rv b89, rv r91] [(.ref b71), (.ref b71)])) rfl (by rw [hml]; rfl) (Steps.refl _) (argsL := [(.ref b71)]) (rest := []) (lenOf own_pd__Ljava_lang_Object__Z rfl) rfl (by show 2 * 0 + _ ≤ _; exact Nat.le_of_eq rfl) (hb hby at_205) (fun _ _ => ⟨rfl, e93, (by decide : 10 + 0 ≤ _), (by decide : 30 + 0 ≤ _)⟩)
      dsimp only [Pt.U, Pt.locs, Pt.cells, Pt.slots] at X94 l94 y94 z94 st94 hQ94
      subst l94 y94 z94
      obtain ⟨rfl, Nq94, e94⟩ := hQ94
      have N94 := Fr.app N93 Nq94
      refine own_go (fun zt zk => st94.trans zk) ?_
      show own_Go p e below s _ _ _ (T94.setTop (mkF m 208 #[iv p1, iv p2, iv p3, iv p4, iv p5, rv o_SECTION, rv b71, rv b73, rv b83, rv b85, rv b87, rv b89, rv r91] [(.int (1 : Int32))]))
      refine own_go (fun zt zk => (XS.ifNo X94.here hx rfl (hb hby at_208) rfl ((if0 _ _).trans (feq ((by decide) : ¬ ((1 : Int32) = (0 : Int32)))).1) (XS.iconst X94.here hx rfl (hb hby at_211) (XS.goto X94.here hx rfl (pc0 := 212) (pc' := 216) rfl (hb hby at_212) (by decide) (by decide) zk)))) ?_
      show own_Go p e below s _ _ _ (T94.setTop (mkF m 216 #[iv p1, iv p2, iv p3, iv p4, iv p5, rv o_SECTION, rv b71, rv b73, rv b83, rv b85, rv b87, rv b89, rv r91] [(.int (1 : Int32))]))
      exact own_fin X94 Bd.notSynchronized (fun h => by rw [Bd.returns] at h; cases h) (fun fs hr => retN X94 hx (t := .boolean) Bd.returns (by simp) (hb hby at_216) hr) (by rw [e94]; exact ⟨rfl, N94⟩) (by decide) (by decide)
    · refine own_go (fun zt zk => (XS.ifNo X60.here hx rfl (hb hby at_20) rfl ((if0 _ _).trans (feq (hB : ¬ ((p1 &&& (2 : Int32)) = (0 : Int32)))).1) (XS.iloadN X60.here hx rfl (hb hby at_23) rfl (XS.sipush X60.here hx rfl (hb hby at_24) (XS.iand X60.here hx rfl (hb hby at_27) rfl (XS.i2c X60.here hx rfl (hb hby at_28) rfl zk)))))) ?_
      show own_Go p e below s _ _ _ (T60.setTop (mkF m 29 #[iv p1, iv p2, iv p3, iv p4, iv p5, rv o_SECTION, .unset, .unset, .unset, .unset, .unset, .unset, .unset] [(.int ((p2 &&& (255 : Int32)).toUInt32.toUInt16.toUInt32.toInt32))]))
      rw [i2c_mask]
      generalize hv_c95 : (p2 &&& (255 : Int32)) = c95
      have hr_c95 := own_r255 hv_c95
      show own_Go p e below s _ _ _ (T60.setTop (mkF m 29 #[iv p1, iv p2, iv p3, iv p4, iv p5, rv o_SECTION, .unset, .unset, .unset, .unset, .unset, .unset, .unset] [(.int c95)]))
      obtain ⟨_, _, ⟨T96, L96, k96, n96⟩, -, X96, ⟨Lc96, hQ96, l96, y96, z96⟩, st96⟩ := Jvm.LawKit.callS X60 hx (y := (⟨"java/lang/String", "valueOf", "(C)Ljava/lang/String;"⟩ : MethodName)) hown (mvT hZ (hw _ (List.mem_of_getElem? (i := 111) rfl))) (mvT hZ (hw _ (List.mem_of_getElem? (i := 112) rfl))) (mvT hZ (hw _ (List.mem_of_getElem? (i := 6) rfl))) (mvT hZ (hw _ (List.mem_of_getElem? (i := 113) rfl))) (by decide) (backOf (W := 0) (own_rvo l Z a0 hw [] c95 o_COMPACT_STRINGS h0 n0 Z0 O S_o_COMPACT_STRINGS nz_o_COMPACT_STRINGS hr_c95) hZ (hw _ (List.mem_of_getElem? (i := 113) rfl)) (hw _ (List.mem_of_getElem? (i := 6) rfl)) (by decide) (by decide)) (g := (mkF m 29 #[iv p1, iv p2, iv p3, iv p4, iv p5, rv o_SECTION, .unset, .unset, .unset, .unset, .unset, .unset, .unset] [(.int c95)])) rfl (by rw [hml]; rfl) (argsL := [(.int c95)]) (rest := []) (lenOf own_pd__C_Ljava_lang_String_ rfl) rfl (by show 2 * 0 + _ ≤ _; exact Nat.le_of_eq rfl) (hb hby at_29) (fun _ _ => ⟨rfl, e60, (by decide : 0 + 2 ≤ _), (by decide : 0 + 5 ≤ _)⟩)
      dsimp only [Pt.U, Pt.locs, Pt.cells, Pt.slots] at X96 l96 y96 z96 st96 hQ96
      subst l96 y96 z96
      obtain ⟨b96, t96, kb96, rfl, Nq96, K96, sb96, st96', ne_b96_t96, Ex_b96, Fv96, Fc96, Vt96⟩ := hQ96
      have sz_b96 : h0.size ≤ b96 := Nat.le_trans Kp.1 sb96
      have g_b96 := Nat.le_trans Z0 sz_b96
      have sz_t96 : h0.size ≤ t96 := Nat.le_trans Kp.1 st96'
      have N96 := Fr.app N0 Nq96
      refine own_go st96 ?_
      replace O := O.keep K96 all0
      replace Kp := Kp.trans K96 all0
      show own_Go p e below s _ _ _ (T96.setTop (mkF m 32 #[iv p1, iv p2, iv p3, iv p4, iv p5, rv o_SECTION, .unset, .unset, .unset, .unset, .unset, .unset, .unset] [(.ref b96)]))
      refine own_go (fun zt zk => (XS.astore X96.here hx rfl (hb hby at_32) rfl rfl (l' := #[iv p1, iv p2, iv p3, iv p4, iv p5, rv o_SECTION, rv b96, .unset, .unset, .unset, .unset, .unset, .unset]) rfl (XS.goto X96.here hx rfl (pc0 := 34) (pc' := 86) rfl (hb hby at_34) (by decide) (by decide) (XS.iconst X96.here hx rfl (hb hby at_86) zk)))) ?_
      show own_Go p e below s _ _ _ (T96.setTop (mkF m 87 #[iv p1, iv p2, iv p3, iv p4, iv p5, rv o_SECTION, rv b96, .unset, .unset, .unset, .unset, .unset, .unset] [(.int (3 : Int32))]))
      obtain ⟨T97, h97, k97, X97, e97, E97, A97, Ea97, st97⟩ := newPE X96 hx hZ (hw _ (List.mem_of_getElem? (i := 3) rfl)) rfl (g := (mkF m 87 #[iv p1, iv p2, iv p3, iv p4, iv p5, rv o_SECTION, rv b96, .unset, .unset, .unset, .unset, .unset, .unset] [(.int (3 : Int32))])) rfl (hb hby at_87) rfl (by decide) (cap := 3) (by decide) (by decide) (by decide) (by decide) (ad := "[C") (by decide)
      obtain ⟨b97, g97⟩ : ∃ z, z = T96.heap.size := ⟨_, rfl⟩
      rw [← g97] at A97 Ea97 st97
      refine own_go st97 ?_
      have ne_o_ARTICLE_b97 : o_ARTICLE ≠ b97 := Nat.ne_of_lt (Nat.lt_of_lt_of_le (Ex_o_ARTICLE.ext O.2).lt (Nat.le_of_eq g97.symm))
      have ne_o_SECTION_b97 : o_SECTION ≠ b97 := Nat.ne_of_lt (Nat.lt_of_lt_of_le (Ex_o_SECTION.ext O.2).lt (Nat.le_of_eq g97.symm))
      have ne_b96_b97 : b96 ≠ b97 := Nat.ne_of_lt (Nat.lt_of_lt_of_le Ex_b96.lt (Nat.le_of_eq g97.symm))
      have ne_t96_b97 : t96 ≠ b97 := Nat.ne_of_lt (Nat.lt_of_lt_of_le Vt96.lt (Nat.le_of_eq g97.symm))
      have sz_b97 : h0.size ≤ b97 := Nat.le_trans Kp.1 (Nat.le_of_eq g97.symm)
      have g_b97 : n0 ≤ b97 := Nat.le_trans Z0 sz_b97
      replace O := O.ext E97
      replace Kp := Kp.ext E97
      replace Ex_b96 := Ex_b96.ext E97
      replace Fv96 := Fv96.ext E97
      replace Fc96 := Fc96.ext E97
      replace Vt96 := Vt96.ext E97
      have V_b97 : Arv Z h97 b97 k97 .char (3 : Int32) [(.int (0 : Int32)), (.int (0 : Int32)), (.int (0 : Int32))] (.int (0 : Int32)) := (Arv.new A97 (by decide)).pad (pad_rep [] (.int (0 : Int32)) 3)
      have Ea_b97 := Ea97
      show own_Go p e below s _ _ _ (T97.setTop (mkF m 89 #[iv p1, iv p2, iv p3, iv p4, iv p5, rv o_SECTION, rv b96, .unset, .unset, .unset, .unset, .unset, .unset] [(.ref b97)]))
      refine own_go (fun zt zk => (XS.astore X97.here hx rfl (hb hby at_89) rfl rfl (l' := #[iv p1, iv p2, iv p3, iv p4, iv p5, rv o_SECTION, rv b96, rv b97, .unset, .unset, .unset, .unset, .unset]) rfl (XS.aload X97.here hx rfl (hb hby at_91) rfl rfl (XS.iconst X97.here hx rfl (hb hby at_93) (XS.iloadN X97.here hx rfl (hb hby at_94) rfl (XS.sipush X97.here hx rfl (hb hby at_95) (XS.iand X97.here hx rfl (hb hby at_98) rfl (XS.i2c X97.here hx rfl (hb hby at_99) rfl zk)))))))) ?_
      show own_Go p e below s _ _ _ (T97.setTop (mkF m 100 #[iv p1, iv p2, iv p3, iv p4, iv p5, rv o_SECTION, rv b96, rv b97, .unset, .unset, .unset, .unset, .unset] [(.int ((p4 &&& (255 : Int32)).toUInt32.toUInt16.toUInt32.toInt32)), (.int (0 : Int32)), (.ref b97)]))
      rw [i2c_mask]
      generalize hv_c98 : (p4 &&& (255 : Int32)) = c98
      have hr_c98 := own_r255 hv_c98
      show own_Go p e below s _ _ _ (T97.setTop (mkF m 100 #[iv p1, iv p2, iv p3, iv p4, iv p5, rv o_SECTION, rv b96, rv b97, .unset, .unset, .unset, .unset, .unset] [(.int c98), (.int (0 : Int32)), (.ref b97)]))
      obtain ⟨cl99, Ar99, q99, Sz99, Nz99, Ha99, Ga99⟩ := id V_b97
      have hin99 : ¬ ((0 : Int32) < 0 ∨ cl99.slots.size ≤ ((0 : Int32)).toNatClampNeg) := inb_of Sz99 ⟨by decide, by decide⟩
      obtain ⟨T100, h100, X100, e100, W100, st100⟩ := stC X97 hx hZ e97 Ar99 (j := (0 : Int32)) hin99 (g := (mkF m 100 #[iv p1, iv p2, iv p3, iv p4, iv p5, rv o_SECTION, rv b96, rv b97, .unset, .unset, .unset, .unset, .unset] [(.int c98), (.int (0 : Int32)), (.ref b97)])) rfl rfl (hb hby at_100)
      refine own_go st100 ?_
      rw [show nar .char c98 = c98 from own_narc hr_c98] at W100
      have V100 := Arv.set Ar99 q99 Sz99 Nz99 Ha99 Ga99 (own_fitc hr_c98) W100 0 rfl (Nat.le_of_ble_eq_true rfl)
      have N100 := Fr.snoc X100 N96 g_b97
      replace O := O.wr W100 g_b97
      replace Kp := Kp.wr W100 (Or.inr sz_b97)
      replace Ex_b96 := Ex_b96.wr W100
      replace Fv96 := Fv96.other W100 (Or.inl ne_b96_b97)
      replace Fc96 := Fc96.other W100 (Or.inl ne_b96_b97)
      replace Vt96 := Vt96.other W100 ne_t96_b97
      replace Ea_b97 := Ea_b97.wr W100
      replace V_b97 : Arv Z h100 b97 k97 .char (3 : Int32) [(.int c98), (.int (0 : Int32)), (.int (0 : Int32))] (.int (0 : Int32)) := V100
      show own_Go p e below s _ _ _ (T100.setTop (mkF m 101 #[iv p1, iv p2, iv p3, iv p4, iv p5, rv o_SECTION, rv b96, rv b97, .unset, .unset, .unset, .unset, .unset] []))
      refine own_go (fun zt zk => (XS.aload X100.here hx rfl (hb hby at_101) rfl rfl (XS.iconst X100.here hx rfl (hb hby at_103) (XS.iloadN X100.here hx rfl (hb hby at_104) rfl (XS.bipush X100.here hx rfl (hb hby at_105) (XS.iushr X100.here hx rfl (hb hby at_107) rfl (XS.sipush X100.here hx rfl (hb hby at_108) (XS.iand X100.here hx rfl (hb hby at_111) rfl (XS.i2c X100.here hx rfl (hb hby at_112) rfl zk))))))))) ?_
      show own_Go p e below s _ _ _ (T100.setTop (mkF m 113 #[iv p1, iv p2, iv p3, iv p4, iv p5, rv o_SECTION, rv b96, rv b97, .unset, .unset, .unset, .unset, .unset] [(.int ((((p4.toUInt32 >>> ((8 : Int32) &&& 31).toUInt32).toInt32) &&& (255 : Int32)).toUInt32.toUInt16.toUInt32.toInt32)), (.int (1 : Int32)), (.ref b97)]))
      rw [i2c_mask]
      generalize hv_c101 : (((p4.toUInt32 >>> ((8 : Int32) &&& 31).toUInt32).toInt32) &&& (255 : Int32)) = c101
      have hr_c101 := own_r255 hv_c101
      show own_Go p e below s _ _ _ (T100.setTop (mkF m 113 #[iv p1, iv p2, iv p3, iv p4, iv p5, rv o_SECTION, rv b96, rv b97, .unset, .unset, .unset, .unset, .unset] [(.int c101), (.int (1 : Int32)), (.ref b97)]))
      obtain ⟨cl102, Ar102, q102, Sz102, Nz102, Ha102, Ga102⟩ := id V_b97
      have hin102 : ¬ ((1 : Int32) < 0 ∨ cl102.slots.size ≤ ((1 : Int32)).toNatClampNeg) := inb_of Sz102 ⟨by decide, by decide⟩
      obtain ⟨T103, h103, X103, e103, W103, st103⟩ := stC X100 hx hZ e100 Ar102 (j := (1 : Int32)) hin102 (g := (mkF m 113 #[iv p1, iv p2, iv p3, iv p4, iv p5, rv o_SECTION, rv b96, rv b97, .unset, .unset, .unset, .unset, .unset] [(.int c101), (.int (1 : Int32)), (.ref b97)])) rfl rfl (hb hby at_113)
      refine own_go st103 ?_
      rw [show nar .char c101 = c101 from own_narc hr_c101] at W103
      have V103 := Arv.set Ar102 q102 Sz102 Nz102 Ha102 Ga102 (own_fitc hr_c101) W103 1 rfl (Nat.le_of_ble_eq_true rfl)
      have N103 := Fr.snoc X103 N100 g_b97
      replace O := O.wr W103 g_b97
      replace Kp := Kp.wr W103 (Or.inr sz_b97)
      replace Ex_b96 := Ex_b96.wr W103
      replace Fv96 := Fv96.other W103 (Or.inl ne_b96_b97)
      replace Fc96 := Fc96.other W103 (Or.inl ne_b96_b97)
      replace Vt96 := Vt96.other W103 ne_t96_b97
      replace Ea_b97 := Ea_b97.wr W103
      replace V_b97 : Arv Z h103 b97 k97 .char (3 : Int32) [(.int c98), (.int c101), (.int (0 : Int32))] (.int (0 : Int32)) := V103
      show own_Go p e below s _ _ _ (T103.setTop (mkF m 114 #[iv p1, iv p2, iv p3, iv p4, iv p5, rv o_SECTION, rv b96, rv b97, .unset, .unset, .unset, .unset, .unset] []))
      refine own_go (fun zt zk => (XS.aload X103.here hx rfl (hb hby at_114) rfl rfl (XS.iconst X103.here hx rfl (hb hby at_116) (XS.iload X103.here hx rfl (hb hby at_117) rfl (XS.sipush X103.here hx rfl (hb hby at_119) (XS.iand X103.here hx rfl (hb hby at_122) rfl (XS.i2c X103.here hx rfl (hb hby at_123) rfl zk))))))) ?_
      show own_Go p e below s _ _ _ (T103.setTop (mkF m 124 #[iv p1, iv p2, iv p3, iv p4, iv p5, rv o_SECTION, rv b96, rv b97, .unset, .unset, .unset, .unset, .unset] [(.int ((p5 &&& (255 : Int32)).toUInt32.toUInt16.toUInt32.toInt32)), (.int (2 : Int32)), (.ref b97)]))
      rw [i2c_mask]
      generalize hv_c104 : (p5 &&& (255 : Int32)) = c104
      have hr_c104 := own_r255 hv_c104
      show own_Go p e below s _ _ _ (T103.setTop (mkF m 124 #[iv p1, iv p2, iv p3, iv p4, iv p5, rv o_SECTION, rv b96, rv b97, .unset, .unset, .unset, .unset, .unset] [(.int c104), (.int (2 : Int32)), (.ref b97)]))
      obtain ⟨cl105, Ar105, q105, Sz105, Nz105, Ha105, Ga105⟩ := id V_b97
      have hin105 : ¬ ((2 : Int32) < 0 ∨ cl105.slots.size ≤ ((2 : Int32)).toNatClampNeg) := inb_of Sz105 ⟨by decide, by decide⟩
      obtain ⟨T106, h106, X106, e106, W106, st106⟩ := stC X103 hx hZ e103 Ar105 (j := (2 : Int32)) hin105 (g := (mkF m 124 #[iv p1, iv p2, iv p3, iv p4, iv p5, rv o_SECTION, rv b96, rv b97, .unset, .unset, .unset, .unset, .unset] [(.int c104), (.int (2 : Int32)), (.ref b97)])) rfl rfl (hb hby at_124)
      refine own_go st106 ?_
      rw [show nar .char c104 = c104 from own_narc hr_c104] at W106
      have V106 := Arv.set Ar105 q105 Sz105 Nz105 Ha105 Ga105 (own_fitc hr_c104) W106 2 rfl (Nat.le_of_ble_eq_true rfl)
      have N106 := Fr.snoc X106 N103 g_b97
      replace O := O.wr W106 g_b97
      replace Kp := Kp.wr W106 (Or.inr sz_b97)
      replace Ex_b96 := Ex_b96.wr W106
      replace Fv96 := Fv96.other W106 (Or.inl ne_b96_b97)
      replace Fc96 := Fc96.other W106 (Or.inl ne_b96_b97)
      replace Vt96 := Vt96.other W106 ne_t96_b97
      replace Ea_b97 := Ea_b97.wr W106
      replace V_b97 : Arv Z h106 b97 k97 .char (3 : Int32) [(.int c98), (.int c101), (.int c104)] (.int (0 : Int32)) := V106
      show own_Go p e below s _ _ _ (T106.setTop (mkF m 125 #[iv p1, iv p2, iv p3, iv p4, iv p5, rv o_SECTION, rv b96, rv b97, .unset, .unset, .unset, .unset, .unset] []))
      obtain ⟨T107, h107, X107, e107, E107, A107, D107, -, st107⟩ := newO X106 hx hZ hown (hw _ (List.mem_of_getElem? (i := 4) rfl)) (hw _ (List.mem_of_getElem? (i := 5) rfl)) (hw _ (List.mem_of_getElem? (i := 6) rfl)) e106 (g := (mkF m 125 #[iv p1, iv p2, iv p3, iv p4, iv p5, rv o_SECTION, rv b96, rv b97, .unset, .unset, .unset, .unset, .unset] [])) rfl (hb hby at_125) (by decide) (by decide)
      obtain ⟨b107, g107⟩ : ∃ z, z = h106.size := ⟨_, rfl⟩
      rw [← g107] at A107 D107 st107
      refine own_go st107 ?_
      have ne_o_ARTICLE_b107 : o_ARTICLE ≠ b107 := Nat.ne_of_lt (Nat.lt_of_lt_of_le (Ex_o_ARTICLE.ext O.2).lt (Nat.le_of_eq g107.symm))
      have ne_o_SECTION_b107 : o_SECTION ≠ b107 := Nat.ne_of_lt (Nat.lt_of_lt_of_le (Ex_o_SECTION.ext O.2).lt (Nat.le_of_eq g107.symm))
      have ne_b96_b107 : b96 ≠ b107 := Nat.ne_of_lt (Nat.lt_of_lt_of_le Ex_b96.lt (Nat.le_of_eq g107.symm))
      have ne_t96_b107 : t96 ≠ b107 := Nat.ne_of_lt (Nat.lt_of_lt_of_le Vt96.lt (Nat.le_of_eq g107.symm))
      have ne_b97_b107 : b97 ≠ b107 := Nat.ne_of_lt (Nat.lt_of_lt_of_le V_b97.lt (Nat.le_of_eq g107.symm))
      have sz_b107 : h0.size ≤ b107 := Nat.le_trans Kp.1 (Nat.le_of_eq g107.symm)
      have g_b107 : n0 ≤ b107 := Nat.le_trans Z0 sz_b107
      replace O := O.ext E107
      replace Kp := Kp.ext E107
      replace Ex_b96 := Ex_b96.ext E107
      replace Fv96 := Fv96.ext E107
      replace Fc96 := Fc96.ext E107
      replace Vt96 := Vt96.ext E107
      replace V_b97 := V_b97.ext E107
      replace Ea_b97 := Ea_b97.ext E107
      have Ex_b107 := A107
      have F_coder_b107 : Fld Z h107 b107 "java/lang/String" "coder" "B" (.int (0 : Int32)) := D107 (Or.inr (hw _ (List.mem_of_getElem? (i := 30) rfl))) (ty := .byte) (by decide)
      have F_value_b107 : Fld Z h107 b107 "java/lang/String" "value" "[B" .null := D107 (Or.inr (hw _ (List.mem_of_getElem? (i := 32) rfl))) (ty := (.array .byte)) (by decide)
      show own_Go p e below s _ _ _ (T107.setTop (mkF m 128 #[iv p1, iv p2, iv p3, iv p4, iv p5, rv o_SECTION, rv b96, rv b97, .unset, .unset, .unset, .unset, .unset] [(.ref b107)]))
      refine own_go (fun zt zk => (XS.dup X107.here hx rfl (hb hby at_128) rfl rfl (XS.aload X107.here hx rfl (hb hby at_129) rfl rfl zk))) ?_
      show own_Go p e below s _ _ _ (T107.setTop (mkF m 131 #[iv p1, iv p2, iv p3, iv p4, iv p5, rv o_SECTION, rv b96, rv b97, .unset, .unset, .unset, .unset, .unset] [(.ref b97), (.ref b107), (.ref b107)]))
      obtain ⟨_, _, ⟨T108, L108, k108, n108⟩, -, X108, ⟨Lc108, hQ108, l108, y108, z108⟩, st108⟩ := X107.specialBack hx (y := (⟨"java/lang/String", "<init>", "([C)V"⟩ : MethodName)) rfl hown (mvT hZ (hw _ (List.mem_of_getElem? (i := 7) rfl))) (mvT hZ (hw _ (List.mem_of_getElem? (i := 8) rfl))) (mvT hZ (hw _ (List.mem_of_getElem? (i := 9) rfl))) (by decide) (StrChars.Road.backV (W := 1) hZ (own_hnew Z a0 hw) (kI := 4) (hw _ (List.mem_of_getElem? (i := 5) rfl)) (cs := [c98, c101, c104]) (bs := [(c98.toInt8.toInt32), (c101.toInt8.toInt32), (c104.toInt8.toInt32)]) (n := 3) g_b107 (Nat.le_trans Z0 Kp.1) Ex_b107 F_value_b107 F_coder_b107 V_b97 (S_o_COMPACT_STRINGS.ext O.2) nz_o_COMPACT_STRINGS rfl rfl (by decide) (by decide) (own_ac hr_c98 (own_ac hr_c101 (own_ac hr_c104 own_an))) rfl (by decide) (by decide)) (g := (mkF m 131 #[iv p1, iv p2, iv p3, iv p4, iv p5, rv o_SECTION, rv b96, rv b97, .unset, .unset, .unset, .unset, .unset] [(.ref b97), (.ref b107), (.ref b107)])) rfl (by rw [hml]; rfl) (Steps.refl _) (a := b107) (argsL := [(.ref b97)]) (rest := [(.ref b107)]) (lenOf own_pd___C_V rfl) rfl (by show 2 * 0 + _ ≤ _; exact Nat.le_of_eq rfl) (hb hby at_131) (fun _ _ => ⟨rfl, e107, (by decide : 4 + 1 ≤ _), (by decide : 12 + 3 ≤ _)⟩)
      dsimp only [Pt.U, Pt.locs, Pt.cells, Pt.slots] at X108 l108 y108 z108 st108 hQ108
      subst l108 y108 z108
      obtain ⟨rfl, Nq108, K108, -, Fc108, t108, kb108, -, sz108, -, Fv108, Vt108⟩ := hQ108
      have sz_t108 : h0.size ≤ t108 := Nat.le_trans Kp.1 sz108
      have g_t108 : n0 ≤ t108 := Nat.le_trans Z0 sz_t108
      have ne_b96_t108 : b96 ≠ t108 := Nat.ne_of_lt (Nat.lt_of_lt_of_le Ex_b96.lt sz108)
      have ne_t96_t108 : t96 ≠ t108 := Nat.ne_of_lt (Nat.lt_of_lt_of_le Vt96.lt sz108)
      have ne_b97_t108 : b97 ≠ t108 := Nat.ne_of_lt (Nat.lt_of_lt_of_le V_b97.lt sz108)
      have ne_b107_t108 : b107 ≠ t108 := Nat.ne_of_lt (Nat.lt_of_lt_of_le Ex_b107.lt sz108)
      have N108 := Fr.app N106 Nq108
      refine own_go (fun zt zk => st108.trans zk) ?_
      replace O := O.keep K108 (allS g_b107 all0)
      replace Kp := Kp.trans K108 (allS (Or.inr sz_b107) all0)
      replace Ex_b96 := Ex_b96.keep K108
      replace Fv96 := Fv96.keep K108 (ninS ne_b96_b107 nin0)
      replace Fc96 := Fc96.keep K108 (ninS ne_b96_b107 nin0)
      replace Vt96 := Vt96.keep K108 (ninS ne_t96_b107 nin0)
      replace V_b97 := V_b97.keep K108 (ninS ne_b97_b107 nin0)
      replace Ea_b97 := Ea_b97.keep K108
      replace Ex_b107 := Ex_b107.keep K108
      show own_Go p e below s _ _ _ (T108.setTop (mkF m 134 #[iv p1, iv p2, iv p3, iv p4, iv p5, rv o_SECTION, rv b96, rv b97, .unset, .unset, .unset, .unset, .unset] [(.ref b107)]))
      refine own_go (fun zt zk => (XS.astore X108.here hx rfl (hb hby at_134) rfl rfl (l' := #[iv p1, iv p2, iv p3, iv p4, iv p5, rv o_SECTION, rv b96, rv b97, rv b107, .unset, .unset, .unset, .unset]) rfl zk)) ?_
      show own_Go p e below s _ _ _ (T108.setTop (mkF m 136 #[iv p1, iv p2, iv p3, iv p4, iv p5, rv o_SECTION, rv b96, rv b97, rv b107, .unset, .unset, .unset, .unset] []))
      obtain ⟨T109, h109, X109, e109, E109, A109, D109, -, st109⟩ := newO X108 hx hZ hown (hw _ (List.mem_of_getElem? (i := 33) rfl)) (hw _ (List.mem_of_getElem? (i := 34) rfl)) (hw _ (List.mem_of_getElem? (i := 35) rfl)) rfl (g := (mkF m 136 #[iv p1, iv p2, iv p3, iv p4, iv p5, rv o_SECTION, rv b96, rv b97, rv b107, .unset, .unset, .unset, .unset] [])) rfl (hb hby at_136) (by decide) (by decide)
      obtain ⟨b109, g109⟩ : ∃ z, z = T108.heap.size := ⟨_, rfl⟩
      rw [← g109] at A109 D109 st109
      refine own_go st109 ?_
      have ne_o_ARTICLE_b109 : o_ARTICLE ≠ b109 := Nat.ne_of_lt (Nat.lt_of_lt_of_le (Ex_o_ARTICLE.ext O.2).lt (Nat.le_of_eq g109.symm))
      have ne_o_SECTION_b109 : o_SECTION ≠ b109 := Nat.ne_of_lt (Nat.lt_of_lt_of_le (Ex_o_SECTION.ext O.2).lt (Nat.le_of_eq g109.symm))
      have ne_b96_b109 : b96 ≠ b109 := Nat.ne_of_lt (Nat.lt_of_lt_of_le Ex_b96.lt (Nat.le_of_eq g109.symm))
      have ne_t96_b109 : t96 ≠ b109 := Nat.ne_of_lt (Nat.lt_of_lt_of_le Vt96.lt (Nat.le_of_eq g109.symm))
      have ne_b97_b109 : b97 ≠ b109 := Nat.ne_of_lt (Nat.lt_of_lt_of_le V_b97.lt (Nat.le_of_eq g109.symm))
      have ne_b107_b109 : b107 ≠ b109 := Nat.ne_of_lt (Nat.lt_of_lt_of_le Ex_b107.lt (Nat.le_of_eq g109.symm))
      have ne_t108_b109 : t108 ≠ b109 := Nat.ne_of_lt (Nat.lt_of_lt_of_le Vt108.lt (Nat.le_of_eq g109.symm))
      have sz_b109 : h0.size ≤ b109 := Nat.le_trans Kp.1 (Nat.le_of_eq g109.symm)
      have g_b109 : n0 ≤ b109 := Nat.le_trans Z0 sz_b109
      replace O := O.ext E109
      replace Kp := Kp.ext E109
      replace Ex_b96 := Ex_b96.ext E109
      replace Fv96 := Fv96.ext E109
      replace Fc96 := Fc96.ext E109
      replace Vt96 := Vt96.ext E109
      replace V_b97 := V_b97.ext E109
      replace Ea_b97 := Ea_b97.ext E109
      replace Ex_b107 := Ex_b107.ext E109
      replace Fc108 := Fc108.ext E109
      replace Fv108 := Fv108.ext E109
      replace Vt108 := Vt108.ext E109
      have Ex_b109 := A109
      have F_value_b109 : Fld Z h109 b109 "com/example/tranche/tranche/model/Stated" "value" "Ljava/lang/Object;" .null := D109 (Or.inr (hw _ (List.mem_of_getElem? (i := 46) rfl))) (ty := (.object "java/lang/Object")) (by decide)
      have F_span_b109 : Fld Z h109 b109 "com/example/tranche/tranche/model/Stated" "span" "Lcom/example/tranche/tranche/model/Span;" .null := D109 (Or.inr (hw _ (List.mem_of_getElem? (i := 48) rfl))) (ty := (.object "com/example/tranche/tranche/model/Span")) (by decide)
      show own_Go p e below s _ _ _ (T109.setTop (mkF m 139 #[iv p1, iv p2, iv p3, iv p4, iv p5, rv o_SECTION, rv b96, rv b97, rv b107, .unset, .unset, .unset, .unset] [(.ref b109)]))
      refine own_go (fun zt zk => (XS.dup X109.here hx rfl (hb hby at_139) rfl rfl (XS.aload X109.here hx rfl (hb hby at_140) rfl rfl (XS.aconstNull X109.here hx rfl (hb hby at_142) zk)))) ?_
      show own_Go p e below s _ _ _ (T109.setTop (mkF m 143 #[iv p1, iv p2, iv p3, iv p4, iv p5, rv o_SECTION, rv b96, rv b97, rv b107, .unset, .unset, .unset, .unset] [.null, (.ref b96), (.ref b109), (.ref b109)]))
      obtain ⟨_, _, ⟨T110, L110, k110, n110⟩, -, X110, ⟨Lc110, hQ110, l110, y110, z110⟩, st110⟩ := X109.specialBack hx (y := (⟨"com/example/tranche/tranche/model/Stated", "<init>", "(Ljava/lang/Object;Lcom/example/tranche/tranche/model/Span;)V"⟩ : MethodName)) rfl hown (mvT hZ (hw _ (List.mem_of_getElem? (i := 36) rfl))) (mvT hZ (hw _ (List.mem_of_getElem? (i := 37) rfl))) (mvT hZ (hw _ (List.mem_of_getElem? (i := 38) rfl))) (by decide) (backOf (W := 1) (own_rstated l Z a0 hw [] b109 b96  h109 n0 (Nat.le_trans Z0 Kp.1) Ex_b109 F_value_b109 F_span_b109 g_b109 ) hZ (hw _ (List.mem_of_getElem? (i := 38) rfl)) (hw _ (List.mem_of_getElem? (i := 35) rfl)) (by decide) (by decide)) (g := (mkF m 143 #[iv p1, iv p2, iv p3, iv p4, iv p5, rv o_SECTION, rv b96, rv b97, rv b107, .unset, .unset, .unset, .unset] [.null, (.ref b96), (.ref b109), (.ref b109)])) rfl (by rw [hml]; rfl) (Steps.refl _) (a := b109) (argsL := [(.ref b96), .null]) (rest := [(.ref b109)]) (lenOf own_pd__Ljava_lang_Object_Lcom_example_tranche_tranche_model_Span__V rfl) rfl (by show 2 * 0 + _ ≤ _; exact Nat.le_of_eq rfl) (hb hby at_143) (fun _ _ => ⟨rfl, e109, (by decide : 6 + 0 ≤ _), (by decide : 17 + 0 ≤ _)⟩)
      dsimp only [Pt.U, Pt.locs, Pt.cells, Pt.slots] at X110 l110 y110 z110 st110 hQ110
      subst l110 y110 z110
      obtain ⟨rfl, Nq110, K110, -, F_value_b109, F_span_b109⟩ := hQ110
      have N110 := Fr.app N108 Nq110
      refine own_go (fun zt zk => st110.trans zk) ?_
      replace O := O.keep K110 (allS g_b109 all0)
      replace Kp := Kp.trans K110 (allS (Or.inr sz_b109) all0)
      replace Ex_b96 := Ex_b96.keep K110
      replace Fv96 := Fv96.keep K110 (ninS ne_b96_b109 nin0)
      replace Fc96 := Fc96.keep K110 (ninS ne_b96_b109 nin0)
      replace Vt96 := Vt96.keep K110 (ninS ne_t96_b109 nin0)
      replace V_b97 := V_b97.keep K110 (ninS ne_b97_b109 nin0)
      replace Ea_b97 := Ea_b97.keep K110
      replace Ex_b107 := Ex_b107.keep K110
      replace Fc108 := Fc108.keep K110 (ninS ne_b107_b109 nin0)
      replace Fv108 := Fv108.keep K110 (ninS ne_b107_b109 nin0)
      replace Vt108 := Vt108.keep K110 (ninS ne_t108_b109 nin0)
      replace Ex_b109 := Ex_b109.keep K110
      show own_Go p e below s _ _ _ (T110.setTop (mkF m 146 #[iv p1, iv p2, iv p3, iv p4, iv p5, rv o_SECTION, rv b96, rv b97, rv b107, .unset, .unset, .unset, .unset] [(.ref b109)]))
      refine own_go (fun zt zk => (XS.astore X110.here hx rfl (hb hby at_146) rfl rfl (l' := #[iv p1, iv p2, iv p3, iv p4, iv p5, rv o_SECTION, rv b96, rv b97, rv b107, rv b109, .unset, .unset, .unset]) rfl zk)) ?_
      show own_Go p e below s _ _ _ (T110.setTop (mkF m 148 #[iv p1, iv p2, iv p3, iv p4, iv p5, rv o_SECTION, rv b96, rv b97, rv b107, rv b109, .unset, .unset, .unset] []))
      obtain ⟨T111, h111, X111, e111, E111, A111, D111, -, st111⟩ := newO X110 hx hZ hown (hw _ (List.mem_of_getElem? (i := 33) rfl)) (hw _ (List.mem_of_getElem? (i := 34) rfl)) (hw _ (List.mem_of_getElem? (i := 35) rfl)) rfl (g := (mkF m 148 #[iv p1, iv p2, iv p3, iv p4, iv p5, rv o_SECTION, rv b96, rv b97, rv b107, rv b109, .unset, .unset, .unset] [])) rfl (hb hby at_148) (by decide) (by decide)
      obtain ⟨b111, g111⟩ : ∃ z, z = T110.heap.size := ⟨_, rfl⟩
      rw [← g111] at A111 D111 st111
      refine own_go st111 ?_
      have ne_o_ARTICLE_b111 : o_ARTICLE ≠ b111 := Nat.ne_of_lt (Nat.lt_of_lt_of_le (Ex_o_ARTICLE.ext O.2).lt (Nat.le_of_eq g111.symm))
      have ne_o_SECTION_b111 : o_SECTION ≠ b111 := Nat.ne_of_lt (Nat.lt_of_lt_of_le (Ex_o_SECTION.ext O.2).lt (Nat.le_of_eq g111.symm))
      have ne_b96_b111 : b96 ≠ b111 := Nat.ne_of_lt (Nat.lt_of_lt_of_le Ex_b96.lt (Nat.le_of_eq g111.symm))
      have ne_t96_b111 : t96 ≠ b111 := Nat.ne_of_lt (Nat.lt_of_lt_of_le Vt96.lt (Nat.le_of_eq g111.symm))
      have ne_b97_b111 : b97 ≠ b111 := Nat.ne_of_lt (Nat.lt_of_lt_of_le V_b97.lt (Nat.le_of_eq g111.symm))
      have ne_b107_b111 : b107 ≠ b111 := Nat.ne_of_lt (Nat.lt_of_lt_of_le Ex_b107.lt (Nat.le_of_eq g111.symm))
      have ne_t108_b111 : t108 ≠ b111 := Nat.ne_of_lt (Nat.lt_of_lt_of_le Vt108.lt (Nat.le_of_eq g111.symm))
      have ne_b109_b111 : b109 ≠ b111 := Nat.ne_of_lt (Nat.lt_of_lt_of_le Ex_b109.lt (Nat.le_of_eq g111.symm))
      have sz_b111 : h0.size ≤ b111 := Nat.le_trans Kp.1 (Nat.le_of_eq g111.symm)
      have g_b111 : n0 ≤ b111 := Nat.le_trans Z0 sz_b111
      replace O := O.ext E111
      replace Kp := Kp.ext E111
      replace Ex_b96 := Ex_b96.ext E111
      replace Fv96 := Fv96.ext E111
      replace Fc96 := Fc96.ext E111
      replace Vt96 := Vt96.ext E111
      replace V_b97 := V_b97.ext E111
      replace Ea_b97 := Ea_b97.ext E111
      replace Ex_b107 := Ex_b107.ext E111
      replace Fc108 := Fc108.ext E111
      replace Fv108 := Fv108.ext E111
      replace Vt108 := Vt108.ext E111
      replace Ex_b109 := Ex_b109.ext E111
      replace F_value_b109 := F_value_b109.ext E111
      replace F_span_b109 := F_span_b109.ext E111
      have Ex_b111 := A111
      have F_value_b111 : Fld Z h111 b111 "com/example/tranche/tranche/model/Stated" "value" "Ljava/lang/Object;" .null := D111 (Or.inr (hw _ (List.mem_of_getElem? (i := 46) rfl))) (ty := (.object "java/lang/Object")) (by decide)
      have F_span_b111 : Fld Z h111 b111 "com/example/tranche/tranche/model/Stated" "span" "Lcom/example/tranche/tranche/model/Span;" .null := D111 (Or.inr (hw _ (List.mem_of_getElem? (i := 48) rfl))) (ty := (.object "com/example/tranche/tranche/model/Span")) (by decide)
      show own_Go p e below s _ _ _ (T111.setTop (mkF m 151 #[iv p1, iv p2, iv p3, iv p4, iv p5, rv o_SECTION, rv b96, rv b97, rv b107, rv b109, .unset, .unset, .unset] [(.ref b111)]))
      refine own_go (fun zt zk => (XS.dup X111.here hx rfl (hb hby at_151) rfl rfl (XS.aload X111.here hx rfl (hb hby at_152) rfl rfl (XS.aconstNull X111.here hx rfl (hb hby at_154) zk)))) ?_
      show own_Go p e below s _ _ _ (T111.setTop (mkF m 155 #[iv p1, iv p2, iv p3, iv p4, iv p5, rv o_SECTION, rv b96, rv b97, rv b107, rv b109, .unset, .unset, .unset] [.null, (.ref b107), (.ref b111), (.ref b111)]))
      obtain ⟨_, _, ⟨T112, L112, k112, n112⟩, -, X112, ⟨Lc112, hQ112, l112, y112, z112⟩, st112⟩ := X111.specialBack hx (y := (⟨"com/example/tranche/tranche/model/Stated", "<init>", "(Ljava/lang/Object;Lcom/example/tranche/tranche/model/Span;)V"⟩ : MethodName)) rfl hown (mvT hZ (hw _ (List.mem_of_getElem? (i := 36) rfl))) (mvT hZ (hw _ (List.mem_of_getElem? (i := 37) rfl))) (mvT hZ (hw _ (List.mem_of_getElem? (i := 38) rfl))) (by decide) (backOf (W := 1) (own_rstated l Z a0 hw [] b111 b107  h111 n0 (Nat.le_trans Z0 Kp.1) Ex_b111 F_value_b111 F_span_b111 g_b111 ) hZ (hw _ (List.mem_of_getElem? (i := 38) rfl)) (hw _ (List.mem_of_getElem? (i := 35) rfl)) (by decide) (by decide)) (g := (mkF m 155 #[iv p1, iv p2, iv p3, iv p4, iv p5, rv o_SECTION, rv b96, rv b97, rv b107, rv b109, .unset, .unset, .unset] [.null, (.ref b107), (.ref b111), (.ref b111)])) rfl (by rw [hml]; rfl) (Steps.refl _) (a := b111) (argsL := [(.ref b107), .null]) (rest := [(.ref b111)]) (lenOf own_pd__Ljava_lang_Object_Lcom_example_tranche_tranche_model_Span__V rfl) rfl (by show 2 * 0 + _ ≤ _; exact Nat.le_of_eq rfl) (hb hby at_155) (fun _ _ => ⟨rfl, e111, (by decide : 7 + 0 ≤ _), (by decide : 19 + 0 ≤ _)⟩)
      dsimp only [Pt.U, Pt.locs, Pt.cells, Pt.slots] at X112 l112 y112 z112 st112 hQ112
      subst l112 y112 z112
      obtain ⟨rfl, Nq112, K112, -, F_value_b111, F_span_b111⟩ := hQ112
      have N112 := Fr.app N110 Nq112
      refine own_go (fun zt zk => st112.trans zk) ?_
      replace O := O.keep K112 (allS g_b111 all0)
      replace Kp := Kp.trans K112 (allS (Or.inr sz_b111) all0)
      replace Ex_b96 := Ex_b96.keep K112
      replace Fv96 := Fv96.keep K112 (ninS ne_b96_b111 nin0)
      replace Fc96 := Fc96.keep K112 (ninS ne_b96_b111 nin0)
      replace Vt96 := Vt96.keep K112 (ninS ne_t96_b111 nin0)
      replace V_b97 := V_b97.keep K112 (ninS ne_b97_b111 nin0)
      replace Ea_b97 := Ea_b97.keep K112
      replace Ex_b107 := Ex_b107.keep K112
      replace Fc108 := Fc108.keep K112 (ninS ne_b107_b111 nin0)
      replace Fv108 := Fv108.keep K112 (ninS ne_b107_b111 nin0)
      replace Vt108 := Vt108.keep K112 (ninS ne_t108_b111 nin0)
      replace Ex_b109 := Ex_b109.keep K112
      replace F_value_b109 := F_value_b109.keep K112 (ninS ne_b109_b111 nin0)
      replace F_span_b109 := F_span_b109.keep K112 (ninS ne_b109_b111 nin0)
      replace Ex_b111 := Ex_b111.keep K112
      show own_Go p e below s _ _ _ (T112.setTop (mkF m 158 #[iv p1, iv p2, iv p3, iv p4, iv p5, rv o_SECTION, rv b96, rv b97, rv b107, rv b109, .unset, .unset, .unset] [(.ref b111)]))
      refine own_go (fun zt zk => (XS.astore X112.here hx rfl (hb hby at_158) rfl rfl (l' := #[iv p1, iv p2, iv p3, iv p4, iv p5, rv o_SECTION, rv b96, rv b97, rv b107, rv b109, rv b111, .unset, .unset]) rfl zk)) ?_
      show own_Go p e below s _ _ _ (T112.setTop (mkF m 160 #[iv p1, iv p2, iv p3, iv p4, iv p5, rv o_SECTION, rv b96, rv b97, rv b107, rv b109, rv b111, .unset, .unset] []))
      obtain ⟨T113, h113, X113, e113, E113, A113, D113, -, st113⟩ := newO X112 hx hZ hown (hw _ (List.mem_of_getElem? (i := 49) rfl)) (hw _ (List.mem_of_getElem? (i := 50) rfl)) (hw _ (List.mem_of_getElem? (i := 51) rfl)) rfl (g := (mkF m 160 #[iv p1, iv p2, iv p3, iv p4, iv p5, rv o_SECTION, rv b96, rv b97, rv b107, rv b109, rv b111, .unset, .unset] [])) rfl (hb hby at_160) (by decide) (by decide)
      obtain ⟨b113, g113⟩ : ∃ z, z = T112.heap.size := ⟨_, rfl⟩
      rw [← g113] at A113 D113 st113
      refine own_go st113 ?_
      have ne_o_ARTICLE_b113 : o_ARTICLE ≠ b113 := Nat.ne_of_lt (Nat.lt_of_lt_of_le (Ex_o_ARTICLE.ext O.2).lt (Nat.le_of_eq g113.symm))
      have ne_o_SECTION_b113 : o_SECTION ≠ b113 := Nat.ne_of_lt (Nat.lt_of_lt_of_le (Ex_o_SECTION.ext O.2).lt (Nat.le_of_eq g113.symm))
      have ne_b96_b113 : b96 ≠ b113 := Nat.ne_of_lt (Nat.lt_of_lt_of_le Ex_b96.lt (Nat.le_of_eq g113.symm))
      have ne_t96_b113 : t96 ≠ b113 := Nat.ne_of_lt (Nat.lt_of_lt_of_le Vt96.lt (Nat.le_of_eq g113.symm))
      have ne_b97_b113 : b97 ≠ b113 := Nat.ne_of_lt (Nat.lt_of_lt_of_le V_b97.lt (Nat.le_of_eq g113.symm))
      have ne_b107_b113 : b107 ≠ b113 := Nat.ne_of_lt (Nat.lt_of_lt_of_le Ex_b107.lt (Nat.le_of_eq g113.symm))
      have ne_t108_b113 : t108 ≠ b113 := Nat.ne_of_lt (Nat.lt_of_lt_of_le Vt108.lt (Nat.le_of_eq g113.symm))
      have ne_b109_b113 : b109 ≠ b113 := Nat.ne_of_lt (Nat.lt_of_lt_of_le Ex_b109.lt (Nat.le_of_eq g113.symm))
      have ne_b111_b113 : b111 ≠ b113 := Nat.ne_of_lt (Nat.lt_of_lt_of_le Ex_b111.lt (Nat.le_of_eq g113.symm))
      have sz_b113 : h0.size ≤ b113 := Nat.le_trans Kp.1 (Nat.le_of_eq g113.symm)
      have g_b113 : n0 ≤ b113 := Nat.le_trans Z0 sz_b113
      replace O := O.ext E113
      replace Kp := Kp.ext E113
      replace Ex_b96 := Ex_b96.ext E113
      replace Fv96 := Fv96.ext E113
      replace Fc96 := Fc96.ext E113
      replace Vt96 := Vt96.ext E113
      replace V_b97 := V_b97.ext E113
      replace Ea_b97 := Ea_b97.ext E113
      replace Ex_b107 := Ex_b107.ext E113
      replace Fc108 := Fc108.ext E113
      replace Fv108 := Fv108.ext E113
      replace Vt108 := Vt108.ext E113
      replace Ex_b109 := Ex_b109.ext E113
      replace F_value_b109 := F_value_b109.ext E113
      replace F_span_b109 := F_span_b109.ext E113
      replace Ex_b111 := Ex_b111.ext E113
      replace F_value_b111 := F_value_b111.ext E113
      replace F_span_b111 := F_span_b111.ext E113
      have Ex_b113 := A113
      have F_kind_b113 : Fld Z h113 b113 "com/example/tranche/tranche/model/Heading" "kind" "Lcom/example/tranche/tranche/model/Heading$Kind;" .null := D113 (Or.inr (hw _ (List.mem_of_getElem? (i := 57) rfl))) (ty := (.object "com/example/tranche/tranche/model/Heading$Kind")) (by decide)
      have F_number_b113 : Fld Z h113 b113 "com/example/tranche/tranche/model/Heading" "number" "Lcom/example/tranche/tranche/model/Stated;" .null := D113 (Or.inr (hw _ (List.mem_of_getElem? (i := 59) rfl))) (ty := (.object "com/example/tranche/tranche/model/Stated")) (by decide)
      have F_title_b113 : Fld Z h113 b113 "com/example/tranche/tranche/model/Heading" "title" "Lcom/example/tranche/tranche/model/Stated;" .null := D113 (Or.inr (hw _ (List.mem_of_getElem? (i := 61) rfl))) (ty := (.object "com/example/tranche/tranche/model/Stated")) (by decide)
      have F_span_b113 : Fld Z h113 b113 "com/example/tranche/tranche/model/Heading" "span" "Lcom/example/tranche/tranche/model/Span;" .null := D113 (Or.inr (hw _ (List.mem_of_getElem? (i := 63) rfl))) (ty := (.object "com/example/tranche/tranche/model/Span")) (by decide)
      show own_Go p e below s _ _ _ (T113.setTop (mkF m 163 #[iv p1, iv p2, iv p3, iv p4, iv p5, rv o_SECTION, rv b96, rv b97, rv b107, rv b109, rv b111, .unset, .unset] [(.ref b113)]))
      refine own_go (fun zt zk => (XS.dup X113.here hx rfl (hb hby at_163) rfl rfl (XS.aload X113.here hx rfl (hb hby at_164) rfl rfl (XS.aload X113.here hx rfl (hb hby at_166) rfl rfl (XS.aload X113.here hx rfl (hb hby at_168) rfl rfl (XS.aconstNull X113.here hx rfl (hb hby at_170) zk)))))) ?_
      show own_Go p e below s _ _ _ (T113.setTop (mkF m 171 #[iv p1, iv p2, iv p3, iv p4, iv p5, rv o_SECTION, rv b96, rv b97, rv b107, rv b109, rv b111, .unset, .unset] [.null, (.ref b111), (.ref b109), (.ref o_SECTION), (.ref b113), (.ref b113)]))
      obtain ⟨_, _, ⟨T114, L114, k114, n114⟩, -, X114, ⟨Lc114, hQ114, l114, y114, z114⟩, st114⟩ := X113.specialBack hx (y := (⟨"com/example/tranche/tranche/model/Heading", "<init>", "(Lcom/example/tranche/tranche/model/Heading$Kind;Lcom/example/tranche/tranche/model/Stated;Lcom/example/tranche/tranche/model/Stated;Lcom/example/tranche/tranche/model/Span;)V"⟩ : MethodName)) rfl hown (mvT hZ (hw _ (List.mem_of_getElem? (i := 52) rfl))) (mvT hZ (hw _ (List.mem_of_getElem? (i := 53) rfl))) (mvT hZ (hw _ (List.mem_of_getElem? (i := 54) rfl))) (by decide) (backOf (W := 1) (own_rheading l Z a0 hw [] b113 o_SECTION b109 b111  h113 n0 (Nat.le_trans Z0 Kp.1) Ex_b113 F_kind_b113 F_number_b113 F_title_b113 F_span_b113 g_b113 ) hZ (hw _ (List.mem_of_getElem? (i := 54) rfl)) (hw _ (List.mem_of_getElem? (i := 51) rfl)) (by decide) (by decide)) (g := (mkF m 171 #[iv p1, iv p2, iv p3, iv p4, iv p5, rv o_SECTION, rv b96, rv b97, rv b107, rv b109, rv b111, .unset, .unset] [.null, (.ref b111), (.ref b109), (.ref o_SECTION), (.ref b113), (.ref b113)])) rfl (by rw [hml]; rfl) (Steps.refl _) (a := b113) (argsL := [(.ref o_SECTION), (.ref b109), (.ref b111), .null]) (rest := [(.ref b113)]) (lenOf own_pd__Lcom_example_tranche_tranche_model_Heading_Kind_Lcom_example_tranche_tranche_model_Stated_Lcom_example_tranche_tranche_model_Stated_Lcom_example_tranche_tranche_model_Span__V rfl) rfl (by show 2 * 0 + _ ≤ _; exact Nat.le_of_eq rfl) (hb hby at_171) (fun _ _ => ⟨rfl, e113, (by decide : 8 + 0 ≤ _), (by decide : 23 + 0 ≤ _)⟩)
      dsimp only [Pt.U, Pt.locs, Pt.cells, Pt.slots] at X114 l114 y114 z114 st114 hQ114
      subst l114 y114 z114
      obtain ⟨rfl, Nq114, K114, -, F_kind_b113, F_number_b113, F_title_b113, F_span_b113⟩ := hQ114
      have N114 := Fr.app N112 Nq114
      refine own_go (fun zt zk => st114.trans zk) ?_
      replace O := O.keep K114 (allS g_b113 all0)
      replace Kp := Kp.trans K114 (allS (Or.inr sz_b113) all0)
      replace Ex_b96 := Ex_b96.keep K114
      replace Fv96 := Fv96.keep K114 (ninS ne_b96_b113 nin0)
      replace Fc96 := Fc96.keep K114 (ninS ne_b96_b113 nin0)
      replace Vt96 := Vt96.keep K114 (ninS ne_t96_b113 nin0)
      replace V_b97 := V_b97.keep K114 (ninS ne_b97_b113 nin0)
      replace Ea_b97 := Ea_b97.keep K114
      replace Ex_b107 := Ex_b107.keep K114
      replace Fc108 := Fc108.keep K114 (ninS ne_b107_b113 nin0)
      replace Fv108 := Fv108.keep K114 (ninS ne_b107_b113 nin0)
      replace Vt108 := Vt108.keep K114 (ninS ne_t108_b113 nin0)
      replace Ex_b109 := Ex_b109.keep K114
      replace F_value_b109 := F_value_b109.keep K114 (ninS ne_b109_b113 nin0)
      replace F_span_b109 := F_span_b109.keep K114 (ninS ne_b109_b113 nin0)
      replace Ex_b111 := Ex_b111.keep K114
      replace F_value_b111 := F_value_b111.keep K114 (ninS ne_b111_b113 nin0)
      replace F_span_b111 := F_span_b111.keep K114 (ninS ne_b111_b113 nin0)
      replace Ex_b113 := Ex_b113.keep K114
      show own_Go p e below s _ _ _ (T114.setTop (mkF m 174 #[iv p1, iv p2, iv p3, iv p4, iv p5, rv o_SECTION, rv b96, rv b97, rv b107, rv b109, rv b111, .unset, .unset] [(.ref b113)]))
      refine own_go (fun zt zk => (XS.astore X114.here hx rfl (hb hby at_174) rfl rfl (l' := #[iv p1, iv p2, iv p3, iv p4, iv p5, rv o_SECTION, rv b96, rv b97, rv b107, rv b109, rv b111, rv b113, .unset]) rfl (XS.aload X114.here hx rfl (hb hby at_176) rfl rfl zk))) ?_
      show own_Go p e below s _ _ _ (T114.setTop (mkF m 178 #[iv p1, iv p2, iv p3, iv p4, iv p5, rv o_SECTION, rv b96, rv b97, rv b107, rv b109, rv b111, rv b113, .unset] [(.ref b113)]))
      obtain ⟨_, _, ⟨T115, L115, k115, n115⟩, -, X115, ⟨Lc115, hQ115, l115, y115, z115⟩, st115⟩ := Jvm.LawKit.callS X114 hx (y := (⟨"com/example/tranche/tranche/service/HeadingNumber", "of", "(Lcom/example/tranche/tranche/model/Heading;)Lcom/example/tranche/tranche/service/HeadingNumber;"⟩ : MethodName)) hown (mvT hZ (hw _ (List.mem_of_getElem? (i := 64) rfl))) (mvT hZ (hw _ (List.mem_of_getElem? (i := 65) rfl))) (mvT hZ (hw _ (List.mem_of_getElem? (i := 66) rfl))) (mvT hZ (hw _ (List.mem_of_getElem? (i := 67) rfl))) (by decide) (backOf (W := 0) (own_rof l Z a0 hw [] b113 o_SECTION b109 b96 T114.heap n0 (Nat.le_trans Z0 Kp.1) Ex_b113 F_kind_b113 F_number_b113 Ex_b109 F_value_b109 Ex_b96) hZ (hw _ (List.mem_of_getElem? (i := 67) rfl)) (hw _ (List.mem_of_getElem? (i := 66) rfl)) (by decide) (by decide)) (g := (mkF m 178 #[iv p1, iv p2, iv p3, iv p4, iv p5, rv o_SECTION, rv b96, rv b97, rv b107, rv b109, rv b111, rv b113, .unset] [(.ref b113)])) rfl (by rw [hml]; rfl) (argsL := [(.ref b113)]) (rest := []) (lenOf own_pd__Lcom_example_tranche_tranche_model_Heading__Lcom_example_tranche_tranche_service_HeadingNumber_ rfl) rfl (by show 2 * 0 + _ ≤ _; exact Nat.le_of_eq rfl) (hb hby at_178) (fun _ _ => ⟨rfl, rfl, (by decide : 8 + 1 ≤ _), (by decide : 23 + 2 ≤ _)⟩)
      dsimp only [Pt.U, Pt.locs, Pt.cells, Pt.slots] at X115 l115 y115 z115 st115 hQ115
      subst l115 y115 z115
      obtain ⟨r115, rfl, Nq115, K115, sr115, Ex_r115, Fk115, Fn115⟩ := hQ115
      have N115 := Fr.app N114 Nq115
      refine own_go st115 ?_
      replace O := O.keep K115 all0
      replace Kp := Kp.trans K115 all0
      replace Ex_b96 := Ex_b96.keep K115
      replace Fv96 := Fv96.keep K115 nin0
      replace Fc96 := Fc96.keep K115 nin0
      replace Vt96 := Vt96.keep K115 nin0
      replace V_b97 := V_b97.keep K115 nin0
      replace Ea_b97 := Ea_b97.keep K115
      replace Ex_b107 := Ex_b107.keep K115
      replace Fc108 := Fc108.keep K115 nin0
      replace Fv108 := Fv108.keep K115 nin0
      replace Vt108 := Vt108.keep K115 nin0
      replace Ex_b109 := Ex_b109.keep K115
      replace F_value_b109 := F_value_b109.keep K115 nin0
      replace F_span_b109 := F_span_b109.keep K115 nin0
      replace Ex_b111 := Ex_b111.keep K115
      replace F_value_b111 := F_value_b111.keep K115 nin0
      replace F_span_b111 := F_span_b111.keep K115 nin0
      replace Ex_b113 := Ex_b113.keep K115
      replace F_kind_b113 := F_kind_b113.keep K115 nin0
      replace F_number_b113 := F_number_b113.keep K115 nin0
      replace F_title_b113 := F_title_b113.keep K115 nin0
      replace F_span_b113 := F_span_b113.keep K115 nin0
      show own_Go p e below s _ _ _ (T115.setTop (mkF m 181 #[iv p1, iv p2, iv p3, iv p4, iv p5, rv o_SECTION, rv b96, rv b97, rv b107, rv b109, rv b111, rv b113, .unset] [(.ref r115)]))
      refine own_go (fun zt zk => (XS.astore X115.here hx rfl (hb hby at_181) rfl rfl (l' := #[iv p1, iv p2, iv p3, iv p4, iv p5, rv o_SECTION, rv b96, rv b97, rv b107, rv b109, rv b111, rv b113, rv r115]) rfl (XS.aload X115.here hx rfl (hb hby at_183) rfl rfl (XS.ifnullNo X115.here hx rfl (hb hby at_185) rfl (XS.aload X115.here hx rfl (hb hby at_188) rfl rfl zk))))) ?_
      show own_Go p e below s _ _ _ (T115.setTop (mkF m 190 #[iv p1, iv p2, iv p3, iv p4, iv p5, rv o_SECTION, rv b96, rv b97, rv b107, rv b109, rv b111, rv b113, rv r115] [(.ref r115)]))
      obtain ⟨cq116, kq116, qa116, qb116, qc116⟩ := isOf hZ rfl Ex_r115
      obtain ⟨_, _, ⟨T116, L116, k116, n116⟩, -, X116, ⟨Lc116, hQ116, l116, y116, z116⟩, st116⟩ := X115.virtualBack hx (y := (⟨"com/example/tranche/tranche/service/HeadingNumber", "kind", "()Lcom/example/tranche/tranche/model/Heading$Kind;"⟩ : MethodName)) (z := (⟨"com/example/tranche/tranche/service/HeadingNumber", "kind", "()Lcom/example/tranche/tranche/model/Heading$Kind;"⟩ : MethodName)) hown (mvT hZ (hw _ (List.mem_of_getElem? (i := 94) rfl))) (mvT hZ (hw _ (List.mem_of_getElem? (i := 95) rfl))) (notFace_of_selects (args := #[]) (mvT hZ (hw _ (List.mem_of_getElem? (i := 97) rfl)))) (mvT hZ (hw _ (List.mem_of_getElem? (i := 97) rfl))) (mvT hZ (hw _ (List.mem_of_getElem? (i := 96) rfl))) (by decide) (backOf (W := 0) (own_gkind2 l Z a0 hw [] r115 o_SECTION T115.heap n0 (Nat.le_trans Z0 Kp.1) Fk115) hZ (hw _ (List.mem_of_getElem? (i := 98) rfl)) (hw _ (List.mem_of_getElem? (i := 66) rfl)) (by decide) (by decide)) qa116 qc116 (g := (mkF m 190 #[iv p1, iv p2, iv p3, iv p4, iv p5, rv o_SECTION, rv b96, rv b97, rv b107, rv b109, rv b111, rv b113, rv r115] [(.ref r115)])) rfl (by rw [hml]; rfl) (Steps.refl _) (argsL := []) (rest := []) (lenOf own_pd___Lcom_example_tranche_tranche_model_Heading_Kind_ rfl) rfl (by show 2 * 0 + _ ≤ _; exact Nat.le_of_eq rfl) (hb hby at_190) (fun _ _ => ⟨rfl, rfl, (by decide : 9 + 0 ≤ _), (by decide : 25 + 0 ≤ _)⟩)
      dsimp only [Pt.U, Pt.locs, Pt.cells, Pt.slots] at X116 l116 y116 z116 st116 hQ116
      subst l116 y116 z116
      obtain ⟨rfl, Nq116, e116⟩ := hQ116
      have N116 := Fr.app N115 Nq116
      refine own_go (fun zt zk => st116.trans zk) ?_
      show own_Go p e below s _ _ _ (T116.setTop (mkF m 193 #[iv p1, iv p2, iv p3, iv p4, iv p5, rv o_SECTION, rv b96, rv b97, rv b107, rv b109, rv b111, rv b113, rv r115] [(.ref o_SECTION)]))
      refine own_go (fun zt zk => (XS.aload X116.here hx rfl (hb hby at_193) rfl rfl zk)) ?_
      show own_Go p e below s _ _ _ (T116.setTop (mkF m 195 #[iv p1, iv p2, iv p3, iv p4, iv p5, rv o_SECTION, rv b96, rv b97, rv b107, rv b109, rv b111, rv b113, rv r115] [(.ref o_SECTION), (.ref o_SECTION)]))
      refine own_go (fun zt zk => Jvm.RoadKit.acmp (g := (mkF m 195 #[iv p1, iv p2, iv p3, iv p4, iv p5, rv o_SECTION, rv b96, rv b97, rv b107, rv b109, rv b111, rv b113, rv r115] [(.ref o_SECTION), (.ref o_SECTION)])) X116 hx rfl rfl rfl (pc0 := 195) (pc' := 198) (same := true) rfl (hb hby at_195) rfl (decide_eq_true rfl) (by decide) (by decide) zk) ?_
      show own_Go p e below s _ _ _ (T116.setTop (mkF m 198 #[iv p1, iv p2, iv p3, iv p4, iv p5, rv o_SECTION, rv b96, rv b97, rv b107, rv b109, rv b111, rv b113, rv r115] []))
      refine own_go (fun zt zk => (XS.aload X116.here hx rfl (hb hby at_198) rfl rfl (XS.aload X116.here hx rfl (hb hby at_200) rfl rfl zk))) ?_
      show own_Go p e below s _ _ _ (T116.setTop (mkF m 202 #[iv p1, iv p2, iv p3, iv p4, iv p5, rv o_SECTION, rv b96, rv b97, rv b107, rv b109, rv b111, rv b113, rv r115] [(.ref r115), (.ref b96)]))
      obtain ⟨cq117, kq117, qa117, qb117, qc117⟩ := isOf hZ e116 Ex_r115
      obtain ⟨_, _, ⟨T117, L117, k117, n117⟩, -, X117, ⟨Lc117, hQ117, l117, y117, z117⟩, st117⟩ := X116.virtualBack hx (y := (⟨"com/example/tranche/tranche/service/HeadingNumber", "number", "()Ljava/lang/String;"⟩ : MethodName)) (z := (⟨"com/example/tranche/tranche/service/HeadingNumber", "number", "()Ljava/lang/String;"⟩ : MethodName)) hown (mvT hZ (hw _ (List.mem_of_getElem? (i := 99) rfl))) (mvT hZ (hw _ (List.mem_of_getElem? (i := 100) rfl))) (notFace_of_selects (args := #[]) (mvT hZ (hw _ (List.mem_of_getElem? (i := 102) rfl)))) (mvT hZ (hw _ (List.mem_of_getElem? (i := 102) rfl))) (mvT hZ (hw _ (List.mem_of_getElem? (i := 101) rfl))) (by decide) (backOf (W := 1) (own_gnumber2 l Z a0 hw [] r115 b96 T115.heap n0 (Nat.le_trans Z0 Kp.1) Fn115) hZ (hw _ (List.mem_of_getElem? (i := 103) rfl)) (hw _ (List.mem_of_getElem? (i := 66) rfl)) (by decide) (by decide)) qa117 qc117 (g := (mkF m 202 #[iv p1, iv p2, iv p3, iv p4, iv p5, rv o_SECTION, rv b96, rv b97, rv b107, rv b109, rv b111, rv b113, rv r115] [(.ref r115), (.ref b96)])) rfl (by rw [hml]; rfl) (Steps.refl _) (argsL := []) (rest := [(.ref b96)]) (lenOf own_pd___Ljava_lang_String_ rfl) rfl (by show 2 * 0 + _ ≤ _; exact Nat.le_of_eq rfl) (hb hby at_202) (fun _ _ => ⟨rfl, e116, (by decide : 9 + 0 ≤ _), (by decide : 25 + 0 ≤ _)⟩)
      dsimp only [Pt.U, Pt.locs, Pt.cells, Pt.slots] at X117 l117 y117 z117 st117 hQ117
      subst l117 y117 z117
      obtain ⟨rfl, Nq117, e117⟩ := hQ117
      have N117 := Fr.app N116 Nq117
      refine own_go (fun zt zk => st117.trans zk) ?_
      show own_Go p e below s _ _ _ (T117.setTop (mkF m 205 #[iv p1, iv p2, iv p3, iv p4, iv p5, rv o_SECTION, rv b96, rv b97, rv b107, rv b109, rv b111, rv b113, rv r115] [(.ref b96), (.ref b96)]))
      obtain ⟨cq118, kq118, qa118, qb118, qc118⟩ := isOf hZ e117 Ex_b96
      obtain ⟨_, _, ⟨T118, L118, k118, n118⟩, -, X118, ⟨Lc118, hQ118, l118, y118, z118⟩, st118⟩ := X117.virtualBack hx (y := (⟨"java/lang/String", "equals", "(Ljava/lang/Object;)Z"⟩ : MethodName)) (z := (⟨"java/lang/String", "equals", "(Ljava/lang/Object;)Z"⟩ : MethodName)) hown (mvT hZ (hw _ (List.mem_of_getElem? (i := 104) rfl))) (mvT hZ (hw _ (List.mem_of_getElem? (i := 105) rfl))) (notFace_of_selects (args := #[]) (mvT hZ (hw _ (List.mem_of_getElem? (i := 107) rfl)))) (mvT hZ (hw _ (List.mem_of_getElem? (i := 107) rfl))) (mvT hZ (hw _ (List.mem_of_getElem? (i := 106) rfl))) (by decide) (backOf (W := 0) (own_reqs l Z a0 hw [] b96  T115.heap n0 (Nat.le_trans Z0 Kp.1) ) hZ (hw _ (List.mem_of_getElem? (i := 108) rfl)) (hw _ (List.mem_of_getElem? (i := 6) rfl)) (by decide) (by decide)) qa118 qc118 (g := (mkF m 205 #[iv p1, iv p2, iv p3, iv p4, iv p5, rv o_SECTION, rv b96, rv b97, rv b107, rv b109, rv b111, rv b113, rv r115] [(.ref b96), (.ref b96)])) rfl (by rw [hml]; rfl) (Steps.refl _) (argsL := [(.ref b96)]) (rest := []) (lenOf own_pd__Ljava_lang_Object__Z rfl) rfl (by show 2 * 0 + _ ≤ _; exact Nat.le_of_eq rfl) (hb hby at_205) (fun _ _ => ⟨rfl, e117, (by decide : 9 + 0 ≤ _), (by decide : 25 + 0 ≤ _)⟩)
      dsimp only [Pt.U, Pt.locs, Pt.cells, Pt.slots] at X118 l118 y118 z118 st118 hQ118
      subst l118 y118 z118
      obtain ⟨rfl, Nq118, e118⟩ := hQ118
      have N118 := Fr.app N117 Nq118
      refine own_go (fun zt zk => st118.trans zk) ?_
      show own_Go p e below s _ _ _ (T118.setTop (mkF m 208 #[iv p1, iv p2, iv p3, iv p4, iv p5, rv o_SECTION, rv b96, rv b97, rv b107, rv b109, rv b111, rv b113, rv r115] [(.int (1 : Int32))]))
      refine own_go (fun zt zk => (XS.ifNo X118.here hx rfl (hb hby at_208) rfl ((if0 _ _).trans (feq ((by decide) : ¬ ((1 : Int32) = (0 : Int32)))).1) (XS.iconst X118.here hx rfl (hb hby at_211) (XS.goto X118.here hx rfl (pc0 := 212) (pc' := 216) rfl (hb hby at_212) (by decide) (by decide) zk)))) ?_
      show own_Go p e below s _ _ _ (T118.setTop (mkF m 216 #[iv p1, iv p2, iv p3, iv p4, iv p5, rv o_SECTION, rv b96, rv b97, rv b107, rv b109, rv b111, rv b113, rv r115] [(.int (1 : Int32))]))
      exact own_fin X118 Bd.notSynchronized (fun h => by rw [Bd.returns] at h; cases h) (fun fs hr => retN X118 hx (t := .boolean) Bd.returns (by simp) (hb hby at_216) hr) (by rw [e118]; exact ⟨rfl, N118⟩) (by decide) (by decide)
set_option maxRecDepth 65536 in
set_option maxHeartbeats 40000000 in
theorem comes_1 {Post : Tables → Env → Array Value → State → Outcome → State → Prop} (hpost : ∀ tb e args s v u, (limb_1_1.after args s (.returned v) u = true ∧ limb_1_2.after args s (.returned v) u = true ∧ True) → FrameEnd s (.returned v) u (Jvm.fieldLocs frame_1_writes args s ++ Jvm.arrayLocs frame_1_arrays args s ++ Jvm.staticLocs frame_1_statics s) 32 128 → Post tb e args s (.returned v) u) :
    ArmFor flags0 classFile x code maxLocals ret World_1 tables_1 room_1 Calls_1 rest_1 Pre_1 Post := by
  intro l hfl _ _ p e ha hc hk s m args below hf hA hF happ hP
  obtain ⟨hcalls, hrest, hpre⟩ := hP
  obtain ⟨-, -, -, hnamed, -, -, -, hat⟩ := (Spec.applies_iff hf).mp happ
  obtain ⟨hg, hn⟩ := and_e (Cond.before_iff.mp (show (Jvm.Cond.and given_1 narrow_1).before args s = true from hpre))
  obtain ⟨g0, r0⟩ := and_e hg
  obtain ⟨g1, r1⟩ := and_e r0
  obtain ⟨g2, r2⟩ := and_e r1
  obtain ⟨g3, r3⟩ := and_e r2
  obtain ⟨g4, r4⟩ := and_e r3
  have g5 := r4
  obtain ⟨w0, w1, w2, w3, w4, rfl⟩ : ∃ w0 w1 w2 w3 w4 : Value, args = #[w0, w1, w2, w3, w4] := by
    have hs : args.size = 5 := by simpa [Cond.value, given_1] using g0
    obtain ⟨L⟩ := args
    match L, hs with
    | [w0, w1, w2, w3, w4], _ => exact ⟨w0, w1, w2, w3, w4, rfl⟩
  have hw := fun d (hd : d ∈ tables_1) => atoms_spec (ws := Jvm.Cond.code x code maxLocals ret :: tables_1) hat d (List.mem_cons_of_mem _ hd)
  have hfit : Fit s := fun {y c} hc i hi => by
    obtain ⟨ha, rfl⟩ := Array.getElem?_eq_some_iff.mp hc
    have q := List.all_eq_true.mp ((Array.all_eq_true_iff_forall_mem.mp hF) _ (Array.getElem_mem ha)) i (List.mem_range.mpr hi)
    simpa [Array.getElem?_eq_getElem hi] using q
  obtain ⟨hsets, hown0⟩ := atoms_of _ (rest_1_c_eq ▸ (show rest_1_c.before _ s = true from hrest))
  obtain ⟨i0, ei0⟩ := is_v g1
  obtain rfl : w0 = (.int i0) := Option.some.inj ei0
  obtain ⟨i1, ei1⟩ := is_v g2
  obtain rfl : w1 = (.int i1) := Option.some.inj ei1
  obtain ⟨i2, ei2⟩ := is_v g3
  obtain rfl : w2 = (.int i2) := Option.some.inj ei2
  obtain ⟨i3, ei3⟩ := is_v g4
  obtain rfl : w3 = (.int i3) := Option.some.inj ei3
  obtain ⟨i4, ei4⟩ := is_v g5
  obtain rfl : w4 = (.int i4) := Option.some.inj ei4
  obtain ⟨n0, m0⟩ := and_e hn
  have n1 := m0
  obtain ⟨o_ARTICLE, e_o_ARTICLE⟩ := exa_v n0
  have S_o_ARTICLE := Sta.start e_o_ARTICLE (Or.inr ⟨hw _ (List.mem_of_getElem? (i := 1) rfl), hw _ (List.mem_of_getElem? (i := 2) rfl)⟩)
  have Ex_o_ARTICLE := Exa.start e_o_ARTICLE n0
  obtain ⟨o_SECTION, e_o_SECTION⟩ := exa_v n1
  have S_o_SECTION := Sta.start e_o_SECTION (Or.inr ⟨hw _ (List.mem_of_getElem? (i := 1) rfl), hw _ (List.mem_of_getElem? (i := 110) rfl)⟩)
  have Ex_o_SECTION := Exa.start e_o_SECTION n1
  obtain ⟨o_COMPACT_STRINGS, e_o_COMPACT_STRINGS⟩ := is_v (Cond.before_iff.mp (hsets _ (List.mem_of_getElem? (i := 1) rfl)))
  have S_o_COMPACT_STRINGS := Sta.start e_o_COMPACT_STRINGS (Or.inl (hsets _ (List.mem_of_getElem? (i := 0) rfl)))
  have nz_o_COMPACT_STRINGS : ¬ (o_COMPACT_STRINGS = (0 : Int32)) := gotF (Cond.eq_ints e_o_COMPACT_STRINGS (Term.int_eval 0)) (not_v (Cond.before_iff.mp (hsets _ (List.mem_of_getElem? (i := 2) rfl))))
  obtain ⟨o_SIOOBE_FORMATTER, e_o_SIOOBE_FORMATTER, r_o_SIOOBE_FORMATTER⟩ := isR_v (Cond.before_iff.mp (hsets _ (List.mem_of_getElem? (i := 8) rfl)))
  have S_o_SIOOBE_FORMATTER := Sta.start e_o_SIOOBE_FORMATTER (Or.inl (hsets _ (List.mem_of_getElem? (i := 7) rfl)))
  obtain ⟨n, o, h1, h2, h3, _, L, rfl, ⟨rfl, N⟩, hq⟩ := own_law l s _ hw tables_1 i0 i1 i2 i3 i4 o_ARTICLE o_SECTION o_COMPACT_STRINGS o_SIOOBE_FORMATTER s.heap s.heap.size (Nat.le_refl _) (Old.start s) S_o_ARTICLE Ex_o_ARTICLE S_o_SECTION Ex_o_SECTION S_o_COMPACT_STRINGS S_o_SIOOBE_FORMATTER nz_o_COMPACT_STRINGS r_o_SIOOBE_FORMATTER p e ha hc hk s m _ below hf ((Spec.applies_iff_loose hf).mp happ).1 ⟨rfl, State.Warmed39.refl s, rfl⟩ trivial
  refine ⟨n, _, h1, h2, h3, hpost _ _ _ _ _ _ ⟨Cond.after_iff.mpr rfl, Cond.after_iff.mpr (eq_i res_at (Term.int_eval (1)) rfl), trivial⟩ ⟨hq.1, hq.2.1, (hq.2.2.sift fun y hy => Or.inr (N y hy)).mono (by decide) (by decide)⟩⟩
theorem main_1_1 : Claimed_1_1 := comes_1 fun _ _ _ _ _ _ h hF => ⟨h.1, hF⟩
theorem main_1_2 : Claimed_1_2 := comes_1 fun _ _ _ _ _ _ h hF => ⟨h.2.1, hF⟩
end Jvm.Pilot.@@N@@
namespace Jvm.Pilot.@@N@@
open Jvm Jvm.ClassFile Sem Op Lib Jvm.Free Jvm.Stand Jvm.Pilot.@@N@@.Jvm.D
/-! MADE BY PROGRAM (witnessworld.py) out of the Statement's table words and the real class files: 25 classes; the members and pool entries that the words name. The judged class is class 1, her method 1. -/
namespace start1
open Jvm.ClassFile
def u (s : String) : CpInfo := .utf8 (stringToUtf16 s)
/-- a pool by its gaps: so many unusable entries, then the entry; so many at the end -/
def gap : Nat → List CpInfo → List CpInfo
  | 0, r => r
  | n + 1, r => .unusable :: gap n r
def poolList (es : List (Nat × CpInfo)) (last : Nat) : List CpInfo := es.foldr (fun e r => gap e.1 (e.2 :: r)) (gap last [])
def pool (es : List (Nat × CpInfo)) (last : Nat) : Array CpInfo := ⟨poolList es last⟩
def fileOf (pool : Array CpInfo) (this : Nat) (attrs : Array Attribute := #[]) (ms : Array MethodInfo := #[]) (fl : Nat := 33) (sup : Nat := 0) (ifs : Array Nat := #[]) (fds : Array FieldInfo := #[]) : ClassFile where
  minorVersion := 0
  majorVersion := 65
  constantPool := pool
  accessFlags := fl
  thisClass := this
  superClass := sup
  interfaces := ifs
  fields := fds
  methods := ms
  attributes := attrs
def plain (name : String) (sup : Option ClassId) : Class where
  name := name
  kind := .ordinary
  loader := none
  accessFlags := 33
  super := sup
  interfaces := #[]
  cf := none
  fields := #[]
  methods := #[]
  instanceTypes := #[]
  staticTypes := #[]
  resolved := #[]
  callSites := []
  init := .initialized
  statics := none
  mirror := none

def pool0 : Array CpInfo := pool [(5, u "<init>"), (0, u "()V"), (1, .class_ 10), (1, u "java/lang/Object")] 113

def k0c0 : Code := { maxStack := 0, maxLocals := 1, code := object_method_1_code, exceptionTable := #[], attributes := #[] }
def k0m0 : Method := { name := "<init>", desc := "()V", sig := { parameters := [], returnType := none }, accessFlags := 1, code := some k0c0 }
/-- java/lang/Object -/
def k0 : Class := { plain "java/lang/Object" none with
  accessFlags := 33
  interfaces := #[]
  cf := some (fileOf pool0 8 #[] #[{ accessFlags := 1, nameIndex := 5, descriptorIndex := 6, attributes := #[] }] 33 0 #[] #[])
  fields := #[]
  methods := #[k0m0]
  instanceTypes := #[]
  staticTypes := #[]
  resolved := Array.replicate 124 none
  statics := none }

def pool1 : Array CpInfo := pool [(2, .class_ 4), (1, u "java/lang/Object"), (0, u "<init>"), (0, u "()V"), (0, .fieldref 8 9), (0, .class_ 10), (0, .nameAndType 11 12), (0, u "com/example/tranche/tranche/model/Heading$Kind"), (0, u "SECTION"), (0, u "Lcom/example/tranche/tranche/model/Heading$Kind;"), (0, .fieldref 8 14), (0, .nameAndType 15 12), (0, u "ARTICLE"), (0, .methodref 17 18), (0, .class_ 19), (0, .nameAndType 20 21), (0, u "java/lang/String"), (0, u "valueOf"), (0, u "(C)Ljava/lang/String;"), (0, .methodref 17 23), (0, .nameAndType 5 24), (0, u "([C)V"), (0, .class_ 26), (0, u "com/example/tranche/tranche/model/Stated"), (0, .methodref 25 28), (0, .nameAndType 5 29), (0, u "(Ljava/lang/Object;Lcom/example/tranche/tranche/model/Span;)V"), (0, .class_ 31), (0, u "com/example/tranche/tranche/model/Heading"), (0, .methodref 30 33), (0, .nameAndType 5 34), (0, u "(Lcom/example/tranche/tranche/model/Heading$Kind;Lcom/example/tranche/tranche/model/Stated;Lcom/example/tranche/tranche/model/Stated;Lcom/example/tranche/tranche/model/Span;)V"), (0, .methodref 36 37), (0, .class_ 38), (0, .nameAndType 39 40), (0, u "com/example/tranche/tranche/service/HeadingNumber"), (0, u "of"), (0, u "(Lcom/example/tranche/tranche/model/Heading;)Lcom/example/tranche/tranche/service/HeadingNumber;"), (0, .methodref 36 42), (0, .nameAndType 43 44), (0, u "kind"), (0, u "()Lcom/example/tranche/tranche/model/Heading$Kind;"), (0, .methodref 36 46), (0, .nameAndType 47 48), (0, u "number"), (0, u "()Ljava/lang/String;"), (0, .methodref 17 50), (0, .nameAndType 51 52), (0, u "equals"), (0, u "(Ljava/lang/Object;)Z"), (0, .class_ 54), (0, u "com/example/tranche/tranche/service/HeadingNumberOfPinLaw"), (2, u "law"), (0, u "(IIIII)Z")] 7

def k1m0 : Method := { name := "<init>", desc := "()V", sig := { parameters := [], returnType := none }, accessFlags := 2, code := none }
def k1c1 : Code := { maxStack := 6, maxLocals := 13, code := code, exceptionTable := #[], attributes := #[] }
def k1m1 : Method := { name := "law", desc := "(IIIII)Z", sig := { parameters := [.int, .int, .int, .int, .int], returnType := some .boolean }, accessFlags := 9, code := some k1c1 }
/-- com/example/tranche/tranche/service/HeadingNumberOfPinLaw -/
def k1 : Class := { plain "com/example/tranche/tranche/service/HeadingNumberOfPinLaw" (some 0) with
  accessFlags := 49
  interfaces := #[]
  cf := some (fileOf pool1 53 #[] #[{ accessFlags := 2, nameIndex := 5, descriptorIndex := 6, attributes := #[] }, { accessFlags := 9, nameIndex := 57, descriptorIndex := 58, attributes := #[] }] 49 2 #[] #[])
  fields := #[]
  methods := #[k1m0, k1m1]
  instanceTypes := #[]
  staticTypes := #[]
  resolved := Array.replicate 66 none
  statics := none }

def pool2 : Array CpInfo := pool [(1, .class_ 2), (0, u "java/lang/constant/Constable"), (0, .class_ 4), (0, u "java/lang/Object")] 6

/-- java/lang/constant/Constable -/
def k2 : Class := { plain "java/lang/constant/Constable" (some 0) with
  accessFlags := 1537
  interfaces := #[]
  cf := some (fileOf pool2 1 #[] #[] 1537 3 #[] #[])
  fields := #[]
  methods := #[]
  instanceTypes := #[]
  staticTypes := #[]
  resolved := Array.replicate 11 none
  statics := none }

def pool3 : Array CpInfo := pool [(1, .class_ 2), (0, u "java/lang/Comparable"), (0, .class_ 4), (0, u "java/lang/Object")] 7

/-- java/lang/Comparable -/
def k3 : Class := { plain "java/lang/Comparable" (some 0) with
  accessFlags := 1537
  interfaces := #[]
  cf := some (fileOf pool3 1 #[] #[] 1537 3 #[] #[])
  fields := #[]
  methods := #[]
  instanceTypes := #[]
  staticTypes := #[]
  resolved := Array.replicate 12 none
  statics := none }

def pool4 : Array CpInfo := pool [(1, .class_ 2), (0, u "java/io/Serializable"), (0, .class_ 4), (0, u "java/lang/Object")] 2

/-- java/io/Serializable -/
def k4 : Class := { plain "java/io/Serializable" (some 0) with
  accessFlags := 1537
  interfaces := #[]
  cf := some (fileOf pool4 1 #[] #[] 1537 3 #[] #[])
  fields := #[]
  methods := #[]
  instanceTypes := #[]
  staticTypes := #[]
  resolved := Array.replicate 7 none
  statics := none }

def pool5 : Array CpInfo := pool [(2, .class_ 4), (1, u "java/lang/Enum"), (0, u "name"), (0, u "Ljava/lang/String;"), (2, u "ordinal"), (0, u "I"), (1, .class_ 14), (1, u "java/lang/Object"), (4, u "hash"), (86, .class_ 108), (1, u "java/lang/Enum$EnumDesc"), (2, .class_ 112), (0, u "java/lang/constant/Constable"), (0, .class_ 114), (0, u "java/lang/Comparable"), (0, .class_ 116), (0, u "java/io/Serializable")] 87

/-- java/lang/Enum -/
def k5 : Class := { plain "java/lang/Enum" (some 0) with
  accessFlags := 1057
  interfaces := #[2, 3, 4]
  cf := some (fileOf pool5 2 #[.nestMembers #[106]] #[] 1057 12 #[111, 113, 115] #[{ accessFlags := 18, nameIndex := 5, descriptorIndex := 6, attributes := #[] }, { accessFlags := 18, nameIndex := 9, descriptorIndex := 10, attributes := #[] }, { accessFlags := 2, nameIndex := 19, descriptorIndex := 10, attributes := #[] }])
  fields := #[{ name := "name", type := (.object "java/lang/String"), accessFlags := 18, slot := 0, constantValue := 0 }, { name := "ordinal", type := .int, accessFlags := 18, slot := 1, constantValue := 0 }, { name := "hash", type := .int, accessFlags := 2, slot := 2, constantValue := 0 }]
  methods := #[]
  instanceTypes := #[(.object "java/lang/String"), .int, .int]
  staticTypes := #[]
  resolved := Array.replicate 204 none
  statics := none }

def pool6 : Array CpInfo := pool [(1, .class_ 2), (0, u "com/example/tranche/tranche/model/Heading$Kind"), (2, u "ARTICLE"), (0, u "Lcom/example/tranche/tranche/model/Heading$Kind;"), (2, u "SECTION"), (2, u "$VALUES"), (0, u "[Lcom/example/tranche/tranche/model/Heading$Kind;"), (6, .class_ 22), (1, u "java/lang/Enum"), (8, u "label"), (0, u "Ljava/lang/String;"), (27, .class_ 61), (0, u "com/example/tranche/tranche/model/Heading")] 2

/-- com/example/tranche/tranche/model/Heading$Kind -/
def k6 : Class := { plain "com/example/tranche/tranche/model/Heading$Kind" (some 5) with
  accessFlags := 16433
  interfaces := #[]
  cf := some (fileOf pool6 1 #[.nestHost 60] #[] 16433 20 #[] #[{ accessFlags := 16409, nameIndex := 5, descriptorIndex := 6, attributes := #[] }, { accessFlags := 16409, nameIndex := 9, descriptorIndex := 6, attributes := #[] }, { accessFlags := 18, nameIndex := 31, descriptorIndex := 32, attributes := #[] }, { accessFlags := 4122, nameIndex := 12, descriptorIndex := 13, attributes := #[] }])
  fields := #[{ name := "ARTICLE", type := (.object "com/example/tranche/tranche/model/Heading$Kind"), accessFlags := 16409, slot := 0, constantValue := 0 }, { name := "SECTION", type := (.object "com/example/tranche/tranche/model/Heading$Kind"), accessFlags := 16409, slot := 1, constantValue := 0 }, { name := "label", type := (.object "java/lang/String"), accessFlags := 18, slot := 3, constantValue := 0 }, { name := "$VALUES", type := (.array (.object "com/example/tranche/tranche/model/Heading$Kind")), accessFlags := 4122, slot := 2, constantValue := 0 }]
  methods := #[]
  instanceTypes := #[(.object "java/lang/String"), .int, .int, (.object "java/lang/String")]
  staticTypes := #[(.object "com/example/tranche/tranche/model/Heading$Kind"), (.object "com/example/tranche/tranche/model/Heading$Kind"), (.array (.object "com/example/tranche/tranche/model/Heading$Kind"))]
  resolved := Array.replicate 64 none
  statics := some 0 }

def pool7 : Array CpInfo := pool [(2, .class_ 4), (1, u "java/lang/CharSequence"), (42, .class_ 48), (0, u "java/lang/CharSequence$1CodePointIterator"), (10, .class_ 60), (0, u "java/lang/CharSequence$1CharIterator"), (5, .class_ 67), (0, u "java/lang/Object")] 63

/-- java/lang/CharSequence -/
def k7 : Class := { plain "java/lang/CharSequence" (some 0) with
  accessFlags := 1537
  interfaces := #[]
  cf := some (fileOf pool7 2 #[.nestMembers #[47, 59]] #[] 1537 66 #[] #[])
  fields := #[]
  methods := #[]
  instanceTypes := #[]
  staticTypes := #[]
  resolved := Array.replicate 131 none
  statics := none }

def pool8 : Array CpInfo := pool [(1, .class_ 2), (0, u "java/lang/constant/ConstantDesc"), (0, .class_ 4), (0, u "java/lang/Object")] 32

/-- java/lang/constant/ConstantDesc -/
def k8 : Class := { plain "java/lang/constant/ConstantDesc" (some 0) with
  accessFlags := 1537
  interfaces := #[]
  cf := some (fileOf pool8 1 #[] #[] 1537 3 #[] #[])
  fields := #[]
  methods := #[]
  instanceTypes := #[]
  staticTypes := #[]
  resolved := Array.replicate 37 none
  statics := none }

def pool9 : Array CpInfo := pool [(1, .methodref 2 3), (0, .class_ 4), (0, .nameAndType 5 6), (0, u "java/lang/Object"), (0, u "<init>"), (0, u "()V"), (2, .fieldref 10 11), (0, .class_ 12), (0, .nameAndType 13 14), (0, u "java/lang/String"), (0, u "value"), (0, u "[B"), (0, .fieldref 10 16), (0, .nameAndType 17 18), (0, u "coder"), (0, u "B"), (2, u "hash"), (0, u "I"), (2, u "hashIsZero"), (0, u "Z"), (0, .methodref 10 28), (0, .nameAndType 5 29), (0, u "([CIILjava/lang/Void;)V"), (8, .fieldref 10 39), (0, .nameAndType 40 26), (0, u "COMPACT_STRINGS"), (1, .class_ 44), (1, u "java/lang/StringUTF16"), (0, u "compress"), (1, .methodref 42 48), (0, .nameAndType 49 50), (0, u "coderFromArrayLen"), (0, u "([BI)B"), (2, u "toBytes"), (53, .class_ 109), (1, u "java/lang/StringLatin1"), (67, .methodref 42 178), (0, .nameAndType 45 179), (0, u "([CII)[B"), (29, .methodref 10 210), (0, .nameAndType 5 211), (0, u "([BB)V"), (157, u "(C)Z"), (173, u "equals"), (29, u "(Ljava/lang/Object;)Z"), (1, .class_ 576), (0, u "java/lang/CharSequence"), (22, u "CASE_INSENSITIVE_ORDER"), (0, u "Ljava/util/Comparator;"), (181, u "valueOf"), (0, u "(C)Ljava/lang/String;"), (226, u "([C)V"), (4, .methodref 107 1016), (0, .nameAndType 1017 369), (0, u "canEncode"), (0, .methodref 107 1019), (0, .nameAndType 53 1020), (0, u "(C)[B"), (80, u "serialPersistentFields"), (0, u "[Ljava/io/ObjectStreamField;"), (0, .class_ 1104), (0, u "java/lang/String$CaseInsensitiveComparator"), (1, .class_ 1107), (0, u "java/io/Serializable"), (0, .class_ 1109), (0, u "java/lang/Comparable"), (0, .class_ 1111), (0, u "java/lang/constant/Constable"), (0, .class_ 1113), (0, u "java/lang/constant/ConstantDesc"), (2, u "serialVersionUID"), (0, u "J"), (3, u "REPL"), (0, u "C"), (2, u "LATIN1"), (1, u "UTF16")] 323

def k9m0 : Method := { name := "<init>", desc := "()V", sig := { parameters := [], returnType := none }, accessFlags := 1, code := none }
def k9c1 : Code := { maxStack := 5, maxLocals := 2, code := jdk_42_method_3_code, exceptionTable := #[], attributes := #[] }
def k9m1 : Method := { name := "<init>", desc := "([C)V", sig := { parameters := [(.array .char)], returnType := none }, accessFlags := 1, code := some k9c1 }
def k9c2 : Code := { maxStack := 2, maxLocals := 3, code := jdk_42_method_66_code, exceptionTable := #[], attributes := #[] }
def k9m2 : Method := { name := "equals", desc := "(Ljava/lang/Object;)Z", sig := { parameters := [(.object "java/lang/Object")], returnType := some .boolean }, accessFlags := 1, code := some k9c2 }
def k9c3 : Code := { maxStack := 4, maxLocals := 1, code := jdk_42_method_139_code, exceptionTable := #[], attributes := #[] }
def k9m3 : Method := { name := "valueOf", desc := "(C)Ljava/lang/String;", sig := { parameters := [.char], returnType := some (.object "java/lang/String") }, accessFlags := 9, code := some k9c3 }
def k9c4 : Code := { maxStack := 4, maxLocals := 6, code := jdk_42_method_149_code, exceptionTable := #[], attributes := #[] }
def k9m4 : Method := { name := "<init>", desc := "([CIILjava/lang/Void;)V", sig := { parameters := [(.array .char), .int, .int, (.object "java/lang/Void")], returnType := none }, accessFlags := 2, code := some k9c4 }
def k9c5 : Code := { maxStack := 2, maxLocals := 3, code := jdk_42_method_151_code, exceptionTable := #[], attributes := #[] }
def k9m5 : Method := { name := "<init>", desc := "([BB)V", sig := { parameters := [(.array .byte), .byte], returnType := none }, accessFlags := 0, code := some k9c5 }
/-- java/lang/String -/
def k9 : Class := { plain "java/lang/String" (some 0) with
  accessFlags := 49
  interfaces := #[4, 3, 7, 2, 8]
  cf := some (fileOf pool9 10 #[.nestMembers #[1103]] #[{ accessFlags := 1, nameIndex := 5, descriptorIndex := 6, attributes := #[] }, { accessFlags := 1, nameIndex := 5, descriptorIndex := 1010, attributes := #[] }, { accessFlags := 1, nameIndex := 543, descriptorIndex := 573, attributes := #[] }, { accessFlags := 9, nameIndex := 782, descriptorIndex := 783, attributes := #[] }, { accessFlags := 2, nameIndex := 5, descriptorIndex := 29, attributes := #[] }, { accessFlags := 0, nameIndex := 5, descriptorIndex := 211, attributes := #[] }] 49 2 #[1106, 1108, 575, 1110, 1112] #[{ accessFlags := 18, nameIndex := 13, descriptorIndex := 14, attributes := #[] }, { accessFlags := 18, nameIndex := 17, descriptorIndex := 18, attributes := #[] }, { accessFlags := 2, nameIndex := 21, descriptorIndex := 22, attributes := #[] }, { accessFlags := 2, nameIndex := 25, descriptorIndex := 26, attributes := #[] }, { accessFlags := 26, nameIndex := 1116, descriptorIndex := 1117, attributes := #[] }, { accessFlags := 24, nameIndex := 40, descriptorIndex := 26, attributes := #[] }, { accessFlags := 26, nameIndex := 1101, descriptorIndex := 1102, attributes := #[] }, { accessFlags := 26, nameIndex := 1121, descriptorIndex := 1122, attributes := #[] }, { accessFlags := 25, nameIndex := 599, descriptorIndex := 600, attributes := #[] }, { accessFlags := 24, nameIndex := 1125, descriptorIndex := 18, attributes := #[] }, { accessFlags := 24, nameIndex := 1127, descriptorIndex := 18, attributes := #[] }])
  fields := #[{ name := "value", type := (.array .byte), accessFlags := 18, slot := 0, constantValue := 0 }, { name := "coder", type := .byte, accessFlags := 18, slot := 1, constantValue := 0 }, { name := "hash", type := .int, accessFlags := 2, slot := 2, constantValue := 0 }, { name := "hashIsZero", type := .boolean, accessFlags := 2, slot := 3, constantValue := 0 }, { name := "serialVersionUID", type := .long, accessFlags := 26, slot := 0, constantValue := 0 }, { name := "COMPACT_STRINGS", type := .boolean, accessFlags := 24, slot := 1, constantValue := 0 }, { name := "serialPersistentFields", type := (.array (.object "java/io/ObjectStreamField")), accessFlags := 26, slot := 2, constantValue := 0 }, { name := "REPL", type := .char, accessFlags := 26, slot := 3, constantValue := 0 }, { name := "CASE_INSENSITIVE_ORDER", type := (.object "java/util/Comparator"), accessFlags := 25, slot := 4, constantValue := 0 }, { name := "LATIN1", type := .byte, accessFlags := 24, slot := 5, constantValue := 0 }, { name := "UTF16", type := .byte, accessFlags := 24, slot := 6, constantValue := 0 }]
  methods := #[k9m0, k9m1, k9m2, k9m3, k9m4, k9m5]
  instanceTypes := #[(.array .byte), .byte, .int, .boolean]
  staticTypes := #[.long, .boolean, (.array (.object "java/io/ObjectStreamField")), .char, (.object "java/util/Comparator"), .byte, .byte]
  resolved := Array.replicate 1451 none
  statics := some 1 }

def pool10 : Array CpInfo := pool [(6, .class_ 8), (1, u "java/lang/Object"), (0, u "<init>"), (0, u "()V"), (1, .class_ 14), (1, u "java/lang/StringUTF16"), (31, u "$assertionsDisabled"), (0, u "Z"), (13, u "HI_BYTE_SHIFT"), (0, u "I"), (2, u "LO_BYTE_SHIFT"), (49, .methodref 12 116), (0, .nameAndType 117 118), (0, u "compress"), (0, u "([CI[BII)I"), (3, u "([CII)[B"), (138, u "coderFromArrayLen"), (0, u "([BI)B"), (106, .class_ 371), (1, u "java/lang/StringUTF16$LinesSpliterator"), (58, u "MAX_LENGTH"), (196, .class_ 628), (0, u "java/lang/StringUTF16$CodePointsSpliterator"), (0, .class_ 630), (0, u "java/lang/StringUTF16$CharsSpliterator")] 4

def k10m0 : Method := { name := "<init>", desc := "()V", sig := { parameters := [], returnType := none }, accessFlags := 0, code := none }
def k10c1 : Code := { maxStack := 2, maxLocals := 2, code := jdk_52_method_15_code, exceptionTable := #[], attributes := #[] }
def k10m1 : Method := { name := "coderFromArrayLen", desc := "([BI)B", sig := { parameters := [(.array .byte), .int], returnType := some .byte }, accessFlags := 8, code := some k10c1 }
def k10c2 : Code := { maxStack := 5, maxLocals := 6, code := jdk_52_method_16_code, exceptionTable := #[], attributes := #[] }
def k10m2 : Method := { name := "compress", desc := "([CII)[B", sig := { parameters := [(.array .char), .int, .int], returnType := some (.array .byte) }, accessFlags := 9, code := some k10c2 }
def k10c3 : Code := { maxStack := 3, maxLocals := 7, code := jdk_52_method_21_code, exceptionTable := #[], attributes := #[] }
def k10m3 : Method := { name := "compress", desc := "([CI[BII)I", sig := { parameters := [(.array .char), .int, (.array .byte), .int, .int], returnType := some .int }, accessFlags := 9, code := some k10c3 }
/-- java/lang/StringUTF16 -/
def k10 : Class := { plain "java/lang/StringUTF16" (some 0) with
  accessFlags := 48
  interfaces := #[]
  cf := some (fileOf pool10 12 #[.nestMembers #[627, 629, 369]] #[{ accessFlags := 0, nameIndex := 9, descriptorIndex := 10, attributes := #[] }, { accessFlags := 8, nameIndex := 261, descriptorIndex := 262, attributes := #[] }, { accessFlags := 9, nameIndex := 117, descriptorIndex := 122, attributes := #[] }, { accessFlags := 9, nameIndex := 117, descriptorIndex := 118, attributes := #[] }] 48 6 #[] #[{ accessFlags := 26, nameIndex := 61, descriptorIndex := 62, attributes := #[] }, { accessFlags := 26, nameIndex := 65, descriptorIndex := 62, attributes := #[] }, { accessFlags := 24, nameIndex := 430, descriptorIndex := 62, attributes := #[] }, { accessFlags := 4120, nameIndex := 46, descriptorIndex := 47, attributes := #[] }])
  fields := #[{ name := "HI_BYTE_SHIFT", type := .int, accessFlags := 26, slot := 0, constantValue := 0 }, { name := "LO_BYTE_SHIFT", type := .int, accessFlags := 26, slot := 1, constantValue := 0 }, { name := "MAX_LENGTH", type := .int, accessFlags := 24, slot := 2, constantValue := 0 }, { name := "$assertionsDisabled", type := .boolean, accessFlags := 4120, slot := 3, constantValue := 0 }]
  methods := #[k10m0, k10m1, k10m2, k10m3]
  instanceTypes := #[]
  staticTypes := #[.int, .int, .int, .boolean]
  resolved := Array.replicate 635 none
  statics := none }

def pool11 : Array CpInfo := pool [(1, .methodref 2 3), (0, .class_ 4), (0, .nameAndType 5 6), (0, u "java/lang/Object"), (0, u "<init>"), (0, u "()V"), (0, .class_ 8), (0, u "java/lang/Record")] 13

def k11c0 : Code := { maxStack := 1, maxLocals := 1, code := jdk_30_method_1_code, exceptionTable := #[], attributes := #[] }
def k11m0 : Method := { name := "<init>", desc := "()V", sig := { parameters := [], returnType := none }, accessFlags := 4, code := some k11c0 }
/-- java/lang/Record -/
def k11 : Class := { plain "java/lang/Record" (some 0) with
  accessFlags := 1057
  interfaces := #[]
  cf := some (fileOf pool11 7 #[] #[{ accessFlags := 4, nameIndex := 5, descriptorIndex := 6, attributes := #[] }] 1057 2 #[] #[])
  fields := #[]
  methods := #[k11m0]
  instanceTypes := #[]
  staticTypes := #[]
  resolved := Array.replicate 22 none
  statics := none }

def pool12 : Array CpInfo := pool [(1, .methodref 2 3), (0, .class_ 4), (0, .nameAndType 5 6), (0, u "java/lang/Record"), (0, u "<init>"), (0, u "()V"), (0, .fieldref 8 9), (0, .class_ 10), (0, .nameAndType 11 12), (0, u "com/example/tranche/tranche/model/Stated"), (0, u "value"), (0, u "Ljava/lang/Object;"), (0, .fieldref 8 14), (0, .nameAndType 15 16), (0, u "span"), (0, u "Lcom/example/tranche/tranche/model/Span;"), (14, u "(Ljava/lang/Object;Lcom/example/tranche/tranche/model/Span;)V"), (7, u "()Ljava/lang/Object;")] 24

def k12c0 : Code := { maxStack := 2, maxLocals := 3, code := prog_35_method_1_code, exceptionTable := #[], attributes := #[] }
def k12m0 : Method := { name := "<init>", desc := "(Ljava/lang/Object;Lcom/example/tranche/tranche/model/Span;)V", sig := { parameters := [(.object "java/lang/Object"), (.object "com/example/tranche/tranche/model/Span")], returnType := none }, accessFlags := 1, code := some k12c0 }
def k12c1 : Code := { maxStack := 1, maxLocals := 1, code := prog_35_method_5_code, exceptionTable := #[], attributes := #[] }
def k12m1 : Method := { name := "value", desc := "()Ljava/lang/Object;", sig := { parameters := [], returnType := some (.object "java/lang/Object") }, accessFlags := 1, code := some k12c1 }
/-- com/example/tranche/tranche/model/Stated -/
def k12 : Class := { plain "com/example/tranche/tranche/model/Stated" (some 11) with
  accessFlags := 49
  interfaces := #[]
  cf := some (fileOf pool12 8 #[] #[{ accessFlags := 1, nameIndex := 5, descriptorIndex := 31, attributes := #[] }, { accessFlags := 1, nameIndex := 11, descriptorIndex := 39, attributes := #[] }] 49 2 #[] #[{ accessFlags := 18, nameIndex := 11, descriptorIndex := 12, attributes := #[] }, { accessFlags := 18, nameIndex := 15, descriptorIndex := 16, attributes := #[] }])
  fields := #[{ name := "value", type := (.object "java/lang/Object"), accessFlags := 18, slot := 0, constantValue := 0 }, { name := "span", type := (.object "com/example/tranche/tranche/model/Span"), accessFlags := 18, slot := 1, constantValue := 0 }]
  methods := #[k12m0, k12m1]
  instanceTypes := #[(.object "java/lang/Object"), (.object "com/example/tranche/tranche/model/Span")]
  staticTypes := #[]
  resolved := Array.replicate 64 none
  statics := none }

def pool13 : Array CpInfo := pool [(1, .methodref 2 3), (0, .class_ 4), (0, .nameAndType 5 6), (0, u "java/lang/Record"), (0, u "<init>"), (0, u "()V"), (0, .fieldref 8 9), (0, .class_ 10), (0, .nameAndType 11 12), (0, u "com/example/tranche/tranche/model/Heading"), (0, u "kind"), (0, u "Lcom/example/tranche/tranche/model/Heading$Kind;"), (0, .fieldref 8 14), (0, .nameAndType 15 16), (0, u "number"), (0, u "Lcom/example/tranche/tranche/model/Stated;"), (0, .fieldref 8 18), (0, .nameAndType 19 16), (0, u "title"), (0, .fieldref 8 21), (0, .nameAndType 22 23), (0, u "span"), (0, u "Lcom/example/tranche/tranche/model/Span;"), (14, u "(Lcom/example/tranche/tranche/model/Heading$Kind;Lcom/example/tranche/tranche/model/Stated;Lcom/example/tranche/tranche/model/Stated;Lcom/example/tranche/tranche/model/Span;)V"), (7, u "()Lcom/example/tranche/tranche/model/Heading$Kind;"), (0, u "()Lcom/example/tranche/tranche/model/Stated;"), (5, .class_ 54), (0, u "com/example/tranche/tranche/model/Heading$Kind")] 22

def k13c0 : Code := { maxStack := 2, maxLocals := 5, code := prog_20_method_1_code, exceptionTable := #[], attributes := #[] }
def k13m0 : Method := { name := "<init>", desc := "(Lcom/example/tranche/tranche/model/Heading$Kind;Lcom/example/tranche/tranche/model/Stated;Lcom/example/tranche/tranche/model/Stated;Lcom/example/tranche/tranche/model/Span;)V", sig := { parameters := [(.object "com/example/tranche/tranche/model/Heading$Kind"), (.object "com/example/tranche/tranche/model/Stated"), (.object "com/example/tranche/tranche/model/Stated"), (.object "com/example/tranche/tranche/model/Span")], returnType := none }, accessFlags := 1, code := some k13c0 }
def k13c1 : Code := { maxStack := 1, maxLocals := 1, code := prog_20_method_5_code, exceptionTable := #[], attributes := #[] }
def k13m1 : Method := { name := "kind", desc := "()Lcom/example/tranche/tranche/model/Heading$Kind;", sig := { parameters := [], returnType := some (.object "com/example/tranche/tranche/model/Heading$Kind") }, accessFlags := 1, code := some k13c1 }
def k13c2 : Code := { maxStack := 1, maxLocals := 1, code := prog_20_method_6_code, exceptionTable := #[], attributes := #[] }
def k13m2 : Method := { name := "number", desc := "()Lcom/example/tranche/tranche/model/Stated;", sig := { parameters := [], returnType := some (.object "com/example/tranche/tranche/model/Stated") }, accessFlags := 1, code := some k13c2 }
/-- com/example/tranche/tranche/model/Heading -/
def k13 : Class := { plain "com/example/tranche/tranche/model/Heading" (some 11) with
  accessFlags := 49
  interfaces := #[]
  cf := some (fileOf pool13 8 #[.nestMembers #[53]] #[{ accessFlags := 1, nameIndex := 5, descriptorIndex := 38, attributes := #[] }, { accessFlags := 1, nameIndex := 11, descriptorIndex := 46, attributes := #[] }, { accessFlags := 1, nameIndex := 15, descriptorIndex := 47, attributes := #[] }] 49 2 #[] #[{ accessFlags := 18, nameIndex := 11, descriptorIndex := 12, attributes := #[] }, { accessFlags := 18, nameIndex := 15, descriptorIndex := 16, attributes := #[] }, { accessFlags := 18, nameIndex := 19, descriptorIndex := 16, attributes := #[] }, { accessFlags := 18, nameIndex := 22, descriptorIndex := 23, attributes := #[] }])
  fields := #[{ name := "kind", type := (.object "com/example/tranche/tranche/model/Heading$Kind"), accessFlags := 18, slot := 0, constantValue := 0 }, { name := "number", type := (.object "com/example/tranche/tranche/model/Stated"), accessFlags := 18, slot := 1, constantValue := 0 }, { name := "title", type := (.object "com/example/tranche/tranche/model/Stated"), accessFlags := 18, slot := 2, constantValue := 0 }, { name := "span", type := (.object "com/example/tranche/tranche/model/Span"), accessFlags := 18, slot := 3, constantValue := 0 }]
  methods := #[k13m0, k13m1, k13m2]
  instanceTypes := #[(.object "com/example/tranche/tranche/model/Heading$Kind"), (.object "com/example/tranche/tranche/model/Stated"), (.object "com/example/tranche/tranche/model/Stated"), (.object "com/example/tranche/tranche/model/Span")]
  staticTypes := #[]
  resolved := Array.replicate 77 none
  statics := none }

def pool14 : Array CpInfo := pool [(1, .methodref 2 3), (0, .class_ 4), (0, .nameAndType 5 6), (0, u "java/lang/Record"), (0, u "<init>"), (0, u "()V"), (0, .fieldref 8 9), (0, .class_ 10), (0, .nameAndType 11 12), (0, u "com/example/tranche/tranche/service/HeadingNumber"), (0, u "kind"), (0, u "Lcom/example/tranche/tranche/model/Heading$Kind;"), (0, .fieldref 8 14), (0, .nameAndType 15 16), (0, u "number"), (0, u "Ljava/lang/String;"), (0, .methodref 18 19), (0, .class_ 20), (0, .nameAndType 11 21), (0, u "com/example/tranche/tranche/model/Heading"), (0, u "()Lcom/example/tranche/tranche/model/Heading$Kind;"), (0, .methodref 18 23), (0, .nameAndType 15 24), (0, u "()Lcom/example/tranche/tranche/model/Stated;"), (0, .methodref 26 27), (0, .class_ 28), (0, .nameAndType 29 30), (0, u "com/example/tranche/tranche/model/Stated"), (0, u "value"), (0, u "()Ljava/lang/Object;"), (0, .class_ 32), (0, u "java/lang/String"), (0, .methodref 8 34), (0, .nameAndType 5 35), (0, u "(Lcom/example/tranche/tranche/model/Heading$Kind;Ljava/lang/String;)V"), (2, u "of"), (0, u "(Lcom/example/tranche/tranche/model/Heading;)Lcom/example/tranche/tranche/service/HeadingNumber;"), (7, u "()Ljava/lang/String;"), (5, .class_ 55), (1, u "com/example/tranche/tranche/service/HeadingNumber$Count"), (70, u "ROMAN_VALUES"), (0, u "[I"), (18, u "COUNTED"), (0, u "Ljava/util/regex/Pattern;"), (67, u "ROMAN_DIGITS")] 50

def k14c0 : Code := { maxStack := 2, maxLocals := 3, code := prog_64_method_1_code, exceptionTable := #[], attributes := #[] }
def k14m0 : Method := { name := "<init>", desc := "(Lcom/example/tranche/tranche/model/Heading$Kind;Ljava/lang/String;)V", sig := { parameters := [(.object "com/example/tranche/tranche/model/Heading$Kind"), (.object "java/lang/String")], returnType := none }, accessFlags := 0, code := some k14c0 }
def k14c1 : Code := { maxStack := 4, maxLocals := 1, code := prog_64_method_2_code, exceptionTable := #[], attributes := #[] }
def k14m1 : Method := { name := "of", desc := "(Lcom/example/tranche/tranche/model/Heading;)Lcom/example/tranche/tranche/service/HeadingNumber;", sig := { parameters := [(.object "com/example/tranche/tranche/model/Heading")], returnType := some (.object "com/example/tranche/tranche/service/HeadingNumber") }, accessFlags := 8, code := some k14c1 }
def k14c2 : Code := { maxStack := 1, maxLocals := 1, code := prog_64_method_13_code, exceptionTable := #[], attributes := #[] }
def k14m2 : Method := { name := "kind", desc := "()Lcom/example/tranche/tranche/model/Heading$Kind;", sig := { parameters := [], returnType := some (.object "com/example/tranche/tranche/model/Heading$Kind") }, accessFlags := 1, code := some k14c2 }
def k14c3 : Code := { maxStack := 1, maxLocals := 1, code := prog_64_method_14_code, exceptionTable := #[], attributes := #[] }
def k14m3 : Method := { name := "number", desc := "()Ljava/lang/String;", sig := { parameters := [], returnType := some (.object "java/lang/String") }, accessFlags := 1, code := some k14c3 }
/-- com/example/tranche/tranche/service/HeadingNumber -/
def k14 : Class := { plain "com/example/tranche/tranche/service/HeadingNumber" (some 11) with
  accessFlags := 48
  interfaces := #[]
  cf := some (fileOf pool14 8 #[.nestMembers #[53]] #[{ accessFlags := 0, nameIndex := 5, descriptorIndex := 35, attributes := #[] }, { accessFlags := 8, nameIndex := 38, descriptorIndex := 39, attributes := #[] }, { accessFlags := 1, nameIndex := 11, descriptorIndex := 21, attributes := #[] }, { accessFlags := 1, nameIndex := 15, descriptorIndex := 47, attributes := #[] }] 48 2 #[] #[{ accessFlags := 18, nameIndex := 11, descriptorIndex := 12, attributes := #[] }, { accessFlags := 18, nameIndex := 15, descriptorIndex := 16, attributes := #[] }, { accessFlags := 26, nameIndex := 215, descriptorIndex := 16, attributes := #[] }, { accessFlags := 26, nameIndex := 126, descriptorIndex := 127, attributes := #[] }, { accessFlags := 26, nameIndex := 146, descriptorIndex := 147, attributes := #[] }])
  fields := #[{ name := "kind", type := (.object "com/example/tranche/tranche/model/Heading$Kind"), accessFlags := 18, slot := 0, constantValue := 0 }, { name := "number", type := (.object "java/lang/String"), accessFlags := 18, slot := 1, constantValue := 0 }, { name := "ROMAN_DIGITS", type := (.object "java/lang/String"), accessFlags := 26, slot := 0, constantValue := 0 }, { name := "ROMAN_VALUES", type := (.array .int), accessFlags := 26, slot := 1, constantValue := 0 }, { name := "COUNTED", type := (.object "java/util/regex/Pattern"), accessFlags := 26, slot := 2, constantValue := 0 }]
  methods := #[k14m0, k14m1, k14m2, k14m3]
  instanceTypes := #[(.object "com/example/tranche/tranche/model/Heading$Kind"), (.object "java/lang/String")]
  staticTypes := #[(.object "java/lang/String"), (.array .int), (.object "java/util/regex/Pattern")]
  resolved := Array.replicate 266 none
  statics := none }

def pool15 : Array CpInfo := pool [(4, .class_ 6), (1, u "java/lang/Object"), (0, u "<init>"), (0, u "()V"), (5, .class_ 16), (1, u "java/lang/StringLatin1"), (73, u "canEncode"), (14, u "(C)Z"), (15, u "$assertionsDisabled"), (0, u "Z"), (98, .class_ 223), (1, u "java/lang/StringLatin1$LinesSpliterator"), (156, u "toBytes"), (1, u "(C)[B"), (7, .class_ 391), (0, u "java/lang/StringLatin1$CharsSpliterator")] 3

def k15m0 : Method := { name := "<init>", desc := "()V", sig := { parameters := [], returnType := none }, accessFlags := 0, code := none }
def k15c1 : Code := { maxStack := 2, maxLocals := 1, code := jdk_43_method_3_code, exceptionTable := #[], attributes := #[] }
def k15m1 : Method := { name := "canEncode", desc := "(C)Z", sig := { parameters := [.char], returnType := some .boolean }, accessFlags := 9, code := some k15c1 }
def k15c2 : Code := { maxStack := 4, maxLocals := 1, code := jdk_43_method_46_code, exceptionTable := #[], attributes := #[] }
def k15m2 : Method := { name := "toBytes", desc := "(C)[B", sig := { parameters := [.char], returnType := some (.array .byte) }, accessFlags := 9, code := some k15c2 }
/-- java/lang/StringLatin1 -/
def k15 : Class := { plain "java/lang/StringLatin1" (some 0) with
  accessFlags := 48
  interfaces := #[]
  cf := some (fileOf pool15 14 #[.nestMembers #[390, 221]] #[{ accessFlags := 0, nameIndex := 7, descriptorIndex := 8, attributes := #[] }, { accessFlags := 9, nameIndex := 90, descriptorIndex := 105, attributes := #[] }, { accessFlags := 9, nameIndex := 380, descriptorIndex := 382, attributes := #[] }] 48 4 #[] #[{ accessFlags := 4120, nameIndex := 121, descriptorIndex := 122, attributes := #[] }])
  fields := #[{ name := "$assertionsDisabled", type := .boolean, accessFlags := 4120, slot := 0, constantValue := 0 }]
  methods := #[k15m0, k15m1, k15m2]
  instanceTypes := #[]
  staticTypes := #[.boolean]
  resolved := Array.replicate 395 none
  statics := none }

def pool16 : Array CpInfo := pool [(2, .class_ 4), (1, u "java/lang/Object"), (0, u "<init>"), (0, u "()V"), (17, .class_ 26), (1, u "jdk/internal/util/Preconditions"), (28, .class_ 56), (0, u "jdk/internal/util/Preconditions$4"), (57, .class_ 115), (0, u "jdk/internal/util/Preconditions$1"), (7, u "SIOOBE_FORMATTER"), (0, u "Ljava/util/function/BiFunction;"), (0, .class_ 126), (0, u "jdk/internal/util/Preconditions$2"), (3, u "AIOOBE_FORMATTER"), (0, .class_ 132), (0, u "jdk/internal/util/Preconditions$3"), (3, u "IOOBE_FORMATTER")] 57

def k16m0 : Method := { name := "<init>", desc := "()V", sig := { parameters := [], returnType := none }, accessFlags := 1, code := none }
/-- jdk/internal/util/Preconditions -/
def k16 : Class := { plain "jdk/internal/util/Preconditions" (some 0) with
  accessFlags := 33
  interfaces := #[]
  cf := some (fileOf pool16 24 #[.nestMembers #[55, 131, 125, 114]] #[{ accessFlags := 1, nameIndex := 5, descriptorIndex := 6, attributes := #[] }] 33 2 #[] #[{ accessFlags := 25, nameIndex := 123, descriptorIndex := 124, attributes := #[] }, { accessFlags := 25, nameIndex := 130, descriptorIndex := 124, attributes := #[] }, { accessFlags := 25, nameIndex := 136, descriptorIndex := 124, attributes := #[] }])
  fields := #[{ name := "SIOOBE_FORMATTER", type := (.object "java/util/function/BiFunction"), accessFlags := 25, slot := 0, constantValue := 0 }, { name := "AIOOBE_FORMATTER", type := (.object "java/util/function/BiFunction"), accessFlags := 25, slot := 1, constantValue := 0 }, { name := "IOOBE_FORMATTER", type := (.object "java/util/function/BiFunction"), accessFlags := 25, slot := 2, constantValue := 0 }]
  methods := #[k16m0]
  instanceTypes := #[]
  staticTypes := #[(.object "java/util/function/BiFunction"), (.object "java/util/function/BiFunction"), (.object "java/util/function/BiFunction")]
  resolved := Array.replicate 194 none
  statics := some 2 }

def pool17 : Array CpInfo := pool [(9, u "<init>"), (6, .class_ 18), (1, u "java/lang/Object"), (0, u "()V"), (1, .class_ 23), (1, u "jdk/internal/util/ArraysSupport"), (0, u "LOG2_ARRAY_LONG_INDEX_SCALE"), (0, u "I"), (2, u "U"), (0, u "Ljdk/internal/misc/Unsafe;"), (8, u "BIG_ENDIAN"), (0, u "Z"), (8, u "LOG2_BYTE_BIT_SIZE"), (4, u "LOG2_ARRAY_INT_INDEX_SCALE"), (54, u "JLA"), (0, u "Ljdk/internal/access/JavaLangAccess;"), (11, u "LOG2_ARRAY_BOOLEAN_INDEX_SCALE"), (9, u "LOG2_ARRAY_BYTE_INDEX_SCALE"), (5, u "LOG2_ARRAY_CHAR_INDEX_SCALE"), (5, u "LOG2_ARRAY_SHORT_INDEX_SCALE"), (18, u "LOG2_ARRAY_FLOAT_INDEX_SCALE"), (24, u "LOG2_ARRAY_DOUBLE_INDEX_SCALE"), (89, u "T_BOOLEAN"), (2, u "T_CHAR"), (1, u "T_FLOAT"), (1, u "T_DOUBLE"), (1, u "T_BYTE"), (1, u "T_SHORT"), (1, u "T_INT"), (1, u "T_LONG"), (1, u "SOFT_MAX_ARRAY_LENGTH")] 83

def k17m0 : Method := { name := "<init>", desc := "()V", sig := { parameters := [], returnType := none }, accessFlags := 2, code := none }
/-- jdk/internal/util/ArraysSupport -/
def k17 : Class := { plain "jdk/internal/util/ArraysSupport" (some 0) with
  accessFlags := 33
  interfaces := #[]
  cf := some (fileOf pool17 21 #[] #[{ accessFlags := 2, nameIndex := 9, descriptorIndex := 19, attributes := #[] }] 33 16 #[] #[{ accessFlags := 24, nameIndex := 28, descriptorIndex := 29, attributes := #[] }, { accessFlags := 26, nameIndex := 38, descriptorIndex := 39, attributes := #[] }, { accessFlags := 25, nameIndex := 121, descriptorIndex := 25, attributes := #[] }, { accessFlags := 25, nameIndex := 131, descriptorIndex := 25, attributes := #[] }, { accessFlags := 25, nameIndex := 137, descriptorIndex := 25, attributes := #[] }, { accessFlags := 25, nameIndex := 143, descriptorIndex := 25, attributes := #[] }, { accessFlags := 25, nameIndex := 53, descriptorIndex := 25, attributes := #[] }, { accessFlags := 25, nameIndex := 24, descriptorIndex := 25, attributes := #[] }, { accessFlags := 25, nameIndex := 162, descriptorIndex := 25, attributes := #[] }, { accessFlags := 25, nameIndex := 187, descriptorIndex := 25, attributes := #[] }, { accessFlags := 26, nameIndex := 48, descriptorIndex := 25, attributes := #[] }, { accessFlags := 25, nameIndex := 277, descriptorIndex := 25, attributes := #[] }, { accessFlags := 25, nameIndex := 280, descriptorIndex := 25, attributes := #[] }, { accessFlags := 25, nameIndex := 282, descriptorIndex := 25, attributes := #[] }, { accessFlags := 25, nameIndex := 284, descriptorIndex := 25, attributes := #[] }, { accessFlags := 25, nameIndex := 286, descriptorIndex := 25, attributes := #[] }, { accessFlags := 25, nameIndex := 288, descriptorIndex := 25, attributes := #[] }, { accessFlags := 25, nameIndex := 290, descriptorIndex := 25, attributes := #[] }, { accessFlags := 25, nameIndex := 292, descriptorIndex := 25, attributes := #[] }, { accessFlags := 26, nameIndex := 108, descriptorIndex := 109, attributes := #[] }, { accessFlags := 25, nameIndex := 294, descriptorIndex := 25, attributes := #[] }])
  fields := #[{ name := "U", type := (.object "jdk/internal/misc/Unsafe"), accessFlags := 24, slot := 0, constantValue := 0 }, { name := "BIG_ENDIAN", type := .boolean, accessFlags := 26, slot := 1, constantValue := 0 }, { name := "LOG2_ARRAY_BOOLEAN_INDEX_SCALE", type := .int, accessFlags := 25, slot := 2, constantValue := 0 }, { name := "LOG2_ARRAY_BYTE_INDEX_SCALE", type := .int, accessFlags := 25, slot := 3, constantValue := 0 }, { name := "LOG2_ARRAY_CHAR_INDEX_SCALE", type := .int, accessFlags := 25, slot := 4, constantValue := 0 }, { name := "LOG2_ARRAY_SHORT_INDEX_SCALE", type := .int, accessFlags := 25, slot := 5, constantValue := 0 }, { name := "LOG2_ARRAY_INT_INDEX_SCALE", type := .int, accessFlags := 25, slot := 6, constantValue := 0 }, { name := "LOG2_ARRAY_LONG_INDEX_SCALE", type := .int, accessFlags := 25, slot := 7, constantValue := 0 }, { name := "LOG2_ARRAY_FLOAT_INDEX_SCALE", type := .int, accessFlags := 25, slot := 8, constantValue := 0 }, { name := "LOG2_ARRAY_DOUBLE_INDEX_SCALE", type := .int, accessFlags := 25, slot := 9, constantValue := 0 }, { name := "LOG2_BYTE_BIT_SIZE", type := .int, accessFlags := 26, slot := 10, constantValue := 0 }, { name := "T_BOOLEAN", type := .int, accessFlags := 25, slot := 11, constantValue := 0 }, { name := "T_CHAR", type := .int, accessFlags := 25, slot := 12, constantValue := 0 }, { name := "T_FLOAT", type := .int, accessFlags := 25, slot := 13, constantValue := 0 }, { name := "T_DOUBLE", type := .int, accessFlags := 25, slot := 14, constantValue := 0 }, { name := "T_BYTE", type := .int, accessFlags := 25, slot := 15, constantValue := 0 }, { name := "T_SHORT", type := .int, accessFlags := 25, slot := 16, constantValue := 0 }, { name := "T_INT", type := .int, accessFlags := 25, slot := 17, constantValue := 0 }, { name := "T_LONG", type := .int, accessFlags := 25, slot := 18, constantValue := 0 }, { name := "JLA", type := (.object "jdk/internal/access/JavaLangAccess"), accessFlags := 26, slot := 19, constantValue := 0 }, { name := "SOFT_MAX_ARRAY_LENGTH", type := .int, accessFlags := 25, slot := 20, constantValue := 0 }]
  methods := #[k17m0]
  instanceTypes := #[]
  staticTypes := #[(.object "jdk/internal/misc/Unsafe"), .boolean, .int, .int, .int, .int, .int, .int, .int, .int, .int, .int, .int, .int, .int, .int, .int, .int, .int, (.object "jdk/internal/access/JavaLangAccess"), .int]
  resolved := Array.replicate 378 none
  statics := none }

def pool18 : Array CpInfo := pool [(1, u "java/lang/Cloneable"), (0, .class_ 1), (0, u "java/lang/Object"), (0, .class_ 3)] 3

/-- java/lang/Cloneable -/
def k18 : Class := { plain "java/lang/Cloneable" (some 0) with
  accessFlags := 1537
  interfaces := #[]
  cf := some (fileOf pool18 2 #[] #[] 1537 4 #[] #[])
  fields := #[]
  methods := #[]
  instanceTypes := #[]
  staticTypes := #[]
  resolved := Array.replicate 8 none
  statics := none }

/-- the primitive byte -/
def k19 : Class := { plain "byte" none with kind := .primitive 'B', accessFlags := 0x411 }
/-- [B -/
def k20 : Class := { plain "[B" (some 0) with kind := .array 19 .byte, interfaces := #[18, 4], accessFlags := 1041 }

/-- the primitive char -/
def k21 : Class := { plain "char" none with kind := .primitive 'C', accessFlags := 0x411 }
/-- [C -/
def k22 : Class := { plain "[C" (some 0) with kind := .array 21 .char, interfaces := #[18, 4], accessFlags := 1041 }

/-- the primitive int -/
def k23 : Class := { plain "int" none with kind := .primitive 'I', accessFlags := 0x411 }
/-- [I -/
def k24 : Class := { plain "[I" (some 0) with kind := .array 23 .int, interfaces := #[18, 4], accessFlags := 1041 }

def heap : Heap := #[{ cls := 6, slots := #[.ref 3, .ref 4, .null], vm := .statics 6 },
  { cls := 9, slots := #[.long 0, .int 1, .null, .int 0, .null, .int 0, .int 0], vm := .statics 9 },
  { cls := 16, slots := #[.null, .null, .null], vm := .statics 16 },
  { cls := 6, slots := #[.null, .int 0, .int 0, .null], vm := .none },
  { cls := 6, slots := #[.null, .int 0, .int 0, .null], vm := .none }]
def classes : Array Class := #[k0, k1, k2, k3, k4, k5, k6, k7, k8, k9, k10, k11, k12, k13, k14, k15, k16, k17, k18, k19, k20, k21, k22, k23, k24]
def interned : List (Array UInt16 × Addr) := []
def slotsUsed : Nat := 21
def theMethod : MethodId := ⟨1, 1⟩
def args0 : Array Value := #[.int 1, .int 2, .int 3, .int 4, .int 5]
def aboutOver (below : List Frame) : State where
  vm := { classes := classes, interned := interned.toArray }
  heap := heap
  slotsUsed := slotsUsed
  threads := #[{ frames := .invoking theMethod args0 :: below }]
def below0 : List Frame := [.native { method := ⟨0, 0⟩, args := #[] }]
def about1 : State := aboutOver below0
def p0 : Program := .bare "" "" ""
def e0 : Env := launch0.env 0 0 0
theorem w_frames : about1.frames = Frame.invoking theMethod args0 :: below0 := rfl
set_option maxRecDepth 65536 in
theorem w_args : argsFit about1.vm theMethod args0 = true := by decide +kernel
set_option maxRecDepth 65536 in
theorem w_heap : heapFits about1 = true := by decide +kernel
set_option maxRecDepth 65536 in
theorem w_runnable : about1.curStatus? = some .runnable := by decide +kernel
set_option maxRecDepth 65536 in
theorem w_alone : about1.alone = true := by decide +kernel
set_option maxRecDepth 65536 in
theorem w_named : about1.methodNamed? x = some theMethod := by decide +kernel
set_option maxRecDepth 65536 in
theorem w_hears : about1.hears theMethod below0 = true := by decide +kernel
set_option maxRecDepth 65536 in
theorem w_ripe : about1.ripe theMethod args0 below0 = true := by decide +kernel
theorem w_running : about1.status = .running := rfl
set_option maxRecDepth 65536 in
theorem w_room : about1.hasRoom e0.platform room_1 = true :=
  launch0.hasRoom_least _ room_1 (by decide +kernel) (by decide +kernel) (by decide +kernel) (by decide +kernel) (by decide +kernel) (by decide +kernel)
theorem allAtoms_all (ts : List Jvm.Cond) (a : Array Jvm.Value) (st : Jvm.State) : (allAtoms ts).before a st = ts.all (fun c => c.before a st) := by
  induction ts with
  | nil => rfl
  | cons c t ih =>
    show (Jvm.Cond.and c (allAtoms t)).before a st = _
    rw [Jvm.Cond.before_and, ih, List.all_cons]
def words1 : List Jvm.Cond := Jvm.Cond.code x code maxLocals ret :: tables_1
/-- a 'code' word, met by the world's own term for the bytes: nothing is compared byte by byte -/
theorem code_word {y : MethodName} {bytes : ByteArray} {mx : Nat} {rt : Option FieldType} {a : Array Value} {s : State} {m : MethodId} {meth : Method} {c : Code} (h1 : s.methodNamed? y = some m) (h2 : s.vm.method? m = some meth) (h3 : meth.code = some c) (h4 : c.code = bytes)
    (h5 : (c.maxLocals == mx && c.exceptionTable.isEmpty && decide (c.maxStack ≤ mostOperands) && decide (meth.sig.returnType = rt) && !meth.locks && decide (parseMethodDescriptor y.desc = some meth.sig)) = true) : (Jvm.Cond.code y bytes mx rt).before a s = true := by
  simp only [Bool.and_eq_true, beq_iff_eq, Bool.not_eq_true', decide_eq_true_eq] at h5
  obtain ⟨⟨⟨⟨⟨g1, g2⟩, g3⟩, g4⟩, g5⟩, g6⟩ := h5
  simp [Cond.before, Cond.holds, Cond.value, h1, h2, h3, h4, g1, g2, g3, g4, g5, g6]
def isCode : Jvm.Cond → Bool
  | .code _ _ _ _ => true
  | _ => false
theorem all_split {L : List Jvm.Cond} {P : Jvm.Cond → Bool} (h1 : L.all (fun c => isCode c || P c) = true) (h2 : ∀ c ∈ L.filter isCode, P c = true) : L.all P = true := by
  refine List.all_eq_true.mpr fun c hc => ?_
  have h := List.all_eq_true.mp h1 c hc
  rcases Bool.eq_false_or_eq_true (isCode c) with hi | hi
  · exact h2 c (List.mem_filter.mpr ⟨hc, hi⟩)
  · simpa [hi] using h
set_option maxRecDepth 65536 in
theorem w_c0 : (Jvm.Cond.code x code maxLocals ret).before args0 about1 = true := code_word (m := ⟨1, 1⟩) (meth := k1m1) (c := k1c1) (by decide +kernel) rfl rfl rfl (by decide +kernel)
set_option maxRecDepth 65536 in
theorem w_c1 : (Jvm.Cond.code ({ cls := "java/lang/String", name := "<init>", desc := "([C)V" } : Jvm.MethodName) jdk_42_method_3_code (2 : Nat) (Option.none : Option Jvm.ClassFile.FieldType)).before args0 about1 = true := code_word (m := ⟨9, 1⟩) (meth := k9m1) (c := k9c1) (by decide +kernel) rfl rfl rfl (by decide +kernel)
set_option maxRecDepth 65536 in
theorem w_c2 : (Jvm.Cond.code ({ cls := "java/lang/String", name := "<init>", desc := "([CIILjava/lang/Void;)V" } : Jvm.MethodName) jdk_42_method_149_code (6 : Nat) (Option.none : Option Jvm.ClassFile.FieldType)).before args0 about1 = true := code_word (m := ⟨9, 4⟩) (meth := k9m4) (c := k9c4) (by decide +kernel) rfl rfl rfl (by decide +kernel)
set_option maxRecDepth 65536 in
theorem w_c3 : (Jvm.Cond.code ({ cls := "java/lang/Object", name := "<init>", desc := "()V" } : Jvm.MethodName) object_method_1_code (1 : Nat) (Option.none : Option Jvm.ClassFile.FieldType)).before args0 about1 = true := code_word (m := ⟨0, 0⟩) (meth := k0m0) (c := k0c0) (by decide +kernel) rfl rfl rfl (by decide +kernel)
set_option maxRecDepth 65536 in
theorem w_c4 : (Jvm.Cond.code ({ cls := "java/lang/StringUTF16", name := "compress", desc := "([CII)[B" } : Jvm.MethodName) jdk_52_method_16_code (6 : Nat) (Option.some (Jvm.ClassFile.FieldType.array Jvm.ClassFile.FieldType.byte))).before args0 about1 = true := code_word (m := ⟨10, 2⟩) (meth := k10m2) (c := k10c2) (by decide +kernel) rfl rfl rfl (by decide +kernel)
set_option maxRecDepth 65536 in
theorem w_c5 : (Jvm.Cond.code ({ cls := "java/lang/StringUTF16", name := "compress", desc := "([CI[BII)I" } : Jvm.MethodName) jdk_52_method_21_code (7 : Nat) (Option.some Jvm.ClassFile.FieldType.int)).before args0 about1 = true := code_word (m := ⟨10, 3⟩) (meth := k10m3) (c := k10c3) (by decide +kernel) rfl rfl rfl (by decide +kernel)
set_option maxRecDepth 65536 in
theorem w_c6 : (Jvm.Cond.code ({ cls := "java/lang/StringUTF16", name := "coderFromArrayLen", desc := "([BI)B" } : Jvm.MethodName) jdk_52_method_15_code (2 : Nat) (Option.some Jvm.ClassFile.FieldType.byte)).before args0 about1 = true := code_word (m := ⟨10, 1⟩) (meth := k10m1) (c := k10c1) (by decide +kernel) rfl rfl rfl (by decide +kernel)
set_option maxRecDepth 65536 in
theorem w_c7 : (Jvm.Cond.code ({ cls := "com/example/tranche/tranche/model/Stated", name := "<init>", desc := "(Ljava/lang/Object;Lcom/example/tranche/tranche/model/Span;)V" } : Jvm.MethodName) prog_35_method_1_code (3 : Nat) (Option.none : Option Jvm.ClassFile.FieldType)).before args0 about1 = true := code_word (m := ⟨12, 0⟩) (meth := k12m0) (c := k12c0) (by decide +kernel) rfl rfl rfl (by decide +kernel)
set_option maxRecDepth 65536 in
theorem w_c8 : (Jvm.Cond.code ({ cls := "java/lang/Record", name := "<init>", desc := "()V" } : Jvm.MethodName) jdk_30_method_1_code (1 : Nat) (Option.none : Option Jvm.ClassFile.FieldType)).before args0 about1 = true := code_word (m := ⟨11, 0⟩) (meth := k11m0) (c := k11c0) (by decide +kernel) rfl rfl rfl (by decide +kernel)
set_option maxRecDepth 65536 in
theorem w_c9 : (Jvm.Cond.code ({ cls := "com/example/tranche/tranche/model/Heading", name := "<init>", desc := "(Lcom/example/tranche/tranche/model/Heading$Kind;Lcom/example/tranche/tranche/model/Stated;Lcom/example/tranche/tranche/model/Stated;Lcom/example/tranche/tranche/model/Span;)V" } : Jvm.MethodName) prog_20_method_1_code (5 : Nat) (Option.none : Option Jvm.ClassFile.FieldType)).before args0 about1 = true := code_word (m := ⟨13, 0⟩) (meth := k13m0) (c := k13c0) (by decide +kernel) rfl rfl rfl (by decide +kernel)
set_option maxRecDepth 65536 in
theorem w_c10 : (Jvm.Cond.code ({ cls := "com/example/tranche/tranche/service/HeadingNumber", name := "of", desc := "(Lcom/example/tranche/tranche/model/Heading;)Lcom/example/tranche/tranche/service/HeadingNumber;" } : Jvm.MethodName) prog_64_method_2_code (1 : Nat) (Option.some (Jvm.ClassFile.FieldType.object "com/example/tranche/tranche/service/HeadingNumber"))).before args0 about1 = true := code_word (m := ⟨14, 1⟩) (meth := k14m1) (c := k14c1) (by decide +kernel) rfl rfl rfl (by decide +kernel)
set_option maxRecDepth 65536 in
theorem w_c11 : (Jvm.Cond.code ({ cls := "com/example/tranche/tranche/model/Heading", name := "kind", desc := "()Lcom/example/tranche/tranche/model/Heading$Kind;" } : Jvm.MethodName) prog_20_method_5_code (1 : Nat) (Option.some (Jvm.ClassFile.FieldType.object "com/example/tranche/tranche/model/Heading$Kind"))).before args0 about1 = true := code_word (m := ⟨13, 1⟩) (meth := k13m1) (c := k13c1) (by decide +kernel) rfl rfl rfl (by decide +kernel)
set_option maxRecDepth 65536 in
theorem w_c12 : (Jvm.Cond.code ({ cls := "com/example/tranche/tranche/model/Heading", name := "number", desc := "()Lcom/example/tranche/tranche/model/Stated;" } : Jvm.MethodName) prog_20_method_6_code (1 : Nat) (Option.some (Jvm.ClassFile.FieldType.object "com/example/tranche/tranche/model/Stated"))).before args0 about1 = true := code_word (m := ⟨13, 2⟩) (meth := k13m2) (c := k13c2) (by decide +kernel) rfl rfl rfl (by decide +kernel)
set_option maxRecDepth 65536 in
theorem w_c13 : (Jvm.Cond.code ({ cls := "com/example/tranche/tranche/model/Stated", name := "value", desc := "()Ljava/lang/Object;" } : Jvm.MethodName) prog_35_method_5_code (1 : Nat) (Option.some (Jvm.ClassFile.FieldType.object "java/lang/Object"))).before args0 about1 = true := code_word (m := ⟨12, 1⟩) (meth := k12m1) (c := k12c1) (by decide +kernel) rfl rfl rfl (by decide +kernel)
set_option maxRecDepth 65536 in
theorem w_c14 : (Jvm.Cond.code ({ cls := "com/example/tranche/tranche/service/HeadingNumber", name := "<init>", desc := "(Lcom/example/tranche/tranche/model/Heading$Kind;Ljava/lang/String;)V" } : Jvm.MethodName) prog_64_method_1_code (3 : Nat) (Option.none : Option Jvm.ClassFile.FieldType)).before args0 about1 = true := code_word (m := ⟨14, 0⟩) (meth := k14m0) (c := k14c0) (by decide +kernel) rfl rfl rfl (by decide +kernel)
set_option maxRecDepth 65536 in
theorem w_c15 : (Jvm.Cond.code ({ cls := "com/example/tranche/tranche/service/HeadingNumber", name := "kind", desc := "()Lcom/example/tranche/tranche/model/Heading$Kind;" } : Jvm.MethodName) prog_64_method_13_code (1 : Nat) (Option.some (Jvm.ClassFile.FieldType.object "com/example/tranche/tranche/model/Heading$Kind"))).before args0 about1 = true := code_word (m := ⟨14, 2⟩) (meth := k14m2) (c := k14c2) (by decide +kernel) rfl rfl rfl (by decide +kernel)
set_option maxRecDepth 65536 in
theorem w_c16 : (Jvm.Cond.code ({ cls := "com/example/tranche/tranche/service/HeadingNumber", name := "number", desc := "()Ljava/lang/String;" } : Jvm.MethodName) prog_64_method_14_code (1 : Nat) (Option.some (Jvm.ClassFile.FieldType.object "java/lang/String"))).before args0 about1 = true := code_word (m := ⟨14, 3⟩) (meth := k14m3) (c := k14c3) (by decide +kernel) rfl rfl rfl (by decide +kernel)
set_option maxRecDepth 65536 in
theorem w_c17 : (Jvm.Cond.code ({ cls := "java/lang/String", name := "equals", desc := "(Ljava/lang/Object;)Z" } : Jvm.MethodName) jdk_42_method_66_code (3 : Nat) (Option.some Jvm.ClassFile.FieldType.boolean)).before args0 about1 = true := code_word (m := ⟨9, 2⟩) (meth := k9m2) (c := k9c2) (by decide +kernel) rfl rfl rfl (by decide +kernel)
set_option maxRecDepth 65536 in
theorem w_c18 : (Jvm.Cond.code ({ cls := "java/lang/String", name := "valueOf", desc := "(C)Ljava/lang/String;" } : Jvm.MethodName) jdk_42_method_139_code (1 : Nat) (Option.some (Jvm.ClassFile.FieldType.object "java/lang/String"))).before args0 about1 = true := code_word (m := ⟨9, 3⟩) (meth := k9m3) (c := k9c3) (by decide +kernel) rfl rfl rfl (by decide +kernel)
set_option maxRecDepth 65536 in
theorem w_c19 : (Jvm.Cond.code ({ cls := "java/lang/StringLatin1", name := "canEncode", desc := "(C)Z" } : Jvm.MethodName) jdk_43_method_3_code (1 : Nat) (Option.some Jvm.ClassFile.FieldType.boolean)).before args0 about1 = true := code_word (m := ⟨15, 1⟩) (meth := k15m1) (c := k15c1) (by decide +kernel) rfl rfl rfl (by decide +kernel)
set_option maxRecDepth 65536 in
theorem w_c20 : (Jvm.Cond.code ({ cls := "java/lang/StringLatin1", name := "toBytes", desc := "(C)[B" } : Jvm.MethodName) jdk_43_method_46_code (1 : Nat) (Option.some (Jvm.ClassFile.FieldType.array Jvm.ClassFile.FieldType.byte))).before args0 about1 = true := code_word (m := ⟨15, 2⟩) (meth := k15m2) (c := k15c2) (by decide +kernel) rfl rfl rfl (by decide +kernel)
set_option maxRecDepth 65536 in
theorem w_c21 : (Jvm.Cond.code ({ cls := "java/lang/String", name := "<init>", desc := "([BB)V" } : Jvm.MethodName) jdk_42_method_151_code (3 : Nat) (Option.none : Option Jvm.ClassFile.FieldType)).before args0 about1 = true := code_word (m := ⟨9, 5⟩) (meth := k9m5) (c := k9c5) (by decide +kernel) rfl rfl rfl (by decide +kernel)
def codes1 : List Jvm.Cond := [Jvm.Cond.code x code maxLocals ret, Jvm.Cond.code ({ cls := "java/lang/String", name := "<init>", desc := "([C)V" } : Jvm.MethodName) jdk_42_method_3_code (2 : Nat) (Option.none : Option Jvm.ClassFile.FieldType), Jvm.Cond.code ({ cls := "java/lang/String", name := "<init>", desc := "([CIILjava/lang/Void;)V" } : Jvm.MethodName) jdk_42_method_149_code (6 : Nat) (Option.none : Option Jvm.ClassFile.FieldType), Jvm.Cond.code ({ cls := "java/lang/Object", name := "<init>", desc := "()V" } : Jvm.MethodName) object_method_1_code (1 : Nat) (Option.none : Option Jvm.ClassFile.FieldType), Jvm.Cond.code ({ cls := "java/lang/StringUTF16", name := "compress", desc := "([CII)[B" } : Jvm.MethodName) jdk_52_method_16_code (6 : Nat) (Option.some (Jvm.ClassFile.FieldType.array Jvm.ClassFile.FieldType.byte)), Jvm.Cond.code ({ cls := "java/lang/StringUTF16", name := "compress", desc := "([CI[BII)I" } : Jvm.MethodName) jdk_52_method_21_code (7 : Nat) (Option.some Jvm.ClassFile.FieldType.int), Jvm.Cond.code ({ cls := "java/lang/StringUTF16", name := "coderFromArrayLen", desc := "([BI)B" } : Jvm.MethodName) jdk_52_method_15_code (2 : Nat) (Option.some Jvm.ClassFile.FieldType.byte), Jvm.Cond.code ({ cls := "com/example/tranche/tranche/model/Stated", name := "<init>", desc := "(Ljava/lang/Object;Lcom/example/tranche/tranche/model/Span;)V" } : Jvm.MethodName) prog_35_method_1_code (3 : Nat) (Option.none : Option Jvm.ClassFile.FieldType), Jvm.Cond.code ({ cls := "java/lang/Record", name := "<init>", desc := "()V" } : Jvm.MethodName) jdk_30_method_1_code (1 : Nat) (Option.none : Option Jvm.ClassFile.FieldType), Jvm.Cond.code ({ cls := "com/example/tranche/tranche/model/Heading", name := "<init>", desc := "(Lcom/example/tranche/tranche/model/Heading$Kind;Lcom/example/tranche/tranche/model/Stated;Lcom/example/tranche/tranche/model/Stated;Lcom/example/tranche/tranche/model/Span;)V" } : Jvm.MethodName) prog_20_method_1_code (5 : Nat) (Option.none : Option Jvm.ClassFile.FieldType), Jvm.Cond.code ({ cls := "com/example/tranche/tranche/service/HeadingNumber", name := "of", desc := "(Lcom/example/tranche/tranche/model/Heading;)Lcom/example/tranche/tranche/service/HeadingNumber;" } : Jvm.MethodName) prog_64_method_2_code (1 : Nat) (Option.some (Jvm.ClassFile.FieldType.object "com/example/tranche/tranche/service/HeadingNumber")), Jvm.Cond.code ({ cls := "com/example/tranche/tranche/model/Heading", name := "kind", desc := "()Lcom/example/tranche/tranche/model/Heading$Kind;" } : Jvm.MethodName) prog_20_method_5_code (1 : Nat) (Option.some (Jvm.ClassFile.FieldType.object "com/example/tranche/tranche/model/Heading$Kind")), Jvm.Cond.code ({ cls := "com/example/tranche/tranche/model/Heading", name := "number", desc := "()Lcom/example/tranche/tranche/model/Stated;" } : Jvm.MethodName) prog_20_method_6_code (1 : Nat) (Option.some (Jvm.ClassFile.FieldType.object "com/example/tranche/tranche/model/Stated")), Jvm.Cond.code ({ cls := "com/example/tranche/tranche/model/Stated", name := "value", desc := "()Ljava/lang/Object;" } : Jvm.MethodName) prog_35_method_5_code (1 : Nat) (Option.some (Jvm.ClassFile.FieldType.object "java/lang/Object")), Jvm.Cond.code ({ cls := "com/example/tranche/tranche/service/HeadingNumber", name := "<init>", desc := "(Lcom/example/tranche/tranche/model/Heading$Kind;Ljava/lang/String;)V" } : Jvm.MethodName) prog_64_method_1_code (3 : Nat) (Option.none : Option Jvm.ClassFile.FieldType), Jvm.Cond.code ({ cls := "com/example/tranche/tranche/service/HeadingNumber", name := "kind", desc := "()Lcom/example/tranche/tranche/model/Heading$Kind;" } : Jvm.MethodName) prog_64_method_13_code (1 : Nat) (Option.some (Jvm.ClassFile.FieldType.object "com/example/tranche/tranche/model/Heading$Kind")), Jvm.Cond.code ({ cls := "com/example/tranche/tranche/service/HeadingNumber", name := "number", desc := "()Ljava/lang/String;" } : Jvm.MethodName) prog_64_method_14_code (1 : Nat) (Option.some (Jvm.ClassFile.FieldType.object "java/lang/String")), Jvm.Cond.code ({ cls := "java/lang/String", name := "equals", desc := "(Ljava/lang/Object;)Z" } : Jvm.MethodName) jdk_42_method_66_code (3 : Nat) (Option.some Jvm.ClassFile.FieldType.boolean), Jvm.Cond.code ({ cls := "java/lang/String", name := "valueOf", desc := "(C)Ljava/lang/String;" } : Jvm.MethodName) jdk_42_method_139_code (1 : Nat) (Option.some (Jvm.ClassFile.FieldType.object "java/lang/String")), Jvm.Cond.code ({ cls := "java/lang/StringLatin1", name := "canEncode", desc := "(C)Z" } : Jvm.MethodName) jdk_43_method_3_code (1 : Nat) (Option.some Jvm.ClassFile.FieldType.boolean), Jvm.Cond.code ({ cls := "java/lang/StringLatin1", name := "toBytes", desc := "(C)[B" } : Jvm.MethodName) jdk_43_method_46_code (1 : Nat) (Option.some (Jvm.ClassFile.FieldType.array Jvm.ClassFile.FieldType.byte)), Jvm.Cond.code ({ cls := "java/lang/String", name := "<init>", desc := "([BB)V" } : Jvm.MethodName) jdk_42_method_151_code (3 : Nat) (Option.none : Option Jvm.ClassFile.FieldType)]
set_option maxRecDepth 65536 in
theorem codes_eq : words1.filter isCode = codes1 := rfl
theorem w_codes : ∀ c ∈ words1.filter isCode, c.before args0 about1 = true := by
  rw [codes_eq]
  intro c hc
  simp only [codes1, List.mem_cons, List.not_mem_nil, or_false] at hc
  rcases hc with rfl | rfl | rfl | rfl | rfl | rfl | rfl | rfl | rfl | rfl | rfl | rfl | rfl | rfl | rfl | rfl | rfl | rfl | rfl | rfl | rfl | rfl
  · exact w_c0
  · exact w_c1
  · exact w_c2
  · exact w_c3
  · exact w_c4
  · exact w_c5
  · exact w_c6
  · exact w_c7
  · exact w_c8
  · exact w_c9
  · exact w_c10
  · exact w_c11
  · exact w_c12
  · exact w_c13
  · exact w_c14
  · exact w_c15
  · exact w_c16
  · exact w_c17
  · exact w_c18
  · exact w_c19
  · exact w_c20
  · exact w_c21
set_option maxRecDepth 65536 in
theorem w_t1 : (words1.take 24).all (fun c => isCode c || c.before args0 about1) = true := by decide +kernel
set_option maxRecDepth 65536 in
theorem w_t2 : ((words1.drop 24).take 24).all (fun c => isCode c || c.before args0 about1) = true := by decide +kernel
set_option maxRecDepth 65536 in
theorem w_t3 : (((words1.drop 24).drop 24).take 24).all (fun c => isCode c || c.before args0 about1) = true := by decide +kernel
set_option maxRecDepth 65536 in
theorem w_t4 : ((((words1.drop 24).drop 24).drop 24).take 24).all (fun c => isCode c || c.before args0 about1) = true := by decide +kernel
set_option maxRecDepth 65536 in
theorem w_t5 : (((((words1.drop 24).drop 24).drop 24).drop 24).take 24).all (fun c => isCode c || c.before args0 about1) = true := by decide +kernel
set_option maxRecDepth 65536 in
theorem w_t6 : (((((words1.drop 24).drop 24).drop 24).drop 24).drop 24).all (fun c => isCode c || c.before args0 about1) = true := by decide +kernel
theorem w_tables : (allAtoms (Jvm.Cond.code x code maxLocals ret :: tables_1)).before args0 about1 = true := by
  rw [allAtoms_all]
  show words1.all (fun c => c.before args0 about1) = true
  refine all_split ?_ w_codes
  rw [← List.take_append_drop 24 words1, List.all_append, w_t1, ← List.take_append_drop 24 (words1.drop 24), List.all_append, w_t2, ← List.take_append_drop 24 ((words1.drop 24).drop 24), List.all_append, w_t3, ← List.take_append_drop 24 (((words1.drop 24).drop 24).drop 24), List.all_append, w_t4, ← List.take_append_drop 24 ((((words1.drop 24).drop 24).drop 24).drop 24), List.all_append, w_t5, w_t6]
  rfl
set_option maxRecDepth 65536 in
theorem w_rest : rest_1_c.before args0 about1 = true := by decide +kernel
set_option maxRecDepth 65536 in
theorem w_case : (Jvm.Cond.and given_1 narrow_1).before args0 about1 = true := by decide +kernel
theorem w_applies : (headSpec (Jvm.Cond.code x code maxLocals ret :: tables_1) room_1).applies x e0.platform about1 = true :=
  (Spec.applies_iff w_frames).mpr ⟨w_running, w_runnable, w_alone, w_named, w_hears, w_ripe, w_room, w_tables⟩
theorem atStart : AtStart classFile x code maxLocals ret World_1 tables_1 room_1 Calls_1 rest_1 Pre_1 launch0 p0 e0 about1 theMethod args0 below0 :=
  ⟨lists_1, trivial, launch0.admits_env _ _ _, launch0.least_env, fairChoices_fair.cas, fairChoices_fair.clock, w_frames, w_args, w_heap, w_applies, trivial, w_rest, w_case⟩
end start1
theorem witness_1 : WitnessClaimed_1 := ⟨start1.p0, start1.e0, start1.about1, start1.theMethod, start1.args0, start1.below0, start1.atStart⟩
end Jvm.Pilot.@@N@@
