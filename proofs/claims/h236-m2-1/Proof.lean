import JvmDerived
import JvmDerived.Pilot.@@N@@Statement
import JvmDerived.Pilot.@@N@@Code
set_option linter.unusedVariables false
set_option linter.unusedSimpArgs false
/- laws to paste: Road.backV (cut by pick.py; bodies as the Statement names them) -/
namespace Jvm.Pilot.@@N@@
namespace StrChars
open Jvm Sem ClassFile Op Lib Jvm.Stand Jvm.Free.XT Jvm.Free.ALB Jvm.Free.JM Jvm.Free
open Jvm.Lib.Cold (StaticIs)
/-- a char array whose places are chars -/
def Ch (a : Addr) (A : Cell) (U : State) : Prop := Arr .char a A U ∧ Typed .char A
theorem Ch.mv {a : Addr} {A : Cell} {U U' : State} (h : Ch a A U) (hal : U.vm.Alike U'.vm) (hh : U'.heap = U.heap) : Ch a A U' := ⟨h.1.mv hal hh, h.2⟩
theorem Ch.keep {a : Addr} {A : Cell} {U U' : State} (h : Ch a A U) (hal : U.vm.Alike U'.vm) (hk : U'.heap[a]? = some A) : Ch a A U' := ⟨h.1.keep hal hk, h.2⟩
/-- what place i of a char[]'s cell holds -/
def cv (A : Cell) (i : Nat) : Int32 := match A.slots[i]? with | some (.int x) => x | _ => 0
theorem Ch.get {a : Addr} {A : Cell} {U : State} (h : Ch a A U) {i : Nat} (hi : i < A.slots.size) : A.slots[i]? = some (.int (cv A i)) := by
  have e := Array.getElem?_eq_getElem hi
  have f := h.2 i _ e
  unfold cv; rw [e]
  generalize A.slots[i] = v at f
  cases v <;> simp [fits] at f ⊢
/-- the byte that i2b leaves of a char -/
def lo8 (x : Int32) : Int32 := x.toInt8.toInt32
theorem fits_lo8 (y : Int32) : fits .byte (.int (lo8 y)) = true := by
  have h1 := y.toInt8.le_toInt
  have h2 := y.toInt8.toInt_lt
  simp only [lo8, fits, Bool.and_eq_true, decide_eq_true_eq, Int32.le_iff_toInt_le, Int8.toInt_toInt32, show (-128 : Int32).toInt = -128 from by decide, show (127 : Int32).toInt = 127 from by decide]
  omega
/-- A' is A but that each place j of lo .. hi - 1 holds f j -/
def Laid (A A' : Cell) (lo hi : Nat) (f : Nat → Value) : Prop := A'.cls = A.cls ∧ A'.vm = A.vm ∧ A'.slots.size = A.slots.size ∧ ∀ i, A'.slots[i]? = if lo ≤ i ∧ i < hi then some (f i) else A.slots[i]?
theorem Laid.zero (A : Cell) (lo : Nat) (f : Nat → Value) : Laid A A lo (lo + 0) f := ⟨rfl, rfl, rfl, fun i => by rw [if_neg (by omega)]⟩
theorem Laid.step {A Ak : Cell} {lo k : Nat} {f : Nat → Value} {v : Value} (h : Laid A Ak lo k f) (hlo : lo ≤ k) (hk : k < Ak.slots.size) (hv : v = f k) : Laid A (Ak.setSlot k v) lo (k + 1) f := by
  refine ⟨h.1, h.2.1, by simpa [Cell.setSlot] using h.2.2.1, fun i => ?_⟩
  by_cases e : k = i
  · subst e; rw [Cell.slots_setSlot_self v hk, if_pos (by omega), hv]
  · rw [Cell.slots_setSlot_ne v e, h.2.2.2 i]
    by_cases q : lo ≤ i ∧ i < k
    · rw [if_pos q, if_pos (by omega)]
    · rw [if_neg q, if_neg (by omega)]
def U16 : String := "java/lang/StringUTF16"
namespace Cmp5
def yN : MethodName := ⟨"java/lang/StringUTF16", "compress", "([CI[BII)I"⟩
abbrev yB : ByteArray := jdk_52_method_21_code
theorem d0 : decode yB 0 = .ok (.iconst 0, 1) := by decide +kernel
theorem d1 : decode yB 1 = .ok (.istore 5, 2) := by decide +kernel
theorem d3 : decode yB 3 = .ok (.iload 5, 2) := by decide +kernel
theorem d5 : decode yB 5 = .ok (.iload 4, 2) := by decide +kernel
theorem d7 : decode yB 7 = .ok (.if_icmp (.ge) 37, 3) := by decide +kernel
theorem d10 : decode yB 10 = .ok (.aload_n 0, 1) := by decide +kernel
theorem d11 : decode yB 11 = .ok (.iload_n 1, 1) := by decide +kernel
theorem d12 : decode yB 12 = .ok (.caload, 1) := by decide +kernel
theorem d13 : decode yB 13 = .ok (.istore 6, 2) := by decide +kernel
theorem d15 : decode yB 15 = .ok (.iload 6, 2) := by decide +kernel
theorem d17 : decode yB 17 = .ok (.sipush 255, 3) := by decide +kernel
theorem d20 : decode yB 20 = .ok (.if_icmp (.le) 6, 3) := by decide +kernel
theorem d26 : decode yB 26 = .ok (.aload_n 2, 1) := by decide +kernel
theorem d27 : decode yB 27 = .ok (.iload_n 3, 1) := by decide +kernel
theorem d28 : decode yB 28 = .ok (.iload 6, 2) := by decide +kernel
theorem d30 : decode yB 30 = .ok (.i2b, 1) := by decide +kernel
theorem d31 : decode yB 31 = .ok (.bastore, 1) := by decide +kernel
theorem d32 : decode yB 32 = .ok (.iinc 1 1, 3) := by decide +kernel
theorem d35 : decode yB 35 = .ok (.iinc 3 1, 3) := by decide +kernel
theorem d38 : decode yB 38 = .ok (.iinc 5 1, 3) := by decide +kernel
theorem d41 : decode yB 41 = .ok (.goto (-38), 3) := by decide +kernel
theorem d44 : decode yB 44 = .ok (.iload 4, 2) := by decide +kernel
theorem d46 : decode yB 46 = .ok (.ireturn, 1) := by decide +kernel
def site : List Cond := []
def tab : Cond := tabOf yN yB 7 (some .int) site
def P (b : Addr) (A : Cell) (d : Addr) (B : Cell) (o q len : Nat) (args : Array Value) (s : State) : Prop := args = #[.ref b, .int (Int32.ofNat o), .ref d, .int (Int32.ofNat q), .int (Int32.ofNat len)] ∧ Ch b A s ∧ Arr .byte d B s ∧ b ≠ d ∧ o + len ≤ A.slots.size ∧ q + len ≤ B.slots.size ∧ ∀ i, i < len → ¬ 255 < cv A (o + i)
def E (b : Addr) (A : Cell) (d : Addr) (B : Cell) (o q len : Nat) (r : Option Value) (s u : State) : Prop := r = some (.int (Int32.ofNat len)) ∧ ∃ B', Put d B' s u ∧ Laid B B' q (q + len) (fun j => Value.int (lo8 (cv A (o + (j - q)))))
/-- no char of the range above 255: len; the places written hold each char's low byte -/
theorem law (l : Launch) (b : Addr) (A : Cell) (d : Addr) (B : Cell) (o q len : Nat) : Law l yN 5 5 0 0 yB 7 (some .int) site (P b A d B o q len) (E b A d B o q len) (copyLocs d q len) 0 0 := by
  refine Law.of_walk (plainFor_of_name (by decide +kernel)) (by decide +kernel) (by decide +kernel) (by decide) (fun _ _ h => by rw [h.1]; rfl) (fun _ U U' hal hh h => ⟨h.1, h.2.1.mv hal hh, h.2.2.1.mv hal hh, h.2.2.2⟩) (fun r U U' V V' h1 hal h2 h => ⟨h.1, h.2.elim fun B' q => ⟨B', q.1.mv h1 h2, q.2⟩⟩) ?_
  intro p e s m args below meth c s₁ X0 hexec hbytes hml hret hlk hnm hown hh0 W hP
  obtain ⟨rfl, hA, hB, hne, l1, l2, hp⟩ := hP
  have c1 : Steps p.tables e below (s₁.setTop (entryFrame m #[.ref b, .int (Int32.ofNat o), .ref d, .int (Int32.ofNat q), .int (Int32.ofNat len)] 7)) (s₁.setTop (mkF m 0 #[.val (.ref b), .val (.int (Int32.ofNat o)), .val (.ref d), .val (.int (Int32.ofNat q)), .val (.int (Int32.ofNat len)), .unset, .unset] [])) := entry rfl
  have hA0 := hA.1.mv X0.warmed.alike hh0
  have hB0 := hB.mv X0.warmed.alike hh0
  have a31 := hA.1.2.2.2
  have c2 : Steps p.tables e below (s₁.setTop (entryFrame m #[.ref b, .int (Int32.ofNat o), .ref d, .int (Int32.ofNat q), .int (Int32.ofNat len)] 7)) (s₁.setTop (mkF m 3 #[.val (.ref b), .val (.int (Int32.ofNat o)), .val (.ref d), .val (.int (Int32.ofNat q)), .val (.int (Int32.ofNat len)), .val (.int 0), .unset] [])) := c1.trans (by
    refine iconstV X0.here hexec rfl 0 (hb hbytes d0) (by decide) ?_
    refine XS.istore X0.here hexec rfl (hb hbytes d1) rfl rfl ?_
    exact Steps.refl _)
  have loop : ∀ (r i : Nat), i + r = len → ∀ (z : Slot), (z = .unset ∨ ∃ w, z = .val w ∧ w.category = 1) → ∀ (Tl : State) (Bk : Cell), Stand p l e { frames := 0, locals := 0, cells := 0, slots := 0 } s m #[.ref b, .int (Int32.ofNat o), .ref d, .int (Int32.ofNat q), .int (Int32.ofNat len)] below meth c Tl ([] ++ copyLocs d q i) 0 0 → Put d Bk s₁ Tl → Laid B Bk q (q + i) (fun j => Value.int (lo8 (cv A (o + (j - q))))) →
      Steps p.tables e below (s₁.setTop (entryFrame m #[.ref b, .int (Int32.ofNat o), .ref d, .int (Int32.ofNat q), .int (Int32.ofNat len)] 7)) (Tl.setTop (mkF m 3 #[.val (.ref b), .val (.int (Int32.ofNat (o + i))), .val (.ref d), .val (.int (Int32.ofNat (q + i))), .val (.int (Int32.ofNat len)), .val (.int (Int32.ofNat i)), z] [])) → ∃ (T' : State) (B' : Cell) (z' : Slot), Stand p l e { frames := 0, locals := 0, cells := 0, slots := 0 } s m #[.ref b, .int (Int32.ofNat o), .ref d, .int (Int32.ofNat q), .int (Int32.ofNat len)] below meth c T' ([] ++ copyLocs d q len) 0 0 ∧ Put d B' s₁ T' ∧ Laid B B' q (q + len) (fun j => Value.int (lo8 (cv A (o + (j - q))))) ∧
      Steps p.tables e below (s₁.setTop (entryFrame m #[.ref b, .int (Int32.ofNat o), .ref d, .int (Int32.ofNat q), .int (Int32.ofNat len)] 7)) (T'.setTop (mkF m 3 #[.val (.ref b), .val (.int (Int32.ofNat (o + len))), .val (.ref d), .val (.int (Int32.ofNat (q + len))), .val (.int (Int32.ofNat len)), .val (.int (Int32.ofNat len)), z'] [])) := by
    intro r
    induction r with
    | zero =>
      intro i hi z hz Tl Bk Xl pl fl cl
      have hil : i = len := by omega
      rw [hil] at Xl fl cl
      exact ⟨Tl, Bk, z, Xl, pl, fl, cl⟩
    | succ r ih =>
      intro i hi z hz Tl Bk Xl pl fl cl
      have all := X0.warmed.alike.symm.trans Xl.warmed.alike
      have hAl := hA0.keep all (pl.other hne hA0.1)
      have hBk := hB0.like all pl.1 fl.1 fl.2.1 fl.2.2.1
      have hlt : q + i < Bk.slots.size := by rw [fl.2.2.1]; omega
      have c3 : Steps p.tables e below (s₁.setTop (entryFrame m #[.ref b, .int (Int32.ofNat o), .ref d, .int (Int32.ofNat q), .int (Int32.ofNat len)] 7)) (Tl.setTop (mkF m 12 #[.val (.ref b), .val (.int (Int32.ofNat (o + i))), .val (.ref d), .val (.int (Int32.ofNat (q + i))), .val (.int (Int32.ofNat len)), .val (.int (Int32.ofNat i)), z] [.int (Int32.ofNat (o + i)), .ref b])) := cl.trans (by
        refine XS.iload Xl.here hexec rfl (hb hbytes d3) rfl ?_
        refine XS.iload Xl.here hexec rfl (hb hbytes d5) rfl ?_
        refine XS.icmpNo Xl.here hexec rfl (hb hbytes d7) rfl (ii_ge_f (lt32 (by omega) (by omega))) ?_
        refine XS.aloadN Xl.here hexec rfl (hb hbytes d10) rfl rfl ?_
        refine XS.iloadN Xl.here hexec rfl (hb hbytes d11) rfl ?_
        exact Steps.refl _)
      have c4 : Steps p.tables e below (s₁.setTop (entryFrame m #[.ref b, .int (Int32.ofNat o), .ref d, .int (Int32.ofNat q), .int (Int32.ofNat len)] 7)) (Tl.setTop (mkF m 13 #[.val (.ref b), .val (.int (Int32.ofNat (o + i))), .val (.ref d), .val (.int (Int32.ofNat (q + i))), .val (.int (Int32.ofNat len)), .val (.int (Int32.ofNat i)), z] [.int (cv A (o + i))])) := c3.trans (by
        refine Xl.aget hexec hAl rfl (hA.get (i := o + i) (by omega)) rfl rfl (hb hbytes d12) ?_
        exact Steps.refl _)
      have c5 : Steps p.tables e below (s₁.setTop (entryFrame m #[.ref b, .int (Int32.ofNat o), .ref d, .int (Int32.ofNat q), .int (Int32.ofNat len)] 7)) (Tl.setTop (mkF m 15 #[.val (.ref b), .val (.int (Int32.ofNat (o + i))), .val (.ref d), .val (.int (Int32.ofNat (q + i))), .val (.int (Int32.ofNat len)), .val (.int (Int32.ofNat i)), .val (.int (cv A (o + i)))] [])) := c4.trans (by
        refine XS.istoreS Xl.here hexec rfl (hb hbytes d13) rfl rfl hz ?_
        exact Steps.refl _)
      have c6 : Steps p.tables e below (s₁.setTop (entryFrame m #[.ref b, .int (Int32.ofNat o), .ref d, .int (Int32.ofNat q), .int (Int32.ofNat len)] 7)) (Tl.setTop (mkF m 31 #[.val (.ref b), .val (.int (Int32.ofNat (o + i))), .val (.ref d), .val (.int (Int32.ofNat (q + i))), .val (.int (Int32.ofNat len)), .val (.int (Int32.ofNat i)), .val (.int (cv A (o + i)))] [.int (lo8 (cv A (o + i))), .int (Int32.ofNat (q + i)), .ref d])) := c5.trans (by
        refine XS.iload Xl.here hexec rfl (hb hbytes d15) rfl ?_
        refine sipushV Xl.here hexec rfl 255 (hb hbytes d17) (by decide) ?_
        refine XS.icmpYes Xl.here hexec rfl (pc0 := 20) rfl (hb hbytes d20) rfl (ii_le_t (hp i (by omega))) (by decide) rfl ?_
        refine XS.aloadN Xl.here hexec rfl (hb hbytes d26) rfl rfl ?_
        refine XS.iloadN Xl.here hexec rfl (hb hbytes d27) rfl ?_
        refine XS.iload Xl.here hexec rfl (hb hbytes d28) rfl ?_
        refine i2b Xl.here hexec rfl (hb hbytes d30) rfl ?_
        exact Steps.refl _)
      obtain ⟨T7, X7, p7, st7⟩ := Xl.aput hexec hBk rfl hlt rfl (fits_lo8 (cv A (o + i))) (g := (mkF m 31 #[.val (.ref b), .val (.int (Int32.ofNat (o + i))), .val (.ref d), .val (.int (Int32.ofNat (q + i))), .val (.int (Int32.ofNat len)), .val (.int (Int32.ofNat i)), .val (.int (cv A (o + i)))] [.int (lo8 (cv A (o + i))), .int (Int32.ofNat (q + i)), .ref d])) rfl (rest := []) rfl (hb hbytes d31)
      have c8 : Steps p.tables e below (s₁.setTop (entryFrame m #[.ref b, .int (Int32.ofNat o), .ref d, .int (Int32.ofNat q), .int (Int32.ofNat len)] 7)) (T7.setTop (mkF m 32 #[.val (.ref b), .val (.int (Int32.ofNat (o + i))), .val (.ref d), .val (.int (Int32.ofNat (q + i))), .val (.int (Int32.ofNat len)), .val (.int (Int32.ofNat i)), .val (.int (cv A (o + i)))] [])) := c6.trans (st7 _ (Steps.refl _))
      have c9 : Steps p.tables e below (s₁.setTop (entryFrame m #[.ref b, .int (Int32.ofNat o), .ref d, .int (Int32.ofNat q), .int (Int32.ofNat len)] 7)) (T7.setTop (mkF m 3 #[.val (.ref b), .val (.int (Int32.ofNat (o + i) + 1)), .val (.ref d), .val (.int (Int32.ofNat (q + i) + 1)), .val (.int (Int32.ofNat len)), .val (.int (Int32.ofNat i + 1)), .val (.int (cv A (o + i)))] [])) := c8.trans (by
        refine iincV X7.here hexec rfl 1 (hb hbytes d32) (by decide) rfl rfl ?_
        refine iincV X7.here hexec rfl 1 (hb hbytes d35) (by decide) rfl rfl ?_
        refine iincV X7.here hexec rfl 1 (hb hbytes d38) (by decide) rfl rfl ?_
        refine XS.goto X7.here hexec rfl (pc0 := 41) rfl (hb hbytes d41) (by decide) rfl ?_
        exact Steps.refl _)
      have c10 : Steps p.tables e below (s₁.setTop (entryFrame m #[.ref b, .int (Int32.ofNat o), .ref d, .int (Int32.ofNat q), .int (Int32.ofNat len)] 7)) (T7.setTop (mkF m 3 #[.val (.ref b), .val (.int (Int32.ofNat (o + (i + 1)))), .val (.ref d), .val (.int (Int32.ofNat (q + (i + 1)))), .val (.int (Int32.ofNat len)), .val (.int (Int32.ofNat (i + 1))), .val (.int (cv A (o + i)))] [])) := by
        have := c9
        rw [succ32, succ32, succ32] at this
        exact this
      exact ih (i + 1) (by omega) _ (Or.inr ⟨_, rfl, rfl⟩) T7 _ (by rw [copyLocs_step, ← List.append_assoc]; exact X7) (pl.trans p7) (fl.step (by omega) hlt (by simp)) c10
  obtain ⟨T9, B9, z9, X9, p9, f9, g9⟩ := loop len 0 (by omega) .unset (Or.inl rfl) s₁ B (by simpa [copyLocs] using X0) ⟨hB0.1, fun _ _ => rfl, rfl⟩ (Laid.zero _ _ _) c2
  have c11 : Steps p.tables e below (s₁.setTop (entryFrame m #[.ref b, .int (Int32.ofNat o), .ref d, .int (Int32.ofNat q), .int (Int32.ofNat len)] 7)) (T9.setTop (mkF m 46 #[.val (.ref b), .val (.int (Int32.ofNat (o + len))), .val (.ref d), .val (.int (Int32.ofNat (q + len))), .val (.int (Int32.ofNat len)), .val (.int (Int32.ofNat len)), z9] [.int (Int32.ofNat len)])) := g9.trans (by
    refine XS.iload X9.here hexec rfl (hb hbytes d3) rfl ?_
    refine XS.iload X9.here hexec rfl (hb hbytes d5) rfl ?_
    refine XS.icmpYes X9.here hexec rfl (pc0 := 7) rfl (hb hbytes d7) rfl (ii_ge_t (nlt32 (by omega) (Nat.le_refl _))) (by decide) rfl ?_
    refine XS.iload X9.here hexec rfl (hb hbytes d44) rfl ?_
    exact Steps.refl _)
  exact ⟨T9, some (.int (Int32.ofNat len)), _, _, _, X9, by simp, rfl, rfl, (fun h => by cases h), ⟨rfl, B9, p9.from hh0, f9⟩, fun fs hl => c11.trans (X9.ireturnOut hexec hret rfl (Or.inl rfl) (hb hbytes d46) hl)⟩
end Cmp5
namespace Cmp3
def yN : MethodName := ⟨"java/lang/StringUTF16", "compress", "([CII)[B"⟩
abbrev yB : ByteArray := jdk_52_method_16_code
theorem d0 : decode yB 0 = .ok (.iload_n 2, 1) := by decide +kernel
theorem d1 : decode yB 1 = .ok (.newarray .byte, 2) := by decide +kernel
theorem d3 : decode yB 3 = .ok (.astore_n 3, 1) := by decide +kernel
theorem d4 : decode yB 4 = .ok (.aload_n 0, 1) := by decide +kernel
theorem d5 : decode yB 5 = .ok (.iload_n 1, 1) := by decide +kernel
theorem d6 : decode yB 6 = .ok (.aload_n 3, 1) := by decide +kernel
theorem d7 : decode yB 7 = .ok (.iconst 0, 1) := by decide +kernel
theorem d8 : decode yB 8 = .ok (.iload_n 2, 1) := by decide +kernel
theorem d9 : decode yB 9 = .ok (.invokestatic 115, 3) := by decide +kernel
theorem d12 : decode yB 12 = .ok (.istore 4, 2) := by decide +kernel
theorem d14 : decode yB 14 = .ok (.iload 4, 2) := by decide +kernel
theorem d16 : decode yB 16 = .ok (.iload_n 2, 1) := by decide +kernel
theorem d17 : decode yB 17 = .ok (.if_icmp (.eq) 40, 3) := by decide +kernel
theorem d57 : decode yB 57 = .ok (.aload_n 3, 1) := by decide +kernel
theorem d58 : decode yB 58 = .ok (.areturn, 1) := by decide +kernel
def site : List Cond := [.arrayClass .byte, Cmp5.tab] ++ staticW U16 115 Cmp5.yN
def tab : Cond := tabOf yN yB 6 (some (.array .byte)) site
def P (b : Addr) (A : Cell) (o len : Nat) (args : Array Value) (s : State) : Prop := args = #[.ref b, .int (Int32.ofNat o), .int (Int32.ofNat len)] ∧ Ch b A s ∧ o + len ≤ A.slots.size ∧ len ≤ 536870912 ∧ ∀ i, i < len → ¬ 255 < cv A (o + i)
def E (b : Addr) (A : Cell) (o len : Nat) (r : Option Value) (s u : State) : Prop := NewArr .byte "[B" len (fun j => .int (lo8 (cv A (o + j)))) r s u ∧ u.heap.size = s.heap.size + 1
/-- no char of the range above 255: a new byte[] of their low bytes -/
theorem law (l : Launch) (b : Addr) (A : Cell) (o len : Nat) : Law l yN 3 3 1 18 yB 6 (some (.array .byte)) site (P b A o len) (E b A o len) [] 1 len := by
  refine Law.of_walk (plainFor_of_name (by decide +kernel)) (by decide +kernel) (by decide +kernel) (by decide) (fun _ _ h => by rw [h.1]; rfl) (fun _ U U' hal hh h => ⟨h.1, h.2.1.mv hal hh, h.2.2⟩) (fun r U U' V V' h1 hal h2 h => ⟨NewArr.mv r U U' V V' h1 hal h2 h.1, by rw [h1, h2]; exact h.2⟩) ?_
  intro p e s m args below meth c s₁ X0 hexec hbytes hml hret hlk hnm hown hh0 W hP
  obtain ⟨rfl, hA, l1, l2, hp⟩ := hP
  have a31 := hA.1.2.2.2
  have c1 : Steps p.tables e below (s₁.setTop (entryFrame m #[.ref b, .int (Int32.ofNat o), .int (Int32.ofNat len)] 6)) (s₁.setTop (mkF m 0 #[.val (.ref b), .val (.int (Int32.ofNat o)), .val (.int (Int32.ofNat len)), .unset, .unset, .unset] [])) := entry rfl
  have c2 : Steps p.tables e below (s₁.setTop (entryFrame m #[.ref b, .int (Int32.ofNat o), .int (Int32.ofNat len)] 6)) (s₁.setTop (mkF m 1 #[.val (.ref b), .val (.int (Int32.ofNat o)), .val (.int (Int32.ofNat len)), .unset, .unset, .unset] [.int (Int32.ofNat len)])) := c1.trans (by
    refine XS.iloadN X0.here hexec rfl (hb hbytes d0) rfl ?_
    exact Steps.refl _)
  obtain ⟨T3, B3, X3, ba3, bs3, bv3, bh3, bf3, st3⟩ := X0.anew hexec (atype := .byte) (wk W (.arrayClass .byte)) rfl (by show len * 1 ≤ _; omega) (by omega) (g := (mkF m 1 #[.val (.ref b), .val (.int (Int32.ofNat o)), .val (.int (Int32.ofNat len)), .unset, .unset, .unset] [.int (Int32.ofNat len)])) rfl (hb hbytes d1) (rest := []) rfl (Nat.le_refl _) (by show 0 + len ≤ len; omega)
  rw [hh0] at ba3 st3
  have kp3 : XT.Kept s T3 := (XT.Kept.of_eq hh0).push bh3
  have hA3 := hA.keep X3.warmed.alike (kp3 _ _ hA.1.1)
  have hne : b ≠ s.heap.size := hA.1.ne
  have c4 : Steps p.tables e below (s₁.setTop (entryFrame m #[.ref b, .int (Int32.ofNat o), .int (Int32.ofNat len)] 6)) (T3.setTop (mkF m 3 #[.val (.ref b), .val (.int (Int32.ofNat o)), .val (.int (Int32.ofNat len)), .unset, .unset, .unset] [.ref s.heap.size])) := c2.trans (st3 _ (Steps.refl _))
  have c5 : Steps p.tables e below (s₁.setTop (entryFrame m #[.ref b, .int (Int32.ofNat o), .int (Int32.ofNat len)] 6)) (T3.setTop (mkF m 9 #[.val (.ref b), .val (.int (Int32.ofNat o)), .val (.int (Int32.ofNat len)), .val (.ref s.heap.size), .unset, .unset] [.int (Int32.ofNat len), .int 0, .ref s.heap.size, .int (Int32.ofNat o), .ref b])) := c4.trans (by
    refine XS.astoreN X3.here hexec rfl (hb hbytes d3) rfl rfl rfl ?_
    refine XS.aloadN X3.here hexec rfl (hb hbytes d4) rfl rfl ?_
    refine XS.iloadN X3.here hexec rfl (hb hbytes d5) rfl ?_
    refine XS.aloadN X3.here hexec rfl (hb hbytes d6) rfl rfl ?_
    refine iconstV X3.here hexec rfl 0 (hb hbytes d7) (by decide) ?_
    refine XS.iloadN X3.here hexec rfl (hb hbytes d8) rfl ?_
    exact Steps.refl _)
  obtain ⟨v6, T6, X6, E6, g6⟩ := X3.callS hexec (Cmp5.law l b A s.heap.size B3 o 0 len) hown (wks W (staticW U16 115 Cmp5.yN)) (wk W Cmp5.tab) (W := 0) (Nat.le_of_ble_eq_true rfl) (Nat.le_of_ble_eq_true rfl) (Nat.le_refl _) (by show 0 + len + 0 ≤ len; omega) (g := (mkF m 9 #[.val (.ref b), .val (.int (Int32.ofNat o)), .val (.int (Int32.ofNat len)), .val (.ref s.heap.size), .unset, .unset] [.int (Int32.ofNat len), .int (Int32.ofNat 0), .ref s.heap.size, .int (Int32.ofNat o), .ref b])) rfl (by rw [hml]; rfl) c5 (argsL := [.ref b, .int (Int32.ofNat o), .ref s.heap.size, .int (Int32.ofNat 0), .int (Int32.ofNat len)]) (rest := []) rfl rfl (by show 2 * 0 + 0 ≤ _; decide) (hb hbytes d9) (⟨rfl, hA3, ba3, hne, l1, by rw [bs3]; simp, hp⟩)
  obtain ⟨rfl, B6, p6, f6⟩ := E6
  have c7 : Steps p.tables e below (s₁.setTop (entryFrame m #[.ref b, .int (Int32.ofNat o), .int (Int32.ofNat len)] 6)) (T6.setTop (mkF m 12 #[.val (.ref b), .val (.int (Int32.ofNat o)), .val (.int (Int32.ofNat len)), .val (.ref s.heap.size), .unset, .unset] [.int (Int32.ofNat len)])) := g6
  have c8 : Steps p.tables e below (s₁.setTop (entryFrame m #[.ref b, .int (Int32.ofNat o), .int (Int32.ofNat len)] 6)) (T6.setTop (mkF m 58 #[.val (.ref b), .val (.int (Int32.ofNat o)), .val (.int (Int32.ofNat len)), .val (.ref s.heap.size), .val (.int (Int32.ofNat len)), .unset] [.ref s.heap.size])) := c7.trans (by
    refine XS.istore X6.here hexec rfl (hb hbytes d12) rfl rfl ?_
    refine XS.iload X6.here hexec rfl (hb hbytes d14) rfl ?_
    refine XS.iloadN X6.here hexec rfl (hb hbytes d16) rfl ?_
    refine XS.icmpYes X6.here hexec rfl (pc0 := 17) rfl (hb hbytes d17) rfl (ii_eq_t rfl) (by decide) rfl ?_
    refine XS.aloadN X6.here hexec rfl (hb hbytes d57) rfl rfl ?_
    exact Steps.refl _)
  have X8 := X6.wide (L' := []) (cells' := 1) (slots' := len) (fun x hx hlt => by
    simp only [List.nil_append, copyLocs, List.mem_map, List.mem_range] at hx
    obtain ⟨i, -, rfl⟩ := hx
    exact absurd hlt (Nat.lt_irrefl _)) (Nat.le_refl _) (by omega)
  exact ⟨T6, some (.ref s.heap.size), _, _, _, X8, rfl, rfl, rfl, (fun h => by cases h), ⟨⟨rfl, B6, ba3.like (X3.warmed.alike.symm.trans X6.warmed.alike) p6.1 f6.1 f6.2.1 f6.2.2.1, f6.2.1.trans bv3, by rw [X6.warmed.alike.findClass, f6.1]; exact bf3, by rw [f6.2.2.1, bs3]; simp, fun j hj => by rw [f6.2.2.2 j, if_pos (by omega)]; rfl, kp3.put p6 (Nat.le_refl _)⟩, by rw [p6.2.2, bh3, hh0]; simp⟩, fun fs hl => c8.trans (X8.areturnOut hexec rfl hret rfl (hb hbytes d58) hl)⟩
end Cmp3
namespace CodL
def yN : MethodName := ⟨"java/lang/StringUTF16", "coderFromArrayLen", "([BI)B"⟩
abbrev yB : ByteArray := jdk_52_method_15_code
theorem d0 : decode yB 0 = .ok (.iload_n 1, 1) := by decide +kernel
theorem d1 : decode yB 1 = .ok (.aload_n 0, 1) := by decide +kernel
theorem d2 : decode yB 2 = .ok (.arraylength, 1) := by decide +kernel
theorem d3 : decode yB 3 = .ok (.isub, 1) := by decide +kernel
theorem d4 : decode yB 4 = .ok (.bipush 31, 2) := by decide +kernel
theorem d6 : decode yB 6 = .ok (.iushr, 1) := by decide +kernel
theorem d7 : decode yB 7 = .ok (.i2b, 1) := by decide +kernel
theorem d8 : decode yB 8 = .ok (.ireturn, 1) := by decide +kernel
def site : List Cond := []
def tab : Cond := tabOf yN yB 2 (some .byte) site
def P (d : Addr) (B : Cell) (args : Array Value) (s : State) : Prop := args = #[.ref d, .int (Int32.ofNat B.slots.size)] ∧ Arr .byte d B s
def E (r : Option Value) (s u : State) : Prop := XT.PureE (some (.int 0)) r s u
/-- an array as long as the number of chars: LATIN1 -/
theorem law (l : Launch) (d : Addr) (B : Cell) : Law l yN 2 2 0 0 yB 2 (some .byte) site (P d B) E [] 0 0 := by
  refine Law.of_walk (plainFor_of_name (by decide +kernel)) (by decide +kernel) (by decide +kernel) (by decide) (fun _ _ h => by rw [h.1]; rfl) (fun _ U U' hal hh h => ⟨h.1, h.2.mv hal hh⟩) (fun r U U' V V' h1 hal h2 h => XT.PureE.mv r U U' V V' h1 hal h2 h) ?_
  intro p e s m args below meth c s₁ X0 hexec hbytes hml hret hlk hnm hown hh0 W hP
  obtain ⟨rfl, hB⟩ := hP
  have hB0 := hB.mv X0.warmed.alike hh0
  have c1 : Steps p.tables e below (s₁.setTop (entryFrame m #[.ref d, .int (Int32.ofNat B.slots.size)] 2)) (s₁.setTop (mkF m 0 #[.val (.ref d), .val (.int (Int32.ofNat B.slots.size))] [])) := entry rfl
  have c2 : Steps p.tables e below (s₁.setTop (entryFrame m #[.ref d, .int (Int32.ofNat B.slots.size)] 2)) (s₁.setTop (mkF m 2 #[.val (.ref d), .val (.int (Int32.ofNat B.slots.size))] [.ref d, .int (Int32.ofNat B.slots.size)])) := c1.trans (by
    refine XS.iloadN X0.here hexec rfl (hb hbytes d0) rfl ?_
    refine XS.aloadN X0.here hexec rfl (hb hbytes d1) rfl rfl ?_
    exact Steps.refl _)
  have c3 : Steps p.tables e below (s₁.setTop (entryFrame m #[.ref d, .int (Int32.ofNat B.slots.size)] 2)) (s₁.setTop (mkF m 8 #[.val (.ref d), .val (.int (Int32.ofNat B.slots.size))] [.int (lo8 (ushr (Int32.ofNat B.slots.size - Int32.ofNat B.slots.size) 31))])) := c2.trans (by
    refine X0.alen hexec hB0 rfl rfl (hb hbytes d2) ?_
    refine XS.isub X0.here hexec rfl (hb hbytes d3) rfl ?_
    refine bipushV X0.here hexec rfl 31 (hb hbytes d4) (by decide) ?_
    refine iushr X0.here hexec rfl (hb hbytes d6) rfl ?_
    refine i2b X0.here hexec rfl (hb hbytes d7) rfl ?_
    exact Steps.refl _)
  have e0 : lo8 (ushr (Int32.ofNat B.slots.size - Int32.ofNat B.slots.size) 31) = 0 := by rw [Int32.sub_self]; decide
  rw [e0] at c3
  exact ⟨s₁, some (.int 0), _, _, _, X0, rfl, rfl, rfl, (fun h => by cases h), ⟨rfl, hh0⟩, fun fs hl => c3.trans (X0.ireturnOut hexec hret rfl (Or.inr (Or.inr (Or.inl rfl))) (hb hbytes d8) hl)⟩
end CodL
/-- the String at a is Latin-1 over a new byte[] (the heap's one new cell): the low bytes of the len chars of A from o on; every cell but a is kept -/
def Got (a : Addr) (D : Cell) (fV fC : Field) (A : Cell) (o len : Nat) (r : Option Value) (s u : State) : Prop := r = none ∧ ∃ D' V : Cell, Blank "java/lang/String" a D' u ∧ Same D D' [fV.slot, fC.slot] ∧ D'.slots[fV.slot]? = some (.ref s.heap.size) ∧ D'.slots[fC.slot]? = some (.int 0) ∧ Arr .byte s.heap.size V u ∧ V.vm = .none ∧ u.vm.findClass "[B" = some V.cls ∧ V.slots.size = len ∧ (∀ j, j < len → V.slots[j]? = some (.int (lo8 (cv A (o + j))))) ∧ (∀ (y : Addr) (c : Cell), y ≠ a → s.heap[y]? = some c → u.heap[y]? = some c) ∧ u.heap.size = s.heap.size + 1
theorem Got.mv {a : Addr} {D A : Cell} {fV fC : Field} {o len : Nat} : ∀ r (U U' V V' : State), U'.heap = U.heap → V.vm.Alike V'.vm → V'.heap = V.heap → Got a D fV fC A o len r U V → Got a D fV fC A o len r U' V' :=
  fun r U U' V V' h1 hal h2 ⟨e0, D', X, a1, a2, a3, a4, a5, a6, a7, a8, a9, a10, a11⟩ => ⟨e0, D', X, a1.mv hal h2, a2, by rw [h1]; exact a3, a4, by rw [h1]; exact a5.mv hal h2, a6, by rw [hal.findClass]; exact a7, a8, a9, by rw [h1, h2]; exact a10, by rw [h1, h2]; exact a11⟩
namespace New4
def yN : MethodName := ⟨"java/lang/String", "<init>", "([CIILjava/lang/Void;)V"⟩
abbrev yB : ByteArray := jdk_42_method_149_code
theorem d0 : decode yB 0 = .ok (.aload_n 0, 1) := by decide +kernel
theorem d1 : decode yB 1 = .ok (.invokespecial 1, 3) := by decide +kernel
theorem d4 : decode yB 4 = .ok (.iload_n 3, 1) := by decide +kernel
theorem d5 : decode yB 5 = .ok (.ifCond (.ne) 22, 3) := by decide +kernel
theorem d27 : decode yB 27 = .ok (.getstatic 38, 3) := by decide +kernel
theorem d30 : decode yB 30 = .ok (.ifCond (.eq) 28, 3) := by decide +kernel
theorem d33 : decode yB 33 = .ok (.aload_n 1, 1) := by decide +kernel
theorem d34 : decode yB 34 = .ok (.iload_n 2, 1) := by decide +kernel
theorem d35 : decode yB 35 = .ok (.iload_n 3, 1) := by decide +kernel
theorem d36 : decode yB 36 = .ok (.invokestatic 177, 3) := by decide +kernel
theorem d39 : decode yB 39 = .ok (.astore 5, 2) := by decide +kernel
theorem d41 : decode yB 41 = .ok (.aload_n 0, 1) := by decide +kernel
theorem d42 : decode yB 42 = .ok (.aload 5, 2) := by decide +kernel
theorem d44 : decode yB 44 = .ok (.iload_n 3, 1) := by decide +kernel
theorem d45 : decode yB 45 = .ok (.invokestatic 47, 3) := by decide +kernel
theorem d48 : decode yB 48 = .ok (.putfield 15, 3) := by decide +kernel
theorem d51 : decode yB 51 = .ok (.aload_n 0, 1) := by decide +kernel
theorem d52 : decode yB 52 = .ok (.aload 5, 2) := by decide +kernel
theorem d54 : decode yB 54 = .ok (.putfield 9, 3) := by decide +kernel
theorem d57 : decode yB 57 = .ok (.return_, 1) := by decide +kernel
def site : List Cond := [.fieldLink "java/lang/String" 38 "java/lang/String" "COMPACT_STRINGS" "Z", Cmp3.tab, CodL.tab, .laysFinal "java/lang/String" "java/lang/String" "value" "[B", .fieldLink "java/lang/String" 9 "java/lang/String" "value" "[B", .laysFinal "java/lang/String" "java/lang/String" "coder" "B", .fieldLink "java/lang/String" 15 "java/lang/String" "coder" "B"] ++ objW "java/lang/String" 1 ++ staticW "java/lang/String" 177 Cmp3.yN ++ staticW "java/lang/String" 47 CodL.yN
def tab : Cond := tabOf yN yB 6 none site
def P (a : Addr) (D : Cell) (fV fC : Field) (b : Addr) (A : Cell) (z : Int32) (o len : Nat) (args : Array Value) (s : State) : Prop := args = #[.ref a, .ref b, .int (Int32.ofNat o), .int (Int32.ofNat len), .null] ∧ Blank "java/lang/String" a D s ∧ Found "java/lang/String" "value" "[B" fV s ∧ Found "java/lang/String" "coder" "B" fC s ∧ Ch b A s ∧ StaticIs s "java/lang/String" "COMPACT_STRINGS" "Z" (.int z) ∧ ¬ z = 0 ∧ 0 < len ∧ o + len ≤ A.slots.size ∧ len ≤ 536870912 ∧ ∀ i, i < len → ¬ 255 < cv A (o + i)
def E (a : Addr) (D : Cell) (fV fC : Field) (A : Cell) (o len : Nat) (r : Option Value) (s u : State) : Prop := Got a D fV fC A o len r s u
/-- len > 0, no char of the range above 255: a Latin-1 String of their low bytes -/
theorem law (l : Launch) (a : Addr) (D : Cell) (fV fC : Field) (b : Addr) (A : Cell) (z : Int32) (o len : Nat) : Law l yN 5 4 2 35 yB 6 none site (P a D fV fC b A z o len) (E a D fV fC A o len) [⟨a, fC.slot⟩, ⟨a, fV.slot⟩] 1 len := by
  refine Law.of_walk (plainFor_of_name (by decide +kernel)) (by decide +kernel) (by decide +kernel) (by decide) (fun _ _ h => by rw [h.1]; rfl) (fun _ U U' hal hh h => ⟨h.1, h.2.1.mv hal hh, h.2.2.1.al hal, h.2.2.2.1.al hal, h.2.2.2.2.1.mv hal hh, h.2.2.2.2.2.1.there hal hh, h.2.2.2.2.2.2⟩) (fun r U U' V V' h1 hal h2 h => Got.mv r U U' V V' h1 hal h2 h) ?_
  intro p e s m args below meth c s₁ X0 hexec hbytes hml hret hlk hnm hown hh0 W hP
  obtain ⟨rfl, hB, f1, f2, hA, s1, hz, l0, l1, l2, hp⟩ := hP
  have a31 := hA.1.2.2.2
  have c1 : Steps p.tables e below (s₁.setTop (entryFrame m #[.ref a, .ref b, .int (Int32.ofNat o), .int (Int32.ofNat len), .null] 6)) (s₁.setTop (mkF m 0 #[.val (.ref a), .val (.ref b), .val (.int (Int32.ofNat o)), .val (.int (Int32.ofNat len)), .val .null, .unset] [])) := entry rfl
  have c2 : Steps p.tables e below (s₁.setTop (entryFrame m #[.ref a, .ref b, .int (Int32.ofNat o), .int (Int32.ofNat len), .null] 6)) (s₁.setTop (mkF m 1 #[.val (.ref a), .val (.ref b), .val (.int (Int32.ofNat o)), .val (.int (Int32.ofNat len)), .val .null, .unset] [.ref a])) := c1.trans (by
    refine XS.aloadN X0.here hexec rfl (hb hbytes d0) rfl rfl ?_
    exact Steps.refl _)
  obtain ⟨T3, X3, q3, st3⟩ := X0.oinit hexec hown (wks W (objW "java/lang/String" 1)) (g := (mkF m 1 #[.val (.ref a), .val (.ref b), .val (.int (Int32.ofNat o)), .val (.int (Int32.ofNat len)), .val .null, .unset] [.ref a])) rfl (by rw [hml]; rfl) (rest := []) rfl (hb hbytes d1) (W := 0) (by show 2 * 0 + 0 ≤ _; decide) (Nat.le_of_ble_eq_true rfl) (Nat.le_of_ble_eq_true rfl)
  have hh3 := q3.trans hh0
  have c4 : Steps p.tables e below (s₁.setTop (entryFrame m #[.ref a, .ref b, .int (Int32.ofNat o), .int (Int32.ofNat len), .null] 6)) (T3.setTop (mkF m 27 #[.val (.ref a), .val (.ref b), .val (.int (Int32.ofNat o)), .val (.int (Int32.ofNat len)), .val .null, .unset] [])) := (c2.trans (st3 _ (Steps.refl _))).trans (by
    refine XS.iloadN X3.here hexec rfl (hb hbytes d4) rfl ?_
    refine XS.ifYes X3.here hexec rfl (pc0 := 5) rfl (hb hbytes d5) rfl (i0_ne_t (nz32 (by omega) l0)) (by decide) rfl ?_
    exact Steps.refl _)
  obtain ⟨T5, X5, q5, st5⟩ := X3.sget hexec hown (wk W (.fieldLink "java/lang/String" 38 "java/lang/String" "COMPACT_STRINGS" "Z")) s1 (fun _ _ h => by rw [hh3]; exact h) (g := (mkF m 27 #[.val (.ref a), .val (.ref b), .val (.int (Int32.ofNat o)), .val (.int (Int32.ofNat len)), .val .null, .unset] [])) rfl (hb hbytes d27)
  have hh5 := q5.trans hh3
  have c6 : Steps p.tables e below (s₁.setTop (entryFrame m #[.ref a, .ref b, .int (Int32.ofNat o), .int (Int32.ofNat len), .null] 6)) (T5.setTop (mkF m 30 #[.val (.ref a), .val (.ref b), .val (.int (Int32.ofNat o)), .val (.int (Int32.ofNat len)), .val .null, .unset] [.int z])) := c4.trans (st5 _ (Steps.refl _))
  have c7 : Steps p.tables e below (s₁.setTop (entryFrame m #[.ref a, .ref b, .int (Int32.ofNat o), .int (Int32.ofNat len), .null] 6)) (T5.setTop (mkF m 36 #[.val (.ref a), .val (.ref b), .val (.int (Int32.ofNat o)), .val (.int (Int32.ofNat len)), .val .null, .unset] [.int (Int32.ofNat len), .int (Int32.ofNat o), .ref b])) := c6.trans (by
    refine XS.ifNo X5.here hexec rfl (hb hbytes d30) rfl (i0_eq_f hz) ?_
    refine XS.aloadN X5.here hexec rfl (hb hbytes d33) rfl rfl ?_
    refine XS.iloadN X5.here hexec rfl (hb hbytes d34) rfl ?_
    refine XS.iloadN X5.here hexec rfl (hb hbytes d35) rfl ?_
    exact Steps.refl _)
  obtain ⟨v8, T8, X8, E8, g8⟩ := X5.callS hexec (Cmp3.law l b A o len) hown (wks W (staticW "java/lang/String" 177 Cmp3.yN)) (wk W Cmp3.tab) (W := 0) (Nat.le_of_ble_eq_true rfl) (Nat.le_of_ble_eq_true rfl) (Nat.le_refl _) (by show 0 + len ≤ len; omega) (g := (mkF m 36 #[.val (.ref a), .val (.ref b), .val (.int (Int32.ofNat o)), .val (.int (Int32.ofNat len)), .val .null, .unset] [.int (Int32.ofNat len), .int (Int32.ofNat o), .ref b])) rfl (by rw [hml]; rfl) c7 (argsL := [.ref b, .int (Int32.ofNat o), .int (Int32.ofNat len)]) (rest := []) rfl rfl (by show 2 * 0 + 0 ≤ _; decide) (hb hbytes d36) (⟨rfl, hA.mv X5.warmed.alike hh5, l1, l2, hp⟩)
  obtain ⟨e8, z8⟩ := E8
  obtain ⟨rfl, N, n1, n2, n3, n4, n5, n6⟩ := NewArr.mv _ T5 s _ _ hh5.symm (Vm.Alike.refl _) rfl e8
  rw [hh5] at z8
  have hB1 := hB.keep X8.warmed.alike (n6 _ _ hB.1)
  have hne : s.heap.size ≠ a := (Nat.ne_of_lt (Array.getElem?_eq_some_iff.mp hB.1).1).symm
  have c9 : Steps p.tables e below (s₁.setTop (entryFrame m #[.ref a, .ref b, .int (Int32.ofNat o), .int (Int32.ofNat len), .null] 6)) (T8.setTop (mkF m 39 #[.val (.ref a), .val (.ref b), .val (.int (Int32.ofNat o)), .val (.int (Int32.ofNat len)), .val .null, .unset] [.ref s.heap.size])) := g8
  have c10 : Steps p.tables e below (s₁.setTop (entryFrame m #[.ref a, .ref b, .int (Int32.ofNat o), .int (Int32.ofNat len), .null] 6)) (T8.setTop (mkF m 45 #[.val (.ref a), .val (.ref b), .val (.int (Int32.ofNat o)), .val (.int (Int32.ofNat len)), .val .null, .val (.ref s.heap.size)] [.int (Int32.ofNat N.slots.size), .ref s.heap.size, .ref a])) := by
    have hc : Steps p.tables e below (s₁.setTop (entryFrame m #[.ref a, .ref b, .int (Int32.ofNat o), .int (Int32.ofNat len), .null] 6)) (T8.setTop (mkF m 45 #[.val (.ref a), .val (.ref b), .val (.int (Int32.ofNat o)), .val (.int (Int32.ofNat len)), .val .null, .val (.ref s.heap.size)] [.int (Int32.ofNat len), .ref s.heap.size, .ref a])) := c9.trans (by
      refine XS.astore X8.here hexec rfl (hb hbytes d39) rfl rfl rfl ?_
      refine XS.aloadN X8.here hexec rfl (hb hbytes d41) rfl rfl ?_
      refine XS.aload X8.here hexec rfl (hb hbytes d42) rfl rfl ?_
      refine XS.iloadN X8.here hexec rfl (hb hbytes d44) rfl ?_
      exact Steps.refl _)
    rw [n4]; exact hc
  obtain ⟨v11, T11, X11, E11, g11⟩ := X8.callS hexec (CodL.law l s.heap.size N) hown (wks W (staticW "java/lang/String" 47 CodL.yN)) (wk W CodL.tab) (W := 1) (Nat.le_of_ble_eq_true rfl) (Nat.le_of_ble_eq_true rfl) (Nat.le_refl _) (by show 0 + len + 0 ≤ len; omega) (g := (mkF m 45 #[.val (.ref a), .val (.ref b), .val (.int (Int32.ofNat o)), .val (.int (Int32.ofNat len)), .val .null, .val (.ref s.heap.size)] [.int (Int32.ofNat N.slots.size), .ref s.heap.size, .ref a])) rfl (by rw [hml]; rfl) c10 (argsL := [.ref s.heap.size, .int (Int32.ofNat N.slots.size)]) (rest := [.ref a]) rfl rfl (by show 2 * 0 + (1 + 0) ≤ _; decide) (hb hbytes d45) (⟨rfl, n1⟩)
  obtain ⟨rfl, q11⟩ := E11
  have hB11 := hB1.mv (X8.warmed.alike.symm.trans X11.warmed.alike) q11
  have c12 : Steps p.tables e below (s₁.setTop (entryFrame m #[.ref a, .ref b, .int (Int32.ofNat o), .int (Int32.ofNat len), .null] 6)) (T11.setTop (mkF m 48 #[.val (.ref a), .val (.ref b), .val (.int (Int32.ofNat o)), .val (.int (Int32.ofNat len)), .val .null, .val (.ref s.heap.size)] [.int 0, .ref a])) := g11
  obtain ⟨T13, X13, p13, bl13, sl13, st13⟩ := X11.finit hexec hown (wk W (.fieldLink "java/lang/String" 15 "java/lang/String" "coder" "B")) (Or.inr ⟨_, (wk W (.laysFinal "java/lang/String" "java/lang/String" "coder" "B"))⟩) (Or.inl ⟨rfl, hnm⟩) f2 (Or.inl rfl) hB11 (t := .byte) (by decide +kernel) rfl (g := (mkF m 48 #[.val (.ref a), .val (.ref b), .val (.int (Int32.ofNat o)), .val (.int (Int32.ofNat len)), .val .null, .val (.ref s.heap.size)] [.int 0, .ref a])) rfl (rest := []) rfl (hb hbytes d48)
  have c14 : Steps p.tables e below (s₁.setTop (entryFrame m #[.ref a, .ref b, .int (Int32.ofNat o), .int (Int32.ofNat len), .null] 6)) (T13.setTop (mkF m 54 #[.val (.ref a), .val (.ref b), .val (.int (Int32.ofNat o)), .val (.int (Int32.ofNat len)), .val .null, .val (.ref s.heap.size)] [.ref s.heap.size, .ref a])) := (c12.trans (st13 _ (Steps.refl _))).trans (by
    refine XS.aloadN X13.here hexec rfl (hb hbytes d51) rfl rfl ?_
    refine XS.aload X13.here hexec rfl (hb hbytes d52) rfl rfl ?_
    exact Steps.refl _)
  obtain ⟨T15, X15, p15, bl15, sl15, st15⟩ := X13.finit hexec hown (wk W (.fieldLink "java/lang/String" 9 "java/lang/String" "value" "[B")) (Or.inr ⟨_, (wk W (.laysFinal "java/lang/String" "java/lang/String" "value" "[B"))⟩) (Or.inl ⟨rfl, hnm⟩) f1 (Or.inl rfl) bl13 (t := (.array .byte)) (by decide +kernel) rfl (g := (mkF m 54 #[.val (.ref a), .val (.ref b), .val (.int (Int32.ofNat o)), .val (.int (Int32.ofNat len)), .val .null, .val (.ref s.heap.size)] [.ref s.heap.size, .ref a])) rfl (rest := []) rfl (hb hbytes d54)
  have c16 : Steps p.tables e below (s₁.setTop (entryFrame m #[.ref a, .ref b, .int (Int32.ofNat o), .int (Int32.ofNat len), .null] 6)) (T15.setTop (mkF m 57 #[.val (.ref a), .val (.ref b), .val (.int (Int32.ofNat o)), .val (.int (Int32.ofNat len)), .val .null, .val (.ref s.heap.size)] [])) := c14.trans (st15 _ (Steps.refl _))
  have ap := apart (Or.inr ⟨_, (wk W (.laysFinal "java/lang/String" "java/lang/String" "value" "[B"))⟩) (Or.inr ⟨_, (wk W (.laysFinal "java/lang/String" "java/lang/String" "coder" "B"))⟩) f1 f2 (t₁ := .array .byte) (t₂ := .byte) (by decide +kernel) (by decide +kernel) (by decide)
  have al := X8.warmed.alike.symm.trans X15.warmed.alike
  have n7 : T11.heap[s.heap.size]? = some N := by rw [q11]; exact n1.1
  exact ⟨T15, none, _, _, _, X15, by simp, rfl, by omega, (fun _ => rfl), ⟨rfl, _, N, bl15, ((Same.refl D _).set _ (by simp)).set _ (by simp), sl15, (Cell.slots_setSlot_ne _ ap).trans sl13, n1.keep al (p15.other hne (p13.other hne n7)), n2, by rw [al.findClass]; exact n3, n4, n5, fun y c h1 h2 => p15.other h1 (p13.other h1 (by rw [q11]; exact n6 y c h2)), by rw [p15.2.2, p13.2.2, q11]; exact z8⟩, fun fs hl => c16.trans (X15.returnOut hexec hret (hb hbytes d57) hl)⟩
end New4
namespace New1
def yN : MethodName := ⟨"java/lang/String", "<init>", "([C)V"⟩
abbrev yB : ByteArray := jdk_42_method_3_code
theorem d0 : decode yB 0 = .ok (.aload_n 0, 1) := by decide +kernel
theorem d1 : decode yB 1 = .ok (.aload_n 1, 1) := by decide +kernel
theorem d2 : decode yB 2 = .ok (.iconst 0, 1) := by decide +kernel
theorem d3 : decode yB 3 = .ok (.aload_n 1, 1) := by decide +kernel
theorem d4 : decode yB 4 = .ok (.arraylength, 1) := by decide +kernel
theorem d5 : decode yB 5 = .ok (.aconst_null, 1) := by decide +kernel
theorem d6 : decode yB 6 = .ok (.invokespecial 27, 3) := by decide +kernel
theorem d9 : decode yB 9 = .ok (.return_, 1) := by decide +kernel
def site : List Cond := [New4.tab] ++ initW "java/lang/String" 27 New4.yN
def tab : Cond := tabOf yN yB 2 none site
def P (a : Addr) (D : Cell) (fV fC : Field) (b : Addr) (A : Cell) (z : Int32) (args : Array Value) (s : State) : Prop := args = #[.ref a, .ref b] ∧ Blank "java/lang/String" a D s ∧ Found "java/lang/String" "value" "[B" fV s ∧ Found "java/lang/String" "coder" "B" fC s ∧ Ch b A s ∧ StaticIs s "java/lang/String" "COMPACT_STRINGS" "Z" (.int z) ∧ ¬ z = 0 ∧ 0 < A.slots.size ∧ A.slots.size ≤ 536870912 ∧ ∀ i, i < A.slots.size → ¬ 255 < cv A i
def E (a : Addr) (D : Cell) (fV fC : Field) (A : Cell) (r : Option Value) (s u : State) : Prop := Got a D fV fC A 0 A.slots.size r s u
/-- new String(chars), not empty, no char above 255: a Latin-1 String of their low bytes -/
theorem law (l : Launch) (a : Addr) (D : Cell) (fV fC : Field) (b : Addr) (A : Cell) (z : Int32) : Law l yN 2 1 3 52 yB 2 none site (P a D fV fC b A z) (E a D fV fC A) [⟨a, fC.slot⟩, ⟨a, fV.slot⟩] 1 A.slots.size := by
  refine Law.of_walk (plainFor_of_name (by decide +kernel)) (by decide +kernel) (by decide +kernel) (by decide) (fun _ _ h => by rw [h.1]; rfl) (fun _ U U' hal hh h => ⟨h.1, h.2.1.mv hal hh, h.2.2.1.al hal, h.2.2.2.1.al hal, h.2.2.2.2.1.mv hal hh, h.2.2.2.2.2.1.there hal hh, h.2.2.2.2.2.2⟩) (fun r U U' V V' h1 hal h2 h => Got.mv r U U' V V' h1 hal h2 h) ?_
  intro p e s m args below meth c s₁ X0 hexec hbytes hml hret hlk hnm hown hh0 W hP
  obtain ⟨rfl, hB, f1, f2, hA, s1, hz, l0, l2, hp⟩ := hP
  have c1 : Steps p.tables e below (s₁.setTop (entryFrame m #[.ref a, .ref b] 2)) (s₁.setTop (mkF m 0 #[.val (.ref a), .val (.ref b)] [])) := entry rfl
  have c2 : Steps p.tables e below (s₁.setTop (entryFrame m #[.ref a, .ref b] 2)) (s₁.setTop (mkF m 6 #[.val (.ref a), .val (.ref b)] [.null, .int (Int32.ofNat A.slots.size), .int 0, .ref b, .ref a])) := c1.trans (by
    refine XS.aloadN X0.here hexec rfl (hb hbytes d0) rfl rfl ?_
    refine XS.aloadN X0.here hexec rfl (hb hbytes d1) rfl rfl ?_
    refine iconstV X0.here hexec rfl 0 (hb hbytes d2) (by decide) ?_
    refine XS.aloadN X0.here hexec rfl (hb hbytes d3) rfl rfl ?_
    refine X0.alen hexec (hA.1.mv X0.warmed.alike hh0) rfl rfl (hb hbytes d4) ?_
    refine XS.aconstNull X0.here hexec rfl (hb hbytes d5) ?_
    exact Steps.refl _)
  obtain ⟨v3, T3, X3, E3, g3⟩ := X0.callN hexec (New4.law l a D fV fC b A z 0 A.slots.size) rfl hown (wks W (initW "java/lang/String" 27 New4.yN)) (W New4.tab (by simp only [site, List.mem_cons, List.mem_append, true_or, or_true])) (W := 0) (Nat.le_of_ble_eq_true rfl) (Nat.le_of_ble_eq_true rfl) (Nat.le_refl _) (by show 0 + A.slots.size ≤ A.slots.size; omega) (g := (mkF m 6 #[.val (.ref a), .val (.ref b)] [.null, .int (Int32.ofNat A.slots.size), .int (Int32.ofNat 0), .ref b, .ref a])) rfl (by rw [hml]; rfl) c2 (argsL := [.ref b, .int (Int32.ofNat 0), .int (Int32.ofNat A.slots.size), .null]) (rest := []) rfl rfl (by show 2 * 0 + 0 ≤ _; decide) (hb hbytes d6) (⟨rfl, hB.mv X0.warmed.alike hh0, f1.al X0.warmed.alike, f2.al X0.warmed.alike, hA.mv X0.warmed.alike hh0, s1.there X0.warmed.alike hh0, hz, l0, by omega, l2, fun i hi => by rw [Nat.zero_add]; exact hp i hi⟩)
  have e0 := Got.mv _ s₁ s _ _ hh0.symm (Vm.Alike.refl _) rfl E3
  obtain rfl := e0.1
  have c4 : Steps p.tables e below (s₁.setTop (entryFrame m #[.ref a, .ref b] 2)) (T3.setTop (mkF m 9 #[.val (.ref a), .val (.ref b)] [])) := g3
  exact ⟨T3, none, _, _, _, X3, by simp, rfl, by omega, (fun _ => rfl), e0, fun fs hl => c4.trans (X3.returnOut hexec hret (hb hbytes d9) hl)⟩
theorem pays {l : Launch} {R : Room} {p : Program} {e : Env} {below : List Frame} {s : State} {sargs : Array Value} {len W : Nat} (a : Addr) (D : Cell) (fV fC : Field) (b : Addr) (A : Cell) (z : Int32) (htab : tab.before sargs s = true) (hfr : 4 ≤ R.frames) (hlo : W + 65 ≤ R.locals) :
    Back l R p e below s sargs yN len W (fun A₁ a₁ => A₁.cells + 1 ≤ R.cells ∧ A₁.slots + A.slots.size ≤ R.slots ∧ P a D fV fC b A z a₁ A₁.U) (fun A₁ _ v₁ B₁ => E a D fV fC A v₁ A₁.U B₁.U ∧ B₁.locs = A₁.locs ++ [⟨a, fC.slot⟩, ⟨a, fV.slot⟩] ∧ B₁.cells = A₁.cells + 1 ∧ B₁.slots = A₁.slots + A.slots.size) :=
  (law l a D fV fC b A z).pays htab hfr (by omega)
end New1
end StrChars
namespace StrChars.Road
open Jvm Sem ClassFile Op Lib Jvm.Stand Jvm.Free Jvm.Free.XT
open Jvm.Lib.Cold (StaticIs)
abbrev ST : String := "java/lang/String"
/-- every table word that New1's law asks, flat -/
abbrev words : List Jvm.Cond := [.code New1.yN New1.yB 2 none, .initialized ST, .methodLink ST 27 New4.yN, .instanceMethod New4.yN,
  .code New4.yN New4.yB 6 none, .fieldLink ST 38 ST "COMPACT_STRINGS" "Z", .laysFinal ST ST "value" "[B", .fieldLink ST 9 ST "value" "[B", .laysFinal ST ST "coder" "B", .fieldLink ST 15 ST "coder" "B",
  .methodLink ST 1 Lib.objectInit, .instanceMethod Lib.objectInit, .code Lib.objectInit ⟨#[0xb1]⟩ 1 none, .methodLink ST 177 Cmp3.yN, .static Cmp3.yN, .methodLink ST 47 CodL.yN, .static CodL.yN,
  .code Cmp3.yN Cmp3.yB 6 (some (.array .byte)), .initialized U16, .arrayClass .byte, .methodLink U16 115 Cmp5.yN, .static Cmp5.yN, .code Cmp5.yN Cmp5.yB 7 (some .int), .code CodL.yN CodL.yB 2 (some .byte)]
theorem tab_of {a : Array Value} {s : State} (h : ∀ w ∈ words, w.before a s = true) : New1.tab.before a s = true := by
  have h5 : Cmp5.tab.before a s = true := unparts (wk h (.code Cmp5.yN Cmp5.yB 7 (some .int))) (wks h (.initialized Cmp5.yN.cls :: Cmp5.site))
  have hc : CodL.tab.before a s = true := unparts (wk h (.code CodL.yN CodL.yB 2 (some .byte))) (wks h (.initialized CodL.yN.cls :: CodL.site))
  have q5 : ∀ w ∈ Cmp5.tab :: words, w.before a s = true := fun w hw => (List.mem_cons.mp hw).elim (fun e => e ▸ h5) (h w)
  have h3 : Cmp3.tab.before a s = true := unparts (wk q5 (.code Cmp3.yN Cmp3.yB 6 (some (.array .byte)))) (wks q5 (.initialized Cmp3.yN.cls :: Cmp3.site))
  have q3 : ∀ w ∈ Cmp3.tab :: CodL.tab :: words, w.before a s = true := fun w hw => (List.mem_cons.mp hw).elim (fun e => e ▸ h3) fun hw => (List.mem_cons.mp hw).elim (fun e => e ▸ hc) (h w)
  have h4 : New4.tab.before a s = true := unparts (wk q3 (.code New4.yN New4.yB 6 none)) (wks q3 (.initialized New4.yN.cls :: New4.site))
  have q4 : ∀ w ∈ New4.tab :: words, w.before a s = true := fun w hw => (List.mem_cons.mp hw).elim (fun e => e ▸ h4) (h w)
  exact unparts (wk q4 (.code New1.yN New1.yB 2 none)) (wks q4 (.initialized New1.yN.cls :: New1.site))
/-- the words ride from the start Z to the walk's own state -/
theorem moved {Z s : State} {a0 args : Array Value} (hZ : Z.Warmed39 s.vm) (hw : ∀ d ∈ words, d.before a0 Z = true) : ∀ d ∈ words, d.before args s = true := fun d hd => by
  have q := hw d hd
  have t : ∀ d ∈ words, d = .arrayClass .byte ∨ (d.onTables && d.keepsFace) = true := by decide +kernel
  rcases t d hd with rfl | t
  · exact RoadKit.mvA hZ q
  · exact RoadKit.mv hZ q t
/-- WHAT COMES BACK, over the tables of the start Z: h the heap at the call, h' behind it -/
def Q (Z : State) (x : Addr) (A : Cell) (h : Heap) (v : Option Value) (h' : Heap) (L : List Loc) : Prop := v = none ∧ (∀ y ∈ L, y.base = x) ∧ RoadKit.Keep h h' [x] ∧ h'.size = h.size + 1 ∧ RoadKit.Exa Z h' x ST ∧ RoadKit.Fld Z h' x ST "value" "[B" (.ref h.size) ∧ RoadKit.Fld Z h' x ST "coder" "B" (.int 0) ∧
  (∃ V : Cell, RoadKit.Arr Z h' h.size V .byte ∧ V.vm = .none ∧ Z.vm.findClass "[B" = some V.cls ∧ V.slots.size = A.slots.size ∧ ∀ j, j < A.slots.size → V.slots[j]? = some (.int (lo8 (cv A j)))) ∧
  ∀ (O n d : String) (w : Value), RoadKit.Fld Z h x O n d w → RoadKit.slotOf Z O n d ≠ RoadKit.slotOf Z ST "value" "[B" → RoadKit.slotOf Z O n d ≠ RoadKit.slotOf Z ST "coder" "B" → RoadKit.Fld Z h' x O n d w
/-- **new String(chars) AT A CALL, IN THE ROAD'S FORM**: for specialBack behind newO: x the fresh String, b the char[] with the cell A -/
theorem back {p : Program} {l : Launch} {e : Env} {R : Room} {s : State} {args : Array Value} {below : List Frame} {len W : Nat} {Z : State} {a0 : Array Value} {h : Heap} (hZ : Z.Warmed39 s.vm) (hw : ∀ d ∈ words, d.before a0 Z = true) {kI : Nat} (wi : (Jvm.Cond.instantiable ST kI).before a0 Z = true)
    {x b : Addr} {A : Cell} {z : Int32} {v0 c0 : Value} (E : RoadKit.Exa Z h x ST) (V : RoadKit.Fld Z h x ST "value" "[B" v0) (C : RoadKit.Fld Z h x ST "coder" "B" c0) (K : RoadKit.Arr Z h b A .char) (hty : Typed .char A) (S : RoadKit.Sta Z h ST "COMPACT_STRINGS" "Z" (.int z)) (hz : ¬ z = 0)
    (l0 : 0 < A.slots.size) (l2 : A.slots.size ≤ 536870912) (hp : ∀ i, i < A.slots.size → ¬ 255 < cv A i) (hfr : 4 ≤ R.frames) (hlo : W + 65 ≤ R.locals) :
    Back l R p e below s args New1.yN len W (fun P a => a = #[.ref x, .ref b] ∧ P.U.heap = h ∧ P.cells + 1 ≤ R.cells ∧ P.slots + A.slots.size ≤ R.slots)
      (fun P _ v B => ∃ L, Q Z x A h v B.U.heap L ∧ B.locs = P.locs ++ L ∧ B.cells = P.cells + 1 ∧ B.slots = P.slots + A.slots.size) := by
  intro m meth c P g ig mk a X hg hsize hdg hW hn hp'
  obtain ⟨rfl, rfl, r1, r2⟩ := hp'
  have al : Z.vm.Alike P.U.vm := hZ.alike.trans X.warmed.alike
  obtain ⟨D, cfV, kV, iV, fV, hD, gV, stV, knV, obV, asV, slV⟩ := id V
  obtain ⟨D', cfC, kC, iC, fC, hD', gC, stC, -, -, asC, slC⟩ := id C
  cases hD.symm.trans hD'
  obtain ⟨D2, kD, e1, e2, e3, e4, e5⟩ := id E
  cases hD.symm.trans e1
  obtain ⟨c2, k2, i1, i2, i3, -⟩ := Cond.instantiable_spec wi
  cases e2.symm.trans i1
  cases e3.symm.trans i2
  obtain ⟨kU, u1, u2⟩ := al.2.2 _ _ e3
  have hB : Blank ST x D P.U := ⟨hD, ⟨knV, fun q hq => by rw [hq] at obV; cases obV⟩, by rw [al.findClass]; exact e2, kU, u1, by rw [u2]; exact i3, by rw [u2]; exact e5 i3⟩
  have F1 : Found ST "value" "[B" fV P.U := ⟨SBG.found_only al ⟨cfV, kV, iV, gV⟩, stV⟩
  have F2 : Found ST "coder" "B" fC P.U := ⟨SBG.found_only al ⟨cfC, kC, iC, gC⟩, stC⟩
  have hA : Ch b A P.U := ⟨⟨K.1, State.isArrayOf_alike al K.2.1, K.2.2, by omega⟩, hty⟩
  have hS : StaticIs P.U ST "COMPACT_STRINGS" "Z" (.int z) := by
    obtain ⟨cfS, iS, kS, fS, st, cS, t1, t2, t3, t4, t5, t6, t7⟩ := S
    exact StaticIs.there (s := { Z with heap := P.U.heap }) ⟨cfS, iS, kS, fS, st, cS, t1, t2, t3, t4, t5, (fun q => by rw [q] at t6; cases t6), t7⟩ al rfl
  obtain ⟨v, B, X', ⟨⟨hv, E', V', q1, q2, q3, q4, q5, q6, q7, q8, q9, q10, q11⟩, hl, hc, hs⟩, st⟩ := New1.pays x D fV fC b A z (tab_of (moved hZ hw)) hfr hlo m meth c P g ig mk _ X hg hsize hdg hW hn ⟨r1, r2, rfl, hB, F1, F2, hA, hS, hz, l0, l2, hp⟩
  have al' : Z.vm.Alike B.U.vm := hZ.alike.trans X'.warmed.alike
  have hsz : E'.slots.size = D.slots.size := by
    obtain ⟨-, -, -, kB, w1, w2, w3⟩ := q1
    obtain ⟨kB', y1, y2⟩ := al'.2.2 _ _ e3
    rw [q2.2.1] at w1
    cases w1.symm.trans y1
    rw [w3, e5 i3, y2]
  refine ⟨v, B, X', ⟨_, ⟨hv, ?_, ⟨by omega, fun y cy hy hn' => q10 y cy (by simpa using hn') hy, fun y cy hy => ?_⟩, q11, ⟨E', _, q1.1, by rw [q2.2.1]; exact e2, by rw [q2.2.1]; exact e3, by rw [q2.1]; exact obV, fun _ => by rw [hsz]; exact e5 i3⟩,
    ⟨E', cfV, kV, iV, fV, q1.1, gV, stV, by rw [q2.1]; exact knV, by rw [q2.1]; exact obV, by rw [q2.2.1]; exact asV, q3⟩, ⟨E', cfC, kC, iC, fC, q1.1, gC, stC, by rw [q2.1]; exact knV, by rw [q2.1]; exact obV, by rw [q2.2.1]; exact asC, q4⟩,
    ⟨V', ⟨q5.1, State.isArrayOf_alike al'.symm q5.2.1, q5.2.2.1⟩, q6, by rw [← al'.findClass]; exact q7, q8, fun j hj => by have := q9 j hj; rwa [Nat.zero_add] at this⟩, fun O n d w F n1 n2 => ?_⟩, hl, hc, hs⟩, st⟩
  · intro y hy
    simp only [List.mem_cons, List.not_mem_nil, or_false] at hy
    rcases hy with rfl | rfl <;> rfl
  · by_cases q : y = x
    · subst q
      cases hD.symm.trans hy
      exact ⟨E', q1.1, q2.2.1, q2.1, hsz⟩
    · exact ⟨cy, q10 y cy q hy, rfl, rfl, rfl⟩
  · obtain ⟨D3, cf, k, i, f, g1, g2, g3, g4, g5, g6, g7⟩ := F
    cases hD.symm.trans g1
    simp only [RoadKit.slotOf, g2, gV, gC, Option.map_some, Option.getD_some] at n1 n2
    exact ⟨E', cf, k, i, f, q1.1, g2, g3, by rw [q2.1]; exact g4, by rw [q2.1]; exact g5, by rw [q2.2.1]; exact g6, by rw [q2.2.2 f.slot (by simp [n1, n2])]; exact g7⟩
end StrChars.Road
namespace StrChars.Road
open Jvm Sem ClassFile Op Lib Jvm.Stand Jvm.Free Jvm.Free.XT
/-- WHAT COMES BACK, the byte[] as a list of values -/
def QA (Z : State) (x : Addr) (zn : Int32) (cs : List Int32) (h : Heap) (v : Option Value) (h' : Heap) (L : List Loc) : Prop := v = none ∧ (∀ y ∈ L, y.base = x) ∧ RoadKit.Keep h h' [x] ∧ h'.size = h.size + 1 ∧ RoadKit.Exa Z h' x ST ∧ RoadKit.Fld Z h' x ST "value" "[B" (.ref h.size) ∧ RoadKit.Fld Z h' x ST "coder" "B" (.int 0) ∧
  (∃ kb, Z.vm.findClass "[B" = some kb ∧ RoadKit.Arv Z h' h.size kb .byte zn (cs.map fun c => .int (lo8 c)) (.int 0)) ∧
  ∀ (O n d : String) (w : Value), RoadKit.Fld Z h x O n d w → RoadKit.slotOf Z O n d ≠ RoadKit.slotOf Z ST "value" "[B" → RoadKit.slotOf Z O n d ≠ RoadKit.slotOf Z ST "coder" "B" → RoadKit.Fld Z h' x O n d w
/-- **new String(chars) AT A CALL, THE ARRAYS AS LISTS**: the char[] at b holds cs, not empty, no char above 255 -/
theorem backArv {p : Program} {l : Launch} {e : Env} {R : Room} {s : State} {args : Array Value} {below : List Frame} {len W : Nat} {Z : State} {a0 : Array Value} {h : Heap} (hZ : Z.Warmed39 s.vm) (hw : ∀ d ∈ words, d.before a0 Z = true) {kI : Nat} (wi : (Jvm.Cond.instantiable ST kI).before a0 Z = true)
    {x b : Addr} {k : ClassId} {zn z : Int32} {cs : List Int32} {dv v0 c0 : Value} (E : RoadKit.Exa Z h x ST) (V : RoadKit.Fld Z h x ST "value" "[B" v0) (C : RoadKit.Fld Z h x ST "coder" "B" c0) (K : RoadKit.Arv Z h b k .char zn (cs.map Value.int) dv) (S : RoadKit.Sta Z h ST "COMPACT_STRINGS" "Z" (.int z)) (hz : ¬ z = 0)
    (hlen : zn.toNatClampNeg = cs.length) (h0 : 0 < cs.length) (hbig : cs.length ≤ 536870912) (hall : ∀ c ∈ cs, ¬ 255 < c) (hfr : 4 ≤ R.frames) (hlo : W + 65 ≤ R.locals) :
    Back l R p e below s args New1.yN len W (fun P a => a = #[.ref x, .ref b] ∧ P.U.heap = h ∧ P.cells + 1 ≤ R.cells ∧ P.slots + cs.length ≤ R.slots)
      (fun P _ v B => ∃ L, QA Z x zn cs h v B.U.heap L ∧ B.locs = P.locs ++ L ∧ B.cells = P.cells + 1 ∧ B.slots = P.slots + cs.length) := by
  obtain ⟨A, K1, K2, K3, K4, K5, K6⟩ := K
  have e : A.slots.size = cs.length := K3.trans hlen
  have hat : ∀ (i : Nat) (hi : i < cs.length), A.slots[i]? = some (.int cs[i]) := fun i hi => by rw [K5 i (by omega)]; simp [List.getD_eq_getElem?_getD, hi]
  have hcv : ∀ (i : Nat) (hi : i < cs.length), cv A i = cs[i] := fun i hi => by unfold cv; rw [hat i hi]
  have hty : Typed .char A := fun i v hv => by
    have hi : i < A.slots.size := (Array.getElem?_eq_some_iff.mp hv).1
    have q := K5 i hi
    rw [hv] at q
    rw [Option.some.inj q]
    exact K6 i hi
  refine Back.mono (back hZ hw wi E V C K1 hty S hz (by omega) (by omega) (fun i hi => by rw [hcv i (by omega)]; exact hall _ (List.getElem_mem _)) hfr hlo) (fun P a hp => ⟨hp.1, hp.2.1, hp.2.2.1, by rw [e]; exact hp.2.2.2⟩) (fun P a v B hp hq => ?_)
  obtain ⟨L, ⟨q1, q2, q3, q4, q5, q6, q7, ⟨V', v1, v2, v3, v4, v5⟩, q9⟩, hl, hc, hs⟩ := hq
  refine ⟨L, ⟨q1, q2, q3, q4, q5, q6, q7, ⟨V'.cls, v3, V', v1, rfl, by rw [v4, e, hlen], K4, fun i hi => ?_, fun i hi => ?_⟩, q9⟩, hl, hc, by rw [hs, e]⟩
  · have hi' : i < cs.length := by omega
    rw [v5 i (by omega), hcv i hi']; simp [List.getD_eq_getElem?_getD, hi']
  · have hi' : i < cs.length := by omega
    simp only [List.getD_eq_getElem?_getD, List.getElem?_map, List.getElem?_eq_getElem hi', Option.map_some, Option.getD_some]
    exact fits_lo8 _
end StrChars.Road
namespace StrChars.Road
open Jvm Sem ClassFile Op Lib Jvm.Stand Jvm.Free Jvm.Free.XT
/-- WHAT COMES BACK, in the writer's own shape -/
def QV (Z : State) (x : Addr) (N : Int32) (bs : List Int32) (h : Heap) (n0 : Nat) (v : Option Value) (h' : Heap) (L : List Loc) : Prop := v = none ∧ RoadKit.Fr n0 L ∧ RoadKit.Keep h h' [x] ∧ RoadKit.Exa Z h' x ST ∧ RoadKit.Fld Z h' x ST "coder" "B" (.int 0) ∧
  ∃ (t : Addr) (kb : ClassId), n0 ≤ t ∧ h.size ≤ t ∧ ¬ t = x ∧ RoadKit.Fld Z h' x ST "value" "[B" (.ref t) ∧ RoadKit.Arv Z h' t kb .byte N (bs.map Value.int) (.int 0)
/-- **new String(chars) AT A CALL, FOR THE WRITER**: a char[] of n known ints, each 0 to 255 -/
theorem backV {p : Program} {l : Launch} {e : Env} {R : Room} {s : State} {args : Array Value} {below : List Frame} {len W : Nat} {Z : State} {a0 : Array Value} {h : Heap} (hZ : Z.Warmed39 s.vm) (hw : ∀ d ∈ words, d.before a0 Z = true) {kI : Nat} (wi : (Jvm.Cond.instantiable ST kI).before a0 Z = true)
    {x b : Addr} {kC : ClassId} {cs bs : List Int32} {d v0 c0 : Value} {z N : Int32} {n n0 : Nat} (hx0 : n0 ≤ x) (hh0 : n0 ≤ h.size) (E : RoadKit.Exa Z h x ST) (V : RoadKit.Fld Z h x ST "value" "[B" v0) (C : RoadKit.Fld Z h x ST "coder" "B" c0) (K : RoadKit.Arv Z h b kC .char N (cs.map Value.int) d) (S : RoadKit.Sta Z h ST "COMPACT_STRINGS" "Z" (.int z)) (hz : ¬ z = 0)
    (hn : cs.length = n) (hN : N = Int32.ofNat n) (l0 : 0 < n) (l2 : n ≤ 4000) (hp : ∀ c ∈ cs, ¬ c < 0 ∧ ¬ (255 : Int32) < c) (hb : bs = cs.map (fun c => c.toInt8.toInt32)) (hfr : 4 ≤ R.frames) (hlo : W + 65 ≤ R.locals) :
    Back l R p e below s args (⟨"java/lang/String", "<init>", "([C)V"⟩ : MethodName) len W (fun P a => a = #[.ref x, .ref b] ∧ P.U.heap = h ∧ P.cells + 1 ≤ R.cells ∧ P.slots + n ≤ R.slots)
      (fun P _ v B => ∃ L, QV Z x N bs h n0 v B.U.heap L ∧ B.locs = P.locs ++ L ∧ B.cells = P.cells + 1 ∧ B.slots = P.slots + n) := by
  subst hn hN hb
  refine Back.mono (backArv hZ hw wi E V C K S hz (n32 (by omega)) l0 (by omega) (fun c hc => (hp c hc).2) hfr hlo) (fun P a hp => hp) (fun P a v B hp hq => ?_)
  obtain ⟨L, ⟨q1, q2, q3, q4, q5, q6, q7, ⟨kb, v1, v2⟩, q9⟩, hl, hc, hs⟩ := hq
  exact ⟨L, ⟨q1, fun y hy => by rw [q2 y hy]; exact hx0, q3, q5, q7, h.size, kb, hh0, Nat.le_refl _, Nat.ne_of_gt E.lt, q6, by rw [List.map_map]; exact v2⟩, hl, hc, hs⟩
end StrChars.Road
end Jvm.Pilot.@@N@@

namespace Jvm.Pilot.@@N@@
open Jvm Jvm.ClassFile Sem Op Lib Jvm.Free Jvm.Stand Jvm.LawKit Jvm.RoadKit Bundle Jvm.Pilot.@@N@@.Jvm.D
theorem own_irr (x : Int32) : ¬ x < x := fun h => absurd (Int32.lt_iff_toInt_lt.mp h) (by omega)
theorem own_nn (x : Int32) : ¬ ((x &&& (2147483647 : Int32)) < (0 : Int32)) := fun h => by
  have h1 := Int32.lt_iff_toInt_lt.mp h
  have h2 := (c_and x 2147483647 (by decide)).1
  have h3 : (0 : Int32).toInt = 0 := rfl
  omega
def own_min (a b : Int32) : Int32 := if b < a then b else a
def own_max (a b : Int32) : Int32 := if a < b then b else a
theorem own_mm (a b : Int32) : ¬ (own_max a b < own_min a b) := fun h => by
  have h := Int32.lt_iff_toInt_lt.mp h
  unfold own_max own_min at h
  split at h <;> split at h <;> (simp only [Int32.lt_iff_toInt_lt] at *; omega)
theorem own_min_nn {a b : Int32} (ha : ¬ a < (0 : Int32)) (hb : ¬ b < (0 : Int32)) : ¬ (own_min a b < (0 : Int32)) := by unfold own_min; split <;> assumption
theorem own_max_nn {a b : Int32} (ha : ¬ a < (0 : Int32)) (hb : ¬ b < (0 : Int32)) : ¬ (own_max a b < (0 : Int32)) := by unfold own_max; split <;> assumption
theorem own_mod {x d k : Int32} {D : Int} (hd : d.toInt = D) (hD : 0 < D) (h : (x &&& (2147483647 : Int32)) % d = k) : 0 ≤ k.toInt ∧ k.toInt < D := by
  have h1 := (c_and x 2147483647 (by decide)).1
  have h2 := (c_irem (x &&& 2147483647) d D hd).1 h1
  rw [h] at h2
  rw [h2]
  exact ⟨Int.emod_nonneg _ (by omega), Int.emod_lt_of_pos _ hD⟩
theorem own_ne {k : Int32} (n : Nat) (hc : (Int32.ofNat n).toInt = (n : Int)) (h : ¬ k = Int32.ofNat n) : k.toInt ≠ (n : Int) := fun q => h (Int32.toInt_inj.mp (q.trans hc.symm))
theorem own_r255 {x c : Int32} (h : (x &&& (255 : Int32)) = c) : ¬ (c < (0 : Int32)) ∧ ¬ ((255 : Int32) < c) := by
  have h1 := c_and x 255 (by decide)
  rw [h] at h1
  have e1 : (255 : Int32).toInt = 255 := rfl
  have e0 : (0 : Int32).toInt = 0 := rfl
  simp only [Int32.lt_iff_toInt_lt]
  omega
theorem own_narc {c : Int32} (h : ¬ (c < (0 : Int32)) ∧ ¬ ((255 : Int32) < c)) : nar .char c = c := by
  have e1 : (255 : Int32).toInt = 255 := rfl
  have e0 : (0 : Int32).toInt = 0 := rfl
  have h1 := h.1
  have h2 := h.2
  simp only [Int32.lt_iff_toInt_lt] at h1 h2
  have h3 := c_i2c c
  apply Int32.toInt_inj.mp
  show c.toUInt32.toUInt16.toUInt32.toInt32.toInt = c.toInt
  omega
theorem own_fitc {c : Int32} (h : ¬ (c < (0 : Int32)) ∧ ¬ ((255 : Int32) < c)) : fits .char (.int c) = true := by
  have q := fits_nar_char c
  rw [own_narc h] at q
  exact q
theorem own_b8 (x : Int32) : x.toInt8.toInt32.toInt8.toInt32 = x.toInt8.toInt32 := Int32.toInt_inj.mp (by have a := c_i2b x; have b := c_i2b x.toInt8.toInt32; omega)
theorem own_shr0 (x : Int32) : x >>> ((0 : Int32) &&& 31) = x := Int32.toInt_inj.mp (by rw [c_ishr x 0 0 (by decide)]; simp)
theorem own_nar255 (x : Int32) : nar .char ((x &&& (255 : Int32)).toUInt32.toUInt16.toUInt32.toInt32) = x &&& (255 : Int32) := by rw [i2c_mask]; exact i2c_mask x
/-- from here the run comes to an end at which Q holds, at most so many cells and slots made -/
def own_Go (p : Program) (e : Env) (below : List Frame) (s : State) (Q : Option Value → Heap → List Loc → Prop) (C S : Nat) (A : State) : Prop :=
  ∃ s₂ o, Steps p.tables e below A s₂ ∧ s₂.status = .running ∧ Ended s₂ below o ∧ ∃ v L, o = .returned v ∧ Q v s₂.heap L ∧ FrameEnd s o s₂ L C S
theorem own_go {p : Program} {e : Env} {below : List Frame} {s : State} {Q : Option Value → Heap → List Loc → Prop} {C S : Nat} {A B : State} (k : ∀ t, Steps p.tables e below B t → Steps p.tables e below A t) (h : own_Go p e below s Q C S B) : own_Go p e below s Q C S A := by
  obtain ⟨s₂, o, h1, h2⟩ := h
  exact ⟨s₂, o, k _ h1, h2⟩
theorem own_fin {p : Program} {l : Launch} {e : Env} {R : Room} {s : State} {m : MethodId} {args : Array Value} {below : List Frame} {meth : Method} {c : Code} {T : State} {locs : List Loc} {cells slots : Nat} {Q : Option Value → Heap → List Loc → Prop} {C S : Nat} {A : State} {v : Option Value}
    (X : Stand p l e R s m args below meth c T locs cells slots) (hlocks : meth.locks = false) (hv : meth.sig.returnType = none → v = none)
    (st : ∀ fs, (∀ (f : JFrame) (acts : List Action), f.method = m → f.locked = none → f.entered = [] → (doReturn e (T.setTop f) acts v).1 = T.setFrames fs) → Steps p.tables e below A (T.setFrames fs))
    (hQ : Q v T.heap locs) (hc : cells ≤ C) (hs : slots ≤ S) : own_Go p e below s Q C S A := by
  obtain ⟨fs, hr, hrun, hended, hW, hsame⟩ := X.leave (v := v) hv hlocks
  exact ⟨_, _, st fs hr, hrun, hended, _, _, rfl, hQ, ⟨_, rfl⟩, hW, hsame.mono hc hs⟩
theorem own_eqI {args : Array Value} {first s : State} {o : Option Outcome} {idx : List Nat} {t : Term} {k : Int32} (h : (Jvm.Cond.eq t (.int k)).value args first o s idx = some true) : t.eval args first o idx s = some (.int k) := by
  obtain ⟨x, y, h1, h2, hk, hk'⟩ := cmp_v (Or.inl h)
  have e2 : y = .int k := (Option.some.inj ((Term.int_eval k).symm.trans h2)).symm
  subst e2
  obtain ⟨z, rfl⟩ := hk'
  simp only [Cond.value, h1, h2] at h
  have hz : z = k := by simpa using h
  rw [h1, hz]
theorem own_eqR {args : Array Value} {first s : State} {o : Option Outcome} {idx : List Nat} {t u : Term} {a : Addr} (h : (Jvm.Cond.eq t u).value args first o s idx = some true) (hu : u.eval args first o idx s = some (.ref a)) : t.eval args first o idx s = some (.ref a) := by
  obtain ⟨x, y, h1, h2, hk, hk'⟩ := cmp_v (Or.inl h)
  cases hu.symm.trans h2
  rw [h1, gotT (eq_R h1 hu hk'.2 rfl) h]
theorem own_len {args : Array Value} {s : State} {t : Term} {a : Addr} {cl : Cell} {k : Int32} {ty : FieldType} (h : (Term.length t).eval args s none [] s = some (.int k)) (ht : t.eval args s none [] s = some (.ref a)) (A : Arr s s.heap a cl ty) : cl.slots.size < 2 ^ 31 ∧ cl.slots.size.toInt32 = k := by
  have ha := A.fin (Vm.Alike.refl _)
  simp only [Term.eval, ht, ha, Option.bind_eq_bind, Option.bind_some] at h
  by_cases q : cl.slots.size < 2 ^ 31
  · simp [q] at h; exact ⟨q, h⟩
  · simp [q] at h
abbrev own_EL : List (String × Nat) := consts_1
/-- the same with String constants loaded on the way (RW14's invariant, kept) -/
def own_GoW (p : Program) (e : Env) (below : List Frame) (s Z : State) (Q : Option Value → Heap → List Loc → Prop) (C S : Nat) (A : State) : Prop :=
  ∃ s₂ o, Steps p.tables e below A s₂ ∧ s₂.status = .running ∧ Ended s₂ below o ∧ ∃ v L, o = .returned v ∧ Q v s₂.heap L ∧ CHr Z own_EL s.vm s.heap s₂.vm s₂.heap ∧ ReturnedEndW s o s₂ L C S
theorem own_goW {p : Program} {e : Env} {below : List Frame} {s Z : State} {Q : Option Value → Heap → List Loc → Prop} {C S : Nat} {A B : State} (k : ∀ t, Steps p.tables e below B t → Steps p.tables e below A t) (h : own_GoW p e below s Z Q C S B) : own_GoW p e below s Z Q C S A := by
  obtain ⟨s₂, o, h1, h2⟩ := h
  exact ⟨s₂, o, k _ h1, h2⟩
theorem own_finW {p : Program} {l : Launch} {e : Env} {R : Room} {s Z : State} {vm1 : Vm} {k0 : Nat} {m : MethodId} {args : Array Value} {below : List Frame} {meth : Method} {c : Code} {T : State} {locs : List Loc} {cells slots : Nat} {Q : Option Value → Heap → List Loc → Prop} {C S : Nat} {A : State} {v : Option Value}
    (X : Stand p l e R (s.setVm vm1) m args below meth c T locs cells slots) (hS : s.Since vm1 k0) (hk : k0 ≤ T.heap.size) (hR : CHr Z own_EL s.vm s.heap T.vm T.heap) (hlocks : meth.locks = false) (hv : meth.sig.returnType = none → v = none)
    (st : ∀ fs, (∀ (f : JFrame) (acts : List Action), f.method = m → f.locked = none → f.entered = [] → (doReturn e (T.setTop f) acts v).1 = T.setFrames fs) → Steps p.tables e below A (T.setFrames fs))
    (hQ : Q v T.heap locs) (hc : cells ≤ C) (hs : slots ≤ S) : own_GoW p e below s Z Q C S A := by
  obtain ⟨fs, hr, hrun, hended, h1, h2, h3, h4⟩ := X.leaveW hS hk (v := v) hv hlocks
  exact ⟨_, _, st fs hr, hrun, hended, _, _, rfl, hQ, hR, h1, h2, h3, h4.mono hc hs⟩
/-- a callee that loads String constants, paid at a call: the invariant from the caller's tables on -/
theorem own_backW {p : Program} {l : Launch} {e : Env} {R : Room} {s : State} {args : Array Value} {below : List Frame} {Z : State} {a0 : Array Value} {h : Heap} {vm0 : Vm} {y : MethodName} {bytes : ByteArray} {maxL : Nat} {ret : Option FieldType} {rm : Room} {len W : Nat} {as' : Array Value} {Q : Option Value → Heap → List Loc → Prop}
    (hM : MetFree l y (head1 [Jvm.Cond.code y bytes maxL ret] rm) (fun a U => a = as' ∧ Z.Warmed39 U.vm ∧ U.heap = h ∧ CHr Z own_EL vm0 h U.vm h) (fun _ _ _ _ _ => True) (fun _ U o U' => ∃ v L, o = .returned v ∧ Q v U'.heap L ∧ CHr Z own_EL U.vm U.heap U'.vm U'.heap ∧ ReturnedEndW U o U' L rm.cells rm.slots))
    (hZ : Z.Warmed39 vm0) (wc : (Jvm.Cond.code y bytes maxL ret).before a0 Z = true) (wz : (Jvm.Cond.initialized y.cls).before a0 Z = true) (hf : rm.frames + 1 ≤ R.frames) (hl : W + (maxL + 11) + rm.locals ≤ R.locals) (hEL : EW Z a0 own_EL) (H : CHv Z own_EL vm0 h) :
    BackS l R p e below (s.setVm vm0) args y len W (fun A a => a = as' ∧ A.U.heap = h ∧ A.cells + rm.cells ≤ R.cells ∧ A.slots + rm.slots ≤ R.slots)
      (fun A _ v B => ∃ L, Q v B.U.heap L ∧ B.locs = A.locs ++ L ∧ B.cells = A.cells + rm.cells ∧ B.slots = A.slots + rm.slots ∧ CHr Z own_EL vm0 h B.U.vm B.U.heap) := by
  refine BackS.of_freeW (bytes := bytes) (maxL := maxL) (ret := ret) (E := fun _ first o t L k n => k = rm.cells ∧ n = rm.slots ∧ (∃ v, o = .returned v ∧ Q v t.heap L) ∧ CHr Z own_EL first.vm first.heap t.vm t.heap) hM hf hl ?_ ?_ ?_ ?_ ?_
  · intro m meth c A a Y hp
    have hU : Z.Warmed39 A.U.vm := wtrans (s := s.setVm vm0) hZ Y.warmed
    exact ⟨by show (Jvm.Cond.and _ .tt).before a A.U = true; rw [Cond.before_and, mv hU wc]; rfl, mv hU wc, mv hU wz, hp.2.2.1, hp.2.2.2⟩
  · intro m meth c A a g mk Y hp
    exact ⟨hp.1, wtrans (s := s.setVm vm0) hZ Y.warmed, hp.2.1, (show CHr Z own_EL vm0 h A.U.vm h from CHv.at Y hZ hEL H)⟩
  · intro _ _ _ _ _ _ _ _ _
    trivial
  · rintro _ _ _ _ ⟨v, L, h1, h2, h3, h4⟩
    exact ⟨L, _, _, h4, rfl, rfl, ⟨v, h1, h2⟩, h3⟩
  · rintro m meth c A a g mk v t L k n Y hp _ _ ⟨e1, e2, ⟨v', e3, e4⟩, e5⟩
    cases e3
    subst e1 e2
    refine ⟨L, e4, rfl, rfl, rfl, (show CHr Z own_EL vm0 h A.U.vm h from CHv.at Y hZ hEL H).trans ?_⟩
    rw [← hp.2.1]
    exact e5
theorem own_safe_arv {Z : State} {EL : List (String × Nat)} {vm : Vm} {h : Heap} {a : Addr} {k : ClassId} {ty : FieldType} {z : Int32} {vs : List Value} {d : Value} (hal : Z.vm.Alike vm) (V : Arv Z h a k ty z vs d) (ht : ty ≠ .byte) : Safe Z EL vm h a := by
  obtain ⟨c, A, -⟩ := V
  exact Safe.arr hal A ht
theorem own_EW (Z : State) (a0 : Array Value) (hw : ∀ d ∈ tables_1, d.before a0 Z = true) : EW Z a0 own_EL := (EW.cons (hw _ (List.mem_of_getElem? (i := 21) rfl)) (by decide +kernel) (EW.cons (hw _ (List.mem_of_getElem? (i := 108) rfl)) (by decide +kernel) EW.nil))
theorem own_wS (Z : State) (a0 : Array Value) (hw : ∀ d ∈ tables_1, d.before a0 Z = true) : ∀ a ∈ Bundle.stringAtoms, a.before a0 Z = true := fun d hd => hw d ((by decide +kernel : ∀ d ∈ Bundle.stringAtoms, d ∈ tables_1) d hd)
theorem own_ofNat {q : Nat} (h : q < 2147483648) : (Int32.ofNat q).toInt = q ∧ (Int32.ofNat q).toNatClampNeg = q := by
  have e : (Int32.ofNat q).toInt = q := Int32.toInt_ofNat_small (by omega)
  exact ⟨e, by show (Int32.ofNat q).toInt.toNat = q; rw [e]; rfl⟩
theorem own_idx {q n : Nat} {N : Int32} (hN : N.toNatClampNeg = n) (hN0 : ¬ N < 0) (hq : q < n) : (¬ (Int32.ofNat q < (0 : Int32)) ∧ Int32.ofNat q < N) ∧ (Int32.ofNat q).toNatClampNeg = q := by
  have h1 := nat_of hN0
  have h2 := (rng32 N).2
  have h3 := own_ofNat (q := q) (by omega)
  refine ⟨⟨fun h => ?_, ?_⟩, h3.2⟩
  · have h4 := Int32.lt_iff_toInt_lt.mp h
    rw [h3.1] at h4
    have e0 : (0 : Int32).toInt = 0 := rfl
    omega
  · rw [Int32.lt_iff_toInt_lt, h3.1, h1, hN]; omega
theorem own_past {n : Nat} {N : Int32} (hN : N.toNatClampNeg = n) (hN0 : ¬ N < 0) : ¬ (Int32.ofNat n < N) := fun h => by
  have h1 := nat_of hN0
  have h2 := (rng32 N).2
  have h3 := own_ofNat (q := n) (by omega)
  have h4 := Int32.lt_iff_toInt_lt.mp h
  rw [h3.1, h1, hN] at h4
  omega
theorem own_incr {q n : Nat} {N : Int32} (hN : N.toNatClampNeg = n) (hN0 : ¬ N < 0) (hq : q < n) : Int32.ofNat q + (1 : Int32) = Int32.ofNat (q + 1) := by
  have h1 := nat_of hN0
  have h2 := (rng32 N).2
  have h3 := own_ofNat (q := q) (by omega)
  apply Int32.toInt_inj.mp
  have a := c_iadd (Int32.ofNat q) 1
  have b := rng32 (Int32.ofNat q + 1)
  have e1 : (1 : Int32).toInt = 1 := rfl
  by_cases hb : q + 1 < 2147483648
  · rw [(own_ofNat hb).1]; rw [h3.1] at a; omega
  · omega
theorem own_mapget (xs : List Int32) (q : Nat) : (xs.map Value.int).getD q (.int (0 : Int32)) = .int (xs.getD q 0) := by
  simp only [List.getD_eq_getElem?_getD, List.getElem?_map]
  cases xs[q]? <;> rfl
theorem own_listeq {xs ys : List Int32} (hl : xs.length = ys.length) (h : ∀ r, r < xs.length → xs.getD r 0 = ys.getD r 0) : xs = ys := by
  apply List.ext_getElem hl
  intro i h1 h2
  have := h i h1
  simpa [List.getD_eq_getElem?_getD, List.getElem?_eq_getElem h1, List.getElem?_eq_getElem h2] using this
def own_eqv (xs ys : List Int32) : Int32 := if xs = ys then 1 else 0
theorem own_fldeq {Z : State} {h : Heap} {a : Addr} {C n d : String} {v w : Value} (F : Fld Z h a C n d v) (G : Fld Z h a C n d w) : v = w := Classical.byContradiction fun q => Fld.ne F G q rfl
theorem own_same {Z : State} {h : Heap} {t : Addr} {k k' : ClassId} {N N' : Int32} {xs ys : List Int32} (F : Arv Z h t k .byte N (xs.map Value.int) (.int (0 : Int32))) (G : Arv Z h t k' .byte N' (ys.map Value.int) (.int (0 : Int32))) (h1 : N.toNatClampNeg = xs.length) (h2 : N'.toNatClampNeg = ys.length) : xs = ys := by
  obtain ⟨c, A, -, S, -, H, -⟩ := F
  obtain ⟨c', A', -, S', -, H', -⟩ := G
  cases A.1.symm.trans A'.1
  refine own_listeq (by omega) fun r hr => ?_
  have e := (H r (by omega)).symm.trans (H' r (by omega))
  rw [own_mapget, own_mapget] at e
  exact Value.int.inj (Option.some.inj e)
theorem own_nat_inj {N N' : Int32} (h : N.toNatClampNeg = N'.toNatClampNeg) (h0 : ¬ N < 0) (h0' : ¬ N' < 0) : N = N' := by
  apply Int32.toInt_inj.mp
  rw [nat_of h0, nat_of h0', h]
theorem own_an {P : Int32 → Prop} : ∀ c ∈ ([] : List Int32), P c := fun _ q => nomatch q
theorem own_ac {P : Int32 → Prop} {x : Int32} {L : List Int32} (h : P x) (r : ∀ c ∈ L, P c) : ∀ c ∈ x :: L, P c := fun c q => (List.mem_cons.mp q).elim (fun u => u ▸ h) (r c)
theorem own_hnew (Z : State) (a0 : Array Value) (hw : ∀ d ∈ tables_1, d.before a0 Z = true) : ∀ d ∈ StrChars.Road.words, d.before a0 Z = true := fun d hd => hw d ((by decide +kernel : ∀ d ∈ StrChars.Road.words, d ∈ tables_1) d hd)
def own_la (xs : List Int32) (ch : Int32) : Nat → Int32
  | 0 => -1
  | k + 1 => if xs.getD k 0 = ch then Int32.ofNat k else own_la xs ch k
theorem own_la_rng (xs : List Int32) (ch : Int32) : ∀ k, k ≤ 5 → -1 ≤ (own_la xs ch k).toInt ∧ (own_la xs ch k).toInt < k
  | 0, _ => by show -1 ≤ (-1 : Int32).toInt ∧ (-1 : Int32).toInt < ((0 : Nat) : Int); decide
  | k + 1, h => by
    have ih := own_la_rng xs ch k (by omega)
    have e := (own_ofNat (q := k) (by omega)).1
    unfold own_la
    split
    · rw [e]; omega
    · omega
def own_cut (xs : List Int32) (n : Nat) : Int32 := if own_la xs 35 n < 0 then own_la xs 47 n else own_la xs 35 n
theorem own_cut_rng (xs : List Int32) (n : Nat) (h : n ≤ 5) : -1 ≤ (own_cut xs n).toInt ∧ (own_cut xs n).toInt < n := by
  unfold own_cut
  split
  · exact own_la_rng xs 47 n h
  · exact own_la_rng xs 35 n h
theorem own_cut1 (xs : List Int32) (n : Nat) (h : n ≤ 5) : ∃ s, own_cut xs n + (1 : Int32) = Int32.ofNat s ∧ s ≤ n := by
  have h1 := own_cut_rng xs n h
  have a := c_iadd (own_cut xs n) 1
  have b := rng32 (own_cut xs n + 1)
  have e1 : (1 : Int32).toInt = 1 := rfl
  refine ⟨((own_cut xs n).toInt + 1).toNat, ?_, by omega⟩
  apply Int32.toInt_inj.mp
  rw [(own_ofNat (q := ((own_cut xs n).toInt + 1).toNat) (by omega)).1]
  omega
theorem own_min_self (x : Int32) : own_min x x = x := if_neg (own_irr x)
theorem own_sub1 (k : Nat) (h : k < 1000) : Int32.ofNat (k + 1) - (1 : Int32) = Int32.ofNat k := by
  apply Int32.toInt_inj.mp
  have a := c_isub (Int32.ofNat (k + 1)) 1
  have b := rng32 (Int32.ofNat (k + 1) - 1)
  have e1 : (1 : Int32).toInt = 1 := rfl
  rw [(own_ofNat (q := k + 1) (by omega)).1] at a
  rw [(own_ofNat (q := k) (by omega)).1]
  omega
theorem own_dec (k : Nat) (h : k < 1000) : Int32.ofNat k + (-1 : Int32) = Int32.ofNat k - (1 : Int32) := by
  apply Int32.toInt_inj.mp
  have a := c_isub (Int32.ofNat k) 1
  have a' := c_iadd (Int32.ofNat k) (-1)
  have b := rng32 (Int32.ofNat k - 1)
  have b' := rng32 (Int32.ofNat k + -1)
  have e1 : (1 : Int32).toInt = 1 := rfl
  have e2 : (-1 : Int32).toInt = -1 := rfl
  rw [(own_ofNat (q := k) (by omega)).1] at a a'
  omega
theorem own_subN {n s : Nat} (h : s ≤ n) (hn : n < 1000) : Int32.ofNat n - Int32.ofNat s = Int32.ofNat (n - s) := by
  apply Int32.toInt_inj.mp
  have a := c_isub (Int32.ofNat n) (Int32.ofNat s)
  have b := rng32 (Int32.ofNat n - Int32.ofNat s)
  rw [(own_ofNat (q := n) (by omega)).1, (own_ofNat (q := s) (by omega)).1] at a
  rw [(own_ofNat (q := n - s) (by omega)).1]
  omega
theorem own_addN {n s : Nat} (hn : n + s < 1000) : Int32.ofNat n + Int32.ofNat s = Int32.ofNat (n + s) := by
  apply Int32.toInt_inj.mp
  have a := c_iadd (Int32.ofNat n) (Int32.ofNat s)
  have b := rng32 (Int32.ofNat n + Int32.ofNat s)
  rw [(own_ofNat (q := n) (by omega)).1, (own_ofNat (q := s) (by omega)).1] at a
  rw [(own_ofNat (q := n + s) (by omega)).1]
  omega
theorem own_ltN {n s : Nat} (hn : n < 1000) (hs : s < 1000) : Int32.ofNat n < Int32.ofNat s ↔ n < s := by
  rw [Int32.lt_iff_toInt_lt, (own_ofNat (q := n) (by omega)).1, (own_ofNat (q := s) (by omega)).1]
  omega
theorem own_eqN {n s : Nat} (hn : n < 1000) (hs : s < 1000) : Int32.ofNat n = Int32.ofNat s ↔ n = s := by
  constructor
  · intro h
    have e := congrArg Int32.toInt h
    rw [(own_ofNat (q := n) (by omega)).1, (own_ofNat (q := s) (by omega)).1] at e
    omega
  · intro h; rw [h]
theorem own_nnN {n : Nat} (hn : n < 1000) : ¬ (Int32.ofNat n < (0 : Int32)) := fun h => absurd ((own_ltN (s := 0) hn (by omega)).mp h) (Nat.not_lt_zero n)
theorem own_cpl (xs : List Int32) (s : Nat) (i : Nat) (hs : s ≤ xs.length) : ((xs.drop s).map Value.int).getD i (.int (0 : Int32)) = ((([] ++ List.replicate 5 (Value.int (0 : Int32))).take 0 ++ (List.range (xs.length - s)).map (fun i => (xs.map Value.int).getD (s + i) (.int (0 : Int32)))) ++ ([] ++ List.replicate 5 (Value.int (0 : Int32))).drop (0 + (xs.length - s))).getD i (.int (0 : Int32)) := by
  rw [own_mapget]
  simp only [List.take_zero, List.nil_append, List.getD_eq_getElem?_getD]
  by_cases h : i < xs.length - s
  · have hi : s + i < xs.length := by omega
    rw [List.getElem?_append_left (by simpa using h)]
    simp [h, List.getElem?_drop, List.getElem?_map, List.getElem?_eq_getElem hi]
  · rw [List.getElem?_append_right (by simp; omega)]
    have e1 : (xs.drop s)[i]? = none := by rw [List.getElem?_eq_none_iff]; simp; omega
    rw [e1]
    rw [List.getElem?_drop, List.getElem?_replicate]
    split <;> rfl
theorem own_f8 {c ch : Int32} (h : ¬ (c < (0 : Int32)) ∧ ¬ ((255 : Int32) < c)) (h1 : 0 ≤ ch.toInt) (h2 : ch.toInt < 128) : c.toInt8.toInt32 = ch ↔ c = ch := by
  have a := c_i2b c
  have e1 : (255 : Int32).toInt = 255 := rfl
  have e0 : (0 : Int32).toInt = 0 := rfl
  simp only [Int32.lt_iff_toInt_lt] at h
  rw [← Int32.toInt_inj, ← Int32.toInt_inj]
  omega
theorem own_la_map {cs : List Int32} {ch : Int32} (h : ∀ c ∈ cs, ¬ (c < (0 : Int32)) ∧ ¬ ((255 : Int32) < c)) (h1 : 0 ≤ ch.toInt) (h2 : ch.toInt < 128) : ∀ k, k ≤ cs.length → own_la (cs.map (fun c => c.toInt8.toInt32)) ch k = own_la cs ch k
  | 0, _ => rfl
  | k + 1, hk => by
    have ih := own_la_map h h1 h2 k (by omega)
    unfold own_la
    rw [ih]
    have e : (cs.map (fun c => c.toInt8.toInt32)).getD k 0 = (cs.getD k 0).toInt8.toInt32 := by
      simp [List.getD_eq_getElem?_getD, List.getElem?_map, List.getElem?_eq_getElem (show k < cs.length by omega)]
    have hm : cs.getD k 0 ∈ cs := by
      rw [List.getD_eq_getElem?_getD, List.getElem?_eq_getElem (show k < cs.length by omega)]
      exact List.getElem_mem _
    rw [e]
    by_cases q : cs.getD k 0 = ch
    · rw [if_pos ((own_f8 (h _ hm) h1 h2).mpr q), if_pos q]
    · rw [if_neg (fun z => q ((own_f8 (h _ hm) h1 h2).mp z)), if_neg q]
theorem own_back8 {c : Int32} (h : ¬ (c < (0 : Int32)) ∧ ¬ ((255 : Int32) < c)) : c.toInt8.toInt32 &&& (255 : Int32) = c := by
  apply Int32.toInt_inj.mp
  have a := c_i2b c
  have b := c_mask c.toInt8.toInt32 255 8 (by decide) (by decide)
  have e1 : (255 : Int32).toInt = 255 := rfl
  have e0 : (0 : Int32).toInt = 0 := rfl
  simp only [Int32.lt_iff_toInt_lt] at h
  rw [b]
  omega
theorem own_use {p : Program} {l : Launch} {e : Env} {R : Room} {s : State} {m : MethodId} {args : Array Value} {below : List Frame} {meth : Method} {c : Code} {T : State} {L : List Loc} {cells slots : Nat} {h : Heap} {n0 : Nat} {P : Int32 → Prop} {K : State → Int32 → Prop} {G : Prop} (X : Stand p l e R s m args below meth c T L cells slots) (tail : ∀ T L cut, Stand p l e R s m args below meth c T L cells slots → T.heap = h → Fr n0 L → P cut → K T cut) (main : (∀ T L cut, Stand p l e R s m args below meth c T L cells slots → T.heap = h → Fr n0 L → P cut → K T cut) → G) : G := main tail
theorem own_mod7 {x k : Int32} (h : (x &&& (7 : Int32)) % (6 : Int32) = k) : 0 ≤ k.toInt ∧ k.toInt < 6 := by
  have h1 := (c_and x 7 (by decide)).1
  have h2 := (c_irem (x &&& 7) 6 6 rfl).1 h1
  rw [h] at h2
  rw [h2]
  exact ⟨Int.emod_nonneg _ (by omega), Int.emod_lt_of_pos _ (by omega)⟩
theorem own_rel (cs c5 : List Int32) (h : ∀ c ∈ cs, ¬ (c < (0 : Int32)) ∧ ¬ ((255 : Int32) < c)) (hl : cs.length ≤ c5.length) (ht : cs = c5.take cs.length) {s' : Nat} : ∀ j, j < ((cs.map (fun c => c.toInt8.toInt32)).drop s').length → (((cs.map (fun c => c.toInt8.toInt32)).drop s').getD j 0 &&& (255 : Int32)) = c5.getD (s' + j) 0 := fun j hj => by
  have hj' : s' + j < cs.length := by simp at hj; omega
  have e1 : ((cs.map (fun c => c.toInt8.toInt32)).drop s').getD j 0 = (cs[s' + j]'hj').toInt8.toInt32 := by
    simp [List.getD_eq_getElem?_getD, List.getElem?_drop, List.getElem?_map, List.getElem?_eq_getElem hj']
  have e2 : c5.getD (s' + j) 0 = cs[s' + j]'hj' := by
    have e3 : cs[s' + j]? = c5[s' + j]? := by
      have e4 : (c5.take cs.length)[s' + j]? = c5[s' + j]? := List.getElem?_take_of_lt hj'
      rw [← ht] at e4
      exact e4
    rw [List.getD_eq_getElem?_getD, ← e3, List.getElem?_eq_getElem hj']
    rfl
  rw [e1, e2]
  exact own_back8 (h _ (List.getElem_mem hj'))
theorem own_d4_0 : decode jdk_42_method_149_code 0 = .ok (.aload_n 0, 1) := by decide +kernel
theorem own_d4_1 : decode jdk_42_method_149_code 1 = .ok (.invokespecial 1, 3) := by decide +kernel
theorem own_d4_4 : decode jdk_42_method_149_code 4 = .ok (.iload_n 3, 1) := by decide +kernel
theorem own_d4_5 : decode jdk_42_method_149_code 5 = .ok (.ifCond .ne 22, 3) := by decide +kernel
theorem own_d4_8 : decode jdk_42_method_149_code 8 = .ok (.aload_n 0, 1) := by decide +kernel
theorem own_d4_9 : decode jdk_42_method_149_code 9 = .ok (.ldc 7, 2) := by decide +kernel
theorem own_d4_11 : decode jdk_42_method_149_code 11 = .ok (.getfield 9, 3) := by decide +kernel
theorem own_d4_14 : decode jdk_42_method_149_code 14 = .ok (.putfield 9, 3) := by decide +kernel
theorem own_d4_17 : decode jdk_42_method_149_code 17 = .ok (.aload_n 0, 1) := by decide +kernel
theorem own_d4_18 : decode jdk_42_method_149_code 18 = .ok (.ldc 7, 2) := by decide +kernel
theorem own_d4_20 : decode jdk_42_method_149_code 20 = .ok (.getfield 15, 3) := by decide +kernel
theorem own_d4_23 : decode jdk_42_method_149_code 23 = .ok (.putfield 15, 3) := by decide +kernel
theorem own_d4_26 : decode jdk_42_method_149_code 26 = .ok (.return_, 1) := by decide +kernel
theorem own_pn_java_lang_String : plainName "java/lang/String" = true := by first | (simp [plainName, overriddenIn]; done) | decide +kernel
theorem own_ef_own_rn4e (m : MethodId) (a1 : Addr) (ar : Addr) : entryFrame m #[(.ref a1), (.ref ar), (.int (0 : Int32)), (.int (0 : Int32)), .null] 6 = mkF m 0 #[rv a1, rv ar, iv (0 : Int32), iv (0 : Int32), .val .null, .unset] [] := by first | (simp [entryFrame, mkF, argsToLocals, Value.category]; done) | rfl
def own_Q_own_rn4e (Z : State) (a1 : Addr) (ar : Addr) (h0 : Heap) (n0 : Nat) (v : Option Value) (h : Heap) (L : List Loc) : Prop := ∃ t kb, v = none ∧ Fr n0 L ∧ Keep h0 h [a1] ∧ Exa Z h a1 "java/lang/String" ∧ Fld Z h a1 "java/lang/String" "value" "[B" (.ref t) ∧ Fld Z h a1 "java/lang/String" "coder" "B" (.int (0 : Int32)) ∧ Arv Z h t kb .byte (0 : Int32) [] (.int (0 : Int32))
set_option maxRecDepth 65536 in
set_option maxHeartbeats 40000000 in
theorem own_rn4e (l : Launch) (Z : State) (a0 : Array Value) (hw : ∀ d ∈ tables_1, d.before a0 Z = true) (ws : List Jvm.Cond) (a1 : Addr) (ar : Addr) (vm0 : Vm) (h0 : Heap) (n0 : Nat) (Z0 : n0 ≤ h0.size) (Ex : Exa Z h0 a1 "java/lang/String") (Fv : Fld Z h0 a1 "java/lang/String" "value" "[B" .null) (Fc : Fld Z h0 a1 "java/lang/String" "coder" "B" (.int (0 : Int32))) (Sf : Safe Z own_EL vm0 h0 a1) (g_a1 : n0 ≤ a1) :
    MetFree l (⟨"java/lang/String", "<init>", "([CIILjava/lang/Void;)V"⟩ : MethodName) (head1 (Jvm.Cond.code (⟨"java/lang/String", "<init>", "([CIILjava/lang/Void;)V"⟩ : MethodName) jdk_42_method_149_code 6 none :: ws) ({ frames := 1, cells := 4, slots := 8, locals := 12 } : Room)) (fun a U => a = #[(.ref a1), (.ref ar), (.int (0 : Int32)), (.int (0 : Int32)), .null] ∧ Z.Warmed39 U.vm ∧ U.heap = h0 ∧ CHr Z own_EL vm0 h0 U.vm h0) (fun _ _ _ _ _ => True) (fun _ U o U' => ∃ v L, o = .returned v ∧ own_Q_own_rn4e Z a1 ar h0 n0 v U'.heap L ∧ CHr Z own_EL U.vm U.heap U'.vm U'.heap ∧ ReturnedEndW U o U' L ({ frames := 1, cells := 4, slots := 8, locals := 12 } : Room).cells ({ frames := 1, cells := 4, slots := 8, locals := 12 } : Room).slots) := by
  refine MetFree.of_bodySF (plainFor_of_name own_pn_java_lang_String) hisR ?_
  intro p e s m args below meth c s₁ Bd hml0 hP hK
  obtain ⟨rfl, hZ, hh, hCH⟩ := hP
  have hx := Bd.exec
  have hby := Bd.bytes
  have hml : c.maxLocals = 6 := hml0
  have hown : s.vm.findClass "java/lang/String" = some m.cls := findClass_of_methodNamed Bd.named
  have hnm := (name_of_methodNamed Bd.named Bd.method).1
  have X0 : Stand p l e ({ frames := 1, cells := 4, slots := 8, locals := 12 } : Room) (s.setVm s.vm) m #[(.ref a1), (.ref ar), (.int (0 : Int32)), (.int (0 : Int32)), .null] below meth c s₁ [] 0 0 := Stand.of_body Bd
  have e0 : s₁.heap = h0 := by rw [← hh, Bd.state]; rfl
  have N0 := Fr.nil n0
  have hEL := own_EW Z a0 hw
  have wS := own_wS Z a0 hw
  have hS : s.Since s.vm 0 := (State.WarmedH.refl s).since 0
  have hk : 0 ≤ h0.size := Nat.zero_le _
  have Rc : CHr Z own_EL s.vm h0 s.vm h0 := CHr.refl hCH.1
  replace Sf := CHr.safe hCH Ex.lt Sf
  have Kp : Keep h0 h0 [a1] := Keep.refl h0 _
  show own_GoW p e below s Z (own_Q_own_rn4e Z a1 ar h0 n0) ({ frames := 1, cells := 4, slots := 8, locals := 12 } : Room).cells ({ frames := 1, cells := 4, slots := 8, locals := 12 } : Room).slots (s₁.setTop (entryFrame m #[(.ref a1), (.ref ar), (.int (0 : Int32)), (.int (0 : Int32)), .null] 6))
  refine own_goW (fun zt zk => castTop (own_ef_own_rn4e m a1 ar) zk) ?_
  show own_GoW p e below s _ _ _ _ (s₁.setTop (mkF m 0 #[rv a1, rv ar, iv (0 : Int32), iv (0 : Int32), .val .null, .unset] []))
  refine own_goW (fun zt zk => (XS.aloadN X0.here hx rfl (hb hby own_d4_0) rfl rfl zk)) ?_
  show own_GoW p e below s _ _ _ _ (s₁.setTop (mkF m 1 #[rv a1, rv ar, iv (0 : Int32), iv (0 : Int32), .val .null, .unset] [(.ref a1)]))
  obtain ⟨T1, X1, e1, st1⟩ := initO X0 hx hZ hown (hw _ (List.mem_of_getElem? (i := 18) rfl)) (hw _ (List.mem_of_getElem? (i := 19) rfl)) (hw _ (List.mem_of_getElem? (i := 20) rfl)) e0 (g := (mkF m 1 #[rv a1, rv ar, iv (0 : Int32), iv (0 : Int32), .val .null, .unset] [(.ref a1)])) rfl (by rw [hml]; rfl) rfl (hb hby own_d4_1) (by decide) (W := 0) (by show 2 * 0 + _ ≤ _; exact Nat.le_of_eq rfl) (by decide)
  refine own_goW st1 ?_
  show own_GoW p e below s _ _ _ _ (T1.setTop (mkF m 4 #[rv a1, rv ar, iv (0 : Int32), iv (0 : Int32), .val .null, .unset] []))
  refine own_goW (fun zt zk => (XS.iloadN X1.here hx rfl (hb hby own_d4_4) rfl (XS.ifNo X1.here hx rfl (hb hby own_d4_5) rfl ((if0 _ _).trans (teq (rfl : (0 : Int32) = (0 : Int32))).2) (XS.aloadN X1.here hx rfl (hb hby own_d4_8) rfl rfl zk)))) ?_
  show own_GoW p e below s _ _ _ _ (T1.setTop (mkF m 9 #[rv a1, rv ar, iv (0 : Int32), iv (0 : Int32), .val .null, .unset] [(.ref a1)]))
  obtain ⟨a2, T2, h2, q2, b2, k2, X2, e2, E2, hS2, hk2, hZ2, hown2, Ex_a2, Fc_a2, Fv_a2, Va_b2, lta2, ltb2, A2, Li2, Sn2, st2⟩ := ldcCH X1 hx hZ hown (hw _ (List.mem_of_getElem? (i := 21) rfl)) wS e1 hS hk hEL (by decide +kernel) Rc.1 (vs := []) (z := (0 : Int32)) ⟨by decide +kernel, by decide +kernel⟩ (by decide) rfl (g := (mkF m 9 #[rv a1, rv ar, iv (0 : Int32), iv (0 : Int32), .val .null, .unset] [(.ref a1)])) rfl (hb hby own_d4_9) (n := 0) (by decide +kernel) (by decide) (by decide) (by decide)
  replace Sf := CHr.safe A2 Ex.lt Sf
  replace Ex := Ex.ext E2
  replace Fv := Fv.ext E2
  replace Fc := Fc.ext E2
  replace Kp := Kp.ext E2
  replace Rc := Rc.trans A2
  replace hS := hS2
  replace hk := hk2
  replace hZ := hZ2
  replace hown := hown2
  refine own_goW st2 ?_
  have ne_a1_a2 := (Sn2 a1 Sf).1
  have ne_a1_b2 := (Sn2 a1 Sf).2
  show own_GoW p e below s _ _ _ _ (T2.setTop (mkF m 11 #[rv a1, rv ar, iv (0 : Int32), iv (0 : Int32), .val .null, .unset] [(.ref a2), (.ref a1)]))
  obtain ⟨T3, X3, e3, st3⟩ := getF X2 hx hZ hown (host := "") (Or.inl (hw _ (List.mem_of_getElem? (i := 27) rfl))) Via.refl e2 Fv_a2 (g := (mkF m 11 #[rv a1, rv ar, iv (0 : Int32), iv (0 : Int32), .val .null, .unset] [(.ref a2), (.ref a1)])) rfl rfl (hb hby own_d4_11)
  refine own_goW st3 ?_
  show own_GoW p e below s _ _ _ _ (T3.setTop (mkF m 14 #[rv a1, rv ar, iv (0 : Int32), iv (0 : Int32), .val .null, .unset] [(.ref b2), (.ref a1)]))
  obtain ⟨T4, h4, X4, e4, W4, st4⟩ := putF X3 hx hZ hown (host := "") (Or.inl (hw _ (List.mem_of_getElem? (i := 27) rfl))) Via.refl e3 Fv Ex (Or.inr ⟨(hw _ (List.mem_of_getElem? (i := 23) rfl)), rfl, hnm⟩) (hw _ (List.mem_of_getElem? (i := 9) rfl)) (ty := (.array .byte)) (by decide) rfl rfl (g := (mkF m 14 #[rv a1, rv ar, iv (0 : Int32), iv (0 : Int32), .val .null, .unset] [(.ref b2), (.ref a1)])) rfl rfl (hb hby own_d4_14)
  refine own_goW st4 ?_
  have N4 := Fr.snoc X4 N0 g_a1
  have Sf' := Safe.wr W4 Sf Rc.1 Sf
  replace Rc := Rc.trans (CHr.wr W4 Sf Rc.1)
  replace hk := Nat.le_trans hk (Keep.of_wr W4).1
  replace Sf := Sf'
  replace Ex := Ex.wr W4
  replace Fc := Fc.other W4 (Or.inr (slot_ne (Or.inr (hw _ (List.mem_of_getElem? (i := 24) rfl))) (Or.inr (hw _ (List.mem_of_getElem? (i := 23) rfl))) (by decide) (t := .byte) (t' := (.array .byte)) (by decide) (by decide)))
  replace Kp := Kp.wr W4 (Or.inl (List.mem_of_getElem? (i := 0) rfl))
  replace Ex_a2 := Ex_a2.wr W4
  replace Fc_a2 := Fc_a2.other W4 (Or.inl (Ne.symm ne_a1_a2))
  replace Fv_a2 := Fv_a2.other W4 (Or.inl (Ne.symm ne_a1_a2))
  replace Va_b2 := Va_b2.other W4 (Ne.symm ne_a1_b2)
  replace Fv := Fv.same W4
  show own_GoW p e below s _ _ _ _ (T4.setTop (mkF m 17 #[rv a1, rv ar, iv (0 : Int32), iv (0 : Int32), .val .null, .unset] []))
  refine own_goW (fun zt zk => (XS.aloadN X4.here hx rfl (hb hby own_d4_17) rfl rfl zk)) ?_
  show own_GoW p e below s _ _ _ _ (T4.setTop (mkF m 18 #[rv a1, rv ar, iv (0 : Int32), iv (0 : Int32), .val .null, .unset] [(.ref a1)]))
  obtain ⟨a5, T5, h5, q5, b5, k5, X5, e5, E5, hS5, hk5, hZ5, hown5, Ex_a5, Fc_a5, Fv_a5, Va_b5, lta5, ltb5, A5, Li5, Sn5, st5⟩ := ldcCH X4 hx hZ hown (hw _ (List.mem_of_getElem? (i := 21) rfl)) wS e4 hS hk hEL (by decide +kernel) Rc.1 (vs := []) (z := (0 : Int32)) ⟨by decide +kernel, by decide +kernel⟩ (by decide) rfl (g := (mkF m 18 #[rv a1, rv ar, iv (0 : Int32), iv (0 : Int32), .val .null, .unset] [(.ref a1)])) rfl (hb hby own_d4_18) (n := 0) (by decide +kernel) (by decide) (by decide) (by decide)
  replace Sf := CHr.safe A5 Ex.lt Sf
  replace Ex := Ex.ext E5
  replace Fv := Fv.ext E5
  replace Fc := Fc.ext E5
  replace Kp := Kp.ext E5
  replace Ex_a2 := Ex_a2.ext E5
  replace Fc_a2 := Fc_a2.ext E5
  replace Fv_a2 := Fv_a2.ext E5
  replace Va_b2 := Va_b2.ext E5
  replace Rc := Rc.trans A5
  replace hS := hS5
  replace hk := hk5
  replace hZ := hZ5
  replace hown := hown5
  refine own_goW st5 ?_
  have ne_a1_a5 := (Sn5 a1 Sf).1
  have ne_a1_b5 := (Sn5 a1 Sf).2
  show own_GoW p e below s _ _ _ _ (T5.setTop (mkF m 20 #[rv a1, rv ar, iv (0 : Int32), iv (0 : Int32), .val .null, .unset] [(.ref a5), (.ref a1)]))
  obtain ⟨T6, X6, e6, st6⟩ := getF X5 hx hZ hown (host := "") (Or.inl (hw _ (List.mem_of_getElem? (i := 28) rfl))) Via.refl e5 Fc_a5 (g := (mkF m 20 #[rv a1, rv ar, iv (0 : Int32), iv (0 : Int32), .val .null, .unset] [(.ref a5), (.ref a1)])) rfl rfl (hb hby own_d4_20)
  refine own_goW st6 ?_
  show own_GoW p e below s _ _ _ _ (T6.setTop (mkF m 23 #[rv a1, rv ar, iv (0 : Int32), iv (0 : Int32), .val .null, .unset] [(.int (0 : Int32)), (.ref a1)]))
  obtain ⟨T7, h7, X7, e7, W7, st7⟩ := putFN X6 hx hZ hown (hw _ (List.mem_of_getElem? (i := 28) rfl)) Via.refl e6 Fc Ex (Or.inr ⟨(hw _ (List.mem_of_getElem? (i := 24) rfl)), rfl, hnm⟩) (hw _ (List.mem_of_getElem? (i := 9) rfl)) (ty := .byte) (v' := (.int (0 : Int32))) (by decide) rfl (by decide) (g := (mkF m 23 #[rv a1, rv ar, iv (0 : Int32), iv (0 : Int32), .val .null, .unset] [(.int (0 : Int32)), (.ref a1)])) rfl rfl (hb hby own_d4_23)
  refine own_goW st7 ?_
  have N7 := Fr.snoc X7 N4 g_a1
  have Sf' := Safe.wr W7 Sf Rc.1 Sf
  replace Rc := Rc.trans (CHr.wr W7 Sf Rc.1)
  replace hk := Nat.le_trans hk (Keep.of_wr W7).1
  replace Sf := Sf'
  replace Ex := Ex.wr W7
  replace Fv := Fv.other W7 (Or.inr (slot_ne (Or.inr (hw _ (List.mem_of_getElem? (i := 23) rfl))) (Or.inr (hw _ (List.mem_of_getElem? (i := 24) rfl))) (by decide) (t := (.array .byte)) (t' := .byte) (by decide) (by decide)))
  replace Kp := Kp.wr W7 (Or.inl (List.mem_of_getElem? (i := 0) rfl))
  replace Ex_a2 := Ex_a2.wr W7
  replace Fc_a2 := Fc_a2.other W7 (Or.inl (Ne.symm ne_a1_a2))
  replace Fv_a2 := Fv_a2.other W7 (Or.inl (Ne.symm ne_a1_a2))
  replace Va_b2 := Va_b2.other W7 (Ne.symm ne_a1_b2)
  replace Ex_a5 := Ex_a5.wr W7
  replace Fc_a5 := Fc_a5.other W7 (Or.inl (Ne.symm ne_a1_a5))
  replace Fv_a5 := Fv_a5.other W7 (Or.inl (Ne.symm ne_a1_a5))
  replace Va_b5 := Va_b5.other W7 (Ne.symm ne_a1_b5)
  replace Fc := Fc.same W7
  show own_GoW p e below s _ _ _ _ (T7.setTop (mkF m 26 #[rv a1, rv ar, iv (0 : Int32), iv (0 : Int32), .val .null, .unset] []))
  have Re := Rc.trans (CHv.at X7 hZ hEL Rc.1)
  exact own_finW X7 hS (by rw [e7]; exact hk) (by rw [e7, hh]; exact Re) Bd.notSynchronized (fun _ => rfl) (fun fs hr => X7.returnOut hx Bd.returns (hb hby own_d4_26) hr) (by rw [e7]; exact ⟨b2, k2, rfl, N7, Kp, Ex, Fv, Fc, Va_b2⟩) (by decide) (by decide)
theorem own_d3_0 : decode jdk_42_method_3_code 0 = .ok (.aload_n 0, 1) := by decide +kernel
theorem own_d3_1 : decode jdk_42_method_3_code 1 = .ok (.aload_n 1, 1) := by decide +kernel
theorem own_d3_2 : decode jdk_42_method_3_code 2 = .ok (.iconst 0, 1) := by decide +kernel
theorem own_d3_3 : decode jdk_42_method_3_code 3 = .ok (.aload_n 1, 1) := by decide +kernel
theorem own_d3_4 : decode jdk_42_method_3_code 4 = .ok (.arraylength, 1) := by decide +kernel
theorem own_d3_5 : decode jdk_42_method_3_code 5 = .ok (.aconst_null, 1) := by decide +kernel
theorem own_d3_6 : decode jdk_42_method_3_code 6 = .ok (.invokespecial 27, 3) := by decide +kernel
theorem own_pd___CIILjava_lang_Void__V : parseMethodDescriptor "([CIILjava/lang/Void;)V" = some ⟨[(.array .char), .int, .int, (.object "java/lang/Void")], none⟩ := by decide +kernel
theorem own_d3_9 : decode jdk_42_method_3_code 9 = .ok (.return_, 1) := by decide +kernel
theorem own_ef_own_rn1e (m : MethodId) (a1 : Addr) (ar : Addr) : entryFrame m #[(.ref a1), (.ref ar)] 2 = mkF m 0 #[rv a1, rv ar] [] := by first | (simp [entryFrame, mkF, argsToLocals, Value.category]; done) | rfl
def own_Q_own_rn1e (Z : State) (a1 : Addr) (ar : Addr) (ka : ClassId) (h0 : Heap) (n0 : Nat) (v : Option Value) (h : Heap) (L : List Loc) : Prop := ∃ t kb, v = none ∧ Fr n0 L ∧ Keep h0 h [a1] ∧ Exa Z h a1 "java/lang/String" ∧ Fld Z h a1 "java/lang/String" "value" "[B" (.ref t) ∧ Fld Z h a1 "java/lang/String" "coder" "B" (.int (0 : Int32)) ∧ Arv Z h t kb .byte (0 : Int32) [] (.int (0 : Int32))
set_option maxRecDepth 65536 in
set_option maxHeartbeats 40000000 in
theorem own_rn1e (l : Launch) (Z : State) (a0 : Array Value) (hw : ∀ d ∈ tables_1, d.before a0 Z = true) (ws : List Jvm.Cond) (a1 : Addr) (ar : Addr) (ka : ClassId) (vm0 : Vm) (h0 : Heap) (n0 : Nat) (Z0 : n0 ≤ h0.size) (Ex : Exa Z h0 a1 "java/lang/String") (Fv : Fld Z h0 a1 "java/lang/String" "value" "[B" .null) (Fc : Fld Z h0 a1 "java/lang/String" "coder" "B" (.int (0 : Int32))) (Sf : Safe Z own_EL vm0 h0 a1) (Va : Arv Z h0 ar ka .char (0 : Int32) [] (.int (0 : Int32))) (g_a1 : n0 ≤ a1) (hne : ar ≠ a1) :
    MetFree l (⟨"java/lang/String", "<init>", "([C)V"⟩ : MethodName) (head1 (Jvm.Cond.code (⟨"java/lang/String", "<init>", "([C)V"⟩ : MethodName) jdk_42_method_3_code 2 none :: ws) ({ frames := 2, cells := 4, slots := 8, locals := 29 } : Room)) (fun a U => a = #[(.ref a1), (.ref ar)] ∧ Z.Warmed39 U.vm ∧ U.heap = h0 ∧ CHr Z own_EL vm0 h0 U.vm h0) (fun _ _ _ _ _ => True) (fun _ U o U' => ∃ v L, o = .returned v ∧ own_Q_own_rn1e Z a1 ar ka h0 n0 v U'.heap L ∧ CHr Z own_EL U.vm U.heap U'.vm U'.heap ∧ ReturnedEndW U o U' L ({ frames := 2, cells := 4, slots := 8, locals := 29 } : Room).cells ({ frames := 2, cells := 4, slots := 8, locals := 29 } : Room).slots) := by
  refine MetFree.of_bodySF (plainFor_of_name own_pn_java_lang_String) hisR ?_
  intro p e s m args below meth c s₁ Bd hml0 hP hK
  obtain ⟨rfl, hZ, hh, hCH⟩ := hP
  have hx := Bd.exec
  have hby := Bd.bytes
  have hml : c.maxLocals = 2 := hml0
  have hown : s.vm.findClass "java/lang/String" = some m.cls := findClass_of_methodNamed Bd.named
  have hnm := (name_of_methodNamed Bd.named Bd.method).1
  have X0 : Stand p l e ({ frames := 2, cells := 4, slots := 8, locals := 29 } : Room) (s.setVm s.vm) m #[(.ref a1), (.ref ar)] below meth c s₁ [] 0 0 := Stand.of_body Bd
  have e0 : s₁.heap = h0 := by rw [← hh, Bd.state]; rfl
  have N0 := Fr.nil n0
  have hEL := own_EW Z a0 hw
  have wS := own_wS Z a0 hw
  have hS : s.Since s.vm 0 := (State.WarmedH.refl s).since 0
  have hk : 0 ≤ h0.size := Nat.zero_le _
  have Rc : CHr Z own_EL s.vm h0 s.vm h0 := CHr.refl hCH.1
  replace Sf := CHr.safe hCH Ex.lt Sf
  have Kp : Keep h0 h0 [a1] := Keep.refl h0 _
  show own_GoW p e below s Z (own_Q_own_rn1e Z a1 ar ka h0 n0) ({ frames := 2, cells := 4, slots := 8, locals := 29 } : Room).cells ({ frames := 2, cells := 4, slots := 8, locals := 29 } : Room).slots (s₁.setTop (entryFrame m #[(.ref a1), (.ref ar)] 2))
  refine own_goW (fun zt zk => castTop (own_ef_own_rn1e m a1 ar) zk) ?_
  show own_GoW p e below s _ _ _ _ (s₁.setTop (mkF m 0 #[rv a1, rv ar] []))
  refine own_goW (fun zt zk => (XS.aloadN X0.here hx rfl (hb hby own_d3_0) rfl rfl (XS.aloadN X0.here hx rfl (hb hby own_d3_1) rfl rfl (XS.iconst X0.here hx rfl (hb hby own_d3_2) (XS.aloadN X0.here hx rfl (hb hby own_d3_3) rfl rfl zk))))) ?_
  show own_GoW p e below s _ _ _ _ (s₁.setTop (mkF m 4 #[rv a1, rv ar] [(.ref ar), (.int (0 : Int32)), (.ref ar), (.ref a1)]))
  obtain ⟨cl1, Ar1, -, Sz1, Nz1, -, -⟩ := id Va
  refine own_goW (X0.arraylength hx (by rw [e0]; exact Ar1.1) (State.isArrayOf_alike hZ.alike Ar1.2.1) (g := (mkF m 4 #[rv a1, rv ar] [(.ref ar), (.int (0 : Int32)), (.ref ar), (.ref a1)])) rfl rfl (hb hby own_d3_4)) ?_
  rw [len_of Sz1 Nz1]
  show own_GoW p e below s _ _ _ _ (s₁.setTop (mkF m 5 #[rv a1, rv ar] [(.int (0 : Int32)), (.int (0 : Int32)), (.ref ar), (.ref a1)]))
  refine own_goW (fun zt zk => (XS.aconstNull X0.here hx rfl (hb hby own_d3_5) zk)) ?_
  show own_GoW p e below s _ _ _ _ (s₁.setTop (mkF m 6 #[rv a1, rv ar] [.null, (.int (0 : Int32)), (.int (0 : Int32)), (.ref ar), (.ref a1)]))
  obtain ⟨_, _, ⟨T2, L2, k2, n2⟩, -, X2, hSq2, hgq2, ⟨Lc2, hQ2, l2, y2, z2, A2⟩, st2⟩ := X0.specialBackS hx (y := (⟨"java/lang/String", "<init>", "([CIILjava/lang/Void;)V"⟩ : MethodName)) rfl hown (mvT hZ (hw _ (List.mem_of_getElem? (i := 14) rfl))) (mvT hZ (hw _ (List.mem_of_getElem? (i := 15) rfl))) (mvT hZ (hw _ (List.mem_of_getElem? (i := 17) rfl))) (by decide) (own_backW (s := s) (W := 0) (own_rn4e l Z a0 hw [] a1 ar  s.vm h0 n0 Z0 Ex Fv Fc Sf g_a1) hZ (hw _ (List.mem_of_getElem? (i := 17) rfl)) (hw _ (List.mem_of_getElem? (i := 10) rfl)) (by decide) (by decide) hEL Rc.1) (g := (mkF m 6 #[rv a1, rv ar] [.null, (.int (0 : Int32)), (.int (0 : Int32)), (.ref ar), (.ref a1)])) rfl (by rw [hml]; rfl) (Steps.refl _) (a := a1) (argsL := [(.ref ar), (.int (0 : Int32)), (.int (0 : Int32)), .null]) (rest := []) (lenOf own_pd___CIILjava_lang_Void__V rfl) rfl (by show 2 * 0 + _ ≤ _; exact Nat.le_of_eq rfl) (hb hby own_d3_6) (fun _ _ => ⟨rfl, e0, (by decide : 0 + 4 ≤ _), (by decide : 0 + 8 ≤ _)⟩)
  dsimp only [Pt.U, Pt.locs, Pt.cells, Pt.slots] at X2 l2 y2 z2 st2 hQ2 hSq2 hgq2 A2
  subst l2 y2 z2
  obtain ⟨X2, hS2, hZ2, hown2⟩ := rebS hS (by rw [e0]; exact hk) X2 hSq2 hgq2 hZ hown
  replace Sf := CHr.safe A2 Ex.lt Sf
  replace Rc := Rc.trans A2
  replace hS := hS2
  replace hZ := hZ2
  replace hown := hown2
  have hk : T2.heap.size ≤ T2.heap.size := Nat.le_refl _
  obtain ⟨t2, kb2, rfl, Nq2, K2, -, Fv, Fc, Va2⟩ := hQ2
  have N2 := Fr.app N0 Nq2
  refine own_goW (fun zt zk => st2.trans zk) ?_
  replace Ex := Ex.keep K2
  replace Va := Va.keep K2 (ninS hne nin0)
  replace Kp := Kp.trans K2 (allS (Or.inl (List.mem_of_getElem? (i := 0) rfl)) all0)
  show own_GoW p e below s _ _ _ _ (T2.setTop (mkF m 9 #[rv a1, rv ar] []))
  have Re := Rc.trans (CHv.at X2 hZ hEL Rc.1)
  exact own_finW X2 hS (hk) (by rw [hh]; exact Re) Bd.notSynchronized (fun _ => rfl) (fun fs hr => X2.returnOut hx Bd.returns (hb hby own_d3_9) hr) (⟨t2, kb2, rfl, N2, Kp, Ex, Fv, Fc, Va2⟩) (by decide) (by decide)
theorem own_d9_0 : decode jdk_42_method_152_code 0 = .ok (.getstatic 38, 3) := by decide +kernel
theorem own_d9_3 : decode jdk_42_method_152_code 3 = .ok (.ifCond .eq 10, 3) := by decide +kernel
theorem own_d9_6 : decode jdk_42_method_152_code 6 = .ok (.aload_n 0, 1) := by decide +kernel
theorem own_d9_7 : decode jdk_42_method_152_code 7 = .ok (.getfield 15, 3) := by decide +kernel
theorem own_d9_10 : decode jdk_42_method_152_code 10 = .ok (.goto 4, 3) := by decide +kernel
theorem own_d9_14 : decode jdk_42_method_152_code 14 = .ok (.ireturn, 1) := by decide +kernel
theorem own_ef_own_rcoder (m : MethodId) (a1 : Addr) : entryFrame m #[(.ref a1)] 1 = mkF m 0 #[rv a1] [] := by first | (simp [entryFrame, mkF, argsToLocals, Value.category]; done) | rfl
def own_Q_own_rcoder (Z : State) (a1 : Addr) (cz : Int32) (h0 : Heap) (n0 : Nat) (v : Option Value) (h : Heap) (L : List Loc) : Prop := v = some (.int (0 : Int32)) ∧ Fr n0 L ∧ h = h0
set_option maxRecDepth 65536 in
set_option maxHeartbeats 40000000 in
theorem own_rcoder (l : Launch) (Z : State) (a0 : Array Value) (hw : ∀ d ∈ tables_1, d.before a0 Z = true) (ws : List Jvm.Cond) (a1 : Addr) (cz : Int32) (h0 : Heap) (n0 : Nat) (Z0 : n0 ≤ h0.size) (O : Old Z n0 h0) (SC : Sta Z Z.heap "java/lang/String" "COMPACT_STRINGS" "Z" (.int cz)) (Fc : Fld Z h0 a1 "java/lang/String" "coder" "B" (.int (0 : Int32))) (hz : ¬ (cz = (0 : Int32))) :
    MetFree l (⟨"java/lang/String", "coder", "()B"⟩ : MethodName) (head1 (Jvm.Cond.code (⟨"java/lang/String", "coder", "()B"⟩ : MethodName) jdk_42_method_152_code 1 (some .byte) :: ws) ({ frames := 0, cells := 0, slots := 0, locals := 0 } : Room)) (fun a U => a = #[(.ref a1)] ∧ Z.Warmed39 U.vm ∧ U.heap = h0) (fun _ _ _ _ _ => True) (fun _ U o U' => ∃ v L, o = .returned v ∧ own_Q_own_rcoder Z a1 cz h0 n0 v U'.heap L ∧ FrameEnd U o U' L ({ frames := 0, cells := 0, slots := 0, locals := 0 } : Room).cells ({ frames := 0, cells := 0, slots := 0, locals := 0 } : Room).slots) := by
  refine MetFree.of_bodySF (plainFor_of_name own_pn_java_lang_String) hisR ?_
  intro p e s m args below meth c s₁ Bd hml0 hP hK
  obtain ⟨rfl, hZ, hh⟩ := hP
  have hx := Bd.exec
  have hby := Bd.bytes
  have hml : c.maxLocals = 1 := hml0
  have hown : s.vm.findClass "java/lang/String" = some m.cls := findClass_of_methodNamed Bd.named
  have hnm := (name_of_methodNamed Bd.named Bd.method).1
  have X0 : Stand p l e ({ frames := 0, cells := 0, slots := 0, locals := 0 } : Room) s m #[(.ref a1)] below meth c s₁ [] 0 0 := Stand.of_body Bd
  have e0 : s₁.heap = h0 := by rw [← hh, Bd.state]; rfl
  have N0 := Fr.nil n0
  show own_Go p e below s (own_Q_own_rcoder Z a1 cz h0 n0) ({ frames := 0, cells := 0, slots := 0, locals := 0 } : Room).cells ({ frames := 0, cells := 0, slots := 0, locals := 0 } : Room).slots (s₁.setTop (entryFrame m #[(.ref a1)] 1))
  refine own_go (fun zt zk => castTop (own_ef_own_rcoder m a1) zk) ?_
  show own_Go p e below s _ _ _ (s₁.setTop (mkF m 0 #[rv a1] []))
  obtain ⟨T1, X1, e1, st1⟩ := getS2 X0 hx hZ hown (host := "") (Or.inl (hw _ (List.mem_of_getElem? (i := 48) rfl))) Via.refl e0 (SC.ext O.2) (g := (mkF m 0 #[rv a1] [])) rfl (hb hby own_d9_0)
  refine own_go st1 ?_
  show own_Go p e below s _ _ _ (T1.setTop (mkF m 3 #[rv a1] [(.int cz)]))
  refine own_go (fun zt zk => (XS.ifNo X1.here hx rfl (hb hby own_d9_3) rfl ((if0 _ _).trans (feq (hz : ¬ (cz = (0 : Int32)))).1) (XS.aloadN X1.here hx rfl (hb hby own_d9_6) rfl rfl zk))) ?_
  show own_Go p e below s _ _ _ (T1.setTop (mkF m 7 #[rv a1] [(.ref a1)]))
  obtain ⟨T2, X2, e2, st2⟩ := getF X1 hx hZ hown (host := "") (Or.inl (hw _ (List.mem_of_getElem? (i := 28) rfl))) Via.refl e1 Fc (g := (mkF m 7 #[rv a1] [(.ref a1)])) rfl rfl (hb hby own_d9_7)
  refine own_go st2 ?_
  show own_Go p e below s _ _ _ (T2.setTop (mkF m 10 #[rv a1] [(.int (0 : Int32))]))
  refine own_go (fun zt zk => (XS.goto X2.here hx rfl (pc0 := 10) (pc' := 14) rfl (hb hby own_d9_10) (by decide) (by decide) zk)) ?_
  show own_Go p e below s _ _ _ (T2.setTop (mkF m 14 #[rv a1] [(.int (0 : Int32))]))
  exact own_fin X2 Bd.notSynchronized (fun h => by rw [Bd.returns] at h; cases h) (fun fs hr => retN X2 hx (t := .byte) Bd.returns (by simp) (hb hby own_d9_14) hr) (by rw [e2]; exact ⟨rfl, N0, rfl⟩) (by decide) (by decide)
theorem own_d8_0 : decode jdk_42_method_54_code 0 = .ok (.aload_n 0, 1) := by decide +kernel
theorem own_d8_1 : decode jdk_42_method_54_code 1 = .ok (.getfield 9, 3) := by decide +kernel
theorem own_d8_4 : decode jdk_42_method_54_code 4 = .ok (.arraylength, 1) := by decide +kernel
theorem own_d8_5 : decode jdk_42_method_54_code 5 = .ok (.aload_n 0, 1) := by decide +kernel
theorem own_d8_6 : decode jdk_42_method_54_code 6 = .ok (.invokevirtual 335, 3) := by decide +kernel
theorem own_pd___B : parseMethodDescriptor "()B" = some ⟨[], some .byte⟩ := by decide +kernel
theorem own_d8_9 : decode jdk_42_method_54_code 9 = .ok (.ishr, 1) := by decide +kernel
theorem own_d8_10 : decode jdk_42_method_54_code 10 = .ok (.ireturn, 1) := by decide +kernel
theorem own_ef_own_rlen (m : MethodId) (a1 : Addr) : entryFrame m #[(.ref a1)] 1 = mkF m 0 #[rv a1] [] := by first | (simp [entryFrame, mkF, argsToLocals, Value.category]; done) | rfl
def own_Q_own_rlen (Z : State) (a1 : Addr) (cz : Int32) (t : Addr) (kb : ClassId) (N : Int32) (vs : List Value) (h0 : Heap) (n0 : Nat) (v : Option Value) (h : Heap) (L : List Loc) : Prop := v = some (.int N) ∧ Fr n0 L ∧ h = h0
set_option maxRecDepth 65536 in
set_option maxHeartbeats 40000000 in
theorem own_rlen (l : Launch) (Z : State) (a0 : Array Value) (hw : ∀ d ∈ tables_1, d.before a0 Z = true) (ws : List Jvm.Cond) (a1 : Addr) (cz : Int32) (t : Addr) (kb : ClassId) (N : Int32) (vs : List Value) (h0 : Heap) (n0 : Nat) (Z0 : n0 ≤ h0.size) (O : Old Z n0 h0) (SC : Sta Z Z.heap "java/lang/String" "COMPACT_STRINGS" "Z" (.int cz)) (Ex : Exa Z h0 a1 "java/lang/String") (Fv : Fld Z h0 a1 "java/lang/String" "value" "[B" (.ref t)) (Fc : Fld Z h0 a1 "java/lang/String" "coder" "B" (.int (0 : Int32))) (Va : Arv Z h0 t kb .byte N vs (.int (0 : Int32))) (hz : ¬ (cz = (0 : Int32))) :
    MetFree l (⟨"java/lang/String", "length", "()I"⟩ : MethodName) (head1 (Jvm.Cond.code (⟨"java/lang/String", "length", "()I"⟩ : MethodName) jdk_42_method_54_code 1 (some .int) :: ws) ({ frames := 1, cells := 0, slots := 0, locals := 13 } : Room)) (fun a U => a = #[(.ref a1)] ∧ Z.Warmed39 U.vm ∧ U.heap = h0) (fun _ _ _ _ _ => True) (fun _ U o U' => ∃ v L, o = .returned v ∧ own_Q_own_rlen Z a1 cz t kb N vs h0 n0 v U'.heap L ∧ FrameEnd U o U' L ({ frames := 1, cells := 0, slots := 0, locals := 13 } : Room).cells ({ frames := 1, cells := 0, slots := 0, locals := 13 } : Room).slots) := by
  refine MetFree.of_bodySF (plainFor_of_name own_pn_java_lang_String) hisR ?_
  intro p e s m args below meth c s₁ Bd hml0 hP hK
  obtain ⟨rfl, hZ, hh⟩ := hP
  have hx := Bd.exec
  have hby := Bd.bytes
  have hml : c.maxLocals = 1 := hml0
  have hown : s.vm.findClass "java/lang/String" = some m.cls := findClass_of_methodNamed Bd.named
  have hnm := (name_of_methodNamed Bd.named Bd.method).1
  have X0 : Stand p l e ({ frames := 1, cells := 0, slots := 0, locals := 13 } : Room) s m #[(.ref a1)] below meth c s₁ [] 0 0 := Stand.of_body Bd
  have e0 : s₁.heap = h0 := by rw [← hh, Bd.state]; rfl
  have N0 := Fr.nil n0
  show own_Go p e below s (own_Q_own_rlen Z a1 cz t kb N vs h0 n0) ({ frames := 1, cells := 0, slots := 0, locals := 13 } : Room).cells ({ frames := 1, cells := 0, slots := 0, locals := 13 } : Room).slots (s₁.setTop (entryFrame m #[(.ref a1)] 1))
  refine own_go (fun zt zk => castTop (own_ef_own_rlen m a1) zk) ?_
  show own_Go p e below s _ _ _ (s₁.setTop (mkF m 0 #[rv a1] []))
  refine own_go (fun zt zk => (XS.aloadN X0.here hx rfl (hb hby own_d8_0) rfl rfl zk)) ?_
  show own_Go p e below s _ _ _ (s₁.setTop (mkF m 1 #[rv a1] [(.ref a1)]))
  obtain ⟨T1, X1, e1, st1⟩ := getF X0 hx hZ hown (host := "") (Or.inl (hw _ (List.mem_of_getElem? (i := 27) rfl))) Via.refl e0 Fv (g := (mkF m 1 #[rv a1] [(.ref a1)])) rfl rfl (hb hby own_d8_1)
  refine own_go st1 ?_
  show own_Go p e below s _ _ _ (T1.setTop (mkF m 4 #[rv a1] [(.ref t)]))
  obtain ⟨cl2, Ar2, -, Sz2, Nz2, -, -⟩ := id Va
  refine own_go (X1.arraylength hx (by rw [e1]; exact Ar2.1) (State.isArrayOf_alike hZ.alike Ar2.2.1) (g := (mkF m 4 #[rv a1] [(.ref t)])) rfl rfl (hb hby own_d8_4)) ?_
  rw [len_of Sz2 Nz2]
  show own_Go p e below s _ _ _ (T1.setTop (mkF m 5 #[rv a1] [(.int N)]))
  refine own_go (fun zt zk => (XS.aloadN X1.here hx rfl (hb hby own_d8_5) rfl rfl zk)) ?_
  show own_Go p e below s _ _ _ (T1.setTop (mkF m 6 #[rv a1] [(.ref a1), (.int N)]))
  obtain ⟨cq3, kq3, qa3, qb3, qc3⟩ := isOf hZ e1 Ex
  obtain ⟨_, _, ⟨T3, L3, k3, n3⟩, -, X3, ⟨Lc3, hQ3, l3, y3, z3⟩, st3⟩ := X1.virtualBack hx (y := (⟨"java/lang/String", "coder", "()B"⟩ : MethodName)) (z := (⟨"java/lang/String", "coder", "()B"⟩ : MethodName)) hown (mvT hZ (hw _ (List.mem_of_getElem? (i := 43) rfl))) (mvT hZ (hw _ (List.mem_of_getElem? (i := 44) rfl))) (notFace_of_selects (args := #[]) (mvT hZ (hw _ (List.mem_of_getElem? (i := 46) rfl)))) (mvT hZ (hw _ (List.mem_of_getElem? (i := 46) rfl))) (mvT hZ (hw _ (List.mem_of_getElem? (i := 45) rfl))) (by decide) (backOf (W := 1) (own_rcoder l Z a0 hw [] a1 cz h0 n0 Z0 O SC Fc hz) hZ (hw _ (List.mem_of_getElem? (i := 47) rfl)) (hw _ (List.mem_of_getElem? (i := 10) rfl)) (by decide) (by decide)) qa3 qc3 (g := (mkF m 6 #[rv a1] [(.ref a1), (.int N)])) rfl (by rw [hml]; rfl) (Steps.refl _) (argsL := []) (rest := [(.int N)]) (lenOf own_pd___B rfl) rfl (by show 2 * 0 + _ ≤ _; exact Nat.le_of_eq rfl) (hb hby own_d8_6) (fun _ _ => ⟨rfl, e1, (by decide : 0 + 0 ≤ _), (by decide : 0 + 0 ≤ _)⟩)
  dsimp only [Pt.U, Pt.locs, Pt.cells, Pt.slots] at X3 l3 y3 z3 st3 hQ3
  subst l3 y3 z3
  obtain ⟨rfl, Nq3, e3⟩ := hQ3
  have N3 := Fr.app N0 Nq3
  refine own_go (fun zt zk => st3.trans zk) ?_
  show own_Go p e below s _ _ _ (T3.setTop (mkF m 9 #[rv a1] [(.int (0 : Int32)), (.int N)]))
  refine own_go (fun zt zk => (XS.ishr X3.here hx rfl (hb hby own_d8_9) rfl zk)) ?_
  show own_Go p e below s _ _ _ (T3.setTop (mkF m 10 #[rv a1] [(.int (N >>> ((0 : Int32) &&& 31)))]))
  exact own_fin X3 Bd.notSynchronized (fun h => by rw [Bd.returns] at h; cases h) (fun fs hr => retOut X3 hx (t := .int) (w := (.int (N >>> ((0 : Int32) &&& 31)))) Bd.returns rfl (Or.inl ⟨rfl, Or.inl rfl, _, rfl⟩) (hb hby own_d8_10) hr) (by rw [e3]; exact ⟨congrArg (fun z => some (Value.int z)) (own_shr0 _), N3, rfl⟩) (by decide) (by decide)
theorem own_d11_0 : decode jdk_42_method_154_code 0 = .ok (.getstatic 38, 3) := by decide +kernel
theorem own_d11_3 : decode jdk_42_method_154_code 3 = .ok (.ifCond .eq 14, 3) := by decide +kernel
theorem own_d11_6 : decode jdk_42_method_154_code 6 = .ok (.aload_n 0, 1) := by decide +kernel
theorem own_d11_7 : decode jdk_42_method_154_code 7 = .ok (.getfield 15, 3) := by decide +kernel
theorem own_d11_10 : decode jdk_42_method_154_code 10 = .ok (.ifCond .ne 7, 3) := by decide +kernel
theorem own_d11_13 : decode jdk_42_method_154_code 13 = .ok (.iconst 1, 1) := by decide +kernel
theorem own_d11_14 : decode jdk_42_method_154_code 14 = .ok (.goto 4, 3) := by decide +kernel
theorem own_d11_18 : decode jdk_42_method_154_code 18 = .ok (.ireturn, 1) := by decide +kernel
theorem own_ef_own_risl (m : MethodId) (a1 : Addr) : entryFrame m #[(.ref a1)] 1 = mkF m 0 #[rv a1] [] := by first | (simp [entryFrame, mkF, argsToLocals, Value.category]; done) | rfl
def own_Q_own_risl (Z : State) (a1 : Addr) (cz : Int32) (h0 : Heap) (n0 : Nat) (v : Option Value) (h : Heap) (L : List Loc) : Prop := v = some (.int (1 : Int32)) ∧ Fr n0 L ∧ h = h0
set_option maxRecDepth 65536 in
set_option maxHeartbeats 40000000 in
theorem own_risl (l : Launch) (Z : State) (a0 : Array Value) (hw : ∀ d ∈ tables_1, d.before a0 Z = true) (ws : List Jvm.Cond) (a1 : Addr) (cz : Int32) (h0 : Heap) (n0 : Nat) (Z0 : n0 ≤ h0.size) (O : Old Z n0 h0) (SC : Sta Z Z.heap "java/lang/String" "COMPACT_STRINGS" "Z" (.int cz)) (Fc : Fld Z h0 a1 "java/lang/String" "coder" "B" (.int (0 : Int32))) (hz : ¬ (cz = (0 : Int32))) :
    MetFree l (⟨"java/lang/String", "isLatin1", "()Z"⟩ : MethodName) (head1 (Jvm.Cond.code (⟨"java/lang/String", "isLatin1", "()Z"⟩ : MethodName) jdk_42_method_154_code 1 (some .boolean) :: ws) ({ frames := 0, cells := 0, slots := 0, locals := 0 } : Room)) (fun a U => a = #[(.ref a1)] ∧ Z.Warmed39 U.vm ∧ U.heap = h0) (fun _ _ _ _ _ => True) (fun _ U o U' => ∃ v L, o = .returned v ∧ own_Q_own_risl Z a1 cz h0 n0 v U'.heap L ∧ FrameEnd U o U' L ({ frames := 0, cells := 0, slots := 0, locals := 0 } : Room).cells ({ frames := 0, cells := 0, slots := 0, locals := 0 } : Room).slots) := by
  refine MetFree.of_bodySF (plainFor_of_name own_pn_java_lang_String) hisR ?_
  intro p e s m args below meth c s₁ Bd hml0 hP hK
  obtain ⟨rfl, hZ, hh⟩ := hP
  have hx := Bd.exec
  have hby := Bd.bytes
  have hml : c.maxLocals = 1 := hml0
  have hown : s.vm.findClass "java/lang/String" = some m.cls := findClass_of_methodNamed Bd.named
  have hnm := (name_of_methodNamed Bd.named Bd.method).1
  have X0 : Stand p l e ({ frames := 0, cells := 0, slots := 0, locals := 0 } : Room) s m #[(.ref a1)] below meth c s₁ [] 0 0 := Stand.of_body Bd
  have e0 : s₁.heap = h0 := by rw [← hh, Bd.state]; rfl
  have N0 := Fr.nil n0
  show own_Go p e below s (own_Q_own_risl Z a1 cz h0 n0) ({ frames := 0, cells := 0, slots := 0, locals := 0 } : Room).cells ({ frames := 0, cells := 0, slots := 0, locals := 0 } : Room).slots (s₁.setTop (entryFrame m #[(.ref a1)] 1))
  refine own_go (fun zt zk => castTop (own_ef_own_risl m a1) zk) ?_
  show own_Go p e below s _ _ _ (s₁.setTop (mkF m 0 #[rv a1] []))
  obtain ⟨T1, X1, e1, st1⟩ := getS2 X0 hx hZ hown (host := "") (Or.inl (hw _ (List.mem_of_getElem? (i := 48) rfl))) Via.refl e0 (SC.ext O.2) (g := (mkF m 0 #[rv a1] [])) rfl (hb hby own_d11_0)
  refine own_go st1 ?_
  show own_Go p e below s _ _ _ (T1.setTop (mkF m 3 #[rv a1] [(.int cz)]))
  refine own_go (fun zt zk => (XS.ifNo X1.here hx rfl (hb hby own_d11_3) rfl ((if0 _ _).trans (feq (hz : ¬ (cz = (0 : Int32)))).1) (XS.aloadN X1.here hx rfl (hb hby own_d11_6) rfl rfl zk))) ?_
  show own_Go p e below s _ _ _ (T1.setTop (mkF m 7 #[rv a1] [(.ref a1)]))
  obtain ⟨T2, X2, e2, st2⟩ := getF X1 hx hZ hown (host := "") (Or.inl (hw _ (List.mem_of_getElem? (i := 28) rfl))) Via.refl e1 Fc (g := (mkF m 7 #[rv a1] [(.ref a1)])) rfl rfl (hb hby own_d11_7)
  refine own_go st2 ?_
  show own_Go p e below s _ _ _ (T2.setTop (mkF m 10 #[rv a1] [(.int (0 : Int32))]))
  refine own_go (fun zt zk => (XS.ifNo X2.here hx rfl (hb hby own_d11_10) rfl ((if0 _ _).trans (teq (rfl : (0 : Int32) = (0 : Int32))).2) (XS.iconst X2.here hx rfl (hb hby own_d11_13) (XS.goto X2.here hx rfl (pc0 := 14) (pc' := 18) rfl (hb hby own_d11_14) (by decide) (by decide) zk)))) ?_
  show own_Go p e below s _ _ _ (T2.setTop (mkF m 18 #[rv a1] [(.int (1 : Int32))]))
  exact own_fin X2 Bd.notSynchronized (fun h => by rw [Bd.returns] at h; cases h) (fun fs hr => retN X2 hx (t := .boolean) Bd.returns (by simp) (hb hby own_d11_18) hr) (by rw [e2]; exact ⟨rfl, N0, rfl⟩) (by decide) (by decide)
theorem own_d32_0 : decode jdk_41_method_11_code 0 = .ok (.iload_n 0, 1) := by decide +kernel
theorem own_d32_1 : decode jdk_41_method_11_code 1 = .ok (.ifCond .lt 8, 3) := by decide +kernel
theorem own_d32_4 : decode jdk_41_method_11_code 4 = .ok (.iload_n 0, 1) := by decide +kernel
theorem own_d32_5 : decode jdk_41_method_11_code 5 = .ok (.iload_n 1, 1) := by decide +kernel
theorem own_d32_6 : decode jdk_41_method_11_code 6 = .ok (.if_icmp .lt 10, 3) := by decide +kernel
theorem own_d32_16 : decode jdk_41_method_11_code 16 = .ok (.iload_n 0, 1) := by decide +kernel
theorem own_d32_17 : decode jdk_41_method_11_code 17 = .ok (.ireturn, 1) := by decide +kernel
theorem own_pn_jdk_internal_util_Preconditions : plainName "jdk/internal/util/Preconditions" = true := by first | (simp [plainName, overriddenIn]; done) | decide +kernel
theorem own_ef_own_rpre (m : MethodId) (p1 : Int32) (p2 : Int32) (fm : Value) (rfm : fm.isRef = true) : entryFrame m #[(.int p1), (.int p2), fm] 3 = mkF m 0 #[iv p1, iv p2, .val fm] [] := by rcases ref_cases rfm with rfl | ⟨_, rfl⟩ <;> first | (simp [entryFrame, mkF, argsToLocals, Value.category]; done) | rfl
def own_Q_own_rpre (Z : State) (p1 : Int32) (p2 : Int32) (fm : Value) (h0 : Heap) (n0 : Nat) (v : Option Value) (h : Heap) (L : List Loc) : Prop := v = some (.int p1) ∧ Fr n0 L ∧ h = h0
set_option maxRecDepth 65536 in
set_option maxHeartbeats 40000000 in
theorem own_rpre (l : Launch) (Z : State) (a0 : Array Value) (hw : ∀ d ∈ tables_1, d.before a0 Z = true) (ws : List Jvm.Cond) (p1 : Int32) (p2 : Int32) (fm : Value) (h0 : Heap) (n0 : Nat) (Z0 : n0 ≤ h0.size)  (rfm : fm.isRef = true) (hj : ¬ (p1 < (0 : Int32)) ∧ p1 < p2) :
    MetFree l (⟨"jdk/internal/util/Preconditions", "checkIndex", "(IILjava/util/function/BiFunction;)I"⟩ : MethodName) (head1 (Jvm.Cond.code (⟨"jdk/internal/util/Preconditions", "checkIndex", "(IILjava/util/function/BiFunction;)I"⟩ : MethodName) jdk_41_method_11_code 3 (some .int) :: ws) ({ frames := 0, cells := 0, slots := 0, locals := 0 } : Room)) (fun a U => a = #[(.int p1), (.int p2), fm] ∧ Z.Warmed39 U.vm ∧ U.heap = h0) (fun _ _ _ _ _ => True) (fun _ U o U' => ∃ v L, o = .returned v ∧ own_Q_own_rpre Z p1 p2 fm h0 n0 v U'.heap L ∧ FrameEnd U o U' L ({ frames := 0, cells := 0, slots := 0, locals := 0 } : Room).cells ({ frames := 0, cells := 0, slots := 0, locals := 0 } : Room).slots) := by
  refine MetFree.of_bodySF (plainFor_of_name own_pn_jdk_internal_util_Preconditions) hisR ?_
  intro p e s m args below meth c s₁ Bd hml0 hP hK
  obtain ⟨rfl, hZ, hh⟩ := hP
  have hx := Bd.exec
  have hby := Bd.bytes
  have hml : c.maxLocals = 3 := hml0
  have hown : s.vm.findClass "jdk/internal/util/Preconditions" = some m.cls := findClass_of_methodNamed Bd.named
  have hnm := (name_of_methodNamed Bd.named Bd.method).1
  have X0 : Stand p l e ({ frames := 0, cells := 0, slots := 0, locals := 0 } : Room) s m #[(.int p1), (.int p2), fm] below meth c s₁ [] 0 0 := Stand.of_body Bd
  have e0 : s₁.heap = h0 := by rw [← hh, Bd.state]; rfl
  have N0 := Fr.nil n0
  show own_Go p e below s (own_Q_own_rpre Z p1 p2 fm h0 n0) ({ frames := 0, cells := 0, slots := 0, locals := 0 } : Room).cells ({ frames := 0, cells := 0, slots := 0, locals := 0 } : Room).slots (s₁.setTop (entryFrame m #[(.int p1), (.int p2), fm] 3))
  refine own_go (fun zt zk => castTop (own_ef_own_rpre m p1 p2 fm rfm) zk) ?_
  show own_Go p e below s _ _ _ (s₁.setTop (mkF m 0 #[iv p1, iv p2, .val fm] []))
  refine own_go (fun zt zk => (XS.iloadN X0.here hx rfl (hb hby own_d32_0) rfl (XS.ifNo X0.here hx rfl (hb hby own_d32_1) rfl ((if0 _ _).trans (flt (hj.1 : ¬ (p1 < (0 : Int32)))).1) (XS.iloadN X0.here hx rfl (hb hby own_d32_4) rfl (XS.iloadN X0.here hx rfl (hb hby own_d32_5) rfl (XS.icmpYes X0.here hx rfl (pc0 := 6) (pc' := 16) rfl (hb hby own_d32_6) rfl (tlt (hj.2 : p1 < p2)).1 (by decide) (by decide) (XS.iloadN X0.here hx rfl (hb hby own_d32_16) rfl zk))))))) ?_
  show own_Go p e below s _ _ _ (s₁.setTop (mkF m 17 #[iv p1, iv p2, .val fm] [(.int p1)]))
  exact own_fin X0 Bd.notSynchronized (fun h => by rw [Bd.returns] at h; cases h) (fun fs hr => retOut X0 hx (t := .int) (w := (.int p1)) Bd.returns rfl (Or.inl ⟨rfl, Or.inl rfl, _, rfl⟩) (hb hby own_d32_17) hr) (by rw [e0]; exact ⟨rfl, N0, rfl⟩) (by decide) (by decide)
theorem own_d31_0 : decode jdk_42_method_155_code 0 = .ok (.iload_n 0, 1) := by decide +kernel
theorem own_d31_1 : decode jdk_42_method_155_code 1 = .ok (.iload_n 1, 1) := by decide +kernel
theorem own_d31_2 : decode jdk_42_method_155_code 2 = .ok (.getstatic 1053, 3) := by decide +kernel
theorem own_d31_5 : decode jdk_42_method_155_code 5 = .ok (.invokestatic 1059, 3) := by decide +kernel
theorem own_pd__IILjava_util_function_BiFunction__I : parseMethodDescriptor "(IILjava/util/function/BiFunction;)I" = some ⟨[.int, .int, (.object "java/util/function/BiFunction")], some .int⟩ := by decide +kernel
theorem own_d31_8 : decode jdk_42_method_155_code 8 = .ok (.pop, 1) := by decide +kernel
theorem own_d31_9 : decode jdk_42_method_155_code 9 = .ok (.return_, 1) := by decide +kernel
theorem own_ef_own_rchk (m : MethodId) (p1 : Int32) (p2 : Int32) : entryFrame m #[(.int p1), (.int p2)] 2 = mkF m 0 #[iv p1, iv p2] [] := by first | (simp [entryFrame, mkF, argsToLocals, Value.category]; done) | rfl
def own_Q_own_rchk (Z : State) (p1 : Int32) (p2 : Int32) (fm : Value) (h0 : Heap) (n0 : Nat) (v : Option Value) (h : Heap) (L : List Loc) : Prop := v = none ∧ Fr n0 L ∧ h = h0
set_option maxRecDepth 65536 in
set_option maxHeartbeats 40000000 in
theorem own_rchk (l : Launch) (Z : State) (a0 : Array Value) (hw : ∀ d ∈ tables_1, d.before a0 Z = true) (ws : List Jvm.Cond) (p1 : Int32) (p2 : Int32) (fm : Value) (h0 : Heap) (n0 : Nat) (Z0 : n0 ≤ h0.size) (O : Old Z n0 h0) (SF : Sta Z Z.heap "jdk/internal/util/Preconditions" "SIOOBE_FORMATTER" "Ljava/util/function/BiFunction;" fm) (rfm : fm.isRef = true) (hj : ¬ (p1 < (0 : Int32)) ∧ p1 < p2) :
    MetFree l (⟨"java/lang/String", "checkIndex", "(II)V"⟩ : MethodName) (head1 (Jvm.Cond.code (⟨"java/lang/String", "checkIndex", "(II)V"⟩ : MethodName) jdk_42_method_155_code 2 none :: ws) ({ frames := 1, cells := 0, slots := 0, locals := 14 } : Room)) (fun a U => a = #[(.int p1), (.int p2)] ∧ Z.Warmed39 U.vm ∧ U.heap = h0) (fun _ _ _ _ _ => True) (fun _ U o U' => ∃ v L, o = .returned v ∧ own_Q_own_rchk Z p1 p2 fm h0 n0 v U'.heap L ∧ FrameEnd U o U' L ({ frames := 1, cells := 0, slots := 0, locals := 14 } : Room).cells ({ frames := 1, cells := 0, slots := 0, locals := 14 } : Room).slots) := by
  refine MetFree.of_bodySF (plainFor_of_name own_pn_java_lang_String) hisR ?_
  intro p e s m args below meth c s₁ Bd hml0 hP hK
  obtain ⟨rfl, hZ, hh⟩ := hP
  have hx := Bd.exec
  have hby := Bd.bytes
  have hml : c.maxLocals = 2 := hml0
  have hown : s.vm.findClass "java/lang/String" = some m.cls := findClass_of_methodNamed Bd.named
  have hnm := (name_of_methodNamed Bd.named Bd.method).1
  have X0 : Stand p l e ({ frames := 1, cells := 0, slots := 0, locals := 14 } : Room) s m #[(.int p1), (.int p2)] below meth c s₁ [] 0 0 := Stand.of_body Bd
  have e0 : s₁.heap = h0 := by rw [← hh, Bd.state]; rfl
  have N0 := Fr.nil n0
  show own_Go p e below s (own_Q_own_rchk Z p1 p2 fm h0 n0) ({ frames := 1, cells := 0, slots := 0, locals := 14 } : Room).cells ({ frames := 1, cells := 0, slots := 0, locals := 14 } : Room).slots (s₁.setTop (entryFrame m #[(.int p1), (.int p2)] 2))
  refine own_go (fun zt zk => castTop (own_ef_own_rchk m p1 p2) zk) ?_
  show own_Go p e below s _ _ _ (s₁.setTop (mkF m 0 #[iv p1, iv p2] []))
  refine own_go (fun zt zk => (XS.iloadN X0.here hx rfl (hb hby own_d31_0) rfl (XS.iloadN X0.here hx rfl (hb hby own_d31_1) rfl zk))) ?_
  show own_Go p e below s _ _ _ (s₁.setTop (mkF m 2 #[iv p1, iv p2] [(.int p2), (.int p1)]))
  obtain ⟨T1, X1, e1, st1⟩ := getS2 X0 hx hZ hown (host := "") (Or.inl (hw _ (List.mem_of_getElem? (i := 83) rfl))) Via.refl e0 (SF.ext O.2) (g := (mkF m 2 #[iv p1, iv p2] [(.int p2), (.int p1)])) rfl (hb hby own_d31_2)
  refine own_go st1 ?_
  show own_Go p e below s _ _ _ (T1.setTop (mkF m 5 #[iv p1, iv p2] [fm, (.int p2), (.int p1)]))
  obtain ⟨_, _, ⟨T2, L2, k2, n2⟩, -, X2, ⟨Lc2, hQ2, l2, y2, z2⟩, st2⟩ := Jvm.LawKit.callS X1 hx (y := (⟨"jdk/internal/util/Preconditions", "checkIndex", "(IILjava/util/function/BiFunction;)I"⟩ : MethodName)) hown (mvT hZ (hw _ (List.mem_of_getElem? (i := 139) rfl))) (mvT hZ (hw _ (List.mem_of_getElem? (i := 140) rfl))) (mvT hZ (hw _ (List.mem_of_getElem? (i := 84) rfl))) (mvT hZ (hw _ (List.mem_of_getElem? (i := 141) rfl))) (by decide) (backOf (W := 0) (own_rpre l Z a0 hw [] p1 p2 fm  h0 n0 Z0 rfm hj) hZ (hw _ (List.mem_of_getElem? (i := 141) rfl)) (hw _ (List.mem_of_getElem? (i := 84) rfl)) (by decide) (by decide)) (g := (mkF m 5 #[iv p1, iv p2] [fm, (.int p2), (.int p1)])) rfl (by rw [hml]; rfl) (argsL := [(.int p1), (.int p2), fm]) (rest := []) (lenOf own_pd__IILjava_util_function_BiFunction__I rfl) rfl (by show 2 * 0 + _ ≤ _; exact Nat.le_of_eq rfl) (hb hby own_d31_5) (fun _ _ => ⟨rfl, e1, (by decide : 0 + 0 ≤ _), (by decide : 0 + 0 ≤ _)⟩)
  dsimp only [Pt.U, Pt.locs, Pt.cells, Pt.slots] at X2 l2 y2 z2 st2 hQ2
  subst l2 y2 z2
  obtain ⟨rfl, Nq2, e2⟩ := hQ2
  have N2 := Fr.app N0 Nq2
  refine own_go st2 ?_
  show own_Go p e below s _ _ _ (T2.setTop (mkF m 8 #[iv p1, iv p2] [(.int p1)]))
  refine own_go (fun zt zk => (XS.pop X2.here hx rfl (hb hby own_d31_8) rfl rfl zk)) ?_
  show own_Go p e below s _ _ _ (T2.setTop (mkF m 9 #[iv p1, iv p2] []))
  exact own_fin X2 Bd.notSynchronized (fun _ => rfl) (fun fs hr => X2.returnOut hx Bd.returns (hb hby own_d31_9) hr) (by rw [e2]; exact ⟨rfl, N2, rfl⟩) (by decide) (by decide)
theorem own_d30_0 : decode jdk_43_method_2_code 0 = .ok (.iload_n 1, 1) := by decide +kernel
theorem own_d30_1 : decode jdk_43_method_2_code 1 = .ok (.aload_n 0, 1) := by decide +kernel
theorem own_d30_2 : decode jdk_43_method_2_code 2 = .ok (.arraylength, 1) := by decide +kernel
theorem own_d30_3 : decode jdk_43_method_2_code 3 = .ok (.invokestatic 9, 3) := by decide +kernel
theorem own_pd__II_V : parseMethodDescriptor "(II)V" = some ⟨[.int, .int], none⟩ := by decide +kernel
theorem own_d30_6 : decode jdk_43_method_2_code 6 = .ok (.aload_n 0, 1) := by decide +kernel
theorem own_d30_7 : decode jdk_43_method_2_code 7 = .ok (.iload_n 1, 1) := by decide +kernel
theorem own_d30_8 : decode jdk_43_method_2_code 8 = .ok (.baload, 1) := by decide +kernel
theorem own_d30_9 : decode jdk_43_method_2_code 9 = .ok (.sipush 255, 3) := by decide +kernel
theorem own_d30_12 : decode jdk_43_method_2_code 12 = .ok (.iand, 1) := by decide +kernel
theorem own_d30_13 : decode jdk_43_method_2_code 13 = .ok (.i2c, 1) := by decide +kernel
theorem own_d30_14 : decode jdk_43_method_2_code 14 = .ok (.ireturn, 1) := by decide +kernel
theorem own_pn_java_lang_StringLatin1 : plainName "java/lang/StringLatin1" = true := by first | (simp [plainName, overriddenIn]; done) | decide +kernel
theorem own_ef_own_rlch (m : MethodId) (t : Addr) (p1 : Int32) : entryFrame m #[(.ref t), (.int p1)] 2 = mkF m 0 #[rv t, iv p1] [] := by first | (simp [entryFrame, mkF, argsToLocals, Value.category]; done) | rfl
def own_Q_own_rlch (Z : State) (t : Addr) (p1 : Int32) (fm : Value) (kb : ClassId) (N : Int32) (vs : List Value) (x : Int32) (h0 : Heap) (n0 : Nat) (v : Option Value) (h : Heap) (L : List Loc) : Prop := v = some (.int (x &&& (255 : Int32))) ∧ Fr n0 L ∧ h = h0
set_option maxRecDepth 65536 in
set_option maxHeartbeats 40000000 in
theorem own_rlch (l : Launch) (Z : State) (a0 : Array Value) (hw : ∀ d ∈ tables_1, d.before a0 Z = true) (ws : List Jvm.Cond) (t : Addr) (p1 : Int32) (fm : Value) (kb : ClassId) (N : Int32) (vs : List Value) (x : Int32) (h0 : Heap) (n0 : Nat) (Z0 : n0 ≤ h0.size) (O : Old Z n0 h0) (SF : Sta Z Z.heap "jdk/internal/util/Preconditions" "SIOOBE_FORMATTER" "Ljava/util/function/BiFunction;" fm) (Va : Arv Z h0 t kb .byte N vs (.int (0 : Int32))) (rfm : fm.isRef = true) (hj : ¬ (p1 < (0 : Int32)) ∧ p1 < N) (hat : vs.getD p1.toNatClampNeg (.int (0 : Int32)) = .int x) :
    MetFree l (⟨"java/lang/StringLatin1", "charAt", "([BI)C"⟩ : MethodName) (head1 (Jvm.Cond.code (⟨"java/lang/StringLatin1", "charAt", "([BI)C"⟩ : MethodName) jdk_43_method_2_code 2 (some .char) :: ws) ({ frames := 2, cells := 0, slots := 0, locals := 27 } : Room)) (fun a U => a = #[(.ref t), (.int p1)] ∧ Z.Warmed39 U.vm ∧ U.heap = h0) (fun _ _ _ _ _ => True) (fun _ U o U' => ∃ v L, o = .returned v ∧ own_Q_own_rlch Z t p1 fm kb N vs x h0 n0 v U'.heap L ∧ FrameEnd U o U' L ({ frames := 2, cells := 0, slots := 0, locals := 27 } : Room).cells ({ frames := 2, cells := 0, slots := 0, locals := 27 } : Room).slots) := by
  refine MetFree.of_bodySF (plainFor_of_name own_pn_java_lang_StringLatin1) hisR ?_
  intro p e s m args below meth c s₁ Bd hml0 hP hK
  obtain ⟨rfl, hZ, hh⟩ := hP
  have hx := Bd.exec
  have hby := Bd.bytes
  have hml : c.maxLocals = 2 := hml0
  have hown : s.vm.findClass "java/lang/StringLatin1" = some m.cls := findClass_of_methodNamed Bd.named
  have hnm := (name_of_methodNamed Bd.named Bd.method).1
  have X0 : Stand p l e ({ frames := 2, cells := 0, slots := 0, locals := 27 } : Room) s m #[(.ref t), (.int p1)] below meth c s₁ [] 0 0 := Stand.of_body Bd
  have e0 : s₁.heap = h0 := by rw [← hh, Bd.state]; rfl
  have N0 := Fr.nil n0
  show own_Go p e below s (own_Q_own_rlch Z t p1 fm kb N vs x h0 n0) ({ frames := 2, cells := 0, slots := 0, locals := 27 } : Room).cells ({ frames := 2, cells := 0, slots := 0, locals := 27 } : Room).slots (s₁.setTop (entryFrame m #[(.ref t), (.int p1)] 2))
  refine own_go (fun zt zk => castTop (own_ef_own_rlch m t p1) zk) ?_
  show own_Go p e below s _ _ _ (s₁.setTop (mkF m 0 #[rv t, iv p1] []))
  refine own_go (fun zt zk => (XS.iloadN X0.here hx rfl (hb hby own_d30_0) rfl (XS.aloadN X0.here hx rfl (hb hby own_d30_1) rfl rfl zk))) ?_
  show own_Go p e below s _ _ _ (s₁.setTop (mkF m 2 #[rv t, iv p1] [(.ref t), (.int p1)]))
  obtain ⟨cl1, Ar1, -, Sz1, Nz1, -, -⟩ := id Va
  refine own_go (X0.arraylength hx (by rw [e0]; exact Ar1.1) (State.isArrayOf_alike hZ.alike Ar1.2.1) (g := (mkF m 2 #[rv t, iv p1] [(.ref t), (.int p1)])) rfl rfl (hb hby own_d30_2)) ?_
  rw [len_of Sz1 Nz1]
  show own_Go p e below s _ _ _ (s₁.setTop (mkF m 3 #[rv t, iv p1] [(.int N), (.int p1)]))
  obtain ⟨_, _, ⟨T2, L2, k2, n2⟩, -, X2, ⟨Lc2, hQ2, l2, y2, z2⟩, st2⟩ := Jvm.LawKit.callS X0 hx (y := (⟨"java/lang/String", "checkIndex", "(II)V"⟩ : MethodName)) hown (mvT hZ (hw _ (List.mem_of_getElem? (i := 136) rfl))) (mvT hZ (hw _ (List.mem_of_getElem? (i := 137) rfl))) (mvT hZ (hw _ (List.mem_of_getElem? (i := 10) rfl))) (mvT hZ (hw _ (List.mem_of_getElem? (i := 138) rfl))) (by decide) (backOf (W := 0) (own_rchk l Z a0 hw [] p1 N fm h0 n0 Z0 O SF rfm hj) hZ (hw _ (List.mem_of_getElem? (i := 138) rfl)) (hw _ (List.mem_of_getElem? (i := 10) rfl)) (by decide) (by decide)) (g := (mkF m 3 #[rv t, iv p1] [(.int N), (.int p1)])) rfl (by rw [hml]; rfl) (argsL := [(.int p1), (.int N)]) (rest := []) (lenOf own_pd__II_V rfl) rfl (by show 2 * 0 + _ ≤ _; exact Nat.le_of_eq rfl) (hb hby own_d30_3) (fun _ _ => ⟨rfl, e0, (by decide : 0 + 0 ≤ _), (by decide : 0 + 0 ≤ _)⟩)
  dsimp only [Pt.U, Pt.locs, Pt.cells, Pt.slots] at X2 l2 y2 z2 st2 hQ2
  subst l2 y2 z2
  obtain ⟨rfl, Nq2, e2⟩ := hQ2
  have N2 := Fr.app N0 Nq2
  refine own_go st2 ?_
  show own_Go p e below s _ _ _ (T2.setTop (mkF m 6 #[rv t, iv p1] []))
  refine own_go (fun zt zk => (XS.aloadN X2.here hx rfl (hb hby own_d30_6) rfl rfl (XS.iloadN X2.here hx rfl (hb hby own_d30_7) rfl zk))) ?_
  show own_Go p e below s _ _ _ (T2.setTop (mkF m 8 #[rv t, iv p1] [(.int p1), (.ref t)]))
  obtain ⟨cl3, Ar3, q3, Sz3, Nz3, Ha3, Ga3⟩ := id Va
  have hin3 : ¬ (p1 < 0 ∨ cl3.slots.size ≤ (p1).toNatClampNeg) := inb_of Sz3 hj
  have hat3 : cl3.slots[(p1).toNatClampNeg]? = some (.int x) := Has.at Ha3 hin3 hat
  refine own_go (X2.baloadBytes hx (j := p1) (v := (.int x)) (by rw [e2]; exact Ar3.1) (State.isArrayOf_alike hZ.alike Ar3.2.1) Ar3.2.2 hin3 hat3 (g := (mkF m 8 #[rv t, iv p1] [(.int p1), (.ref t)])) rfl rfl (hb hby own_d30_8)) ?_
  show own_Go p e below s _ _ _ (T2.setTop (mkF m 9 #[rv t, iv p1] [(.int x)]))
  refine own_go (fun zt zk => (XS.sipush X2.here hx rfl (hb hby own_d30_9) (XS.iand X2.here hx rfl (hb hby own_d30_12) rfl (XS.i2c X2.here hx rfl (hb hby own_d30_13) rfl zk)))) ?_
  show own_Go p e below s _ _ _ (T2.setTop (mkF m 14 #[rv t, iv p1] [(.int ((x &&& (255 : Int32)).toUInt32.toUInt16.toUInt32.toInt32))]))
  rw [i2c_mask]
  generalize hv_c4 : (x &&& (255 : Int32)) = c4
  have hr_c4 := own_r255 hv_c4
  show own_Go p e below s _ _ _ (T2.setTop (mkF m 14 #[rv t, iv p1] [(.int c4)]))
  exact own_fin X2 Bd.notSynchronized (fun h => by rw [Bd.returns] at h; cases h) (fun fs hr => retN X2 hx (t := .char) Bd.returns (by simp) (hb hby own_d30_14) hr) (by rw [e2]; exact ⟨congrArg (fun z => some (Value.int z)) ((own_narc hr_c4).trans hv_c4.symm), N2, rfl⟩) (by decide) (by decide)
theorem own_d29_0 : decode jdk_42_method_56_code 0 = .ok (.aload_n 0, 1) := by decide +kernel
theorem own_d29_1 : decode jdk_42_method_56_code 1 = .ok (.invokevirtual 492, 3) := by decide +kernel
theorem own_pd___Z : parseMethodDescriptor "()Z" = some ⟨[], some .boolean⟩ := by decide +kernel
theorem own_d29_4 : decode jdk_42_method_56_code 4 = .ok (.ifCond .eq 12, 3) := by decide +kernel
theorem own_d29_7 : decode jdk_42_method_56_code 7 = .ok (.aload_n 0, 1) := by decide +kernel
theorem own_d29_8 : decode jdk_42_method_56_code 8 = .ok (.getfield 9, 3) := by decide +kernel
theorem own_d29_11 : decode jdk_42_method_56_code 11 = .ok (.iload_n 1, 1) := by decide +kernel
theorem own_d29_12 : decode jdk_42_method_56_code 12 = .ok (.invokestatic 495, 3) := by decide +kernel
theorem own_pd___BI_C : parseMethodDescriptor "([BI)C" = some ⟨[(.array .byte), .int], some .char⟩ := by decide +kernel
theorem own_d29_15 : decode jdk_42_method_56_code 15 = .ok (.ireturn, 1) := by decide +kernel
theorem own_ef_own_rchar (m : MethodId) (a1 : Addr) (p1 : Int32) : entryFrame m #[(.ref a1), (.int p1)] 2 = mkF m 0 #[rv a1, iv p1] [] := by first | (simp [entryFrame, mkF, argsToLocals, Value.category]; done) | rfl
def own_Q_own_rchar (Z : State) (a1 : Addr) (p1 : Int32) (cz : Int32) (fm : Value) (t : Addr) (kb : ClassId) (N : Int32) (vs : List Value) (x : Int32) (h0 : Heap) (n0 : Nat) (v : Option Value) (h : Heap) (L : List Loc) : Prop := v = some (.int (x &&& (255 : Int32))) ∧ Fr n0 L ∧ h = h0
set_option maxRecDepth 65536 in
set_option maxHeartbeats 40000000 in
theorem own_rchar (l : Launch) (Z : State) (a0 : Array Value) (hw : ∀ d ∈ tables_1, d.before a0 Z = true) (ws : List Jvm.Cond) (a1 : Addr) (p1 : Int32) (cz : Int32) (fm : Value) (t : Addr) (kb : ClassId) (N : Int32) (vs : List Value) (x : Int32) (h0 : Heap) (n0 : Nat) (Z0 : n0 ≤ h0.size) (O : Old Z n0 h0) (SC : Sta Z Z.heap "java/lang/String" "COMPACT_STRINGS" "Z" (.int cz)) (SF : Sta Z Z.heap "jdk/internal/util/Preconditions" "SIOOBE_FORMATTER" "Ljava/util/function/BiFunction;" fm) (Ex : Exa Z h0 a1 "java/lang/String") (Fv : Fld Z h0 a1 "java/lang/String" "value" "[B" (.ref t)) (Fc : Fld Z h0 a1 "java/lang/String" "coder" "B" (.int (0 : Int32))) (Va : Arv Z h0 t kb .byte N vs (.int (0 : Int32))) (hz : ¬ (cz = (0 : Int32))) (rfm : fm.isRef = true) (hj : ¬ (p1 < (0 : Int32)) ∧ p1 < N) (hat : vs.getD p1.toNatClampNeg (.int (0 : Int32)) = .int x) :
    MetFree l (⟨"java/lang/String", "charAt", "(I)C"⟩ : MethodName) (head1 (Jvm.Cond.code (⟨"java/lang/String", "charAt", "(I)C"⟩ : MethodName) jdk_42_method_56_code 2 (some .char) :: ws) ({ frames := 3, cells := 0, slots := 0, locals := 40 } : Room)) (fun a U => a = #[(.ref a1), (.int p1)] ∧ Z.Warmed39 U.vm ∧ U.heap = h0) (fun _ _ _ _ _ => True) (fun _ U o U' => ∃ v L, o = .returned v ∧ own_Q_own_rchar Z a1 p1 cz fm t kb N vs x h0 n0 v U'.heap L ∧ FrameEnd U o U' L ({ frames := 3, cells := 0, slots := 0, locals := 40 } : Room).cells ({ frames := 3, cells := 0, slots := 0, locals := 40 } : Room).slots) := by
  refine MetFree.of_bodySF (plainFor_of_name own_pn_java_lang_String) hisR ?_
  intro p e s m args below meth c s₁ Bd hml0 hP hK
  obtain ⟨rfl, hZ, hh⟩ := hP
  have hx := Bd.exec
  have hby := Bd.bytes
  have hml : c.maxLocals = 2 := hml0
  have hown : s.vm.findClass "java/lang/String" = some m.cls := findClass_of_methodNamed Bd.named
  have hnm := (name_of_methodNamed Bd.named Bd.method).1
  have X0 : Stand p l e ({ frames := 3, cells := 0, slots := 0, locals := 40 } : Room) s m #[(.ref a1), (.int p1)] below meth c s₁ [] 0 0 := Stand.of_body Bd
  have e0 : s₁.heap = h0 := by rw [← hh, Bd.state]; rfl
  have N0 := Fr.nil n0
  show own_Go p e below s (own_Q_own_rchar Z a1 p1 cz fm t kb N vs x h0 n0) ({ frames := 3, cells := 0, slots := 0, locals := 40 } : Room).cells ({ frames := 3, cells := 0, slots := 0, locals := 40 } : Room).slots (s₁.setTop (entryFrame m #[(.ref a1), (.int p1)] 2))
  refine own_go (fun zt zk => castTop (own_ef_own_rchar m a1 p1) zk) ?_
  show own_Go p e below s _ _ _ (s₁.setTop (mkF m 0 #[rv a1, iv p1] []))
  refine own_go (fun zt zk => (XS.aloadN X0.here hx rfl (hb hby own_d29_0) rfl rfl zk)) ?_
  show own_Go p e below s _ _ _ (s₁.setTop (mkF m 1 #[rv a1, iv p1] [(.ref a1)]))
  obtain ⟨cq1, kq1, qa1, qb1, qc1⟩ := isOf hZ e0 Ex
  obtain ⟨_, _, ⟨T1, L1, k1, n1⟩, -, X1, ⟨Lc1, hQ1, l1, y1, z1⟩, st1⟩ := X0.virtualBack hx (y := (⟨"java/lang/String", "isLatin1", "()Z"⟩ : MethodName)) (z := (⟨"java/lang/String", "isLatin1", "()Z"⟩ : MethodName)) hown (mvT hZ (hw _ (List.mem_of_getElem? (i := 54) rfl))) (mvT hZ (hw _ (List.mem_of_getElem? (i := 55) rfl))) (notFace_of_selects (args := #[]) (mvT hZ (hw _ (List.mem_of_getElem? (i := 57) rfl)))) (mvT hZ (hw _ (List.mem_of_getElem? (i := 57) rfl))) (mvT hZ (hw _ (List.mem_of_getElem? (i := 56) rfl))) (by decide) (backOf (W := 0) (own_risl l Z a0 hw [] a1 cz h0 n0 Z0 O SC Fc hz) hZ (hw _ (List.mem_of_getElem? (i := 58) rfl)) (hw _ (List.mem_of_getElem? (i := 10) rfl)) (by decide) (by decide)) qa1 qc1 (g := (mkF m 1 #[rv a1, iv p1] [(.ref a1)])) rfl (by rw [hml]; rfl) (Steps.refl _) (argsL := []) (rest := []) (lenOf own_pd___Z rfl) rfl (by show 2 * 0 + _ ≤ _; exact Nat.le_of_eq rfl) (hb hby own_d29_1) (fun _ _ => ⟨rfl, e0, (by decide : 0 + 0 ≤ _), (by decide : 0 + 0 ≤ _)⟩)
  dsimp only [Pt.U, Pt.locs, Pt.cells, Pt.slots] at X1 l1 y1 z1 st1 hQ1
  subst l1 y1 z1
  obtain ⟨rfl, Nq1, e1⟩ := hQ1
  have N1 := Fr.app N0 Nq1
  refine own_go (fun zt zk => st1.trans zk) ?_
  show own_Go p e below s _ _ _ (T1.setTop (mkF m 4 #[rv a1, iv p1] [(.int (1 : Int32))]))
  refine own_go (fun zt zk => (XS.ifNo X1.here hx rfl (hb hby own_d29_4) rfl ((if0 _ _).trans (feq ((by decide) : ¬ ((1 : Int32) = (0 : Int32)))).1) (XS.aloadN X1.here hx rfl (hb hby own_d29_7) rfl rfl zk))) ?_
  show own_Go p e below s _ _ _ (T1.setTop (mkF m 8 #[rv a1, iv p1] [(.ref a1)]))
  obtain ⟨T2, X2, e2, st2⟩ := getF X1 hx hZ hown (host := "") (Or.inl (hw _ (List.mem_of_getElem? (i := 27) rfl))) Via.refl e1 Fv (g := (mkF m 8 #[rv a1, iv p1] [(.ref a1)])) rfl rfl (hb hby own_d29_8)
  refine own_go st2 ?_
  show own_Go p e below s _ _ _ (T2.setTop (mkF m 11 #[rv a1, iv p1] [(.ref t)]))
  refine own_go (fun zt zk => (XS.iloadN X2.here hx rfl (hb hby own_d29_11) rfl zk)) ?_
  show own_Go p e below s _ _ _ (T2.setTop (mkF m 12 #[rv a1, iv p1] [(.int p1), (.ref t)]))
  obtain ⟨_, _, ⟨T3, L3, k3, n3⟩, -, X3, ⟨Lc3, hQ3, l3, y3, z3⟩, st3⟩ := Jvm.LawKit.callS X2 hx (y := (⟨"java/lang/StringLatin1", "charAt", "([BI)C"⟩ : MethodName)) hown (mvT hZ (hw _ (List.mem_of_getElem? (i := 133) rfl))) (mvT hZ (hw _ (List.mem_of_getElem? (i := 134) rfl))) (mvT hZ (hw _ (List.mem_of_getElem? (i := 61) rfl))) (mvT hZ (hw _ (List.mem_of_getElem? (i := 135) rfl))) (by decide) (backOf (W := 0) (own_rlch l Z a0 hw [] t p1 fm kb N vs x h0 n0 Z0 O SF Va rfm hj hat) hZ (hw _ (List.mem_of_getElem? (i := 135) rfl)) (hw _ (List.mem_of_getElem? (i := 61) rfl)) (by decide) (by decide)) (g := (mkF m 12 #[rv a1, iv p1] [(.int p1), (.ref t)])) rfl (by rw [hml]; rfl) (argsL := [(.ref t), (.int p1)]) (rest := []) (lenOf own_pd___BI_C rfl) rfl (by show 2 * 0 + _ ≤ _; exact Nat.le_of_eq rfl) (hb hby own_d29_12) (fun _ _ => ⟨rfl, e2, (by decide : 0 + 0 ≤ _), (by decide : 0 + 0 ≤ _)⟩)
  dsimp only [Pt.U, Pt.locs, Pt.cells, Pt.slots] at X3 l3 y3 z3 st3 hQ3
  subst l3 y3 z3
  obtain ⟨rfl, Nq3, e3⟩ := hQ3
  have N3 := Fr.app N1 Nq3
  refine own_go st3 ?_
  show own_Go p e below s _ _ _ (T3.setTop (mkF m 15 #[rv a1, iv p1] [(.int (x &&& (255 : Int32)))]))
  exact own_fin X3 Bd.notSynchronized (fun h => by rw [Bd.returns] at h; cases h) (fun fs hr => retN X3 hx (t := .char) Bd.returns (by simp) (hb hby own_d29_15) hr) (by rw [e3]; exact ⟨congrArg (fun z => some (Value.int z)) (i2c_mask x), N3, rfl⟩) (by decide) (by decide)
theorem own_d14_0 : decode jdk_29_method_69_code 0 = .ok (.iload_n 0, 1) := by decide +kernel
theorem own_d14_1 : decode jdk_29_method_69_code 1 = .ok (.iload_n 1, 1) := by decide +kernel
theorem own_d14_2 : decode jdk_29_method_69_code 2 = .ok (.if_icmp .gt 7, 3) := by decide +kernel
theorem own_d14_9 : decode jdk_29_method_69_code 9 = .ok (.iload_n 1, 1) := by decide +kernel
theorem own_d14_10 : decode jdk_29_method_69_code 10 = .ok (.ireturn, 1) := by decide +kernel
theorem own_d14_5 : decode jdk_29_method_69_code 5 = .ok (.iload_n 0, 1) := by decide +kernel
theorem own_d14_6 : decode jdk_29_method_69_code 6 = .ok (.goto 4, 3) := by decide +kernel
theorem own_ef_own_rmin (m : MethodId) (p1 : Int32) (p2 : Int32) : entryFrame m #[(.int p1), (.int p2)] 2 = mkF m 0 #[iv p1, iv p2] [] := by first | (simp [entryFrame, mkF, argsToLocals, Value.category]; done) | rfl
def own_Q_own_rmin (Z : State) (p1 : Int32) (p2 : Int32) (h0 : Heap) (n0 : Nat) (v : Option Value) (h : Heap) (L : List Loc) : Prop := v = some (.int (own_min p1 p2)) ∧ Fr n0 L ∧ h = h0
set_option maxRecDepth 65536 in
set_option maxHeartbeats 40000000 in
theorem own_rmin (l : Launch) (Z : State) (a0 : Array Value) (hw : ∀ d ∈ tables_1, d.before a0 Z = true) (ws : List Jvm.Cond) (p1 : Int32) (p2 : Int32) (h0 : Heap) (n0 : Nat) (Z0 : n0 ≤ h0.size)   :
    MetFree l (⟨"java/lang/Math", "min", "(II)I"⟩ : MethodName) (head1 (Jvm.Cond.code (⟨"java/lang/Math", "min", "(II)I"⟩ : MethodName) jdk_29_method_69_code 2 (some .int) :: ws) ({ frames := 0, cells := 0, slots := 0, locals := 0 } : Room)) (fun a U => a = #[(.int p1), (.int p2)] ∧ Z.Warmed39 U.vm ∧ U.heap = h0) (fun _ _ _ _ _ => True) (fun _ U o U' => ∃ v L, o = .returned v ∧ own_Q_own_rmin Z p1 p2 h0 n0 v U'.heap L ∧ FrameEnd U o U' L ({ frames := 0, cells := 0, slots := 0, locals := 0 } : Room).cells ({ frames := 0, cells := 0, slots := 0, locals := 0 } : Room).slots) := by
  refine MetFree.of_bodySF (Jvm.Free.JP.mathPlain rfl (by decide +kernel)) hisR ?_
  intro p e s m args below meth c s₁ Bd hml0 hP hK
  obtain ⟨rfl, hZ, hh⟩ := hP
  have hx := Bd.exec
  have hby := Bd.bytes
  have hml : c.maxLocals = 2 := hml0
  have hown : s.vm.findClass "java/lang/Math" = some m.cls := findClass_of_methodNamed Bd.named
  have hnm := (name_of_methodNamed Bd.named Bd.method).1
  have X0 : Stand p l e ({ frames := 0, cells := 0, slots := 0, locals := 0 } : Room) s m #[(.int p1), (.int p2)] below meth c s₁ [] 0 0 := Stand.of_body Bd
  have e0 : s₁.heap = h0 := by rw [← hh, Bd.state]; rfl
  have N0 := Fr.nil n0
  show own_Go p e below s (own_Q_own_rmin Z p1 p2 h0 n0) ({ frames := 0, cells := 0, slots := 0, locals := 0 } : Room).cells ({ frames := 0, cells := 0, slots := 0, locals := 0 } : Room).slots (s₁.setTop (entryFrame m #[(.int p1), (.int p2)] 2))
  refine own_go (fun zt zk => castTop (own_ef_own_rmin m p1 p2) zk) ?_
  show own_Go p e below s _ _ _ (s₁.setTop (mkF m 0 #[iv p1, iv p2] []))
  refine own_go (fun zt zk => (XS.iloadN X0.here hx rfl (hb hby own_d14_0) rfl (XS.iloadN X0.here hx rfl (hb hby own_d14_1) rfl zk))) ?_
  show own_Go p e below s _ _ _ (s₁.setTop (mkF m 2 #[iv p1, iv p2] [(.int p2), (.int p1)]))
  by_cases hc : p2 < p1
  · refine own_go (fun zt zk => (XS.icmpYes X0.here hx rfl (pc0 := 2) (pc' := 9) rfl (hb hby own_d14_2) rfl (tlt (hc : p2 < p1)).2.2.1 (by decide) (by decide) (XS.iloadN X0.here hx rfl (hb hby own_d14_9) rfl zk))) ?_
    show own_Go p e below s _ _ _ (s₁.setTop (mkF m 10 #[iv p1, iv p2] [(.int p2)]))
    exact own_fin X0 Bd.notSynchronized (fun h => by rw [Bd.returns] at h; cases h) (fun fs hr => retOut X0 hx (t := .int) (w := (.int p2)) Bd.returns rfl (Or.inl ⟨rfl, Or.inl rfl, _, rfl⟩) (hb hby own_d14_10) hr) (by rw [e0]; exact ⟨congrArg (fun z => some (Value.int z)) (if_pos hc).symm, N0, rfl⟩) (by decide) (by decide)
  · refine own_go (fun zt zk => (XS.icmpNo X0.here hx rfl (hb hby own_d14_2) rfl (flt (hc : ¬ (p2 < p1))).2.2.1 (XS.iloadN X0.here hx rfl (hb hby own_d14_5) rfl (XS.goto X0.here hx rfl (pc0 := 6) (pc' := 10) rfl (hb hby own_d14_6) (by decide) (by decide) zk)))) ?_
    show own_Go p e below s _ _ _ (s₁.setTop (mkF m 10 #[iv p1, iv p2] [(.int p1)]))
    exact own_fin X0 Bd.notSynchronized (fun h => by rw [Bd.returns] at h; cases h) (fun fs hr => retOut X0 hx (t := .int) (w := (.int p1)) Bd.returns rfl (Or.inl ⟨rfl, Or.inl rfl, _, rfl⟩) (hb hby own_d14_10) hr) (by rw [e0]; exact ⟨congrArg (fun z => some (Value.int z)) (if_neg hc).symm, N0, rfl⟩) (by decide) (by decide)
theorem own_d13_0 : decode jdk_43_method_4_code 0 = .ok (.iload_n 0, 1) := by decide +kernel
theorem own_d13_1 : decode jdk_43_method_4_code 1 = .ok (.ifCond .lt 14, 3) := by decide +kernel
theorem own_d13_4 : decode jdk_43_method_4_code 4 = .ok (.iload_n 0, 1) := by decide +kernel
theorem own_d13_5 : decode jdk_43_method_4_code 5 = .ok (.sipush 255, 3) := by decide +kernel
theorem own_d13_8 : decode jdk_43_method_4_code 8 = .ok (.if_icmp .gt 7, 3) := by decide +kernel
theorem own_d13_11 : decode jdk_43_method_4_code 11 = .ok (.iconst 1, 1) := by decide +kernel
theorem own_d13_12 : decode jdk_43_method_4_code 12 = .ok (.goto 4, 3) := by decide +kernel
theorem own_d13_16 : decode jdk_43_method_4_code 16 = .ok (.ireturn, 1) := by decide +kernel
theorem own_ef_own_rcan35 (m : MethodId)  : entryFrame m #[(.int (35 : Int32))] 1 = mkF m 0 #[iv (35 : Int32)] [] := by first | (simp [entryFrame, mkF, argsToLocals, Value.category]; done) | rfl
def own_Q_own_rcan35 (Z : State)  (h0 : Heap) (n0 : Nat) (v : Option Value) (h : Heap) (L : List Loc) : Prop := v = some (.int (1 : Int32)) ∧ Fr n0 L ∧ h = h0
set_option maxRecDepth 65536 in
set_option maxHeartbeats 40000000 in
theorem own_rcan35 (l : Launch) (Z : State) (a0 : Array Value) (hw : ∀ d ∈ tables_1, d.before a0 Z = true) (ws : List Jvm.Cond)  (h0 : Heap) (n0 : Nat) (Z0 : n0 ≤ h0.size)   :
    MetFree l (⟨"java/lang/StringLatin1", "canEncode", "(I)Z"⟩ : MethodName) (head1 (Jvm.Cond.code (⟨"java/lang/StringLatin1", "canEncode", "(I)Z"⟩ : MethodName) jdk_43_method_4_code 1 (some .boolean) :: ws) ({ frames := 0, cells := 0, slots := 0, locals := 0 } : Room)) (fun a U => a = #[(.int (35 : Int32))] ∧ Z.Warmed39 U.vm ∧ U.heap = h0) (fun _ _ _ _ _ => True) (fun _ U o U' => ∃ v L, o = .returned v ∧ own_Q_own_rcan35 Z  h0 n0 v U'.heap L ∧ FrameEnd U o U' L ({ frames := 0, cells := 0, slots := 0, locals := 0 } : Room).cells ({ frames := 0, cells := 0, slots := 0, locals := 0 } : Room).slots) := by
  refine MetFree.of_bodySF (plainFor_of_name own_pn_java_lang_StringLatin1) hisR ?_
  intro p e s m args below meth c s₁ Bd hml0 hP hK
  obtain ⟨rfl, hZ, hh⟩ := hP
  have hx := Bd.exec
  have hby := Bd.bytes
  have hml : c.maxLocals = 1 := hml0
  have hown : s.vm.findClass "java/lang/StringLatin1" = some m.cls := findClass_of_methodNamed Bd.named
  have hnm := (name_of_methodNamed Bd.named Bd.method).1
  have X0 : Stand p l e ({ frames := 0, cells := 0, slots := 0, locals := 0 } : Room) s m #[(.int (35 : Int32))] below meth c s₁ [] 0 0 := Stand.of_body Bd
  have e0 : s₁.heap = h0 := by rw [← hh, Bd.state]; rfl
  have N0 := Fr.nil n0
  show own_Go p e below s (own_Q_own_rcan35 Z  h0 n0) ({ frames := 0, cells := 0, slots := 0, locals := 0 } : Room).cells ({ frames := 0, cells := 0, slots := 0, locals := 0 } : Room).slots (s₁.setTop (entryFrame m #[(.int (35 : Int32))] 1))
  refine own_go (fun zt zk => castTop (own_ef_own_rcan35 m) zk) ?_
  show own_Go p e below s _ _ _ (s₁.setTop (mkF m 0 #[iv (35 : Int32)] []))
  refine own_go (fun zt zk => (XS.iloadN X0.here hx rfl (hb hby own_d13_0) rfl (XS.ifNo X0.here hx rfl (hb hby own_d13_1) rfl ((if0 _ _).trans (flt ((by decide) : ¬ ((35 : Int32) < (0 : Int32)))).1) (XS.iloadN X0.here hx rfl (hb hby own_d13_4) rfl (XS.sipush X0.here hx rfl (hb hby own_d13_5) (XS.icmpNo X0.here hx rfl (hb hby own_d13_8) rfl (flt ((by decide) : ¬ ((255 : Int32) < (35 : Int32)))).2.2.1 (XS.iconst X0.here hx rfl (hb hby own_d13_11) (XS.goto X0.here hx rfl (pc0 := 12) (pc' := 16) rfl (hb hby own_d13_12) (by decide) (by decide) zk)))))))) ?_
  show own_Go p e below s _ _ _ (s₁.setTop (mkF m 16 #[iv (35 : Int32)] [(.int (1 : Int32))]))
  exact own_fin X0 Bd.notSynchronized (fun h => by rw [Bd.returns] at h; cases h) (fun fs hr => retN X0 hx (t := .boolean) Bd.returns (by simp) (hb hby own_d13_16) hr) (by rw [e0]; exact ⟨rfl, N0, rfl⟩) (by decide) (by decide)
theorem own_ef_own_rcan47 (m : MethodId)  : entryFrame m #[(.int (47 : Int32))] 1 = mkF m 0 #[iv (47 : Int32)] [] := by first | (simp [entryFrame, mkF, argsToLocals, Value.category]; done) | rfl
def own_Q_own_rcan47 (Z : State)  (h0 : Heap) (n0 : Nat) (v : Option Value) (h : Heap) (L : List Loc) : Prop := v = some (.int (1 : Int32)) ∧ Fr n0 L ∧ h = h0
set_option maxRecDepth 65536 in
set_option maxHeartbeats 40000000 in
theorem own_rcan47 (l : Launch) (Z : State) (a0 : Array Value) (hw : ∀ d ∈ tables_1, d.before a0 Z = true) (ws : List Jvm.Cond)  (h0 : Heap) (n0 : Nat) (Z0 : n0 ≤ h0.size)   :
    MetFree l (⟨"java/lang/StringLatin1", "canEncode", "(I)Z"⟩ : MethodName) (head1 (Jvm.Cond.code (⟨"java/lang/StringLatin1", "canEncode", "(I)Z"⟩ : MethodName) jdk_43_method_4_code 1 (some .boolean) :: ws) ({ frames := 0, cells := 0, slots := 0, locals := 0 } : Room)) (fun a U => a = #[(.int (47 : Int32))] ∧ Z.Warmed39 U.vm ∧ U.heap = h0) (fun _ _ _ _ _ => True) (fun _ U o U' => ∃ v L, o = .returned v ∧ own_Q_own_rcan47 Z  h0 n0 v U'.heap L ∧ FrameEnd U o U' L ({ frames := 0, cells := 0, slots := 0, locals := 0 } : Room).cells ({ frames := 0, cells := 0, slots := 0, locals := 0 } : Room).slots) := by
  refine MetFree.of_bodySF (plainFor_of_name own_pn_java_lang_StringLatin1) hisR ?_
  intro p e s m args below meth c s₁ Bd hml0 hP hK
  obtain ⟨rfl, hZ, hh⟩ := hP
  have hx := Bd.exec
  have hby := Bd.bytes
  have hml : c.maxLocals = 1 := hml0
  have hown : s.vm.findClass "java/lang/StringLatin1" = some m.cls := findClass_of_methodNamed Bd.named
  have hnm := (name_of_methodNamed Bd.named Bd.method).1
  have X0 : Stand p l e ({ frames := 0, cells := 0, slots := 0, locals := 0 } : Room) s m #[(.int (47 : Int32))] below meth c s₁ [] 0 0 := Stand.of_body Bd
  have e0 : s₁.heap = h0 := by rw [← hh, Bd.state]; rfl
  have N0 := Fr.nil n0
  show own_Go p e below s (own_Q_own_rcan47 Z  h0 n0) ({ frames := 0, cells := 0, slots := 0, locals := 0 } : Room).cells ({ frames := 0, cells := 0, slots := 0, locals := 0 } : Room).slots (s₁.setTop (entryFrame m #[(.int (47 : Int32))] 1))
  refine own_go (fun zt zk => castTop (own_ef_own_rcan47 m) zk) ?_
  show own_Go p e below s _ _ _ (s₁.setTop (mkF m 0 #[iv (47 : Int32)] []))
  refine own_go (fun zt zk => (XS.iloadN X0.here hx rfl (hb hby own_d13_0) rfl (XS.ifNo X0.here hx rfl (hb hby own_d13_1) rfl ((if0 _ _).trans (flt ((by decide) : ¬ ((47 : Int32) < (0 : Int32)))).1) (XS.iloadN X0.here hx rfl (hb hby own_d13_4) rfl (XS.sipush X0.here hx rfl (hb hby own_d13_5) (XS.icmpNo X0.here hx rfl (hb hby own_d13_8) rfl (flt ((by decide) : ¬ ((255 : Int32) < (47 : Int32)))).2.2.1 (XS.iconst X0.here hx rfl (hb hby own_d13_11) (XS.goto X0.here hx rfl (pc0 := 12) (pc' := 16) rfl (hb hby own_d13_12) (by decide) (by decide) zk)))))))) ?_
  show own_Go p e below s _ _ _ (s₁.setTop (mkF m 16 #[iv (47 : Int32)] [(.int (1 : Int32))]))
  exact own_fin X0 Bd.notSynchronized (fun h => by rw [Bd.returns] at h; cases h) (fun fs hr => retN X0 hx (t := .boolean) Bd.returns (by simp) (hb hby own_d13_16) hr) (by rw [e0]; exact ⟨rfl, N0, rfl⟩) (by decide) (by decide)
theorem own_d12_0 : decode jdk_43_method_27_code 0 = .ok (.iload_n 1, 1) := by decide +kernel
theorem own_d12_1 : decode jdk_43_method_27_code 1 = .ok (.invokestatic 88, 3) := by decide +kernel
theorem own_pd__I_Z : parseMethodDescriptor "(I)Z" = some ⟨[.int], some .boolean⟩ := by decide +kernel
theorem own_d12_4 : decode jdk_43_method_27_code 4 = .ok (.ifCond .ne 5, 3) := by decide +kernel
theorem own_d12_9 : decode jdk_43_method_27_code 9 = .ok (.iload_n 2, 1) := by decide +kernel
theorem own_d12_10 : decode jdk_43_method_27_code 10 = .ok (.aload_n 0, 1) := by decide +kernel
theorem own_d12_11 : decode jdk_43_method_27_code 11 = .ok (.arraylength, 1) := by decide +kernel
theorem own_d12_12 : decode jdk_43_method_27_code 12 = .ok (.iconst 1, 1) := by decide +kernel
theorem own_d12_13 : decode jdk_43_method_27_code 13 = .ok (.isub, 1) := by decide +kernel
theorem own_d12_14 : decode jdk_43_method_27_code 14 = .ok (.invokestatic 38, 3) := by decide +kernel
theorem own_pd__II_I : parseMethodDescriptor "(II)I" = some ⟨[.int, .int], some .int⟩ := by decide +kernel
theorem own_d12_17 : decode jdk_43_method_27_code 17 = .ok (.istore_n 3, 1) := by decide +kernel
theorem own_d12_18 : decode jdk_43_method_27_code 18 = .ok (.iload_n 3, 1) := by decide +kernel
theorem own_d12_19 : decode jdk_43_method_27_code 19 = .ok (.ifCond .lt 19, 3) := by decide +kernel
theorem own_d12_38 : decode jdk_43_method_27_code 38 = .ok (.iconst (-1), 1) := by decide +kernel
theorem own_d12_39 : decode jdk_43_method_27_code 39 = .ok (.ireturn, 1) := by decide +kernel
theorem own_d12_22 : decode jdk_43_method_27_code 22 = .ok (.aload_n 0, 1) := by decide +kernel
theorem own_d12_23 : decode jdk_43_method_27_code 23 = .ok (.iload_n 3, 1) := by decide +kernel
theorem own_d12_24 : decode jdk_43_method_27_code 24 = .ok (.baload, 1) := by decide +kernel
theorem own_d12_25 : decode jdk_43_method_27_code 25 = .ok (.iload_n 1, 1) := by decide +kernel
theorem own_d12_26 : decode jdk_43_method_27_code 26 = .ok (.i2b, 1) := by decide +kernel
theorem own_d12_27 : decode jdk_43_method_27_code 27 = .ok (.if_icmp .ne 5, 3) := by decide +kernel
theorem own_d12_30 : decode jdk_43_method_27_code 30 = .ok (.iload_n 3, 1) := by decide +kernel
theorem own_d12_31 : decode jdk_43_method_27_code 31 = .ok (.ireturn, 1) := by decide +kernel
theorem own_d12_32 : decode jdk_43_method_27_code 32 = .ok (.iinc 3 (-1), 3) := by decide +kernel
theorem own_d12_35 : decode jdk_43_method_27_code 35 = .ok (.goto (-17), 3) := by decide +kernel
theorem own_ef_own_rli35 (m : MethodId) (t : Addr) (xs : List Int32) : entryFrame m #[(.ref t), (.int (35 : Int32)), (.int ((Int32.ofNat xs.length) - (1 : Int32)))] 4 = mkF m 0 #[rv t, iv (35 : Int32), iv ((Int32.ofNat xs.length) - (1 : Int32)), .unset] [] := by first | (simp [entryFrame, mkF, argsToLocals, Value.category]; done) | rfl
def own_Q_own_rli35 (Z : State) (t : Addr) (kb : ClassId) (xs : List Int32) (h0 : Heap) (n0 : Nat) (v : Option Value) (h : Heap) (L : List Loc) : Prop := v = some (.int (own_la xs (35 : Int32) xs.length)) ∧ Fr n0 L ∧ h = h0
set_option maxRecDepth 65536 in
set_option maxHeartbeats 40000000 in
theorem own_rli35 (l : Launch) (Z : State) (a0 : Array Value) (hw : ∀ d ∈ tables_1, d.before a0 Z = true) (ws : List Jvm.Cond) (t : Addr) (kb : ClassId) (xs : List Int32) (h0 : Heap) (n0 : Nat) (Z0 : n0 ≤ h0.size) (Va : Arv Z h0 t kb .byte (Int32.ofNat xs.length) (xs.map Value.int) (.int (0 : Int32))) (h5 : xs.length ≤ 5) :
    MetFree l (⟨"java/lang/StringLatin1", "lastIndexOf", "([BII)I"⟩ : MethodName) (head1 (Jvm.Cond.code (⟨"java/lang/StringLatin1", "lastIndexOf", "([BII)I"⟩ : MethodName) jdk_43_method_27_code 4 (some .int) :: ws) ({ frames := 1, cells := 0, slots := 0, locals := 13 } : Room)) (fun a U => a = #[(.ref t), (.int (35 : Int32)), (.int ((Int32.ofNat xs.length) - (1 : Int32)))] ∧ Z.Warmed39 U.vm ∧ U.heap = h0) (fun _ _ _ _ _ => True) (fun _ U o U' => ∃ v L, o = .returned v ∧ own_Q_own_rli35 Z t kb xs h0 n0 v U'.heap L ∧ FrameEnd U o U' L ({ frames := 1, cells := 0, slots := 0, locals := 13 } : Room).cells ({ frames := 1, cells := 0, slots := 0, locals := 13 } : Room).slots) := by
  refine MetFree.of_bodySF (plainFor_of_name own_pn_java_lang_StringLatin1) hisR ?_
  intro p e s m args below meth c s₁ Bd hml0 hP hK
  obtain ⟨rfl, hZ, hh⟩ := hP
  have hx := Bd.exec
  have hby := Bd.bytes
  have hml : c.maxLocals = 4 := hml0
  have hown : s.vm.findClass "java/lang/StringLatin1" = some m.cls := findClass_of_methodNamed Bd.named
  have hnm := (name_of_methodNamed Bd.named Bd.method).1
  have X0 : Stand p l e ({ frames := 1, cells := 0, slots := 0, locals := 13 } : Room) s m #[(.ref t), (.int (35 : Int32)), (.int ((Int32.ofNat xs.length) - (1 : Int32)))] below meth c s₁ [] 0 0 := Stand.of_body Bd
  have e0 : s₁.heap = h0 := by rw [← hh, Bd.state]; rfl
  have N0 := Fr.nil n0
  show own_Go p e below s (own_Q_own_rli35 Z t kb xs h0 n0) ({ frames := 1, cells := 0, slots := 0, locals := 13 } : Room).cells ({ frames := 1, cells := 0, slots := 0, locals := 13 } : Room).slots (s₁.setTop (entryFrame m #[(.ref t), (.int (35 : Int32)), (.int ((Int32.ofNat xs.length) - (1 : Int32)))] 4))
  refine own_go (fun zt zk => castTop (own_ef_own_rli35 m t xs) zk) ?_
  show own_Go p e below s _ _ _ (s₁.setTop (mkF m 0 #[rv t, iv (35 : Int32), iv ((Int32.ofNat xs.length) - (1 : Int32)), .unset] []))
  refine own_go (fun zt zk => (XS.iloadN X0.here hx rfl (hb hby own_d12_0) rfl zk)) ?_
  show own_Go p e below s _ _ _ (s₁.setTop (mkF m 1 #[rv t, iv (35 : Int32), iv ((Int32.ofNat xs.length) - (1 : Int32)), .unset] [(.int (35 : Int32))]))
  obtain ⟨_, _, ⟨T1, L1, k1, n1⟩, -, X1, ⟨Lc1, hQ1, l1, y1, z1⟩, st1⟩ := Jvm.LawKit.callS X0 hx (y := (⟨"java/lang/StringLatin1", "canEncode", "(I)Z"⟩ : MethodName)) hown (mvT hZ (hw _ (List.mem_of_getElem? (i := 63) rfl))) (mvT hZ (hw _ (List.mem_of_getElem? (i := 64) rfl))) (mvT hZ (hw _ (List.mem_of_getElem? (i := 61) rfl))) (mvT hZ (hw _ (List.mem_of_getElem? (i := 65) rfl))) (by decide) (backOf (W := 0) (own_rcan35 l Z a0 hw []   h0 n0 Z0 ) hZ (hw _ (List.mem_of_getElem? (i := 65) rfl)) (hw _ (List.mem_of_getElem? (i := 61) rfl)) (by decide) (by decide)) (g := (mkF m 1 #[rv t, iv (35 : Int32), iv ((Int32.ofNat xs.length) - (1 : Int32)), .unset] [(.int (35 : Int32))])) rfl (by rw [hml]; rfl) (argsL := [(.int (35 : Int32))]) (rest := []) (lenOf own_pd__I_Z rfl) rfl (by show 2 * 0 + _ ≤ _; exact Nat.le_of_eq rfl) (hb hby own_d12_1) (fun _ _ => ⟨rfl, e0, (by decide : 0 + 0 ≤ _), (by decide : 0 + 0 ≤ _)⟩)
  dsimp only [Pt.U, Pt.locs, Pt.cells, Pt.slots] at X1 l1 y1 z1 st1 hQ1
  subst l1 y1 z1
  obtain ⟨rfl, Nq1, e1⟩ := hQ1
  have N1 := Fr.app N0 Nq1
  refine own_go st1 ?_
  show own_Go p e below s _ _ _ (T1.setTop (mkF m 4 #[rv t, iv (35 : Int32), iv ((Int32.ofNat xs.length) - (1 : Int32)), .unset] [(.int (1 : Int32))]))
  refine own_go (fun zt zk => (XS.ifYes X1.here hx rfl (pc0 := 4) (pc' := 9) rfl (hb hby own_d12_4) rfl ((if0 _ _).trans (feq ((by decide) : ¬ ((1 : Int32) = (0 : Int32)))).2) (by decide) (by decide) (XS.iloadN X1.here hx rfl (hb hby own_d12_9) rfl (XS.aloadN X1.here hx rfl (hb hby own_d12_10) rfl rfl zk)))) ?_
  show own_Go p e below s _ _ _ (T1.setTop (mkF m 11 #[rv t, iv (35 : Int32), iv ((Int32.ofNat xs.length) - (1 : Int32)), .unset] [(.ref t), (.int ((Int32.ofNat xs.length) - (1 : Int32)))]))
  obtain ⟨cl2, Ar2, -, Sz2, Nz2, -, -⟩ := id Va
  refine own_go (X1.arraylength hx (by rw [e1]; exact Ar2.1) (State.isArrayOf_alike hZ.alike Ar2.2.1) (g := (mkF m 11 #[rv t, iv (35 : Int32), iv ((Int32.ofNat xs.length) - (1 : Int32)), .unset] [(.ref t), (.int ((Int32.ofNat xs.length) - (1 : Int32)))])) rfl rfl (hb hby own_d12_11)) ?_
  rw [len_of Sz2 Nz2]
  show own_Go p e below s _ _ _ (T1.setTop (mkF m 12 #[rv t, iv (35 : Int32), iv ((Int32.ofNat xs.length) - (1 : Int32)), .unset] [(.int (Int32.ofNat xs.length)), (.int ((Int32.ofNat xs.length) - (1 : Int32)))]))
  refine own_go (fun zt zk => (XS.iconst X1.here hx rfl (hb hby own_d12_12) (XS.isub X1.here hx rfl (hb hby own_d12_13) rfl zk))) ?_
  show own_Go p e below s _ _ _ (T1.setTop (mkF m 14 #[rv t, iv (35 : Int32), iv ((Int32.ofNat xs.length) - (1 : Int32)), .unset] [(.int ((Int32.ofNat xs.length) - (1 : Int32))), (.int ((Int32.ofNat xs.length) - (1 : Int32)))]))
  obtain ⟨_, _, ⟨T3, L3, k3, n3⟩, -, X3, ⟨Lc3, hQ3, l3, y3, z3⟩, st3⟩ := Jvm.LawKit.callS X1 hx (y := (⟨"java/lang/Math", "min", "(II)I"⟩ : MethodName)) hown (mvT hZ (hw _ (List.mem_of_getElem? (i := 66) rfl))) (mvT hZ (hw _ (List.mem_of_getElem? (i := 67) rfl))) (mvT hZ (hw _ (List.mem_of_getElem? (i := 68) rfl))) (mvT hZ (hw _ (List.mem_of_getElem? (i := 69) rfl))) (by decide) (backOf (W := 0) (own_rmin l Z a0 hw [] ((Int32.ofNat xs.length) - (1 : Int32)) ((Int32.ofNat xs.length) - (1 : Int32))  h0 n0 Z0 ) hZ (hw _ (List.mem_of_getElem? (i := 69) rfl)) (hw _ (List.mem_of_getElem? (i := 68) rfl)) (by decide) (by decide)) (g := (mkF m 14 #[rv t, iv (35 : Int32), iv ((Int32.ofNat xs.length) - (1 : Int32)), .unset] [(.int ((Int32.ofNat xs.length) - (1 : Int32))), (.int ((Int32.ofNat xs.length) - (1 : Int32)))])) rfl (by rw [hml]; rfl) (argsL := [(.int ((Int32.ofNat xs.length) - (1 : Int32))), (.int ((Int32.ofNat xs.length) - (1 : Int32)))]) (rest := []) (lenOf own_pd__II_I rfl) rfl (by show 2 * 0 + _ ≤ _; exact Nat.le_of_eq rfl) (hb hby own_d12_14) (fun _ _ => ⟨rfl, e1, (by decide : 0 + 0 ≤ _), (by decide : 0 + 0 ≤ _)⟩)
  dsimp only [Pt.U, Pt.locs, Pt.cells, Pt.slots] at X3 l3 y3 z3 st3 hQ3
  subst l3 y3 z3
  obtain ⟨hv3, Nq3, e3⟩ := hQ3
  rw [own_min_self] at hv3
  subst hv3
  have N3 := Fr.app N1 Nq3
  refine own_go st3 ?_
  show own_Go p e below s _ _ _ (T3.setTop (mkF m 17 #[rv t, iv (35 : Int32), iv ((Int32.ofNat xs.length) - (1 : Int32)), .unset] [(.int ((Int32.ofNat xs.length) - (1 : Int32)))]))
  refine own_go (fun zt zk => (XS.istoreN X3.here hx rfl (hb hby own_d12_17) rfl (l' := #[rv t, iv (35 : Int32), iv ((Int32.ofNat xs.length) - (1 : Int32)), iv ((Int32.ofNat xs.length) - (1 : Int32))]) rfl zk)) ?_
  show own_Go p e below s _ _ _ (T3.setTop (mkF m 18 #[rv t, iv (35 : Int32), iv ((Int32.ofNat xs.length) - (1 : Int32)), iv ((Int32.ofNat xs.length) - (1 : Int32))] []))
  have loop : ∀ k, k ≤ xs.length → own_la xs (35 : Int32) xs.length = own_la xs (35 : Int32) k → own_Go p e below s (own_Q_own_rli35 Z t kb xs h0 n0) ({ frames := 1, cells := 0, slots := 0, locals := 13 } : Room).cells ({ frames := 1, cells := 0, slots := 0, locals := 13 } : Room).slots (T3.setTop (mkF m 18 #[rv t, iv (35 : Int32), iv ((Int32.ofNat xs.length) - (1 : Int32)), iv (Int32.ofNat k - (1 : Int32))] [])) := by
    intro k
    induction k with
    | zero =>
      intro hk hq
      show own_Go p e below s _ _ _ (T3.setTop (mkF m 18 #[rv t, iv (35 : Int32), iv ((Int32.ofNat xs.length) - (1 : Int32)), iv (Int32.ofNat 0 - (1 : Int32))] []))
      refine own_go (fun zt zk => (XS.iloadN X3.here hx rfl (hb hby own_d12_18) rfl (XS.ifYes X3.here hx rfl (pc0 := 19) (pc' := 38) rfl (hb hby own_d12_19) rfl ((if0 _ _).trans (tlt ((by decide) : (Int32.ofNat 0 - (1 : Int32)) < (0 : Int32))).1) (by decide) (by decide) (XS.iconst X3.here hx rfl (hb hby own_d12_38) zk)))) ?_
      show own_Go p e below s _ _ _ (T3.setTop (mkF m 39 #[rv t, iv (35 : Int32), iv ((Int32.ofNat xs.length) - (1 : Int32)), iv (Int32.ofNat 0 - (1 : Int32))] [(.int (-1 : Int32))]))
      exact own_fin X3 Bd.notSynchronized (fun h => by rw [Bd.returns] at h; cases h) (fun fs hr => retOut X3 hx (t := .int) (w := (.int (-1 : Int32))) Bd.returns rfl (Or.inl ⟨rfl, Or.inl rfl, _, rfl⟩) (hb hby own_d12_39) hr) (by rw [e3]; exact ⟨congrArg (fun z => some (Value.int z)) hq.symm, N3, rfl⟩) (by decide) (by decide)
    | succ k ih =>
      intro hk hq
      rw [own_sub1 k (by omega)]
      obtain ⟨hi1, hi3⟩ := own_idx (own_ofNat (q := xs.length) (by omega)).2 (own_nnN (by omega)) (show k < xs.length by omega)
      show own_Go p e below s _ _ _ (T3.setTop (mkF m 18 #[rv t, iv (35 : Int32), iv ((Int32.ofNat xs.length) - (1 : Int32)), iv (Int32.ofNat k)] []))
      refine own_go (fun zt zk => (XS.iloadN X3.here hx rfl (hb hby own_d12_18) rfl (XS.ifNo X3.here hx rfl (hb hby own_d12_19) rfl ((if0 _ _).trans (flt (hi1.1 : ¬ ((Int32.ofNat k) < (0 : Int32)))).1) (XS.aloadN X3.here hx rfl (hb hby own_d12_22) rfl rfl (XS.iloadN X3.here hx rfl (hb hby own_d12_23) rfl zk))))) ?_
      show own_Go p e below s _ _ _ (T3.setTop (mkF m 24 #[rv t, iv (35 : Int32), iv ((Int32.ofNat xs.length) - (1 : Int32)), iv (Int32.ofNat k)] [(.int (Int32.ofNat k)), (.ref t)]))
      obtain ⟨cl4, Ar4, q4, Sz4, Nz4, Ha4, Ga4⟩ := id Va
      have hin4 : ¬ ((Int32.ofNat k) < 0 ∨ cl4.slots.size ≤ ((Int32.ofNat k)).toNatClampNeg) := inb_of Sz4 hi1
      have hat4 : cl4.slots[((Int32.ofNat k)).toNatClampNeg]? = some (.int (xs.getD k 0)) := Has.at Ha4 hin4 (by rw [hi3]; exact own_mapget xs k)
      refine own_go (X3.baloadBytes hx (j := (Int32.ofNat k)) (v := (.int (xs.getD k 0))) (by rw [e3]; exact Ar4.1) (State.isArrayOf_alike hZ.alike Ar4.2.1) Ar4.2.2 hin4 hat4 (g := (mkF m 24 #[rv t, iv (35 : Int32), iv ((Int32.ofNat xs.length) - (1 : Int32)), iv (Int32.ofNat k)] [(.int (Int32.ofNat k)), (.ref t)])) rfl rfl (hb hby own_d12_24)) ?_
      show own_Go p e below s _ _ _ (T3.setTop (mkF m 25 #[rv t, iv (35 : Int32), iv ((Int32.ofNat xs.length) - (1 : Int32)), iv (Int32.ofNat k)] [(.int (xs.getD k 0))]))
      refine own_go (fun zt zk => (XS.iloadN X3.here hx rfl (hb hby own_d12_25) rfl (XS.i2b X3.here hx rfl (hb hby own_d12_26) rfl zk))) ?_
      show own_Go p e below s _ _ _ (T3.setTop (mkF m 27 #[rv t, iv (35 : Int32), iv ((Int32.ofNat xs.length) - (1 : Int32)), iv (Int32.ofNat k)] [(.int (35 : Int32)), (.int (xs.getD k 0))]))
      by_cases heq : (xs.getD k 0) = (35 : Int32)
      · refine own_go (fun zt zk => (XS.icmpNo X3.here hx rfl (hb hby own_d12_27) rfl (teq (heq : (xs.getD k 0) = (35 : Int32))).2 (XS.iloadN X3.here hx rfl (hb hby own_d12_30) rfl zk))) ?_
        show own_Go p e below s _ _ _ (T3.setTop (mkF m 31 #[rv t, iv (35 : Int32), iv ((Int32.ofNat xs.length) - (1 : Int32)), iv (Int32.ofNat k)] [(.int (Int32.ofNat k))]))
        exact own_fin X3 Bd.notSynchronized (fun h => by rw [Bd.returns] at h; cases h) (fun fs hr => retOut X3 hx (t := .int) (w := (.int (Int32.ofNat k))) Bd.returns rfl (Or.inl ⟨rfl, Or.inl rfl, _, rfl⟩) (hb hby own_d12_31) hr) (by rw [e3]; exact ⟨congrArg (fun z => some (Value.int z)) (hq.trans (if_pos heq)).symm, N3, rfl⟩) (by decide) (by decide)
      · refine own_go (fun zt zk => (XS.icmpYes X3.here hx rfl (pc0 := 27) (pc' := 32) rfl (hb hby own_d12_27) rfl (feq (heq : ¬ ((xs.getD k 0) = (35 : Int32)))).2 (by decide) (by decide) (XS.iinc X3.here hx rfl (hb hby own_d12_32) rfl (l' := #[rv t, iv (35 : Int32), iv ((Int32.ofNat xs.length) - (1 : Int32)), iv ((Int32.ofNat k) + (-1 : Int32))]) rfl (XS.goto X3.here hx rfl (pc0 := 35) (pc' := 18) rfl (hb hby own_d12_35) (by decide) (by decide) zk)))) ?_
        show own_Go p e below s _ _ _ (T3.setTop (mkF m 18 #[rv t, iv (35 : Int32), iv ((Int32.ofNat xs.length) - (1 : Int32)), iv ((Int32.ofNat k) + (-1 : Int32))] []))
        rw [own_dec k (by omega)]
        exact ih (by omega) (hq.trans (if_neg heq))
  exact loop xs.length (Nat.le_refl _) rfl
theorem own_d10_0 : decode jdk_42_method_83_code 0 = .ok (.aload_n 0, 1) := by decide +kernel
theorem own_d10_1 : decode jdk_42_method_83_code 1 = .ok (.invokevirtual 492, 3) := by decide +kernel
theorem own_d10_4 : decode jdk_42_method_83_code 4 = .ok (.ifCond .eq 15, 3) := by decide +kernel
theorem own_d10_7 : decode jdk_42_method_83_code 7 = .ok (.aload_n 0, 1) := by decide +kernel
theorem own_d10_8 : decode jdk_42_method_83_code 8 = .ok (.getfield 9, 3) := by decide +kernel
theorem own_d10_11 : decode jdk_42_method_83_code 11 = .ok (.iload_n 1, 1) := by decide +kernel
theorem own_d10_12 : decode jdk_42_method_83_code 12 = .ok (.iload_n 2, 1) := by decide +kernel
theorem own_d10_13 : decode jdk_42_method_83_code 13 = .ok (.invokestatic 644, 3) := by decide +kernel
theorem own_pd___BII_I : parseMethodDescriptor "([BII)I" = some ⟨[(.array .byte), .int, .int], some .int⟩ := by decide +kernel
theorem own_d10_16 : decode jdk_42_method_83_code 16 = .ok (.goto 12, 3) := by decide +kernel
theorem own_d10_28 : decode jdk_42_method_83_code 28 = .ok (.ireturn, 1) := by decide +kernel
theorem own_ef_own_rls235 (m : MethodId) (a1 : Addr) (xs : List Int32) : entryFrame m #[(.ref a1), (.int (35 : Int32)), (.int ((Int32.ofNat xs.length) - (1 : Int32)))] 3 = mkF m 0 #[rv a1, iv (35 : Int32), iv ((Int32.ofNat xs.length) - (1 : Int32))] [] := by first | (simp [entryFrame, mkF, argsToLocals, Value.category]; done) | rfl
def own_Q_own_rls235 (Z : State) (a1 : Addr) (cz : Int32) (t : Addr) (kb : ClassId) (xs : List Int32) (h0 : Heap) (n0 : Nat) (v : Option Value) (h : Heap) (L : List Loc) : Prop := v = some (.int (own_la xs (35 : Int32) xs.length)) ∧ Fr n0 L ∧ h = h0
set_option maxRecDepth 65536 in
set_option maxHeartbeats 40000000 in
theorem own_rls235 (l : Launch) (Z : State) (a0 : Array Value) (hw : ∀ d ∈ tables_1, d.before a0 Z = true) (ws : List Jvm.Cond) (a1 : Addr) (cz : Int32) (t : Addr) (kb : ClassId) (xs : List Int32) (h0 : Heap) (n0 : Nat) (Z0 : n0 ≤ h0.size) (O : Old Z n0 h0) (SC : Sta Z Z.heap "java/lang/String" "COMPACT_STRINGS" "Z" (.int cz)) (Ex : Exa Z h0 a1 "java/lang/String") (Fv : Fld Z h0 a1 "java/lang/String" "value" "[B" (.ref t)) (Fc : Fld Z h0 a1 "java/lang/String" "coder" "B" (.int (0 : Int32))) (Va : Arv Z h0 t kb .byte (Int32.ofNat xs.length) (xs.map Value.int) (.int (0 : Int32))) (hz : ¬ (cz = (0 : Int32))) (h5 : xs.length ≤ 5) :
    MetFree l (⟨"java/lang/String", "lastIndexOf", "(II)I"⟩ : MethodName) (head1 (Jvm.Cond.code (⟨"java/lang/String", "lastIndexOf", "(II)I"⟩ : MethodName) jdk_42_method_83_code 3 (some .int) :: ws) ({ frames := 2, cells := 0, slots := 0, locals := 28 } : Room)) (fun a U => a = #[(.ref a1), (.int (35 : Int32)), (.int ((Int32.ofNat xs.length) - (1 : Int32)))] ∧ Z.Warmed39 U.vm ∧ U.heap = h0) (fun _ _ _ _ _ => True) (fun _ U o U' => ∃ v L, o = .returned v ∧ own_Q_own_rls235 Z a1 cz t kb xs h0 n0 v U'.heap L ∧ FrameEnd U o U' L ({ frames := 2, cells := 0, slots := 0, locals := 28 } : Room).cells ({ frames := 2, cells := 0, slots := 0, locals := 28 } : Room).slots) := by
  refine MetFree.of_bodySF (plainFor_of_name own_pn_java_lang_String) hisR ?_
  intro p e s m args below meth c s₁ Bd hml0 hP hK
  obtain ⟨rfl, hZ, hh⟩ := hP
  have hx := Bd.exec
  have hby := Bd.bytes
  have hml : c.maxLocals = 3 := hml0
  have hown : s.vm.findClass "java/lang/String" = some m.cls := findClass_of_methodNamed Bd.named
  have hnm := (name_of_methodNamed Bd.named Bd.method).1
  have X0 : Stand p l e ({ frames := 2, cells := 0, slots := 0, locals := 28 } : Room) s m #[(.ref a1), (.int (35 : Int32)), (.int ((Int32.ofNat xs.length) - (1 : Int32)))] below meth c s₁ [] 0 0 := Stand.of_body Bd
  have e0 : s₁.heap = h0 := by rw [← hh, Bd.state]; rfl
  have N0 := Fr.nil n0
  show own_Go p e below s (own_Q_own_rls235 Z a1 cz t kb xs h0 n0) ({ frames := 2, cells := 0, slots := 0, locals := 28 } : Room).cells ({ frames := 2, cells := 0, slots := 0, locals := 28 } : Room).slots (s₁.setTop (entryFrame m #[(.ref a1), (.int (35 : Int32)), (.int ((Int32.ofNat xs.length) - (1 : Int32)))] 3))
  refine own_go (fun zt zk => castTop (own_ef_own_rls235 m a1 xs) zk) ?_
  show own_Go p e below s _ _ _ (s₁.setTop (mkF m 0 #[rv a1, iv (35 : Int32), iv ((Int32.ofNat xs.length) - (1 : Int32))] []))
  refine own_go (fun zt zk => (XS.aloadN X0.here hx rfl (hb hby own_d10_0) rfl rfl zk)) ?_
  show own_Go p e below s _ _ _ (s₁.setTop (mkF m 1 #[rv a1, iv (35 : Int32), iv ((Int32.ofNat xs.length) - (1 : Int32))] [(.ref a1)]))
  obtain ⟨cq1, kq1, qa1, qb1, qc1⟩ := isOf hZ e0 Ex
  obtain ⟨_, _, ⟨T1, L1, k1, n1⟩, -, X1, ⟨Lc1, hQ1, l1, y1, z1⟩, st1⟩ := X0.virtualBack hx (y := (⟨"java/lang/String", "isLatin1", "()Z"⟩ : MethodName)) (z := (⟨"java/lang/String", "isLatin1", "()Z"⟩ : MethodName)) hown (mvT hZ (hw _ (List.mem_of_getElem? (i := 54) rfl))) (mvT hZ (hw _ (List.mem_of_getElem? (i := 55) rfl))) (notFace_of_selects (args := #[]) (mvT hZ (hw _ (List.mem_of_getElem? (i := 57) rfl)))) (mvT hZ (hw _ (List.mem_of_getElem? (i := 57) rfl))) (mvT hZ (hw _ (List.mem_of_getElem? (i := 56) rfl))) (by decide) (backOf (W := 0) (own_risl l Z a0 hw [] a1 cz h0 n0 Z0 O SC Fc hz) hZ (hw _ (List.mem_of_getElem? (i := 58) rfl)) (hw _ (List.mem_of_getElem? (i := 10) rfl)) (by decide) (by decide)) qa1 qc1 (g := (mkF m 1 #[rv a1, iv (35 : Int32), iv ((Int32.ofNat xs.length) - (1 : Int32))] [(.ref a1)])) rfl (by rw [hml]; rfl) (Steps.refl _) (argsL := []) (rest := []) (lenOf own_pd___Z rfl) rfl (by show 2 * 0 + _ ≤ _; exact Nat.le_of_eq rfl) (hb hby own_d10_1) (fun _ _ => ⟨rfl, e0, (by decide : 0 + 0 ≤ _), (by decide : 0 + 0 ≤ _)⟩)
  dsimp only [Pt.U, Pt.locs, Pt.cells, Pt.slots] at X1 l1 y1 z1 st1 hQ1
  subst l1 y1 z1
  obtain ⟨rfl, Nq1, e1⟩ := hQ1
  have N1 := Fr.app N0 Nq1
  refine own_go (fun zt zk => st1.trans zk) ?_
  show own_Go p e below s _ _ _ (T1.setTop (mkF m 4 #[rv a1, iv (35 : Int32), iv ((Int32.ofNat xs.length) - (1 : Int32))] [(.int (1 : Int32))]))
  refine own_go (fun zt zk => (XS.ifNo X1.here hx rfl (hb hby own_d10_4) rfl ((if0 _ _).trans (feq ((by decide) : ¬ ((1 : Int32) = (0 : Int32)))).1) (XS.aloadN X1.here hx rfl (hb hby own_d10_7) rfl rfl zk))) ?_
  show own_Go p e below s _ _ _ (T1.setTop (mkF m 8 #[rv a1, iv (35 : Int32), iv ((Int32.ofNat xs.length) - (1 : Int32))] [(.ref a1)]))
  obtain ⟨T2, X2, e2, st2⟩ := getF X1 hx hZ hown (host := "") (Or.inl (hw _ (List.mem_of_getElem? (i := 27) rfl))) Via.refl e1 Fv (g := (mkF m 8 #[rv a1, iv (35 : Int32), iv ((Int32.ofNat xs.length) - (1 : Int32))] [(.ref a1)])) rfl rfl (hb hby own_d10_8)
  refine own_go st2 ?_
  show own_Go p e below s _ _ _ (T2.setTop (mkF m 11 #[rv a1, iv (35 : Int32), iv ((Int32.ofNat xs.length) - (1 : Int32))] [(.ref t)]))
  refine own_go (fun zt zk => (XS.iloadN X2.here hx rfl (hb hby own_d10_11) rfl (XS.iloadN X2.here hx rfl (hb hby own_d10_12) rfl zk))) ?_
  show own_Go p e below s _ _ _ (T2.setTop (mkF m 13 #[rv a1, iv (35 : Int32), iv ((Int32.ofNat xs.length) - (1 : Int32))] [(.int ((Int32.ofNat xs.length) - (1 : Int32))), (.int (35 : Int32)), (.ref t)]))
  obtain ⟨_, _, ⟨T3, L3, k3, n3⟩, -, X3, ⟨Lc3, hQ3, l3, y3, z3⟩, st3⟩ := Jvm.LawKit.callS X2 hx (y := (⟨"java/lang/StringLatin1", "lastIndexOf", "([BII)I"⟩ : MethodName)) hown (mvT hZ (hw _ (List.mem_of_getElem? (i := 59) rfl))) (mvT hZ (hw _ (List.mem_of_getElem? (i := 60) rfl))) (mvT hZ (hw _ (List.mem_of_getElem? (i := 61) rfl))) (mvT hZ (hw _ (List.mem_of_getElem? (i := 62) rfl))) (by decide) (backOf (W := 0) (own_rli35 l Z a0 hw [] t kb xs h0 n0 Z0 Va h5) hZ (hw _ (List.mem_of_getElem? (i := 62) rfl)) (hw _ (List.mem_of_getElem? (i := 61) rfl)) (by decide) (by decide)) (g := (mkF m 13 #[rv a1, iv (35 : Int32), iv ((Int32.ofNat xs.length) - (1 : Int32))] [(.int ((Int32.ofNat xs.length) - (1 : Int32))), (.int (35 : Int32)), (.ref t)])) rfl (by rw [hml]; rfl) (argsL := [(.ref t), (.int (35 : Int32)), (.int ((Int32.ofNat xs.length) - (1 : Int32)))]) (rest := []) (lenOf own_pd___BII_I rfl) rfl (by show 2 * 0 + _ ≤ _; exact Nat.le_of_eq rfl) (hb hby own_d10_13) (fun _ _ => ⟨rfl, e2, (by decide : 0 + 0 ≤ _), (by decide : 0 + 0 ≤ _)⟩)
  dsimp only [Pt.U, Pt.locs, Pt.cells, Pt.slots] at X3 l3 y3 z3 st3 hQ3
  subst l3 y3 z3
  obtain ⟨rfl, Nq3, e3⟩ := hQ3
  have N3 := Fr.app N1 Nq3
  refine own_go st3 ?_
  show own_Go p e below s _ _ _ (T3.setTop (mkF m 16 #[rv a1, iv (35 : Int32), iv ((Int32.ofNat xs.length) - (1 : Int32))] [(.int (own_la xs (35 : Int32) xs.length))]))
  refine own_go (fun zt zk => (XS.goto X3.here hx rfl (pc0 := 16) (pc' := 28) rfl (hb hby own_d10_16) (by decide) (by decide) zk)) ?_
  show own_Go p e below s _ _ _ (T3.setTop (mkF m 28 #[rv a1, iv (35 : Int32), iv ((Int32.ofNat xs.length) - (1 : Int32))] [(.int (own_la xs (35 : Int32) xs.length))]))
  exact own_fin X3 Bd.notSynchronized (fun h => by rw [Bd.returns] at h; cases h) (fun fs hr => retOut X3 hx (t := .int) (w := (.int (own_la xs (35 : Int32) xs.length))) Bd.returns rfl (Or.inl ⟨rfl, Or.inl rfl, _, rfl⟩) (hb hby own_d10_28) hr) (by rw [e3]; exact ⟨rfl, N3, rfl⟩) (by decide) (by decide)
theorem own_d7_0 : decode jdk_42_method_82_code 0 = .ok (.aload_n 0, 1) := by decide +kernel
theorem own_d7_1 : decode jdk_42_method_82_code 1 = .ok (.iload_n 1, 1) := by decide +kernel
theorem own_d7_2 : decode jdk_42_method_82_code 2 = .ok (.aload_n 0, 1) := by decide +kernel
theorem own_d7_3 : decode jdk_42_method_82_code 3 = .ok (.invokevirtual 505, 3) := by decide +kernel
theorem own_pd___I : parseMethodDescriptor "()I" = some ⟨[], some .int⟩ := by decide +kernel
theorem own_d7_6 : decode jdk_42_method_82_code 6 = .ok (.iconst 1, 1) := by decide +kernel
theorem own_d7_7 : decode jdk_42_method_82_code 7 = .ok (.isub, 1) := by decide +kernel
theorem own_d7_8 : decode jdk_42_method_82_code 8 = .ok (.invokevirtual 641, 3) := by decide +kernel
theorem own_d7_11 : decode jdk_42_method_82_code 11 = .ok (.ireturn, 1) := by decide +kernel
theorem own_ef_own_rls135 (m : MethodId) (a1 : Addr) : entryFrame m #[(.ref a1), (.int (35 : Int32))] 2 = mkF m 0 #[rv a1, iv (35 : Int32)] [] := by first | (simp [entryFrame, mkF, argsToLocals, Value.category]; done) | rfl
def own_Q_own_rls135 (Z : State) (a1 : Addr) (cz : Int32) (t : Addr) (kb : ClassId) (xs : List Int32) (h0 : Heap) (n0 : Nat) (v : Option Value) (h : Heap) (L : List Loc) : Prop := v = some (.int (own_la xs (35 : Int32) xs.length)) ∧ Fr n0 L ∧ h = h0
set_option maxRecDepth 65536 in
set_option maxHeartbeats 40000000 in
theorem own_rls135 (l : Launch) (Z : State) (a0 : Array Value) (hw : ∀ d ∈ tables_1, d.before a0 Z = true) (ws : List Jvm.Cond) (a1 : Addr) (cz : Int32) (t : Addr) (kb : ClassId) (xs : List Int32) (h0 : Heap) (n0 : Nat) (Z0 : n0 ≤ h0.size) (O : Old Z n0 h0) (SC : Sta Z Z.heap "java/lang/String" "COMPACT_STRINGS" "Z" (.int cz)) (Ex : Exa Z h0 a1 "java/lang/String") (Fv : Fld Z h0 a1 "java/lang/String" "value" "[B" (.ref t)) (Fc : Fld Z h0 a1 "java/lang/String" "coder" "B" (.int (0 : Int32))) (Va : Arv Z h0 t kb .byte (Int32.ofNat xs.length) (xs.map Value.int) (.int (0 : Int32))) (hz : ¬ (cz = (0 : Int32))) (h5 : xs.length ≤ 5) :
    MetFree l (⟨"java/lang/String", "lastIndexOf", "(I)I"⟩ : MethodName) (head1 (Jvm.Cond.code (⟨"java/lang/String", "lastIndexOf", "(I)I"⟩ : MethodName) jdk_42_method_82_code 2 (some .int) :: ws) ({ frames := 3, cells := 0, slots := 0, locals := 42 } : Room)) (fun a U => a = #[(.ref a1), (.int (35 : Int32))] ∧ Z.Warmed39 U.vm ∧ U.heap = h0) (fun _ _ _ _ _ => True) (fun _ U o U' => ∃ v L, o = .returned v ∧ own_Q_own_rls135 Z a1 cz t kb xs h0 n0 v U'.heap L ∧ FrameEnd U o U' L ({ frames := 3, cells := 0, slots := 0, locals := 42 } : Room).cells ({ frames := 3, cells := 0, slots := 0, locals := 42 } : Room).slots) := by
  refine MetFree.of_bodySF (plainFor_of_name own_pn_java_lang_String) hisR ?_
  intro p e s m args below meth c s₁ Bd hml0 hP hK
  obtain ⟨rfl, hZ, hh⟩ := hP
  have hx := Bd.exec
  have hby := Bd.bytes
  have hml : c.maxLocals = 2 := hml0
  have hown : s.vm.findClass "java/lang/String" = some m.cls := findClass_of_methodNamed Bd.named
  have hnm := (name_of_methodNamed Bd.named Bd.method).1
  have X0 : Stand p l e ({ frames := 3, cells := 0, slots := 0, locals := 42 } : Room) s m #[(.ref a1), (.int (35 : Int32))] below meth c s₁ [] 0 0 := Stand.of_body Bd
  have e0 : s₁.heap = h0 := by rw [← hh, Bd.state]; rfl
  have N0 := Fr.nil n0
  show own_Go p e below s (own_Q_own_rls135 Z a1 cz t kb xs h0 n0) ({ frames := 3, cells := 0, slots := 0, locals := 42 } : Room).cells ({ frames := 3, cells := 0, slots := 0, locals := 42 } : Room).slots (s₁.setTop (entryFrame m #[(.ref a1), (.int (35 : Int32))] 2))
  refine own_go (fun zt zk => castTop (own_ef_own_rls135 m a1) zk) ?_
  show own_Go p e below s _ _ _ (s₁.setTop (mkF m 0 #[rv a1, iv (35 : Int32)] []))
  refine own_go (fun zt zk => (XS.aloadN X0.here hx rfl (hb hby own_d7_0) rfl rfl (XS.iloadN X0.here hx rfl (hb hby own_d7_1) rfl (XS.aloadN X0.here hx rfl (hb hby own_d7_2) rfl rfl zk)))) ?_
  show own_Go p e below s _ _ _ (s₁.setTop (mkF m 3 #[rv a1, iv (35 : Int32)] [(.ref a1), (.int (35 : Int32)), (.ref a1)]))
  obtain ⟨cq1, kq1, qa1, qb1, qc1⟩ := isOf hZ e0 Ex
  obtain ⟨_, _, ⟨T1, L1, k1, n1⟩, -, X1, ⟨Lc1, hQ1, l1, y1, z1⟩, st1⟩ := X0.virtualBack hx (y := (⟨"java/lang/String", "length", "()I"⟩ : MethodName)) (z := (⟨"java/lang/String", "length", "()I"⟩ : MethodName)) hown (mvT hZ (hw _ (List.mem_of_getElem? (i := 38) rfl))) (mvT hZ (hw _ (List.mem_of_getElem? (i := 39) rfl))) (notFace_of_selects (args := #[]) (mvT hZ (hw _ (List.mem_of_getElem? (i := 41) rfl)))) (mvT hZ (hw _ (List.mem_of_getElem? (i := 41) rfl))) (mvT hZ (hw _ (List.mem_of_getElem? (i := 40) rfl))) (by decide) (backOf (W := 2) (own_rlen l Z a0 hw [] a1 cz t kb (Int32.ofNat xs.length) (xs.map Value.int) h0 n0 Z0 O SC Ex Fv Fc Va hz) hZ (hw _ (List.mem_of_getElem? (i := 42) rfl)) (hw _ (List.mem_of_getElem? (i := 10) rfl)) (by decide) (by decide)) qa1 qc1 (g := (mkF m 3 #[rv a1, iv (35 : Int32)] [(.ref a1), (.int (35 : Int32)), (.ref a1)])) rfl (by rw [hml]; rfl) (Steps.refl _) (argsL := []) (rest := [(.int (35 : Int32)), (.ref a1)]) (lenOf own_pd___I rfl) rfl (by show 2 * 0 + _ ≤ _; exact Nat.le_of_eq rfl) (hb hby own_d7_3) (fun _ _ => ⟨rfl, e0, (by decide : 0 + 0 ≤ _), (by decide : 0 + 0 ≤ _)⟩)
  dsimp only [Pt.U, Pt.locs, Pt.cells, Pt.slots] at X1 l1 y1 z1 st1 hQ1
  subst l1 y1 z1
  obtain ⟨rfl, Nq1, e1⟩ := hQ1
  have N1 := Fr.app N0 Nq1
  refine own_go (fun zt zk => st1.trans zk) ?_
  show own_Go p e below s _ _ _ (T1.setTop (mkF m 6 #[rv a1, iv (35 : Int32)] [(.int (Int32.ofNat xs.length)), (.int (35 : Int32)), (.ref a1)]))
  refine own_go (fun zt zk => (XS.iconst X1.here hx rfl (hb hby own_d7_6) (XS.isub X1.here hx rfl (hb hby own_d7_7) rfl zk))) ?_
  show own_Go p e below s _ _ _ (T1.setTop (mkF m 8 #[rv a1, iv (35 : Int32)] [(.int ((Int32.ofNat xs.length) - (1 : Int32))), (.int (35 : Int32)), (.ref a1)]))
  obtain ⟨cq2, kq2, qa2, qb2, qc2⟩ := isOf hZ e1 Ex
  obtain ⟨_, _, ⟨T2, L2, k2, n2⟩, -, X2, ⟨Lc2, hQ2, l2, y2, z2⟩, st2⟩ := X1.virtualBack hx (y := (⟨"java/lang/String", "lastIndexOf", "(II)I"⟩ : MethodName)) (z := (⟨"java/lang/String", "lastIndexOf", "(II)I"⟩ : MethodName)) hown (mvT hZ (hw _ (List.mem_of_getElem? (i := 49) rfl))) (mvT hZ (hw _ (List.mem_of_getElem? (i := 50) rfl))) (notFace_of_selects (args := #[]) (mvT hZ (hw _ (List.mem_of_getElem? (i := 52) rfl)))) (mvT hZ (hw _ (List.mem_of_getElem? (i := 52) rfl))) (mvT hZ (hw _ (List.mem_of_getElem? (i := 51) rfl))) (by decide) (backOf (W := 0) (own_rls235 l Z a0 hw [] a1 cz t kb xs h0 n0 Z0 O SC Ex Fv Fc Va hz h5) hZ (hw _ (List.mem_of_getElem? (i := 53) rfl)) (hw _ (List.mem_of_getElem? (i := 10) rfl)) (by decide) (by decide)) qa2 qc2 (g := (mkF m 8 #[rv a1, iv (35 : Int32)] [(.int ((Int32.ofNat xs.length) - (1 : Int32))), (.int (35 : Int32)), (.ref a1)])) rfl (by rw [hml]; rfl) (Steps.refl _) (argsL := [(.int (35 : Int32)), (.int ((Int32.ofNat xs.length) - (1 : Int32)))]) (rest := []) (lenOf own_pd__II_I rfl) rfl (by show 2 * 0 + _ ≤ _; exact Nat.le_of_eq rfl) (hb hby own_d7_8) (fun _ _ => ⟨rfl, e1, (by decide : 0 + 0 ≤ _), (by decide : 0 + 0 ≤ _)⟩)
  dsimp only [Pt.U, Pt.locs, Pt.cells, Pt.slots] at X2 l2 y2 z2 st2 hQ2
  subst l2 y2 z2
  obtain ⟨rfl, Nq2, e2⟩ := hQ2
  have N2 := Fr.app N1 Nq2
  refine own_go (fun zt zk => st2.trans zk) ?_
  show own_Go p e below s _ _ _ (T2.setTop (mkF m 11 #[rv a1, iv (35 : Int32)] [(.int (own_la xs (35 : Int32) xs.length))]))
  exact own_fin X2 Bd.notSynchronized (fun h => by rw [Bd.returns] at h; cases h) (fun fs hr => retOut X2 hx (t := .int) (w := (.int (own_la xs (35 : Int32) xs.length))) Bd.returns rfl (Or.inl ⟨rfl, Or.inl rfl, _, rfl⟩) (hb hby own_d7_11) hr) (by rw [e2]; exact ⟨rfl, N2, rfl⟩) (by decide) (by decide)
theorem own_ef_own_rli47 (m : MethodId) (t : Addr) (xs : List Int32) : entryFrame m #[(.ref t), (.int (47 : Int32)), (.int ((Int32.ofNat xs.length) - (1 : Int32)))] 4 = mkF m 0 #[rv t, iv (47 : Int32), iv ((Int32.ofNat xs.length) - (1 : Int32)), .unset] [] := by first | (simp [entryFrame, mkF, argsToLocals, Value.category]; done) | rfl
def own_Q_own_rli47 (Z : State) (t : Addr) (kb : ClassId) (xs : List Int32) (h0 : Heap) (n0 : Nat) (v : Option Value) (h : Heap) (L : List Loc) : Prop := v = some (.int (own_la xs (47 : Int32) xs.length)) ∧ Fr n0 L ∧ h = h0
set_option maxRecDepth 65536 in
set_option maxHeartbeats 40000000 in
theorem own_rli47 (l : Launch) (Z : State) (a0 : Array Value) (hw : ∀ d ∈ tables_1, d.before a0 Z = true) (ws : List Jvm.Cond) (t : Addr) (kb : ClassId) (xs : List Int32) (h0 : Heap) (n0 : Nat) (Z0 : n0 ≤ h0.size) (Va : Arv Z h0 t kb .byte (Int32.ofNat xs.length) (xs.map Value.int) (.int (0 : Int32))) (h5 : xs.length ≤ 5) :
    MetFree l (⟨"java/lang/StringLatin1", "lastIndexOf", "([BII)I"⟩ : MethodName) (head1 (Jvm.Cond.code (⟨"java/lang/StringLatin1", "lastIndexOf", "([BII)I"⟩ : MethodName) jdk_43_method_27_code 4 (some .int) :: ws) ({ frames := 1, cells := 0, slots := 0, locals := 13 } : Room)) (fun a U => a = #[(.ref t), (.int (47 : Int32)), (.int ((Int32.ofNat xs.length) - (1 : Int32)))] ∧ Z.Warmed39 U.vm ∧ U.heap = h0) (fun _ _ _ _ _ => True) (fun _ U o U' => ∃ v L, o = .returned v ∧ own_Q_own_rli47 Z t kb xs h0 n0 v U'.heap L ∧ FrameEnd U o U' L ({ frames := 1, cells := 0, slots := 0, locals := 13 } : Room).cells ({ frames := 1, cells := 0, slots := 0, locals := 13 } : Room).slots) := by
  refine MetFree.of_bodySF (plainFor_of_name own_pn_java_lang_StringLatin1) hisR ?_
  intro p e s m args below meth c s₁ Bd hml0 hP hK
  obtain ⟨rfl, hZ, hh⟩ := hP
  have hx := Bd.exec
  have hby := Bd.bytes
  have hml : c.maxLocals = 4 := hml0
  have hown : s.vm.findClass "java/lang/StringLatin1" = some m.cls := findClass_of_methodNamed Bd.named
  have hnm := (name_of_methodNamed Bd.named Bd.method).1
  have X0 : Stand p l e ({ frames := 1, cells := 0, slots := 0, locals := 13 } : Room) s m #[(.ref t), (.int (47 : Int32)), (.int ((Int32.ofNat xs.length) - (1 : Int32)))] below meth c s₁ [] 0 0 := Stand.of_body Bd
  have e0 : s₁.heap = h0 := by rw [← hh, Bd.state]; rfl
  have N0 := Fr.nil n0
  show own_Go p e below s (own_Q_own_rli47 Z t kb xs h0 n0) ({ frames := 1, cells := 0, slots := 0, locals := 13 } : Room).cells ({ frames := 1, cells := 0, slots := 0, locals := 13 } : Room).slots (s₁.setTop (entryFrame m #[(.ref t), (.int (47 : Int32)), (.int ((Int32.ofNat xs.length) - (1 : Int32)))] 4))
  refine own_go (fun zt zk => castTop (own_ef_own_rli47 m t xs) zk) ?_
  show own_Go p e below s _ _ _ (s₁.setTop (mkF m 0 #[rv t, iv (47 : Int32), iv ((Int32.ofNat xs.length) - (1 : Int32)), .unset] []))
  refine own_go (fun zt zk => (XS.iloadN X0.here hx rfl (hb hby own_d12_0) rfl zk)) ?_
  show own_Go p e below s _ _ _ (s₁.setTop (mkF m 1 #[rv t, iv (47 : Int32), iv ((Int32.ofNat xs.length) - (1 : Int32)), .unset] [(.int (47 : Int32))]))
  obtain ⟨_, _, ⟨T1, L1, k1, n1⟩, -, X1, ⟨Lc1, hQ1, l1, y1, z1⟩, st1⟩ := Jvm.LawKit.callS X0 hx (y := (⟨"java/lang/StringLatin1", "canEncode", "(I)Z"⟩ : MethodName)) hown (mvT hZ (hw _ (List.mem_of_getElem? (i := 63) rfl))) (mvT hZ (hw _ (List.mem_of_getElem? (i := 64) rfl))) (mvT hZ (hw _ (List.mem_of_getElem? (i := 61) rfl))) (mvT hZ (hw _ (List.mem_of_getElem? (i := 65) rfl))) (by decide) (backOf (W := 0) (own_rcan47 l Z a0 hw []   h0 n0 Z0 ) hZ (hw _ (List.mem_of_getElem? (i := 65) rfl)) (hw _ (List.mem_of_getElem? (i := 61) rfl)) (by decide) (by decide)) (g := (mkF m 1 #[rv t, iv (47 : Int32), iv ((Int32.ofNat xs.length) - (1 : Int32)), .unset] [(.int (47 : Int32))])) rfl (by rw [hml]; rfl) (argsL := [(.int (47 : Int32))]) (rest := []) (lenOf own_pd__I_Z rfl) rfl (by show 2 * 0 + _ ≤ _; exact Nat.le_of_eq rfl) (hb hby own_d12_1) (fun _ _ => ⟨rfl, e0, (by decide : 0 + 0 ≤ _), (by decide : 0 + 0 ≤ _)⟩)
  dsimp only [Pt.U, Pt.locs, Pt.cells, Pt.slots] at X1 l1 y1 z1 st1 hQ1
  subst l1 y1 z1
  obtain ⟨rfl, Nq1, e1⟩ := hQ1
  have N1 := Fr.app N0 Nq1
  refine own_go st1 ?_
  show own_Go p e below s _ _ _ (T1.setTop (mkF m 4 #[rv t, iv (47 : Int32), iv ((Int32.ofNat xs.length) - (1 : Int32)), .unset] [(.int (1 : Int32))]))
  refine own_go (fun zt zk => (XS.ifYes X1.here hx rfl (pc0 := 4) (pc' := 9) rfl (hb hby own_d12_4) rfl ((if0 _ _).trans (feq ((by decide) : ¬ ((1 : Int32) = (0 : Int32)))).2) (by decide) (by decide) (XS.iloadN X1.here hx rfl (hb hby own_d12_9) rfl (XS.aloadN X1.here hx rfl (hb hby own_d12_10) rfl rfl zk)))) ?_
  show own_Go p e below s _ _ _ (T1.setTop (mkF m 11 #[rv t, iv (47 : Int32), iv ((Int32.ofNat xs.length) - (1 : Int32)), .unset] [(.ref t), (.int ((Int32.ofNat xs.length) - (1 : Int32)))]))
  obtain ⟨cl2, Ar2, -, Sz2, Nz2, -, -⟩ := id Va
  refine own_go (X1.arraylength hx (by rw [e1]; exact Ar2.1) (State.isArrayOf_alike hZ.alike Ar2.2.1) (g := (mkF m 11 #[rv t, iv (47 : Int32), iv ((Int32.ofNat xs.length) - (1 : Int32)), .unset] [(.ref t), (.int ((Int32.ofNat xs.length) - (1 : Int32)))])) rfl rfl (hb hby own_d12_11)) ?_
  rw [len_of Sz2 Nz2]
  show own_Go p e below s _ _ _ (T1.setTop (mkF m 12 #[rv t, iv (47 : Int32), iv ((Int32.ofNat xs.length) - (1 : Int32)), .unset] [(.int (Int32.ofNat xs.length)), (.int ((Int32.ofNat xs.length) - (1 : Int32)))]))
  refine own_go (fun zt zk => (XS.iconst X1.here hx rfl (hb hby own_d12_12) (XS.isub X1.here hx rfl (hb hby own_d12_13) rfl zk))) ?_
  show own_Go p e below s _ _ _ (T1.setTop (mkF m 14 #[rv t, iv (47 : Int32), iv ((Int32.ofNat xs.length) - (1 : Int32)), .unset] [(.int ((Int32.ofNat xs.length) - (1 : Int32))), (.int ((Int32.ofNat xs.length) - (1 : Int32)))]))
  obtain ⟨_, _, ⟨T3, L3, k3, n3⟩, -, X3, ⟨Lc3, hQ3, l3, y3, z3⟩, st3⟩ := Jvm.LawKit.callS X1 hx (y := (⟨"java/lang/Math", "min", "(II)I"⟩ : MethodName)) hown (mvT hZ (hw _ (List.mem_of_getElem? (i := 66) rfl))) (mvT hZ (hw _ (List.mem_of_getElem? (i := 67) rfl))) (mvT hZ (hw _ (List.mem_of_getElem? (i := 68) rfl))) (mvT hZ (hw _ (List.mem_of_getElem? (i := 69) rfl))) (by decide) (backOf (W := 0) (own_rmin l Z a0 hw [] ((Int32.ofNat xs.length) - (1 : Int32)) ((Int32.ofNat xs.length) - (1 : Int32))  h0 n0 Z0 ) hZ (hw _ (List.mem_of_getElem? (i := 69) rfl)) (hw _ (List.mem_of_getElem? (i := 68) rfl)) (by decide) (by decide)) (g := (mkF m 14 #[rv t, iv (47 : Int32), iv ((Int32.ofNat xs.length) - (1 : Int32)), .unset] [(.int ((Int32.ofNat xs.length) - (1 : Int32))), (.int ((Int32.ofNat xs.length) - (1 : Int32)))])) rfl (by rw [hml]; rfl) (argsL := [(.int ((Int32.ofNat xs.length) - (1 : Int32))), (.int ((Int32.ofNat xs.length) - (1 : Int32)))]) (rest := []) (lenOf own_pd__II_I rfl) rfl (by show 2 * 0 + _ ≤ _; exact Nat.le_of_eq rfl) (hb hby own_d12_14) (fun _ _ => ⟨rfl, e1, (by decide : 0 + 0 ≤ _), (by decide : 0 + 0 ≤ _)⟩)
  dsimp only [Pt.U, Pt.locs, Pt.cells, Pt.slots] at X3 l3 y3 z3 st3 hQ3
  subst l3 y3 z3
  obtain ⟨hv3, Nq3, e3⟩ := hQ3
  rw [own_min_self] at hv3
  subst hv3
  have N3 := Fr.app N1 Nq3
  refine own_go st3 ?_
  show own_Go p e below s _ _ _ (T3.setTop (mkF m 17 #[rv t, iv (47 : Int32), iv ((Int32.ofNat xs.length) - (1 : Int32)), .unset] [(.int ((Int32.ofNat xs.length) - (1 : Int32)))]))
  refine own_go (fun zt zk => (XS.istoreN X3.here hx rfl (hb hby own_d12_17) rfl (l' := #[rv t, iv (47 : Int32), iv ((Int32.ofNat xs.length) - (1 : Int32)), iv ((Int32.ofNat xs.length) - (1 : Int32))]) rfl zk)) ?_
  show own_Go p e below s _ _ _ (T3.setTop (mkF m 18 #[rv t, iv (47 : Int32), iv ((Int32.ofNat xs.length) - (1 : Int32)), iv ((Int32.ofNat xs.length) - (1 : Int32))] []))
  have loop : ∀ k, k ≤ xs.length → own_la xs (47 : Int32) xs.length = own_la xs (47 : Int32) k → own_Go p e below s (own_Q_own_rli47 Z t kb xs h0 n0) ({ frames := 1, cells := 0, slots := 0, locals := 13 } : Room).cells ({ frames := 1, cells := 0, slots := 0, locals := 13 } : Room).slots (T3.setTop (mkF m 18 #[rv t, iv (47 : Int32), iv ((Int32.ofNat xs.length) - (1 : Int32)), iv (Int32.ofNat k - (1 : Int32))] [])) := by
    intro k
    induction k with
    | zero =>
      intro hk hq
      show own_Go p e below s _ _ _ (T3.setTop (mkF m 18 #[rv t, iv (47 : Int32), iv ((Int32.ofNat xs.length) - (1 : Int32)), iv (Int32.ofNat 0 - (1 : Int32))] []))
      refine own_go (fun zt zk => (XS.iloadN X3.here hx rfl (hb hby own_d12_18) rfl (XS.ifYes X3.here hx rfl (pc0 := 19) (pc' := 38) rfl (hb hby own_d12_19) rfl ((if0 _ _).trans (tlt ((by decide) : (Int32.ofNat 0 - (1 : Int32)) < (0 : Int32))).1) (by decide) (by decide) (XS.iconst X3.here hx rfl (hb hby own_d12_38) zk)))) ?_
      show own_Go p e below s _ _ _ (T3.setTop (mkF m 39 #[rv t, iv (47 : Int32), iv ((Int32.ofNat xs.length) - (1 : Int32)), iv (Int32.ofNat 0 - (1 : Int32))] [(.int (-1 : Int32))]))
      exact own_fin X3 Bd.notSynchronized (fun h => by rw [Bd.returns] at h; cases h) (fun fs hr => retOut X3 hx (t := .int) (w := (.int (-1 : Int32))) Bd.returns rfl (Or.inl ⟨rfl, Or.inl rfl, _, rfl⟩) (hb hby own_d12_39) hr) (by rw [e3]; exact ⟨congrArg (fun z => some (Value.int z)) hq.symm, N3, rfl⟩) (by decide) (by decide)
    | succ k ih =>
      intro hk hq
      rw [own_sub1 k (by omega)]
      obtain ⟨hi1, hi3⟩ := own_idx (own_ofNat (q := xs.length) (by omega)).2 (own_nnN (by omega)) (show k < xs.length by omega)
      show own_Go p e below s _ _ _ (T3.setTop (mkF m 18 #[rv t, iv (47 : Int32), iv ((Int32.ofNat xs.length) - (1 : Int32)), iv (Int32.ofNat k)] []))
      refine own_go (fun zt zk => (XS.iloadN X3.here hx rfl (hb hby own_d12_18) rfl (XS.ifNo X3.here hx rfl (hb hby own_d12_19) rfl ((if0 _ _).trans (flt (hi1.1 : ¬ ((Int32.ofNat k) < (0 : Int32)))).1) (XS.aloadN X3.here hx rfl (hb hby own_d12_22) rfl rfl (XS.iloadN X3.here hx rfl (hb hby own_d12_23) rfl zk))))) ?_
      show own_Go p e below s _ _ _ (T3.setTop (mkF m 24 #[rv t, iv (47 : Int32), iv ((Int32.ofNat xs.length) - (1 : Int32)), iv (Int32.ofNat k)] [(.int (Int32.ofNat k)), (.ref t)]))
      obtain ⟨cl4, Ar4, q4, Sz4, Nz4, Ha4, Ga4⟩ := id Va
      have hin4 : ¬ ((Int32.ofNat k) < 0 ∨ cl4.slots.size ≤ ((Int32.ofNat k)).toNatClampNeg) := inb_of Sz4 hi1
      have hat4 : cl4.slots[((Int32.ofNat k)).toNatClampNeg]? = some (.int (xs.getD k 0)) := Has.at Ha4 hin4 (by rw [hi3]; exact own_mapget xs k)
      refine own_go (X3.baloadBytes hx (j := (Int32.ofNat k)) (v := (.int (xs.getD k 0))) (by rw [e3]; exact Ar4.1) (State.isArrayOf_alike hZ.alike Ar4.2.1) Ar4.2.2 hin4 hat4 (g := (mkF m 24 #[rv t, iv (47 : Int32), iv ((Int32.ofNat xs.length) - (1 : Int32)), iv (Int32.ofNat k)] [(.int (Int32.ofNat k)), (.ref t)])) rfl rfl (hb hby own_d12_24)) ?_
      show own_Go p e below s _ _ _ (T3.setTop (mkF m 25 #[rv t, iv (47 : Int32), iv ((Int32.ofNat xs.length) - (1 : Int32)), iv (Int32.ofNat k)] [(.int (xs.getD k 0))]))
      refine own_go (fun zt zk => (XS.iloadN X3.here hx rfl (hb hby own_d12_25) rfl (XS.i2b X3.here hx rfl (hb hby own_d12_26) rfl zk))) ?_
      show own_Go p e below s _ _ _ (T3.setTop (mkF m 27 #[rv t, iv (47 : Int32), iv ((Int32.ofNat xs.length) - (1 : Int32)), iv (Int32.ofNat k)] [(.int (47 : Int32)), (.int (xs.getD k 0))]))
      by_cases heq : (xs.getD k 0) = (47 : Int32)
      · refine own_go (fun zt zk => (XS.icmpNo X3.here hx rfl (hb hby own_d12_27) rfl (teq (heq : (xs.getD k 0) = (47 : Int32))).2 (XS.iloadN X3.here hx rfl (hb hby own_d12_30) rfl zk))) ?_
        show own_Go p e below s _ _ _ (T3.setTop (mkF m 31 #[rv t, iv (47 : Int32), iv ((Int32.ofNat xs.length) - (1 : Int32)), iv (Int32.ofNat k)] [(.int (Int32.ofNat k))]))
        exact own_fin X3 Bd.notSynchronized (fun h => by rw [Bd.returns] at h; cases h) (fun fs hr => retOut X3 hx (t := .int) (w := (.int (Int32.ofNat k))) Bd.returns rfl (Or.inl ⟨rfl, Or.inl rfl, _, rfl⟩) (hb hby own_d12_31) hr) (by rw [e3]; exact ⟨congrArg (fun z => some (Value.int z)) (hq.trans (if_pos heq)).symm, N3, rfl⟩) (by decide) (by decide)
      · refine own_go (fun zt zk => (XS.icmpYes X3.here hx rfl (pc0 := 27) (pc' := 32) rfl (hb hby own_d12_27) rfl (feq (heq : ¬ ((xs.getD k 0) = (47 : Int32)))).2 (by decide) (by decide) (XS.iinc X3.here hx rfl (hb hby own_d12_32) rfl (l' := #[rv t, iv (47 : Int32), iv ((Int32.ofNat xs.length) - (1 : Int32)), iv ((Int32.ofNat k) + (-1 : Int32))]) rfl (XS.goto X3.here hx rfl (pc0 := 35) (pc' := 18) rfl (hb hby own_d12_35) (by decide) (by decide) zk)))) ?_
        show own_Go p e below s _ _ _ (T3.setTop (mkF m 18 #[rv t, iv (47 : Int32), iv ((Int32.ofNat xs.length) - (1 : Int32)), iv ((Int32.ofNat k) + (-1 : Int32))] []))
        rw [own_dec k (by omega)]
        exact ih (by omega) (hq.trans (if_neg heq))
  exact loop xs.length (Nat.le_refl _) rfl
theorem own_ef_own_rls247 (m : MethodId) (a1 : Addr) (xs : List Int32) : entryFrame m #[(.ref a1), (.int (47 : Int32)), (.int ((Int32.ofNat xs.length) - (1 : Int32)))] 3 = mkF m 0 #[rv a1, iv (47 : Int32), iv ((Int32.ofNat xs.length) - (1 : Int32))] [] := by first | (simp [entryFrame, mkF, argsToLocals, Value.category]; done) | rfl
def own_Q_own_rls247 (Z : State) (a1 : Addr) (cz : Int32) (t : Addr) (kb : ClassId) (xs : List Int32) (h0 : Heap) (n0 : Nat) (v : Option Value) (h : Heap) (L : List Loc) : Prop := v = some (.int (own_la xs (47 : Int32) xs.length)) ∧ Fr n0 L ∧ h = h0
set_option maxRecDepth 65536 in
set_option maxHeartbeats 40000000 in
theorem own_rls247 (l : Launch) (Z : State) (a0 : Array Value) (hw : ∀ d ∈ tables_1, d.before a0 Z = true) (ws : List Jvm.Cond) (a1 : Addr) (cz : Int32) (t : Addr) (kb : ClassId) (xs : List Int32) (h0 : Heap) (n0 : Nat) (Z0 : n0 ≤ h0.size) (O : Old Z n0 h0) (SC : Sta Z Z.heap "java/lang/String" "COMPACT_STRINGS" "Z" (.int cz)) (Ex : Exa Z h0 a1 "java/lang/String") (Fv : Fld Z h0 a1 "java/lang/String" "value" "[B" (.ref t)) (Fc : Fld Z h0 a1 "java/lang/String" "coder" "B" (.int (0 : Int32))) (Va : Arv Z h0 t kb .byte (Int32.ofNat xs.length) (xs.map Value.int) (.int (0 : Int32))) (hz : ¬ (cz = (0 : Int32))) (h5 : xs.length ≤ 5) :
    MetFree l (⟨"java/lang/String", "lastIndexOf", "(II)I"⟩ : MethodName) (head1 (Jvm.Cond.code (⟨"java/lang/String", "lastIndexOf", "(II)I"⟩ : MethodName) jdk_42_method_83_code 3 (some .int) :: ws) ({ frames := 2, cells := 0, slots := 0, locals := 28 } : Room)) (fun a U => a = #[(.ref a1), (.int (47 : Int32)), (.int ((Int32.ofNat xs.length) - (1 : Int32)))] ∧ Z.Warmed39 U.vm ∧ U.heap = h0) (fun _ _ _ _ _ => True) (fun _ U o U' => ∃ v L, o = .returned v ∧ own_Q_own_rls247 Z a1 cz t kb xs h0 n0 v U'.heap L ∧ FrameEnd U o U' L ({ frames := 2, cells := 0, slots := 0, locals := 28 } : Room).cells ({ frames := 2, cells := 0, slots := 0, locals := 28 } : Room).slots) := by
  refine MetFree.of_bodySF (plainFor_of_name own_pn_java_lang_String) hisR ?_
  intro p e s m args below meth c s₁ Bd hml0 hP hK
  obtain ⟨rfl, hZ, hh⟩ := hP
  have hx := Bd.exec
  have hby := Bd.bytes
  have hml : c.maxLocals = 3 := hml0
  have hown : s.vm.findClass "java/lang/String" = some m.cls := findClass_of_methodNamed Bd.named
  have hnm := (name_of_methodNamed Bd.named Bd.method).1
  have X0 : Stand p l e ({ frames := 2, cells := 0, slots := 0, locals := 28 } : Room) s m #[(.ref a1), (.int (47 : Int32)), (.int ((Int32.ofNat xs.length) - (1 : Int32)))] below meth c s₁ [] 0 0 := Stand.of_body Bd
  have e0 : s₁.heap = h0 := by rw [← hh, Bd.state]; rfl
  have N0 := Fr.nil n0
  show own_Go p e below s (own_Q_own_rls247 Z a1 cz t kb xs h0 n0) ({ frames := 2, cells := 0, slots := 0, locals := 28 } : Room).cells ({ frames := 2, cells := 0, slots := 0, locals := 28 } : Room).slots (s₁.setTop (entryFrame m #[(.ref a1), (.int (47 : Int32)), (.int ((Int32.ofNat xs.length) - (1 : Int32)))] 3))
  refine own_go (fun zt zk => castTop (own_ef_own_rls247 m a1 xs) zk) ?_
  show own_Go p e below s _ _ _ (s₁.setTop (mkF m 0 #[rv a1, iv (47 : Int32), iv ((Int32.ofNat xs.length) - (1 : Int32))] []))
  refine own_go (fun zt zk => (XS.aloadN X0.here hx rfl (hb hby own_d10_0) rfl rfl zk)) ?_
  show own_Go p e below s _ _ _ (s₁.setTop (mkF m 1 #[rv a1, iv (47 : Int32), iv ((Int32.ofNat xs.length) - (1 : Int32))] [(.ref a1)]))
  obtain ⟨cq1, kq1, qa1, qb1, qc1⟩ := isOf hZ e0 Ex
  obtain ⟨_, _, ⟨T1, L1, k1, n1⟩, -, X1, ⟨Lc1, hQ1, l1, y1, z1⟩, st1⟩ := X0.virtualBack hx (y := (⟨"java/lang/String", "isLatin1", "()Z"⟩ : MethodName)) (z := (⟨"java/lang/String", "isLatin1", "()Z"⟩ : MethodName)) hown (mvT hZ (hw _ (List.mem_of_getElem? (i := 54) rfl))) (mvT hZ (hw _ (List.mem_of_getElem? (i := 55) rfl))) (notFace_of_selects (args := #[]) (mvT hZ (hw _ (List.mem_of_getElem? (i := 57) rfl)))) (mvT hZ (hw _ (List.mem_of_getElem? (i := 57) rfl))) (mvT hZ (hw _ (List.mem_of_getElem? (i := 56) rfl))) (by decide) (backOf (W := 0) (own_risl l Z a0 hw [] a1 cz h0 n0 Z0 O SC Fc hz) hZ (hw _ (List.mem_of_getElem? (i := 58) rfl)) (hw _ (List.mem_of_getElem? (i := 10) rfl)) (by decide) (by decide)) qa1 qc1 (g := (mkF m 1 #[rv a1, iv (47 : Int32), iv ((Int32.ofNat xs.length) - (1 : Int32))] [(.ref a1)])) rfl (by rw [hml]; rfl) (Steps.refl _) (argsL := []) (rest := []) (lenOf own_pd___Z rfl) rfl (by show 2 * 0 + _ ≤ _; exact Nat.le_of_eq rfl) (hb hby own_d10_1) (fun _ _ => ⟨rfl, e0, (by decide : 0 + 0 ≤ _), (by decide : 0 + 0 ≤ _)⟩)
  dsimp only [Pt.U, Pt.locs, Pt.cells, Pt.slots] at X1 l1 y1 z1 st1 hQ1
  subst l1 y1 z1
  obtain ⟨rfl, Nq1, e1⟩ := hQ1
  have N1 := Fr.app N0 Nq1
  refine own_go (fun zt zk => st1.trans zk) ?_
  show own_Go p e below s _ _ _ (T1.setTop (mkF m 4 #[rv a1, iv (47 : Int32), iv ((Int32.ofNat xs.length) - (1 : Int32))] [(.int (1 : Int32))]))
  refine own_go (fun zt zk => (XS.ifNo X1.here hx rfl (hb hby own_d10_4) rfl ((if0 _ _).trans (feq ((by decide) : ¬ ((1 : Int32) = (0 : Int32)))).1) (XS.aloadN X1.here hx rfl (hb hby own_d10_7) rfl rfl zk))) ?_
  show own_Go p e below s _ _ _ (T1.setTop (mkF m 8 #[rv a1, iv (47 : Int32), iv ((Int32.ofNat xs.length) - (1 : Int32))] [(.ref a1)]))
  obtain ⟨T2, X2, e2, st2⟩ := getF X1 hx hZ hown (host := "") (Or.inl (hw _ (List.mem_of_getElem? (i := 27) rfl))) Via.refl e1 Fv (g := (mkF m 8 #[rv a1, iv (47 : Int32), iv ((Int32.ofNat xs.length) - (1 : Int32))] [(.ref a1)])) rfl rfl (hb hby own_d10_8)
  refine own_go st2 ?_
  show own_Go p e below s _ _ _ (T2.setTop (mkF m 11 #[rv a1, iv (47 : Int32), iv ((Int32.ofNat xs.length) - (1 : Int32))] [(.ref t)]))
  refine own_go (fun zt zk => (XS.iloadN X2.here hx rfl (hb hby own_d10_11) rfl (XS.iloadN X2.here hx rfl (hb hby own_d10_12) rfl zk))) ?_
  show own_Go p e below s _ _ _ (T2.setTop (mkF m 13 #[rv a1, iv (47 : Int32), iv ((Int32.ofNat xs.length) - (1 : Int32))] [(.int ((Int32.ofNat xs.length) - (1 : Int32))), (.int (47 : Int32)), (.ref t)]))
  obtain ⟨_, _, ⟨T3, L3, k3, n3⟩, -, X3, ⟨Lc3, hQ3, l3, y3, z3⟩, st3⟩ := Jvm.LawKit.callS X2 hx (y := (⟨"java/lang/StringLatin1", "lastIndexOf", "([BII)I"⟩ : MethodName)) hown (mvT hZ (hw _ (List.mem_of_getElem? (i := 59) rfl))) (mvT hZ (hw _ (List.mem_of_getElem? (i := 60) rfl))) (mvT hZ (hw _ (List.mem_of_getElem? (i := 61) rfl))) (mvT hZ (hw _ (List.mem_of_getElem? (i := 62) rfl))) (by decide) (backOf (W := 0) (own_rli47 l Z a0 hw [] t kb xs h0 n0 Z0 Va h5) hZ (hw _ (List.mem_of_getElem? (i := 62) rfl)) (hw _ (List.mem_of_getElem? (i := 61) rfl)) (by decide) (by decide)) (g := (mkF m 13 #[rv a1, iv (47 : Int32), iv ((Int32.ofNat xs.length) - (1 : Int32))] [(.int ((Int32.ofNat xs.length) - (1 : Int32))), (.int (47 : Int32)), (.ref t)])) rfl (by rw [hml]; rfl) (argsL := [(.ref t), (.int (47 : Int32)), (.int ((Int32.ofNat xs.length) - (1 : Int32)))]) (rest := []) (lenOf own_pd___BII_I rfl) rfl (by show 2 * 0 + _ ≤ _; exact Nat.le_of_eq rfl) (hb hby own_d10_13) (fun _ _ => ⟨rfl, e2, (by decide : 0 + 0 ≤ _), (by decide : 0 + 0 ≤ _)⟩)
  dsimp only [Pt.U, Pt.locs, Pt.cells, Pt.slots] at X3 l3 y3 z3 st3 hQ3
  subst l3 y3 z3
  obtain ⟨rfl, Nq3, e3⟩ := hQ3
  have N3 := Fr.app N1 Nq3
  refine own_go st3 ?_
  show own_Go p e below s _ _ _ (T3.setTop (mkF m 16 #[rv a1, iv (47 : Int32), iv ((Int32.ofNat xs.length) - (1 : Int32))] [(.int (own_la xs (47 : Int32) xs.length))]))
  refine own_go (fun zt zk => (XS.goto X3.here hx rfl (pc0 := 16) (pc' := 28) rfl (hb hby own_d10_16) (by decide) (by decide) zk)) ?_
  show own_Go p e below s _ _ _ (T3.setTop (mkF m 28 #[rv a1, iv (47 : Int32), iv ((Int32.ofNat xs.length) - (1 : Int32))] [(.int (own_la xs (47 : Int32) xs.length))]))
  exact own_fin X3 Bd.notSynchronized (fun h => by rw [Bd.returns] at h; cases h) (fun fs hr => retOut X3 hx (t := .int) (w := (.int (own_la xs (47 : Int32) xs.length))) Bd.returns rfl (Or.inl ⟨rfl, Or.inl rfl, _, rfl⟩) (hb hby own_d10_28) hr) (by rw [e3]; exact ⟨rfl, N3, rfl⟩) (by decide) (by decide)
theorem own_ef_own_rls147 (m : MethodId) (a1 : Addr) : entryFrame m #[(.ref a1), (.int (47 : Int32))] 2 = mkF m 0 #[rv a1, iv (47 : Int32)] [] := by first | (simp [entryFrame, mkF, argsToLocals, Value.category]; done) | rfl
def own_Q_own_rls147 (Z : State) (a1 : Addr) (cz : Int32) (t : Addr) (kb : ClassId) (xs : List Int32) (h0 : Heap) (n0 : Nat) (v : Option Value) (h : Heap) (L : List Loc) : Prop := v = some (.int (own_la xs (47 : Int32) xs.length)) ∧ Fr n0 L ∧ h = h0
set_option maxRecDepth 65536 in
set_option maxHeartbeats 40000000 in
theorem own_rls147 (l : Launch) (Z : State) (a0 : Array Value) (hw : ∀ d ∈ tables_1, d.before a0 Z = true) (ws : List Jvm.Cond) (a1 : Addr) (cz : Int32) (t : Addr) (kb : ClassId) (xs : List Int32) (h0 : Heap) (n0 : Nat) (Z0 : n0 ≤ h0.size) (O : Old Z n0 h0) (SC : Sta Z Z.heap "java/lang/String" "COMPACT_STRINGS" "Z" (.int cz)) (Ex : Exa Z h0 a1 "java/lang/String") (Fv : Fld Z h0 a1 "java/lang/String" "value" "[B" (.ref t)) (Fc : Fld Z h0 a1 "java/lang/String" "coder" "B" (.int (0 : Int32))) (Va : Arv Z h0 t kb .byte (Int32.ofNat xs.length) (xs.map Value.int) (.int (0 : Int32))) (hz : ¬ (cz = (0 : Int32))) (h5 : xs.length ≤ 5) :
    MetFree l (⟨"java/lang/String", "lastIndexOf", "(I)I"⟩ : MethodName) (head1 (Jvm.Cond.code (⟨"java/lang/String", "lastIndexOf", "(I)I"⟩ : MethodName) jdk_42_method_82_code 2 (some .int) :: ws) ({ frames := 3, cells := 0, slots := 0, locals := 42 } : Room)) (fun a U => a = #[(.ref a1), (.int (47 : Int32))] ∧ Z.Warmed39 U.vm ∧ U.heap = h0) (fun _ _ _ _ _ => True) (fun _ U o U' => ∃ v L, o = .returned v ∧ own_Q_own_rls147 Z a1 cz t kb xs h0 n0 v U'.heap L ∧ FrameEnd U o U' L ({ frames := 3, cells := 0, slots := 0, locals := 42 } : Room).cells ({ frames := 3, cells := 0, slots := 0, locals := 42 } : Room).slots) := by
  refine MetFree.of_bodySF (plainFor_of_name own_pn_java_lang_String) hisR ?_
  intro p e s m args below meth c s₁ Bd hml0 hP hK
  obtain ⟨rfl, hZ, hh⟩ := hP
  have hx := Bd.exec
  have hby := Bd.bytes
  have hml : c.maxLocals = 2 := hml0
  have hown : s.vm.findClass "java/lang/String" = some m.cls := findClass_of_methodNamed Bd.named
  have hnm := (name_of_methodNamed Bd.named Bd.method).1
  have X0 : Stand p l e ({ frames := 3, cells := 0, slots := 0, locals := 42 } : Room) s m #[(.ref a1), (.int (47 : Int32))] below meth c s₁ [] 0 0 := Stand.of_body Bd
  have e0 : s₁.heap = h0 := by rw [← hh, Bd.state]; rfl
  have N0 := Fr.nil n0
  show own_Go p e below s (own_Q_own_rls147 Z a1 cz t kb xs h0 n0) ({ frames := 3, cells := 0, slots := 0, locals := 42 } : Room).cells ({ frames := 3, cells := 0, slots := 0, locals := 42 } : Room).slots (s₁.setTop (entryFrame m #[(.ref a1), (.int (47 : Int32))] 2))
  refine own_go (fun zt zk => castTop (own_ef_own_rls147 m a1) zk) ?_
  show own_Go p e below s _ _ _ (s₁.setTop (mkF m 0 #[rv a1, iv (47 : Int32)] []))
  refine own_go (fun zt zk => (XS.aloadN X0.here hx rfl (hb hby own_d7_0) rfl rfl (XS.iloadN X0.here hx rfl (hb hby own_d7_1) rfl (XS.aloadN X0.here hx rfl (hb hby own_d7_2) rfl rfl zk)))) ?_
  show own_Go p e below s _ _ _ (s₁.setTop (mkF m 3 #[rv a1, iv (47 : Int32)] [(.ref a1), (.int (47 : Int32)), (.ref a1)]))
  obtain ⟨cq1, kq1, qa1, qb1, qc1⟩ := isOf hZ e0 Ex
  obtain ⟨_, _, ⟨T1, L1, k1, n1⟩, -, X1, ⟨Lc1, hQ1, l1, y1, z1⟩, st1⟩ := X0.virtualBack hx (y := (⟨"java/lang/String", "length", "()I"⟩ : MethodName)) (z := (⟨"java/lang/String", "length", "()I"⟩ : MethodName)) hown (mvT hZ (hw _ (List.mem_of_getElem? (i := 38) rfl))) (mvT hZ (hw _ (List.mem_of_getElem? (i := 39) rfl))) (notFace_of_selects (args := #[]) (mvT hZ (hw _ (List.mem_of_getElem? (i := 41) rfl)))) (mvT hZ (hw _ (List.mem_of_getElem? (i := 41) rfl))) (mvT hZ (hw _ (List.mem_of_getElem? (i := 40) rfl))) (by decide) (backOf (W := 2) (own_rlen l Z a0 hw [] a1 cz t kb (Int32.ofNat xs.length) (xs.map Value.int) h0 n0 Z0 O SC Ex Fv Fc Va hz) hZ (hw _ (List.mem_of_getElem? (i := 42) rfl)) (hw _ (List.mem_of_getElem? (i := 10) rfl)) (by decide) (by decide)) qa1 qc1 (g := (mkF m 3 #[rv a1, iv (47 : Int32)] [(.ref a1), (.int (47 : Int32)), (.ref a1)])) rfl (by rw [hml]; rfl) (Steps.refl _) (argsL := []) (rest := [(.int (47 : Int32)), (.ref a1)]) (lenOf own_pd___I rfl) rfl (by show 2 * 0 + _ ≤ _; exact Nat.le_of_eq rfl) (hb hby own_d7_3) (fun _ _ => ⟨rfl, e0, (by decide : 0 + 0 ≤ _), (by decide : 0 + 0 ≤ _)⟩)
  dsimp only [Pt.U, Pt.locs, Pt.cells, Pt.slots] at X1 l1 y1 z1 st1 hQ1
  subst l1 y1 z1
  obtain ⟨rfl, Nq1, e1⟩ := hQ1
  have N1 := Fr.app N0 Nq1
  refine own_go (fun zt zk => st1.trans zk) ?_
  show own_Go p e below s _ _ _ (T1.setTop (mkF m 6 #[rv a1, iv (47 : Int32)] [(.int (Int32.ofNat xs.length)), (.int (47 : Int32)), (.ref a1)]))
  refine own_go (fun zt zk => (XS.iconst X1.here hx rfl (hb hby own_d7_6) (XS.isub X1.here hx rfl (hb hby own_d7_7) rfl zk))) ?_
  show own_Go p e below s _ _ _ (T1.setTop (mkF m 8 #[rv a1, iv (47 : Int32)] [(.int ((Int32.ofNat xs.length) - (1 : Int32))), (.int (47 : Int32)), (.ref a1)]))
  obtain ⟨cq2, kq2, qa2, qb2, qc2⟩ := isOf hZ e1 Ex
  obtain ⟨_, _, ⟨T2, L2, k2, n2⟩, -, X2, ⟨Lc2, hQ2, l2, y2, z2⟩, st2⟩ := X1.virtualBack hx (y := (⟨"java/lang/String", "lastIndexOf", "(II)I"⟩ : MethodName)) (z := (⟨"java/lang/String", "lastIndexOf", "(II)I"⟩ : MethodName)) hown (mvT hZ (hw _ (List.mem_of_getElem? (i := 49) rfl))) (mvT hZ (hw _ (List.mem_of_getElem? (i := 50) rfl))) (notFace_of_selects (args := #[]) (mvT hZ (hw _ (List.mem_of_getElem? (i := 52) rfl)))) (mvT hZ (hw _ (List.mem_of_getElem? (i := 52) rfl))) (mvT hZ (hw _ (List.mem_of_getElem? (i := 51) rfl))) (by decide) (backOf (W := 0) (own_rls247 l Z a0 hw [] a1 cz t kb xs h0 n0 Z0 O SC Ex Fv Fc Va hz h5) hZ (hw _ (List.mem_of_getElem? (i := 53) rfl)) (hw _ (List.mem_of_getElem? (i := 10) rfl)) (by decide) (by decide)) qa2 qc2 (g := (mkF m 8 #[rv a1, iv (47 : Int32)] [(.int ((Int32.ofNat xs.length) - (1 : Int32))), (.int (47 : Int32)), (.ref a1)])) rfl (by rw [hml]; rfl) (Steps.refl _) (argsL := [(.int (47 : Int32)), (.int ((Int32.ofNat xs.length) - (1 : Int32)))]) (rest := []) (lenOf own_pd__II_I rfl) rfl (by show 2 * 0 + _ ≤ _; exact Nat.le_of_eq rfl) (hb hby own_d7_8) (fun _ _ => ⟨rfl, e1, (by decide : 0 + 0 ≤ _), (by decide : 0 + 0 ≤ _)⟩)
  dsimp only [Pt.U, Pt.locs, Pt.cells, Pt.slots] at X2 l2 y2 z2 st2 hQ2
  subst l2 y2 z2
  obtain ⟨rfl, Nq2, e2⟩ := hQ2
  have N2 := Fr.app N1 Nq2
  refine own_go (fun zt zk => st2.trans zk) ?_
  show own_Go p e below s _ _ _ (T2.setTop (mkF m 11 #[rv a1, iv (47 : Int32)] [(.int (own_la xs (47 : Int32) xs.length))]))
  exact own_fin X2 Bd.notSynchronized (fun h => by rw [Bd.returns] at h; cases h) (fun fs hr => retOut X2 hx (t := .int) (w := (.int (own_la xs (47 : Int32) xs.length))) Bd.returns rfl (Or.inl ⟨rfl, Or.inl rfl, _, rfl⟩) (hb hby own_d7_11) hr) (by rw [e2]; exact ⟨rfl, N2, rfl⟩) (by decide) (by decide)
theorem own_d18_0 : decode jdk_41_method_12_code 0 = .ok (.iload_n 0, 1) := by decide +kernel
theorem own_d18_1 : decode jdk_41_method_12_code 1 = .ok (.ifCond .lt 13, 3) := by decide +kernel
theorem own_d18_4 : decode jdk_41_method_12_code 4 = .ok (.iload_n 0, 1) := by decide +kernel
theorem own_d18_5 : decode jdk_41_method_12_code 5 = .ok (.iload_n 1, 1) := by decide +kernel
theorem own_d18_6 : decode jdk_41_method_12_code 6 = .ok (.if_icmp .gt 8, 3) := by decide +kernel
theorem own_d18_9 : decode jdk_41_method_12_code 9 = .ok (.iload_n 1, 1) := by decide +kernel
theorem own_d18_10 : decode jdk_41_method_12_code 10 = .ok (.iload_n 2, 1) := by decide +kernel
theorem own_d18_11 : decode jdk_41_method_12_code 11 = .ok (.if_icmp .le 11, 3) := by decide +kernel
theorem own_d18_22 : decode jdk_41_method_12_code 22 = .ok (.iload_n 0, 1) := by decide +kernel
theorem own_d18_23 : decode jdk_41_method_12_code 23 = .ok (.ireturn, 1) := by decide +kernel
theorem own_ef_own_rcft (m : MethodId) (p1 : Int32) (p2 : Int32) (p3 : Int32) (fm : Value) (rfm : fm.isRef = true) : entryFrame m #[(.int p1), (.int p2), (.int p3), fm] 4 = mkF m 0 #[iv p1, iv p2, iv p3, .val fm] [] := by rcases ref_cases rfm with rfl | ⟨_, rfl⟩ <;> first | (simp [entryFrame, mkF, argsToLocals, Value.category]; done) | rfl
def own_Q_own_rcft (Z : State) (p1 : Int32) (p2 : Int32) (p3 : Int32) (fm : Value) (h0 : Heap) (n0 : Nat) (v : Option Value) (h : Heap) (L : List Loc) : Prop := v = some (.int p1) ∧ Fr n0 L ∧ h = h0
set_option maxRecDepth 65536 in
set_option maxHeartbeats 40000000 in
theorem own_rcft (l : Launch) (Z : State) (a0 : Array Value) (hw : ∀ d ∈ tables_1, d.before a0 Z = true) (ws : List Jvm.Cond) (p1 : Int32) (p2 : Int32) (p3 : Int32) (fm : Value) (h0 : Heap) (n0 : Nat) (Z0 : n0 ≤ h0.size)  (rfm : fm.isRef = true) (hq : ¬ (p1 < (0 : Int32)) ∧ ¬ (p2 < p1) ∧ ¬ (p3 < p2)) :
    MetFree l (⟨"jdk/internal/util/Preconditions", "checkFromToIndex", "(IIILjava/util/function/BiFunction;)I"⟩ : MethodName) (head1 (Jvm.Cond.code (⟨"jdk/internal/util/Preconditions", "checkFromToIndex", "(IIILjava/util/function/BiFunction;)I"⟩ : MethodName) jdk_41_method_12_code 4 (some .int) :: ws) ({ frames := 0, cells := 0, slots := 0, locals := 0 } : Room)) (fun a U => a = #[(.int p1), (.int p2), (.int p3), fm] ∧ Z.Warmed39 U.vm ∧ U.heap = h0) (fun _ _ _ _ _ => True) (fun _ U o U' => ∃ v L, o = .returned v ∧ own_Q_own_rcft Z p1 p2 p3 fm h0 n0 v U'.heap L ∧ FrameEnd U o U' L ({ frames := 0, cells := 0, slots := 0, locals := 0 } : Room).cells ({ frames := 0, cells := 0, slots := 0, locals := 0 } : Room).slots) := by
  refine MetFree.of_bodySF (plainFor_of_name own_pn_jdk_internal_util_Preconditions) hisR ?_
  intro p e s m args below meth c s₁ Bd hml0 hP hK
  obtain ⟨rfl, hZ, hh⟩ := hP
  have hx := Bd.exec
  have hby := Bd.bytes
  have hml : c.maxLocals = 4 := hml0
  have hown : s.vm.findClass "jdk/internal/util/Preconditions" = some m.cls := findClass_of_methodNamed Bd.named
  have hnm := (name_of_methodNamed Bd.named Bd.method).1
  have X0 : Stand p l e ({ frames := 0, cells := 0, slots := 0, locals := 0 } : Room) s m #[(.int p1), (.int p2), (.int p3), fm] below meth c s₁ [] 0 0 := Stand.of_body Bd
  have e0 : s₁.heap = h0 := by rw [← hh, Bd.state]; rfl
  have N0 := Fr.nil n0
  show own_Go p e below s (own_Q_own_rcft Z p1 p2 p3 fm h0 n0) ({ frames := 0, cells := 0, slots := 0, locals := 0 } : Room).cells ({ frames := 0, cells := 0, slots := 0, locals := 0 } : Room).slots (s₁.setTop (entryFrame m #[(.int p1), (.int p2), (.int p3), fm] 4))
  refine own_go (fun zt zk => castTop (own_ef_own_rcft m p1 p2 p3 fm rfm) zk) ?_
  show own_Go p e below s _ _ _ (s₁.setTop (mkF m 0 #[iv p1, iv p2, iv p3, .val fm] []))
  refine own_go (fun zt zk => (XS.iloadN X0.here hx rfl (hb hby own_d18_0) rfl (XS.ifNo X0.here hx rfl (hb hby own_d18_1) rfl ((if0 _ _).trans (flt (hq.1 : ¬ (p1 < (0 : Int32)))).1) (XS.iloadN X0.here hx rfl (hb hby own_d18_4) rfl (XS.iloadN X0.here hx rfl (hb hby own_d18_5) rfl (XS.icmpNo X0.here hx rfl (hb hby own_d18_6) rfl (flt (hq.2.1 : ¬ (p2 < p1))).2.2.1 (XS.iloadN X0.here hx rfl (hb hby own_d18_9) rfl (XS.iloadN X0.here hx rfl (hb hby own_d18_10) rfl (XS.icmpYes X0.here hx rfl (pc0 := 11) (pc' := 22) rfl (hb hby own_d18_11) rfl (flt (hq.2.2 : ¬ (p3 < p2))).2.2.2 (by decide) (by decide) (XS.iloadN X0.here hx rfl (hb hby own_d18_22) rfl zk)))))))))) ?_
  show own_Go p e below s _ _ _ (s₁.setTop (mkF m 23 #[iv p1, iv p2, iv p3, .val fm] [(.int p1)]))
  exact own_fin X0 Bd.notSynchronized (fun h => by rw [Bd.returns] at h; cases h) (fun fs hr => retOut X0 hx (t := .int) (w := (.int p1)) Bd.returns rfl (Or.inl ⟨rfl, Or.inl rfl, _, rfl⟩) (hb hby own_d18_23) hr) (by rw [e0]; exact ⟨rfl, N0, rfl⟩) (by decide) (by decide)
theorem own_d17_0 : decode jdk_42_method_158_code 0 = .ok (.iload_n 0, 1) := by decide +kernel
theorem own_d17_1 : decode jdk_42_method_158_code 1 = .ok (.iload_n 1, 1) := by decide +kernel
theorem own_d17_2 : decode jdk_42_method_158_code 2 = .ok (.iload_n 2, 1) := by decide +kernel
theorem own_d17_3 : decode jdk_42_method_158_code 3 = .ok (.getstatic 1053, 3) := by decide +kernel
theorem own_d17_6 : decode jdk_42_method_158_code 6 = .ok (.invokestatic 1062, 3) := by decide +kernel
theorem own_pd__IIILjava_util_function_BiFunction__I : parseMethodDescriptor "(IIILjava/util/function/BiFunction;)I" = some ⟨[.int, .int, .int, (.object "java/util/function/BiFunction")], some .int⟩ := by decide +kernel
theorem own_d17_9 : decode jdk_42_method_158_code 9 = .ok (.pop, 1) := by decide +kernel
theorem own_d17_10 : decode jdk_42_method_158_code 10 = .ok (.return_, 1) := by decide +kernel
theorem own_ef_own_rcbe (m : MethodId) (p1 : Int32) (p2 : Int32) (p3 : Int32) : entryFrame m #[(.int p1), (.int p2), (.int p3)] 3 = mkF m 0 #[iv p1, iv p2, iv p3] [] := by first | (simp [entryFrame, mkF, argsToLocals, Value.category]; done) | rfl
def own_Q_own_rcbe (Z : State) (p1 : Int32) (p2 : Int32) (p3 : Int32) (fm : Value) (h0 : Heap) (n0 : Nat) (v : Option Value) (h : Heap) (L : List Loc) : Prop := v = none ∧ Fr n0 L ∧ h = h0
set_option maxRecDepth 65536 in
set_option maxHeartbeats 40000000 in
theorem own_rcbe (l : Launch) (Z : State) (a0 : Array Value) (hw : ∀ d ∈ tables_1, d.before a0 Z = true) (ws : List Jvm.Cond) (p1 : Int32) (p2 : Int32) (p3 : Int32) (fm : Value) (h0 : Heap) (n0 : Nat) (Z0 : n0 ≤ h0.size) (O : Old Z n0 h0) (SF : Sta Z Z.heap "jdk/internal/util/Preconditions" "SIOOBE_FORMATTER" "Ljava/util/function/BiFunction;" fm) (rfm : fm.isRef = true) (hq : ¬ (p1 < (0 : Int32)) ∧ ¬ (p2 < p1) ∧ ¬ (p3 < p2)) :
    MetFree l (⟨"java/lang/String", "checkBoundsBeginEnd", "(III)V"⟩ : MethodName) (head1 (Jvm.Cond.code (⟨"java/lang/String", "checkBoundsBeginEnd", "(III)V"⟩ : MethodName) jdk_42_method_158_code 3 none :: ws) ({ frames := 1, cells := 0, slots := 0, locals := 15 } : Room)) (fun a U => a = #[(.int p1), (.int p2), (.int p3)] ∧ Z.Warmed39 U.vm ∧ U.heap = h0) (fun _ _ _ _ _ => True) (fun _ U o U' => ∃ v L, o = .returned v ∧ own_Q_own_rcbe Z p1 p2 p3 fm h0 n0 v U'.heap L ∧ FrameEnd U o U' L ({ frames := 1, cells := 0, slots := 0, locals := 15 } : Room).cells ({ frames := 1, cells := 0, slots := 0, locals := 15 } : Room).slots) := by
  refine MetFree.of_bodySF (plainFor_of_name own_pn_java_lang_String) hisR ?_
  intro p e s m args below meth c s₁ Bd hml0 hP hK
  obtain ⟨rfl, hZ, hh⟩ := hP
  have hx := Bd.exec
  have hby := Bd.bytes
  have hml : c.maxLocals = 3 := hml0
  have hown : s.vm.findClass "java/lang/String" = some m.cls := findClass_of_methodNamed Bd.named
  have hnm := (name_of_methodNamed Bd.named Bd.method).1
  have X0 : Stand p l e ({ frames := 1, cells := 0, slots := 0, locals := 15 } : Room) s m #[(.int p1), (.int p2), (.int p3)] below meth c s₁ [] 0 0 := Stand.of_body Bd
  have e0 : s₁.heap = h0 := by rw [← hh, Bd.state]; rfl
  have N0 := Fr.nil n0
  show own_Go p e below s (own_Q_own_rcbe Z p1 p2 p3 fm h0 n0) ({ frames := 1, cells := 0, slots := 0, locals := 15 } : Room).cells ({ frames := 1, cells := 0, slots := 0, locals := 15 } : Room).slots (s₁.setTop (entryFrame m #[(.int p1), (.int p2), (.int p3)] 3))
  refine own_go (fun zt zk => castTop (own_ef_own_rcbe m p1 p2 p3) zk) ?_
  show own_Go p e below s _ _ _ (s₁.setTop (mkF m 0 #[iv p1, iv p2, iv p3] []))
  refine own_go (fun zt zk => (XS.iloadN X0.here hx rfl (hb hby own_d17_0) rfl (XS.iloadN X0.here hx rfl (hb hby own_d17_1) rfl (XS.iloadN X0.here hx rfl (hb hby own_d17_2) rfl zk)))) ?_
  show own_Go p e below s _ _ _ (s₁.setTop (mkF m 3 #[iv p1, iv p2, iv p3] [(.int p3), (.int p2), (.int p1)]))
  obtain ⟨T1, X1, e1, st1⟩ := getS2 X0 hx hZ hown (host := "") (Or.inl (hw _ (List.mem_of_getElem? (i := 83) rfl))) Via.refl e0 (SF.ext O.2) (g := (mkF m 3 #[iv p1, iv p2, iv p3] [(.int p3), (.int p2), (.int p1)])) rfl (hb hby own_d17_3)
  refine own_go st1 ?_
  show own_Go p e below s _ _ _ (T1.setTop (mkF m 6 #[iv p1, iv p2, iv p3] [fm, (.int p3), (.int p2), (.int p1)]))
  obtain ⟨_, _, ⟨T2, L2, k2, n2⟩, -, X2, ⟨Lc2, hQ2, l2, y2, z2⟩, st2⟩ := Jvm.LawKit.callS X1 hx (y := (⟨"jdk/internal/util/Preconditions", "checkFromToIndex", "(IIILjava/util/function/BiFunction;)I"⟩ : MethodName)) hown (mvT hZ (hw _ (List.mem_of_getElem? (i := 85) rfl))) (mvT hZ (hw _ (List.mem_of_getElem? (i := 86) rfl))) (mvT hZ (hw _ (List.mem_of_getElem? (i := 84) rfl))) (mvT hZ (hw _ (List.mem_of_getElem? (i := 87) rfl))) (by decide) (backOf (W := 0) (own_rcft l Z a0 hw [] p1 p2 p3 fm  h0 n0 Z0 rfm hq) hZ (hw _ (List.mem_of_getElem? (i := 87) rfl)) (hw _ (List.mem_of_getElem? (i := 84) rfl)) (by decide) (by decide)) (g := (mkF m 6 #[iv p1, iv p2, iv p3] [fm, (.int p3), (.int p2), (.int p1)])) rfl (by rw [hml]; rfl) (argsL := [(.int p1), (.int p2), (.int p3), fm]) (rest := []) (lenOf own_pd__IIILjava_util_function_BiFunction__I rfl) rfl (by show 2 * 0 + _ ≤ _; exact Nat.le_of_eq rfl) (hb hby own_d17_6) (fun _ _ => ⟨rfl, e1, (by decide : 0 + 0 ≤ _), (by decide : 0 + 0 ≤ _)⟩)
  dsimp only [Pt.U, Pt.locs, Pt.cells, Pt.slots] at X2 l2 y2 z2 st2 hQ2
  subst l2 y2 z2
  obtain ⟨rfl, Nq2, e2⟩ := hQ2
  have N2 := Fr.app N0 Nq2
  refine own_go st2 ?_
  show own_Go p e below s _ _ _ (T2.setTop (mkF m 9 #[iv p1, iv p2, iv p3] [(.int p1)]))
  refine own_go (fun zt zk => (XS.pop X2.here hx rfl (hb hby own_d17_9) rfl rfl zk)) ?_
  show own_Go p e below s _ _ _ (T2.setTop (mkF m 10 #[iv p1, iv p2, iv p3] []))
  exact own_fin X2 Bd.notSynchronized (fun _ => rfl) (fun fs hr => X2.returnOut hx Bd.returns (hb hby own_d17_10) hr) (by rw [e2]; exact ⟨rfl, N2, rfl⟩) (by decide) (by decide)
theorem own_d27_0 : decode jdk_65_method_131_code 0 = .ok (.iload_n 1, 1) := by decide +kernel
theorem own_d27_1 : decode jdk_65_method_131_code 1 = .ok (.iload_n 0, 1) := by decide +kernel
theorem own_d27_2 : decode jdk_65_method_131_code 2 = .ok (.if_icmp .ge 35, 3) := by decide +kernel
theorem own_d27_37 : decode jdk_65_method_131_code 37 = .ok (.return_, 1) := by decide +kernel
theorem own_pn_java_util_Arrays : plainName "java/util/Arrays" = true := by first | (simp [plainName, overriddenIn]; done) | decide +kernel
theorem own_ef_own_rcl (m : MethodId) (p1 : Int32) (p2 : Int32) : entryFrame m #[(.int p1), (.int p2)] 2 = mkF m 0 #[iv p1, iv p2] [] := by first | (simp [entryFrame, mkF, argsToLocals, Value.category]; done) | rfl
def own_Q_own_rcl (Z : State) (p1 : Int32) (p2 : Int32) (h0 : Heap) (n0 : Nat) (v : Option Value) (h : Heap) (L : List Loc) : Prop := v = none ∧ Fr n0 L ∧ h = h0
set_option maxRecDepth 65536 in
set_option maxHeartbeats 40000000 in
theorem own_rcl (l : Launch) (Z : State) (a0 : Array Value) (hw : ∀ d ∈ tables_1, d.before a0 Z = true) (ws : List Jvm.Cond) (p1 : Int32) (p2 : Int32) (h0 : Heap) (n0 : Nat) (Z0 : n0 ≤ h0.size)  (hc : ¬ (p2 < p1)) :
    MetFree l (⟨"java/util/Arrays", "checkLength", "(II)V"⟩ : MethodName) (head1 (Jvm.Cond.code (⟨"java/util/Arrays", "checkLength", "(II)V"⟩ : MethodName) jdk_65_method_131_code 2 none :: ws) ({ frames := 0, cells := 0, slots := 0, locals := 0 } : Room)) (fun a U => a = #[(.int p1), (.int p2)] ∧ Z.Warmed39 U.vm ∧ U.heap = h0) (fun _ _ _ _ _ => True) (fun _ U o U' => ∃ v L, o = .returned v ∧ own_Q_own_rcl Z p1 p2 h0 n0 v U'.heap L ∧ FrameEnd U o U' L ({ frames := 0, cells := 0, slots := 0, locals := 0 } : Room).cells ({ frames := 0, cells := 0, slots := 0, locals := 0 } : Room).slots) := by
  refine MetFree.of_bodySF (plainFor_of_name own_pn_java_util_Arrays) hisR ?_
  intro p e s m args below meth c s₁ Bd hml0 hP hK
  obtain ⟨rfl, hZ, hh⟩ := hP
  have hx := Bd.exec
  have hby := Bd.bytes
  have hml : c.maxLocals = 2 := hml0
  have hown : s.vm.findClass "java/util/Arrays" = some m.cls := findClass_of_methodNamed Bd.named
  have hnm := (name_of_methodNamed Bd.named Bd.method).1
  have X0 : Stand p l e ({ frames := 0, cells := 0, slots := 0, locals := 0 } : Room) s m #[(.int p1), (.int p2)] below meth c s₁ [] 0 0 := Stand.of_body Bd
  have e0 : s₁.heap = h0 := by rw [← hh, Bd.state]; rfl
  have N0 := Fr.nil n0
  show own_Go p e below s (own_Q_own_rcl Z p1 p2 h0 n0) ({ frames := 0, cells := 0, slots := 0, locals := 0 } : Room).cells ({ frames := 0, cells := 0, slots := 0, locals := 0 } : Room).slots (s₁.setTop (entryFrame m #[(.int p1), (.int p2)] 2))
  refine own_go (fun zt zk => castTop (own_ef_own_rcl m p1 p2) zk) ?_
  show own_Go p e below s _ _ _ (s₁.setTop (mkF m 0 #[iv p1, iv p2] []))
  refine own_go (fun zt zk => (XS.iloadN X0.here hx rfl (hb hby own_d27_0) rfl (XS.iloadN X0.here hx rfl (hb hby own_d27_1) rfl (XS.icmpYes X0.here hx rfl (pc0 := 2) (pc' := 37) rfl (hb hby own_d27_2) rfl (flt (hc : ¬ (p2 < p1))).2.1 (by decide) (by decide) zk)))) ?_
  show own_Go p e below s _ _ _ (s₁.setTop (mkF m 37 #[iv p1, iv p2] []))
  exact own_fin X0 Bd.notSynchronized (fun _ => rfl) (fun fs hr => X0.returnOut hx Bd.returns (hb hby own_d27_37) hr) (by rw [e0]; exact ⟨rfl, N0, rfl⟩) (by decide) (by decide)
theorem own_d26_0 : decode jdk_65_method_133_code 0 = .ok (.iload_n 1, 1) := by decide +kernel
theorem own_d26_1 : decode jdk_65_method_133_code 1 = .ok (.iload_n 2, 1) := by decide +kernel
theorem own_d26_2 : decode jdk_65_method_133_code 2 = .ok (.invokestatic 343, 3) := by decide +kernel
theorem own_d26_5 : decode jdk_65_method_133_code 5 = .ok (.iload_n 2, 1) := by decide +kernel
theorem own_d26_6 : decode jdk_65_method_133_code 6 = .ok (.iload_n 1, 1) := by decide +kernel
theorem own_d26_7 : decode jdk_65_method_133_code 7 = .ok (.isub, 1) := by decide +kernel
theorem own_d26_8 : decode jdk_65_method_133_code 8 = .ok (.istore_n 3, 1) := by decide +kernel
theorem own_d26_9 : decode jdk_65_method_133_code 9 = .ok (.iload_n 3, 1) := by decide +kernel
theorem own_d26_10 : decode jdk_65_method_133_code 10 = .ok (.newarray .byte, 2) := by decide +kernel
theorem own_d26_12 : decode jdk_65_method_133_code 12 = .ok (.astore 4, 2) := by decide +kernel
theorem own_d26_14 : decode jdk_65_method_133_code 14 = .ok (.aload_n 0, 1) := by decide +kernel
theorem own_d26_15 : decode jdk_65_method_133_code 15 = .ok (.iload_n 1, 1) := by decide +kernel
theorem own_d26_16 : decode jdk_65_method_133_code 16 = .ok (.aload 4, 2) := by decide +kernel
theorem own_d26_18 : decode jdk_65_method_133_code 18 = .ok (.iconst 0, 1) := by decide +kernel
theorem own_d26_19 : decode jdk_65_method_133_code 19 = .ok (.aload_n 0, 1) := by decide +kernel
theorem own_d26_20 : decode jdk_65_method_133_code 20 = .ok (.arraylength, 1) := by decide +kernel
theorem own_d26_21 : decode jdk_65_method_133_code 21 = .ok (.iload_n 1, 1) := by decide +kernel
theorem own_d26_22 : decode jdk_65_method_133_code 22 = .ok (.isub, 1) := by decide +kernel
theorem own_d26_23 : decode jdk_65_method_133_code 23 = .ok (.iload_n 3, 1) := by decide +kernel
theorem own_d26_24 : decode jdk_65_method_133_code 24 = .ok (.invokestatic 304, 3) := by decide +kernel
theorem own_d26_27 : decode jdk_65_method_133_code 27 = .ok (.invokestatic 150, 3) := by decide +kernel
theorem own_d26_30 : decode jdk_65_method_133_code 30 = .ok (.aload 4, 2) := by decide +kernel
theorem own_d26_32 : decode jdk_65_method_133_code 32 = .ok (.areturn, 1) := by decide +kernel
theorem own_ef_own_rcrb (m : MethodId) (t : Addr) (xs : List Int32) : entryFrame m #[(.ref t), (.int (Int32.ofNat s')), (.int (Int32.ofNat xs.length))] 5 = mkF m 0 #[rv t, iv (Int32.ofNat s'), iv (Int32.ofNat xs.length), .unset, .unset] [] := by first | (simp [entryFrame, mkF, argsToLocals, Value.category]; done) | rfl
def own_Q_own_rcrb (Z : State) (t : Addr) (kb : ClassId) (xs : List Int32) (s' : Nat) (h0 : Heap) (n0 : Nat) (v : Option Value) (h : Heap) (L : List Loc) : Prop := ∃ b k, v = some (.ref b) ∧ Fr n0 L ∧ Keep h0 h [] ∧ h0.size ≤ b ∧ Arv Z h b k .byte (Int32.ofNat (xs.length - s')) ((xs.drop s').map Value.int) (.int (0 : Int32))
set_option maxRecDepth 65536 in
set_option maxHeartbeats 40000000 in
theorem own_rcrb (l : Launch) (Z : State) (a0 : Array Value) (hw : ∀ d ∈ tables_1, d.before a0 Z = true) (ws : List Jvm.Cond) (t : Addr) (kb : ClassId) (xs : List Int32) (s' : Nat) (h0 : Heap) (n0 : Nat) (Z0 : n0 ≤ h0.size) (Va : Arv Z h0 t kb .byte (Int32.ofNat xs.length) (xs.map Value.int) (.int (0 : Int32))) (h5 : xs.length ≤ 5) (hs1 : s' < xs.length) :
    MetFree l (⟨"java/util/Arrays", "copyOfRangeByte", "([BII)[B"⟩ : MethodName) (head1 (Jvm.Cond.code (⟨"java/util/Arrays", "copyOfRangeByte", "([BII)[B"⟩ : MethodName) jdk_65_method_133_code 5 (some (.array .byte)) :: ws) ({ frames := 1, cells := 1, slots := 5, locals := 32 } : Room)) (fun a U => a = #[(.ref t), (.int (Int32.ofNat s')), (.int (Int32.ofNat xs.length))] ∧ Z.Warmed39 U.vm ∧ U.heap = h0) (fun _ _ _ _ _ => True) (fun _ U o U' => ∃ v L, o = .returned v ∧ own_Q_own_rcrb Z t kb xs s' h0 n0 v U'.heap L ∧ FrameEnd U o U' L ({ frames := 1, cells := 1, slots := 5, locals := 32 } : Room).cells ({ frames := 1, cells := 1, slots := 5, locals := 32 } : Room).slots) := by
  refine MetFree.of_bodySF (plainFor_of_name own_pn_java_util_Arrays) hisR ?_
  intro p e s m args below meth c s₁ Bd hml0 hP hK
  obtain ⟨rfl, hZ, hh⟩ := hP
  have hx := Bd.exec
  have hby := Bd.bytes
  have hml : c.maxLocals = 5 := hml0
  have hown : s.vm.findClass "java/util/Arrays" = some m.cls := findClass_of_methodNamed Bd.named
  have hnm := (name_of_methodNamed Bd.named Bd.method).1
  have X0 : Stand p l e ({ frames := 1, cells := 1, slots := 5, locals := 32 } : Room) s m #[(.ref t), (.int (Int32.ofNat s')), (.int (Int32.ofNat xs.length))] below meth c s₁ [] 0 0 := Stand.of_body Bd
  have e0 : s₁.heap = h0 := by rw [← hh, Bd.state]; rfl
  have N0 := Fr.nil n0
  have Kp : Keep h0 h0 [] := Keep.refl h0 _
  show own_Go p e below s (own_Q_own_rcrb Z t kb xs s' h0 n0) ({ frames := 1, cells := 1, slots := 5, locals := 32 } : Room).cells ({ frames := 1, cells := 1, slots := 5, locals := 32 } : Room).slots (s₁.setTop (entryFrame m #[(.ref t), (.int (Int32.ofNat s')), (.int (Int32.ofNat xs.length))] 5))
  refine own_go (fun zt zk => castTop (own_ef_own_rcrb m t xs) zk) ?_
  show own_Go p e below s _ _ _ (s₁.setTop (mkF m 0 #[rv t, iv (Int32.ofNat s'), iv (Int32.ofNat xs.length), .unset, .unset] []))
  refine own_go (fun zt zk => (XS.iloadN X0.here hx rfl (hb hby own_d26_0) rfl (XS.iloadN X0.here hx rfl (hb hby own_d26_1) rfl zk))) ?_
  show own_Go p e below s _ _ _ (s₁.setTop (mkF m 2 #[rv t, iv (Int32.ofNat s'), iv (Int32.ofNat xs.length), .unset, .unset] [(.int (Int32.ofNat xs.length)), (.int (Int32.ofNat s'))]))
  obtain ⟨_, _, ⟨T1, L1, k1, n1⟩, -, X1, ⟨Lc1, hQ1, l1, y1, z1⟩, st1⟩ := Jvm.LawKit.callS X0 hx (y := (⟨"java/util/Arrays", "checkLength", "(II)V"⟩ : MethodName)) hown (mvT hZ (hw _ (List.mem_of_getElem? (i := 117) rfl))) (mvT hZ (hw _ (List.mem_of_getElem? (i := 118) rfl))) (mvT hZ (hw _ (List.mem_of_getElem? (i := 112) rfl))) (mvT hZ (hw _ (List.mem_of_getElem? (i := 119) rfl))) (by decide) (backOf (W := 0) (own_rcl l Z a0 hw [] (Int32.ofNat s') (Int32.ofNat xs.length)  h0 n0 Z0 (fun q => absurd ((own_ltN (by omega) (by omega)).mp q) (by omega))) hZ (hw _ (List.mem_of_getElem? (i := 119) rfl)) (hw _ (List.mem_of_getElem? (i := 112) rfl)) (by decide) (by decide)) (g := (mkF m 2 #[rv t, iv (Int32.ofNat s'), iv (Int32.ofNat xs.length), .unset, .unset] [(.int (Int32.ofNat xs.length)), (.int (Int32.ofNat s'))])) rfl (by rw [hml]; rfl) (argsL := [(.int (Int32.ofNat s')), (.int (Int32.ofNat xs.length))]) (rest := []) (lenOf own_pd__II_V rfl) rfl (by show 2 * 0 + _ ≤ _; exact Nat.le_of_eq rfl) (hb hby own_d26_2) (fun _ _ => ⟨rfl, e0, (by decide : 0 + 0 ≤ _), (by decide : 0 + 0 ≤ _)⟩)
  dsimp only [Pt.U, Pt.locs, Pt.cells, Pt.slots] at X1 l1 y1 z1 st1 hQ1
  subst l1 y1 z1
  obtain ⟨rfl, Nq1, e1⟩ := hQ1
  have N1 := Fr.app N0 Nq1
  refine own_go st1 ?_
  show own_Go p e below s _ _ _ (T1.setTop (mkF m 5 #[rv t, iv (Int32.ofNat s'), iv (Int32.ofNat xs.length), .unset, .unset] []))
  refine own_go (fun zt zk => (XS.iloadN X1.here hx rfl (hb hby own_d26_5) rfl (XS.iloadN X1.here hx rfl (hb hby own_d26_6) rfl (XS.isub X1.here hx rfl (hb hby own_d26_7) rfl zk)))) ?_
  show own_Go p e below s _ _ _ (T1.setTop (mkF m 8 #[rv t, iv (Int32.ofNat s'), iv (Int32.ofNat xs.length), .unset, .unset] [(.int ((Int32.ofNat xs.length) - (Int32.ofNat s')))]))
  rw [own_subN (by omega) (by omega)]
  show own_Go p e below s _ _ _ (T1.setTop (mkF m 8 #[rv t, iv (Int32.ofNat s'), iv (Int32.ofNat xs.length), .unset, .unset] [(.int (Int32.ofNat (xs.length - s')))]))
  refine own_go (fun zt zk => (XS.istoreN X1.here hx rfl (hb hby own_d26_8) rfl (l' := #[rv t, iv (Int32.ofNat s'), iv (Int32.ofNat xs.length), iv (Int32.ofNat (xs.length - s')), .unset]) rfl (XS.iloadN X1.here hx rfl (hb hby own_d26_9) rfl zk))) ?_
  show own_Go p e below s _ _ _ (T1.setTop (mkF m 10 #[rv t, iv (Int32.ofNat s'), iv (Int32.ofNat xs.length), iv (Int32.ofNat (xs.length - s')), .unset] [(.int (Int32.ofNat (xs.length - s')))]))
  obtain ⟨T2, h2, k2, X2, e2, E2, A2, Ea2, st2⟩ := newPE X1 hx hZ (hw _ (List.mem_of_getElem? (i := 22) rfl)) e1 (g := (mkF m 10 #[rv t, iv (Int32.ofNat s'), iv (Int32.ofNat xs.length), iv (Int32.ofNat (xs.length - s')), .unset] [(.int (Int32.ofNat (xs.length - s')))])) rfl (hb hby own_d26_10) rfl (own_nnN (by omega)) (cap := 5) (by rw [(own_ofNat (q := xs.length - s') (by omega)).2]; omega) (by decide) (by decide) (by decide) (ad := "[B") (by decide)
  obtain ⟨b2, g2⟩ : ∃ z, z = h0.size := ⟨_, rfl⟩
  rw [← g2] at A2 Ea2 st2
  refine own_go st2 ?_
  have ne_t_b2 : t ≠ b2 := Nat.ne_of_lt (Nat.lt_of_lt_of_le Va.lt (Nat.le_of_eq g2.symm))
  have sz_b2 : h0.size ≤ b2 := Nat.le_trans Kp.1 (Nat.le_of_eq g2.symm)
  have g_b2 : n0 ≤ b2 := Nat.le_trans Z0 sz_b2
  replace Va := Va.ext E2
  replace Kp := Kp.ext E2
  have V_b2 : Arv Z h2 b2 k2 .byte (Int32.ofNat (xs.length - s')) [] (.int (0 : Int32)) := Arv.new A2 (own_nnN (by omega))
  have Ea_b2 := Ea2
  show own_Go p e below s _ _ _ (T2.setTop (mkF m 12 #[rv t, iv (Int32.ofNat s'), iv (Int32.ofNat xs.length), iv (Int32.ofNat (xs.length - s')), .unset] [(.ref b2)]))
  have Vp_b2 := V_b2.pad (pad_rep [] (.int (0 : Int32)) 5)
  refine own_go (fun zt zk => (XS.astore X2.here hx rfl (hb hby own_d26_12) rfl rfl (l' := #[rv t, iv (Int32.ofNat s'), iv (Int32.ofNat xs.length), iv (Int32.ofNat (xs.length - s')), rv b2]) rfl (XS.aloadN X2.here hx rfl (hb hby own_d26_14) rfl rfl (XS.iloadN X2.here hx rfl (hb hby own_d26_15) rfl (XS.aload X2.here hx rfl (hb hby own_d26_16) rfl rfl (XS.iconst X2.here hx rfl (hb hby own_d26_18) (XS.aloadN X2.here hx rfl (hb hby own_d26_19) rfl rfl zk))))))) ?_
  show own_Go p e below s _ _ _ (T2.setTop (mkF m 20 #[rv t, iv (Int32.ofNat s'), iv (Int32.ofNat xs.length), iv (Int32.ofNat (xs.length - s')), rv b2] [(.ref t), (.int (0 : Int32)), (.ref b2), (.int (Int32.ofNat s')), (.ref t)]))
  obtain ⟨cl3, Ar3, -, Sz3, Nz3, -, -⟩ := id Va
  refine own_go (X2.arraylength hx (by rw [e2]; exact Ar3.1) (State.isArrayOf_alike hZ.alike Ar3.2.1) (g := (mkF m 20 #[rv t, iv (Int32.ofNat s'), iv (Int32.ofNat xs.length), iv (Int32.ofNat (xs.length - s')), rv b2] [(.ref t), (.int (0 : Int32)), (.ref b2), (.int (Int32.ofNat s')), (.ref t)])) rfl rfl (hb hby own_d26_20)) ?_
  rw [len_of Sz3 Nz3]
  show own_Go p e below s _ _ _ (T2.setTop (mkF m 21 #[rv t, iv (Int32.ofNat s'), iv (Int32.ofNat xs.length), iv (Int32.ofNat (xs.length - s')), rv b2] [(.int (Int32.ofNat xs.length)), (.int (0 : Int32)), (.ref b2), (.int (Int32.ofNat s')), (.ref t)]))
  refine own_go (fun zt zk => (XS.iloadN X2.here hx rfl (hb hby own_d26_21) rfl (XS.isub X2.here hx rfl (hb hby own_d26_22) rfl zk))) ?_
  show own_Go p e below s _ _ _ (T2.setTop (mkF m 23 #[rv t, iv (Int32.ofNat s'), iv (Int32.ofNat xs.length), iv (Int32.ofNat (xs.length - s')), rv b2] [(.int ((Int32.ofNat xs.length) - (Int32.ofNat s'))), (.int (0 : Int32)), (.ref b2), (.int (Int32.ofNat s')), (.ref t)]))
  rw [own_subN (by omega) (by omega)]
  show own_Go p e below s _ _ _ (T2.setTop (mkF m 23 #[rv t, iv (Int32.ofNat s'), iv (Int32.ofNat xs.length), iv (Int32.ofNat (xs.length - s')), rv b2] [(.int (Int32.ofNat (xs.length - s'))), (.int (0 : Int32)), (.ref b2), (.int (Int32.ofNat s')), (.ref t)]))
  refine own_go (fun zt zk => (XS.iloadN X2.here hx rfl (hb hby own_d26_23) rfl zk)) ?_
  show own_Go p e below s _ _ _ (T2.setTop (mkF m 24 #[rv t, iv (Int32.ofNat s'), iv (Int32.ofNat xs.length), iv (Int32.ofNat (xs.length - s')), rv b2] [(.int (Int32.ofNat (xs.length - s'))), (.int (Int32.ofNat (xs.length - s'))), (.int (0 : Int32)), (.ref b2), (.int (Int32.ofNat s')), (.ref t)]))
  obtain ⟨_, _, ⟨T4, L4, k4, n4⟩, -, X4, ⟨Lc4, hQ4, l4, y4, z4⟩, st4⟩ := Jvm.LawKit.callS X2 hx (y := (⟨"java/lang/Math", "min", "(II)I"⟩ : MethodName)) hown (mvT hZ (hw _ (List.mem_of_getElem? (i := 120) rfl))) (mvT hZ (hw _ (List.mem_of_getElem? (i := 67) rfl))) (mvT hZ (hw _ (List.mem_of_getElem? (i := 68) rfl))) (mvT hZ (hw _ (List.mem_of_getElem? (i := 69) rfl))) (by decide) (backOf (W := 4) (own_rmin l Z a0 hw [] (Int32.ofNat (xs.length - s')) (Int32.ofNat (xs.length - s'))  h2 n0 (Nat.le_trans Z0 Kp.1) ) hZ (hw _ (List.mem_of_getElem? (i := 69) rfl)) (hw _ (List.mem_of_getElem? (i := 68) rfl)) (by decide) (by decide)) (g := (mkF m 24 #[rv t, iv (Int32.ofNat s'), iv (Int32.ofNat xs.length), iv (Int32.ofNat (xs.length - s')), rv b2] [(.int (Int32.ofNat (xs.length - s'))), (.int (Int32.ofNat (xs.length - s'))), (.int (0 : Int32)), (.ref b2), (.int (Int32.ofNat s')), (.ref t)])) rfl (by rw [hml]; rfl) (argsL := [(.int (Int32.ofNat (xs.length - s'))), (.int (Int32.ofNat (xs.length - s')))]) (rest := [(.int (0 : Int32)), (.ref b2), (.int (Int32.ofNat s')), (.ref t)]) (lenOf own_pd__II_I rfl) rfl (by show 2 * 0 + _ ≤ _; exact Nat.le_of_eq rfl) (hb hby own_d26_24) (fun _ _ => ⟨rfl, e2, (by decide : 1 + 0 ≤ _), (by decide : 5 + 0 ≤ _)⟩)
  dsimp only [Pt.U, Pt.locs, Pt.cells, Pt.slots] at X4 l4 y4 z4 st4 hQ4
  subst l4 y4 z4
  obtain ⟨hv4, Nq4, e4⟩ := hQ4
  rw [own_min_self] at hv4
  subst hv4
  have N4 := Fr.app N1 Nq4
  refine own_go st4 ?_
  show own_Go p e below s _ _ _ (T4.setTop (mkF m 27 #[rv t, iv (Int32.ofNat s'), iv (Int32.ofNat xs.length), iv (Int32.ofNat (xs.length - s')), rv b2] [(.int (Int32.ofNat (xs.length - s'))), (.int (0 : Int32)), (.ref b2), (.int (Int32.ofNat s')), (.ref t)]))
  have on1 := (own_ofNat (q := s') (by omega)).2
  have on2 := (own_ofNat (q := xs.length - s') (by omega)).2
  have on3 := (own_ofNat (q := xs.length) (by omega)).2
  obtain ⟨T5, h5, L5, X5, e5, N5, K5, V5, st5⟩ := cpA X4 hx hZ hown (hw _ (List.mem_of_getElem? (i := 121) rfl)) (hw _ (List.mem_of_getElem? (i := 124) rfl)) (hw _ (List.mem_of_getElem? (i := 122) rfl)) (hw _ (List.mem_of_getElem? (i := 123) rfl)) e4 Va Vp_b2 (us := (List.range (xs.length - s')).map (fun i => (xs.map Value.int).getD (s' + i) (.int (0 : Int32)))) (Or.inl ⟨rfl, rfl⟩) (own_nnN (by omega)) (by decide) (own_nnN (by omega)) (by rw [on1, on2, on3]; omega) (by rw [on2]; exact Nat.le_of_eq (Nat.zero_add _)) (by rw [on1, on2]) (by rw [on2]; show 0 + _ ≤ 5; omega) N4 g_b2 (g := (mkF m 27 #[rv t, iv (Int32.ofNat s'), iv (Int32.ofNat xs.length), iv (Int32.ofNat (xs.length - s')), rv b2] [(.int (Int32.ofNat (xs.length - s'))), (.int (0 : Int32)), (.ref b2), (.int (Int32.ofNat s')), (.ref t)])) rfl (by rw [hml]; rfl) rfl (hb hby own_d26_27) (by decide) (W := 0) (by show 2 * 0 + _ ≤ _; exact Nat.le_of_eq rfl) (by decide)
  refine own_go st5 ?_
  replace Va := Va.keep K5 (ninS ne_t_b2 nin0)
  replace Kp := Kp.trans K5 (allS (Or.inr sz_b2) all0)
  replace Ea_b2 := Ea_b2.keep K5
  have Vr : Arv Z h5 b2 k2 .byte (Int32.ofNat (xs.length - s')) ((xs.drop s').map Value.int) (.int (0 : Int32)) := Arv.pad (by rw [on2] at V5; exact V5) (fun i => own_cpl xs s' i (by omega))
  show own_Go p e below s _ _ _ (T5.setTop (mkF m 30 #[rv t, iv (Int32.ofNat s'), iv (Int32.ofNat xs.length), iv (Int32.ofNat (xs.length - s')), rv b2] []))
  refine own_go (fun zt zk => (XS.aload X5.here hx rfl (hb hby own_d26_30) rfl rfl zk)) ?_
  show own_Go p e below s _ _ _ (T5.setTop (mkF m 32 #[rv t, iv (Int32.ofNat s'), iv (Int32.ofNat xs.length), iv (Int32.ofNat (xs.length - s')), rv b2] [(.ref b2)]))
  exact own_fin X5 Bd.notSynchronized (fun h => by rw [Bd.returns] at h; cases h) (fun fs hr => retOut X5 hx (t := (.array .byte)) (w := (.ref b2)) Bd.returns rfl (Or.inr (Or.inr (Or.inr (Or.inr ⟨rfl, rfl, rfl⟩)))) (hb hby own_d26_32) hr) (by rw [e5]; exact ⟨_, _, rfl, N5, Kp, sz_b2, Vr⟩) (by decide) (by decide)
theorem own_d25_0 : decode jdk_65_method_132_code 0 = .ok (.iload_n 1, 1) := by decide +kernel
theorem own_d25_1 : decode jdk_65_method_132_code 1 = .ok (.ifCond .ne 9, 3) := by decide +kernel
theorem own_d25_10 : decode jdk_65_method_132_code 10 = .ok (.aload_n 0, 1) := by decide +kernel
theorem own_d25_11 : decode jdk_65_method_132_code 11 = .ok (.iload_n 1, 1) := by decide +kernel
theorem own_d25_12 : decode jdk_65_method_132_code 12 = .ok (.iload_n 2, 1) := by decide +kernel
theorem own_d25_13 : decode jdk_65_method_132_code 13 = .ok (.invokestatic 339, 3) := by decide +kernel
theorem own_pd___BII__B : parseMethodDescriptor "([BII)[B" = some ⟨[(.array .byte), .int, .int], some (.array .byte)⟩ := by decide +kernel
theorem own_d25_16 : decode jdk_65_method_132_code 16 = .ok (.areturn, 1) := by decide +kernel
theorem own_ef_own_rcr (m : MethodId) (t : Addr) (xs : List Int32) : entryFrame m #[(.ref t), (.int (Int32.ofNat s')), (.int (Int32.ofNat xs.length))] 3 = mkF m 0 #[rv t, iv (Int32.ofNat s'), iv (Int32.ofNat xs.length)] [] := by first | (simp [entryFrame, mkF, argsToLocals, Value.category]; done) | rfl
def own_Q_own_rcr (Z : State) (t : Addr) (kb : ClassId) (xs : List Int32) (s' : Nat) (h0 : Heap) (n0 : Nat) (v : Option Value) (h : Heap) (L : List Loc) : Prop := ∃ b k, v = some (.ref b) ∧ Fr n0 L ∧ Keep h0 h [] ∧ h0.size ≤ b ∧ Arv Z h b k .byte (Int32.ofNat (xs.length - s')) ((xs.drop s').map Value.int) (.int (0 : Int32))
set_option maxRecDepth 65536 in
set_option maxHeartbeats 40000000 in
theorem own_rcr (l : Launch) (Z : State) (a0 : Array Value) (hw : ∀ d ∈ tables_1, d.before a0 Z = true) (ws : List Jvm.Cond) (t : Addr) (kb : ClassId) (xs : List Int32) (s' : Nat) (h0 : Heap) (n0 : Nat) (Z0 : n0 ≤ h0.size) (Va : Arv Z h0 t kb .byte (Int32.ofNat xs.length) (xs.map Value.int) (.int (0 : Int32))) (h5 : xs.length ≤ 5) (hs1 : s' < xs.length) (hs0 : ¬ (s' = 0)) :
    MetFree l (⟨"java/util/Arrays", "copyOfRange", "([BII)[B"⟩ : MethodName) (head1 (Jvm.Cond.code (⟨"java/util/Arrays", "copyOfRange", "([BII)[B"⟩ : MethodName) jdk_65_method_132_code 3 (some (.array .byte)) :: ws) ({ frames := 2, cells := 1, slots := 5, locals := 48 } : Room)) (fun a U => a = #[(.ref t), (.int (Int32.ofNat s')), (.int (Int32.ofNat xs.length))] ∧ Z.Warmed39 U.vm ∧ U.heap = h0) (fun _ _ _ _ _ => True) (fun _ U o U' => ∃ v L, o = .returned v ∧ own_Q_own_rcr Z t kb xs s' h0 n0 v U'.heap L ∧ FrameEnd U o U' L ({ frames := 2, cells := 1, slots := 5, locals := 48 } : Room).cells ({ frames := 2, cells := 1, slots := 5, locals := 48 } : Room).slots) := by
  refine MetFree.of_bodySF (plainFor_of_name own_pn_java_util_Arrays) hisR ?_
  intro p e s m args below meth c s₁ Bd hml0 hP hK
  obtain ⟨rfl, hZ, hh⟩ := hP
  have hx := Bd.exec
  have hby := Bd.bytes
  have hml : c.maxLocals = 3 := hml0
  have hown : s.vm.findClass "java/util/Arrays" = some m.cls := findClass_of_methodNamed Bd.named
  have hnm := (name_of_methodNamed Bd.named Bd.method).1
  have X0 : Stand p l e ({ frames := 2, cells := 1, slots := 5, locals := 48 } : Room) s m #[(.ref t), (.int (Int32.ofNat s')), (.int (Int32.ofNat xs.length))] below meth c s₁ [] 0 0 := Stand.of_body Bd
  have e0 : s₁.heap = h0 := by rw [← hh, Bd.state]; rfl
  have N0 := Fr.nil n0
  have Kp : Keep h0 h0 [] := Keep.refl h0 _
  show own_Go p e below s (own_Q_own_rcr Z t kb xs s' h0 n0) ({ frames := 2, cells := 1, slots := 5, locals := 48 } : Room).cells ({ frames := 2, cells := 1, slots := 5, locals := 48 } : Room).slots (s₁.setTop (entryFrame m #[(.ref t), (.int (Int32.ofNat s')), (.int (Int32.ofNat xs.length))] 3))
  refine own_go (fun zt zk => castTop (own_ef_own_rcr m t xs) zk) ?_
  show own_Go p e below s _ _ _ (s₁.setTop (mkF m 0 #[rv t, iv (Int32.ofNat s'), iv (Int32.ofNat xs.length)] []))
  refine own_go (fun zt zk => (XS.iloadN X0.here hx rfl (hb hby own_d25_0) rfl (XS.ifYes X0.here hx rfl (pc0 := 1) (pc' := 10) rfl (hb hby own_d25_1) rfl ((if0 _ _).trans (feq ((fun q => hs0 ((own_eqN (s := 0) (by omega) (by omega)).mp q)) : ¬ ((Int32.ofNat s') = (0 : Int32)))).2) (by decide) (by decide) (XS.aloadN X0.here hx rfl (hb hby own_d25_10) rfl rfl (XS.iloadN X0.here hx rfl (hb hby own_d25_11) rfl (XS.iloadN X0.here hx rfl (hb hby own_d25_12) rfl zk)))))) ?_
  show own_Go p e below s _ _ _ (s₁.setTop (mkF m 13 #[rv t, iv (Int32.ofNat s'), iv (Int32.ofNat xs.length)] [(.int (Int32.ofNat xs.length)), (.int (Int32.ofNat s')), (.ref t)]))
  obtain ⟨_, _, ⟨T1, L1, k1, n1⟩, -, X1, ⟨Lc1, hQ1, l1, y1, z1⟩, st1⟩ := Jvm.LawKit.callS X0 hx (y := (⟨"java/util/Arrays", "copyOfRangeByte", "([BII)[B"⟩ : MethodName)) hown (mvT hZ (hw _ (List.mem_of_getElem? (i := 114) rfl))) (mvT hZ (hw _ (List.mem_of_getElem? (i := 115) rfl))) (mvT hZ (hw _ (List.mem_of_getElem? (i := 112) rfl))) (mvT hZ (hw _ (List.mem_of_getElem? (i := 116) rfl))) (by decide) (backOf (W := 0) (own_rcrb l Z a0 hw [] t kb xs s' h0 n0 Z0 Va h5 hs1) hZ (hw _ (List.mem_of_getElem? (i := 116) rfl)) (hw _ (List.mem_of_getElem? (i := 112) rfl)) (by decide) (by decide)) (g := (mkF m 13 #[rv t, iv (Int32.ofNat s'), iv (Int32.ofNat xs.length)] [(.int (Int32.ofNat xs.length)), (.int (Int32.ofNat s')), (.ref t)])) rfl (by rw [hml]; rfl) (argsL := [(.ref t), (.int (Int32.ofNat s')), (.int (Int32.ofNat xs.length))]) (rest := []) (lenOf own_pd___BII__B rfl) rfl (by show 2 * 0 + _ ≤ _; exact Nat.le_of_eq rfl) (hb hby own_d25_13) (fun _ _ => ⟨rfl, e0, (by decide : 0 + 1 ≤ _), (by decide : 0 + 5 ≤ _)⟩)
  dsimp only [Pt.U, Pt.locs, Pt.cells, Pt.slots] at X1 l1 y1 z1 st1 hQ1
  subst l1 y1 z1
  obtain ⟨b1, k1', rfl, Nq1, K1, sz1, V_b1⟩ := hQ1
  have N1 := Fr.app N0 Nq1
  refine own_go st1 ?_
  replace Va := Va.keep K1 nin0
  replace Kp := Kp.trans K1 all0
  show own_Go p e below s _ _ _ (T1.setTop (mkF m 16 #[rv t, iv (Int32.ofNat s'), iv (Int32.ofNat xs.length)] [(.ref b1)]))
  exact own_fin X1 Bd.notSynchronized (fun h => by rw [Bd.returns] at h; cases h) (fun fs hr => retOut X1 hx (t := (.array .byte)) (w := (.ref b1)) Bd.returns rfl (Or.inr (Or.inr (Or.inr (Or.inr ⟨rfl, rfl, rfl⟩)))) (hb hby own_d25_16) hr) ⟨_, _, rfl, N1, Kp, sz1, V_b1⟩ (by decide) (by decide)
theorem own_d28_0 : decode jdk_42_method_151_code 0 = .ok (.aload_n 0, 1) := by decide +kernel
theorem own_d28_1 : decode jdk_42_method_151_code 1 = .ok (.invokespecial 1, 3) := by decide +kernel
theorem own_d28_4 : decode jdk_42_method_151_code 4 = .ok (.aload_n 0, 1) := by decide +kernel
theorem own_d28_5 : decode jdk_42_method_151_code 5 = .ok (.aload_n 1, 1) := by decide +kernel
theorem own_d28_6 : decode jdk_42_method_151_code 6 = .ok (.putfield 9, 3) := by decide +kernel
theorem own_d28_9 : decode jdk_42_method_151_code 9 = .ok (.aload_n 0, 1) := by decide +kernel
theorem own_d28_10 : decode jdk_42_method_151_code 10 = .ok (.iload_n 2, 1) := by decide +kernel
theorem own_d28_11 : decode jdk_42_method_151_code 11 = .ok (.putfield 15, 3) := by decide +kernel
theorem own_d28_14 : decode jdk_42_method_151_code 14 = .ok (.return_, 1) := by decide +kernel
theorem own_ef_own_rnbb (m : MethodId) (a1 : Addr) (t : Addr) : entryFrame m #[(.ref a1), (.ref t), (.int (0 : Int32))] 3 = mkF m 0 #[rv a1, rv t, iv (0 : Int32)] [] := by first | (simp [entryFrame, mkF, argsToLocals, Value.category]; done) | rfl
def own_Q_own_rnbb (Z : State) (a1 : Addr) (t : Addr) (h0 : Heap) (n0 : Nat) (v : Option Value) (h : Heap) (L : List Loc) : Prop := v = none ∧ Fr n0 L ∧ Keep h0 h [a1] ∧ Exa Z h a1 "java/lang/String" ∧ Fld Z h a1 "java/lang/String" "value" "[B" (.ref t) ∧ Fld Z h a1 "java/lang/String" "coder" "B" (.int (0 : Int32))
set_option maxRecDepth 65536 in
set_option maxHeartbeats 40000000 in
theorem own_rnbb (l : Launch) (Z : State) (a0 : Array Value) (hw : ∀ d ∈ tables_1, d.before a0 Z = true) (ws : List Jvm.Cond) (a1 : Addr) (t : Addr) (h0 : Heap) (n0 : Nat) (Z0 : n0 ≤ h0.size) (Ex : Exa Z h0 a1 "java/lang/String") (Fv : Fld Z h0 a1 "java/lang/String" "value" "[B" .null) (Fc : Fld Z h0 a1 "java/lang/String" "coder" "B" (.int (0 : Int32))) (g_a1 : n0 ≤ a1) :
    MetFree l (⟨"java/lang/String", "<init>", "([BB)V"⟩ : MethodName) (head1 (Jvm.Cond.code (⟨"java/lang/String", "<init>", "([BB)V"⟩ : MethodName) jdk_42_method_151_code 3 none :: ws) ({ frames := 1, cells := 0, slots := 0, locals := 12 } : Room)) (fun a U => a = #[(.ref a1), (.ref t), (.int (0 : Int32))] ∧ Z.Warmed39 U.vm ∧ U.heap = h0) (fun _ _ _ _ _ => True) (fun _ U o U' => ∃ v L, o = .returned v ∧ own_Q_own_rnbb Z a1 t h0 n0 v U'.heap L ∧ FrameEnd U o U' L ({ frames := 1, cells := 0, slots := 0, locals := 12 } : Room).cells ({ frames := 1, cells := 0, slots := 0, locals := 12 } : Room).slots) := by
  refine MetFree.of_bodySF (plainFor_of_name own_pn_java_lang_String) hisR ?_
  intro p e s m args below meth c s₁ Bd hml0 hP hK
  obtain ⟨rfl, hZ, hh⟩ := hP
  have hx := Bd.exec
  have hby := Bd.bytes
  have hml : c.maxLocals = 3 := hml0
  have hown : s.vm.findClass "java/lang/String" = some m.cls := findClass_of_methodNamed Bd.named
  have hnm := (name_of_methodNamed Bd.named Bd.method).1
  have X0 : Stand p l e ({ frames := 1, cells := 0, slots := 0, locals := 12 } : Room) s m #[(.ref a1), (.ref t), (.int (0 : Int32))] below meth c s₁ [] 0 0 := Stand.of_body Bd
  have e0 : s₁.heap = h0 := by rw [← hh, Bd.state]; rfl
  have N0 := Fr.nil n0
  have Kp : Keep h0 h0 [a1] := Keep.refl h0 _
  show own_Go p e below s (own_Q_own_rnbb Z a1 t h0 n0) ({ frames := 1, cells := 0, slots := 0, locals := 12 } : Room).cells ({ frames := 1, cells := 0, slots := 0, locals := 12 } : Room).slots (s₁.setTop (entryFrame m #[(.ref a1), (.ref t), (.int (0 : Int32))] 3))
  refine own_go (fun zt zk => castTop (own_ef_own_rnbb m a1 t) zk) ?_
  show own_Go p e below s _ _ _ (s₁.setTop (mkF m 0 #[rv a1, rv t, iv (0 : Int32)] []))
  refine own_go (fun zt zk => (XS.aloadN X0.here hx rfl (hb hby own_d28_0) rfl rfl zk)) ?_
  show own_Go p e below s _ _ _ (s₁.setTop (mkF m 1 #[rv a1, rv t, iv (0 : Int32)] [(.ref a1)]))
  obtain ⟨T1, X1, e1, st1⟩ := initO X0 hx hZ hown (hw _ (List.mem_of_getElem? (i := 18) rfl)) (hw _ (List.mem_of_getElem? (i := 19) rfl)) (hw _ (List.mem_of_getElem? (i := 20) rfl)) e0 (g := (mkF m 1 #[rv a1, rv t, iv (0 : Int32)] [(.ref a1)])) rfl (by rw [hml]; rfl) rfl (hb hby own_d28_1) (by decide) (W := 0) (by show 2 * 0 + _ ≤ _; exact Nat.le_of_eq rfl) (by decide)
  refine own_go st1 ?_
  show own_Go p e below s _ _ _ (T1.setTop (mkF m 4 #[rv a1, rv t, iv (0 : Int32)] []))
  refine own_go (fun zt zk => (XS.aloadN X1.here hx rfl (hb hby own_d28_4) rfl rfl (XS.aloadN X1.here hx rfl (hb hby own_d28_5) rfl rfl zk))) ?_
  show own_Go p e below s _ _ _ (T1.setTop (mkF m 6 #[rv a1, rv t, iv (0 : Int32)] [(.ref t), (.ref a1)]))
  obtain ⟨T2, h2, X2, e2, W2, st2⟩ := putF X1 hx hZ hown (host := "") (Or.inl (hw _ (List.mem_of_getElem? (i := 27) rfl))) Via.refl e1 Fv Ex (Or.inr ⟨(hw _ (List.mem_of_getElem? (i := 23) rfl)), rfl, hnm⟩) (hw _ (List.mem_of_getElem? (i := 9) rfl)) (ty := (.array .byte)) (by decide) rfl rfl (g := (mkF m 6 #[rv a1, rv t, iv (0 : Int32)] [(.ref t), (.ref a1)])) rfl rfl (hb hby own_d28_6)
  refine own_go st2 ?_
  have N2 := Fr.snoc X2 N0 g_a1
  replace Ex := Ex.wr W2
  replace Fc := Fc.other W2 (Or.inr (slot_ne (Or.inr (hw _ (List.mem_of_getElem? (i := 24) rfl))) (Or.inr (hw _ (List.mem_of_getElem? (i := 23) rfl))) (by decide) (t := .byte) (t' := (.array .byte)) (by decide) (by decide)))
  replace Kp := Kp.wr W2 (Or.inl (List.mem_of_getElem? (i := 0) rfl))
  replace Fv := Fv.same W2
  show own_Go p e below s _ _ _ (T2.setTop (mkF m 9 #[rv a1, rv t, iv (0 : Int32)] []))
  refine own_go (fun zt zk => (XS.aloadN X2.here hx rfl (hb hby own_d28_9) rfl rfl (XS.iloadN X2.here hx rfl (hb hby own_d28_10) rfl zk))) ?_
  show own_Go p e below s _ _ _ (T2.setTop (mkF m 11 #[rv a1, rv t, iv (0 : Int32)] [(.int (0 : Int32)), (.ref a1)]))
  obtain ⟨T3, h3, X3, e3, W3, st3⟩ := putFN X2 hx hZ hown (hw _ (List.mem_of_getElem? (i := 28) rfl)) Via.refl e2 Fc Ex (Or.inr ⟨(hw _ (List.mem_of_getElem? (i := 24) rfl)), rfl, hnm⟩) (hw _ (List.mem_of_getElem? (i := 9) rfl)) (ty := .byte) (v' := (.int (0 : Int32))) (by decide) rfl (by decide) (g := (mkF m 11 #[rv a1, rv t, iv (0 : Int32)] [(.int (0 : Int32)), (.ref a1)])) rfl rfl (hb hby own_d28_11)
  refine own_go st3 ?_
  have N3 := Fr.snoc X3 N2 g_a1
  replace Ex := Ex.wr W3
  replace Fv := Fv.other W3 (Or.inr (slot_ne (Or.inr (hw _ (List.mem_of_getElem? (i := 23) rfl))) (Or.inr (hw _ (List.mem_of_getElem? (i := 24) rfl))) (by decide) (t := (.array .byte)) (t' := .byte) (by decide) (by decide)))
  replace Kp := Kp.wr W3 (Or.inl (List.mem_of_getElem? (i := 0) rfl))
  replace Fc := Fc.same W3
  show own_Go p e below s _ _ _ (T3.setTop (mkF m 14 #[rv a1, rv t, iv (0 : Int32)] []))
  exact own_fin X3 Bd.notSynchronized (fun _ => rfl) (fun fs hr => X3.returnOut hx Bd.returns (hb hby own_d28_14) hr) (by rw [e3]; exact ⟨rfl, N3, Kp, Ex, Fv, Fc⟩) (by decide) (by decide)
theorem own_d24_0 : decode jdk_43_method_47_code 0 = .ok (.iload_n 2, 1) := by decide +kernel
theorem own_d24_1 : decode jdk_43_method_47_code 1 = .ok (.ifCond .ne 6, 3) := by decide +kernel
theorem own_d24_4 : decode jdk_43_method_47_code 4 = .ok (.ldc 151, 2) := by decide +kernel
theorem own_d24_6 : decode jdk_43_method_47_code 6 = .ok (.areturn, 1) := by decide +kernel
theorem own_d24_7 : decode jdk_43_method_47_code 7 = .ok (.new 1, 3) := by decide +kernel
theorem own_d24_10 : decode jdk_43_method_47_code 10 = .ok (.dup, 1) := by decide +kernel
theorem own_d24_11 : decode jdk_43_method_47_code 11 = .ok (.aload_n 0, 1) := by decide +kernel
theorem own_d24_12 : decode jdk_43_method_47_code 12 = .ok (.iload_n 1, 1) := by decide +kernel
theorem own_d24_13 : decode jdk_43_method_47_code 13 = .ok (.iload_n 1, 1) := by decide +kernel
theorem own_d24_14 : decode jdk_43_method_47_code 14 = .ok (.iload_n 2, 1) := by decide +kernel
theorem own_d24_15 : decode jdk_43_method_47_code 15 = .ok (.iadd, 1) := by decide +kernel
theorem own_d24_16 : decode jdk_43_method_47_code 16 = .ok (.invokestatic 232, 3) := by decide +kernel
theorem own_d24_19 : decode jdk_43_method_47_code 19 = .ok (.iconst 0, 1) := by decide +kernel
theorem own_d24_20 : decode jdk_43_method_47_code 20 = .ok (.invokespecial 112, 3) := by decide +kernel
theorem own_pd___BB_V : parseMethodDescriptor "([BB)V" = some ⟨[(.array .byte), .byte], none⟩ := by decide +kernel
theorem own_d24_23 : decode jdk_43_method_47_code 23 = .ok (.areturn, 1) := by decide +kernel
theorem own_ef_own_rns (m : MethodId) (t : Addr) (xs : List Int32) : entryFrame m #[(.ref t), (.int (Int32.ofNat s')), (.int (Int32.ofNat (xs.length - s')))] 3 = mkF m 0 #[rv t, iv (Int32.ofNat s'), iv (Int32.ofNat (xs.length - s'))] [] := by first | (simp [entryFrame, mkF, argsToLocals, Value.category]; done) | rfl
def own_Q_own_rns (Z : State) (t : Addr) (kb : ClassId) (xs : List Int32) (s' : Nat) (h0 : Heap) (n0 : Nat) (v : Option Value) (h : Heap) (L : List Loc) : Prop := ∃ b t2 k2, v = some (.ref b) ∧ Fr n0 L ∧ Keep h0 h [] ∧ Exa Z h b "java/lang/String" ∧ Fld Z h b "java/lang/String" "value" "[B" (.ref t2) ∧ Fld Z h b "java/lang/String" "coder" "B" (.int (0 : Int32)) ∧ Arv Z h t2 k2 .byte (Int32.ofNat (xs.length - s')) ((xs.drop s').map Value.int) (.int (0 : Int32))
set_option maxRecDepth 65536 in
set_option maxHeartbeats 40000000 in
theorem own_rns (l : Launch) (Z : State) (a0 : Array Value) (hw : ∀ d ∈ tables_1, d.before a0 Z = true) (ws : List Jvm.Cond) (t : Addr) (kb : ClassId) (xs : List Int32) (s' : Nat) (vm0 : Vm) (h0 : Heap) (n0 : Nat) (Z0 : n0 ≤ h0.size) (Va : Arv Z h0 t kb .byte (Int32.ofNat xs.length) (xs.map Value.int) (.int (0 : Int32))) (h5 : xs.length ≤ 5) (hsl : s' ≤ xs.length) (hs0 : ¬ (s' = 0)) :
    MetFree l (⟨"java/lang/StringLatin1", "newString", "([BII)Ljava/lang/String;"⟩ : MethodName) (head1 (Jvm.Cond.code (⟨"java/lang/StringLatin1", "newString", "([BII)Ljava/lang/String;"⟩ : MethodName) jdk_43_method_47_code 3 (some (.object "java/lang/String")) :: ws) ({ frames := 3, cells := 2, slots := 9, locals := 64 } : Room)) (fun a U => a = #[(.ref t), (.int (Int32.ofNat s')), (.int (Int32.ofNat (xs.length - s')))] ∧ Z.Warmed39 U.vm ∧ U.heap = h0 ∧ CHr Z own_EL vm0 h0 U.vm h0) (fun _ _ _ _ _ => True) (fun _ U o U' => ∃ v L, o = .returned v ∧ own_Q_own_rns Z t kb xs s' h0 n0 v U'.heap L ∧ CHr Z own_EL U.vm U.heap U'.vm U'.heap ∧ ReturnedEndW U o U' L ({ frames := 3, cells := 2, slots := 9, locals := 64 } : Room).cells ({ frames := 3, cells := 2, slots := 9, locals := 64 } : Room).slots) := by
  refine MetFree.of_bodySF (plainFor_of_name own_pn_java_lang_StringLatin1) hisR ?_
  intro p e s m args below meth c s₁ Bd hml0 hP hK
  obtain ⟨rfl, hZ, hh, hCH⟩ := hP
  have hx := Bd.exec
  have hby := Bd.bytes
  have hml : c.maxLocals = 3 := hml0
  have hown : s.vm.findClass "java/lang/StringLatin1" = some m.cls := findClass_of_methodNamed Bd.named
  have hnm := (name_of_methodNamed Bd.named Bd.method).1
  have X0 : Stand p l e ({ frames := 3, cells := 2, slots := 9, locals := 64 } : Room) (s.setVm s.vm) m #[(.ref t), (.int (Int32.ofNat s')), (.int (Int32.ofNat (xs.length - s')))] below meth c s₁ [] 0 0 := Stand.of_body Bd
  have e0 : s₁.heap = h0 := by rw [← hh, Bd.state]; rfl
  have N0 := Fr.nil n0
  have hEL := own_EW Z a0 hw
  have wS := own_wS Z a0 hw
  have hS : s.Since s.vm 0 := (State.WarmedH.refl s).since 0
  have hk : 0 ≤ h0.size := Nat.zero_le _
  have Rc : CHr Z own_EL s.vm h0 s.vm h0 := CHr.refl hCH.1
  have Kp : Keep h0 h0 [] := Keep.refl h0 _
  show own_GoW p e below s Z (own_Q_own_rns Z t kb xs s' h0 n0) ({ frames := 3, cells := 2, slots := 9, locals := 64 } : Room).cells ({ frames := 3, cells := 2, slots := 9, locals := 64 } : Room).slots (s₁.setTop (entryFrame m #[(.ref t), (.int (Int32.ofNat s')), (.int (Int32.ofNat (xs.length - s')))] 3))
  refine own_goW (fun zt zk => castTop (own_ef_own_rns m t xs) zk) ?_
  show own_GoW p e below s _ _ _ _ (s₁.setTop (mkF m 0 #[rv t, iv (Int32.ofNat s'), iv (Int32.ofNat (xs.length - s'))] []))
  refine own_goW (fun zt zk => (XS.iloadN X0.here hx rfl (hb hby own_d24_0) rfl zk)) ?_
  show own_GoW p e below s _ _ _ _ (s₁.setTop (mkF m 1 #[rv t, iv (Int32.ofNat s'), iv (Int32.ofNat (xs.length - s'))] [(.int (Int32.ofNat (xs.length - s')))]))
  by_cases hB : (Int32.ofNat (xs.length - s')) = (0 : Int32)
  · refine own_goW (fun zt zk => (XS.ifNo X0.here hx rfl (hb hby own_d24_1) rfl ((if0 _ _).trans (teq (hB : (Int32.ofNat (xs.length - s')) = (0 : Int32))).2) zk)) ?_
    show own_GoW p e below s _ _ _ _ (s₁.setTop (mkF m 4 #[rv t, iv (Int32.ofNat s'), iv (Int32.ofNat (xs.length - s'))] []))
    obtain ⟨a1, T1, h1, q1, b1, k1, X1, e1, E1, hS1, hk1, hZ1, hown1, Ex_a1, Fc_a1, Fv_a1, Va_b1, lta1, ltb1, A1, Li1, Sn1, st1⟩ := ldcCH X0 hx hZ hown (hw _ (List.mem_of_getElem? (i := 108) rfl)) wS e0 hS hk hEL (by decide +kernel) Rc.1 (vs := []) (z := (0 : Int32)) ⟨by decide +kernel, by decide +kernel⟩ (by decide) rfl (g := (mkF m 4 #[rv t, iv (Int32.ofNat s'), iv (Int32.ofNat (xs.length - s'))] [])) rfl (hb hby own_d24_4) (n := 0) (by decide +kernel) (by decide) (by decide) (by decide)
    replace Va := Va.ext E1
    replace Kp := Kp.ext E1
    replace Rc := Rc.trans A1
    replace hS := hS1
    replace hk := hk1
    replace hZ := hZ1
    replace hown := hown1
    refine own_goW st1 ?_
    show own_GoW p e below s _ _ _ _ (T1.setTop (mkF m 6 #[rv t, iv (Int32.ofNat s'), iv (Int32.ofNat (xs.length - s'))] [(.ref a1)]))
    have hz' : xs.length - s' = 0 := (own_eqN (s := 0) (by omega) (by omega)).mp hB
    have Ve : Arv Z h1 b1 k1 .byte (Int32.ofNat (xs.length - s')) ((xs.drop s').map Value.int) (.int (0 : Int32)) := by rw [hz', List.drop_of_length_le (by omega)]; exact Va_b1
    have Re := Rc.trans (CHv.at X1 hZ hEL Rc.1)
    exact own_finW X1 hS (by rw [e1]; exact hk) (by rw [e1, hh]; exact Re) Bd.notSynchronized (fun h => by rw [Bd.returns] at h; cases h) (fun fs hr => retOut X1 hx (t := (.object "java/lang/String")) (w := (.ref a1)) Bd.returns rfl (Or.inr (Or.inr (Or.inr (Or.inr ⟨rfl, rfl, rfl⟩)))) (hb hby own_d24_6) hr) (by rw [e1]; exact ⟨_, _, _, rfl, N0, Kp, Ex_a1, Fv_a1, Fc_a1, Ve⟩) (by decide) (by decide)
  · refine own_goW (fun zt zk => (XS.ifYes X0.here hx rfl (pc0 := 1) (pc' := 7) rfl (hb hby own_d24_1) rfl ((if0 _ _).trans (feq (hB : ¬ ((Int32.ofNat (xs.length - s')) = (0 : Int32)))).2) (by decide) (by decide) zk)) ?_
    show own_GoW p e below s _ _ _ _ (s₁.setTop (mkF m 7 #[rv t, iv (Int32.ofNat s'), iv (Int32.ofNat (xs.length - s'))] []))
    have hs1 : s' < xs.length := by have q : ¬ (xs.length - s' = 0) := fun z => hB ((own_eqN (s := 0) (n := xs.length - s') (by omega) (by omega)).mpr z); omega
    obtain ⟨T2, h2, X2, e2, E2, A2, D2, -, st2⟩ := newO X0 hx hZ hown (hw _ (List.mem_of_getElem? (i := 109) rfl)) (hw _ (List.mem_of_getElem? (i := 9) rfl)) (hw _ (List.mem_of_getElem? (i := 10) rfl)) e0 (g := (mkF m 7 #[rv t, iv (Int32.ofNat s'), iv (Int32.ofNat (xs.length - s'))] [])) rfl (hb hby own_d24_7) (by decide) (by decide)
    obtain ⟨b2, g2⟩ : ∃ z, z = h0.size := ⟨_, rfl⟩
    rw [← g2] at A2 D2 st2
    refine own_goW st2 ?_
    have ne_t_b2 : t ≠ b2 := Nat.ne_of_lt (Nat.lt_of_lt_of_le Va.lt (Nat.le_of_eq g2.symm))
    have sz_b2 : h0.size ≤ b2 := Nat.le_trans Kp.1 (Nat.le_of_eq g2.symm)
    have g_b2 : n0 ≤ b2 := Nat.le_trans Z0 sz_b2
    have Sf_b2 : Safe Z own_EL s.vm h0 b2 := Safe.new (Nat.le_of_eq g2.symm)
    replace Va := Va.ext E2
    replace Kp := Kp.ext E2
    replace Sf_b2 := Safe.ext E2 Rc.1 Sf_b2
    replace Rc := Rc.trans (CHr.ext E2 Rc.1)
    replace hk := Nat.le_trans hk E2.1
    have Ex_b2 := A2
    have F_value_b2 : Fld Z h2 b2 "java/lang/String" "value" "[B" .null := D2 (Or.inr (hw _ (List.mem_of_getElem? (i := 23) rfl))) (ty := (.array .byte)) (by decide)
    have F_coder_b2 : Fld Z h2 b2 "java/lang/String" "coder" "B" (.int (0 : Int32)) := D2 (Or.inr (hw _ (List.mem_of_getElem? (i := 24) rfl))) (ty := .byte) (by decide)
    show own_GoW p e below s _ _ _ _ (T2.setTop (mkF m 10 #[rv t, iv (Int32.ofNat s'), iv (Int32.ofNat (xs.length - s'))] [(.ref b2)]))
    refine own_goW (fun zt zk => (XS.dup X2.here hx rfl (hb hby own_d24_10) rfl rfl (XS.aloadN X2.here hx rfl (hb hby own_d24_11) rfl rfl (XS.iloadN X2.here hx rfl (hb hby own_d24_12) rfl (XS.iloadN X2.here hx rfl (hb hby own_d24_13) rfl (XS.iloadN X2.here hx rfl (hb hby own_d24_14) rfl (XS.iadd X2.here hx rfl (hb hby own_d24_15) rfl zk))))))) ?_
    show own_GoW p e below s _ _ _ _ (T2.setTop (mkF m 16 #[rv t, iv (Int32.ofNat s'), iv (Int32.ofNat (xs.length - s'))] [(.int ((Int32.ofNat s') + (Int32.ofNat (xs.length - s')))), (.int (Int32.ofNat s')), (.ref t), (.ref b2), (.ref b2)]))
    rw [show Int32.ofNat s' + Int32.ofNat (xs.length - s') = Int32.ofNat xs.length from (own_addN (by omega)).trans (by rw [Nat.add_sub_cancel' (by omega)])]
    show own_GoW p e below s _ _ _ _ (T2.setTop (mkF m 16 #[rv t, iv (Int32.ofNat s'), iv (Int32.ofNat (xs.length - s'))] [(.int (Int32.ofNat xs.length)), (.int (Int32.ofNat s')), (.ref t), (.ref b2), (.ref b2)]))
    obtain ⟨_, _, ⟨T3, L3, k3, n3⟩, -, X3, ⟨Lc3, hQ3, l3, y3, z3⟩, st3⟩ := Jvm.LawKit.callS X2 hx (y := (⟨"java/util/Arrays", "copyOfRange", "([BII)[B"⟩ : MethodName)) hown (mvT hZ (hw _ (List.mem_of_getElem? (i := 110) rfl))) (mvT hZ (hw _ (List.mem_of_getElem? (i := 111) rfl))) (mvT hZ (hw _ (List.mem_of_getElem? (i := 112) rfl))) (mvT hZ (hw _ (List.mem_of_getElem? (i := 113) rfl))) (by decide) (backOf (W := 2) (own_rcr l Z a0 hw [] t kb xs s' h2 n0 (Nat.le_trans Z0 Kp.1) Va h5 hs1 hs0) hZ (hw _ (List.mem_of_getElem? (i := 113) rfl)) (hw _ (List.mem_of_getElem? (i := 112) rfl)) (by decide) (by decide)) (g := (mkF m 16 #[rv t, iv (Int32.ofNat s'), iv (Int32.ofNat (xs.length - s'))] [(.int (Int32.ofNat xs.length)), (.int (Int32.ofNat s')), (.ref t), (.ref b2), (.ref b2)])) rfl (by rw [hml]; rfl) (argsL := [(.ref t), (.int (Int32.ofNat s')), (.int (Int32.ofNat xs.length))]) (rest := [(.ref b2), (.ref b2)]) (lenOf own_pd___BII__B rfl) rfl (by show 2 * 0 + _ ≤ _; exact Nat.le_of_eq rfl) (hb hby own_d24_16) (fun _ _ => ⟨rfl, e2, (by decide : 1 + 1 ≤ _), (by decide : 4 + 5 ≤ _)⟩)
    dsimp only [Pt.U, Pt.locs, Pt.cells, Pt.slots] at X3 l3 y3 z3 st3 hQ3
    subst l3 y3 z3
    obtain ⟨b3, k3', rfl, Nq3, K3, sz3, V_b3⟩ := hQ3
    have ne_b2_b3 : b2 ≠ b3 := Nat.ne_of_lt (Nat.lt_of_lt_of_le Ex_b2.lt sz3)
    have N3 := Fr.app N0 Nq3
    refine own_goW st3 ?_
    have Sf_b2' := Safe.keep K3 all0 Rc.1 Sf_b2
    replace Rc := Rc.trans (CHr.keep K3 all0 Rc.1)
    replace hk := Nat.le_trans hk K3.1
    replace Sf_b2 := Sf_b2'
    replace Va := Va.keep K3 nin0
    replace Kp := Kp.trans K3 all0
    replace Ex_b2 := Ex_b2.keep K3
    replace F_value_b2 := F_value_b2.keep K3 nin0
    replace F_coder_b2 := F_coder_b2.keep K3 nin0
    show own_GoW p e below s _ _ _ _ (T3.setTop (mkF m 19 #[rv t, iv (Int32.ofNat s'), iv (Int32.ofNat (xs.length - s'))] [(.ref b3), (.ref b2), (.ref b2)]))
    refine own_goW (fun zt zk => (XS.iconst X3.here hx rfl (hb hby own_d24_19) zk)) ?_
    show own_GoW p e below s _ _ _ _ (T3.setTop (mkF m 20 #[rv t, iv (Int32.ofNat s'), iv (Int32.ofNat (xs.length - s'))] [(.int (0 : Int32)), (.ref b3), (.ref b2), (.ref b2)]))
    obtain ⟨_, _, ⟨T4, L4, k4, n4⟩, -, X4, ⟨Lc4, hQ4, l4, y4, z4⟩, st4⟩ := X3.specialBack hx (y := (⟨"java/lang/String", "<init>", "([BB)V"⟩ : MethodName)) rfl hown (mvT hZ (hw _ (List.mem_of_getElem? (i := 125) rfl))) (mvT hZ (hw _ (List.mem_of_getElem? (i := 126) rfl))) (mvT hZ (hw _ (List.mem_of_getElem? (i := 127) rfl))) (by decide) (backOf (W := 1) (own_rnbb l Z a0 hw [] b2 b3  T3.heap n0 (Nat.le_trans Z0 Kp.1) Ex_b2 F_value_b2 F_coder_b2 g_b2) hZ (hw _ (List.mem_of_getElem? (i := 127) rfl)) (hw _ (List.mem_of_getElem? (i := 10) rfl)) (by decide) (by decide)) (g := (mkF m 20 #[rv t, iv (Int32.ofNat s'), iv (Int32.ofNat (xs.length - s'))] [(.int (0 : Int32)), (.ref b3), (.ref b2), (.ref b2)])) rfl (by rw [hml]; rfl) (Steps.refl _) (a := b2) (argsL := [(.ref b3), (.int (0 : Int32))]) (rest := [(.ref b2)]) (lenOf own_pd___BB_V rfl) rfl (by show 2 * 0 + _ ≤ _; exact Nat.le_of_eq rfl) (hb hby own_d24_20) (fun _ _ => ⟨rfl, rfl, (by decide : 2 + 0 ≤ _), (by decide : 9 + 0 ≤ _)⟩)
    dsimp only [Pt.U, Pt.locs, Pt.cells, Pt.slots] at X4 l4 y4 z4 st4 hQ4
    subst l4 y4 z4
    obtain ⟨rfl, Nq4, K4, -, F_value_b2, F_coder_b2⟩ := hQ4
    have N4 := Fr.app N3 Nq4
    refine own_goW (fun zt zk => st4.trans zk) ?_
    have Sf_b2' := Safe.keep K4 (allS Sf_b2 all0) Rc.1 Sf_b2
    replace Rc := Rc.trans (CHr.keep K4 (allS Sf_b2 all0) Rc.1)
    replace hk := Nat.le_trans hk K4.1
    replace Sf_b2 := Sf_b2'
    replace Va := Va.keep K4 (ninS ne_t_b2 nin0)
    replace Kp := Kp.trans K4 (allS (Or.inr sz_b2) all0)
    replace Ex_b2 := Ex_b2.keep K4
    replace V_b3 := V_b3.keep K4 (ninS (Ne.symm ne_b2_b3) nin0)
    show own_GoW p e below s _ _ _ _ (T4.setTop (mkF m 23 #[rv t, iv (Int32.ofNat s'), iv (Int32.ofNat (xs.length - s'))] [(.ref b2)]))
    have Re := Rc.trans (CHv.at X4 hZ hEL Rc.1)
    exact own_finW X4 hS (hk) (by rw [hh]; exact Re) Bd.notSynchronized (fun h => by rw [Bd.returns] at h; cases h) (fun fs hr => retOut X4 hx (t := (.object "java/lang/String")) (w := (.ref b2)) Bd.returns rfl (Or.inr (Or.inr (Or.inr (Or.inr ⟨rfl, rfl, rfl⟩)))) (hb hby own_d24_23) hr) (⟨_, _, _, rfl, N4, Kp, Ex_b2, F_value_b2, F_coder_b2, V_b3⟩) (by decide) (by decide)
theorem own_d16_0 : decode jdk_42_method_92_code 0 = .ok (.aload_n 0, 1) := by decide +kernel
theorem own_d16_1 : decode jdk_42_method_92_code 1 = .ok (.invokevirtual 505, 3) := by decide +kernel
theorem own_d16_4 : decode jdk_42_method_92_code 4 = .ok (.istore_n 3, 1) := by decide +kernel
theorem own_d16_5 : decode jdk_42_method_92_code 5 = .ok (.iload_n 1, 1) := by decide +kernel
theorem own_d16_6 : decode jdk_42_method_92_code 6 = .ok (.iload_n 2, 1) := by decide +kernel
theorem own_d16_7 : decode jdk_42_method_92_code 7 = .ok (.iload_n 3, 1) := by decide +kernel
theorem own_d16_8 : decode jdk_42_method_92_code 8 = .ok (.invokestatic 521, 3) := by decide +kernel
theorem own_pd__III_V : parseMethodDescriptor "(III)V" = some ⟨[.int, .int, .int], none⟩ := by decide +kernel
theorem own_d16_11 : decode jdk_42_method_92_code 11 = .ok (.iload_n 1, 1) := by decide +kernel
theorem own_d16_12 : decode jdk_42_method_92_code 12 = .ok (.ifCond .ne 10, 3) := by decide +kernel
theorem own_d16_15 : decode jdk_42_method_92_code 15 = .ok (.iload_n 2, 1) := by decide +kernel
theorem own_d16_16 : decode jdk_42_method_92_code 16 = .ok (.iload_n 3, 1) := by decide +kernel
theorem own_d16_17 : decode jdk_42_method_92_code 17 = .ok (.if_icmp .ne 5, 3) := by decide +kernel
theorem own_d16_20 : decode jdk_42_method_92_code 20 = .ok (.aload_n 0, 1) := by decide +kernel
theorem own_d16_21 : decode jdk_42_method_92_code 21 = .ok (.areturn, 1) := by decide +kernel
theorem own_d16_22 : decode jdk_42_method_92_code 22 = .ok (.iload_n 2, 1) := by decide +kernel
theorem own_d16_23 : decode jdk_42_method_92_code 23 = .ok (.iload_n 1, 1) := by decide +kernel
theorem own_d16_24 : decode jdk_42_method_92_code 24 = .ok (.isub, 1) := by decide +kernel
theorem own_d16_25 : decode jdk_42_method_92_code 25 = .ok (.istore 4, 2) := by decide +kernel
theorem own_d16_27 : decode jdk_42_method_92_code 27 = .ok (.aload_n 0, 1) := by decide +kernel
theorem own_d16_28 : decode jdk_42_method_92_code 28 = .ok (.invokevirtual 492, 3) := by decide +kernel
theorem own_d16_31 : decode jdk_42_method_92_code 31 = .ok (.ifCond .eq 16, 3) := by decide +kernel
theorem own_d16_34 : decode jdk_42_method_92_code 34 = .ok (.aload_n 0, 1) := by decide +kernel
theorem own_d16_35 : decode jdk_42_method_92_code 35 = .ok (.getfield 9, 3) := by decide +kernel
theorem own_d16_38 : decode jdk_42_method_92_code 38 = .ok (.iload_n 1, 1) := by decide +kernel
theorem own_d16_39 : decode jdk_42_method_92_code 39 = .ok (.iload 4, 2) := by decide +kernel
theorem own_d16_41 : decode jdk_42_method_92_code 41 = .ok (.invokestatic 685, 3) := by decide +kernel
theorem own_pd___BII_Ljava_lang_String_ : parseMethodDescriptor "([BII)Ljava/lang/String;" = some ⟨[(.array .byte), .int, .int], some (.object "java/lang/String")⟩ := by decide +kernel
theorem own_d16_44 : decode jdk_42_method_92_code 44 = .ok (.goto 13, 3) := by decide +kernel
theorem own_d16_57 : decode jdk_42_method_92_code 57 = .ok (.areturn, 1) := by decide +kernel
theorem own_ef_own_rsu2 (m : MethodId) (a1 : Addr) (xs : List Int32) : entryFrame m #[(.ref a1), (.int (Int32.ofNat s')), (.int (Int32.ofNat xs.length))] 5 = mkF m 0 #[rv a1, iv (Int32.ofNat s'), iv (Int32.ofNat xs.length), .unset, .unset] [] := by first | (simp [entryFrame, mkF, argsToLocals, Value.category]; done) | rfl
def own_Q_own_rsu2 (Z : State) (a1 : Addr) (cz : Int32) (fm : Value) (t : Addr) (kb : ClassId) (xs : List Int32) (s' : Nat) (h0 : Heap) (n0 : Nat) (v : Option Value) (h : Heap) (L : List Loc) : Prop := ∃ b t2 k2, v = some (.ref b) ∧ Fr n0 L ∧ Keep h0 h [] ∧ Exa Z h b "java/lang/String" ∧ Fld Z h b "java/lang/String" "value" "[B" (.ref t2) ∧ Fld Z h b "java/lang/String" "coder" "B" (.int (0 : Int32)) ∧ Arv Z h t2 k2 .byte (Int32.ofNat (xs.length - s')) ((xs.drop s').map Value.int) (.int (0 : Int32))
set_option maxRecDepth 65536 in
set_option maxHeartbeats 40000000 in
theorem own_rsu2 (l : Launch) (Z : State) (a0 : Array Value) (hw : ∀ d ∈ tables_1, d.before a0 Z = true) (ws : List Jvm.Cond) (a1 : Addr) (cz : Int32) (fm : Value) (t : Addr) (kb : ClassId) (xs : List Int32) (s' : Nat) (vm0 : Vm) (h0 : Heap) (n0 : Nat) (Z0 : n0 ≤ h0.size) (O : Old Z n0 h0) (SC : Sta Z Z.heap "java/lang/String" "COMPACT_STRINGS" "Z" (.int cz)) (SF : Sta Z Z.heap "jdk/internal/util/Preconditions" "SIOOBE_FORMATTER" "Ljava/util/function/BiFunction;" fm) (Ex : Exa Z h0 a1 "java/lang/String") (Fv : Fld Z h0 a1 "java/lang/String" "value" "[B" (.ref t)) (Fc : Fld Z h0 a1 "java/lang/String" "coder" "B" (.int (0 : Int32))) (Va : Arv Z h0 t kb .byte (Int32.ofNat xs.length) (xs.map Value.int) (.int (0 : Int32))) (hz : ¬ (cz = (0 : Int32))) (rfm : fm.isRef = true) (h5 : xs.length ≤ 5) (hsl : s' ≤ xs.length) :
    MetFree l (⟨"java/lang/String", "substring", "(II)Ljava/lang/String;"⟩ : MethodName) (head1 (Jvm.Cond.code (⟨"java/lang/String", "substring", "(II)Ljava/lang/String;"⟩ : MethodName) jdk_42_method_92_code 5 (some (.object "java/lang/String")) :: ws) ({ frames := 4, cells := 2, slots := 9, locals := 78 } : Room)) (fun a U => a = #[(.ref a1), (.int (Int32.ofNat s')), (.int (Int32.ofNat xs.length))] ∧ Z.Warmed39 U.vm ∧ U.heap = h0 ∧ CHr Z own_EL vm0 h0 U.vm h0) (fun _ _ _ _ _ => True) (fun _ U o U' => ∃ v L, o = .returned v ∧ own_Q_own_rsu2 Z a1 cz fm t kb xs s' h0 n0 v U'.heap L ∧ CHr Z own_EL U.vm U.heap U'.vm U'.heap ∧ ReturnedEndW U o U' L ({ frames := 4, cells := 2, slots := 9, locals := 78 } : Room).cells ({ frames := 4, cells := 2, slots := 9, locals := 78 } : Room).slots) := by
  refine MetFree.of_bodySF (plainFor_of_name own_pn_java_lang_String) hisR ?_
  intro p e s m args below meth c s₁ Bd hml0 hP hK
  obtain ⟨rfl, hZ, hh, hCH⟩ := hP
  have hx := Bd.exec
  have hby := Bd.bytes
  have hml : c.maxLocals = 5 := hml0
  have hown : s.vm.findClass "java/lang/String" = some m.cls := findClass_of_methodNamed Bd.named
  have hnm := (name_of_methodNamed Bd.named Bd.method).1
  have X0 : Stand p l e ({ frames := 4, cells := 2, slots := 9, locals := 78 } : Room) (s.setVm s.vm) m #[(.ref a1), (.int (Int32.ofNat s')), (.int (Int32.ofNat xs.length))] below meth c s₁ [] 0 0 := Stand.of_body Bd
  have e0 : s₁.heap = h0 := by rw [← hh, Bd.state]; rfl
  have N0 := Fr.nil n0
  have hEL := own_EW Z a0 hw
  have wS := own_wS Z a0 hw
  have hS : s.Since s.vm 0 := (State.WarmedH.refl s).since 0
  have hk : 0 ≤ h0.size := Nat.zero_le _
  have Rc : CHr Z own_EL s.vm h0 s.vm h0 := CHr.refl hCH.1
  have Kp : Keep h0 h0 [] := Keep.refl h0 _
  show own_GoW p e below s Z (own_Q_own_rsu2 Z a1 cz fm t kb xs s' h0 n0) ({ frames := 4, cells := 2, slots := 9, locals := 78 } : Room).cells ({ frames := 4, cells := 2, slots := 9, locals := 78 } : Room).slots (s₁.setTop (entryFrame m #[(.ref a1), (.int (Int32.ofNat s')), (.int (Int32.ofNat xs.length))] 5))
  refine own_goW (fun zt zk => castTop (own_ef_own_rsu2 m a1 xs) zk) ?_
  show own_GoW p e below s _ _ _ _ (s₁.setTop (mkF m 0 #[rv a1, iv (Int32.ofNat s'), iv (Int32.ofNat xs.length), .unset, .unset] []))
  refine own_goW (fun zt zk => (XS.aloadN X0.here hx rfl (hb hby own_d16_0) rfl rfl zk)) ?_
  show own_GoW p e below s _ _ _ _ (s₁.setTop (mkF m 1 #[rv a1, iv (Int32.ofNat s'), iv (Int32.ofNat xs.length), .unset, .unset] [(.ref a1)]))
  obtain ⟨cq1, kq1, qa1, qb1, qc1⟩ := isOf hZ e0 Ex
  obtain ⟨_, _, ⟨T1, L1, k1, n1⟩, -, X1, ⟨Lc1, hQ1, l1, y1, z1⟩, st1⟩ := X0.virtualBack hx (y := (⟨"java/lang/String", "length", "()I"⟩ : MethodName)) (z := (⟨"java/lang/String", "length", "()I"⟩ : MethodName)) hown (mvT hZ (hw _ (List.mem_of_getElem? (i := 38) rfl))) (mvT hZ (hw _ (List.mem_of_getElem? (i := 39) rfl))) (notFace_of_selects (args := #[]) (mvT hZ (hw _ (List.mem_of_getElem? (i := 41) rfl)))) (mvT hZ (hw _ (List.mem_of_getElem? (i := 41) rfl))) (mvT hZ (hw _ (List.mem_of_getElem? (i := 40) rfl))) (by decide) (backOf (W := 0) (own_rlen l Z a0 hw [] a1 cz t kb (Int32.ofNat xs.length) (xs.map Value.int) h0 n0 Z0 O SC Ex Fv Fc Va hz) hZ (hw _ (List.mem_of_getElem? (i := 42) rfl)) (hw _ (List.mem_of_getElem? (i := 10) rfl)) (by decide) (by decide)) qa1 qc1 (g := (mkF m 1 #[rv a1, iv (Int32.ofNat s'), iv (Int32.ofNat xs.length), .unset, .unset] [(.ref a1)])) rfl (by rw [hml]; rfl) (Steps.refl _) (argsL := []) (rest := []) (lenOf own_pd___I rfl) rfl (by show 2 * 0 + _ ≤ _; exact Nat.le_of_eq rfl) (hb hby own_d16_1) (fun _ _ => ⟨rfl, e0, (by decide : 0 + 0 ≤ _), (by decide : 0 + 0 ≤ _)⟩)
  dsimp only [Pt.U, Pt.locs, Pt.cells, Pt.slots] at X1 l1 y1 z1 st1 hQ1
  subst l1 y1 z1
  obtain ⟨rfl, Nq1, e1⟩ := hQ1
  have N1 := Fr.app N0 Nq1
  refine own_goW (fun zt zk => st1.trans zk) ?_
  show own_GoW p e below s _ _ _ _ (T1.setTop (mkF m 4 #[rv a1, iv (Int32.ofNat s'), iv (Int32.ofNat xs.length), .unset, .unset] [(.int (Int32.ofNat xs.length))]))
  refine own_goW (fun zt zk => (XS.istoreN X1.here hx rfl (hb hby own_d16_4) rfl (l' := #[rv a1, iv (Int32.ofNat s'), iv (Int32.ofNat xs.length), iv (Int32.ofNat xs.length), .unset]) rfl (XS.iloadN X1.here hx rfl (hb hby own_d16_5) rfl (XS.iloadN X1.here hx rfl (hb hby own_d16_6) rfl (XS.iloadN X1.here hx rfl (hb hby own_d16_7) rfl zk))))) ?_
  show own_GoW p e below s _ _ _ _ (T1.setTop (mkF m 8 #[rv a1, iv (Int32.ofNat s'), iv (Int32.ofNat xs.length), iv (Int32.ofNat xs.length), .unset] [(.int (Int32.ofNat xs.length)), (.int (Int32.ofNat xs.length)), (.int (Int32.ofNat s'))]))
  obtain ⟨_, _, ⟨T2, L2, k2, n2⟩, -, X2, ⟨Lc2, hQ2, l2, y2, z2⟩, st2⟩ := Jvm.LawKit.callS X1 hx (y := (⟨"java/lang/String", "checkBoundsBeginEnd", "(III)V"⟩ : MethodName)) hown (mvT hZ (hw _ (List.mem_of_getElem? (i := 80) rfl))) (mvT hZ (hw _ (List.mem_of_getElem? (i := 81) rfl))) (mvT hZ (hw _ (List.mem_of_getElem? (i := 10) rfl))) (mvT hZ (hw _ (List.mem_of_getElem? (i := 82) rfl))) (by decide) (backOf (W := 0) (own_rcbe l Z a0 hw [] (Int32.ofNat s') (Int32.ofNat xs.length) (Int32.ofNat xs.length) fm h0 n0 Z0 O SF rfm ⟨own_nnN (by omega), fun q => absurd ((own_ltN (by omega) (by omega)).mp q) (by omega), own_irr _⟩) hZ (hw _ (List.mem_of_getElem? (i := 82) rfl)) (hw _ (List.mem_of_getElem? (i := 10) rfl)) (by decide) (by decide)) (g := (mkF m 8 #[rv a1, iv (Int32.ofNat s'), iv (Int32.ofNat xs.length), iv (Int32.ofNat xs.length), .unset] [(.int (Int32.ofNat xs.length)), (.int (Int32.ofNat xs.length)), (.int (Int32.ofNat s'))])) rfl (by rw [hml]; rfl) (argsL := [(.int (Int32.ofNat s')), (.int (Int32.ofNat xs.length)), (.int (Int32.ofNat xs.length))]) (rest := []) (lenOf own_pd__III_V rfl) rfl (by show 2 * 0 + _ ≤ _; exact Nat.le_of_eq rfl) (hb hby own_d16_8) (fun _ _ => ⟨rfl, e1, (by decide : 0 + 0 ≤ _), (by decide : 0 + 0 ≤ _)⟩)
  dsimp only [Pt.U, Pt.locs, Pt.cells, Pt.slots] at X2 l2 y2 z2 st2 hQ2
  subst l2 y2 z2
  obtain ⟨rfl, Nq2, e2⟩ := hQ2
  have N2 := Fr.app N1 Nq2
  refine own_goW st2 ?_
  show own_GoW p e below s _ _ _ _ (T2.setTop (mkF m 11 #[rv a1, iv (Int32.ofNat s'), iv (Int32.ofNat xs.length), iv (Int32.ofNat xs.length), .unset] []))
  refine own_goW (fun zt zk => (XS.iloadN X2.here hx rfl (hb hby own_d16_11) rfl zk)) ?_
  show own_GoW p e below s _ _ _ _ (T2.setTop (mkF m 12 #[rv a1, iv (Int32.ofNat s'), iv (Int32.ofNat xs.length), iv (Int32.ofNat xs.length), .unset] [(.int (Int32.ofNat s'))]))
  by_cases hB : (Int32.ofNat s') = (0 : Int32)
  · refine own_goW (fun zt zk => (XS.ifNo X2.here hx rfl (hb hby own_d16_12) rfl ((if0 _ _).trans (teq (hB : (Int32.ofNat s') = (0 : Int32))).2) (XS.iloadN X2.here hx rfl (hb hby own_d16_15) rfl (XS.iloadN X2.here hx rfl (hb hby own_d16_16) rfl (XS.icmpNo X2.here hx rfl (hb hby own_d16_17) rfl (teq (rfl : (Int32.ofNat xs.length) = (Int32.ofNat xs.length))).2 (XS.aloadN X2.here hx rfl (hb hby own_d16_20) rfl rfl zk)))))) ?_
    show own_GoW p e below s _ _ _ _ (T2.setTop (mkF m 21 #[rv a1, iv (Int32.ofNat s'), iv (Int32.ofNat xs.length), iv (Int32.ofNat xs.length), .unset] [(.ref a1)]))
    have hs0 : s' = 0 := (own_eqN (s := 0) (by omega) (by omega)).mp hB
    subst hs0
    have Re := Rc.trans (CHv.at X2 hZ hEL Rc.1)
    exact own_finW X2 hS (by rw [e2]; exact hk) (by rw [e2, hh]; exact Re) Bd.notSynchronized (fun h => by rw [Bd.returns] at h; cases h) (fun fs hr => retOut X2 hx (t := (.object "java/lang/String")) (w := (.ref a1)) Bd.returns rfl (Or.inr (Or.inr (Or.inr (Or.inr ⟨rfl, rfl, rfl⟩)))) (hb hby own_d16_21) hr) (by rw [e2]; exact ⟨_, _, _, rfl, N2, Kp, Ex, Fv, Fc, Va⟩) (by decide) (by decide)
  · refine own_goW (fun zt zk => (XS.ifYes X2.here hx rfl (pc0 := 12) (pc' := 22) rfl (hb hby own_d16_12) rfl ((if0 _ _).trans (feq (hB : ¬ ((Int32.ofNat s') = (0 : Int32)))).2) (by decide) (by decide) zk)) ?_
    show own_GoW p e below s _ _ _ _ (T2.setTop (mkF m 22 #[rv a1, iv (Int32.ofNat s'), iv (Int32.ofNat xs.length), iv (Int32.ofNat xs.length), .unset] []))
    have hs0 : ¬ (s' = 0) := fun z => hB ((own_eqN (s := 0) (by omega) (by omega)).mpr z)
    refine own_goW (fun zt zk => (XS.iloadN X2.here hx rfl (hb hby own_d16_22) rfl (XS.iloadN X2.here hx rfl (hb hby own_d16_23) rfl (XS.isub X2.here hx rfl (hb hby own_d16_24) rfl zk)))) ?_
    show own_GoW p e below s _ _ _ _ (T2.setTop (mkF m 25 #[rv a1, iv (Int32.ofNat s'), iv (Int32.ofNat xs.length), iv (Int32.ofNat xs.length), .unset] [(.int ((Int32.ofNat xs.length) - (Int32.ofNat s')))]))
    rw [own_subN (by omega) (by omega)]
    show own_GoW p e below s _ _ _ _ (T2.setTop (mkF m 25 #[rv a1, iv (Int32.ofNat s'), iv (Int32.ofNat xs.length), iv (Int32.ofNat xs.length), .unset] [(.int (Int32.ofNat (xs.length - s')))]))
    refine own_goW (fun zt zk => (XS.istore X2.here hx rfl (hb hby own_d16_25) rfl (l' := #[rv a1, iv (Int32.ofNat s'), iv (Int32.ofNat xs.length), iv (Int32.ofNat xs.length), iv (Int32.ofNat (xs.length - s'))]) rfl (XS.aloadN X2.here hx rfl (hb hby own_d16_27) rfl rfl zk))) ?_
    show own_GoW p e below s _ _ _ _ (T2.setTop (mkF m 28 #[rv a1, iv (Int32.ofNat s'), iv (Int32.ofNat xs.length), iv (Int32.ofNat xs.length), iv (Int32.ofNat (xs.length - s'))] [(.ref a1)]))
    obtain ⟨cq3, kq3, qa3, qb3, qc3⟩ := isOf hZ e2 Ex
    obtain ⟨_, _, ⟨T3, L3, k3, n3⟩, -, X3, ⟨Lc3, hQ3, l3, y3, z3⟩, st3⟩ := X2.virtualBack hx (y := (⟨"java/lang/String", "isLatin1", "()Z"⟩ : MethodName)) (z := (⟨"java/lang/String", "isLatin1", "()Z"⟩ : MethodName)) hown (mvT hZ (hw _ (List.mem_of_getElem? (i := 54) rfl))) (mvT hZ (hw _ (List.mem_of_getElem? (i := 55) rfl))) (notFace_of_selects (args := #[]) (mvT hZ (hw _ (List.mem_of_getElem? (i := 57) rfl)))) (mvT hZ (hw _ (List.mem_of_getElem? (i := 57) rfl))) (mvT hZ (hw _ (List.mem_of_getElem? (i := 56) rfl))) (by decide) (backOf (W := 0) (own_risl l Z a0 hw [] a1 cz h0 n0 Z0 O SC Fc hz) hZ (hw _ (List.mem_of_getElem? (i := 58) rfl)) (hw _ (List.mem_of_getElem? (i := 10) rfl)) (by decide) (by decide)) qa3 qc3 (g := (mkF m 28 #[rv a1, iv (Int32.ofNat s'), iv (Int32.ofNat xs.length), iv (Int32.ofNat xs.length), iv (Int32.ofNat (xs.length - s'))] [(.ref a1)])) rfl (by rw [hml]; rfl) (Steps.refl _) (argsL := []) (rest := []) (lenOf own_pd___Z rfl) rfl (by show 2 * 0 + _ ≤ _; exact Nat.le_of_eq rfl) (hb hby own_d16_28) (fun _ _ => ⟨rfl, e2, (by decide : 0 + 0 ≤ _), (by decide : 0 + 0 ≤ _)⟩)
    dsimp only [Pt.U, Pt.locs, Pt.cells, Pt.slots] at X3 l3 y3 z3 st3 hQ3
    subst l3 y3 z3
    obtain ⟨rfl, Nq3, e3⟩ := hQ3
    have N3 := Fr.app N2 Nq3
    refine own_goW (fun zt zk => st3.trans zk) ?_
    show own_GoW p e below s _ _ _ _ (T3.setTop (mkF m 31 #[rv a1, iv (Int32.ofNat s'), iv (Int32.ofNat xs.length), iv (Int32.ofNat xs.length), iv (Int32.ofNat (xs.length - s'))] [(.int (1 : Int32))]))
    refine own_goW (fun zt zk => (XS.ifNo X3.here hx rfl (hb hby own_d16_31) rfl ((if0 _ _).trans (feq ((by decide) : ¬ ((1 : Int32) = (0 : Int32)))).1) (XS.aloadN X3.here hx rfl (hb hby own_d16_34) rfl rfl zk))) ?_
    show own_GoW p e below s _ _ _ _ (T3.setTop (mkF m 35 #[rv a1, iv (Int32.ofNat s'), iv (Int32.ofNat xs.length), iv (Int32.ofNat xs.length), iv (Int32.ofNat (xs.length - s'))] [(.ref a1)]))
    obtain ⟨T4, X4, e4, st4⟩ := getF X3 hx hZ hown (host := "") (Or.inl (hw _ (List.mem_of_getElem? (i := 27) rfl))) Via.refl e3 Fv (g := (mkF m 35 #[rv a1, iv (Int32.ofNat s'), iv (Int32.ofNat xs.length), iv (Int32.ofNat xs.length), iv (Int32.ofNat (xs.length - s'))] [(.ref a1)])) rfl rfl (hb hby own_d16_35)
    refine own_goW st4 ?_
    show own_GoW p e below s _ _ _ _ (T4.setTop (mkF m 38 #[rv a1, iv (Int32.ofNat s'), iv (Int32.ofNat xs.length), iv (Int32.ofNat xs.length), iv (Int32.ofNat (xs.length - s'))] [(.ref t)]))
    refine own_goW (fun zt zk => (XS.iloadN X4.here hx rfl (hb hby own_d16_38) rfl (XS.iload X4.here hx rfl (hb hby own_d16_39) rfl zk))) ?_
    show own_GoW p e below s _ _ _ _ (T4.setTop (mkF m 41 #[rv a1, iv (Int32.ofNat s'), iv (Int32.ofNat xs.length), iv (Int32.ofNat xs.length), iv (Int32.ofNat (xs.length - s'))] [(.int (Int32.ofNat (xs.length - s'))), (.int (Int32.ofNat s')), (.ref t)]))
    obtain ⟨_, _, ⟨T5, L5, k5, n5⟩, -, X5, hSq5, hgq5, ⟨Lc5, hQ5, l5, y5, z5, A5⟩, st5⟩ := callSS X4 hx (y := (⟨"java/lang/StringLatin1", "newString", "([BII)Ljava/lang/String;"⟩ : MethodName)) hown (mvT hZ (hw _ (List.mem_of_getElem? (i := 105) rfl))) (mvT hZ (hw _ (List.mem_of_getElem? (i := 106) rfl))) (mvT hZ (hw _ (List.mem_of_getElem? (i := 61) rfl))) (mvT hZ (hw _ (List.mem_of_getElem? (i := 107) rfl))) (by decide) (own_backW (s := s) (W := 0) (own_rns l Z a0 hw [] t kb xs s' s.vm h0 n0 Z0 Va h5 hsl hs0) hZ (hw _ (List.mem_of_getElem? (i := 107) rfl)) (hw _ (List.mem_of_getElem? (i := 61) rfl)) (by decide) (by decide) hEL Rc.1) (g := (mkF m 41 #[rv a1, iv (Int32.ofNat s'), iv (Int32.ofNat xs.length), iv (Int32.ofNat xs.length), iv (Int32.ofNat (xs.length - s'))] [(.int (Int32.ofNat (xs.length - s'))), (.int (Int32.ofNat s')), (.ref t)])) rfl (by rw [hml]; rfl) (argsL := [(.ref t), (.int (Int32.ofNat s')), (.int (Int32.ofNat (xs.length - s')))]) (rest := []) (lenOf own_pd___BII_Ljava_lang_String_ rfl) rfl (by show 2 * 0 + _ ≤ _; exact Nat.le_of_eq rfl) (hb hby own_d16_41) (fun _ _ => ⟨rfl, e4, (by decide : 0 + 2 ≤ _), (by decide : 0 + 9 ≤ _)⟩)
    dsimp only [Pt.U, Pt.locs, Pt.cells, Pt.slots] at X5 l5 y5 z5 st5 hQ5 hSq5 hgq5 A5
    subst l5 y5 z5
    obtain ⟨X5, hS5, hZ5, hown5⟩ := rebS hS (by rw [e4]; exact hk) X5 hSq5 hgq5 hZ hown
    replace Rc := Rc.trans A5
    replace hS := hS5
    replace hZ := hZ5
    replace hown := hown5
    have hk : T5.heap.size ≤ T5.heap.size := Nat.le_refl _
    obtain ⟨b5, t5, kb5, rfl, Nq5, K5, Ex_b5, Fv5, Fc5, Vt5⟩ := hQ5
    have N5 := Fr.app N3 Nq5
    refine own_goW (fun zt zk => st5.trans zk) ?_
    replace O := O.keep K5 all0
    replace Ex := Ex.keep K5
    replace Fv := Fv.keep K5 nin0
    replace Fc := Fc.keep K5 nin0
    replace Va := Va.keep K5 nin0
    replace Kp := Kp.trans K5 all0
    show own_GoW p e below s _ _ _ _ (T5.setTop (mkF m 44 #[rv a1, iv (Int32.ofNat s'), iv (Int32.ofNat xs.length), iv (Int32.ofNat xs.length), iv (Int32.ofNat (xs.length - s'))] [(.ref b5)]))
    refine own_goW (fun zt zk => (XS.goto X5.here hx rfl (pc0 := 44) (pc' := 57) rfl (hb hby own_d16_44) (by decide) (by decide) zk)) ?_
    show own_GoW p e below s _ _ _ _ (T5.setTop (mkF m 57 #[rv a1, iv (Int32.ofNat s'), iv (Int32.ofNat xs.length), iv (Int32.ofNat xs.length), iv (Int32.ofNat (xs.length - s'))] [(.ref b5)]))
    have Re := Rc.trans (CHv.at X5 hZ hEL Rc.1)
    exact own_finW X5 hS (hk) (by rw [hh]; exact Re) Bd.notSynchronized (fun h => by rw [Bd.returns] at h; cases h) (fun fs hr => retOut X5 hx (t := (.object "java/lang/String")) (w := (.ref b5)) Bd.returns rfl (Or.inr (Or.inr (Or.inr (Or.inr ⟨rfl, rfl, rfl⟩)))) (hb hby own_d16_57) hr) (⟨_, _, _, rfl, N5, Kp, Ex_b5, Fv5, Fc5, Vt5⟩) (by decide) (by decide)
theorem own_d15_0 : decode jdk_42_method_91_code 0 = .ok (.aload_n 0, 1) := by decide +kernel
theorem own_d15_1 : decode jdk_42_method_91_code 1 = .ok (.iload_n 1, 1) := by decide +kernel
theorem own_d15_2 : decode jdk_42_method_91_code 2 = .ok (.aload_n 0, 1) := by decide +kernel
theorem own_d15_3 : decode jdk_42_method_91_code 3 = .ok (.invokevirtual 505, 3) := by decide +kernel
theorem own_d15_6 : decode jdk_42_method_91_code 6 = .ok (.invokevirtual 681, 3) := by decide +kernel
theorem own_pd__II_Ljava_lang_String_ : parseMethodDescriptor "(II)Ljava/lang/String;" = some ⟨[.int, .int], some (.object "java/lang/String")⟩ := by decide +kernel
theorem own_d15_9 : decode jdk_42_method_91_code 9 = .ok (.areturn, 1) := by decide +kernel
theorem own_ef_own_rsu1 (m : MethodId) (a1 : Addr) : entryFrame m #[(.ref a1), (.int (Int32.ofNat s'))] 2 = mkF m 0 #[rv a1, iv (Int32.ofNat s')] [] := by first | (simp [entryFrame, mkF, argsToLocals, Value.category]; done) | rfl
def own_Q_own_rsu1 (Z : State) (a1 : Addr) (cz : Int32) (fm : Value) (t : Addr) (kb : ClassId) (xs : List Int32) (s' : Nat) (h0 : Heap) (n0 : Nat) (v : Option Value) (h : Heap) (L : List Loc) : Prop := ∃ b t2 k2, v = some (.ref b) ∧ Fr n0 L ∧ Keep h0 h [] ∧ Exa Z h b "java/lang/String" ∧ Fld Z h b "java/lang/String" "value" "[B" (.ref t2) ∧ Fld Z h b "java/lang/String" "coder" "B" (.int (0 : Int32)) ∧ Arv Z h t2 k2 .byte (Int32.ofNat (xs.length - s')) ((xs.drop s').map Value.int) (.int (0 : Int32))
set_option maxRecDepth 65536 in
set_option maxHeartbeats 40000000 in
theorem own_rsu1 (l : Launch) (Z : State) (a0 : Array Value) (hw : ∀ d ∈ tables_1, d.before a0 Z = true) (ws : List Jvm.Cond) (a1 : Addr) (cz : Int32) (fm : Value) (t : Addr) (kb : ClassId) (xs : List Int32) (s' : Nat) (vm0 : Vm) (h0 : Heap) (n0 : Nat) (Z0 : n0 ≤ h0.size) (O : Old Z n0 h0) (SC : Sta Z Z.heap "java/lang/String" "COMPACT_STRINGS" "Z" (.int cz)) (SF : Sta Z Z.heap "jdk/internal/util/Preconditions" "SIOOBE_FORMATTER" "Ljava/util/function/BiFunction;" fm) (Ex : Exa Z h0 a1 "java/lang/String") (Fv : Fld Z h0 a1 "java/lang/String" "value" "[B" (.ref t)) (Fc : Fld Z h0 a1 "java/lang/String" "coder" "B" (.int (0 : Int32))) (Va : Arv Z h0 t kb .byte (Int32.ofNat xs.length) (xs.map Value.int) (.int (0 : Int32))) (hz : ¬ (cz = (0 : Int32))) (rfm : fm.isRef = true) (h5 : xs.length ≤ 5) (hsl : s' ≤ xs.length) :
    MetFree l (⟨"java/lang/String", "substring", "(I)Ljava/lang/String;"⟩ : MethodName) (head1 (Jvm.Cond.code (⟨"java/lang/String", "substring", "(I)Ljava/lang/String;"⟩ : MethodName) jdk_42_method_91_code 2 (some (.object "java/lang/String")) :: ws) ({ frames := 5, cells := 2, slots := 9, locals := 94 } : Room)) (fun a U => a = #[(.ref a1), (.int (Int32.ofNat s'))] ∧ Z.Warmed39 U.vm ∧ U.heap = h0 ∧ CHr Z own_EL vm0 h0 U.vm h0) (fun _ _ _ _ _ => True) (fun _ U o U' => ∃ v L, o = .returned v ∧ own_Q_own_rsu1 Z a1 cz fm t kb xs s' h0 n0 v U'.heap L ∧ CHr Z own_EL U.vm U.heap U'.vm U'.heap ∧ ReturnedEndW U o U' L ({ frames := 5, cells := 2, slots := 9, locals := 94 } : Room).cells ({ frames := 5, cells := 2, slots := 9, locals := 94 } : Room).slots) := by
  refine MetFree.of_bodySF (plainFor_of_name own_pn_java_lang_String) hisR ?_
  intro p e s m args below meth c s₁ Bd hml0 hP hK
  obtain ⟨rfl, hZ, hh, hCH⟩ := hP
  have hx := Bd.exec
  have hby := Bd.bytes
  have hml : c.maxLocals = 2 := hml0
  have hown : s.vm.findClass "java/lang/String" = some m.cls := findClass_of_methodNamed Bd.named
  have hnm := (name_of_methodNamed Bd.named Bd.method).1
  have X0 : Stand p l e ({ frames := 5, cells := 2, slots := 9, locals := 94 } : Room) (s.setVm s.vm) m #[(.ref a1), (.int (Int32.ofNat s'))] below meth c s₁ [] 0 0 := Stand.of_body Bd
  have e0 : s₁.heap = h0 := by rw [← hh, Bd.state]; rfl
  have N0 := Fr.nil n0
  have hEL := own_EW Z a0 hw
  have wS := own_wS Z a0 hw
  have hS : s.Since s.vm 0 := (State.WarmedH.refl s).since 0
  have hk : 0 ≤ h0.size := Nat.zero_le _
  have Rc : CHr Z own_EL s.vm h0 s.vm h0 := CHr.refl hCH.1
  have Kp : Keep h0 h0 [] := Keep.refl h0 _
  show own_GoW p e below s Z (own_Q_own_rsu1 Z a1 cz fm t kb xs s' h0 n0) ({ frames := 5, cells := 2, slots := 9, locals := 94 } : Room).cells ({ frames := 5, cells := 2, slots := 9, locals := 94 } : Room).slots (s₁.setTop (entryFrame m #[(.ref a1), (.int (Int32.ofNat s'))] 2))
  refine own_goW (fun zt zk => castTop (own_ef_own_rsu1 m a1) zk) ?_
  show own_GoW p e below s _ _ _ _ (s₁.setTop (mkF m 0 #[rv a1, iv (Int32.ofNat s')] []))
  refine own_goW (fun zt zk => (XS.aloadN X0.here hx rfl (hb hby own_d15_0) rfl rfl (XS.iloadN X0.here hx rfl (hb hby own_d15_1) rfl (XS.aloadN X0.here hx rfl (hb hby own_d15_2) rfl rfl zk)))) ?_
  show own_GoW p e below s _ _ _ _ (s₁.setTop (mkF m 3 #[rv a1, iv (Int32.ofNat s')] [(.ref a1), (.int (Int32.ofNat s')), (.ref a1)]))
  obtain ⟨cq1, kq1, qa1, qb1, qc1⟩ := isOf hZ e0 Ex
  obtain ⟨_, _, ⟨T1, L1, k1, n1⟩, -, X1, ⟨Lc1, hQ1, l1, y1, z1⟩, st1⟩ := X0.virtualBack hx (y := (⟨"java/lang/String", "length", "()I"⟩ : MethodName)) (z := (⟨"java/lang/String", "length", "()I"⟩ : MethodName)) hown (mvT hZ (hw _ (List.mem_of_getElem? (i := 38) rfl))) (mvT hZ (hw _ (List.mem_of_getElem? (i := 39) rfl))) (notFace_of_selects (args := #[]) (mvT hZ (hw _ (List.mem_of_getElem? (i := 41) rfl)))) (mvT hZ (hw _ (List.mem_of_getElem? (i := 41) rfl))) (mvT hZ (hw _ (List.mem_of_getElem? (i := 40) rfl))) (by decide) (backOf (W := 2) (own_rlen l Z a0 hw [] a1 cz t kb (Int32.ofNat xs.length) (xs.map Value.int) h0 n0 Z0 O SC Ex Fv Fc Va hz) hZ (hw _ (List.mem_of_getElem? (i := 42) rfl)) (hw _ (List.mem_of_getElem? (i := 10) rfl)) (by decide) (by decide)) qa1 qc1 (g := (mkF m 3 #[rv a1, iv (Int32.ofNat s')] [(.ref a1), (.int (Int32.ofNat s')), (.ref a1)])) rfl (by rw [hml]; rfl) (Steps.refl _) (argsL := []) (rest := [(.int (Int32.ofNat s')), (.ref a1)]) (lenOf own_pd___I rfl) rfl (by show 2 * 0 + _ ≤ _; exact Nat.le_of_eq rfl) (hb hby own_d15_3) (fun _ _ => ⟨rfl, e0, (by decide : 0 + 0 ≤ _), (by decide : 0 + 0 ≤ _)⟩)
  dsimp only [Pt.U, Pt.locs, Pt.cells, Pt.slots] at X1 l1 y1 z1 st1 hQ1
  subst l1 y1 z1
  obtain ⟨rfl, Nq1, e1⟩ := hQ1
  have N1 := Fr.app N0 Nq1
  refine own_goW (fun zt zk => st1.trans zk) ?_
  show own_GoW p e below s _ _ _ _ (T1.setTop (mkF m 6 #[rv a1, iv (Int32.ofNat s')] [(.int (Int32.ofNat xs.length)), (.int (Int32.ofNat s')), (.ref a1)]))
  obtain ⟨cq2, kq2, qa2, qb2, qc2⟩ := isOf hZ e1 Ex
  obtain ⟨_, _, ⟨T2, L2, k2, n2⟩, -, X2, hSq2, hgq2, ⟨Lc2, hQ2, l2, y2, z2, A2⟩, st2⟩ := X1.virtualBackS hx (y := (⟨"java/lang/String", "substring", "(II)Ljava/lang/String;"⟩ : MethodName)) (z := (⟨"java/lang/String", "substring", "(II)Ljava/lang/String;"⟩ : MethodName)) hown (mvT hZ (hw _ (List.mem_of_getElem? (i := 75) rfl))) (mvT hZ (hw _ (List.mem_of_getElem? (i := 76) rfl))) (notFace_of_selects (args := #[]) (mvT hZ (hw _ (List.mem_of_getElem? (i := 78) rfl)))) (mvT hZ (hw _ (List.mem_of_getElem? (i := 78) rfl))) (mvT hZ (hw _ (List.mem_of_getElem? (i := 77) rfl))) (by decide) (own_backW (s := s) (W := 0) (own_rsu2 l Z a0 hw [] a1 cz fm t kb xs s' s.vm h0 n0 Z0 O SC SF Ex Fv Fc Va hz rfm h5 hsl) hZ (hw _ (List.mem_of_getElem? (i := 79) rfl)) (hw _ (List.mem_of_getElem? (i := 10) rfl)) (by decide) (by decide) hEL Rc.1) qa2 qc2 (g := (mkF m 6 #[rv a1, iv (Int32.ofNat s')] [(.int (Int32.ofNat xs.length)), (.int (Int32.ofNat s')), (.ref a1)])) rfl (by rw [hml]; rfl) (Steps.refl _) (argsL := [(.int (Int32.ofNat s')), (.int (Int32.ofNat xs.length))]) (rest := []) (lenOf own_pd__II_Ljava_lang_String_ rfl) rfl (by show 2 * 0 + _ ≤ _; exact Nat.le_of_eq rfl) (hb hby own_d15_6) (fun _ _ => ⟨rfl, e1, (by decide : 0 + 2 ≤ _), (by decide : 0 + 9 ≤ _)⟩)
  dsimp only [Pt.U, Pt.locs, Pt.cells, Pt.slots] at X2 l2 y2 z2 st2 hQ2 hSq2 hgq2 A2
  subst l2 y2 z2
  obtain ⟨X2, hS2, hZ2, hown2⟩ := rebS hS (by rw [e1]; exact hk) X2 hSq2 hgq2 hZ hown
  replace Rc := Rc.trans A2
  replace hS := hS2
  replace hZ := hZ2
  replace hown := hown2
  have hk : T2.heap.size ≤ T2.heap.size := Nat.le_refl _
  obtain ⟨b2, t2, kb2, rfl, Nq2, K2, Ex_b2, Fv2, Fc2, Vt2⟩ := hQ2
  have N2 := Fr.app N1 Nq2
  refine own_goW (fun zt zk => st2.trans zk) ?_
  replace O := O.keep K2 all0
  replace Ex := Ex.keep K2
  replace Fv := Fv.keep K2 nin0
  replace Fc := Fc.keep K2 nin0
  replace Va := Va.keep K2 nin0
  replace Kp := Kp.trans K2 all0
  show own_GoW p e below s _ _ _ _ (T2.setTop (mkF m 9 #[rv a1, iv (Int32.ofNat s')] [(.ref b2)]))
  have Re := Rc.trans (CHv.at X2 hZ hEL Rc.1)
  exact own_finW X2 hS (hk) (by rw [hh]; exact Re) Bd.notSynchronized (fun h => by rw [Bd.returns] at h; cases h) (fun fs hr => retOut X2 hx (t := (.object "java/lang/String")) (w := (.ref b2)) Bd.returns rfl (Or.inr (Or.inr (Or.inr (Or.inr ⟨rfl, rfl, rfl⟩)))) (hb hby own_d15_9) hr) (⟨_, _, _, rfl, N2, Kp, Ex_b2, Fv2, Fc2, Vt2⟩) (by decide) (by decide)
theorem own_d6_0 : decode prog_23_method_3_code 0 = .ok (.aload_n 0, 1) := by decide +kernel
theorem own_d6_1 : decode prog_23_method_3_code 1 = .ok (.bipush 35, 2) := by decide +kernel
theorem own_d6_3 : decode prog_23_method_3_code 3 = .ok (.invokevirtual 94, 3) := by decide +kernel
theorem own_pd__I_I : parseMethodDescriptor "(I)I" = some ⟨[.int], some .int⟩ := by decide +kernel
theorem own_d6_6 : decode prog_23_method_3_code 6 = .ok (.istore_n 1, 1) := by decide +kernel
theorem own_d6_7 : decode prog_23_method_3_code 7 = .ok (.iload_n 1, 1) := by decide +kernel
theorem own_d6_8 : decode prog_23_method_3_code 8 = .ok (.ifCond .lt 7, 3) := by decide +kernel
theorem own_d6_15 : decode prog_23_method_3_code 15 = .ok (.aload_n 0, 1) := by decide +kernel
theorem own_d6_16 : decode prog_23_method_3_code 16 = .ok (.bipush 47, 2) := by decide +kernel
theorem own_d6_18 : decode prog_23_method_3_code 18 = .ok (.invokevirtual 94, 3) := by decide +kernel
theorem own_d6_21 : decode prog_23_method_3_code 21 = .ok (.istore_n 2, 1) := by decide +kernel
theorem own_d6_22 : decode prog_23_method_3_code 22 = .ok (.aload_n 0, 1) := by decide +kernel
theorem own_d6_23 : decode prog_23_method_3_code 23 = .ok (.iload_n 2, 1) := by decide +kernel
theorem own_d6_24 : decode prog_23_method_3_code 24 = .ok (.iconst 1, 1) := by decide +kernel
theorem own_d6_25 : decode prog_23_method_3_code 25 = .ok (.iadd, 1) := by decide +kernel
theorem own_d6_26 : decode prog_23_method_3_code 26 = .ok (.invokevirtual 98, 3) := by decide +kernel
theorem own_pd__I_Ljava_lang_String_ : parseMethodDescriptor "(I)Ljava/lang/String;" = some ⟨[.int], some (.object "java/lang/String")⟩ := by decide +kernel
theorem own_d6_29 : decode prog_23_method_3_code 29 = .ok (.areturn, 1) := by decide +kernel
theorem own_d6_11 : decode prog_23_method_3_code 11 = .ok (.iload_n 1, 1) := by decide +kernel
theorem own_d6_12 : decode prog_23_method_3_code 12 = .ok (.goto 9, 3) := by decide +kernel
theorem own_pn_com_example_boxwright_boxwright_TableNames : plainName "com/example/boxwright/boxwright/TableNames" = true := by first | (simp [plainName, overriddenIn]; done) | decide +kernel
theorem own_ef_own_rln (m : MethodId) (a1 : Addr) : entryFrame m #[(.ref a1)] 3 = mkF m 0 #[rv a1, .unset, .unset] [] := by first | (simp [entryFrame, mkF, argsToLocals, Value.category]; done) | rfl
def own_Q_own_rln (Z : State) (a1 : Addr) (cz : Int32) (fm : Value) (t : Addr) (kb : ClassId) (xs : List Int32) (s' : Nat) (h0 : Heap) (n0 : Nat) (v : Option Value) (h : Heap) (L : List Loc) : Prop := ∃ b t2 k2, v = some (.ref b) ∧ Fr n0 L ∧ Keep h0 h [] ∧ Exa Z h b "java/lang/String" ∧ Fld Z h b "java/lang/String" "value" "[B" (.ref t2) ∧ Fld Z h b "java/lang/String" "coder" "B" (.int (0 : Int32)) ∧ Arv Z h t2 k2 .byte (Int32.ofNat (xs.length - s')) ((xs.drop s').map Value.int) (.int (0 : Int32))
set_option maxRecDepth 65536 in
set_option maxHeartbeats 40000000 in
theorem own_rln (l : Launch) (Z : State) (a0 : Array Value) (hw : ∀ d ∈ tables_1, d.before a0 Z = true) (ws : List Jvm.Cond) (a1 : Addr) (cz : Int32) (fm : Value) (t : Addr) (kb : ClassId) (xs : List Int32) (s' : Nat) (vm0 : Vm) (h0 : Heap) (n0 : Nat) (Z0 : n0 ≤ h0.size) (O : Old Z n0 h0) (SC : Sta Z Z.heap "java/lang/String" "COMPACT_STRINGS" "Z" (.int cz)) (SF : Sta Z Z.heap "jdk/internal/util/Preconditions" "SIOOBE_FORMATTER" "Ljava/util/function/BiFunction;" fm) (Ex : Exa Z h0 a1 "java/lang/String") (Fv : Fld Z h0 a1 "java/lang/String" "value" "[B" (.ref t)) (Fc : Fld Z h0 a1 "java/lang/String" "coder" "B" (.int (0 : Int32))) (Va : Arv Z h0 t kb .byte (Int32.ofNat xs.length) (xs.map Value.int) (.int (0 : Int32))) (hz : ¬ (cz = (0 : Int32))) (rfm : fm.isRef = true) (h5 : xs.length ≤ 5) (hsl : s' ≤ xs.length) (hs' : own_cut xs xs.length + (1 : Int32) = (Int32.ofNat s')) :
    MetFree l (⟨"com/example/boxwright/boxwright/TableNames", "localName", "(Ljava/lang/String;)Ljava/lang/String;"⟩ : MethodName) (head1 (Jvm.Cond.code (⟨"com/example/boxwright/boxwright/TableNames", "localName", "(Ljava/lang/String;)Ljava/lang/String;"⟩ : MethodName) prog_23_method_3_code 3 (some (.object "java/lang/String")) :: ws) ({ frames := 6, cells := 2, slots := 9, locals := 107 } : Room)) (fun a U => a = #[(.ref a1)] ∧ Z.Warmed39 U.vm ∧ U.heap = h0 ∧ CHr Z own_EL vm0 h0 U.vm h0) (fun _ _ _ _ _ => True) (fun _ U o U' => ∃ v L, o = .returned v ∧ own_Q_own_rln Z a1 cz fm t kb xs s' h0 n0 v U'.heap L ∧ CHr Z own_EL U.vm U.heap U'.vm U'.heap ∧ ReturnedEndW U o U' L ({ frames := 6, cells := 2, slots := 9, locals := 107 } : Room).cells ({ frames := 6, cells := 2, slots := 9, locals := 107 } : Room).slots) := by
  refine MetFree.of_bodySF (plainFor_of_name own_pn_com_example_boxwright_boxwright_TableNames) hisR ?_
  intro p e s m args below meth c s₁ Bd hml0 hP hK
  obtain ⟨rfl, hZ, hh, hCH⟩ := hP
  have hx := Bd.exec
  have hby := Bd.bytes
  have hml : c.maxLocals = 3 := hml0
  have hown : s.vm.findClass "com/example/boxwright/boxwright/TableNames" = some m.cls := findClass_of_methodNamed Bd.named
  have hnm := (name_of_methodNamed Bd.named Bd.method).1
  have X0 : Stand p l e ({ frames := 6, cells := 2, slots := 9, locals := 107 } : Room) (s.setVm s.vm) m #[(.ref a1)] below meth c s₁ [] 0 0 := Stand.of_body Bd
  have e0 : s₁.heap = h0 := by rw [← hh, Bd.state]; rfl
  have N0 := Fr.nil n0
  have hEL := own_EW Z a0 hw
  have wS := own_wS Z a0 hw
  have hS : s.Since s.vm 0 := (State.WarmedH.refl s).since 0
  have hk : 0 ≤ h0.size := Nat.zero_le _
  have Rc : CHr Z own_EL s.vm h0 s.vm h0 := CHr.refl hCH.1
  have Kp : Keep h0 h0 [] := Keep.refl h0 _
  show own_GoW p e below s Z (own_Q_own_rln Z a1 cz fm t kb xs s' h0 n0) ({ frames := 6, cells := 2, slots := 9, locals := 107 } : Room).cells ({ frames := 6, cells := 2, slots := 9, locals := 107 } : Room).slots (s₁.setTop (entryFrame m #[(.ref a1)] 3))
  refine own_goW (fun zt zk => castTop (own_ef_own_rln m a1) zk) ?_
  show own_GoW p e below s _ _ _ _ (s₁.setTop (mkF m 0 #[rv a1, .unset, .unset] []))
  refine own_goW (fun zt zk => (XS.aloadN X0.here hx rfl (hb hby own_d6_0) rfl rfl (XS.bipush X0.here hx rfl (hb hby own_d6_1) zk))) ?_
  show own_GoW p e below s _ _ _ _ (s₁.setTop (mkF m 3 #[rv a1, .unset, .unset] [(.int (35 : Int32)), (.ref a1)]))
  obtain ⟨cq1, kq1, qa1, qb1, qc1⟩ := isOf hZ e0 Ex
  obtain ⟨_, _, ⟨T1, L1, k1, n1⟩, -, X1, ⟨Lc1, hQ1, l1, y1, z1⟩, st1⟩ := X0.virtualBack hx (y := (⟨"java/lang/String", "lastIndexOf", "(I)I"⟩ : MethodName)) (z := (⟨"java/lang/String", "lastIndexOf", "(I)I"⟩ : MethodName)) hown (mvT hZ (hw _ (List.mem_of_getElem? (i := 33) rfl))) (mvT hZ (hw _ (List.mem_of_getElem? (i := 34) rfl))) (notFace_of_selects (args := #[]) (mvT hZ (hw _ (List.mem_of_getElem? (i := 36) rfl)))) (mvT hZ (hw _ (List.mem_of_getElem? (i := 36) rfl))) (mvT hZ (hw _ (List.mem_of_getElem? (i := 35) rfl))) (by decide) (backOf (W := 0) (own_rls135 l Z a0 hw [] a1 cz t kb xs h0 n0 Z0 O SC Ex Fv Fc Va hz h5) hZ (hw _ (List.mem_of_getElem? (i := 37) rfl)) (hw _ (List.mem_of_getElem? (i := 10) rfl)) (by decide) (by decide)) qa1 qc1 (g := (mkF m 3 #[rv a1, .unset, .unset] [(.int (35 : Int32)), (.ref a1)])) rfl (by rw [hml]; rfl) (Steps.refl _) (argsL := [(.int (35 : Int32))]) (rest := []) (lenOf own_pd__I_I rfl) rfl (by show 2 * 0 + _ ≤ _; exact Nat.le_of_eq rfl) (hb hby own_d6_3) (fun _ _ => ⟨rfl, e0, (by decide : 0 + 0 ≤ _), (by decide : 0 + 0 ≤ _)⟩)
  dsimp only [Pt.U, Pt.locs, Pt.cells, Pt.slots] at X1 l1 y1 z1 st1 hQ1
  subst l1 y1 z1
  obtain ⟨rfl, Nq1, e1⟩ := hQ1
  have N1 := Fr.app N0 Nq1
  refine own_goW (fun zt zk => st1.trans zk) ?_
  show own_GoW p e below s _ _ _ _ (T1.setTop (mkF m 6 #[rv a1, .unset, .unset] [(.int (own_la xs (35 : Int32) xs.length))]))
  refine own_goW (fun zt zk => (XS.istoreN X1.here hx rfl (hb hby own_d6_6) rfl (l' := #[rv a1, iv (own_la xs (35 : Int32) xs.length), .unset]) rfl (XS.iloadN X1.here hx rfl (hb hby own_d6_7) rfl zk))) ?_
  show own_GoW p e below s _ _ _ _ (T1.setTop (mkF m 8 #[rv a1, iv (own_la xs (35 : Int32) xs.length), .unset] [(.int (own_la xs (35 : Int32) xs.length))]))
  by_cases hB : (own_la xs (35 : Int32) xs.length) < (0 : Int32)
  · refine own_goW (fun zt zk => (XS.ifYes X1.here hx rfl (pc0 := 8) (pc' := 15) rfl (hb hby own_d6_8) rfl ((if0 _ _).trans (tlt (hB : (own_la xs (35 : Int32) xs.length) < (0 : Int32))).1) (by decide) (by decide) (XS.aloadN X1.here hx rfl (hb hby own_d6_15) rfl rfl (XS.bipush X1.here hx rfl (hb hby own_d6_16) zk)))) ?_
    show own_GoW p e below s _ _ _ _ (T1.setTop (mkF m 18 #[rv a1, iv (own_la xs (35 : Int32) xs.length), .unset] [(.int (47 : Int32)), (.ref a1)]))
    obtain ⟨cq2, kq2, qa2, qb2, qc2⟩ := isOf hZ e1 Ex
    obtain ⟨_, _, ⟨T2, L2, k2, n2⟩, -, X2, ⟨Lc2, hQ2, l2, y2, z2⟩, st2⟩ := X1.virtualBack hx (y := (⟨"java/lang/String", "lastIndexOf", "(I)I"⟩ : MethodName)) (z := (⟨"java/lang/String", "lastIndexOf", "(I)I"⟩ : MethodName)) hown (mvT hZ (hw _ (List.mem_of_getElem? (i := 33) rfl))) (mvT hZ (hw _ (List.mem_of_getElem? (i := 34) rfl))) (notFace_of_selects (args := #[]) (mvT hZ (hw _ (List.mem_of_getElem? (i := 36) rfl)))) (mvT hZ (hw _ (List.mem_of_getElem? (i := 36) rfl))) (mvT hZ (hw _ (List.mem_of_getElem? (i := 35) rfl))) (by decide) (backOf (W := 0) (own_rls147 l Z a0 hw [] a1 cz t kb xs h0 n0 Z0 O SC Ex Fv Fc Va hz h5) hZ (hw _ (List.mem_of_getElem? (i := 37) rfl)) (hw _ (List.mem_of_getElem? (i := 10) rfl)) (by decide) (by decide)) qa2 qc2 (g := (mkF m 18 #[rv a1, iv (own_la xs (35 : Int32) xs.length), .unset] [(.int (47 : Int32)), (.ref a1)])) rfl (by rw [hml]; rfl) (Steps.refl _) (argsL := [(.int (47 : Int32))]) (rest := []) (lenOf own_pd__I_I rfl) rfl (by show 2 * 0 + _ ≤ _; exact Nat.le_of_eq rfl) (hb hby own_d6_18) (fun _ _ => ⟨rfl, e1, (by decide : 0 + 0 ≤ _), (by decide : 0 + 0 ≤ _)⟩)
    dsimp only [Pt.U, Pt.locs, Pt.cells, Pt.slots] at X2 l2 y2 z2 st2 hQ2
    subst l2 y2 z2
    obtain ⟨rfl, Nq2, e2⟩ := hQ2
    have N2 := Fr.app N1 Nq2
    refine own_goW (fun zt zk => st2.trans zk) ?_
    show own_GoW p e below s _ _ _ _ (T2.setTop (mkF m 21 #[rv a1, iv (own_la xs (35 : Int32) xs.length), .unset] [(.int (own_la xs (47 : Int32) xs.length))]))
    refine own_goW (fun zt zk => (XS.istoreN X2.here hx rfl (hb hby own_d6_21) rfl (l' := #[rv a1, iv (own_la xs (35 : Int32) xs.length), iv (own_la xs (47 : Int32) xs.length)]) rfl (XS.aloadN X2.here hx rfl (hb hby own_d6_22) rfl rfl (XS.iloadN X2.here hx rfl (hb hby own_d6_23) rfl (XS.iconst X2.here hx rfl (hb hby own_d6_24) (XS.iadd X2.here hx rfl (hb hby own_d6_25) rfl zk)))))) ?_
    show own_GoW p e below s _ _ _ _ (T2.setTop (mkF m 26 #[rv a1, iv (own_la xs (35 : Int32) xs.length), iv (own_la xs (47 : Int32) xs.length)] [(.int ((own_la xs (47 : Int32) xs.length) + (1 : Int32))), (.ref a1)]))
    rw [show (own_la xs (47 : Int32) xs.length) = own_cut xs xs.length from (if_pos hB).symm, hs']
    show own_GoW p e below s _ _ _ _ (T2.setTop (mkF m 26 #[rv a1, iv (own_la xs (35 : Int32) xs.length), iv (own_cut xs xs.length)] [(.int (Int32.ofNat s')), (.ref a1)]))
    obtain ⟨cq3, kq3, qa3, qb3, qc3⟩ := isOf hZ e2 Ex
    obtain ⟨_, _, ⟨T3, L3, k3, n3⟩, -, X3, hSq3, hgq3, ⟨Lc3, hQ3, l3, y3, z3, A3⟩, st3⟩ := X2.virtualBackS hx (y := (⟨"java/lang/String", "substring", "(I)Ljava/lang/String;"⟩ : MethodName)) (z := (⟨"java/lang/String", "substring", "(I)Ljava/lang/String;"⟩ : MethodName)) hown (mvT hZ (hw _ (List.mem_of_getElem? (i := 70) rfl))) (mvT hZ (hw _ (List.mem_of_getElem? (i := 71) rfl))) (notFace_of_selects (args := #[]) (mvT hZ (hw _ (List.mem_of_getElem? (i := 73) rfl)))) (mvT hZ (hw _ (List.mem_of_getElem? (i := 73) rfl))) (mvT hZ (hw _ (List.mem_of_getElem? (i := 72) rfl))) (by decide) (own_backW (s := s) (W := 0) (own_rsu1 l Z a0 hw [] a1 cz fm t kb xs s' s.vm h0 n0 Z0 O SC SF Ex Fv Fc Va hz rfm h5 hsl) hZ (hw _ (List.mem_of_getElem? (i := 74) rfl)) (hw _ (List.mem_of_getElem? (i := 10) rfl)) (by decide) (by decide) hEL Rc.1) qa3 qc3 (g := (mkF m 26 #[rv a1, iv (own_la xs (35 : Int32) xs.length), iv (own_cut xs xs.length)] [(.int (Int32.ofNat s')), (.ref a1)])) rfl (by rw [hml]; rfl) (Steps.refl _) (argsL := [(.int (Int32.ofNat s'))]) (rest := []) (lenOf own_pd__I_Ljava_lang_String_ rfl) rfl (by show 2 * 0 + _ ≤ _; exact Nat.le_of_eq rfl) (hb hby own_d6_26) (fun _ _ => ⟨rfl, e2, (by decide : 0 + 2 ≤ _), (by decide : 0 + 9 ≤ _)⟩)
    dsimp only [Pt.U, Pt.locs, Pt.cells, Pt.slots] at X3 l3 y3 z3 st3 hQ3 hSq3 hgq3 A3
    subst l3 y3 z3
    obtain ⟨X3, hS3, hZ3, hown3⟩ := rebS hS (by rw [e2]; exact hk) X3 hSq3 hgq3 hZ hown
    replace Rc := Rc.trans A3
    replace hS := hS3
    replace hZ := hZ3
    replace hown := hown3
    have hk : T3.heap.size ≤ T3.heap.size := Nat.le_refl _
    obtain ⟨b3, t3, kb3, rfl, Nq3, K3, Ex_b3, Fv3, Fc3, Vt3⟩ := hQ3
    have N3 := Fr.app N2 Nq3
    refine own_goW (fun zt zk => st3.trans zk) ?_
    replace O := O.keep K3 all0
    replace Ex := Ex.keep K3
    replace Fv := Fv.keep K3 nin0
    replace Fc := Fc.keep K3 nin0
    replace Va := Va.keep K3 nin0
    replace Kp := Kp.trans K3 all0
    show own_GoW p e below s _ _ _ _ (T3.setTop (mkF m 29 #[rv a1, iv (own_la xs (35 : Int32) xs.length), iv (own_cut xs xs.length)] [(.ref b3)]))
    have Re := Rc.trans (CHv.at X3 hZ hEL Rc.1)
    exact own_finW X3 hS (hk) (by rw [hh]; exact Re) Bd.notSynchronized (fun h => by rw [Bd.returns] at h; cases h) (fun fs hr => retOut X3 hx (t := (.object "java/lang/String")) (w := (.ref b3)) Bd.returns rfl (Or.inr (Or.inr (Or.inr (Or.inr ⟨rfl, rfl, rfl⟩)))) (hb hby own_d6_29) hr) (⟨_, _, _, rfl, N3, Kp, Ex_b3, Fv3, Fc3, Vt3⟩) (by decide) (by decide)
  · refine own_goW (fun zt zk => (XS.ifNo X1.here hx rfl (hb hby own_d6_8) rfl ((if0 _ _).trans (flt (hB : ¬ ((own_la xs (35 : Int32) xs.length) < (0 : Int32)))).1) (XS.iloadN X1.here hx rfl (hb hby own_d6_11) rfl (XS.goto X1.here hx rfl (pc0 := 12) (pc' := 21) rfl (hb hby own_d6_12) (by decide) (by decide) (XS.istoreN X1.here hx rfl (hb hby own_d6_21) rfl (l' := #[rv a1, iv (own_la xs (35 : Int32) xs.length), iv (own_la xs (35 : Int32) xs.length)]) rfl (XS.aloadN X1.here hx rfl (hb hby own_d6_22) rfl rfl (XS.iloadN X1.here hx rfl (hb hby own_d6_23) rfl (XS.iconst X1.here hx rfl (hb hby own_d6_24) (XS.iadd X1.here hx rfl (hb hby own_d6_25) rfl zk))))))))) ?_
    show own_GoW p e below s _ _ _ _ (T1.setTop (mkF m 26 #[rv a1, iv (own_la xs (35 : Int32) xs.length), iv (own_la xs (35 : Int32) xs.length)] [(.int ((own_la xs (35 : Int32) xs.length) + (1 : Int32))), (.ref a1)]))
    rw [show (own_la xs (35 : Int32) xs.length) = own_cut xs xs.length from (if_neg hB).symm, hs']
    show own_GoW p e below s _ _ _ _ (T1.setTop (mkF m 26 #[rv a1, iv (own_cut xs xs.length), iv (own_cut xs xs.length)] [(.int (Int32.ofNat s')), (.ref a1)]))
    obtain ⟨cq4, kq4, qa4, qb4, qc4⟩ := isOf hZ e1 Ex
    obtain ⟨_, _, ⟨T4, L4, k4, n4⟩, -, X4, hSq4, hgq4, ⟨Lc4, hQ4, l4, y4, z4, A4⟩, st4⟩ := X1.virtualBackS hx (y := (⟨"java/lang/String", "substring", "(I)Ljava/lang/String;"⟩ : MethodName)) (z := (⟨"java/lang/String", "substring", "(I)Ljava/lang/String;"⟩ : MethodName)) hown (mvT hZ (hw _ (List.mem_of_getElem? (i := 70) rfl))) (mvT hZ (hw _ (List.mem_of_getElem? (i := 71) rfl))) (notFace_of_selects (args := #[]) (mvT hZ (hw _ (List.mem_of_getElem? (i := 73) rfl)))) (mvT hZ (hw _ (List.mem_of_getElem? (i := 73) rfl))) (mvT hZ (hw _ (List.mem_of_getElem? (i := 72) rfl))) (by decide) (own_backW (s := s) (W := 0) (own_rsu1 l Z a0 hw [] a1 cz fm t kb xs s' s.vm h0 n0 Z0 O SC SF Ex Fv Fc Va hz rfm h5 hsl) hZ (hw _ (List.mem_of_getElem? (i := 74) rfl)) (hw _ (List.mem_of_getElem? (i := 10) rfl)) (by decide) (by decide) hEL Rc.1) qa4 qc4 (g := (mkF m 26 #[rv a1, iv (own_cut xs xs.length), iv (own_cut xs xs.length)] [(.int (Int32.ofNat s')), (.ref a1)])) rfl (by rw [hml]; rfl) (Steps.refl _) (argsL := [(.int (Int32.ofNat s'))]) (rest := []) (lenOf own_pd__I_Ljava_lang_String_ rfl) rfl (by show 2 * 0 + _ ≤ _; exact Nat.le_of_eq rfl) (hb hby own_d6_26) (fun _ _ => ⟨rfl, e1, (by decide : 0 + 2 ≤ _), (by decide : 0 + 9 ≤ _)⟩)
    dsimp only [Pt.U, Pt.locs, Pt.cells, Pt.slots] at X4 l4 y4 z4 st4 hQ4 hSq4 hgq4 A4
    subst l4 y4 z4
    obtain ⟨X4, hS4, hZ4, hown4⟩ := rebS hS (by rw [e1]; exact hk) X4 hSq4 hgq4 hZ hown
    replace Rc := Rc.trans A4
    replace hS := hS4
    replace hZ := hZ4
    replace hown := hown4
    have hk : T4.heap.size ≤ T4.heap.size := Nat.le_refl _
    obtain ⟨b4, t4, kb4, rfl, Nq4, K4, Ex_b4, Fv4, Fc4, Vt4⟩ := hQ4
    have N4 := Fr.app N1 Nq4
    refine own_goW (fun zt zk => st4.trans zk) ?_
    replace O := O.keep K4 all0
    replace Ex := Ex.keep K4
    replace Fv := Fv.keep K4 nin0
    replace Fc := Fc.keep K4 nin0
    replace Va := Va.keep K4 nin0
    replace Kp := Kp.trans K4 all0
    show own_GoW p e below s _ _ _ _ (T4.setTop (mkF m 29 #[rv a1, iv (own_cut xs xs.length), iv (own_cut xs xs.length)] [(.ref b4)]))
    have Re := Rc.trans (CHv.at X4 hZ hEL Rc.1)
    exact own_finW X4 hS (hk) (by rw [hh]; exact Re) Bd.notSynchronized (fun h => by rw [Bd.returns] at h; cases h) (fun fs hr => retOut X4 hx (t := (.object "java/lang/String")) (w := (.ref b4)) Bd.returns rfl (Or.inr (Or.inr (Or.inr (Or.inr ⟨rfl, rfl, rfl⟩)))) (hb hby own_d6_29) hr) (⟨_, _, _, rfl, N4, Kp, Ex_b4, Fv4, Fc4, Vt4⟩) (by decide) (by decide)
theorem own_d1_0 : decode method_3_code 0 = .ok (.iload_n 0, 1) := by decide +kernel
theorem own_d1_1 : decode method_3_code 1 = .ok (.iconst 3, 1) := by decide +kernel
theorem own_d1_2 : decode method_3_code 2 = .ok (.iand, 1) := by decide +kernel
theorem own_d1_3 : decode method_3_code 3 = .ok (.istore_n 1, 1) := by decide +kernel
theorem own_d1_4 : decode method_3_code 4 = .ok (.iload_n 1, 1) := by decide +kernel
theorem own_d1_5 : decode method_3_code 5 = .ok (.ifCond .ne 6, 3) := by decide +kernel
theorem own_d1_8 : decode method_3_code 8 = .ok (.bipush 35, 2) := by decide +kernel
theorem own_d1_10 : decode method_3_code 10 = .ok (.ireturn, 1) := by decide +kernel
theorem own_d1_11 : decode method_3_code 11 = .ok (.iload_n 1, 1) := by decide +kernel
theorem own_d1_12 : decode method_3_code 12 = .ok (.iconst 1, 1) := by decide +kernel
theorem own_d1_13 : decode method_3_code 13 = .ok (.if_icmp .ne 6, 3) := by decide +kernel
theorem own_d1_16 : decode method_3_code 16 = .ok (.bipush 47, 2) := by decide +kernel
theorem own_d1_18 : decode method_3_code 18 = .ok (.ireturn, 1) := by decide +kernel
theorem own_d1_19 : decode method_3_code 19 = .ok (.iload_n 0, 1) := by decide +kernel
theorem own_d1_20 : decode method_3_code 20 = .ok (.iconst 2, 1) := by decide +kernel
theorem own_d1_21 : decode method_3_code 21 = .ok (.iushr, 1) := by decide +kernel
theorem own_d1_22 : decode method_3_code 22 = .ok (.sipush 255, 3) := by decide +kernel
theorem own_d1_25 : decode method_3_code 25 = .ok (.iand, 1) := by decide +kernel
theorem own_d1_26 : decode method_3_code 26 = .ok (.i2c, 1) := by decide +kernel
theorem own_d1_27 : decode method_3_code 27 = .ok (.ireturn, 1) := by decide +kernel
theorem own_pn_com_example_boxwright_boxwright_TableNamesLocalNamePinLaw : plainName "com/example/boxwright/boxwright/TableNamesLocalNamePinLaw" = true := by first | (simp [plainName, overriddenIn]; done) | decide +kernel
theorem own_ef_own_rpick (m : MethodId) (p1 : Int32) : entryFrame m #[(.int p1)] 2 = mkF m 0 #[iv p1, .unset] [] := by first | (simp [entryFrame, mkF, argsToLocals, Value.category]; done) | rfl
def own_Q_own_rpick (Z : State) (p1 : Int32) (h0 : Heap) (n0 : Nat) (v : Option Value) (h : Heap) (L : List Loc) : Prop := ∃ c, v = some (.int c) ∧ Fr n0 L ∧ h = h0 ∧ (¬ (c < (0 : Int32)) ∧ ¬ ((255 : Int32) < c))
set_option maxRecDepth 65536 in
set_option maxHeartbeats 40000000 in
theorem own_rpick (l : Launch) (Z : State) (a0 : Array Value) (hw : ∀ d ∈ tables_1, d.before a0 Z = true) (ws : List Jvm.Cond) (p1 : Int32) (h0 : Heap) (n0 : Nat) (Z0 : n0 ≤ h0.size)   :
    MetFree l (⟨"com/example/boxwright/boxwright/TableNamesLocalNamePinLaw", "pick", "(I)C"⟩ : MethodName) (head1 (Jvm.Cond.code (⟨"com/example/boxwright/boxwright/TableNamesLocalNamePinLaw", "pick", "(I)C"⟩ : MethodName) method_3_code 2 (some .char) :: ws) ({ frames := 0, cells := 0, slots := 0, locals := 0 } : Room)) (fun a U => a = #[(.int p1)] ∧ Z.Warmed39 U.vm ∧ U.heap = h0) (fun _ _ _ _ _ => True) (fun _ U o U' => ∃ v L, o = .returned v ∧ own_Q_own_rpick Z p1 h0 n0 v U'.heap L ∧ FrameEnd U o U' L ({ frames := 0, cells := 0, slots := 0, locals := 0 } : Room).cells ({ frames := 0, cells := 0, slots := 0, locals := 0 } : Room).slots) := by
  refine MetFree.of_bodySF (plainFor_of_name own_pn_com_example_boxwright_boxwright_TableNamesLocalNamePinLaw) hisR ?_
  intro p e s m args below meth c s₁ Bd hml0 hP hK
  obtain ⟨rfl, hZ, hh⟩ := hP
  have hx := Bd.exec
  have hby := Bd.bytes
  have hml : c.maxLocals = 2 := hml0
  have hown : s.vm.findClass "com/example/boxwright/boxwright/TableNamesLocalNamePinLaw" = some m.cls := findClass_of_methodNamed Bd.named
  have hnm := (name_of_methodNamed Bd.named Bd.method).1
  have X0 : Stand p l e ({ frames := 0, cells := 0, slots := 0, locals := 0 } : Room) s m #[(.int p1)] below meth c s₁ [] 0 0 := Stand.of_body Bd
  have e0 : s₁.heap = h0 := by rw [← hh, Bd.state]; rfl
  have N0 := Fr.nil n0
  show own_Go p e below s (own_Q_own_rpick Z p1 h0 n0) ({ frames := 0, cells := 0, slots := 0, locals := 0 } : Room).cells ({ frames := 0, cells := 0, slots := 0, locals := 0 } : Room).slots (s₁.setTop (entryFrame m #[(.int p1)] 2))
  refine own_go (fun zt zk => castTop (own_ef_own_rpick m p1) zk) ?_
  show own_Go p e below s _ _ _ (s₁.setTop (mkF m 0 #[iv p1, .unset] []))
  refine own_go (fun zt zk => (XS.iloadN X0.here hx rfl (hb hby own_d1_0) rfl (XS.iconst X0.here hx rfl (hb hby own_d1_1) (XS.iand X0.here hx rfl (hb hby own_d1_2) rfl (XS.istoreN X0.here hx rfl (hb hby own_d1_3) rfl (l' := #[iv p1, iv (p1 &&& (3 : Int32))]) rfl (XS.iloadN X0.here hx rfl (hb hby own_d1_4) rfl zk)))))) ?_
  show own_Go p e below s _ _ _ (s₁.setTop (mkF m 5 #[iv p1, iv (p1 &&& (3 : Int32))] [(.int (p1 &&& (3 : Int32)))]))
  by_cases hB5 : (p1 &&& (3 : Int32)) = (0 : Int32)
  · refine own_go (fun zt zk => (XS.ifNo X0.here hx rfl (hb hby own_d1_5) rfl ((if0 _ _).trans (teq (hB5 : (p1 &&& (3 : Int32)) = (0 : Int32))).2) (XS.bipush X0.here hx rfl (hb hby own_d1_8) zk))) ?_
    show own_Go p e below s _ _ _ (s₁.setTop (mkF m 10 #[iv p1, iv (p1 &&& (3 : Int32))] [(.int (35 : Int32))]))
    exact own_fin X0 Bd.notSynchronized (fun h => by rw [Bd.returns] at h; cases h) (fun fs hr => retN X0 hx (t := .char) Bd.returns (by simp) (hb hby own_d1_10) hr) (by rw [e0]; exact ⟨(35 : Int32), rfl, N0, rfl, (by decide)⟩) (by decide) (by decide)
  · refine own_go (fun zt zk => (XS.ifYes X0.here hx rfl (pc0 := 5) (pc' := 11) rfl (hb hby own_d1_5) rfl ((if0 _ _).trans (feq (hB5 : ¬ ((p1 &&& (3 : Int32)) = (0 : Int32)))).2) (by decide) (by decide) (XS.iloadN X0.here hx rfl (hb hby own_d1_11) rfl (XS.iconst X0.here hx rfl (hb hby own_d1_12) zk)))) ?_
    show own_Go p e below s _ _ _ (s₁.setTop (mkF m 13 #[iv p1, iv (p1 &&& (3 : Int32))] [(.int (1 : Int32)), (.int (p1 &&& (3 : Int32)))]))
    by_cases hB13 : (p1 &&& (3 : Int32)) = (1 : Int32)
    · refine own_go (fun zt zk => (XS.icmpNo X0.here hx rfl (hb hby own_d1_13) rfl (teq (hB13 : (p1 &&& (3 : Int32)) = (1 : Int32))).2 (XS.bipush X0.here hx rfl (hb hby own_d1_16) zk))) ?_
      show own_Go p e below s _ _ _ (s₁.setTop (mkF m 18 #[iv p1, iv (p1 &&& (3 : Int32))] [(.int (47 : Int32))]))
      exact own_fin X0 Bd.notSynchronized (fun h => by rw [Bd.returns] at h; cases h) (fun fs hr => retN X0 hx (t := .char) Bd.returns (by simp) (hb hby own_d1_18) hr) (by rw [e0]; exact ⟨(47 : Int32), rfl, N0, rfl, (by decide)⟩) (by decide) (by decide)
    · refine own_go (fun zt zk => (XS.icmpYes X0.here hx rfl (pc0 := 13) (pc' := 19) rfl (hb hby own_d1_13) rfl (feq (hB13 : ¬ ((p1 &&& (3 : Int32)) = (1 : Int32)))).2 (by decide) (by decide) (XS.iloadN X0.here hx rfl (hb hby own_d1_19) rfl (XS.iconst X0.here hx rfl (hb hby own_d1_20) (XS.iushr X0.here hx rfl (hb hby own_d1_21) rfl (XS.sipush X0.here hx rfl (hb hby own_d1_22) (XS.iand X0.here hx rfl (hb hby own_d1_25) rfl (XS.i2c X0.here hx rfl (hb hby own_d1_26) rfl zk)))))))) ?_
      show own_Go p e below s _ _ _ (s₁.setTop (mkF m 27 #[iv p1, iv (p1 &&& (3 : Int32))] [(.int ((((p1.toUInt32 >>> ((2 : Int32) &&& 31).toUInt32).toInt32) &&& (255 : Int32)).toUInt32.toUInt16.toUInt32.toInt32))]))
      rw [i2c_mask]
      generalize hv_c1 : (((p1.toUInt32 >>> ((2 : Int32) &&& 31).toUInt32).toInt32) &&& (255 : Int32)) = c1
      have hr_c1 := own_r255 hv_c1
      show own_Go p e below s _ _ _ (s₁.setTop (mkF m 27 #[iv p1, iv (p1 &&& (3 : Int32))] [(.int c1)]))
      exact own_fin X0 Bd.notSynchronized (fun h => by rw [Bd.returns] at h; cases h) (fun fs hr => retN X0 hx (t := .char) Bd.returns (by simp) (hb hby own_d1_27) hr) (by rw [e0]; exact ⟨c1, congrArg (fun z => some (Value.int z)) (own_narc hr_c1), N0, rfl, hr_c1⟩) (by decide) (by decide)
theorem own_d2_0 : decode method_4_code 0 = .ok (.iload_n 0, 1) := by decide +kernel
theorem own_d2_1 : decode method_4_code 1 = .ok (.ifCond .ne 14, 3) := by decide +kernel
theorem own_d2_4 : decode method_4_code 4 = .ok (.new 28, 3) := by decide +kernel
theorem own_d2_7 : decode method_4_code 7 = .ok (.dup, 1) := by decide +kernel
theorem own_d2_8 : decode method_4_code 8 = .ok (.iconst 0, 1) := by decide +kernel
theorem own_d2_9 : decode method_4_code 9 = .ok (.newarray .char, 2) := by decide +kernel
theorem own_d2_11 : decode method_4_code 11 = .ok (.invokespecial 37, 3) := by decide +kernel
theorem own_pd___C_V : parseMethodDescriptor "([C)V" = some ⟨[(.array .char)], none⟩ := by decide +kernel
theorem own_d2_14 : decode method_4_code 14 = .ok (.areturn, 1) := by decide +kernel
theorem own_ef_own_rmake0 (m : MethodId) (ca : Int32) (cb : Int32) (cc : Int32) (cd : Int32) (ce : Int32) : entryFrame m #[(.int (0 : Int32)), (.int ca), (.int cb), (.int cc), (.int cd), (.int ce)] 6 = mkF m 0 #[iv (0 : Int32), iv ca, iv cb, iv cc, iv cd, iv ce] [] := by first | (simp [entryFrame, mkF, argsToLocals, Value.category]; done) | rfl
def own_Q_own_rmake0 (Z : State) (ca : Int32) (cb : Int32) (cc : Int32) (cd : Int32) (ce : Int32) (h0 : Heap) (n0 : Nat) (v : Option Value) (h : Heap) (L : List Loc) : Prop := ∃ b t kb, v = some (.ref b) ∧ Fr n0 L ∧ Keep h0 h [] ∧ h0.size ≤ b ∧ Exa Z h b "java/lang/String" ∧ Fld Z h b "java/lang/String" "value" "[B" (.ref t) ∧ Fld Z h b "java/lang/String" "coder" "B" (.int (0 : Int32)) ∧ Arv Z h t kb .byte (0 : Int32) [] (.int (0 : Int32))
set_option maxRecDepth 65536 in
set_option maxHeartbeats 40000000 in
theorem own_rmake0 (l : Launch) (Z : State) (a0 : Array Value) (hw : ∀ d ∈ tables_1, d.before a0 Z = true) (ws : List Jvm.Cond) (ca : Int32) (cb : Int32) (cc : Int32) (cd : Int32) (ce : Int32) (vm0 : Vm) (h0 : Heap) (n0 : Nat) (Z0 : n0 ≤ h0.size)  (hr_ca : ¬ (ca < (0 : Int32)) ∧ ¬ ((255 : Int32) < ca)) (hr_cb : ¬ (cb < (0 : Int32)) ∧ ¬ ((255 : Int32) < cb)) (hr_cc : ¬ (cc < (0 : Int32)) ∧ ¬ ((255 : Int32) < cc)) (hr_cd : ¬ (cd < (0 : Int32)) ∧ ¬ ((255 : Int32) < cd)) (hr_ce : ¬ (ce < (0 : Int32)) ∧ ¬ ((255 : Int32) < ce)) :
    MetFree l (⟨"com/example/boxwright/boxwright/TableNamesLocalNamePinLaw", "make", "(ICCCCC)Ljava/lang/String;"⟩ : MethodName) (head1 (Jvm.Cond.code (⟨"com/example/boxwright/boxwright/TableNamesLocalNamePinLaw", "make", "(ICCCCC)Ljava/lang/String;"⟩ : MethodName) method_4_code 6 (some (.object "java/lang/String")) :: ws) ({ frames := 3, cells := 6, slots := 12, locals := 43 } : Room)) (fun a U => a = #[(.int (0 : Int32)), (.int ca), (.int cb), (.int cc), (.int cd), (.int ce)] ∧ Z.Warmed39 U.vm ∧ U.heap = h0 ∧ CHr Z own_EL vm0 h0 U.vm h0) (fun _ _ _ _ _ => True) (fun _ U o U' => ∃ v L, o = .returned v ∧ own_Q_own_rmake0 Z ca cb cc cd ce h0 n0 v U'.heap L ∧ CHr Z own_EL U.vm U.heap U'.vm U'.heap ∧ ReturnedEndW U o U' L ({ frames := 3, cells := 6, slots := 12, locals := 43 } : Room).cells ({ frames := 3, cells := 6, slots := 12, locals := 43 } : Room).slots) := by
  refine MetFree.of_bodySF (plainFor_of_name own_pn_com_example_boxwright_boxwright_TableNamesLocalNamePinLaw) hisR ?_
  intro p e s m args below meth c s₁ Bd hml0 hP hK
  obtain ⟨rfl, hZ, hh, hCH⟩ := hP
  have hx := Bd.exec
  have hby := Bd.bytes
  have hml : c.maxLocals = 6 := hml0
  have hown : s.vm.findClass "com/example/boxwright/boxwright/TableNamesLocalNamePinLaw" = some m.cls := findClass_of_methodNamed Bd.named
  have hnm := (name_of_methodNamed Bd.named Bd.method).1
  have X0 : Stand p l e ({ frames := 3, cells := 6, slots := 12, locals := 43 } : Room) (s.setVm s.vm) m #[(.int (0 : Int32)), (.int ca), (.int cb), (.int cc), (.int cd), (.int ce)] below meth c s₁ [] 0 0 := Stand.of_body Bd
  have e0 : s₁.heap = h0 := by rw [← hh, Bd.state]; rfl
  have N0 := Fr.nil n0
  have hEL := own_EW Z a0 hw
  have wS := own_wS Z a0 hw
  have hS : s.Since s.vm 0 := (State.WarmedH.refl s).since 0
  have hk : 0 ≤ h0.size := Nat.zero_le _
  have Rc : CHr Z own_EL s.vm h0 s.vm h0 := CHr.refl hCH.1
  have Kp : Keep h0 h0 [] := Keep.refl h0 _
  show own_GoW p e below s Z (own_Q_own_rmake0 Z ca cb cc cd ce h0 n0) ({ frames := 3, cells := 6, slots := 12, locals := 43 } : Room).cells ({ frames := 3, cells := 6, slots := 12, locals := 43 } : Room).slots (s₁.setTop (entryFrame m #[(.int (0 : Int32)), (.int ca), (.int cb), (.int cc), (.int cd), (.int ce)] 6))
  refine own_goW (fun zt zk => castTop (own_ef_own_rmake0 m ca cb cc cd ce) zk) ?_
  show own_GoW p e below s _ _ _ _ (s₁.setTop (mkF m 0 #[iv (0 : Int32), iv ca, iv cb, iv cc, iv cd, iv ce] []))
  refine own_goW (fun zt zk => (XS.iloadN X0.here hx rfl (hb hby own_d2_0) rfl (XS.ifNo X0.here hx rfl (hb hby own_d2_1) rfl ((if0 _ _).trans (teq (rfl : (0 : Int32) = (0 : Int32))).2) zk))) ?_
  show own_GoW p e below s _ _ _ _ (s₁.setTop (mkF m 4 #[iv (0 : Int32), iv ca, iv cb, iv cc, iv cd, iv ce] []))
  obtain ⟨T1, h1, X1, e1, E1, A1, D1, -, st1⟩ := newO X0 hx hZ hown (hw _ (List.mem_of_getElem? (i := 8) rfl)) (hw _ (List.mem_of_getElem? (i := 9) rfl)) (hw _ (List.mem_of_getElem? (i := 10) rfl)) e0 (g := (mkF m 4 #[iv (0 : Int32), iv ca, iv cb, iv cc, iv cd, iv ce] [])) rfl (hb hby own_d2_4) (by decide) (by decide)
  obtain ⟨b1, g1⟩ : ∃ z, z = h0.size := ⟨_, rfl⟩
  rw [← g1] at A1 D1 st1
  refine own_goW st1 ?_
  have sz_b1 : h0.size ≤ b1 := Nat.le_trans Kp.1 (Nat.le_of_eq g1.symm)
  have g_b1 : n0 ≤ b1 := Nat.le_trans Z0 sz_b1
  have Sf_b1 : Safe Z own_EL s.vm h0 b1 := Safe.new (Nat.le_of_eq g1.symm)
  replace Kp := Kp.ext E1
  replace Sf_b1 := Safe.ext E1 Rc.1 Sf_b1
  replace Rc := Rc.trans (CHr.ext E1 Rc.1)
  replace hk := Nat.le_trans hk E1.1
  have Ex_b1 := A1
  have F_value_b1 : Fld Z h1 b1 "java/lang/String" "value" "[B" .null := D1 (Or.inr (hw _ (List.mem_of_getElem? (i := 23) rfl))) (ty := (.array .byte)) (by decide)
  have F_coder_b1 : Fld Z h1 b1 "java/lang/String" "coder" "B" (.int (0 : Int32)) := D1 (Or.inr (hw _ (List.mem_of_getElem? (i := 24) rfl))) (ty := .byte) (by decide)
  show own_GoW p e below s _ _ _ _ (T1.setTop (mkF m 7 #[iv (0 : Int32), iv ca, iv cb, iv cc, iv cd, iv ce] [(.ref b1)]))
  refine own_goW (fun zt zk => (XS.dup X1.here hx rfl (hb hby own_d2_7) rfl rfl (XS.iconst X1.here hx rfl (hb hby own_d2_8) zk))) ?_
  show own_GoW p e below s _ _ _ _ (T1.setTop (mkF m 9 #[iv (0 : Int32), iv ca, iv cb, iv cc, iv cd, iv ce] [(.int (0 : Int32)), (.ref b1), (.ref b1)]))
  obtain ⟨T2, h2, k2, X2, e2, E2, A2, Ea2, st2⟩ := newPE X1 hx hZ (hw _ (List.mem_of_getElem? (i := 4) rfl)) e1 (g := (mkF m 9 #[iv (0 : Int32), iv ca, iv cb, iv cc, iv cd, iv ce] [(.int (0 : Int32)), (.ref b1), (.ref b1)])) rfl (hb hby own_d2_9) rfl (by decide) (cap := 0) (by decide) (by decide) (by decide) (by decide) (ad := "[C") (by decide)
  obtain ⟨b2, g2⟩ : ∃ z, z = h1.size := ⟨_, rfl⟩
  rw [← g2] at A2 Ea2 st2
  refine own_goW st2 ?_
  have ne_b1_b2 : b1 ≠ b2 := Nat.ne_of_lt (Nat.lt_of_lt_of_le Ex_b1.lt (Nat.le_of_eq g2.symm))
  have sz_b2 : h0.size ≤ b2 := Nat.le_trans Kp.1 (Nat.le_of_eq g2.symm)
  have g_b2 : n0 ≤ b2 := Nat.le_trans Z0 sz_b2
  have Sf_b2 : Safe Z own_EL s.vm h1 b2 := Safe.new (Nat.le_of_eq g2.symm)
  replace Kp := Kp.ext E2
  replace Sf_b1 := Safe.ext E2 Rc.1 Sf_b1
  replace Ex_b1 := Ex_b1.ext E2
  replace F_value_b1 := F_value_b1.ext E2
  replace F_coder_b1 := F_coder_b1.ext E2
  replace Sf_b2 := Safe.ext E2 Rc.1 Sf_b2
  replace Rc := Rc.trans (CHr.ext E2 Rc.1)
  replace hk := Nat.le_trans hk E2.1
  have V_b2 : Arv Z h2 b2 k2 .char (0 : Int32) [] (.int (0 : Int32)) := (Arv.new A2 (by decide)).pad (pad_rep [] (.int (0 : Int32)) 0)
  have Ea_b2 := Ea2
  show own_GoW p e below s _ _ _ _ (T2.setTop (mkF m 11 #[iv (0 : Int32), iv ca, iv cb, iv cc, iv cd, iv ce] [(.ref b2), (.ref b1), (.ref b1)]))
  obtain ⟨_, _, ⟨T3, L3, k3, n3⟩, -, X3, hSq3, hgq3, ⟨Lc3, hQ3, l3, y3, z3, A3⟩, st3⟩ := X2.specialBackS hx (y := (⟨"java/lang/String", "<init>", "([C)V"⟩ : MethodName)) rfl hown (mvT hZ (hw _ (List.mem_of_getElem? (i := 11) rfl))) (mvT hZ (hw _ (List.mem_of_getElem? (i := 12) rfl))) (mvT hZ (hw _ (List.mem_of_getElem? (i := 13) rfl))) (by decide) (own_backW (s := s) (W := 1) (own_rn1e l Z a0 hw [] b1 b2 k2 s.vm h2 n0 (Nat.le_trans Z0 Kp.1) Ex_b1 F_value_b1 F_coder_b1 Sf_b1 V_b2 g_b1 (Ne.symm ne_b1_b2)) hZ (hw _ (List.mem_of_getElem? (i := 13) rfl)) (hw _ (List.mem_of_getElem? (i := 10) rfl)) (by decide) (by decide) hEL Rc.1) (g := (mkF m 11 #[iv (0 : Int32), iv ca, iv cb, iv cc, iv cd, iv ce] [(.ref b2), (.ref b1), (.ref b1)])) rfl (by rw [hml]; rfl) (Steps.refl _) (a := b1) (argsL := [(.ref b2)]) (rest := [(.ref b1)]) (lenOf own_pd___C_V rfl) rfl (by show 2 * 0 + _ ≤ _; exact Nat.le_of_eq rfl) (hb hby own_d2_11) (fun _ _ => ⟨rfl, e2, (by decide : 2 + 4 ≤ _), (by decide : 4 + 8 ≤ _)⟩)
  dsimp only [Pt.U, Pt.locs, Pt.cells, Pt.slots] at X3 l3 y3 z3 st3 hQ3 hSq3 hgq3 A3
  subst l3 y3 z3
  obtain ⟨X3, hS3, hZ3, hown3⟩ := rebS hS (by rw [e2]; exact hk) X3 hSq3 hgq3 hZ hown
  replace Sf_b1 := CHr.safe A3 Ex_b1.lt Sf_b1
  replace Sf_b2 := CHr.safe A3 V_b2.lt Sf_b2
  replace Rc := Rc.trans A3
  replace hS := hS3
  replace hZ := hZ3
  replace hown := hown3
  have hk : T3.heap.size ≤ T3.heap.size := Nat.le_refl _
  obtain ⟨t3, kb3, rfl, Nq3, K3, -, F_value_b1, F_coder_b1, Va3⟩ := hQ3
  have N3 := Fr.app N0 Nq3
  refine own_goW (fun zt zk => st3.trans zk) ?_
  replace Kp := Kp.trans K3 (allS (Or.inr sz_b1) all0)
  replace Ex_b1 := Ex_b1.keep K3
  replace V_b2 := V_b2.keep K3 (ninS (Ne.symm ne_b1_b2) nin0)
  replace Ea_b2 := Ea_b2.keep K3
  show own_GoW p e below s _ _ _ _ (T3.setTop (mkF m 14 #[iv (0 : Int32), iv ca, iv cb, iv cc, iv cd, iv ce] [(.ref b1)]))
  have Re := Rc.trans (CHv.at X3 hZ hEL Rc.1)
  exact own_finW X3 hS (hk) (by rw [hh]; exact Re) Bd.notSynchronized (fun h => by rw [Bd.returns] at h; cases h) (fun fs hr => retOut X3 hx (t := (.object "java/lang/String")) (w := (.ref b1)) Bd.returns rfl (Or.inr (Or.inr (Or.inr (Or.inr ⟨rfl, rfl, rfl⟩)))) (hb hby own_d2_14) hr) (⟨_, _, _, rfl, N3, Kp, sz_b1, Ex_b1, F_value_b1, F_coder_b1, Va3⟩) (by decide) (by decide)
theorem own_d2_15 : decode method_4_code 15 = .ok (.iload_n 0, 1) := by decide +kernel
theorem own_d2_16 : decode method_4_code 16 = .ok (.iconst 1, 1) := by decide +kernel
theorem own_d2_17 : decode method_4_code 17 = .ok (.if_icmp .ne 18, 3) := by decide +kernel
theorem own_d2_20 : decode method_4_code 20 = .ok (.new 28, 3) := by decide +kernel
theorem own_d2_23 : decode method_4_code 23 = .ok (.dup, 1) := by decide +kernel
theorem own_d2_24 : decode method_4_code 24 = .ok (.iconst 1, 1) := by decide +kernel
theorem own_d2_25 : decode method_4_code 25 = .ok (.newarray .char, 2) := by decide +kernel
theorem own_d2_27 : decode method_4_code 27 = .ok (.dup, 1) := by decide +kernel
theorem own_d2_28 : decode method_4_code 28 = .ok (.iconst 0, 1) := by decide +kernel
theorem own_d2_29 : decode method_4_code 29 = .ok (.iload_n 1, 1) := by decide +kernel
theorem own_d2_30 : decode method_4_code 30 = .ok (.castore, 1) := by decide +kernel
theorem own_d2_31 : decode method_4_code 31 = .ok (.invokespecial 37, 3) := by decide +kernel
theorem own_d2_34 : decode method_4_code 34 = .ok (.areturn, 1) := by decide +kernel
theorem own_ef_own_rmake1 (m : MethodId) (ca : Int32) (cb : Int32) (cc : Int32) (cd : Int32) (ce : Int32) : entryFrame m #[(.int (1 : Int32)), (.int ca), (.int cb), (.int cc), (.int cd), (.int ce)] 6 = mkF m 0 #[iv (1 : Int32), iv ca, iv cb, iv cc, iv cd, iv ce] [] := by first | (simp [entryFrame, mkF, argsToLocals, Value.category]; done) | rfl
def own_Q_own_rmake1 (Z : State) (ca : Int32) (cb : Int32) (cc : Int32) (cd : Int32) (ce : Int32) (o_COMPACT_STRINGS : Int32) (h0 : Heap) (n0 : Nat) (v : Option Value) (h : Heap) (L : List Loc) : Prop := ∃ b t kb, v = some (.ref b) ∧ Fr n0 L ∧ Keep h0 h [] ∧ h0.size ≤ b ∧ Exa Z h b "java/lang/String" ∧ Fld Z h b "java/lang/String" "value" "[B" (.ref t) ∧ Fld Z h b "java/lang/String" "coder" "B" (.int (0 : Int32)) ∧ Arv Z h t kb .byte (1 : Int32) [(.int (ca.toInt8.toInt32))] (.int (0 : Int32))
set_option maxRecDepth 65536 in
set_option maxHeartbeats 40000000 in
theorem own_rmake1 (l : Launch) (Z : State) (a0 : Array Value) (hw : ∀ d ∈ tables_1, d.before a0 Z = true) (ws : List Jvm.Cond) (ca : Int32) (cb : Int32) (cc : Int32) (cd : Int32) (ce : Int32) (o_COMPACT_STRINGS : Int32) (h0 : Heap) (n0 : Nat) (Z0 : n0 ≤ h0.size) (O : Old Z n0 h0) (S_o_COMPACT_STRINGS : Sta Z Z.heap "java/lang/String" "COMPACT_STRINGS" "Z" (.int o_COMPACT_STRINGS)) (nz_o_COMPACT_STRINGS : ¬ (o_COMPACT_STRINGS = (0 : Int32))) (hr_ca : ¬ (ca < (0 : Int32)) ∧ ¬ ((255 : Int32) < ca)) (hr_cb : ¬ (cb < (0 : Int32)) ∧ ¬ ((255 : Int32) < cb)) (hr_cc : ¬ (cc < (0 : Int32)) ∧ ¬ ((255 : Int32) < cc)) (hr_cd : ¬ (cd < (0 : Int32)) ∧ ¬ ((255 : Int32) < cd)) (hr_ce : ¬ (ce < (0 : Int32)) ∧ ¬ ((255 : Int32) < ce)) :
    MetFree l (⟨"com/example/boxwright/boxwright/TableNamesLocalNamePinLaw", "make", "(ICCCCC)Ljava/lang/String;"⟩ : MethodName) (head1 (Jvm.Cond.code (⟨"com/example/boxwright/boxwright/TableNamesLocalNamePinLaw", "make", "(ICCCCC)Ljava/lang/String;"⟩ : MethodName) method_4_code 6 (some (.object "java/lang/String")) :: ws) ({ frames := 4, cells := 3, slots := 6, locals := 66 } : Room)) (fun a U => a = #[(.int (1 : Int32)), (.int ca), (.int cb), (.int cc), (.int cd), (.int ce)] ∧ Z.Warmed39 U.vm ∧ U.heap = h0) (fun _ _ _ _ _ => True) (fun _ U o U' => ∃ v L, o = .returned v ∧ own_Q_own_rmake1 Z ca cb cc cd ce o_COMPACT_STRINGS h0 n0 v U'.heap L ∧ FrameEnd U o U' L ({ frames := 4, cells := 3, slots := 6, locals := 66 } : Room).cells ({ frames := 4, cells := 3, slots := 6, locals := 66 } : Room).slots) := by
  refine MetFree.of_bodySF (plainFor_of_name own_pn_com_example_boxwright_boxwright_TableNamesLocalNamePinLaw) hisR ?_
  intro p e s m args below meth c s₁ Bd hml0 hP hK
  obtain ⟨rfl, hZ, hh⟩ := hP
  have hx := Bd.exec
  have hby := Bd.bytes
  have hml : c.maxLocals = 6 := hml0
  have hown : s.vm.findClass "com/example/boxwright/boxwright/TableNamesLocalNamePinLaw" = some m.cls := findClass_of_methodNamed Bd.named
  have hnm := (name_of_methodNamed Bd.named Bd.method).1
  have X0 : Stand p l e ({ frames := 4, cells := 3, slots := 6, locals := 66 } : Room) s m #[(.int (1 : Int32)), (.int ca), (.int cb), (.int cc), (.int cd), (.int ce)] below meth c s₁ [] 0 0 := Stand.of_body Bd
  have e0 : s₁.heap = h0 := by rw [← hh, Bd.state]; rfl
  have N0 := Fr.nil n0
  have Kp : Keep h0 h0 [] := Keep.refl h0 _
  show own_Go p e below s (own_Q_own_rmake1 Z ca cb cc cd ce o_COMPACT_STRINGS h0 n0) ({ frames := 4, cells := 3, slots := 6, locals := 66 } : Room).cells ({ frames := 4, cells := 3, slots := 6, locals := 66 } : Room).slots (s₁.setTop (entryFrame m #[(.int (1 : Int32)), (.int ca), (.int cb), (.int cc), (.int cd), (.int ce)] 6))
  refine own_go (fun zt zk => castTop (own_ef_own_rmake1 m ca cb cc cd ce) zk) ?_
  show own_Go p e below s _ _ _ (s₁.setTop (mkF m 0 #[iv (1 : Int32), iv ca, iv cb, iv cc, iv cd, iv ce] []))
  refine own_go (fun zt zk => (XS.iloadN X0.here hx rfl (hb hby own_d2_0) rfl (XS.ifYes X0.here hx rfl (pc0 := 1) (pc' := 15) rfl (hb hby own_d2_1) rfl ((if0 _ _).trans (feq ((by decide) : ¬ ((1 : Int32) = (0 : Int32)))).2) (by decide) (by decide) (XS.iloadN X0.here hx rfl (hb hby own_d2_15) rfl (XS.iconst X0.here hx rfl (hb hby own_d2_16) (XS.icmpNo X0.here hx rfl (hb hby own_d2_17) rfl (teq (rfl : (1 : Int32) = (1 : Int32))).2 zk)))))) ?_
  show own_Go p e below s _ _ _ (s₁.setTop (mkF m 20 #[iv (1 : Int32), iv ca, iv cb, iv cc, iv cd, iv ce] []))
  obtain ⟨T1, h1, X1, e1, E1, A1, D1, -, st1⟩ := newO X0 hx hZ hown (hw _ (List.mem_of_getElem? (i := 8) rfl)) (hw _ (List.mem_of_getElem? (i := 9) rfl)) (hw _ (List.mem_of_getElem? (i := 10) rfl)) e0 (g := (mkF m 20 #[iv (1 : Int32), iv ca, iv cb, iv cc, iv cd, iv ce] [])) rfl (hb hby own_d2_20) (by decide) (by decide)
  obtain ⟨b1, g1⟩ : ∃ z, z = h0.size := ⟨_, rfl⟩
  rw [← g1] at A1 D1 st1
  refine own_go st1 ?_
  have sz_b1 : h0.size ≤ b1 := Nat.le_trans Kp.1 (Nat.le_of_eq g1.symm)
  have g_b1 : n0 ≤ b1 := Nat.le_trans Z0 sz_b1
  replace O := O.ext E1
  replace Kp := Kp.ext E1
  have Ex_b1 := A1
  have F_value_b1 : Fld Z h1 b1 "java/lang/String" "value" "[B" .null := D1 (Or.inr (hw _ (List.mem_of_getElem? (i := 23) rfl))) (ty := (.array .byte)) (by decide)
  have F_coder_b1 : Fld Z h1 b1 "java/lang/String" "coder" "B" (.int (0 : Int32)) := D1 (Or.inr (hw _ (List.mem_of_getElem? (i := 24) rfl))) (ty := .byte) (by decide)
  show own_Go p e below s _ _ _ (T1.setTop (mkF m 23 #[iv (1 : Int32), iv ca, iv cb, iv cc, iv cd, iv ce] [(.ref b1)]))
  refine own_go (fun zt zk => (XS.dup X1.here hx rfl (hb hby own_d2_23) rfl rfl (XS.iconst X1.here hx rfl (hb hby own_d2_24) zk))) ?_
  show own_Go p e below s _ _ _ (T1.setTop (mkF m 25 #[iv (1 : Int32), iv ca, iv cb, iv cc, iv cd, iv ce] [(.int (1 : Int32)), (.ref b1), (.ref b1)]))
  obtain ⟨T2, h2, k2, X2, e2, E2, A2, Ea2, st2⟩ := newPE X1 hx hZ (hw _ (List.mem_of_getElem? (i := 4) rfl)) e1 (g := (mkF m 25 #[iv (1 : Int32), iv ca, iv cb, iv cc, iv cd, iv ce] [(.int (1 : Int32)), (.ref b1), (.ref b1)])) rfl (hb hby own_d2_25) rfl (by decide) (cap := 1) (by decide) (by decide) (by decide) (by decide) (ad := "[C") (by decide)
  obtain ⟨b2, g2⟩ : ∃ z, z = h1.size := ⟨_, rfl⟩
  rw [← g2] at A2 Ea2 st2
  refine own_go st2 ?_
  have ne_b1_b2 : b1 ≠ b2 := Nat.ne_of_lt (Nat.lt_of_lt_of_le Ex_b1.lt (Nat.le_of_eq g2.symm))
  have sz_b2 : h0.size ≤ b2 := Nat.le_trans Kp.1 (Nat.le_of_eq g2.symm)
  have g_b2 : n0 ≤ b2 := Nat.le_trans Z0 sz_b2
  replace O := O.ext E2
  replace Kp := Kp.ext E2
  replace Ex_b1 := Ex_b1.ext E2
  replace F_value_b1 := F_value_b1.ext E2
  replace F_coder_b1 := F_coder_b1.ext E2
  have V_b2 : Arv Z h2 b2 k2 .char (1 : Int32) [(.int (0 : Int32))] (.int (0 : Int32)) := (Arv.new A2 (by decide)).pad (pad_rep [] (.int (0 : Int32)) 1)
  have Ea_b2 := Ea2
  show own_Go p e below s _ _ _ (T2.setTop (mkF m 27 #[iv (1 : Int32), iv ca, iv cb, iv cc, iv cd, iv ce] [(.ref b2), (.ref b1), (.ref b1)]))
  refine own_go (fun zt zk => (XS.dup X2.here hx rfl (hb hby own_d2_27) rfl rfl (XS.iconst X2.here hx rfl (hb hby own_d2_28) (XS.iloadN X2.here hx rfl (hb hby own_d2_29) rfl zk)))) ?_
  show own_Go p e below s _ _ _ (T2.setTop (mkF m 30 #[iv (1 : Int32), iv ca, iv cb, iv cc, iv cd, iv ce] [(.int ca), (.int (0 : Int32)), (.ref b2), (.ref b2), (.ref b1), (.ref b1)]))
  obtain ⟨cl3, Ar3, q3, Sz3, Nz3, Ha3, Ga3⟩ := id V_b2
  have hin3 : ¬ ((0 : Int32) < 0 ∨ cl3.slots.size ≤ ((0 : Int32)).toNatClampNeg) := inb_of Sz3 ⟨by decide, by decide⟩
  obtain ⟨T4, h4, X4, e4, W4, st4⟩ := stC X2 hx hZ e2 Ar3 (j := (0 : Int32)) hin3 (g := (mkF m 30 #[iv (1 : Int32), iv ca, iv cb, iv cc, iv cd, iv ce] [(.int ca), (.int (0 : Int32)), (.ref b2), (.ref b2), (.ref b1), (.ref b1)])) rfl rfl (hb hby own_d2_30)
  refine own_go st4 ?_
  rw [show nar .char ca = ca from own_narc hr_ca] at W4
  have V4 := Arv.set Ar3 q3 Sz3 Nz3 Ha3 Ga3 (own_fitc hr_ca) W4 0 rfl (Nat.le_of_ble_eq_true rfl)
  have N4 := Fr.snoc X4 N0 g_b2
  replace O := O.wr W4 g_b2
  replace Kp := Kp.wr W4 (Or.inr sz_b2)
  replace Ex_b1 := Ex_b1.wr W4
  replace F_value_b1 := F_value_b1.other W4 (Or.inl ne_b1_b2)
  replace F_coder_b1 := F_coder_b1.other W4 (Or.inl ne_b1_b2)
  replace Ea_b2 := Ea_b2.wr W4
  replace V_b2 : Arv Z h4 b2 k2 .char (1 : Int32) [(.int ca)] (.int (0 : Int32)) := V4
  show own_Go p e below s _ _ _ (T4.setTop (mkF m 31 #[iv (1 : Int32), iv ca, iv cb, iv cc, iv cd, iv ce] [(.ref b2), (.ref b1), (.ref b1)]))
  obtain ⟨_, _, ⟨T5, L5, k5, n5⟩, -, X5, ⟨Lc5, hQ5, l5, y5, z5⟩, st5⟩ := X4.specialBack hx (y := (⟨"java/lang/String", "<init>", "([C)V"⟩ : MethodName)) rfl hown (mvT hZ (hw _ (List.mem_of_getElem? (i := 11) rfl))) (mvT hZ (hw _ (List.mem_of_getElem? (i := 12) rfl))) (mvT hZ (hw _ (List.mem_of_getElem? (i := 13) rfl))) (by decide) (StrChars.Road.backV (W := 1) hZ (own_hnew Z a0 hw) (kI := 4) (hw _ (List.mem_of_getElem? (i := 9) rfl)) (cs := [ca]) (bs := [(ca.toInt8.toInt32)]) (n := 1) g_b1 (Nat.le_trans Z0 Kp.1) Ex_b1 F_value_b1 F_coder_b1 V_b2 (S_o_COMPACT_STRINGS.ext O.2) nz_o_COMPACT_STRINGS rfl rfl (by decide) (by decide) (own_ac hr_ca own_an) rfl (by decide) (by decide)) (g := (mkF m 31 #[iv (1 : Int32), iv ca, iv cb, iv cc, iv cd, iv ce] [(.ref b2), (.ref b1), (.ref b1)])) rfl (by rw [hml]; rfl) (Steps.refl _) (a := b1) (argsL := [(.ref b2)]) (rest := [(.ref b1)]) (lenOf own_pd___C_V rfl) rfl (by show 2 * 0 + _ ≤ _; exact Nat.le_of_eq rfl) (hb hby own_d2_31) (fun _ _ => ⟨rfl, e4, (by decide : 2 + 1 ≤ _), (by decide : 5 + 1 ≤ _)⟩)
  dsimp only [Pt.U, Pt.locs, Pt.cells, Pt.slots] at X5 l5 y5 z5 st5 hQ5
  subst l5 y5 z5
  obtain ⟨rfl, Nq5, K5, -, Fc5, t5, kb5, -, sz5, -, Fv5, Vt5⟩ := hQ5
  have sz_t5 : h0.size ≤ t5 := Nat.le_trans Kp.1 sz5
  have g_t5 : n0 ≤ t5 := Nat.le_trans Z0 sz_t5
  have ne_b1_t5 : b1 ≠ t5 := Nat.ne_of_lt (Nat.lt_of_lt_of_le Ex_b1.lt sz5)
  have ne_b2_t5 : b2 ≠ t5 := Nat.ne_of_lt (Nat.lt_of_lt_of_le V_b2.lt sz5)
  have N5 := Fr.app N4 Nq5
  refine own_go (fun zt zk => st5.trans zk) ?_
  replace O := O.keep K5 (allS g_b1 all0)
  replace Kp := Kp.trans K5 (allS (Or.inr sz_b1) all0)
  replace Ex_b1 := Ex_b1.keep K5
  replace V_b2 := V_b2.keep K5 (ninS (Ne.symm ne_b1_b2) nin0)
  replace Ea_b2 := Ea_b2.keep K5
  show own_Go p e below s _ _ _ (T5.setTop (mkF m 34 #[iv (1 : Int32), iv ca, iv cb, iv cc, iv cd, iv ce] [(.ref b1)]))
  exact own_fin X5 Bd.notSynchronized (fun h => by rw [Bd.returns] at h; cases h) (fun fs hr => retOut X5 hx (t := (.object "java/lang/String")) (w := (.ref b1)) Bd.returns rfl (Or.inr (Or.inr (Or.inr (Or.inr ⟨rfl, rfl, rfl⟩)))) (hb hby own_d2_34) hr) ⟨_, _, _, rfl, N5, Kp, sz_b1, Ex_b1, Fv5, Fc5, Vt5⟩ (by decide) (by decide)
theorem own_d2_35 : decode method_4_code 35 = .ok (.iload_n 0, 1) := by decide +kernel
theorem own_d2_36 : decode method_4_code 36 = .ok (.iconst 2, 1) := by decide +kernel
theorem own_d2_37 : decode method_4_code 37 = .ok (.if_icmp .ne 22, 3) := by decide +kernel
theorem own_d2_40 : decode method_4_code 40 = .ok (.new 28, 3) := by decide +kernel
theorem own_d2_43 : decode method_4_code 43 = .ok (.dup, 1) := by decide +kernel
theorem own_d2_44 : decode method_4_code 44 = .ok (.iconst 2, 1) := by decide +kernel
theorem own_d2_45 : decode method_4_code 45 = .ok (.newarray .char, 2) := by decide +kernel
theorem own_d2_47 : decode method_4_code 47 = .ok (.dup, 1) := by decide +kernel
theorem own_d2_48 : decode method_4_code 48 = .ok (.iconst 0, 1) := by decide +kernel
theorem own_d2_49 : decode method_4_code 49 = .ok (.iload_n 1, 1) := by decide +kernel
theorem own_d2_50 : decode method_4_code 50 = .ok (.castore, 1) := by decide +kernel
theorem own_d2_51 : decode method_4_code 51 = .ok (.dup, 1) := by decide +kernel
theorem own_d2_52 : decode method_4_code 52 = .ok (.iconst 1, 1) := by decide +kernel
theorem own_d2_53 : decode method_4_code 53 = .ok (.iload_n 2, 1) := by decide +kernel
theorem own_d2_54 : decode method_4_code 54 = .ok (.castore, 1) := by decide +kernel
theorem own_d2_55 : decode method_4_code 55 = .ok (.invokespecial 37, 3) := by decide +kernel
theorem own_d2_58 : decode method_4_code 58 = .ok (.areturn, 1) := by decide +kernel
theorem own_ef_own_rmake2 (m : MethodId) (ca : Int32) (cb : Int32) (cc : Int32) (cd : Int32) (ce : Int32) : entryFrame m #[(.int (2 : Int32)), (.int ca), (.int cb), (.int cc), (.int cd), (.int ce)] 6 = mkF m 0 #[iv (2 : Int32), iv ca, iv cb, iv cc, iv cd, iv ce] [] := by first | (simp [entryFrame, mkF, argsToLocals, Value.category]; done) | rfl
def own_Q_own_rmake2 (Z : State) (ca : Int32) (cb : Int32) (cc : Int32) (cd : Int32) (ce : Int32) (o_COMPACT_STRINGS : Int32) (h0 : Heap) (n0 : Nat) (v : Option Value) (h : Heap) (L : List Loc) : Prop := ∃ b t kb, v = some (.ref b) ∧ Fr n0 L ∧ Keep h0 h [] ∧ h0.size ≤ b ∧ Exa Z h b "java/lang/String" ∧ Fld Z h b "java/lang/String" "value" "[B" (.ref t) ∧ Fld Z h b "java/lang/String" "coder" "B" (.int (0 : Int32)) ∧ Arv Z h t kb .byte (2 : Int32) [(.int (ca.toInt8.toInt32)), (.int (cb.toInt8.toInt32))] (.int (0 : Int32))
set_option maxRecDepth 65536 in
set_option maxHeartbeats 40000000 in
theorem own_rmake2 (l : Launch) (Z : State) (a0 : Array Value) (hw : ∀ d ∈ tables_1, d.before a0 Z = true) (ws : List Jvm.Cond) (ca : Int32) (cb : Int32) (cc : Int32) (cd : Int32) (ce : Int32) (o_COMPACT_STRINGS : Int32) (h0 : Heap) (n0 : Nat) (Z0 : n0 ≤ h0.size) (O : Old Z n0 h0) (S_o_COMPACT_STRINGS : Sta Z Z.heap "java/lang/String" "COMPACT_STRINGS" "Z" (.int o_COMPACT_STRINGS)) (nz_o_COMPACT_STRINGS : ¬ (o_COMPACT_STRINGS = (0 : Int32))) (hr_ca : ¬ (ca < (0 : Int32)) ∧ ¬ ((255 : Int32) < ca)) (hr_cb : ¬ (cb < (0 : Int32)) ∧ ¬ ((255 : Int32) < cb)) (hr_cc : ¬ (cc < (0 : Int32)) ∧ ¬ ((255 : Int32) < cc)) (hr_cd : ¬ (cd < (0 : Int32)) ∧ ¬ ((255 : Int32) < cd)) (hr_ce : ¬ (ce < (0 : Int32)) ∧ ¬ ((255 : Int32) < ce)) :
    MetFree l (⟨"com/example/boxwright/boxwright/TableNamesLocalNamePinLaw", "make", "(ICCCCC)Ljava/lang/String;"⟩ : MethodName) (head1 (Jvm.Cond.code (⟨"com/example/boxwright/boxwright/TableNamesLocalNamePinLaw", "make", "(ICCCCC)Ljava/lang/String;"⟩ : MethodName) method_4_code 6 (some (.object "java/lang/String")) :: ws) ({ frames := 4, cells := 3, slots := 8, locals := 66 } : Room)) (fun a U => a = #[(.int (2 : Int32)), (.int ca), (.int cb), (.int cc), (.int cd), (.int ce)] ∧ Z.Warmed39 U.vm ∧ U.heap = h0) (fun _ _ _ _ _ => True) (fun _ U o U' => ∃ v L, o = .returned v ∧ own_Q_own_rmake2 Z ca cb cc cd ce o_COMPACT_STRINGS h0 n0 v U'.heap L ∧ FrameEnd U o U' L ({ frames := 4, cells := 3, slots := 8, locals := 66 } : Room).cells ({ frames := 4, cells := 3, slots := 8, locals := 66 } : Room).slots) := by
  refine MetFree.of_bodySF (plainFor_of_name own_pn_com_example_boxwright_boxwright_TableNamesLocalNamePinLaw) hisR ?_
  intro p e s m args below meth c s₁ Bd hml0 hP hK
  obtain ⟨rfl, hZ, hh⟩ := hP
  have hx := Bd.exec
  have hby := Bd.bytes
  have hml : c.maxLocals = 6 := hml0
  have hown : s.vm.findClass "com/example/boxwright/boxwright/TableNamesLocalNamePinLaw" = some m.cls := findClass_of_methodNamed Bd.named
  have hnm := (name_of_methodNamed Bd.named Bd.method).1
  have X0 : Stand p l e ({ frames := 4, cells := 3, slots := 8, locals := 66 } : Room) s m #[(.int (2 : Int32)), (.int ca), (.int cb), (.int cc), (.int cd), (.int ce)] below meth c s₁ [] 0 0 := Stand.of_body Bd
  have e0 : s₁.heap = h0 := by rw [← hh, Bd.state]; rfl
  have N0 := Fr.nil n0
  have Kp : Keep h0 h0 [] := Keep.refl h0 _
  show own_Go p e below s (own_Q_own_rmake2 Z ca cb cc cd ce o_COMPACT_STRINGS h0 n0) ({ frames := 4, cells := 3, slots := 8, locals := 66 } : Room).cells ({ frames := 4, cells := 3, slots := 8, locals := 66 } : Room).slots (s₁.setTop (entryFrame m #[(.int (2 : Int32)), (.int ca), (.int cb), (.int cc), (.int cd), (.int ce)] 6))
  refine own_go (fun zt zk => castTop (own_ef_own_rmake2 m ca cb cc cd ce) zk) ?_
  show own_Go p e below s _ _ _ (s₁.setTop (mkF m 0 #[iv (2 : Int32), iv ca, iv cb, iv cc, iv cd, iv ce] []))
  refine own_go (fun zt zk => (XS.iloadN X0.here hx rfl (hb hby own_d2_0) rfl (XS.ifYes X0.here hx rfl (pc0 := 1) (pc' := 15) rfl (hb hby own_d2_1) rfl ((if0 _ _).trans (feq ((by decide) : ¬ ((2 : Int32) = (0 : Int32)))).2) (by decide) (by decide) (XS.iloadN X0.here hx rfl (hb hby own_d2_15) rfl (XS.iconst X0.here hx rfl (hb hby own_d2_16) (XS.icmpYes X0.here hx rfl (pc0 := 17) (pc' := 35) rfl (hb hby own_d2_17) rfl (feq ((by decide) : ¬ ((2 : Int32) = (1 : Int32)))).2 (by decide) (by decide) (XS.iloadN X0.here hx rfl (hb hby own_d2_35) rfl (XS.iconst X0.here hx rfl (hb hby own_d2_36) (XS.icmpNo X0.here hx rfl (hb hby own_d2_37) rfl (teq (rfl : (2 : Int32) = (2 : Int32))).2 zk))))))))) ?_
  show own_Go p e below s _ _ _ (s₁.setTop (mkF m 40 #[iv (2 : Int32), iv ca, iv cb, iv cc, iv cd, iv ce] []))
  obtain ⟨T1, h1, X1, e1, E1, A1, D1, -, st1⟩ := newO X0 hx hZ hown (hw _ (List.mem_of_getElem? (i := 8) rfl)) (hw _ (List.mem_of_getElem? (i := 9) rfl)) (hw _ (List.mem_of_getElem? (i := 10) rfl)) e0 (g := (mkF m 40 #[iv (2 : Int32), iv ca, iv cb, iv cc, iv cd, iv ce] [])) rfl (hb hby own_d2_40) (by decide) (by decide)
  obtain ⟨b1, g1⟩ : ∃ z, z = h0.size := ⟨_, rfl⟩
  rw [← g1] at A1 D1 st1
  refine own_go st1 ?_
  have sz_b1 : h0.size ≤ b1 := Nat.le_trans Kp.1 (Nat.le_of_eq g1.symm)
  have g_b1 : n0 ≤ b1 := Nat.le_trans Z0 sz_b1
  replace O := O.ext E1
  replace Kp := Kp.ext E1
  have Ex_b1 := A1
  have F_value_b1 : Fld Z h1 b1 "java/lang/String" "value" "[B" .null := D1 (Or.inr (hw _ (List.mem_of_getElem? (i := 23) rfl))) (ty := (.array .byte)) (by decide)
  have F_coder_b1 : Fld Z h1 b1 "java/lang/String" "coder" "B" (.int (0 : Int32)) := D1 (Or.inr (hw _ (List.mem_of_getElem? (i := 24) rfl))) (ty := .byte) (by decide)
  show own_Go p e below s _ _ _ (T1.setTop (mkF m 43 #[iv (2 : Int32), iv ca, iv cb, iv cc, iv cd, iv ce] [(.ref b1)]))
  refine own_go (fun zt zk => (XS.dup X1.here hx rfl (hb hby own_d2_43) rfl rfl (XS.iconst X1.here hx rfl (hb hby own_d2_44) zk))) ?_
  show own_Go p e below s _ _ _ (T1.setTop (mkF m 45 #[iv (2 : Int32), iv ca, iv cb, iv cc, iv cd, iv ce] [(.int (2 : Int32)), (.ref b1), (.ref b1)]))
  obtain ⟨T2, h2, k2, X2, e2, E2, A2, Ea2, st2⟩ := newPE X1 hx hZ (hw _ (List.mem_of_getElem? (i := 4) rfl)) e1 (g := (mkF m 45 #[iv (2 : Int32), iv ca, iv cb, iv cc, iv cd, iv ce] [(.int (2 : Int32)), (.ref b1), (.ref b1)])) rfl (hb hby own_d2_45) rfl (by decide) (cap := 2) (by decide) (by decide) (by decide) (by decide) (ad := "[C") (by decide)
  obtain ⟨b2, g2⟩ : ∃ z, z = h1.size := ⟨_, rfl⟩
  rw [← g2] at A2 Ea2 st2
  refine own_go st2 ?_
  have ne_b1_b2 : b1 ≠ b2 := Nat.ne_of_lt (Nat.lt_of_lt_of_le Ex_b1.lt (Nat.le_of_eq g2.symm))
  have sz_b2 : h0.size ≤ b2 := Nat.le_trans Kp.1 (Nat.le_of_eq g2.symm)
  have g_b2 : n0 ≤ b2 := Nat.le_trans Z0 sz_b2
  replace O := O.ext E2
  replace Kp := Kp.ext E2
  replace Ex_b1 := Ex_b1.ext E2
  replace F_value_b1 := F_value_b1.ext E2
  replace F_coder_b1 := F_coder_b1.ext E2
  have V_b2 : Arv Z h2 b2 k2 .char (2 : Int32) [(.int (0 : Int32)), (.int (0 : Int32))] (.int (0 : Int32)) := (Arv.new A2 (by decide)).pad (pad_rep [] (.int (0 : Int32)) 2)
  have Ea_b2 := Ea2
  show own_Go p e below s _ _ _ (T2.setTop (mkF m 47 #[iv (2 : Int32), iv ca, iv cb, iv cc, iv cd, iv ce] [(.ref b2), (.ref b1), (.ref b1)]))
  refine own_go (fun zt zk => (XS.dup X2.here hx rfl (hb hby own_d2_47) rfl rfl (XS.iconst X2.here hx rfl (hb hby own_d2_48) (XS.iloadN X2.here hx rfl (hb hby own_d2_49) rfl zk)))) ?_
  show own_Go p e below s _ _ _ (T2.setTop (mkF m 50 #[iv (2 : Int32), iv ca, iv cb, iv cc, iv cd, iv ce] [(.int ca), (.int (0 : Int32)), (.ref b2), (.ref b2), (.ref b1), (.ref b1)]))
  obtain ⟨cl3, Ar3, q3, Sz3, Nz3, Ha3, Ga3⟩ := id V_b2
  have hin3 : ¬ ((0 : Int32) < 0 ∨ cl3.slots.size ≤ ((0 : Int32)).toNatClampNeg) := inb_of Sz3 ⟨by decide, by decide⟩
  obtain ⟨T4, h4, X4, e4, W4, st4⟩ := stC X2 hx hZ e2 Ar3 (j := (0 : Int32)) hin3 (g := (mkF m 50 #[iv (2 : Int32), iv ca, iv cb, iv cc, iv cd, iv ce] [(.int ca), (.int (0 : Int32)), (.ref b2), (.ref b2), (.ref b1), (.ref b1)])) rfl rfl (hb hby own_d2_50)
  refine own_go st4 ?_
  rw [show nar .char ca = ca from own_narc hr_ca] at W4
  have V4 := Arv.set Ar3 q3 Sz3 Nz3 Ha3 Ga3 (own_fitc hr_ca) W4 0 rfl (Nat.le_of_ble_eq_true rfl)
  have N4 := Fr.snoc X4 N0 g_b2
  replace O := O.wr W4 g_b2
  replace Kp := Kp.wr W4 (Or.inr sz_b2)
  replace Ex_b1 := Ex_b1.wr W4
  replace F_value_b1 := F_value_b1.other W4 (Or.inl ne_b1_b2)
  replace F_coder_b1 := F_coder_b1.other W4 (Or.inl ne_b1_b2)
  replace Ea_b2 := Ea_b2.wr W4
  replace V_b2 : Arv Z h4 b2 k2 .char (2 : Int32) [(.int ca), (.int (0 : Int32))] (.int (0 : Int32)) := V4
  show own_Go p e below s _ _ _ (T4.setTop (mkF m 51 #[iv (2 : Int32), iv ca, iv cb, iv cc, iv cd, iv ce] [(.ref b2), (.ref b1), (.ref b1)]))
  refine own_go (fun zt zk => (XS.dup X4.here hx rfl (hb hby own_d2_51) rfl rfl (XS.iconst X4.here hx rfl (hb hby own_d2_52) (XS.iloadN X4.here hx rfl (hb hby own_d2_53) rfl zk)))) ?_
  show own_Go p e below s _ _ _ (T4.setTop (mkF m 54 #[iv (2 : Int32), iv ca, iv cb, iv cc, iv cd, iv ce] [(.int cb), (.int (1 : Int32)), (.ref b2), (.ref b2), (.ref b1), (.ref b1)]))
  obtain ⟨cl5, Ar5, q5, Sz5, Nz5, Ha5, Ga5⟩ := id V_b2
  have hin5 : ¬ ((1 : Int32) < 0 ∨ cl5.slots.size ≤ ((1 : Int32)).toNatClampNeg) := inb_of Sz5 ⟨by decide, by decide⟩
  obtain ⟨T6, h6, X6, e6, W6, st6⟩ := stC X4 hx hZ e4 Ar5 (j := (1 : Int32)) hin5 (g := (mkF m 54 #[iv (2 : Int32), iv ca, iv cb, iv cc, iv cd, iv ce] [(.int cb), (.int (1 : Int32)), (.ref b2), (.ref b2), (.ref b1), (.ref b1)])) rfl rfl (hb hby own_d2_54)
  refine own_go st6 ?_
  rw [show nar .char cb = cb from own_narc hr_cb] at W6
  have V6 := Arv.set Ar5 q5 Sz5 Nz5 Ha5 Ga5 (own_fitc hr_cb) W6 1 rfl (Nat.le_of_ble_eq_true rfl)
  have N6 := Fr.snoc X6 N4 g_b2
  replace O := O.wr W6 g_b2
  replace Kp := Kp.wr W6 (Or.inr sz_b2)
  replace Ex_b1 := Ex_b1.wr W6
  replace F_value_b1 := F_value_b1.other W6 (Or.inl ne_b1_b2)
  replace F_coder_b1 := F_coder_b1.other W6 (Or.inl ne_b1_b2)
  replace Ea_b2 := Ea_b2.wr W6
  replace V_b2 : Arv Z h6 b2 k2 .char (2 : Int32) [(.int ca), (.int cb)] (.int (0 : Int32)) := V6
  show own_Go p e below s _ _ _ (T6.setTop (mkF m 55 #[iv (2 : Int32), iv ca, iv cb, iv cc, iv cd, iv ce] [(.ref b2), (.ref b1), (.ref b1)]))
  obtain ⟨_, _, ⟨T7, L7, k7, n7⟩, -, X7, ⟨Lc7, hQ7, l7, y7, z7⟩, st7⟩ := X6.specialBack hx (y := (⟨"java/lang/String", "<init>", "([C)V"⟩ : MethodName)) rfl hown (mvT hZ (hw _ (List.mem_of_getElem? (i := 11) rfl))) (mvT hZ (hw _ (List.mem_of_getElem? (i := 12) rfl))) (mvT hZ (hw _ (List.mem_of_getElem? (i := 13) rfl))) (by decide) (StrChars.Road.backV (W := 1) hZ (own_hnew Z a0 hw) (kI := 4) (hw _ (List.mem_of_getElem? (i := 9) rfl)) (cs := [ca, cb]) (bs := [(ca.toInt8.toInt32), (cb.toInt8.toInt32)]) (n := 2) g_b1 (Nat.le_trans Z0 Kp.1) Ex_b1 F_value_b1 F_coder_b1 V_b2 (S_o_COMPACT_STRINGS.ext O.2) nz_o_COMPACT_STRINGS rfl rfl (by decide) (by decide) (own_ac hr_ca (own_ac hr_cb own_an)) rfl (by decide) (by decide)) (g := (mkF m 55 #[iv (2 : Int32), iv ca, iv cb, iv cc, iv cd, iv ce] [(.ref b2), (.ref b1), (.ref b1)])) rfl (by rw [hml]; rfl) (Steps.refl _) (a := b1) (argsL := [(.ref b2)]) (rest := [(.ref b1)]) (lenOf own_pd___C_V rfl) rfl (by show 2 * 0 + _ ≤ _; exact Nat.le_of_eq rfl) (hb hby own_d2_55) (fun _ _ => ⟨rfl, e6, (by decide : 2 + 1 ≤ _), (by decide : 6 + 2 ≤ _)⟩)
  dsimp only [Pt.U, Pt.locs, Pt.cells, Pt.slots] at X7 l7 y7 z7 st7 hQ7
  subst l7 y7 z7
  obtain ⟨rfl, Nq7, K7, -, Fc7, t7, kb7, -, sz7, -, Fv7, Vt7⟩ := hQ7
  have sz_t7 : h0.size ≤ t7 := Nat.le_trans Kp.1 sz7
  have g_t7 : n0 ≤ t7 := Nat.le_trans Z0 sz_t7
  have ne_b1_t7 : b1 ≠ t7 := Nat.ne_of_lt (Nat.lt_of_lt_of_le Ex_b1.lt sz7)
  have ne_b2_t7 : b2 ≠ t7 := Nat.ne_of_lt (Nat.lt_of_lt_of_le V_b2.lt sz7)
  have N7 := Fr.app N6 Nq7
  refine own_go (fun zt zk => st7.trans zk) ?_
  replace O := O.keep K7 (allS g_b1 all0)
  replace Kp := Kp.trans K7 (allS (Or.inr sz_b1) all0)
  replace Ex_b1 := Ex_b1.keep K7
  replace V_b2 := V_b2.keep K7 (ninS (Ne.symm ne_b1_b2) nin0)
  replace Ea_b2 := Ea_b2.keep K7
  show own_Go p e below s _ _ _ (T7.setTop (mkF m 58 #[iv (2 : Int32), iv ca, iv cb, iv cc, iv cd, iv ce] [(.ref b1)]))
  exact own_fin X7 Bd.notSynchronized (fun h => by rw [Bd.returns] at h; cases h) (fun fs hr => retOut X7 hx (t := (.object "java/lang/String")) (w := (.ref b1)) Bd.returns rfl (Or.inr (Or.inr (Or.inr (Or.inr ⟨rfl, rfl, rfl⟩)))) (hb hby own_d2_58) hr) ⟨_, _, _, rfl, N7, Kp, sz_b1, Ex_b1, Fv7, Fc7, Vt7⟩ (by decide) (by decide)
theorem own_d2_59 : decode method_4_code 59 = .ok (.iload_n 0, 1) := by decide +kernel
theorem own_d2_60 : decode method_4_code 60 = .ok (.iconst 3, 1) := by decide +kernel
theorem own_d2_61 : decode method_4_code 61 = .ok (.if_icmp .ne 26, 3) := by decide +kernel
theorem own_d2_64 : decode method_4_code 64 = .ok (.new 28, 3) := by decide +kernel
theorem own_d2_67 : decode method_4_code 67 = .ok (.dup, 1) := by decide +kernel
theorem own_d2_68 : decode method_4_code 68 = .ok (.iconst 3, 1) := by decide +kernel
theorem own_d2_69 : decode method_4_code 69 = .ok (.newarray .char, 2) := by decide +kernel
theorem own_d2_71 : decode method_4_code 71 = .ok (.dup, 1) := by decide +kernel
theorem own_d2_72 : decode method_4_code 72 = .ok (.iconst 0, 1) := by decide +kernel
theorem own_d2_73 : decode method_4_code 73 = .ok (.iload_n 1, 1) := by decide +kernel
theorem own_d2_74 : decode method_4_code 74 = .ok (.castore, 1) := by decide +kernel
theorem own_d2_75 : decode method_4_code 75 = .ok (.dup, 1) := by decide +kernel
theorem own_d2_76 : decode method_4_code 76 = .ok (.iconst 1, 1) := by decide +kernel
theorem own_d2_77 : decode method_4_code 77 = .ok (.iload_n 2, 1) := by decide +kernel
theorem own_d2_78 : decode method_4_code 78 = .ok (.castore, 1) := by decide +kernel
theorem own_d2_79 : decode method_4_code 79 = .ok (.dup, 1) := by decide +kernel
theorem own_d2_80 : decode method_4_code 80 = .ok (.iconst 2, 1) := by decide +kernel
theorem own_d2_81 : decode method_4_code 81 = .ok (.iload_n 3, 1) := by decide +kernel
theorem own_d2_82 : decode method_4_code 82 = .ok (.castore, 1) := by decide +kernel
theorem own_d2_83 : decode method_4_code 83 = .ok (.invokespecial 37, 3) := by decide +kernel
theorem own_d2_86 : decode method_4_code 86 = .ok (.areturn, 1) := by decide +kernel
theorem own_ef_own_rmake3 (m : MethodId) (ca : Int32) (cb : Int32) (cc : Int32) (cd : Int32) (ce : Int32) : entryFrame m #[(.int (3 : Int32)), (.int ca), (.int cb), (.int cc), (.int cd), (.int ce)] 6 = mkF m 0 #[iv (3 : Int32), iv ca, iv cb, iv cc, iv cd, iv ce] [] := by first | (simp [entryFrame, mkF, argsToLocals, Value.category]; done) | rfl
def own_Q_own_rmake3 (Z : State) (ca : Int32) (cb : Int32) (cc : Int32) (cd : Int32) (ce : Int32) (o_COMPACT_STRINGS : Int32) (h0 : Heap) (n0 : Nat) (v : Option Value) (h : Heap) (L : List Loc) : Prop := ∃ b t kb, v = some (.ref b) ∧ Fr n0 L ∧ Keep h0 h [] ∧ h0.size ≤ b ∧ Exa Z h b "java/lang/String" ∧ Fld Z h b "java/lang/String" "value" "[B" (.ref t) ∧ Fld Z h b "java/lang/String" "coder" "B" (.int (0 : Int32)) ∧ Arv Z h t kb .byte (3 : Int32) [(.int (ca.toInt8.toInt32)), (.int (cb.toInt8.toInt32)), (.int (cc.toInt8.toInt32))] (.int (0 : Int32))
set_option maxRecDepth 65536 in
set_option maxHeartbeats 40000000 in
theorem own_rmake3 (l : Launch) (Z : State) (a0 : Array Value) (hw : ∀ d ∈ tables_1, d.before a0 Z = true) (ws : List Jvm.Cond) (ca : Int32) (cb : Int32) (cc : Int32) (cd : Int32) (ce : Int32) (o_COMPACT_STRINGS : Int32) (h0 : Heap) (n0 : Nat) (Z0 : n0 ≤ h0.size) (O : Old Z n0 h0) (S_o_COMPACT_STRINGS : Sta Z Z.heap "java/lang/String" "COMPACT_STRINGS" "Z" (.int o_COMPACT_STRINGS)) (nz_o_COMPACT_STRINGS : ¬ (o_COMPACT_STRINGS = (0 : Int32))) (hr_ca : ¬ (ca < (0 : Int32)) ∧ ¬ ((255 : Int32) < ca)) (hr_cb : ¬ (cb < (0 : Int32)) ∧ ¬ ((255 : Int32) < cb)) (hr_cc : ¬ (cc < (0 : Int32)) ∧ ¬ ((255 : Int32) < cc)) (hr_cd : ¬ (cd < (0 : Int32)) ∧ ¬ ((255 : Int32) < cd)) (hr_ce : ¬ (ce < (0 : Int32)) ∧ ¬ ((255 : Int32) < ce)) :
    MetFree l (⟨"com/example/boxwright/boxwright/TableNamesLocalNamePinLaw", "make", "(ICCCCC)Ljava/lang/String;"⟩ : MethodName) (head1 (Jvm.Cond.code (⟨"com/example/boxwright/boxwright/TableNamesLocalNamePinLaw", "make", "(ICCCCC)Ljava/lang/String;"⟩ : MethodName) method_4_code 6 (some (.object "java/lang/String")) :: ws) ({ frames := 4, cells := 3, slots := 10, locals := 66 } : Room)) (fun a U => a = #[(.int (3 : Int32)), (.int ca), (.int cb), (.int cc), (.int cd), (.int ce)] ∧ Z.Warmed39 U.vm ∧ U.heap = h0) (fun _ _ _ _ _ => True) (fun _ U o U' => ∃ v L, o = .returned v ∧ own_Q_own_rmake3 Z ca cb cc cd ce o_COMPACT_STRINGS h0 n0 v U'.heap L ∧ FrameEnd U o U' L ({ frames := 4, cells := 3, slots := 10, locals := 66 } : Room).cells ({ frames := 4, cells := 3, slots := 10, locals := 66 } : Room).slots) := by
  refine MetFree.of_bodySF (plainFor_of_name own_pn_com_example_boxwright_boxwright_TableNamesLocalNamePinLaw) hisR ?_
  intro p e s m args below meth c s₁ Bd hml0 hP hK
  obtain ⟨rfl, hZ, hh⟩ := hP
  have hx := Bd.exec
  have hby := Bd.bytes
  have hml : c.maxLocals = 6 := hml0
  have hown : s.vm.findClass "com/example/boxwright/boxwright/TableNamesLocalNamePinLaw" = some m.cls := findClass_of_methodNamed Bd.named
  have hnm := (name_of_methodNamed Bd.named Bd.method).1
  have X0 : Stand p l e ({ frames := 4, cells := 3, slots := 10, locals := 66 } : Room) s m #[(.int (3 : Int32)), (.int ca), (.int cb), (.int cc), (.int cd), (.int ce)] below meth c s₁ [] 0 0 := Stand.of_body Bd
  have e0 : s₁.heap = h0 := by rw [← hh, Bd.state]; rfl
  have N0 := Fr.nil n0
  have Kp : Keep h0 h0 [] := Keep.refl h0 _
  show own_Go p e below s (own_Q_own_rmake3 Z ca cb cc cd ce o_COMPACT_STRINGS h0 n0) ({ frames := 4, cells := 3, slots := 10, locals := 66 } : Room).cells ({ frames := 4, cells := 3, slots := 10, locals := 66 } : Room).slots (s₁.setTop (entryFrame m #[(.int (3 : Int32)), (.int ca), (.int cb), (.int cc), (.int cd), (.int ce)] 6))
  refine own_go (fun zt zk => castTop (own_ef_own_rmake3 m ca cb cc cd ce) zk) ?_
  show own_Go p e below s _ _ _ (s₁.setTop (mkF m 0 #[iv (3 : Int32), iv ca, iv cb, iv cc, iv cd, iv ce] []))
  refine own_go (fun zt zk => (XS.iloadN X0.here hx rfl (hb hby own_d2_0) rfl (XS.ifYes X0.here hx rfl (pc0 := 1) (pc' := 15) rfl (hb hby own_d2_1) rfl ((if0 _ _).trans (feq ((by decide) : ¬ ((3 : Int32) = (0 : Int32)))).2) (by decide) (by decide) (XS.iloadN X0.here hx rfl (hb hby own_d2_15) rfl (XS.iconst X0.here hx rfl (hb hby own_d2_16) (XS.icmpYes X0.here hx rfl (pc0 := 17) (pc' := 35) rfl (hb hby own_d2_17) rfl (feq ((by decide) : ¬ ((3 : Int32) = (1 : Int32)))).2 (by decide) (by decide) (XS.iloadN X0.here hx rfl (hb hby own_d2_35) rfl (XS.iconst X0.here hx rfl (hb hby own_d2_36) (XS.icmpYes X0.here hx rfl (pc0 := 37) (pc' := 59) rfl (hb hby own_d2_37) rfl (feq ((by decide) : ¬ ((3 : Int32) = (2 : Int32)))).2 (by decide) (by decide) (XS.iloadN X0.here hx rfl (hb hby own_d2_59) rfl (XS.iconst X0.here hx rfl (hb hby own_d2_60) (XS.icmpNo X0.here hx rfl (hb hby own_d2_61) rfl (teq (rfl : (3 : Int32) = (3 : Int32))).2 zk)))))))))))) ?_
  show own_Go p e below s _ _ _ (s₁.setTop (mkF m 64 #[iv (3 : Int32), iv ca, iv cb, iv cc, iv cd, iv ce] []))
  obtain ⟨T1, h1, X1, e1, E1, A1, D1, -, st1⟩ := newO X0 hx hZ hown (hw _ (List.mem_of_getElem? (i := 8) rfl)) (hw _ (List.mem_of_getElem? (i := 9) rfl)) (hw _ (List.mem_of_getElem? (i := 10) rfl)) e0 (g := (mkF m 64 #[iv (3 : Int32), iv ca, iv cb, iv cc, iv cd, iv ce] [])) rfl (hb hby own_d2_64) (by decide) (by decide)
  obtain ⟨b1, g1⟩ : ∃ z, z = h0.size := ⟨_, rfl⟩
  rw [← g1] at A1 D1 st1
  refine own_go st1 ?_
  have sz_b1 : h0.size ≤ b1 := Nat.le_trans Kp.1 (Nat.le_of_eq g1.symm)
  have g_b1 : n0 ≤ b1 := Nat.le_trans Z0 sz_b1
  replace O := O.ext E1
  replace Kp := Kp.ext E1
  have Ex_b1 := A1
  have F_value_b1 : Fld Z h1 b1 "java/lang/String" "value" "[B" .null := D1 (Or.inr (hw _ (List.mem_of_getElem? (i := 23) rfl))) (ty := (.array .byte)) (by decide)
  have F_coder_b1 : Fld Z h1 b1 "java/lang/String" "coder" "B" (.int (0 : Int32)) := D1 (Or.inr (hw _ (List.mem_of_getElem? (i := 24) rfl))) (ty := .byte) (by decide)
  show own_Go p e below s _ _ _ (T1.setTop (mkF m 67 #[iv (3 : Int32), iv ca, iv cb, iv cc, iv cd, iv ce] [(.ref b1)]))
  refine own_go (fun zt zk => (XS.dup X1.here hx rfl (hb hby own_d2_67) rfl rfl (XS.iconst X1.here hx rfl (hb hby own_d2_68) zk))) ?_
  show own_Go p e below s _ _ _ (T1.setTop (mkF m 69 #[iv (3 : Int32), iv ca, iv cb, iv cc, iv cd, iv ce] [(.int (3 : Int32)), (.ref b1), (.ref b1)]))
  obtain ⟨T2, h2, k2, X2, e2, E2, A2, Ea2, st2⟩ := newPE X1 hx hZ (hw _ (List.mem_of_getElem? (i := 4) rfl)) e1 (g := (mkF m 69 #[iv (3 : Int32), iv ca, iv cb, iv cc, iv cd, iv ce] [(.int (3 : Int32)), (.ref b1), (.ref b1)])) rfl (hb hby own_d2_69) rfl (by decide) (cap := 3) (by decide) (by decide) (by decide) (by decide) (ad := "[C") (by decide)
  obtain ⟨b2, g2⟩ : ∃ z, z = h1.size := ⟨_, rfl⟩
  rw [← g2] at A2 Ea2 st2
  refine own_go st2 ?_
  have ne_b1_b2 : b1 ≠ b2 := Nat.ne_of_lt (Nat.lt_of_lt_of_le Ex_b1.lt (Nat.le_of_eq g2.symm))
  have sz_b2 : h0.size ≤ b2 := Nat.le_trans Kp.1 (Nat.le_of_eq g2.symm)
  have g_b2 : n0 ≤ b2 := Nat.le_trans Z0 sz_b2
  replace O := O.ext E2
  replace Kp := Kp.ext E2
  replace Ex_b1 := Ex_b1.ext E2
  replace F_value_b1 := F_value_b1.ext E2
  replace F_coder_b1 := F_coder_b1.ext E2
  have V_b2 : Arv Z h2 b2 k2 .char (3 : Int32) [(.int (0 : Int32)), (.int (0 : Int32)), (.int (0 : Int32))] (.int (0 : Int32)) := (Arv.new A2 (by decide)).pad (pad_rep [] (.int (0 : Int32)) 3)
  have Ea_b2 := Ea2
  show own_Go p e below s _ _ _ (T2.setTop (mkF m 71 #[iv (3 : Int32), iv ca, iv cb, iv cc, iv cd, iv ce] [(.ref b2), (.ref b1), (.ref b1)]))
  refine own_go (fun zt zk => (XS.dup X2.here hx rfl (hb hby own_d2_71) rfl rfl (XS.iconst X2.here hx rfl (hb hby own_d2_72) (XS.iloadN X2.here hx rfl (hb hby own_d2_73) rfl zk)))) ?_
  show own_Go p e below s _ _ _ (T2.setTop (mkF m 74 #[iv (3 : Int32), iv ca, iv cb, iv cc, iv cd, iv ce] [(.int ca), (.int (0 : Int32)), (.ref b2), (.ref b2), (.ref b1), (.ref b1)]))
  obtain ⟨cl3, Ar3, q3, Sz3, Nz3, Ha3, Ga3⟩ := id V_b2
  have hin3 : ¬ ((0 : Int32) < 0 ∨ cl3.slots.size ≤ ((0 : Int32)).toNatClampNeg) := inb_of Sz3 ⟨by decide, by decide⟩
  obtain ⟨T4, h4, X4, e4, W4, st4⟩ := stC X2 hx hZ e2 Ar3 (j := (0 : Int32)) hin3 (g := (mkF m 74 #[iv (3 : Int32), iv ca, iv cb, iv cc, iv cd, iv ce] [(.int ca), (.int (0 : Int32)), (.ref b2), (.ref b2), (.ref b1), (.ref b1)])) rfl rfl (hb hby own_d2_74)
  refine own_go st4 ?_
  rw [show nar .char ca = ca from own_narc hr_ca] at W4
  have V4 := Arv.set Ar3 q3 Sz3 Nz3 Ha3 Ga3 (own_fitc hr_ca) W4 0 rfl (Nat.le_of_ble_eq_true rfl)
  have N4 := Fr.snoc X4 N0 g_b2
  replace O := O.wr W4 g_b2
  replace Kp := Kp.wr W4 (Or.inr sz_b2)
  replace Ex_b1 := Ex_b1.wr W4
  replace F_value_b1 := F_value_b1.other W4 (Or.inl ne_b1_b2)
  replace F_coder_b1 := F_coder_b1.other W4 (Or.inl ne_b1_b2)
  replace Ea_b2 := Ea_b2.wr W4
  replace V_b2 : Arv Z h4 b2 k2 .char (3 : Int32) [(.int ca), (.int (0 : Int32)), (.int (0 : Int32))] (.int (0 : Int32)) := V4
  show own_Go p e below s _ _ _ (T4.setTop (mkF m 75 #[iv (3 : Int32), iv ca, iv cb, iv cc, iv cd, iv ce] [(.ref b2), (.ref b1), (.ref b1)]))
  refine own_go (fun zt zk => (XS.dup X4.here hx rfl (hb hby own_d2_75) rfl rfl (XS.iconst X4.here hx rfl (hb hby own_d2_76) (XS.iloadN X4.here hx rfl (hb hby own_d2_77) rfl zk)))) ?_
  show own_Go p e below s _ _ _ (T4.setTop (mkF m 78 #[iv (3 : Int32), iv ca, iv cb, iv cc, iv cd, iv ce] [(.int cb), (.int (1 : Int32)), (.ref b2), (.ref b2), (.ref b1), (.ref b1)]))
  obtain ⟨cl5, Ar5, q5, Sz5, Nz5, Ha5, Ga5⟩ := id V_b2
  have hin5 : ¬ ((1 : Int32) < 0 ∨ cl5.slots.size ≤ ((1 : Int32)).toNatClampNeg) := inb_of Sz5 ⟨by decide, by decide⟩
  obtain ⟨T6, h6, X6, e6, W6, st6⟩ := stC X4 hx hZ e4 Ar5 (j := (1 : Int32)) hin5 (g := (mkF m 78 #[iv (3 : Int32), iv ca, iv cb, iv cc, iv cd, iv ce] [(.int cb), (.int (1 : Int32)), (.ref b2), (.ref b2), (.ref b1), (.ref b1)])) rfl rfl (hb hby own_d2_78)
  refine own_go st6 ?_
  rw [show nar .char cb = cb from own_narc hr_cb] at W6
  have V6 := Arv.set Ar5 q5 Sz5 Nz5 Ha5 Ga5 (own_fitc hr_cb) W6 1 rfl (Nat.le_of_ble_eq_true rfl)
  have N6 := Fr.snoc X6 N4 g_b2
  replace O := O.wr W6 g_b2
  replace Kp := Kp.wr W6 (Or.inr sz_b2)
  replace Ex_b1 := Ex_b1.wr W6
  replace F_value_b1 := F_value_b1.other W6 (Or.inl ne_b1_b2)
  replace F_coder_b1 := F_coder_b1.other W6 (Or.inl ne_b1_b2)
  replace Ea_b2 := Ea_b2.wr W6
  replace V_b2 : Arv Z h6 b2 k2 .char (3 : Int32) [(.int ca), (.int cb), (.int (0 : Int32))] (.int (0 : Int32)) := V6
  show own_Go p e below s _ _ _ (T6.setTop (mkF m 79 #[iv (3 : Int32), iv ca, iv cb, iv cc, iv cd, iv ce] [(.ref b2), (.ref b1), (.ref b1)]))
  refine own_go (fun zt zk => (XS.dup X6.here hx rfl (hb hby own_d2_79) rfl rfl (XS.iconst X6.here hx rfl (hb hby own_d2_80) (XS.iloadN X6.here hx rfl (hb hby own_d2_81) rfl zk)))) ?_
  show own_Go p e below s _ _ _ (T6.setTop (mkF m 82 #[iv (3 : Int32), iv ca, iv cb, iv cc, iv cd, iv ce] [(.int cc), (.int (2 : Int32)), (.ref b2), (.ref b2), (.ref b1), (.ref b1)]))
  obtain ⟨cl7, Ar7, q7, Sz7, Nz7, Ha7, Ga7⟩ := id V_b2
  have hin7 : ¬ ((2 : Int32) < 0 ∨ cl7.slots.size ≤ ((2 : Int32)).toNatClampNeg) := inb_of Sz7 ⟨by decide, by decide⟩
  obtain ⟨T8, h8, X8, e8, W8, st8⟩ := stC X6 hx hZ e6 Ar7 (j := (2 : Int32)) hin7 (g := (mkF m 82 #[iv (3 : Int32), iv ca, iv cb, iv cc, iv cd, iv ce] [(.int cc), (.int (2 : Int32)), (.ref b2), (.ref b2), (.ref b1), (.ref b1)])) rfl rfl (hb hby own_d2_82)
  refine own_go st8 ?_
  rw [show nar .char cc = cc from own_narc hr_cc] at W8
  have V8 := Arv.set Ar7 q7 Sz7 Nz7 Ha7 Ga7 (own_fitc hr_cc) W8 2 rfl (Nat.le_of_ble_eq_true rfl)
  have N8 := Fr.snoc X8 N6 g_b2
  replace O := O.wr W8 g_b2
  replace Kp := Kp.wr W8 (Or.inr sz_b2)
  replace Ex_b1 := Ex_b1.wr W8
  replace F_value_b1 := F_value_b1.other W8 (Or.inl ne_b1_b2)
  replace F_coder_b1 := F_coder_b1.other W8 (Or.inl ne_b1_b2)
  replace Ea_b2 := Ea_b2.wr W8
  replace V_b2 : Arv Z h8 b2 k2 .char (3 : Int32) [(.int ca), (.int cb), (.int cc)] (.int (0 : Int32)) := V8
  show own_Go p e below s _ _ _ (T8.setTop (mkF m 83 #[iv (3 : Int32), iv ca, iv cb, iv cc, iv cd, iv ce] [(.ref b2), (.ref b1), (.ref b1)]))
  obtain ⟨_, _, ⟨T9, L9, k9, n9⟩, -, X9, ⟨Lc9, hQ9, l9, y9, z9⟩, st9⟩ := X8.specialBack hx (y := (⟨"java/lang/String", "<init>", "([C)V"⟩ : MethodName)) rfl hown (mvT hZ (hw _ (List.mem_of_getElem? (i := 11) rfl))) (mvT hZ (hw _ (List.mem_of_getElem? (i := 12) rfl))) (mvT hZ (hw _ (List.mem_of_getElem? (i := 13) rfl))) (by decide) (StrChars.Road.backV (W := 1) hZ (own_hnew Z a0 hw) (kI := 4) (hw _ (List.mem_of_getElem? (i := 9) rfl)) (cs := [ca, cb, cc]) (bs := [(ca.toInt8.toInt32), (cb.toInt8.toInt32), (cc.toInt8.toInt32)]) (n := 3) g_b1 (Nat.le_trans Z0 Kp.1) Ex_b1 F_value_b1 F_coder_b1 V_b2 (S_o_COMPACT_STRINGS.ext O.2) nz_o_COMPACT_STRINGS rfl rfl (by decide) (by decide) (own_ac hr_ca (own_ac hr_cb (own_ac hr_cc own_an))) rfl (by decide) (by decide)) (g := (mkF m 83 #[iv (3 : Int32), iv ca, iv cb, iv cc, iv cd, iv ce] [(.ref b2), (.ref b1), (.ref b1)])) rfl (by rw [hml]; rfl) (Steps.refl _) (a := b1) (argsL := [(.ref b2)]) (rest := [(.ref b1)]) (lenOf own_pd___C_V rfl) rfl (by show 2 * 0 + _ ≤ _; exact Nat.le_of_eq rfl) (hb hby own_d2_83) (fun _ _ => ⟨rfl, e8, (by decide : 2 + 1 ≤ _), (by decide : 7 + 3 ≤ _)⟩)
  dsimp only [Pt.U, Pt.locs, Pt.cells, Pt.slots] at X9 l9 y9 z9 st9 hQ9
  subst l9 y9 z9
  obtain ⟨rfl, Nq9, K9, -, Fc9, t9, kb9, -, sz9, -, Fv9, Vt9⟩ := hQ9
  have sz_t9 : h0.size ≤ t9 := Nat.le_trans Kp.1 sz9
  have g_t9 : n0 ≤ t9 := Nat.le_trans Z0 sz_t9
  have ne_b1_t9 : b1 ≠ t9 := Nat.ne_of_lt (Nat.lt_of_lt_of_le Ex_b1.lt sz9)
  have ne_b2_t9 : b2 ≠ t9 := Nat.ne_of_lt (Nat.lt_of_lt_of_le V_b2.lt sz9)
  have N9 := Fr.app N8 Nq9
  refine own_go (fun zt zk => st9.trans zk) ?_
  replace O := O.keep K9 (allS g_b1 all0)
  replace Kp := Kp.trans K9 (allS (Or.inr sz_b1) all0)
  replace Ex_b1 := Ex_b1.keep K9
  replace V_b2 := V_b2.keep K9 (ninS (Ne.symm ne_b1_b2) nin0)
  replace Ea_b2 := Ea_b2.keep K9
  show own_Go p e below s _ _ _ (T9.setTop (mkF m 86 #[iv (3 : Int32), iv ca, iv cb, iv cc, iv cd, iv ce] [(.ref b1)]))
  exact own_fin X9 Bd.notSynchronized (fun h => by rw [Bd.returns] at h; cases h) (fun fs hr => retOut X9 hx (t := (.object "java/lang/String")) (w := (.ref b1)) Bd.returns rfl (Or.inr (Or.inr (Or.inr (Or.inr ⟨rfl, rfl, rfl⟩)))) (hb hby own_d2_86) hr) ⟨_, _, _, rfl, N9, Kp, sz_b1, Ex_b1, Fv9, Fc9, Vt9⟩ (by decide) (by decide)
theorem own_d2_87 : decode method_4_code 87 = .ok (.iload_n 0, 1) := by decide +kernel
theorem own_d2_88 : decode method_4_code 88 = .ok (.iconst 4, 1) := by decide +kernel
theorem own_d2_89 : decode method_4_code 89 = .ok (.if_icmp .ne 31, 3) := by decide +kernel
theorem own_d2_92 : decode method_4_code 92 = .ok (.new 28, 3) := by decide +kernel
theorem own_d2_95 : decode method_4_code 95 = .ok (.dup, 1) := by decide +kernel
theorem own_d2_96 : decode method_4_code 96 = .ok (.iconst 4, 1) := by decide +kernel
theorem own_d2_97 : decode method_4_code 97 = .ok (.newarray .char, 2) := by decide +kernel
theorem own_d2_99 : decode method_4_code 99 = .ok (.dup, 1) := by decide +kernel
theorem own_d2_100 : decode method_4_code 100 = .ok (.iconst 0, 1) := by decide +kernel
theorem own_d2_101 : decode method_4_code 101 = .ok (.iload_n 1, 1) := by decide +kernel
theorem own_d2_102 : decode method_4_code 102 = .ok (.castore, 1) := by decide +kernel
theorem own_d2_103 : decode method_4_code 103 = .ok (.dup, 1) := by decide +kernel
theorem own_d2_104 : decode method_4_code 104 = .ok (.iconst 1, 1) := by decide +kernel
theorem own_d2_105 : decode method_4_code 105 = .ok (.iload_n 2, 1) := by decide +kernel
theorem own_d2_106 : decode method_4_code 106 = .ok (.castore, 1) := by decide +kernel
theorem own_d2_107 : decode method_4_code 107 = .ok (.dup, 1) := by decide +kernel
theorem own_d2_108 : decode method_4_code 108 = .ok (.iconst 2, 1) := by decide +kernel
theorem own_d2_109 : decode method_4_code 109 = .ok (.iload_n 3, 1) := by decide +kernel
theorem own_d2_110 : decode method_4_code 110 = .ok (.castore, 1) := by decide +kernel
theorem own_d2_111 : decode method_4_code 111 = .ok (.dup, 1) := by decide +kernel
theorem own_d2_112 : decode method_4_code 112 = .ok (.iconst 3, 1) := by decide +kernel
theorem own_d2_113 : decode method_4_code 113 = .ok (.iload 4, 2) := by decide +kernel
theorem own_d2_115 : decode method_4_code 115 = .ok (.castore, 1) := by decide +kernel
theorem own_d2_116 : decode method_4_code 116 = .ok (.invokespecial 37, 3) := by decide +kernel
theorem own_d2_119 : decode method_4_code 119 = .ok (.areturn, 1) := by decide +kernel
theorem own_ef_own_rmake4 (m : MethodId) (ca : Int32) (cb : Int32) (cc : Int32) (cd : Int32) (ce : Int32) : entryFrame m #[(.int (4 : Int32)), (.int ca), (.int cb), (.int cc), (.int cd), (.int ce)] 6 = mkF m 0 #[iv (4 : Int32), iv ca, iv cb, iv cc, iv cd, iv ce] [] := by first | (simp [entryFrame, mkF, argsToLocals, Value.category]; done) | rfl
def own_Q_own_rmake4 (Z : State) (ca : Int32) (cb : Int32) (cc : Int32) (cd : Int32) (ce : Int32) (o_COMPACT_STRINGS : Int32) (h0 : Heap) (n0 : Nat) (v : Option Value) (h : Heap) (L : List Loc) : Prop := ∃ b t kb, v = some (.ref b) ∧ Fr n0 L ∧ Keep h0 h [] ∧ h0.size ≤ b ∧ Exa Z h b "java/lang/String" ∧ Fld Z h b "java/lang/String" "value" "[B" (.ref t) ∧ Fld Z h b "java/lang/String" "coder" "B" (.int (0 : Int32)) ∧ Arv Z h t kb .byte (4 : Int32) [(.int (ca.toInt8.toInt32)), (.int (cb.toInt8.toInt32)), (.int (cc.toInt8.toInt32)), (.int (cd.toInt8.toInt32))] (.int (0 : Int32))
set_option maxRecDepth 65536 in
set_option maxHeartbeats 40000000 in
theorem own_rmake4 (l : Launch) (Z : State) (a0 : Array Value) (hw : ∀ d ∈ tables_1, d.before a0 Z = true) (ws : List Jvm.Cond) (ca : Int32) (cb : Int32) (cc : Int32) (cd : Int32) (ce : Int32) (o_COMPACT_STRINGS : Int32) (h0 : Heap) (n0 : Nat) (Z0 : n0 ≤ h0.size) (O : Old Z n0 h0) (S_o_COMPACT_STRINGS : Sta Z Z.heap "java/lang/String" "COMPACT_STRINGS" "Z" (.int o_COMPACT_STRINGS)) (nz_o_COMPACT_STRINGS : ¬ (o_COMPACT_STRINGS = (0 : Int32))) (hr_ca : ¬ (ca < (0 : Int32)) ∧ ¬ ((255 : Int32) < ca)) (hr_cb : ¬ (cb < (0 : Int32)) ∧ ¬ ((255 : Int32) < cb)) (hr_cc : ¬ (cc < (0 : Int32)) ∧ ¬ ((255 : Int32) < cc)) (hr_cd : ¬ (cd < (0 : Int32)) ∧ ¬ ((255 : Int32) < cd)) (hr_ce : ¬ (ce < (0 : Int32)) ∧ ¬ ((255 : Int32) < ce)) :
    MetFree l (⟨"com/example/boxwright/boxwright/TableNamesLocalNamePinLaw", "make", "(ICCCCC)Ljava/lang/String;"⟩ : MethodName) (head1 (Jvm.Cond.code (⟨"com/example/boxwright/boxwright/TableNamesLocalNamePinLaw", "make", "(ICCCCC)Ljava/lang/String;"⟩ : MethodName) method_4_code 6 (some (.object "java/lang/String")) :: ws) ({ frames := 4, cells := 3, slots := 12, locals := 66 } : Room)) (fun a U => a = #[(.int (4 : Int32)), (.int ca), (.int cb), (.int cc), (.int cd), (.int ce)] ∧ Z.Warmed39 U.vm ∧ U.heap = h0) (fun _ _ _ _ _ => True) (fun _ U o U' => ∃ v L, o = .returned v ∧ own_Q_own_rmake4 Z ca cb cc cd ce o_COMPACT_STRINGS h0 n0 v U'.heap L ∧ FrameEnd U o U' L ({ frames := 4, cells := 3, slots := 12, locals := 66 } : Room).cells ({ frames := 4, cells := 3, slots := 12, locals := 66 } : Room).slots) := by
  refine MetFree.of_bodySF (plainFor_of_name own_pn_com_example_boxwright_boxwright_TableNamesLocalNamePinLaw) hisR ?_
  intro p e s m args below meth c s₁ Bd hml0 hP hK
  obtain ⟨rfl, hZ, hh⟩ := hP
  have hx := Bd.exec
  have hby := Bd.bytes
  have hml : c.maxLocals = 6 := hml0
  have hown : s.vm.findClass "com/example/boxwright/boxwright/TableNamesLocalNamePinLaw" = some m.cls := findClass_of_methodNamed Bd.named
  have hnm := (name_of_methodNamed Bd.named Bd.method).1
  have X0 : Stand p l e ({ frames := 4, cells := 3, slots := 12, locals := 66 } : Room) s m #[(.int (4 : Int32)), (.int ca), (.int cb), (.int cc), (.int cd), (.int ce)] below meth c s₁ [] 0 0 := Stand.of_body Bd
  have e0 : s₁.heap = h0 := by rw [← hh, Bd.state]; rfl
  have N0 := Fr.nil n0
  have Kp : Keep h0 h0 [] := Keep.refl h0 _
  show own_Go p e below s (own_Q_own_rmake4 Z ca cb cc cd ce o_COMPACT_STRINGS h0 n0) ({ frames := 4, cells := 3, slots := 12, locals := 66 } : Room).cells ({ frames := 4, cells := 3, slots := 12, locals := 66 } : Room).slots (s₁.setTop (entryFrame m #[(.int (4 : Int32)), (.int ca), (.int cb), (.int cc), (.int cd), (.int ce)] 6))
  refine own_go (fun zt zk => castTop (own_ef_own_rmake4 m ca cb cc cd ce) zk) ?_
  show own_Go p e below s _ _ _ (s₁.setTop (mkF m 0 #[iv (4 : Int32), iv ca, iv cb, iv cc, iv cd, iv ce] []))
  refine own_go (fun zt zk => (XS.iloadN X0.here hx rfl (hb hby own_d2_0) rfl (XS.ifYes X0.here hx rfl (pc0 := 1) (pc' := 15) rfl (hb hby own_d2_1) rfl ((if0 _ _).trans (feq ((by decide) : ¬ ((4 : Int32) = (0 : Int32)))).2) (by decide) (by decide) (XS.iloadN X0.here hx rfl (hb hby own_d2_15) rfl (XS.iconst X0.here hx rfl (hb hby own_d2_16) (XS.icmpYes X0.here hx rfl (pc0 := 17) (pc' := 35) rfl (hb hby own_d2_17) rfl (feq ((by decide) : ¬ ((4 : Int32) = (1 : Int32)))).2 (by decide) (by decide) (XS.iloadN X0.here hx rfl (hb hby own_d2_35) rfl (XS.iconst X0.here hx rfl (hb hby own_d2_36) (XS.icmpYes X0.here hx rfl (pc0 := 37) (pc' := 59) rfl (hb hby own_d2_37) rfl (feq ((by decide) : ¬ ((4 : Int32) = (2 : Int32)))).2 (by decide) (by decide) (XS.iloadN X0.here hx rfl (hb hby own_d2_59) rfl (XS.iconst X0.here hx rfl (hb hby own_d2_60) (XS.icmpYes X0.here hx rfl (pc0 := 61) (pc' := 87) rfl (hb hby own_d2_61) rfl (feq ((by decide) : ¬ ((4 : Int32) = (3 : Int32)))).2 (by decide) (by decide) (XS.iloadN X0.here hx rfl (hb hby own_d2_87) rfl zk))))))))))))) ?_
  show own_Go p e below s _ _ _ (s₁.setTop (mkF m 88 #[iv (4 : Int32), iv ca, iv cb, iv cc, iv cd, iv ce] [(.int (4 : Int32))]))
  refine own_go (fun zt zk => (XS.iconst X0.here hx rfl (hb hby own_d2_88) (XS.icmpNo X0.here hx rfl (hb hby own_d2_89) rfl (teq (rfl : (4 : Int32) = (4 : Int32))).2 zk))) ?_
  show own_Go p e below s _ _ _ (s₁.setTop (mkF m 92 #[iv (4 : Int32), iv ca, iv cb, iv cc, iv cd, iv ce] []))
  obtain ⟨T1, h1, X1, e1, E1, A1, D1, -, st1⟩ := newO X0 hx hZ hown (hw _ (List.mem_of_getElem? (i := 8) rfl)) (hw _ (List.mem_of_getElem? (i := 9) rfl)) (hw _ (List.mem_of_getElem? (i := 10) rfl)) e0 (g := (mkF m 92 #[iv (4 : Int32), iv ca, iv cb, iv cc, iv cd, iv ce] [])) rfl (hb hby own_d2_92) (by decide) (by decide)
  obtain ⟨b1, g1⟩ : ∃ z, z = h0.size := ⟨_, rfl⟩
  rw [← g1] at A1 D1 st1
  refine own_go st1 ?_
  have sz_b1 : h0.size ≤ b1 := Nat.le_trans Kp.1 (Nat.le_of_eq g1.symm)
  have g_b1 : n0 ≤ b1 := Nat.le_trans Z0 sz_b1
  replace O := O.ext E1
  replace Kp := Kp.ext E1
  have Ex_b1 := A1
  have F_value_b1 : Fld Z h1 b1 "java/lang/String" "value" "[B" .null := D1 (Or.inr (hw _ (List.mem_of_getElem? (i := 23) rfl))) (ty := (.array .byte)) (by decide)
  have F_coder_b1 : Fld Z h1 b1 "java/lang/String" "coder" "B" (.int (0 : Int32)) := D1 (Or.inr (hw _ (List.mem_of_getElem? (i := 24) rfl))) (ty := .byte) (by decide)
  show own_Go p e below s _ _ _ (T1.setTop (mkF m 95 #[iv (4 : Int32), iv ca, iv cb, iv cc, iv cd, iv ce] [(.ref b1)]))
  refine own_go (fun zt zk => (XS.dup X1.here hx rfl (hb hby own_d2_95) rfl rfl (XS.iconst X1.here hx rfl (hb hby own_d2_96) zk))) ?_
  show own_Go p e below s _ _ _ (T1.setTop (mkF m 97 #[iv (4 : Int32), iv ca, iv cb, iv cc, iv cd, iv ce] [(.int (4 : Int32)), (.ref b1), (.ref b1)]))
  obtain ⟨T2, h2, k2, X2, e2, E2, A2, Ea2, st2⟩ := newPE X1 hx hZ (hw _ (List.mem_of_getElem? (i := 4) rfl)) e1 (g := (mkF m 97 #[iv (4 : Int32), iv ca, iv cb, iv cc, iv cd, iv ce] [(.int (4 : Int32)), (.ref b1), (.ref b1)])) rfl (hb hby own_d2_97) rfl (by decide) (cap := 4) (by decide) (by decide) (by decide) (by decide) (ad := "[C") (by decide)
  obtain ⟨b2, g2⟩ : ∃ z, z = h1.size := ⟨_, rfl⟩
  rw [← g2] at A2 Ea2 st2
  refine own_go st2 ?_
  have ne_b1_b2 : b1 ≠ b2 := Nat.ne_of_lt (Nat.lt_of_lt_of_le Ex_b1.lt (Nat.le_of_eq g2.symm))
  have sz_b2 : h0.size ≤ b2 := Nat.le_trans Kp.1 (Nat.le_of_eq g2.symm)
  have g_b2 : n0 ≤ b2 := Nat.le_trans Z0 sz_b2
  replace O := O.ext E2
  replace Kp := Kp.ext E2
  replace Ex_b1 := Ex_b1.ext E2
  replace F_value_b1 := F_value_b1.ext E2
  replace F_coder_b1 := F_coder_b1.ext E2
  have V_b2 : Arv Z h2 b2 k2 .char (4 : Int32) [(.int (0 : Int32)), (.int (0 : Int32)), (.int (0 : Int32)), (.int (0 : Int32))] (.int (0 : Int32)) := (Arv.new A2 (by decide)).pad (pad_rep [] (.int (0 : Int32)) 4)
  have Ea_b2 := Ea2
  show own_Go p e below s _ _ _ (T2.setTop (mkF m 99 #[iv (4 : Int32), iv ca, iv cb, iv cc, iv cd, iv ce] [(.ref b2), (.ref b1), (.ref b1)]))
  refine own_go (fun zt zk => (XS.dup X2.here hx rfl (hb hby own_d2_99) rfl rfl (XS.iconst X2.here hx rfl (hb hby own_d2_100) (XS.iloadN X2.here hx rfl (hb hby own_d2_101) rfl zk)))) ?_
  show own_Go p e below s _ _ _ (T2.setTop (mkF m 102 #[iv (4 : Int32), iv ca, iv cb, iv cc, iv cd, iv ce] [(.int ca), (.int (0 : Int32)), (.ref b2), (.ref b2), (.ref b1), (.ref b1)]))
  obtain ⟨cl3, Ar3, q3, Sz3, Nz3, Ha3, Ga3⟩ := id V_b2
  have hin3 : ¬ ((0 : Int32) < 0 ∨ cl3.slots.size ≤ ((0 : Int32)).toNatClampNeg) := inb_of Sz3 ⟨by decide, by decide⟩
  obtain ⟨T4, h4, X4, e4, W4, st4⟩ := stC X2 hx hZ e2 Ar3 (j := (0 : Int32)) hin3 (g := (mkF m 102 #[iv (4 : Int32), iv ca, iv cb, iv cc, iv cd, iv ce] [(.int ca), (.int (0 : Int32)), (.ref b2), (.ref b2), (.ref b1), (.ref b1)])) rfl rfl (hb hby own_d2_102)
  refine own_go st4 ?_
  rw [show nar .char ca = ca from own_narc hr_ca] at W4
  have V4 := Arv.set Ar3 q3 Sz3 Nz3 Ha3 Ga3 (own_fitc hr_ca) W4 0 rfl (Nat.le_of_ble_eq_true rfl)
  have N4 := Fr.snoc X4 N0 g_b2
  replace O := O.wr W4 g_b2
  replace Kp := Kp.wr W4 (Or.inr sz_b2)
  replace Ex_b1 := Ex_b1.wr W4
  replace F_value_b1 := F_value_b1.other W4 (Or.inl ne_b1_b2)
  replace F_coder_b1 := F_coder_b1.other W4 (Or.inl ne_b1_b2)
  replace Ea_b2 := Ea_b2.wr W4
  replace V_b2 : Arv Z h4 b2 k2 .char (4 : Int32) [(.int ca), (.int (0 : Int32)), (.int (0 : Int32)), (.int (0 : Int32))] (.int (0 : Int32)) := V4
  show own_Go p e below s _ _ _ (T4.setTop (mkF m 103 #[iv (4 : Int32), iv ca, iv cb, iv cc, iv cd, iv ce] [(.ref b2), (.ref b1), (.ref b1)]))
  refine own_go (fun zt zk => (XS.dup X4.here hx rfl (hb hby own_d2_103) rfl rfl (XS.iconst X4.here hx rfl (hb hby own_d2_104) (XS.iloadN X4.here hx rfl (hb hby own_d2_105) rfl zk)))) ?_
  show own_Go p e below s _ _ _ (T4.setTop (mkF m 106 #[iv (4 : Int32), iv ca, iv cb, iv cc, iv cd, iv ce] [(.int cb), (.int (1 : Int32)), (.ref b2), (.ref b2), (.ref b1), (.ref b1)]))
  obtain ⟨cl5, Ar5, q5, Sz5, Nz5, Ha5, Ga5⟩ := id V_b2
  have hin5 : ¬ ((1 : Int32) < 0 ∨ cl5.slots.size ≤ ((1 : Int32)).toNatClampNeg) := inb_of Sz5 ⟨by decide, by decide⟩
  obtain ⟨T6, h6, X6, e6, W6, st6⟩ := stC X4 hx hZ e4 Ar5 (j := (1 : Int32)) hin5 (g := (mkF m 106 #[iv (4 : Int32), iv ca, iv cb, iv cc, iv cd, iv ce] [(.int cb), (.int (1 : Int32)), (.ref b2), (.ref b2), (.ref b1), (.ref b1)])) rfl rfl (hb hby own_d2_106)
  refine own_go st6 ?_
  rw [show nar .char cb = cb from own_narc hr_cb] at W6
  have V6 := Arv.set Ar5 q5 Sz5 Nz5 Ha5 Ga5 (own_fitc hr_cb) W6 1 rfl (Nat.le_of_ble_eq_true rfl)
  have N6 := Fr.snoc X6 N4 g_b2
  replace O := O.wr W6 g_b2
  replace Kp := Kp.wr W6 (Or.inr sz_b2)
  replace Ex_b1 := Ex_b1.wr W6
  replace F_value_b1 := F_value_b1.other W6 (Or.inl ne_b1_b2)
  replace F_coder_b1 := F_coder_b1.other W6 (Or.inl ne_b1_b2)
  replace Ea_b2 := Ea_b2.wr W6
  replace V_b2 : Arv Z h6 b2 k2 .char (4 : Int32) [(.int ca), (.int cb), (.int (0 : Int32)), (.int (0 : Int32))] (.int (0 : Int32)) := V6
  show own_Go p e below s _ _ _ (T6.setTop (mkF m 107 #[iv (4 : Int32), iv ca, iv cb, iv cc, iv cd, iv ce] [(.ref b2), (.ref b1), (.ref b1)]))
  refine own_go (fun zt zk => (XS.dup X6.here hx rfl (hb hby own_d2_107) rfl rfl (XS.iconst X6.here hx rfl (hb hby own_d2_108) (XS.iloadN X6.here hx rfl (hb hby own_d2_109) rfl zk)))) ?_
  show own_Go p e below s _ _ _ (T6.setTop (mkF m 110 #[iv (4 : Int32), iv ca, iv cb, iv cc, iv cd, iv ce] [(.int cc), (.int (2 : Int32)), (.ref b2), (.ref b2), (.ref b1), (.ref b1)]))
  obtain ⟨cl7, Ar7, q7, Sz7, Nz7, Ha7, Ga7⟩ := id V_b2
  have hin7 : ¬ ((2 : Int32) < 0 ∨ cl7.slots.size ≤ ((2 : Int32)).toNatClampNeg) := inb_of Sz7 ⟨by decide, by decide⟩
  obtain ⟨T8, h8, X8, e8, W8, st8⟩ := stC X6 hx hZ e6 Ar7 (j := (2 : Int32)) hin7 (g := (mkF m 110 #[iv (4 : Int32), iv ca, iv cb, iv cc, iv cd, iv ce] [(.int cc), (.int (2 : Int32)), (.ref b2), (.ref b2), (.ref b1), (.ref b1)])) rfl rfl (hb hby own_d2_110)
  refine own_go st8 ?_
  rw [show nar .char cc = cc from own_narc hr_cc] at W8
  have V8 := Arv.set Ar7 q7 Sz7 Nz7 Ha7 Ga7 (own_fitc hr_cc) W8 2 rfl (Nat.le_of_ble_eq_true rfl)
  have N8 := Fr.snoc X8 N6 g_b2
  replace O := O.wr W8 g_b2
  replace Kp := Kp.wr W8 (Or.inr sz_b2)
  replace Ex_b1 := Ex_b1.wr W8
  replace F_value_b1 := F_value_b1.other W8 (Or.inl ne_b1_b2)
  replace F_coder_b1 := F_coder_b1.other W8 (Or.inl ne_b1_b2)
  replace Ea_b2 := Ea_b2.wr W8
  replace V_b2 : Arv Z h8 b2 k2 .char (4 : Int32) [(.int ca), (.int cb), (.int cc), (.int (0 : Int32))] (.int (0 : Int32)) := V8
  show own_Go p e below s _ _ _ (T8.setTop (mkF m 111 #[iv (4 : Int32), iv ca, iv cb, iv cc, iv cd, iv ce] [(.ref b2), (.ref b1), (.ref b1)]))
  refine own_go (fun zt zk => (XS.dup X8.here hx rfl (hb hby own_d2_111) rfl rfl (XS.iconst X8.here hx rfl (hb hby own_d2_112) (XS.iload X8.here hx rfl (hb hby own_d2_113) rfl zk)))) ?_
  show own_Go p e below s _ _ _ (T8.setTop (mkF m 115 #[iv (4 : Int32), iv ca, iv cb, iv cc, iv cd, iv ce] [(.int cd), (.int (3 : Int32)), (.ref b2), (.ref b2), (.ref b1), (.ref b1)]))
  obtain ⟨cl9, Ar9, q9, Sz9, Nz9, Ha9, Ga9⟩ := id V_b2
  have hin9 : ¬ ((3 : Int32) < 0 ∨ cl9.slots.size ≤ ((3 : Int32)).toNatClampNeg) := inb_of Sz9 ⟨by decide, by decide⟩
  obtain ⟨T10, h10, X10, e10, W10, st10⟩ := stC X8 hx hZ e8 Ar9 (j := (3 : Int32)) hin9 (g := (mkF m 115 #[iv (4 : Int32), iv ca, iv cb, iv cc, iv cd, iv ce] [(.int cd), (.int (3 : Int32)), (.ref b2), (.ref b2), (.ref b1), (.ref b1)])) rfl rfl (hb hby own_d2_115)
  refine own_go st10 ?_
  rw [show nar .char cd = cd from own_narc hr_cd] at W10
  have V10 := Arv.set Ar9 q9 Sz9 Nz9 Ha9 Ga9 (own_fitc hr_cd) W10 3 rfl (Nat.le_of_ble_eq_true rfl)
  have N10 := Fr.snoc X10 N8 g_b2
  replace O := O.wr W10 g_b2
  replace Kp := Kp.wr W10 (Or.inr sz_b2)
  replace Ex_b1 := Ex_b1.wr W10
  replace F_value_b1 := F_value_b1.other W10 (Or.inl ne_b1_b2)
  replace F_coder_b1 := F_coder_b1.other W10 (Or.inl ne_b1_b2)
  replace Ea_b2 := Ea_b2.wr W10
  replace V_b2 : Arv Z h10 b2 k2 .char (4 : Int32) [(.int ca), (.int cb), (.int cc), (.int cd)] (.int (0 : Int32)) := V10
  show own_Go p e below s _ _ _ (T10.setTop (mkF m 116 #[iv (4 : Int32), iv ca, iv cb, iv cc, iv cd, iv ce] [(.ref b2), (.ref b1), (.ref b1)]))
  obtain ⟨_, _, ⟨T11, L11, k11, n11⟩, -, X11, ⟨Lc11, hQ11, l11, y11, z11⟩, st11⟩ := X10.specialBack hx (y := (⟨"java/lang/String", "<init>", "([C)V"⟩ : MethodName)) rfl hown (mvT hZ (hw _ (List.mem_of_getElem? (i := 11) rfl))) (mvT hZ (hw _ (List.mem_of_getElem? (i := 12) rfl))) (mvT hZ (hw _ (List.mem_of_getElem? (i := 13) rfl))) (by decide) (StrChars.Road.backV (W := 1) hZ (own_hnew Z a0 hw) (kI := 4) (hw _ (List.mem_of_getElem? (i := 9) rfl)) (cs := [ca, cb, cc, cd]) (bs := [(ca.toInt8.toInt32), (cb.toInt8.toInt32), (cc.toInt8.toInt32), (cd.toInt8.toInt32)]) (n := 4) g_b1 (Nat.le_trans Z0 Kp.1) Ex_b1 F_value_b1 F_coder_b1 V_b2 (S_o_COMPACT_STRINGS.ext O.2) nz_o_COMPACT_STRINGS rfl rfl (by decide) (by decide) (own_ac hr_ca (own_ac hr_cb (own_ac hr_cc (own_ac hr_cd own_an)))) rfl (by decide) (by decide)) (g := (mkF m 116 #[iv (4 : Int32), iv ca, iv cb, iv cc, iv cd, iv ce] [(.ref b2), (.ref b1), (.ref b1)])) rfl (by rw [hml]; rfl) (Steps.refl _) (a := b1) (argsL := [(.ref b2)]) (rest := [(.ref b1)]) (lenOf own_pd___C_V rfl) rfl (by show 2 * 0 + _ ≤ _; exact Nat.le_of_eq rfl) (hb hby own_d2_116) (fun _ _ => ⟨rfl, e10, (by decide : 2 + 1 ≤ _), (by decide : 8 + 4 ≤ _)⟩)
  dsimp only [Pt.U, Pt.locs, Pt.cells, Pt.slots] at X11 l11 y11 z11 st11 hQ11
  subst l11 y11 z11
  obtain ⟨rfl, Nq11, K11, -, Fc11, t11, kb11, -, sz11, -, Fv11, Vt11⟩ := hQ11
  have sz_t11 : h0.size ≤ t11 := Nat.le_trans Kp.1 sz11
  have g_t11 : n0 ≤ t11 := Nat.le_trans Z0 sz_t11
  have ne_b1_t11 : b1 ≠ t11 := Nat.ne_of_lt (Nat.lt_of_lt_of_le Ex_b1.lt sz11)
  have ne_b2_t11 : b2 ≠ t11 := Nat.ne_of_lt (Nat.lt_of_lt_of_le V_b2.lt sz11)
  have N11 := Fr.app N10 Nq11
  refine own_go (fun zt zk => st11.trans zk) ?_
  replace O := O.keep K11 (allS g_b1 all0)
  replace Kp := Kp.trans K11 (allS (Or.inr sz_b1) all0)
  replace Ex_b1 := Ex_b1.keep K11
  replace V_b2 := V_b2.keep K11 (ninS (Ne.symm ne_b1_b2) nin0)
  replace Ea_b2 := Ea_b2.keep K11
  show own_Go p e below s _ _ _ (T11.setTop (mkF m 119 #[iv (4 : Int32), iv ca, iv cb, iv cc, iv cd, iv ce] [(.ref b1)]))
  exact own_fin X11 Bd.notSynchronized (fun h => by rw [Bd.returns] at h; cases h) (fun fs hr => retOut X11 hx (t := (.object "java/lang/String")) (w := (.ref b1)) Bd.returns rfl (Or.inr (Or.inr (Or.inr (Or.inr ⟨rfl, rfl, rfl⟩)))) (hb hby own_d2_119) hr) ⟨_, _, _, rfl, N11, Kp, sz_b1, Ex_b1, Fv11, Fc11, Vt11⟩ (by decide) (by decide)
theorem own_d2_120 : decode method_4_code 120 = .ok (.new 28, 3) := by decide +kernel
theorem own_d2_123 : decode method_4_code 123 = .ok (.dup, 1) := by decide +kernel
theorem own_d2_124 : decode method_4_code 124 = .ok (.iconst 5, 1) := by decide +kernel
theorem own_d2_125 : decode method_4_code 125 = .ok (.newarray .char, 2) := by decide +kernel
theorem own_d2_127 : decode method_4_code 127 = .ok (.dup, 1) := by decide +kernel
theorem own_d2_128 : decode method_4_code 128 = .ok (.iconst 0, 1) := by decide +kernel
theorem own_d2_129 : decode method_4_code 129 = .ok (.iload_n 1, 1) := by decide +kernel
theorem own_d2_130 : decode method_4_code 130 = .ok (.castore, 1) := by decide +kernel
theorem own_d2_131 : decode method_4_code 131 = .ok (.dup, 1) := by decide +kernel
theorem own_d2_132 : decode method_4_code 132 = .ok (.iconst 1, 1) := by decide +kernel
theorem own_d2_133 : decode method_4_code 133 = .ok (.iload_n 2, 1) := by decide +kernel
theorem own_d2_134 : decode method_4_code 134 = .ok (.castore, 1) := by decide +kernel
theorem own_d2_135 : decode method_4_code 135 = .ok (.dup, 1) := by decide +kernel
theorem own_d2_136 : decode method_4_code 136 = .ok (.iconst 2, 1) := by decide +kernel
theorem own_d2_137 : decode method_4_code 137 = .ok (.iload_n 3, 1) := by decide +kernel
theorem own_d2_138 : decode method_4_code 138 = .ok (.castore, 1) := by decide +kernel
theorem own_d2_139 : decode method_4_code 139 = .ok (.dup, 1) := by decide +kernel
theorem own_d2_140 : decode method_4_code 140 = .ok (.iconst 3, 1) := by decide +kernel
theorem own_d2_141 : decode method_4_code 141 = .ok (.iload 4, 2) := by decide +kernel
theorem own_d2_143 : decode method_4_code 143 = .ok (.castore, 1) := by decide +kernel
theorem own_d2_144 : decode method_4_code 144 = .ok (.dup, 1) := by decide +kernel
theorem own_d2_145 : decode method_4_code 145 = .ok (.iconst 4, 1) := by decide +kernel
theorem own_d2_146 : decode method_4_code 146 = .ok (.iload 5, 2) := by decide +kernel
theorem own_d2_148 : decode method_4_code 148 = .ok (.castore, 1) := by decide +kernel
theorem own_d2_149 : decode method_4_code 149 = .ok (.invokespecial 37, 3) := by decide +kernel
theorem own_d2_152 : decode method_4_code 152 = .ok (.areturn, 1) := by decide +kernel
theorem own_ef_own_rmake5 (m : MethodId) (p1 : Int32) (ca : Int32) (cb : Int32) (cc : Int32) (cd : Int32) (ce : Int32) : entryFrame m #[(.int p1), (.int ca), (.int cb), (.int cc), (.int cd), (.int ce)] 6 = mkF m 0 #[iv p1, iv ca, iv cb, iv cc, iv cd, iv ce] [] := by first | (simp [entryFrame, mkF, argsToLocals, Value.category]; done) | rfl
def own_Q_own_rmake5 (Z : State) (p1 : Int32) (ca : Int32) (cb : Int32) (cc : Int32) (cd : Int32) (ce : Int32) (o_COMPACT_STRINGS : Int32) (h0 : Heap) (n0 : Nat) (v : Option Value) (h : Heap) (L : List Loc) : Prop := ∃ b t kb, v = some (.ref b) ∧ Fr n0 L ∧ Keep h0 h [] ∧ h0.size ≤ b ∧ Exa Z h b "java/lang/String" ∧ Fld Z h b "java/lang/String" "value" "[B" (.ref t) ∧ Fld Z h b "java/lang/String" "coder" "B" (.int (0 : Int32)) ∧ Arv Z h t kb .byte (5 : Int32) [(.int (ca.toInt8.toInt32)), (.int (cb.toInt8.toInt32)), (.int (cc.toInt8.toInt32)), (.int (cd.toInt8.toInt32)), (.int (ce.toInt8.toInt32))] (.int (0 : Int32))
set_option maxRecDepth 65536 in
set_option maxHeartbeats 40000000 in
theorem own_rmake5 (l : Launch) (Z : State) (a0 : Array Value) (hw : ∀ d ∈ tables_1, d.before a0 Z = true) (ws : List Jvm.Cond) (p1 : Int32) (ca : Int32) (cb : Int32) (cc : Int32) (cd : Int32) (ce : Int32) (o_COMPACT_STRINGS : Int32) (h0 : Heap) (n0 : Nat) (Z0 : n0 ≤ h0.size) (O : Old Z n0 h0) (S_o_COMPACT_STRINGS : Sta Z Z.heap "java/lang/String" "COMPACT_STRINGS" "Z" (.int o_COMPACT_STRINGS)) (nz_o_COMPACT_STRINGS : ¬ (o_COMPACT_STRINGS = (0 : Int32))) (hr_ca : ¬ (ca < (0 : Int32)) ∧ ¬ ((255 : Int32) < ca)) (hr_cb : ¬ (cb < (0 : Int32)) ∧ ¬ ((255 : Int32) < cb)) (hr_cc : ¬ (cc < (0 : Int32)) ∧ ¬ ((255 : Int32) < cc)) (hr_cd : ¬ (cd < (0 : Int32)) ∧ ¬ ((255 : Int32) < cd)) (hr_ce : ¬ (ce < (0 : Int32)) ∧ ¬ ((255 : Int32) < ce)) (hk0 : ¬ (p1 = (0 : Int32))) (hk1 : ¬ (p1 = (1 : Int32))) (hk2 : ¬ (p1 = (2 : Int32))) (hk3 : ¬ (p1 = (3 : Int32))) (hk4 : ¬ (p1 = (4 : Int32))) :
    MetFree l (⟨"com/example/boxwright/boxwright/TableNamesLocalNamePinLaw", "make", "(ICCCCC)Ljava/lang/String;"⟩ : MethodName) (head1 (Jvm.Cond.code (⟨"com/example/boxwright/boxwright/TableNamesLocalNamePinLaw", "make", "(ICCCCC)Ljava/lang/String;"⟩ : MethodName) method_4_code 6 (some (.object "java/lang/String")) :: ws) ({ frames := 4, cells := 3, slots := 14, locals := 66 } : Room)) (fun a U => a = #[(.int p1), (.int ca), (.int cb), (.int cc), (.int cd), (.int ce)] ∧ Z.Warmed39 U.vm ∧ U.heap = h0) (fun _ _ _ _ _ => True) (fun _ U o U' => ∃ v L, o = .returned v ∧ own_Q_own_rmake5 Z p1 ca cb cc cd ce o_COMPACT_STRINGS h0 n0 v U'.heap L ∧ FrameEnd U o U' L ({ frames := 4, cells := 3, slots := 14, locals := 66 } : Room).cells ({ frames := 4, cells := 3, slots := 14, locals := 66 } : Room).slots) := by
  refine MetFree.of_bodySF (plainFor_of_name own_pn_com_example_boxwright_boxwright_TableNamesLocalNamePinLaw) hisR ?_
  intro p e s m args below meth c s₁ Bd hml0 hP hK
  obtain ⟨rfl, hZ, hh⟩ := hP
  have hx := Bd.exec
  have hby := Bd.bytes
  have hml : c.maxLocals = 6 := hml0
  have hown : s.vm.findClass "com/example/boxwright/boxwright/TableNamesLocalNamePinLaw" = some m.cls := findClass_of_methodNamed Bd.named
  have hnm := (name_of_methodNamed Bd.named Bd.method).1
  have X0 : Stand p l e ({ frames := 4, cells := 3, slots := 14, locals := 66 } : Room) s m #[(.int p1), (.int ca), (.int cb), (.int cc), (.int cd), (.int ce)] below meth c s₁ [] 0 0 := Stand.of_body Bd
  have e0 : s₁.heap = h0 := by rw [← hh, Bd.state]; rfl
  have N0 := Fr.nil n0
  have Kp : Keep h0 h0 [] := Keep.refl h0 _
  show own_Go p e below s (own_Q_own_rmake5 Z p1 ca cb cc cd ce o_COMPACT_STRINGS h0 n0) ({ frames := 4, cells := 3, slots := 14, locals := 66 } : Room).cells ({ frames := 4, cells := 3, slots := 14, locals := 66 } : Room).slots (s₁.setTop (entryFrame m #[(.int p1), (.int ca), (.int cb), (.int cc), (.int cd), (.int ce)] 6))
  refine own_go (fun zt zk => castTop (own_ef_own_rmake5 m p1 ca cb cc cd ce) zk) ?_
  show own_Go p e below s _ _ _ (s₁.setTop (mkF m 0 #[iv p1, iv ca, iv cb, iv cc, iv cd, iv ce] []))
  refine own_go (fun zt zk => (XS.iloadN X0.here hx rfl (hb hby own_d2_0) rfl (XS.ifYes X0.here hx rfl (pc0 := 1) (pc' := 15) rfl (hb hby own_d2_1) rfl ((if0 _ _).trans (feq (hk0 : ¬ (p1 = (0 : Int32)))).2) (by decide) (by decide) (XS.iloadN X0.here hx rfl (hb hby own_d2_15) rfl (XS.iconst X0.here hx rfl (hb hby own_d2_16) (XS.icmpYes X0.here hx rfl (pc0 := 17) (pc' := 35) rfl (hb hby own_d2_17) rfl (feq (hk1 : ¬ (p1 = (1 : Int32)))).2 (by decide) (by decide) (XS.iloadN X0.here hx rfl (hb hby own_d2_35) rfl (XS.iconst X0.here hx rfl (hb hby own_d2_36) (XS.icmpYes X0.here hx rfl (pc0 := 37) (pc' := 59) rfl (hb hby own_d2_37) rfl (feq (hk2 : ¬ (p1 = (2 : Int32)))).2 (by decide) (by decide) (XS.iloadN X0.here hx rfl (hb hby own_d2_59) rfl (XS.iconst X0.here hx rfl (hb hby own_d2_60) (XS.icmpYes X0.here hx rfl (pc0 := 61) (pc' := 87) rfl (hb hby own_d2_61) rfl (feq (hk3 : ¬ (p1 = (3 : Int32)))).2 (by decide) (by decide) (XS.iloadN X0.here hx rfl (hb hby own_d2_87) rfl zk))))))))))))) ?_
  show own_Go p e below s _ _ _ (s₁.setTop (mkF m 88 #[iv p1, iv ca, iv cb, iv cc, iv cd, iv ce] [(.int p1)]))
  refine own_go (fun zt zk => (XS.iconst X0.here hx rfl (hb hby own_d2_88) (XS.icmpYes X0.here hx rfl (pc0 := 89) (pc' := 120) rfl (hb hby own_d2_89) rfl (feq (hk4 : ¬ (p1 = (4 : Int32)))).2 (by decide) (by decide) zk))) ?_
  show own_Go p e below s _ _ _ (s₁.setTop (mkF m 120 #[iv p1, iv ca, iv cb, iv cc, iv cd, iv ce] []))
  obtain ⟨T1, h1, X1, e1, E1, A1, D1, -, st1⟩ := newO X0 hx hZ hown (hw _ (List.mem_of_getElem? (i := 8) rfl)) (hw _ (List.mem_of_getElem? (i := 9) rfl)) (hw _ (List.mem_of_getElem? (i := 10) rfl)) e0 (g := (mkF m 120 #[iv p1, iv ca, iv cb, iv cc, iv cd, iv ce] [])) rfl (hb hby own_d2_120) (by decide) (by decide)
  obtain ⟨b1, g1⟩ : ∃ z, z = h0.size := ⟨_, rfl⟩
  rw [← g1] at A1 D1 st1
  refine own_go st1 ?_
  have sz_b1 : h0.size ≤ b1 := Nat.le_trans Kp.1 (Nat.le_of_eq g1.symm)
  have g_b1 : n0 ≤ b1 := Nat.le_trans Z0 sz_b1
  replace O := O.ext E1
  replace Kp := Kp.ext E1
  have Ex_b1 := A1
  have F_value_b1 : Fld Z h1 b1 "java/lang/String" "value" "[B" .null := D1 (Or.inr (hw _ (List.mem_of_getElem? (i := 23) rfl))) (ty := (.array .byte)) (by decide)
  have F_coder_b1 : Fld Z h1 b1 "java/lang/String" "coder" "B" (.int (0 : Int32)) := D1 (Or.inr (hw _ (List.mem_of_getElem? (i := 24) rfl))) (ty := .byte) (by decide)
  show own_Go p e below s _ _ _ (T1.setTop (mkF m 123 #[iv p1, iv ca, iv cb, iv cc, iv cd, iv ce] [(.ref b1)]))
  refine own_go (fun zt zk => (XS.dup X1.here hx rfl (hb hby own_d2_123) rfl rfl (XS.iconst X1.here hx rfl (hb hby own_d2_124) zk))) ?_
  show own_Go p e below s _ _ _ (T1.setTop (mkF m 125 #[iv p1, iv ca, iv cb, iv cc, iv cd, iv ce] [(.int (5 : Int32)), (.ref b1), (.ref b1)]))
  obtain ⟨T2, h2, k2, X2, e2, E2, A2, Ea2, st2⟩ := newPE X1 hx hZ (hw _ (List.mem_of_getElem? (i := 4) rfl)) e1 (g := (mkF m 125 #[iv p1, iv ca, iv cb, iv cc, iv cd, iv ce] [(.int (5 : Int32)), (.ref b1), (.ref b1)])) rfl (hb hby own_d2_125) rfl (by decide) (cap := 5) (by decide) (by decide) (by decide) (by decide) (ad := "[C") (by decide)
  obtain ⟨b2, g2⟩ : ∃ z, z = h1.size := ⟨_, rfl⟩
  rw [← g2] at A2 Ea2 st2
  refine own_go st2 ?_
  have ne_b1_b2 : b1 ≠ b2 := Nat.ne_of_lt (Nat.lt_of_lt_of_le Ex_b1.lt (Nat.le_of_eq g2.symm))
  have sz_b2 : h0.size ≤ b2 := Nat.le_trans Kp.1 (Nat.le_of_eq g2.symm)
  have g_b2 : n0 ≤ b2 := Nat.le_trans Z0 sz_b2
  replace O := O.ext E2
  replace Kp := Kp.ext E2
  replace Ex_b1 := Ex_b1.ext E2
  replace F_value_b1 := F_value_b1.ext E2
  replace F_coder_b1 := F_coder_b1.ext E2
  have V_b2 : Arv Z h2 b2 k2 .char (5 : Int32) [(.int (0 : Int32)), (.int (0 : Int32)), (.int (0 : Int32)), (.int (0 : Int32)), (.int (0 : Int32))] (.int (0 : Int32)) := (Arv.new A2 (by decide)).pad (pad_rep [] (.int (0 : Int32)) 5)
  have Ea_b2 := Ea2
  show own_Go p e below s _ _ _ (T2.setTop (mkF m 127 #[iv p1, iv ca, iv cb, iv cc, iv cd, iv ce] [(.ref b2), (.ref b1), (.ref b1)]))
  refine own_go (fun zt zk => (XS.dup X2.here hx rfl (hb hby own_d2_127) rfl rfl (XS.iconst X2.here hx rfl (hb hby own_d2_128) (XS.iloadN X2.here hx rfl (hb hby own_d2_129) rfl zk)))) ?_
  show own_Go p e below s _ _ _ (T2.setTop (mkF m 130 #[iv p1, iv ca, iv cb, iv cc, iv cd, iv ce] [(.int ca), (.int (0 : Int32)), (.ref b2), (.ref b2), (.ref b1), (.ref b1)]))
  obtain ⟨cl3, Ar3, q3, Sz3, Nz3, Ha3, Ga3⟩ := id V_b2
  have hin3 : ¬ ((0 : Int32) < 0 ∨ cl3.slots.size ≤ ((0 : Int32)).toNatClampNeg) := inb_of Sz3 ⟨by decide, by decide⟩
  obtain ⟨T4, h4, X4, e4, W4, st4⟩ := stC X2 hx hZ e2 Ar3 (j := (0 : Int32)) hin3 (g := (mkF m 130 #[iv p1, iv ca, iv cb, iv cc, iv cd, iv ce] [(.int ca), (.int (0 : Int32)), (.ref b2), (.ref b2), (.ref b1), (.ref b1)])) rfl rfl (hb hby own_d2_130)
  refine own_go st4 ?_
  rw [show nar .char ca = ca from own_narc hr_ca] at W4
  have V4 := Arv.set Ar3 q3 Sz3 Nz3 Ha3 Ga3 (own_fitc hr_ca) W4 0 rfl (Nat.le_of_ble_eq_true rfl)
  have N4 := Fr.snoc X4 N0 g_b2
  replace O := O.wr W4 g_b2
  replace Kp := Kp.wr W4 (Or.inr sz_b2)
  replace Ex_b1 := Ex_b1.wr W4
  replace F_value_b1 := F_value_b1.other W4 (Or.inl ne_b1_b2)
  replace F_coder_b1 := F_coder_b1.other W4 (Or.inl ne_b1_b2)
  replace Ea_b2 := Ea_b2.wr W4
  replace V_b2 : Arv Z h4 b2 k2 .char (5 : Int32) [(.int ca), (.int (0 : Int32)), (.int (0 : Int32)), (.int (0 : Int32)), (.int (0 : Int32))] (.int (0 : Int32)) := V4
  show own_Go p e below s _ _ _ (T4.setTop (mkF m 131 #[iv p1, iv ca, iv cb, iv cc, iv cd, iv ce] [(.ref b2), (.ref b1), (.ref b1)]))
  refine own_go (fun zt zk => (XS.dup X4.here hx rfl (hb hby own_d2_131) rfl rfl (XS.iconst X4.here hx rfl (hb hby own_d2_132) (XS.iloadN X4.here hx rfl (hb hby own_d2_133) rfl zk)))) ?_
  show own_Go p e below s _ _ _ (T4.setTop (mkF m 134 #[iv p1, iv ca, iv cb, iv cc, iv cd, iv ce] [(.int cb), (.int (1 : Int32)), (.ref b2), (.ref b2), (.ref b1), (.ref b1)]))
  obtain ⟨cl5, Ar5, q5, Sz5, Nz5, Ha5, Ga5⟩ := id V_b2
  have hin5 : ¬ ((1 : Int32) < 0 ∨ cl5.slots.size ≤ ((1 : Int32)).toNatClampNeg) := inb_of Sz5 ⟨by decide, by decide⟩
  obtain ⟨T6, h6, X6, e6, W6, st6⟩ := stC X4 hx hZ e4 Ar5 (j := (1 : Int32)) hin5 (g := (mkF m 134 #[iv p1, iv ca, iv cb, iv cc, iv cd, iv ce] [(.int cb), (.int (1 : Int32)), (.ref b2), (.ref b2), (.ref b1), (.ref b1)])) rfl rfl (hb hby own_d2_134)
  refine own_go st6 ?_
  rw [show nar .char cb = cb from own_narc hr_cb] at W6
  have V6 := Arv.set Ar5 q5 Sz5 Nz5 Ha5 Ga5 (own_fitc hr_cb) W6 1 rfl (Nat.le_of_ble_eq_true rfl)
  have N6 := Fr.snoc X6 N4 g_b2
  replace O := O.wr W6 g_b2
  replace Kp := Kp.wr W6 (Or.inr sz_b2)
  replace Ex_b1 := Ex_b1.wr W6
  replace F_value_b1 := F_value_b1.other W6 (Or.inl ne_b1_b2)
  replace F_coder_b1 := F_coder_b1.other W6 (Or.inl ne_b1_b2)
  replace Ea_b2 := Ea_b2.wr W6
  replace V_b2 : Arv Z h6 b2 k2 .char (5 : Int32) [(.int ca), (.int cb), (.int (0 : Int32)), (.int (0 : Int32)), (.int (0 : Int32))] (.int (0 : Int32)) := V6
  show own_Go p e below s _ _ _ (T6.setTop (mkF m 135 #[iv p1, iv ca, iv cb, iv cc, iv cd, iv ce] [(.ref b2), (.ref b1), (.ref b1)]))
  refine own_go (fun zt zk => (XS.dup X6.here hx rfl (hb hby own_d2_135) rfl rfl (XS.iconst X6.here hx rfl (hb hby own_d2_136) (XS.iloadN X6.here hx rfl (hb hby own_d2_137) rfl zk)))) ?_
  show own_Go p e below s _ _ _ (T6.setTop (mkF m 138 #[iv p1, iv ca, iv cb, iv cc, iv cd, iv ce] [(.int cc), (.int (2 : Int32)), (.ref b2), (.ref b2), (.ref b1), (.ref b1)]))
  obtain ⟨cl7, Ar7, q7, Sz7, Nz7, Ha7, Ga7⟩ := id V_b2
  have hin7 : ¬ ((2 : Int32) < 0 ∨ cl7.slots.size ≤ ((2 : Int32)).toNatClampNeg) := inb_of Sz7 ⟨by decide, by decide⟩
  obtain ⟨T8, h8, X8, e8, W8, st8⟩ := stC X6 hx hZ e6 Ar7 (j := (2 : Int32)) hin7 (g := (mkF m 138 #[iv p1, iv ca, iv cb, iv cc, iv cd, iv ce] [(.int cc), (.int (2 : Int32)), (.ref b2), (.ref b2), (.ref b1), (.ref b1)])) rfl rfl (hb hby own_d2_138)
  refine own_go st8 ?_
  rw [show nar .char cc = cc from own_narc hr_cc] at W8
  have V8 := Arv.set Ar7 q7 Sz7 Nz7 Ha7 Ga7 (own_fitc hr_cc) W8 2 rfl (Nat.le_of_ble_eq_true rfl)
  have N8 := Fr.snoc X8 N6 g_b2
  replace O := O.wr W8 g_b2
  replace Kp := Kp.wr W8 (Or.inr sz_b2)
  replace Ex_b1 := Ex_b1.wr W8
  replace F_value_b1 := F_value_b1.other W8 (Or.inl ne_b1_b2)
  replace F_coder_b1 := F_coder_b1.other W8 (Or.inl ne_b1_b2)
  replace Ea_b2 := Ea_b2.wr W8
  replace V_b2 : Arv Z h8 b2 k2 .char (5 : Int32) [(.int ca), (.int cb), (.int cc), (.int (0 : Int32)), (.int (0 : Int32))] (.int (0 : Int32)) := V8
  show own_Go p e below s _ _ _ (T8.setTop (mkF m 139 #[iv p1, iv ca, iv cb, iv cc, iv cd, iv ce] [(.ref b2), (.ref b1), (.ref b1)]))
  refine own_go (fun zt zk => (XS.dup X8.here hx rfl (hb hby own_d2_139) rfl rfl (XS.iconst X8.here hx rfl (hb hby own_d2_140) (XS.iload X8.here hx rfl (hb hby own_d2_141) rfl zk)))) ?_
  show own_Go p e below s _ _ _ (T8.setTop (mkF m 143 #[iv p1, iv ca, iv cb, iv cc, iv cd, iv ce] [(.int cd), (.int (3 : Int32)), (.ref b2), (.ref b2), (.ref b1), (.ref b1)]))
  obtain ⟨cl9, Ar9, q9, Sz9, Nz9, Ha9, Ga9⟩ := id V_b2
  have hin9 : ¬ ((3 : Int32) < 0 ∨ cl9.slots.size ≤ ((3 : Int32)).toNatClampNeg) := inb_of Sz9 ⟨by decide, by decide⟩
  obtain ⟨T10, h10, X10, e10, W10, st10⟩ := stC X8 hx hZ e8 Ar9 (j := (3 : Int32)) hin9 (g := (mkF m 143 #[iv p1, iv ca, iv cb, iv cc, iv cd, iv ce] [(.int cd), (.int (3 : Int32)), (.ref b2), (.ref b2), (.ref b1), (.ref b1)])) rfl rfl (hb hby own_d2_143)
  refine own_go st10 ?_
  rw [show nar .char cd = cd from own_narc hr_cd] at W10
  have V10 := Arv.set Ar9 q9 Sz9 Nz9 Ha9 Ga9 (own_fitc hr_cd) W10 3 rfl (Nat.le_of_ble_eq_true rfl)
  have N10 := Fr.snoc X10 N8 g_b2
  replace O := O.wr W10 g_b2
  replace Kp := Kp.wr W10 (Or.inr sz_b2)
  replace Ex_b1 := Ex_b1.wr W10
  replace F_value_b1 := F_value_b1.other W10 (Or.inl ne_b1_b2)
  replace F_coder_b1 := F_coder_b1.other W10 (Or.inl ne_b1_b2)
  replace Ea_b2 := Ea_b2.wr W10
  replace V_b2 : Arv Z h10 b2 k2 .char (5 : Int32) [(.int ca), (.int cb), (.int cc), (.int cd), (.int (0 : Int32))] (.int (0 : Int32)) := V10
  show own_Go p e below s _ _ _ (T10.setTop (mkF m 144 #[iv p1, iv ca, iv cb, iv cc, iv cd, iv ce] [(.ref b2), (.ref b1), (.ref b1)]))
  refine own_go (fun zt zk => (XS.dup X10.here hx rfl (hb hby own_d2_144) rfl rfl (XS.iconst X10.here hx rfl (hb hby own_d2_145) (XS.iload X10.here hx rfl (hb hby own_d2_146) rfl zk)))) ?_
  show own_Go p e below s _ _ _ (T10.setTop (mkF m 148 #[iv p1, iv ca, iv cb, iv cc, iv cd, iv ce] [(.int ce), (.int (4 : Int32)), (.ref b2), (.ref b2), (.ref b1), (.ref b1)]))
  obtain ⟨cl11, Ar11, q11, Sz11, Nz11, Ha11, Ga11⟩ := id V_b2
  have hin11 : ¬ ((4 : Int32) < 0 ∨ cl11.slots.size ≤ ((4 : Int32)).toNatClampNeg) := inb_of Sz11 ⟨by decide, by decide⟩
  obtain ⟨T12, h12, X12, e12, W12, st12⟩ := stC X10 hx hZ e10 Ar11 (j := (4 : Int32)) hin11 (g := (mkF m 148 #[iv p1, iv ca, iv cb, iv cc, iv cd, iv ce] [(.int ce), (.int (4 : Int32)), (.ref b2), (.ref b2), (.ref b1), (.ref b1)])) rfl rfl (hb hby own_d2_148)
  refine own_go st12 ?_
  rw [show nar .char ce = ce from own_narc hr_ce] at W12
  have V12 := Arv.set Ar11 q11 Sz11 Nz11 Ha11 Ga11 (own_fitc hr_ce) W12 4 rfl (Nat.le_of_ble_eq_true rfl)
  have N12 := Fr.snoc X12 N10 g_b2
  replace O := O.wr W12 g_b2
  replace Kp := Kp.wr W12 (Or.inr sz_b2)
  replace Ex_b1 := Ex_b1.wr W12
  replace F_value_b1 := F_value_b1.other W12 (Or.inl ne_b1_b2)
  replace F_coder_b1 := F_coder_b1.other W12 (Or.inl ne_b1_b2)
  replace Ea_b2 := Ea_b2.wr W12
  replace V_b2 : Arv Z h12 b2 k2 .char (5 : Int32) [(.int ca), (.int cb), (.int cc), (.int cd), (.int ce)] (.int (0 : Int32)) := V12
  show own_Go p e below s _ _ _ (T12.setTop (mkF m 149 #[iv p1, iv ca, iv cb, iv cc, iv cd, iv ce] [(.ref b2), (.ref b1), (.ref b1)]))
  obtain ⟨_, _, ⟨T13, L13, k13, n13⟩, -, X13, ⟨Lc13, hQ13, l13, y13, z13⟩, st13⟩ := X12.specialBack hx (y := (⟨"java/lang/String", "<init>", "([C)V"⟩ : MethodName)) rfl hown (mvT hZ (hw _ (List.mem_of_getElem? (i := 11) rfl))) (mvT hZ (hw _ (List.mem_of_getElem? (i := 12) rfl))) (mvT hZ (hw _ (List.mem_of_getElem? (i := 13) rfl))) (by decide) (StrChars.Road.backV (W := 1) hZ (own_hnew Z a0 hw) (kI := 4) (hw _ (List.mem_of_getElem? (i := 9) rfl)) (cs := [ca, cb, cc, cd, ce]) (bs := [(ca.toInt8.toInt32), (cb.toInt8.toInt32), (cc.toInt8.toInt32), (cd.toInt8.toInt32), (ce.toInt8.toInt32)]) (n := 5) g_b1 (Nat.le_trans Z0 Kp.1) Ex_b1 F_value_b1 F_coder_b1 V_b2 (S_o_COMPACT_STRINGS.ext O.2) nz_o_COMPACT_STRINGS rfl rfl (by decide) (by decide) (own_ac hr_ca (own_ac hr_cb (own_ac hr_cc (own_ac hr_cd (own_ac hr_ce own_an))))) rfl (by decide) (by decide)) (g := (mkF m 149 #[iv p1, iv ca, iv cb, iv cc, iv cd, iv ce] [(.ref b2), (.ref b1), (.ref b1)])) rfl (by rw [hml]; rfl) (Steps.refl _) (a := b1) (argsL := [(.ref b2)]) (rest := [(.ref b1)]) (lenOf own_pd___C_V rfl) rfl (by show 2 * 0 + _ ≤ _; exact Nat.le_of_eq rfl) (hb hby own_d2_149) (fun _ _ => ⟨rfl, e12, (by decide : 2 + 1 ≤ _), (by decide : 9 + 5 ≤ _)⟩)
  dsimp only [Pt.U, Pt.locs, Pt.cells, Pt.slots] at X13 l13 y13 z13 st13 hQ13
  subst l13 y13 z13
  obtain ⟨rfl, Nq13, K13, -, Fc13, t13, kb13, -, sz13, -, Fv13, Vt13⟩ := hQ13
  have sz_t13 : h0.size ≤ t13 := Nat.le_trans Kp.1 sz13
  have g_t13 : n0 ≤ t13 := Nat.le_trans Z0 sz_t13
  have ne_b1_t13 : b1 ≠ t13 := Nat.ne_of_lt (Nat.lt_of_lt_of_le Ex_b1.lt sz13)
  have ne_b2_t13 : b2 ≠ t13 := Nat.ne_of_lt (Nat.lt_of_lt_of_le V_b2.lt sz13)
  have N13 := Fr.app N12 Nq13
  refine own_go (fun zt zk => st13.trans zk) ?_
  replace O := O.keep K13 (allS g_b1 all0)
  replace Kp := Kp.trans K13 (allS (Or.inr sz_b1) all0)
  replace Ex_b1 := Ex_b1.keep K13
  replace V_b2 := V_b2.keep K13 (ninS (Ne.symm ne_b1_b2) nin0)
  replace Ea_b2 := Ea_b2.keep K13
  show own_Go p e below s _ _ _ (T13.setTop (mkF m 152 #[iv p1, iv ca, iv cb, iv cc, iv cd, iv ce] [(.ref b1)]))
  exact own_fin X13 Bd.notSynchronized (fun h => by rw [Bd.returns] at h; cases h) (fun fs hr => retOut X13 hx (t := (.object "java/lang/String")) (w := (.ref b1)) Bd.returns rfl (Or.inr (Or.inr (Or.inr (Or.inr ⟨rfl, rfl, rfl⟩)))) (hb hby own_d2_152) hr) ⟨_, _, _, rfl, N13, Kp, sz_b1, Ex_b1, Fv13, Fc13, Vt13⟩ (by decide) (by decide)
theorem own_d19_0 : decode method_5_code 0 = .ok (.iconst (-1), 1) := by decide +kernel
theorem own_d19_1 : decode method_5_code 1 = .ok (.istore_n 3, 1) := by decide +kernel
theorem own_d19_2 : decode method_5_code 2 = .ok (.iload_n 1, 1) := by decide +kernel
theorem own_d19_3 : decode method_5_code 3 = .ok (.ifCond .le 12, 3) := by decide +kernel
theorem own_d19_15 : decode method_5_code 15 = .ok (.iload_n 1, 1) := by decide +kernel
theorem own_d19_16 : decode method_5_code 16 = .ok (.iconst 1, 1) := by decide +kernel
theorem own_d19_17 : decode method_5_code 17 = .ok (.if_icmp .le 12, 3) := by decide +kernel
theorem own_d19_29 : decode method_5_code 29 = .ok (.iload_n 1, 1) := by decide +kernel
theorem own_d19_30 : decode method_5_code 30 = .ok (.iconst 2, 1) := by decide +kernel
theorem own_d19_31 : decode method_5_code 31 = .ok (.if_icmp .le 12, 3) := by decide +kernel
theorem own_d19_43 : decode method_5_code 43 = .ok (.iload_n 1, 1) := by decide +kernel
theorem own_d19_44 : decode method_5_code 44 = .ok (.iconst 3, 1) := by decide +kernel
theorem own_d19_45 : decode method_5_code 45 = .ok (.if_icmp .le 12, 3) := by decide +kernel
theorem own_d19_57 : decode method_5_code 57 = .ok (.iload_n 1, 1) := by decide +kernel
theorem own_d19_58 : decode method_5_code 58 = .ok (.iconst 4, 1) := by decide +kernel
theorem own_d19_59 : decode method_5_code 59 = .ok (.if_icmp .le 12, 3) := by decide +kernel
theorem own_d19_71 : decode method_5_code 71 = .ok (.iload_n 3, 1) := by decide +kernel
theorem own_d19_72 : decode method_5_code 72 = .ok (.ireturn, 1) := by decide +kernel
theorem own_ef_own_rlast0 (m : MethodId) (al : Addr) (q : Int32) : entryFrame m #[(.ref al), (.int (0 : Int32)), (.int q)] 4 = mkF m 0 #[rv al, iv (0 : Int32), iv q, .unset] [] := by first | (simp [entryFrame, mkF, argsToLocals, Value.category]; done) | rfl
def own_Q_own_rlast0 (Z : State) (al : Addr) (q : Int32) (ka : ClassId) (ca cb cc cd ce : Int32) (h0 : Heap) (n0 : Nat) (v : Option Value) (h : Heap) (L : List Loc) : Prop := v = some (.int (own_la [ca, cb, cc, cd, ce] q 0)) ∧ Fr n0 L ∧ h = h0
set_option maxRecDepth 65536 in
set_option maxHeartbeats 40000000 in
theorem own_rlast0 (l : Launch) (Z : State) (a0 : Array Value) (hw : ∀ d ∈ tables_1, d.before a0 Z = true) (ws : List Jvm.Cond) (al : Addr) (q : Int32) (ka : ClassId) (ca cb cc cd ce : Int32) (h0 : Heap) (n0 : Nat) (Z0 : n0 ≤ h0.size) (Vl : Arv Z h0 al ka .char (5 : Int32) [(.int ca), (.int cb), (.int cc), (.int cd), (.int ce)] (.int (0 : Int32)))  :
    MetFree l (⟨"com/example/boxwright/boxwright/TableNamesLocalNamePinLaw", "last", "([CIC)I"⟩ : MethodName) (head1 (Jvm.Cond.code (⟨"com/example/boxwright/boxwright/TableNamesLocalNamePinLaw", "last", "([CIC)I"⟩ : MethodName) method_5_code 4 (some .int) :: ws) ({ frames := 0, cells := 0, slots := 0, locals := 0 } : Room)) (fun a U => a = #[(.ref al), (.int (0 : Int32)), (.int q)] ∧ Z.Warmed39 U.vm ∧ U.heap = h0) (fun _ _ _ _ _ => True) (fun _ U o U' => ∃ v L, o = .returned v ∧ own_Q_own_rlast0 Z al q ka ca cb cc cd ce h0 n0 v U'.heap L ∧ FrameEnd U o U' L ({ frames := 0, cells := 0, slots := 0, locals := 0 } : Room).cells ({ frames := 0, cells := 0, slots := 0, locals := 0 } : Room).slots) := by
  refine MetFree.of_bodySF (plainFor_of_name own_pn_com_example_boxwright_boxwright_TableNamesLocalNamePinLaw) hisR ?_
  intro p e s m args below meth c s₁ Bd hml0 hP hK
  obtain ⟨rfl, hZ, hh⟩ := hP
  have hx := Bd.exec
  have hby := Bd.bytes
  have hml : c.maxLocals = 4 := hml0
  have hown : s.vm.findClass "com/example/boxwright/boxwright/TableNamesLocalNamePinLaw" = some m.cls := findClass_of_methodNamed Bd.named
  have hnm := (name_of_methodNamed Bd.named Bd.method).1
  have X0 : Stand p l e ({ frames := 0, cells := 0, slots := 0, locals := 0 } : Room) s m #[(.ref al), (.int (0 : Int32)), (.int q)] below meth c s₁ [] 0 0 := Stand.of_body Bd
  have e0 : s₁.heap = h0 := by rw [← hh, Bd.state]; rfl
  have N0 := Fr.nil n0
  show own_Go p e below s (own_Q_own_rlast0 Z al q ka ca cb cc cd ce h0 n0) ({ frames := 0, cells := 0, slots := 0, locals := 0 } : Room).cells ({ frames := 0, cells := 0, slots := 0, locals := 0 } : Room).slots (s₁.setTop (entryFrame m #[(.ref al), (.int (0 : Int32)), (.int q)] 4))
  refine own_go (fun zt zk => castTop (own_ef_own_rlast0 m al q) zk) ?_
  show own_Go p e below s _ _ _ (s₁.setTop (mkF m 0 #[rv al, iv (0 : Int32), iv q, .unset] []))
  refine own_go (fun zt zk => (XS.iconst X0.here hx rfl (hb hby own_d19_0) (XS.istoreN X0.here hx rfl (hb hby own_d19_1) rfl (l' := #[rv al, iv (0 : Int32), iv q, iv (-1 : Int32)]) rfl zk))) ?_
  show own_Go p e below s _ _ _ (s₁.setTop (mkF m 2 #[rv al, iv (0 : Int32), iv q, iv (-1 : Int32)] []))
  have J0 : ∀ r : Int32, r = own_la [ca, cb, cc, cd, ce] q 0 → own_Go p e below s (own_Q_own_rlast0 Z al q ka ca cb cc cd ce h0 n0) ({ frames := 0, cells := 0, slots := 0, locals := 0 } : Room).cells ({ frames := 0, cells := 0, slots := 0, locals := 0 } : Room).slots (s₁.setTop (mkF m 2 #[rv al, iv (0 : Int32), iv q, iv r] [])) := by
    intro r hr
    show own_Go p e below s _ _ _ (s₁.setTop (mkF m 2 #[rv al, iv (0 : Int32), iv q, iv r] []))
    refine own_go (fun zt zk => (XS.iloadN X0.here hx rfl (hb hby own_d19_2) rfl (XS.ifYes X0.here hx rfl (pc0 := 3) (pc' := 15) rfl (hb hby own_d19_3) rfl ((if0 _ _).trans (flt ((own_irr _) : ¬ ((0 : Int32) < (0 : Int32)))).2.2.2) (by decide) (by decide) (XS.iloadN X0.here hx rfl (hb hby own_d19_15) rfl (XS.iconst X0.here hx rfl (hb hby own_d19_16) (XS.icmpYes X0.here hx rfl (pc0 := 17) (pc' := 29) rfl (hb hby own_d19_17) rfl (flt ((by decide) : ¬ ((1 : Int32) < (0 : Int32)))).2.2.2 (by decide) (by decide) (XS.iloadN X0.here hx rfl (hb hby own_d19_29) rfl (XS.iconst X0.here hx rfl (hb hby own_d19_30) (XS.icmpYes X0.here hx rfl (pc0 := 31) (pc' := 43) rfl (hb hby own_d19_31) rfl (flt ((by decide) : ¬ ((2 : Int32) < (0 : Int32)))).2.2.2 (by decide) (by decide) (XS.iloadN X0.here hx rfl (hb hby own_d19_43) rfl (XS.iconst X0.here hx rfl (hb hby own_d19_44) (XS.icmpYes X0.here hx rfl (pc0 := 45) (pc' := 57) rfl (hb hby own_d19_45) rfl (flt ((by decide) : ¬ ((3 : Int32) < (0 : Int32)))).2.2.2 (by decide) (by decide) (XS.iloadN X0.here hx rfl (hb hby own_d19_57) rfl zk))))))))))))) ?_
    show own_Go p e below s _ _ _ (s₁.setTop (mkF m 58 #[rv al, iv (0 : Int32), iv q, iv r] [(.int (0 : Int32))]))
    refine own_go (fun zt zk => (XS.iconst X0.here hx rfl (hb hby own_d19_58) (XS.icmpYes X0.here hx rfl (pc0 := 59) (pc' := 71) rfl (hb hby own_d19_59) rfl (flt ((by decide) : ¬ ((4 : Int32) < (0 : Int32)))).2.2.2 (by decide) (by decide) (XS.iloadN X0.here hx rfl (hb hby own_d19_71) rfl zk)))) ?_
    show own_Go p e below s _ _ _ (s₁.setTop (mkF m 72 #[rv al, iv (0 : Int32), iv q, iv r] [(.int r)]))
    exact own_fin X0 Bd.notSynchronized (fun h => by rw [Bd.returns] at h; cases h) (fun fs hr => retOut X0 hx (t := .int) (w := (.int r)) Bd.returns rfl (Or.inl ⟨rfl, Or.inl rfl, _, rfl⟩) (hb hby own_d19_72) hr) (by rw [e0]; exact ⟨congrArg (fun z => some (Value.int z)) hr, N0, rfl⟩) (by decide) (by decide)
  exact J0 _ rfl
theorem own_d19_6 : decode method_5_code 6 = .ok (.aload_n 0, 1) := by decide +kernel
theorem own_d19_7 : decode method_5_code 7 = .ok (.iconst 0, 1) := by decide +kernel
theorem own_d19_8 : decode method_5_code 8 = .ok (.caload, 1) := by decide +kernel
theorem own_d19_9 : decode method_5_code 9 = .ok (.iload_n 2, 1) := by decide +kernel
theorem own_d19_10 : decode method_5_code 10 = .ok (.if_icmp .ne 5, 3) := by decide +kernel
theorem own_d19_13 : decode method_5_code 13 = .ok (.iconst 0, 1) := by decide +kernel
theorem own_d19_14 : decode method_5_code 14 = .ok (.istore_n 3, 1) := by decide +kernel
theorem own_ef_own_rlast1 (m : MethodId) (al : Addr) (q : Int32) : entryFrame m #[(.ref al), (.int (1 : Int32)), (.int q)] 4 = mkF m 0 #[rv al, iv (1 : Int32), iv q, .unset] [] := by first | (simp [entryFrame, mkF, argsToLocals, Value.category]; done) | rfl
def own_Q_own_rlast1 (Z : State) (al : Addr) (q : Int32) (ka : ClassId) (ca cb cc cd ce : Int32) (h0 : Heap) (n0 : Nat) (v : Option Value) (h : Heap) (L : List Loc) : Prop := v = some (.int (own_la [ca, cb, cc, cd, ce] q 1)) ∧ Fr n0 L ∧ h = h0
set_option maxRecDepth 65536 in
set_option maxHeartbeats 40000000 in
theorem own_rlast1 (l : Launch) (Z : State) (a0 : Array Value) (hw : ∀ d ∈ tables_1, d.before a0 Z = true) (ws : List Jvm.Cond) (al : Addr) (q : Int32) (ka : ClassId) (ca cb cc cd ce : Int32) (h0 : Heap) (n0 : Nat) (Z0 : n0 ≤ h0.size) (Vl : Arv Z h0 al ka .char (5 : Int32) [(.int ca), (.int cb), (.int cc), (.int cd), (.int ce)] (.int (0 : Int32)))  :
    MetFree l (⟨"com/example/boxwright/boxwright/TableNamesLocalNamePinLaw", "last", "([CIC)I"⟩ : MethodName) (head1 (Jvm.Cond.code (⟨"com/example/boxwright/boxwright/TableNamesLocalNamePinLaw", "last", "([CIC)I"⟩ : MethodName) method_5_code 4 (some .int) :: ws) ({ frames := 0, cells := 0, slots := 0, locals := 0 } : Room)) (fun a U => a = #[(.ref al), (.int (1 : Int32)), (.int q)] ∧ Z.Warmed39 U.vm ∧ U.heap = h0) (fun _ _ _ _ _ => True) (fun _ U o U' => ∃ v L, o = .returned v ∧ own_Q_own_rlast1 Z al q ka ca cb cc cd ce h0 n0 v U'.heap L ∧ FrameEnd U o U' L ({ frames := 0, cells := 0, slots := 0, locals := 0 } : Room).cells ({ frames := 0, cells := 0, slots := 0, locals := 0 } : Room).slots) := by
  refine MetFree.of_bodySF (plainFor_of_name own_pn_com_example_boxwright_boxwright_TableNamesLocalNamePinLaw) hisR ?_
  intro p e s m args below meth c s₁ Bd hml0 hP hK
  obtain ⟨rfl, hZ, hh⟩ := hP
  have hx := Bd.exec
  have hby := Bd.bytes
  have hml : c.maxLocals = 4 := hml0
  have hown : s.vm.findClass "com/example/boxwright/boxwright/TableNamesLocalNamePinLaw" = some m.cls := findClass_of_methodNamed Bd.named
  have hnm := (name_of_methodNamed Bd.named Bd.method).1
  have X0 : Stand p l e ({ frames := 0, cells := 0, slots := 0, locals := 0 } : Room) s m #[(.ref al), (.int (1 : Int32)), (.int q)] below meth c s₁ [] 0 0 := Stand.of_body Bd
  have e0 : s₁.heap = h0 := by rw [← hh, Bd.state]; rfl
  have N0 := Fr.nil n0
  show own_Go p e below s (own_Q_own_rlast1 Z al q ka ca cb cc cd ce h0 n0) ({ frames := 0, cells := 0, slots := 0, locals := 0 } : Room).cells ({ frames := 0, cells := 0, slots := 0, locals := 0 } : Room).slots (s₁.setTop (entryFrame m #[(.ref al), (.int (1 : Int32)), (.int q)] 4))
  refine own_go (fun zt zk => castTop (own_ef_own_rlast1 m al q) zk) ?_
  show own_Go p e below s _ _ _ (s₁.setTop (mkF m 0 #[rv al, iv (1 : Int32), iv q, .unset] []))
  refine own_go (fun zt zk => (XS.iconst X0.here hx rfl (hb hby own_d19_0) (XS.istoreN X0.here hx rfl (hb hby own_d19_1) rfl (l' := #[rv al, iv (1 : Int32), iv q, iv (-1 : Int32)]) rfl zk))) ?_
  show own_Go p e below s _ _ _ (s₁.setTop (mkF m 2 #[rv al, iv (1 : Int32), iv q, iv (-1 : Int32)] []))
  have J1 : ∀ r : Int32, r = own_la [ca, cb, cc, cd, ce] q 1 → own_Go p e below s (own_Q_own_rlast1 Z al q ka ca cb cc cd ce h0 n0) ({ frames := 0, cells := 0, slots := 0, locals := 0 } : Room).cells ({ frames := 0, cells := 0, slots := 0, locals := 0 } : Room).slots (s₁.setTop (mkF m 15 #[rv al, iv (1 : Int32), iv q, iv r] [])) := by
    intro r hr
    show own_Go p e below s _ _ _ (s₁.setTop (mkF m 15 #[rv al, iv (1 : Int32), iv q, iv r] []))
    refine own_go (fun zt zk => (XS.iloadN X0.here hx rfl (hb hby own_d19_15) rfl (XS.iconst X0.here hx rfl (hb hby own_d19_16) (XS.icmpYes X0.here hx rfl (pc0 := 17) (pc' := 29) rfl (hb hby own_d19_17) rfl (flt ((own_irr _) : ¬ ((1 : Int32) < (1 : Int32)))).2.2.2 (by decide) (by decide) (XS.iloadN X0.here hx rfl (hb hby own_d19_29) rfl (XS.iconst X0.here hx rfl (hb hby own_d19_30) (XS.icmpYes X0.here hx rfl (pc0 := 31) (pc' := 43) rfl (hb hby own_d19_31) rfl (flt ((by decide) : ¬ ((2 : Int32) < (1 : Int32)))).2.2.2 (by decide) (by decide) (XS.iloadN X0.here hx rfl (hb hby own_d19_43) rfl (XS.iconst X0.here hx rfl (hb hby own_d19_44) (XS.icmpYes X0.here hx rfl (pc0 := 45) (pc' := 57) rfl (hb hby own_d19_45) rfl (flt ((by decide) : ¬ ((3 : Int32) < (1 : Int32)))).2.2.2 (by decide) (by decide) (XS.iloadN X0.here hx rfl (hb hby own_d19_57) rfl (XS.iconst X0.here hx rfl (hb hby own_d19_58) (XS.icmpYes X0.here hx rfl (pc0 := 59) (pc' := 71) rfl (hb hby own_d19_59) rfl (flt ((by decide) : ¬ ((4 : Int32) < (1 : Int32)))).2.2.2 (by decide) (by decide) zk))))))))))))) ?_
    show own_Go p e below s _ _ _ (s₁.setTop (mkF m 71 #[rv al, iv (1 : Int32), iv q, iv r] []))
    refine own_go (fun zt zk => (XS.iloadN X0.here hx rfl (hb hby own_d19_71) rfl zk)) ?_
    show own_Go p e below s _ _ _ (s₁.setTop (mkF m 72 #[rv al, iv (1 : Int32), iv q, iv r] [(.int r)]))
    exact own_fin X0 Bd.notSynchronized (fun h => by rw [Bd.returns] at h; cases h) (fun fs hr => retOut X0 hx (t := .int) (w := (.int r)) Bd.returns rfl (Or.inl ⟨rfl, Or.inl rfl, _, rfl⟩) (hb hby own_d19_72) hr) (by rw [e0]; exact ⟨congrArg (fun z => some (Value.int z)) hr, N0, rfl⟩) (by decide) (by decide)
  have J0 : ∀ r : Int32, r = own_la [ca, cb, cc, cd, ce] q 0 → own_Go p e below s (own_Q_own_rlast1 Z al q ka ca cb cc cd ce h0 n0) ({ frames := 0, cells := 0, slots := 0, locals := 0 } : Room).cells ({ frames := 0, cells := 0, slots := 0, locals := 0 } : Room).slots (s₁.setTop (mkF m 2 #[rv al, iv (1 : Int32), iv q, iv r] [])) := by
    intro r hr
    show own_Go p e below s _ _ _ (s₁.setTop (mkF m 2 #[rv al, iv (1 : Int32), iv q, iv r] []))
    refine own_go (fun zt zk => (XS.iloadN X0.here hx rfl (hb hby own_d19_2) rfl (XS.ifNo X0.here hx rfl (hb hby own_d19_3) rfl ((if0 _ _).trans (tlt ((by decide) : (0 : Int32) < (1 : Int32))).2.2.2) (XS.aloadN X0.here hx rfl (hb hby own_d19_6) rfl rfl (XS.iconst X0.here hx rfl (hb hby own_d19_7) zk))))) ?_
    show own_Go p e below s _ _ _ (s₁.setTop (mkF m 8 #[rv al, iv (1 : Int32), iv q, iv r] [(.int (0 : Int32)), (.ref al)]))
    obtain ⟨cl1, Ar1, q1, Sz1, Nz1, Ha1, Ga1⟩ := id Vl
    have hin1 : ¬ ((0 : Int32) < 0 ∨ cl1.slots.size ≤ ((0 : Int32)).toNatClampNeg) := inb_of Sz1 ⟨by decide, by decide⟩
    have hat1 : cl1.slots[((0 : Int32)).toNatClampNeg]? = some (.int ca) := Has.at Ha1 hin1 rfl
    refine own_go (X0.caload hx (j := (0 : Int32)) (v := (.int ca)) (by rw [e0]; exact Ar1.1) (State.isArrayOf_alike hZ.alike Ar1.2.1) Ar1.2.2 hin1 hat1 (g := (mkF m 8 #[rv al, iv (1 : Int32), iv q, iv r] [(.int (0 : Int32)), (.ref al)])) rfl rfl (hb hby own_d19_8)) ?_
    show own_Go p e below s _ _ _ (s₁.setTop (mkF m 9 #[rv al, iv (1 : Int32), iv q, iv r] [(.int ca)]))
    refine own_go (fun zt zk => (XS.iloadN X0.here hx rfl (hb hby own_d19_9) rfl zk)) ?_
    show own_Go p e below s _ _ _ (s₁.setTop (mkF m 10 #[rv al, iv (1 : Int32), iv q, iv r] [(.int q), (.int ca)]))
    by_cases heq : ca = q
    · refine own_go (fun zt zk => (XS.icmpNo X0.here hx rfl (hb hby own_d19_10) rfl (teq (heq : ca = q)).2 (XS.iconst X0.here hx rfl (hb hby own_d19_13) (XS.istoreN X0.here hx rfl (hb hby own_d19_14) rfl (l' := #[rv al, iv (1 : Int32), iv q, iv (0 : Int32)]) rfl zk)))) ?_
      show own_Go p e below s _ _ _ (s₁.setTop (mkF m 15 #[rv al, iv (1 : Int32), iv q, iv (0 : Int32)] []))
      exact J1 _ (if_pos heq).symm
    · refine own_go (fun zt zk => (XS.icmpYes X0.here hx rfl (pc0 := 10) (pc' := 15) rfl (hb hby own_d19_10) rfl (feq (heq : ¬ (ca = q))).2 (by decide) (by decide) zk)) ?_
      show own_Go p e below s _ _ _ (s₁.setTop (mkF m 15 #[rv al, iv (1 : Int32), iv q, iv r] []))
      exact J1 _ (hr.trans (if_neg heq).symm)
  exact J0 _ rfl
theorem own_d19_20 : decode method_5_code 20 = .ok (.aload_n 0, 1) := by decide +kernel
theorem own_d19_21 : decode method_5_code 21 = .ok (.iconst 1, 1) := by decide +kernel
theorem own_d19_22 : decode method_5_code 22 = .ok (.caload, 1) := by decide +kernel
theorem own_d19_23 : decode method_5_code 23 = .ok (.iload_n 2, 1) := by decide +kernel
theorem own_d19_24 : decode method_5_code 24 = .ok (.if_icmp .ne 5, 3) := by decide +kernel
theorem own_d19_27 : decode method_5_code 27 = .ok (.iconst 1, 1) := by decide +kernel
theorem own_d19_28 : decode method_5_code 28 = .ok (.istore_n 3, 1) := by decide +kernel
theorem own_ef_own_rlast2 (m : MethodId) (al : Addr) (q : Int32) : entryFrame m #[(.ref al), (.int (2 : Int32)), (.int q)] 4 = mkF m 0 #[rv al, iv (2 : Int32), iv q, .unset] [] := by first | (simp [entryFrame, mkF, argsToLocals, Value.category]; done) | rfl
def own_Q_own_rlast2 (Z : State) (al : Addr) (q : Int32) (ka : ClassId) (ca cb cc cd ce : Int32) (h0 : Heap) (n0 : Nat) (v : Option Value) (h : Heap) (L : List Loc) : Prop := v = some (.int (own_la [ca, cb, cc, cd, ce] q 2)) ∧ Fr n0 L ∧ h = h0
set_option maxRecDepth 65536 in
set_option maxHeartbeats 40000000 in
theorem own_rlast2 (l : Launch) (Z : State) (a0 : Array Value) (hw : ∀ d ∈ tables_1, d.before a0 Z = true) (ws : List Jvm.Cond) (al : Addr) (q : Int32) (ka : ClassId) (ca cb cc cd ce : Int32) (h0 : Heap) (n0 : Nat) (Z0 : n0 ≤ h0.size) (Vl : Arv Z h0 al ka .char (5 : Int32) [(.int ca), (.int cb), (.int cc), (.int cd), (.int ce)] (.int (0 : Int32)))  :
    MetFree l (⟨"com/example/boxwright/boxwright/TableNamesLocalNamePinLaw", "last", "([CIC)I"⟩ : MethodName) (head1 (Jvm.Cond.code (⟨"com/example/boxwright/boxwright/TableNamesLocalNamePinLaw", "last", "([CIC)I"⟩ : MethodName) method_5_code 4 (some .int) :: ws) ({ frames := 0, cells := 0, slots := 0, locals := 0 } : Room)) (fun a U => a = #[(.ref al), (.int (2 : Int32)), (.int q)] ∧ Z.Warmed39 U.vm ∧ U.heap = h0) (fun _ _ _ _ _ => True) (fun _ U o U' => ∃ v L, o = .returned v ∧ own_Q_own_rlast2 Z al q ka ca cb cc cd ce h0 n0 v U'.heap L ∧ FrameEnd U o U' L ({ frames := 0, cells := 0, slots := 0, locals := 0 } : Room).cells ({ frames := 0, cells := 0, slots := 0, locals := 0 } : Room).slots) := by
  refine MetFree.of_bodySF (plainFor_of_name own_pn_com_example_boxwright_boxwright_TableNamesLocalNamePinLaw) hisR ?_
  intro p e s m args below meth c s₁ Bd hml0 hP hK
  obtain ⟨rfl, hZ, hh⟩ := hP
  have hx := Bd.exec
  have hby := Bd.bytes
  have hml : c.maxLocals = 4 := hml0
  have hown : s.vm.findClass "com/example/boxwright/boxwright/TableNamesLocalNamePinLaw" = some m.cls := findClass_of_methodNamed Bd.named
  have hnm := (name_of_methodNamed Bd.named Bd.method).1
  have X0 : Stand p l e ({ frames := 0, cells := 0, slots := 0, locals := 0 } : Room) s m #[(.ref al), (.int (2 : Int32)), (.int q)] below meth c s₁ [] 0 0 := Stand.of_body Bd
  have e0 : s₁.heap = h0 := by rw [← hh, Bd.state]; rfl
  have N0 := Fr.nil n0
  show own_Go p e below s (own_Q_own_rlast2 Z al q ka ca cb cc cd ce h0 n0) ({ frames := 0, cells := 0, slots := 0, locals := 0 } : Room).cells ({ frames := 0, cells := 0, slots := 0, locals := 0 } : Room).slots (s₁.setTop (entryFrame m #[(.ref al), (.int (2 : Int32)), (.int q)] 4))
  refine own_go (fun zt zk => castTop (own_ef_own_rlast2 m al q) zk) ?_
  show own_Go p e below s _ _ _ (s₁.setTop (mkF m 0 #[rv al, iv (2 : Int32), iv q, .unset] []))
  refine own_go (fun zt zk => (XS.iconst X0.here hx rfl (hb hby own_d19_0) (XS.istoreN X0.here hx rfl (hb hby own_d19_1) rfl (l' := #[rv al, iv (2 : Int32), iv q, iv (-1 : Int32)]) rfl zk))) ?_
  show own_Go p e below s _ _ _ (s₁.setTop (mkF m 2 #[rv al, iv (2 : Int32), iv q, iv (-1 : Int32)] []))
  have J2 : ∀ r : Int32, r = own_la [ca, cb, cc, cd, ce] q 2 → own_Go p e below s (own_Q_own_rlast2 Z al q ka ca cb cc cd ce h0 n0) ({ frames := 0, cells := 0, slots := 0, locals := 0 } : Room).cells ({ frames := 0, cells := 0, slots := 0, locals := 0 } : Room).slots (s₁.setTop (mkF m 29 #[rv al, iv (2 : Int32), iv q, iv r] [])) := by
    intro r hr
    show own_Go p e below s _ _ _ (s₁.setTop (mkF m 29 #[rv al, iv (2 : Int32), iv q, iv r] []))
    refine own_go (fun zt zk => (XS.iloadN X0.here hx rfl (hb hby own_d19_29) rfl (XS.iconst X0.here hx rfl (hb hby own_d19_30) (XS.icmpYes X0.here hx rfl (pc0 := 31) (pc' := 43) rfl (hb hby own_d19_31) rfl (flt ((own_irr _) : ¬ ((2 : Int32) < (2 : Int32)))).2.2.2 (by decide) (by decide) (XS.iloadN X0.here hx rfl (hb hby own_d19_43) rfl (XS.iconst X0.here hx rfl (hb hby own_d19_44) (XS.icmpYes X0.here hx rfl (pc0 := 45) (pc' := 57) rfl (hb hby own_d19_45) rfl (flt ((by decide) : ¬ ((3 : Int32) < (2 : Int32)))).2.2.2 (by decide) (by decide) (XS.iloadN X0.here hx rfl (hb hby own_d19_57) rfl (XS.iconst X0.here hx rfl (hb hby own_d19_58) (XS.icmpYes X0.here hx rfl (pc0 := 59) (pc' := 71) rfl (hb hby own_d19_59) rfl (flt ((by decide) : ¬ ((4 : Int32) < (2 : Int32)))).2.2.2 (by decide) (by decide) (XS.iloadN X0.here hx rfl (hb hby own_d19_71) rfl zk))))))))))) ?_
    show own_Go p e below s _ _ _ (s₁.setTop (mkF m 72 #[rv al, iv (2 : Int32), iv q, iv r] [(.int r)]))
    exact own_fin X0 Bd.notSynchronized (fun h => by rw [Bd.returns] at h; cases h) (fun fs hr => retOut X0 hx (t := .int) (w := (.int r)) Bd.returns rfl (Or.inl ⟨rfl, Or.inl rfl, _, rfl⟩) (hb hby own_d19_72) hr) (by rw [e0]; exact ⟨congrArg (fun z => some (Value.int z)) hr, N0, rfl⟩) (by decide) (by decide)
  have J1 : ∀ r : Int32, r = own_la [ca, cb, cc, cd, ce] q 1 → own_Go p e below s (own_Q_own_rlast2 Z al q ka ca cb cc cd ce h0 n0) ({ frames := 0, cells := 0, slots := 0, locals := 0 } : Room).cells ({ frames := 0, cells := 0, slots := 0, locals := 0 } : Room).slots (s₁.setTop (mkF m 15 #[rv al, iv (2 : Int32), iv q, iv r] [])) := by
    intro r hr
    show own_Go p e below s _ _ _ (s₁.setTop (mkF m 15 #[rv al, iv (2 : Int32), iv q, iv r] []))
    refine own_go (fun zt zk => (XS.iloadN X0.here hx rfl (hb hby own_d19_15) rfl (XS.iconst X0.here hx rfl (hb hby own_d19_16) (XS.icmpNo X0.here hx rfl (hb hby own_d19_17) rfl (tlt ((by decide) : (1 : Int32) < (2 : Int32))).2.2.2 (XS.aloadN X0.here hx rfl (hb hby own_d19_20) rfl rfl (XS.iconst X0.here hx rfl (hb hby own_d19_21) zk)))))) ?_
    show own_Go p e below s _ _ _ (s₁.setTop (mkF m 22 #[rv al, iv (2 : Int32), iv q, iv r] [(.int (1 : Int32)), (.ref al)]))
    obtain ⟨cl1, Ar1, q1, Sz1, Nz1, Ha1, Ga1⟩ := id Vl
    have hin1 : ¬ ((1 : Int32) < 0 ∨ cl1.slots.size ≤ ((1 : Int32)).toNatClampNeg) := inb_of Sz1 ⟨by decide, by decide⟩
    have hat1 : cl1.slots[((1 : Int32)).toNatClampNeg]? = some (.int cb) := Has.at Ha1 hin1 rfl
    refine own_go (X0.caload hx (j := (1 : Int32)) (v := (.int cb)) (by rw [e0]; exact Ar1.1) (State.isArrayOf_alike hZ.alike Ar1.2.1) Ar1.2.2 hin1 hat1 (g := (mkF m 22 #[rv al, iv (2 : Int32), iv q, iv r] [(.int (1 : Int32)), (.ref al)])) rfl rfl (hb hby own_d19_22)) ?_
    show own_Go p e below s _ _ _ (s₁.setTop (mkF m 23 #[rv al, iv (2 : Int32), iv q, iv r] [(.int cb)]))
    refine own_go (fun zt zk => (XS.iloadN X0.here hx rfl (hb hby own_d19_23) rfl zk)) ?_
    show own_Go p e below s _ _ _ (s₁.setTop (mkF m 24 #[rv al, iv (2 : Int32), iv q, iv r] [(.int q), (.int cb)]))
    by_cases heq : cb = q
    · refine own_go (fun zt zk => (XS.icmpNo X0.here hx rfl (hb hby own_d19_24) rfl (teq (heq : cb = q)).2 (XS.iconst X0.here hx rfl (hb hby own_d19_27) (XS.istoreN X0.here hx rfl (hb hby own_d19_28) rfl (l' := #[rv al, iv (2 : Int32), iv q, iv (1 : Int32)]) rfl zk)))) ?_
      show own_Go p e below s _ _ _ (s₁.setTop (mkF m 29 #[rv al, iv (2 : Int32), iv q, iv (1 : Int32)] []))
      exact J2 _ (if_pos heq).symm
    · refine own_go (fun zt zk => (XS.icmpYes X0.here hx rfl (pc0 := 24) (pc' := 29) rfl (hb hby own_d19_24) rfl (feq (heq : ¬ (cb = q))).2 (by decide) (by decide) zk)) ?_
      show own_Go p e below s _ _ _ (s₁.setTop (mkF m 29 #[rv al, iv (2 : Int32), iv q, iv r] []))
      exact J2 _ (hr.trans (if_neg heq).symm)
  have J0 : ∀ r : Int32, r = own_la [ca, cb, cc, cd, ce] q 0 → own_Go p e below s (own_Q_own_rlast2 Z al q ka ca cb cc cd ce h0 n0) ({ frames := 0, cells := 0, slots := 0, locals := 0 } : Room).cells ({ frames := 0, cells := 0, slots := 0, locals := 0 } : Room).slots (s₁.setTop (mkF m 2 #[rv al, iv (2 : Int32), iv q, iv r] [])) := by
    intro r hr
    show own_Go p e below s _ _ _ (s₁.setTop (mkF m 2 #[rv al, iv (2 : Int32), iv q, iv r] []))
    refine own_go (fun zt zk => (XS.iloadN X0.here hx rfl (hb hby own_d19_2) rfl (XS.ifNo X0.here hx rfl (hb hby own_d19_3) rfl ((if0 _ _).trans (tlt ((by decide) : (0 : Int32) < (2 : Int32))).2.2.2) (XS.aloadN X0.here hx rfl (hb hby own_d19_6) rfl rfl (XS.iconst X0.here hx rfl (hb hby own_d19_7) zk))))) ?_
    show own_Go p e below s _ _ _ (s₁.setTop (mkF m 8 #[rv al, iv (2 : Int32), iv q, iv r] [(.int (0 : Int32)), (.ref al)]))
    obtain ⟨cl2, Ar2, q2, Sz2, Nz2, Ha2, Ga2⟩ := id Vl
    have hin2 : ¬ ((0 : Int32) < 0 ∨ cl2.slots.size ≤ ((0 : Int32)).toNatClampNeg) := inb_of Sz2 ⟨by decide, by decide⟩
    have hat2 : cl2.slots[((0 : Int32)).toNatClampNeg]? = some (.int ca) := Has.at Ha2 hin2 rfl
    refine own_go (X0.caload hx (j := (0 : Int32)) (v := (.int ca)) (by rw [e0]; exact Ar2.1) (State.isArrayOf_alike hZ.alike Ar2.2.1) Ar2.2.2 hin2 hat2 (g := (mkF m 8 #[rv al, iv (2 : Int32), iv q, iv r] [(.int (0 : Int32)), (.ref al)])) rfl rfl (hb hby own_d19_8)) ?_
    show own_Go p e below s _ _ _ (s₁.setTop (mkF m 9 #[rv al, iv (2 : Int32), iv q, iv r] [(.int ca)]))
    refine own_go (fun zt zk => (XS.iloadN X0.here hx rfl (hb hby own_d19_9) rfl zk)) ?_
    show own_Go p e below s _ _ _ (s₁.setTop (mkF m 10 #[rv al, iv (2 : Int32), iv q, iv r] [(.int q), (.int ca)]))
    by_cases heq : ca = q
    · refine own_go (fun zt zk => (XS.icmpNo X0.here hx rfl (hb hby own_d19_10) rfl (teq (heq : ca = q)).2 (XS.iconst X0.here hx rfl (hb hby own_d19_13) (XS.istoreN X0.here hx rfl (hb hby own_d19_14) rfl (l' := #[rv al, iv (2 : Int32), iv q, iv (0 : Int32)]) rfl zk)))) ?_
      show own_Go p e below s _ _ _ (s₁.setTop (mkF m 15 #[rv al, iv (2 : Int32), iv q, iv (0 : Int32)] []))
      exact J1 _ (if_pos heq).symm
    · refine own_go (fun zt zk => (XS.icmpYes X0.here hx rfl (pc0 := 10) (pc' := 15) rfl (hb hby own_d19_10) rfl (feq (heq : ¬ (ca = q))).2 (by decide) (by decide) zk)) ?_
      show own_Go p e below s _ _ _ (s₁.setTop (mkF m 15 #[rv al, iv (2 : Int32), iv q, iv r] []))
      exact J1 _ (hr.trans (if_neg heq).symm)
  exact J0 _ rfl
theorem own_d19_34 : decode method_5_code 34 = .ok (.aload_n 0, 1) := by decide +kernel
theorem own_d19_35 : decode method_5_code 35 = .ok (.iconst 2, 1) := by decide +kernel
theorem own_d19_36 : decode method_5_code 36 = .ok (.caload, 1) := by decide +kernel
theorem own_d19_37 : decode method_5_code 37 = .ok (.iload_n 2, 1) := by decide +kernel
theorem own_d19_38 : decode method_5_code 38 = .ok (.if_icmp .ne 5, 3) := by decide +kernel
theorem own_d19_41 : decode method_5_code 41 = .ok (.iconst 2, 1) := by decide +kernel
theorem own_d19_42 : decode method_5_code 42 = .ok (.istore_n 3, 1) := by decide +kernel
theorem own_ef_own_rlast3 (m : MethodId) (al : Addr) (q : Int32) : entryFrame m #[(.ref al), (.int (3 : Int32)), (.int q)] 4 = mkF m 0 #[rv al, iv (3 : Int32), iv q, .unset] [] := by first | (simp [entryFrame, mkF, argsToLocals, Value.category]; done) | rfl
def own_Q_own_rlast3 (Z : State) (al : Addr) (q : Int32) (ka : ClassId) (ca cb cc cd ce : Int32) (h0 : Heap) (n0 : Nat) (v : Option Value) (h : Heap) (L : List Loc) : Prop := v = some (.int (own_la [ca, cb, cc, cd, ce] q 3)) ∧ Fr n0 L ∧ h = h0
set_option maxRecDepth 65536 in
set_option maxHeartbeats 40000000 in
theorem own_rlast3 (l : Launch) (Z : State) (a0 : Array Value) (hw : ∀ d ∈ tables_1, d.before a0 Z = true) (ws : List Jvm.Cond) (al : Addr) (q : Int32) (ka : ClassId) (ca cb cc cd ce : Int32) (h0 : Heap) (n0 : Nat) (Z0 : n0 ≤ h0.size) (Vl : Arv Z h0 al ka .char (5 : Int32) [(.int ca), (.int cb), (.int cc), (.int cd), (.int ce)] (.int (0 : Int32)))  :
    MetFree l (⟨"com/example/boxwright/boxwright/TableNamesLocalNamePinLaw", "last", "([CIC)I"⟩ : MethodName) (head1 (Jvm.Cond.code (⟨"com/example/boxwright/boxwright/TableNamesLocalNamePinLaw", "last", "([CIC)I"⟩ : MethodName) method_5_code 4 (some .int) :: ws) ({ frames := 0, cells := 0, slots := 0, locals := 0 } : Room)) (fun a U => a = #[(.ref al), (.int (3 : Int32)), (.int q)] ∧ Z.Warmed39 U.vm ∧ U.heap = h0) (fun _ _ _ _ _ => True) (fun _ U o U' => ∃ v L, o = .returned v ∧ own_Q_own_rlast3 Z al q ka ca cb cc cd ce h0 n0 v U'.heap L ∧ FrameEnd U o U' L ({ frames := 0, cells := 0, slots := 0, locals := 0 } : Room).cells ({ frames := 0, cells := 0, slots := 0, locals := 0 } : Room).slots) := by
  refine MetFree.of_bodySF (plainFor_of_name own_pn_com_example_boxwright_boxwright_TableNamesLocalNamePinLaw) hisR ?_
  intro p e s m args below meth c s₁ Bd hml0 hP hK
  obtain ⟨rfl, hZ, hh⟩ := hP
  have hx := Bd.exec
  have hby := Bd.bytes
  have hml : c.maxLocals = 4 := hml0
  have hown : s.vm.findClass "com/example/boxwright/boxwright/TableNamesLocalNamePinLaw" = some m.cls := findClass_of_methodNamed Bd.named
  have hnm := (name_of_methodNamed Bd.named Bd.method).1
  have X0 : Stand p l e ({ frames := 0, cells := 0, slots := 0, locals := 0 } : Room) s m #[(.ref al), (.int (3 : Int32)), (.int q)] below meth c s₁ [] 0 0 := Stand.of_body Bd
  have e0 : s₁.heap = h0 := by rw [← hh, Bd.state]; rfl
  have N0 := Fr.nil n0
  show own_Go p e below s (own_Q_own_rlast3 Z al q ka ca cb cc cd ce h0 n0) ({ frames := 0, cells := 0, slots := 0, locals := 0 } : Room).cells ({ frames := 0, cells := 0, slots := 0, locals := 0 } : Room).slots (s₁.setTop (entryFrame m #[(.ref al), (.int (3 : Int32)), (.int q)] 4))
  refine own_go (fun zt zk => castTop (own_ef_own_rlast3 m al q) zk) ?_
  show own_Go p e below s _ _ _ (s₁.setTop (mkF m 0 #[rv al, iv (3 : Int32), iv q, .unset] []))
  refine own_go (fun zt zk => (XS.iconst X0.here hx rfl (hb hby own_d19_0) (XS.istoreN X0.here hx rfl (hb hby own_d19_1) rfl (l' := #[rv al, iv (3 : Int32), iv q, iv (-1 : Int32)]) rfl zk))) ?_
  show own_Go p e below s _ _ _ (s₁.setTop (mkF m 2 #[rv al, iv (3 : Int32), iv q, iv (-1 : Int32)] []))
  have J3 : ∀ r : Int32, r = own_la [ca, cb, cc, cd, ce] q 3 → own_Go p e below s (own_Q_own_rlast3 Z al q ka ca cb cc cd ce h0 n0) ({ frames := 0, cells := 0, slots := 0, locals := 0 } : Room).cells ({ frames := 0, cells := 0, slots := 0, locals := 0 } : Room).slots (s₁.setTop (mkF m 43 #[rv al, iv (3 : Int32), iv q, iv r] [])) := by
    intro r hr
    show own_Go p e below s _ _ _ (s₁.setTop (mkF m 43 #[rv al, iv (3 : Int32), iv q, iv r] []))
    refine own_go (fun zt zk => (XS.iloadN X0.here hx rfl (hb hby own_d19_43) rfl (XS.iconst X0.here hx rfl (hb hby own_d19_44) (XS.icmpYes X0.here hx rfl (pc0 := 45) (pc' := 57) rfl (hb hby own_d19_45) rfl (flt ((own_irr _) : ¬ ((3 : Int32) < (3 : Int32)))).2.2.2 (by decide) (by decide) (XS.iloadN X0.here hx rfl (hb hby own_d19_57) rfl (XS.iconst X0.here hx rfl (hb hby own_d19_58) (XS.icmpYes X0.here hx rfl (pc0 := 59) (pc' := 71) rfl (hb hby own_d19_59) rfl (flt ((by decide) : ¬ ((4 : Int32) < (3 : Int32)))).2.2.2 (by decide) (by decide) (XS.iloadN X0.here hx rfl (hb hby own_d19_71) rfl zk)))))))) ?_
    show own_Go p e below s _ _ _ (s₁.setTop (mkF m 72 #[rv al, iv (3 : Int32), iv q, iv r] [(.int r)]))
    exact own_fin X0 Bd.notSynchronized (fun h => by rw [Bd.returns] at h; cases h) (fun fs hr => retOut X0 hx (t := .int) (w := (.int r)) Bd.returns rfl (Or.inl ⟨rfl, Or.inl rfl, _, rfl⟩) (hb hby own_d19_72) hr) (by rw [e0]; exact ⟨congrArg (fun z => some (Value.int z)) hr, N0, rfl⟩) (by decide) (by decide)
  have J2 : ∀ r : Int32, r = own_la [ca, cb, cc, cd, ce] q 2 → own_Go p e below s (own_Q_own_rlast3 Z al q ka ca cb cc cd ce h0 n0) ({ frames := 0, cells := 0, slots := 0, locals := 0 } : Room).cells ({ frames := 0, cells := 0, slots := 0, locals := 0 } : Room).slots (s₁.setTop (mkF m 29 #[rv al, iv (3 : Int32), iv q, iv r] [])) := by
    intro r hr
    show own_Go p e below s _ _ _ (s₁.setTop (mkF m 29 #[rv al, iv (3 : Int32), iv q, iv r] []))
    refine own_go (fun zt zk => (XS.iloadN X0.here hx rfl (hb hby own_d19_29) rfl (XS.iconst X0.here hx rfl (hb hby own_d19_30) (XS.icmpNo X0.here hx rfl (hb hby own_d19_31) rfl (tlt ((by decide) : (2 : Int32) < (3 : Int32))).2.2.2 (XS.aloadN X0.here hx rfl (hb hby own_d19_34) rfl rfl (XS.iconst X0.here hx rfl (hb hby own_d19_35) zk)))))) ?_
    show own_Go p e below s _ _ _ (s₁.setTop (mkF m 36 #[rv al, iv (3 : Int32), iv q, iv r] [(.int (2 : Int32)), (.ref al)]))
    obtain ⟨cl1, Ar1, q1, Sz1, Nz1, Ha1, Ga1⟩ := id Vl
    have hin1 : ¬ ((2 : Int32) < 0 ∨ cl1.slots.size ≤ ((2 : Int32)).toNatClampNeg) := inb_of Sz1 ⟨by decide, by decide⟩
    have hat1 : cl1.slots[((2 : Int32)).toNatClampNeg]? = some (.int cc) := Has.at Ha1 hin1 rfl
    refine own_go (X0.caload hx (j := (2 : Int32)) (v := (.int cc)) (by rw [e0]; exact Ar1.1) (State.isArrayOf_alike hZ.alike Ar1.2.1) Ar1.2.2 hin1 hat1 (g := (mkF m 36 #[rv al, iv (3 : Int32), iv q, iv r] [(.int (2 : Int32)), (.ref al)])) rfl rfl (hb hby own_d19_36)) ?_
    show own_Go p e below s _ _ _ (s₁.setTop (mkF m 37 #[rv al, iv (3 : Int32), iv q, iv r] [(.int cc)]))
    refine own_go (fun zt zk => (XS.iloadN X0.here hx rfl (hb hby own_d19_37) rfl zk)) ?_
    show own_Go p e below s _ _ _ (s₁.setTop (mkF m 38 #[rv al, iv (3 : Int32), iv q, iv r] [(.int q), (.int cc)]))
    by_cases heq : cc = q
    · refine own_go (fun zt zk => (XS.icmpNo X0.here hx rfl (hb hby own_d19_38) rfl (teq (heq : cc = q)).2 (XS.iconst X0.here hx rfl (hb hby own_d19_41) (XS.istoreN X0.here hx rfl (hb hby own_d19_42) rfl (l' := #[rv al, iv (3 : Int32), iv q, iv (2 : Int32)]) rfl zk)))) ?_
      show own_Go p e below s _ _ _ (s₁.setTop (mkF m 43 #[rv al, iv (3 : Int32), iv q, iv (2 : Int32)] []))
      exact J3 _ (if_pos heq).symm
    · refine own_go (fun zt zk => (XS.icmpYes X0.here hx rfl (pc0 := 38) (pc' := 43) rfl (hb hby own_d19_38) rfl (feq (heq : ¬ (cc = q))).2 (by decide) (by decide) zk)) ?_
      show own_Go p e below s _ _ _ (s₁.setTop (mkF m 43 #[rv al, iv (3 : Int32), iv q, iv r] []))
      exact J3 _ (hr.trans (if_neg heq).symm)
  have J1 : ∀ r : Int32, r = own_la [ca, cb, cc, cd, ce] q 1 → own_Go p e below s (own_Q_own_rlast3 Z al q ka ca cb cc cd ce h0 n0) ({ frames := 0, cells := 0, slots := 0, locals := 0 } : Room).cells ({ frames := 0, cells := 0, slots := 0, locals := 0 } : Room).slots (s₁.setTop (mkF m 15 #[rv al, iv (3 : Int32), iv q, iv r] [])) := by
    intro r hr
    show own_Go p e below s _ _ _ (s₁.setTop (mkF m 15 #[rv al, iv (3 : Int32), iv q, iv r] []))
    refine own_go (fun zt zk => (XS.iloadN X0.here hx rfl (hb hby own_d19_15) rfl (XS.iconst X0.here hx rfl (hb hby own_d19_16) (XS.icmpNo X0.here hx rfl (hb hby own_d19_17) rfl (tlt ((by decide) : (1 : Int32) < (3 : Int32))).2.2.2 (XS.aloadN X0.here hx rfl (hb hby own_d19_20) rfl rfl (XS.iconst X0.here hx rfl (hb hby own_d19_21) zk)))))) ?_
    show own_Go p e below s _ _ _ (s₁.setTop (mkF m 22 #[rv al, iv (3 : Int32), iv q, iv r] [(.int (1 : Int32)), (.ref al)]))
    obtain ⟨cl2, Ar2, q2, Sz2, Nz2, Ha2, Ga2⟩ := id Vl
    have hin2 : ¬ ((1 : Int32) < 0 ∨ cl2.slots.size ≤ ((1 : Int32)).toNatClampNeg) := inb_of Sz2 ⟨by decide, by decide⟩
    have hat2 : cl2.slots[((1 : Int32)).toNatClampNeg]? = some (.int cb) := Has.at Ha2 hin2 rfl
    refine own_go (X0.caload hx (j := (1 : Int32)) (v := (.int cb)) (by rw [e0]; exact Ar2.1) (State.isArrayOf_alike hZ.alike Ar2.2.1) Ar2.2.2 hin2 hat2 (g := (mkF m 22 #[rv al, iv (3 : Int32), iv q, iv r] [(.int (1 : Int32)), (.ref al)])) rfl rfl (hb hby own_d19_22)) ?_
    show own_Go p e below s _ _ _ (s₁.setTop (mkF m 23 #[rv al, iv (3 : Int32), iv q, iv r] [(.int cb)]))
    refine own_go (fun zt zk => (XS.iloadN X0.here hx rfl (hb hby own_d19_23) rfl zk)) ?_
    show own_Go p e below s _ _ _ (s₁.setTop (mkF m 24 #[rv al, iv (3 : Int32), iv q, iv r] [(.int q), (.int cb)]))
    by_cases heq : cb = q
    · refine own_go (fun zt zk => (XS.icmpNo X0.here hx rfl (hb hby own_d19_24) rfl (teq (heq : cb = q)).2 (XS.iconst X0.here hx rfl (hb hby own_d19_27) (XS.istoreN X0.here hx rfl (hb hby own_d19_28) rfl (l' := #[rv al, iv (3 : Int32), iv q, iv (1 : Int32)]) rfl zk)))) ?_
      show own_Go p e below s _ _ _ (s₁.setTop (mkF m 29 #[rv al, iv (3 : Int32), iv q, iv (1 : Int32)] []))
      exact J2 _ (if_pos heq).symm
    · refine own_go (fun zt zk => (XS.icmpYes X0.here hx rfl (pc0 := 24) (pc' := 29) rfl (hb hby own_d19_24) rfl (feq (heq : ¬ (cb = q))).2 (by decide) (by decide) zk)) ?_
      show own_Go p e below s _ _ _ (s₁.setTop (mkF m 29 #[rv al, iv (3 : Int32), iv q, iv r] []))
      exact J2 _ (hr.trans (if_neg heq).symm)
  have J0 : ∀ r : Int32, r = own_la [ca, cb, cc, cd, ce] q 0 → own_Go p e below s (own_Q_own_rlast3 Z al q ka ca cb cc cd ce h0 n0) ({ frames := 0, cells := 0, slots := 0, locals := 0 } : Room).cells ({ frames := 0, cells := 0, slots := 0, locals := 0 } : Room).slots (s₁.setTop (mkF m 2 #[rv al, iv (3 : Int32), iv q, iv r] [])) := by
    intro r hr
    show own_Go p e below s _ _ _ (s₁.setTop (mkF m 2 #[rv al, iv (3 : Int32), iv q, iv r] []))
    refine own_go (fun zt zk => (XS.iloadN X0.here hx rfl (hb hby own_d19_2) rfl (XS.ifNo X0.here hx rfl (hb hby own_d19_3) rfl ((if0 _ _).trans (tlt ((by decide) : (0 : Int32) < (3 : Int32))).2.2.2) (XS.aloadN X0.here hx rfl (hb hby own_d19_6) rfl rfl (XS.iconst X0.here hx rfl (hb hby own_d19_7) zk))))) ?_
    show own_Go p e below s _ _ _ (s₁.setTop (mkF m 8 #[rv al, iv (3 : Int32), iv q, iv r] [(.int (0 : Int32)), (.ref al)]))
    obtain ⟨cl3, Ar3, q3, Sz3, Nz3, Ha3, Ga3⟩ := id Vl
    have hin3 : ¬ ((0 : Int32) < 0 ∨ cl3.slots.size ≤ ((0 : Int32)).toNatClampNeg) := inb_of Sz3 ⟨by decide, by decide⟩
    have hat3 : cl3.slots[((0 : Int32)).toNatClampNeg]? = some (.int ca) := Has.at Ha3 hin3 rfl
    refine own_go (X0.caload hx (j := (0 : Int32)) (v := (.int ca)) (by rw [e0]; exact Ar3.1) (State.isArrayOf_alike hZ.alike Ar3.2.1) Ar3.2.2 hin3 hat3 (g := (mkF m 8 #[rv al, iv (3 : Int32), iv q, iv r] [(.int (0 : Int32)), (.ref al)])) rfl rfl (hb hby own_d19_8)) ?_
    show own_Go p e below s _ _ _ (s₁.setTop (mkF m 9 #[rv al, iv (3 : Int32), iv q, iv r] [(.int ca)]))
    refine own_go (fun zt zk => (XS.iloadN X0.here hx rfl (hb hby own_d19_9) rfl zk)) ?_
    show own_Go p e below s _ _ _ (s₁.setTop (mkF m 10 #[rv al, iv (3 : Int32), iv q, iv r] [(.int q), (.int ca)]))
    by_cases heq : ca = q
    · refine own_go (fun zt zk => (XS.icmpNo X0.here hx rfl (hb hby own_d19_10) rfl (teq (heq : ca = q)).2 (XS.iconst X0.here hx rfl (hb hby own_d19_13) (XS.istoreN X0.here hx rfl (hb hby own_d19_14) rfl (l' := #[rv al, iv (3 : Int32), iv q, iv (0 : Int32)]) rfl zk)))) ?_
      show own_Go p e below s _ _ _ (s₁.setTop (mkF m 15 #[rv al, iv (3 : Int32), iv q, iv (0 : Int32)] []))
      exact J1 _ (if_pos heq).symm
    · refine own_go (fun zt zk => (XS.icmpYes X0.here hx rfl (pc0 := 10) (pc' := 15) rfl (hb hby own_d19_10) rfl (feq (heq : ¬ (ca = q))).2 (by decide) (by decide) zk)) ?_
      show own_Go p e below s _ _ _ (s₁.setTop (mkF m 15 #[rv al, iv (3 : Int32), iv q, iv r] []))
      exact J1 _ (hr.trans (if_neg heq).symm)
  exact J0 _ rfl
theorem own_d19_48 : decode method_5_code 48 = .ok (.aload_n 0, 1) := by decide +kernel
theorem own_d19_49 : decode method_5_code 49 = .ok (.iconst 3, 1) := by decide +kernel
theorem own_d19_50 : decode method_5_code 50 = .ok (.caload, 1) := by decide +kernel
theorem own_d19_51 : decode method_5_code 51 = .ok (.iload_n 2, 1) := by decide +kernel
theorem own_d19_52 : decode method_5_code 52 = .ok (.if_icmp .ne 5, 3) := by decide +kernel
theorem own_d19_55 : decode method_5_code 55 = .ok (.iconst 3, 1) := by decide +kernel
theorem own_d19_56 : decode method_5_code 56 = .ok (.istore_n 3, 1) := by decide +kernel
theorem own_ef_own_rlast4 (m : MethodId) (al : Addr) (q : Int32) : entryFrame m #[(.ref al), (.int (4 : Int32)), (.int q)] 4 = mkF m 0 #[rv al, iv (4 : Int32), iv q, .unset] [] := by first | (simp [entryFrame, mkF, argsToLocals, Value.category]; done) | rfl
def own_Q_own_rlast4 (Z : State) (al : Addr) (q : Int32) (ka : ClassId) (ca cb cc cd ce : Int32) (h0 : Heap) (n0 : Nat) (v : Option Value) (h : Heap) (L : List Loc) : Prop := v = some (.int (own_la [ca, cb, cc, cd, ce] q 4)) ∧ Fr n0 L ∧ h = h0
set_option maxRecDepth 65536 in
set_option maxHeartbeats 40000000 in
theorem own_rlast4 (l : Launch) (Z : State) (a0 : Array Value) (hw : ∀ d ∈ tables_1, d.before a0 Z = true) (ws : List Jvm.Cond) (al : Addr) (q : Int32) (ka : ClassId) (ca cb cc cd ce : Int32) (h0 : Heap) (n0 : Nat) (Z0 : n0 ≤ h0.size) (Vl : Arv Z h0 al ka .char (5 : Int32) [(.int ca), (.int cb), (.int cc), (.int cd), (.int ce)] (.int (0 : Int32)))  :
    MetFree l (⟨"com/example/boxwright/boxwright/TableNamesLocalNamePinLaw", "last", "([CIC)I"⟩ : MethodName) (head1 (Jvm.Cond.code (⟨"com/example/boxwright/boxwright/TableNamesLocalNamePinLaw", "last", "([CIC)I"⟩ : MethodName) method_5_code 4 (some .int) :: ws) ({ frames := 0, cells := 0, slots := 0, locals := 0 } : Room)) (fun a U => a = #[(.ref al), (.int (4 : Int32)), (.int q)] ∧ Z.Warmed39 U.vm ∧ U.heap = h0) (fun _ _ _ _ _ => True) (fun _ U o U' => ∃ v L, o = .returned v ∧ own_Q_own_rlast4 Z al q ka ca cb cc cd ce h0 n0 v U'.heap L ∧ FrameEnd U o U' L ({ frames := 0, cells := 0, slots := 0, locals := 0 } : Room).cells ({ frames := 0, cells := 0, slots := 0, locals := 0 } : Room).slots) := by
  refine MetFree.of_bodySF (plainFor_of_name own_pn_com_example_boxwright_boxwright_TableNamesLocalNamePinLaw) hisR ?_
  intro p e s m args below meth c s₁ Bd hml0 hP hK
  obtain ⟨rfl, hZ, hh⟩ := hP
  have hx := Bd.exec
  have hby := Bd.bytes
  have hml : c.maxLocals = 4 := hml0
  have hown : s.vm.findClass "com/example/boxwright/boxwright/TableNamesLocalNamePinLaw" = some m.cls := findClass_of_methodNamed Bd.named
  have hnm := (name_of_methodNamed Bd.named Bd.method).1
  have X0 : Stand p l e ({ frames := 0, cells := 0, slots := 0, locals := 0 } : Room) s m #[(.ref al), (.int (4 : Int32)), (.int q)] below meth c s₁ [] 0 0 := Stand.of_body Bd
  have e0 : s₁.heap = h0 := by rw [← hh, Bd.state]; rfl
  have N0 := Fr.nil n0
  show own_Go p e below s (own_Q_own_rlast4 Z al q ka ca cb cc cd ce h0 n0) ({ frames := 0, cells := 0, slots := 0, locals := 0 } : Room).cells ({ frames := 0, cells := 0, slots := 0, locals := 0 } : Room).slots (s₁.setTop (entryFrame m #[(.ref al), (.int (4 : Int32)), (.int q)] 4))
  refine own_go (fun zt zk => castTop (own_ef_own_rlast4 m al q) zk) ?_
  show own_Go p e below s _ _ _ (s₁.setTop (mkF m 0 #[rv al, iv (4 : Int32), iv q, .unset] []))
  refine own_go (fun zt zk => (XS.iconst X0.here hx rfl (hb hby own_d19_0) (XS.istoreN X0.here hx rfl (hb hby own_d19_1) rfl (l' := #[rv al, iv (4 : Int32), iv q, iv (-1 : Int32)]) rfl zk))) ?_
  show own_Go p e below s _ _ _ (s₁.setTop (mkF m 2 #[rv al, iv (4 : Int32), iv q, iv (-1 : Int32)] []))
  have J4 : ∀ r : Int32, r = own_la [ca, cb, cc, cd, ce] q 4 → own_Go p e below s (own_Q_own_rlast4 Z al q ka ca cb cc cd ce h0 n0) ({ frames := 0, cells := 0, slots := 0, locals := 0 } : Room).cells ({ frames := 0, cells := 0, slots := 0, locals := 0 } : Room).slots (s₁.setTop (mkF m 57 #[rv al, iv (4 : Int32), iv q, iv r] [])) := by
    intro r hr
    show own_Go p e below s _ _ _ (s₁.setTop (mkF m 57 #[rv al, iv (4 : Int32), iv q, iv r] []))
    refine own_go (fun zt zk => (XS.iloadN X0.here hx rfl (hb hby own_d19_57) rfl (XS.iconst X0.here hx rfl (hb hby own_d19_58) (XS.icmpYes X0.here hx rfl (pc0 := 59) (pc' := 71) rfl (hb hby own_d19_59) rfl (flt ((own_irr _) : ¬ ((4 : Int32) < (4 : Int32)))).2.2.2 (by decide) (by decide) (XS.iloadN X0.here hx rfl (hb hby own_d19_71) rfl zk))))) ?_
    show own_Go p e below s _ _ _ (s₁.setTop (mkF m 72 #[rv al, iv (4 : Int32), iv q, iv r] [(.int r)]))
    exact own_fin X0 Bd.notSynchronized (fun h => by rw [Bd.returns] at h; cases h) (fun fs hr => retOut X0 hx (t := .int) (w := (.int r)) Bd.returns rfl (Or.inl ⟨rfl, Or.inl rfl, _, rfl⟩) (hb hby own_d19_72) hr) (by rw [e0]; exact ⟨congrArg (fun z => some (Value.int z)) hr, N0, rfl⟩) (by decide) (by decide)
  have J3 : ∀ r : Int32, r = own_la [ca, cb, cc, cd, ce] q 3 → own_Go p e below s (own_Q_own_rlast4 Z al q ka ca cb cc cd ce h0 n0) ({ frames := 0, cells := 0, slots := 0, locals := 0 } : Room).cells ({ frames := 0, cells := 0, slots := 0, locals := 0 } : Room).slots (s₁.setTop (mkF m 43 #[rv al, iv (4 : Int32), iv q, iv r] [])) := by
    intro r hr
    show own_Go p e below s _ _ _ (s₁.setTop (mkF m 43 #[rv al, iv (4 : Int32), iv q, iv r] []))
    refine own_go (fun zt zk => (XS.iloadN X0.here hx rfl (hb hby own_d19_43) rfl (XS.iconst X0.here hx rfl (hb hby own_d19_44) (XS.icmpNo X0.here hx rfl (hb hby own_d19_45) rfl (tlt ((by decide) : (3 : Int32) < (4 : Int32))).2.2.2 (XS.aloadN X0.here hx rfl (hb hby own_d19_48) rfl rfl (XS.iconst X0.here hx rfl (hb hby own_d19_49) zk)))))) ?_
    show own_Go p e below s _ _ _ (s₁.setTop (mkF m 50 #[rv al, iv (4 : Int32), iv q, iv r] [(.int (3 : Int32)), (.ref al)]))
    obtain ⟨cl1, Ar1, q1, Sz1, Nz1, Ha1, Ga1⟩ := id Vl
    have hin1 : ¬ ((3 : Int32) < 0 ∨ cl1.slots.size ≤ ((3 : Int32)).toNatClampNeg) := inb_of Sz1 ⟨by decide, by decide⟩
    have hat1 : cl1.slots[((3 : Int32)).toNatClampNeg]? = some (.int cd) := Has.at Ha1 hin1 rfl
    refine own_go (X0.caload hx (j := (3 : Int32)) (v := (.int cd)) (by rw [e0]; exact Ar1.1) (State.isArrayOf_alike hZ.alike Ar1.2.1) Ar1.2.2 hin1 hat1 (g := (mkF m 50 #[rv al, iv (4 : Int32), iv q, iv r] [(.int (3 : Int32)), (.ref al)])) rfl rfl (hb hby own_d19_50)) ?_
    show own_Go p e below s _ _ _ (s₁.setTop (mkF m 51 #[rv al, iv (4 : Int32), iv q, iv r] [(.int cd)]))
    refine own_go (fun zt zk => (XS.iloadN X0.here hx rfl (hb hby own_d19_51) rfl zk)) ?_
    show own_Go p e below s _ _ _ (s₁.setTop (mkF m 52 #[rv al, iv (4 : Int32), iv q, iv r] [(.int q), (.int cd)]))
    by_cases heq : cd = q
    · refine own_go (fun zt zk => (XS.icmpNo X0.here hx rfl (hb hby own_d19_52) rfl (teq (heq : cd = q)).2 (XS.iconst X0.here hx rfl (hb hby own_d19_55) (XS.istoreN X0.here hx rfl (hb hby own_d19_56) rfl (l' := #[rv al, iv (4 : Int32), iv q, iv (3 : Int32)]) rfl zk)))) ?_
      show own_Go p e below s _ _ _ (s₁.setTop (mkF m 57 #[rv al, iv (4 : Int32), iv q, iv (3 : Int32)] []))
      exact J4 _ (if_pos heq).symm
    · refine own_go (fun zt zk => (XS.icmpYes X0.here hx rfl (pc0 := 52) (pc' := 57) rfl (hb hby own_d19_52) rfl (feq (heq : ¬ (cd = q))).2 (by decide) (by decide) zk)) ?_
      show own_Go p e below s _ _ _ (s₁.setTop (mkF m 57 #[rv al, iv (4 : Int32), iv q, iv r] []))
      exact J4 _ (hr.trans (if_neg heq).symm)
  have J2 : ∀ r : Int32, r = own_la [ca, cb, cc, cd, ce] q 2 → own_Go p e below s (own_Q_own_rlast4 Z al q ka ca cb cc cd ce h0 n0) ({ frames := 0, cells := 0, slots := 0, locals := 0 } : Room).cells ({ frames := 0, cells := 0, slots := 0, locals := 0 } : Room).slots (s₁.setTop (mkF m 29 #[rv al, iv (4 : Int32), iv q, iv r] [])) := by
    intro r hr
    show own_Go p e below s _ _ _ (s₁.setTop (mkF m 29 #[rv al, iv (4 : Int32), iv q, iv r] []))
    refine own_go (fun zt zk => (XS.iloadN X0.here hx rfl (hb hby own_d19_29) rfl (XS.iconst X0.here hx rfl (hb hby own_d19_30) (XS.icmpNo X0.here hx rfl (hb hby own_d19_31) rfl (tlt ((by decide) : (2 : Int32) < (4 : Int32))).2.2.2 (XS.aloadN X0.here hx rfl (hb hby own_d19_34) rfl rfl (XS.iconst X0.here hx rfl (hb hby own_d19_35) zk)))))) ?_
    show own_Go p e below s _ _ _ (s₁.setTop (mkF m 36 #[rv al, iv (4 : Int32), iv q, iv r] [(.int (2 : Int32)), (.ref al)]))
    obtain ⟨cl2, Ar2, q2, Sz2, Nz2, Ha2, Ga2⟩ := id Vl
    have hin2 : ¬ ((2 : Int32) < 0 ∨ cl2.slots.size ≤ ((2 : Int32)).toNatClampNeg) := inb_of Sz2 ⟨by decide, by decide⟩
    have hat2 : cl2.slots[((2 : Int32)).toNatClampNeg]? = some (.int cc) := Has.at Ha2 hin2 rfl
    refine own_go (X0.caload hx (j := (2 : Int32)) (v := (.int cc)) (by rw [e0]; exact Ar2.1) (State.isArrayOf_alike hZ.alike Ar2.2.1) Ar2.2.2 hin2 hat2 (g := (mkF m 36 #[rv al, iv (4 : Int32), iv q, iv r] [(.int (2 : Int32)), (.ref al)])) rfl rfl (hb hby own_d19_36)) ?_
    show own_Go p e below s _ _ _ (s₁.setTop (mkF m 37 #[rv al, iv (4 : Int32), iv q, iv r] [(.int cc)]))
    refine own_go (fun zt zk => (XS.iloadN X0.here hx rfl (hb hby own_d19_37) rfl zk)) ?_
    show own_Go p e below s _ _ _ (s₁.setTop (mkF m 38 #[rv al, iv (4 : Int32), iv q, iv r] [(.int q), (.int cc)]))
    by_cases heq : cc = q
    · refine own_go (fun zt zk => (XS.icmpNo X0.here hx rfl (hb hby own_d19_38) rfl (teq (heq : cc = q)).2 (XS.iconst X0.here hx rfl (hb hby own_d19_41) (XS.istoreN X0.here hx rfl (hb hby own_d19_42) rfl (l' := #[rv al, iv (4 : Int32), iv q, iv (2 : Int32)]) rfl zk)))) ?_
      show own_Go p e below s _ _ _ (s₁.setTop (mkF m 43 #[rv al, iv (4 : Int32), iv q, iv (2 : Int32)] []))
      exact J3 _ (if_pos heq).symm
    · refine own_go (fun zt zk => (XS.icmpYes X0.here hx rfl (pc0 := 38) (pc' := 43) rfl (hb hby own_d19_38) rfl (feq (heq : ¬ (cc = q))).2 (by decide) (by decide) zk)) ?_
      show own_Go p e below s _ _ _ (s₁.setTop (mkF m 43 #[rv al, iv (4 : Int32), iv q, iv r] []))
      exact J3 _ (hr.trans (if_neg heq).symm)
  have J1 : ∀ r : Int32, r = own_la [ca, cb, cc, cd, ce] q 1 → own_Go p e below s (own_Q_own_rlast4 Z al q ka ca cb cc cd ce h0 n0) ({ frames := 0, cells := 0, slots := 0, locals := 0 } : Room).cells ({ frames := 0, cells := 0, slots := 0, locals := 0 } : Room).slots (s₁.setTop (mkF m 15 #[rv al, iv (4 : Int32), iv q, iv r] [])) := by
    intro r hr
    show own_Go p e below s _ _ _ (s₁.setTop (mkF m 15 #[rv al, iv (4 : Int32), iv q, iv r] []))
    refine own_go (fun zt zk => (XS.iloadN X0.here hx rfl (hb hby own_d19_15) rfl (XS.iconst X0.here hx rfl (hb hby own_d19_16) (XS.icmpNo X0.here hx rfl (hb hby own_d19_17) rfl (tlt ((by decide) : (1 : Int32) < (4 : Int32))).2.2.2 (XS.aloadN X0.here hx rfl (hb hby own_d19_20) rfl rfl (XS.iconst X0.here hx rfl (hb hby own_d19_21) zk)))))) ?_
    show own_Go p e below s _ _ _ (s₁.setTop (mkF m 22 #[rv al, iv (4 : Int32), iv q, iv r] [(.int (1 : Int32)), (.ref al)]))
    obtain ⟨cl3, Ar3, q3, Sz3, Nz3, Ha3, Ga3⟩ := id Vl
    have hin3 : ¬ ((1 : Int32) < 0 ∨ cl3.slots.size ≤ ((1 : Int32)).toNatClampNeg) := inb_of Sz3 ⟨by decide, by decide⟩
    have hat3 : cl3.slots[((1 : Int32)).toNatClampNeg]? = some (.int cb) := Has.at Ha3 hin3 rfl
    refine own_go (X0.caload hx (j := (1 : Int32)) (v := (.int cb)) (by rw [e0]; exact Ar3.1) (State.isArrayOf_alike hZ.alike Ar3.2.1) Ar3.2.2 hin3 hat3 (g := (mkF m 22 #[rv al, iv (4 : Int32), iv q, iv r] [(.int (1 : Int32)), (.ref al)])) rfl rfl (hb hby own_d19_22)) ?_
    show own_Go p e below s _ _ _ (s₁.setTop (mkF m 23 #[rv al, iv (4 : Int32), iv q, iv r] [(.int cb)]))
    refine own_go (fun zt zk => (XS.iloadN X0.here hx rfl (hb hby own_d19_23) rfl zk)) ?_
    show own_Go p e below s _ _ _ (s₁.setTop (mkF m 24 #[rv al, iv (4 : Int32), iv q, iv r] [(.int q), (.int cb)]))
    by_cases heq : cb = q
    · refine own_go (fun zt zk => (XS.icmpNo X0.here hx rfl (hb hby own_d19_24) rfl (teq (heq : cb = q)).2 (XS.iconst X0.here hx rfl (hb hby own_d19_27) (XS.istoreN X0.here hx rfl (hb hby own_d19_28) rfl (l' := #[rv al, iv (4 : Int32), iv q, iv (1 : Int32)]) rfl zk)))) ?_
      show own_Go p e below s _ _ _ (s₁.setTop (mkF m 29 #[rv al, iv (4 : Int32), iv q, iv (1 : Int32)] []))
      exact J2 _ (if_pos heq).symm
    · refine own_go (fun zt zk => (XS.icmpYes X0.here hx rfl (pc0 := 24) (pc' := 29) rfl (hb hby own_d19_24) rfl (feq (heq : ¬ (cb = q))).2 (by decide) (by decide) zk)) ?_
      show own_Go p e below s _ _ _ (s₁.setTop (mkF m 29 #[rv al, iv (4 : Int32), iv q, iv r] []))
      exact J2 _ (hr.trans (if_neg heq).symm)
  have J0 : ∀ r : Int32, r = own_la [ca, cb, cc, cd, ce] q 0 → own_Go p e below s (own_Q_own_rlast4 Z al q ka ca cb cc cd ce h0 n0) ({ frames := 0, cells := 0, slots := 0, locals := 0 } : Room).cells ({ frames := 0, cells := 0, slots := 0, locals := 0 } : Room).slots (s₁.setTop (mkF m 2 #[rv al, iv (4 : Int32), iv q, iv r] [])) := by
    intro r hr
    show own_Go p e below s _ _ _ (s₁.setTop (mkF m 2 #[rv al, iv (4 : Int32), iv q, iv r] []))
    refine own_go (fun zt zk => (XS.iloadN X0.here hx rfl (hb hby own_d19_2) rfl (XS.ifNo X0.here hx rfl (hb hby own_d19_3) rfl ((if0 _ _).trans (tlt ((by decide) : (0 : Int32) < (4 : Int32))).2.2.2) (XS.aloadN X0.here hx rfl (hb hby own_d19_6) rfl rfl (XS.iconst X0.here hx rfl (hb hby own_d19_7) zk))))) ?_
    show own_Go p e below s _ _ _ (s₁.setTop (mkF m 8 #[rv al, iv (4 : Int32), iv q, iv r] [(.int (0 : Int32)), (.ref al)]))
    obtain ⟨cl4, Ar4, q4, Sz4, Nz4, Ha4, Ga4⟩ := id Vl
    have hin4 : ¬ ((0 : Int32) < 0 ∨ cl4.slots.size ≤ ((0 : Int32)).toNatClampNeg) := inb_of Sz4 ⟨by decide, by decide⟩
    have hat4 : cl4.slots[((0 : Int32)).toNatClampNeg]? = some (.int ca) := Has.at Ha4 hin4 rfl
    refine own_go (X0.caload hx (j := (0 : Int32)) (v := (.int ca)) (by rw [e0]; exact Ar4.1) (State.isArrayOf_alike hZ.alike Ar4.2.1) Ar4.2.2 hin4 hat4 (g := (mkF m 8 #[rv al, iv (4 : Int32), iv q, iv r] [(.int (0 : Int32)), (.ref al)])) rfl rfl (hb hby own_d19_8)) ?_
    show own_Go p e below s _ _ _ (s₁.setTop (mkF m 9 #[rv al, iv (4 : Int32), iv q, iv r] [(.int ca)]))
    refine own_go (fun zt zk => (XS.iloadN X0.here hx rfl (hb hby own_d19_9) rfl zk)) ?_
    show own_Go p e below s _ _ _ (s₁.setTop (mkF m 10 #[rv al, iv (4 : Int32), iv q, iv r] [(.int q), (.int ca)]))
    by_cases heq : ca = q
    · refine own_go (fun zt zk => (XS.icmpNo X0.here hx rfl (hb hby own_d19_10) rfl (teq (heq : ca = q)).2 (XS.iconst X0.here hx rfl (hb hby own_d19_13) (XS.istoreN X0.here hx rfl (hb hby own_d19_14) rfl (l' := #[rv al, iv (4 : Int32), iv q, iv (0 : Int32)]) rfl zk)))) ?_
      show own_Go p e below s _ _ _ (s₁.setTop (mkF m 15 #[rv al, iv (4 : Int32), iv q, iv (0 : Int32)] []))
      exact J1 _ (if_pos heq).symm
    · refine own_go (fun zt zk => (XS.icmpYes X0.here hx rfl (pc0 := 10) (pc' := 15) rfl (hb hby own_d19_10) rfl (feq (heq : ¬ (ca = q))).2 (by decide) (by decide) zk)) ?_
      show own_Go p e below s _ _ _ (s₁.setTop (mkF m 15 #[rv al, iv (4 : Int32), iv q, iv r] []))
      exact J1 _ (hr.trans (if_neg heq).symm)
  exact J0 _ rfl
theorem own_d19_62 : decode method_5_code 62 = .ok (.aload_n 0, 1) := by decide +kernel
theorem own_d19_63 : decode method_5_code 63 = .ok (.iconst 4, 1) := by decide +kernel
theorem own_d19_64 : decode method_5_code 64 = .ok (.caload, 1) := by decide +kernel
theorem own_d19_65 : decode method_5_code 65 = .ok (.iload_n 2, 1) := by decide +kernel
theorem own_d19_66 : decode method_5_code 66 = .ok (.if_icmp .ne 5, 3) := by decide +kernel
theorem own_d19_69 : decode method_5_code 69 = .ok (.iconst 4, 1) := by decide +kernel
theorem own_d19_70 : decode method_5_code 70 = .ok (.istore_n 3, 1) := by decide +kernel
theorem own_ef_own_rlast5 (m : MethodId) (al : Addr) (q : Int32) : entryFrame m #[(.ref al), (.int (5 : Int32)), (.int q)] 4 = mkF m 0 #[rv al, iv (5 : Int32), iv q, .unset] [] := by first | (simp [entryFrame, mkF, argsToLocals, Value.category]; done) | rfl
def own_Q_own_rlast5 (Z : State) (al : Addr) (q : Int32) (ka : ClassId) (ca cb cc cd ce : Int32) (h0 : Heap) (n0 : Nat) (v : Option Value) (h : Heap) (L : List Loc) : Prop := v = some (.int (own_la [ca, cb, cc, cd, ce] q 5)) ∧ Fr n0 L ∧ h = h0
set_option maxRecDepth 65536 in
set_option maxHeartbeats 40000000 in
theorem own_rlast5 (l : Launch) (Z : State) (a0 : Array Value) (hw : ∀ d ∈ tables_1, d.before a0 Z = true) (ws : List Jvm.Cond) (al : Addr) (q : Int32) (ka : ClassId) (ca cb cc cd ce : Int32) (h0 : Heap) (n0 : Nat) (Z0 : n0 ≤ h0.size) (Vl : Arv Z h0 al ka .char (5 : Int32) [(.int ca), (.int cb), (.int cc), (.int cd), (.int ce)] (.int (0 : Int32)))  :
    MetFree l (⟨"com/example/boxwright/boxwright/TableNamesLocalNamePinLaw", "last", "([CIC)I"⟩ : MethodName) (head1 (Jvm.Cond.code (⟨"com/example/boxwright/boxwright/TableNamesLocalNamePinLaw", "last", "([CIC)I"⟩ : MethodName) method_5_code 4 (some .int) :: ws) ({ frames := 0, cells := 0, slots := 0, locals := 0 } : Room)) (fun a U => a = #[(.ref al), (.int (5 : Int32)), (.int q)] ∧ Z.Warmed39 U.vm ∧ U.heap = h0) (fun _ _ _ _ _ => True) (fun _ U o U' => ∃ v L, o = .returned v ∧ own_Q_own_rlast5 Z al q ka ca cb cc cd ce h0 n0 v U'.heap L ∧ FrameEnd U o U' L ({ frames := 0, cells := 0, slots := 0, locals := 0 } : Room).cells ({ frames := 0, cells := 0, slots := 0, locals := 0 } : Room).slots) := by
  refine MetFree.of_bodySF (plainFor_of_name own_pn_com_example_boxwright_boxwright_TableNamesLocalNamePinLaw) hisR ?_
  intro p e s m args below meth c s₁ Bd hml0 hP hK
  obtain ⟨rfl, hZ, hh⟩ := hP
  have hx := Bd.exec
  have hby := Bd.bytes
  have hml : c.maxLocals = 4 := hml0
  have hown : s.vm.findClass "com/example/boxwright/boxwright/TableNamesLocalNamePinLaw" = some m.cls := findClass_of_methodNamed Bd.named
  have hnm := (name_of_methodNamed Bd.named Bd.method).1
  have X0 : Stand p l e ({ frames := 0, cells := 0, slots := 0, locals := 0 } : Room) s m #[(.ref al), (.int (5 : Int32)), (.int q)] below meth c s₁ [] 0 0 := Stand.of_body Bd
  have e0 : s₁.heap = h0 := by rw [← hh, Bd.state]; rfl
  have N0 := Fr.nil n0
  show own_Go p e below s (own_Q_own_rlast5 Z al q ka ca cb cc cd ce h0 n0) ({ frames := 0, cells := 0, slots := 0, locals := 0 } : Room).cells ({ frames := 0, cells := 0, slots := 0, locals := 0 } : Room).slots (s₁.setTop (entryFrame m #[(.ref al), (.int (5 : Int32)), (.int q)] 4))
  refine own_go (fun zt zk => castTop (own_ef_own_rlast5 m al q) zk) ?_
  show own_Go p e below s _ _ _ (s₁.setTop (mkF m 0 #[rv al, iv (5 : Int32), iv q, .unset] []))
  refine own_go (fun zt zk => (XS.iconst X0.here hx rfl (hb hby own_d19_0) (XS.istoreN X0.here hx rfl (hb hby own_d19_1) rfl (l' := #[rv al, iv (5 : Int32), iv q, iv (-1 : Int32)]) rfl zk))) ?_
  show own_Go p e below s _ _ _ (s₁.setTop (mkF m 2 #[rv al, iv (5 : Int32), iv q, iv (-1 : Int32)] []))
  have J5 : ∀ r : Int32, r = own_la [ca, cb, cc, cd, ce] q 5 → own_Go p e below s (own_Q_own_rlast5 Z al q ka ca cb cc cd ce h0 n0) ({ frames := 0, cells := 0, slots := 0, locals := 0 } : Room).cells ({ frames := 0, cells := 0, slots := 0, locals := 0 } : Room).slots (s₁.setTop (mkF m 71 #[rv al, iv (5 : Int32), iv q, iv r] [])) := by
    intro r hr
    show own_Go p e below s _ _ _ (s₁.setTop (mkF m 71 #[rv al, iv (5 : Int32), iv q, iv r] []))
    refine own_go (fun zt zk => (XS.iloadN X0.here hx rfl (hb hby own_d19_71) rfl zk)) ?_
    show own_Go p e below s _ _ _ (s₁.setTop (mkF m 72 #[rv al, iv (5 : Int32), iv q, iv r] [(.int r)]))
    exact own_fin X0 Bd.notSynchronized (fun h => by rw [Bd.returns] at h; cases h) (fun fs hr => retOut X0 hx (t := .int) (w := (.int r)) Bd.returns rfl (Or.inl ⟨rfl, Or.inl rfl, _, rfl⟩) (hb hby own_d19_72) hr) (by rw [e0]; exact ⟨congrArg (fun z => some (Value.int z)) hr, N0, rfl⟩) (by decide) (by decide)
  have J4 : ∀ r : Int32, r = own_la [ca, cb, cc, cd, ce] q 4 → own_Go p e below s (own_Q_own_rlast5 Z al q ka ca cb cc cd ce h0 n0) ({ frames := 0, cells := 0, slots := 0, locals := 0 } : Room).cells ({ frames := 0, cells := 0, slots := 0, locals := 0 } : Room).slots (s₁.setTop (mkF m 57 #[rv al, iv (5 : Int32), iv q, iv r] [])) := by
    intro r hr
    show own_Go p e below s _ _ _ (s₁.setTop (mkF m 57 #[rv al, iv (5 : Int32), iv q, iv r] []))
    refine own_go (fun zt zk => (XS.iloadN X0.here hx rfl (hb hby own_d19_57) rfl (XS.iconst X0.here hx rfl (hb hby own_d19_58) (XS.icmpNo X0.here hx rfl (hb hby own_d19_59) rfl (tlt ((by decide) : (4 : Int32) < (5 : Int32))).2.2.2 (XS.aloadN X0.here hx rfl (hb hby own_d19_62) rfl rfl (XS.iconst X0.here hx rfl (hb hby own_d19_63) zk)))))) ?_
    show own_Go p e below s _ _ _ (s₁.setTop (mkF m 64 #[rv al, iv (5 : Int32), iv q, iv r] [(.int (4 : Int32)), (.ref al)]))
    obtain ⟨cl1, Ar1, q1, Sz1, Nz1, Ha1, Ga1⟩ := id Vl
    have hin1 : ¬ ((4 : Int32) < 0 ∨ cl1.slots.size ≤ ((4 : Int32)).toNatClampNeg) := inb_of Sz1 ⟨by decide, by decide⟩
    have hat1 : cl1.slots[((4 : Int32)).toNatClampNeg]? = some (.int ce) := Has.at Ha1 hin1 rfl
    refine own_go (X0.caload hx (j := (4 : Int32)) (v := (.int ce)) (by rw [e0]; exact Ar1.1) (State.isArrayOf_alike hZ.alike Ar1.2.1) Ar1.2.2 hin1 hat1 (g := (mkF m 64 #[rv al, iv (5 : Int32), iv q, iv r] [(.int (4 : Int32)), (.ref al)])) rfl rfl (hb hby own_d19_64)) ?_
    show own_Go p e below s _ _ _ (s₁.setTop (mkF m 65 #[rv al, iv (5 : Int32), iv q, iv r] [(.int ce)]))
    refine own_go (fun zt zk => (XS.iloadN X0.here hx rfl (hb hby own_d19_65) rfl zk)) ?_
    show own_Go p e below s _ _ _ (s₁.setTop (mkF m 66 #[rv al, iv (5 : Int32), iv q, iv r] [(.int q), (.int ce)]))
    by_cases heq : ce = q
    · refine own_go (fun zt zk => (XS.icmpNo X0.here hx rfl (hb hby own_d19_66) rfl (teq (heq : ce = q)).2 (XS.iconst X0.here hx rfl (hb hby own_d19_69) (XS.istoreN X0.here hx rfl (hb hby own_d19_70) rfl (l' := #[rv al, iv (5 : Int32), iv q, iv (4 : Int32)]) rfl zk)))) ?_
      show own_Go p e below s _ _ _ (s₁.setTop (mkF m 71 #[rv al, iv (5 : Int32), iv q, iv (4 : Int32)] []))
      exact J5 _ (if_pos heq).symm
    · refine own_go (fun zt zk => (XS.icmpYes X0.here hx rfl (pc0 := 66) (pc' := 71) rfl (hb hby own_d19_66) rfl (feq (heq : ¬ (ce = q))).2 (by decide) (by decide) zk)) ?_
      show own_Go p e below s _ _ _ (s₁.setTop (mkF m 71 #[rv al, iv (5 : Int32), iv q, iv r] []))
      exact J5 _ (hr.trans (if_neg heq).symm)
  have J3 : ∀ r : Int32, r = own_la [ca, cb, cc, cd, ce] q 3 → own_Go p e below s (own_Q_own_rlast5 Z al q ka ca cb cc cd ce h0 n0) ({ frames := 0, cells := 0, slots := 0, locals := 0 } : Room).cells ({ frames := 0, cells := 0, slots := 0, locals := 0 } : Room).slots (s₁.setTop (mkF m 43 #[rv al, iv (5 : Int32), iv q, iv r] [])) := by
    intro r hr
    show own_Go p e below s _ _ _ (s₁.setTop (mkF m 43 #[rv al, iv (5 : Int32), iv q, iv r] []))
    refine own_go (fun zt zk => (XS.iloadN X0.here hx rfl (hb hby own_d19_43) rfl (XS.iconst X0.here hx rfl (hb hby own_d19_44) (XS.icmpNo X0.here hx rfl (hb hby own_d19_45) rfl (tlt ((by decide) : (3 : Int32) < (5 : Int32))).2.2.2 (XS.aloadN X0.here hx rfl (hb hby own_d19_48) rfl rfl (XS.iconst X0.here hx rfl (hb hby own_d19_49) zk)))))) ?_
    show own_Go p e below s _ _ _ (s₁.setTop (mkF m 50 #[rv al, iv (5 : Int32), iv q, iv r] [(.int (3 : Int32)), (.ref al)]))
    obtain ⟨cl2, Ar2, q2, Sz2, Nz2, Ha2, Ga2⟩ := id Vl
    have hin2 : ¬ ((3 : Int32) < 0 ∨ cl2.slots.size ≤ ((3 : Int32)).toNatClampNeg) := inb_of Sz2 ⟨by decide, by decide⟩
    have hat2 : cl2.slots[((3 : Int32)).toNatClampNeg]? = some (.int cd) := Has.at Ha2 hin2 rfl
    refine own_go (X0.caload hx (j := (3 : Int32)) (v := (.int cd)) (by rw [e0]; exact Ar2.1) (State.isArrayOf_alike hZ.alike Ar2.2.1) Ar2.2.2 hin2 hat2 (g := (mkF m 50 #[rv al, iv (5 : Int32), iv q, iv r] [(.int (3 : Int32)), (.ref al)])) rfl rfl (hb hby own_d19_50)) ?_
    show own_Go p e below s _ _ _ (s₁.setTop (mkF m 51 #[rv al, iv (5 : Int32), iv q, iv r] [(.int cd)]))
    refine own_go (fun zt zk => (XS.iloadN X0.here hx rfl (hb hby own_d19_51) rfl zk)) ?_
    show own_Go p e below s _ _ _ (s₁.setTop (mkF m 52 #[rv al, iv (5 : Int32), iv q, iv r] [(.int q), (.int cd)]))
    by_cases heq : cd = q
    · refine own_go (fun zt zk => (XS.icmpNo X0.here hx rfl (hb hby own_d19_52) rfl (teq (heq : cd = q)).2 (XS.iconst X0.here hx rfl (hb hby own_d19_55) (XS.istoreN X0.here hx rfl (hb hby own_d19_56) rfl (l' := #[rv al, iv (5 : Int32), iv q, iv (3 : Int32)]) rfl zk)))) ?_
      show own_Go p e below s _ _ _ (s₁.setTop (mkF m 57 #[rv al, iv (5 : Int32), iv q, iv (3 : Int32)] []))
      exact J4 _ (if_pos heq).symm
    · refine own_go (fun zt zk => (XS.icmpYes X0.here hx rfl (pc0 := 52) (pc' := 57) rfl (hb hby own_d19_52) rfl (feq (heq : ¬ (cd = q))).2 (by decide) (by decide) zk)) ?_
      show own_Go p e below s _ _ _ (s₁.setTop (mkF m 57 #[rv al, iv (5 : Int32), iv q, iv r] []))
      exact J4 _ (hr.trans (if_neg heq).symm)
  have J2 : ∀ r : Int32, r = own_la [ca, cb, cc, cd, ce] q 2 → own_Go p e below s (own_Q_own_rlast5 Z al q ka ca cb cc cd ce h0 n0) ({ frames := 0, cells := 0, slots := 0, locals := 0 } : Room).cells ({ frames := 0, cells := 0, slots := 0, locals := 0 } : Room).slots (s₁.setTop (mkF m 29 #[rv al, iv (5 : Int32), iv q, iv r] [])) := by
    intro r hr
    show own_Go p e below s _ _ _ (s₁.setTop (mkF m 29 #[rv al, iv (5 : Int32), iv q, iv r] []))
    refine own_go (fun zt zk => (XS.iloadN X0.here hx rfl (hb hby own_d19_29) rfl (XS.iconst X0.here hx rfl (hb hby own_d19_30) (XS.icmpNo X0.here hx rfl (hb hby own_d19_31) rfl (tlt ((by decide) : (2 : Int32) < (5 : Int32))).2.2.2 (XS.aloadN X0.here hx rfl (hb hby own_d19_34) rfl rfl (XS.iconst X0.here hx rfl (hb hby own_d19_35) zk)))))) ?_
    show own_Go p e below s _ _ _ (s₁.setTop (mkF m 36 #[rv al, iv (5 : Int32), iv q, iv r] [(.int (2 : Int32)), (.ref al)]))
    obtain ⟨cl3, Ar3, q3, Sz3, Nz3, Ha3, Ga3⟩ := id Vl
    have hin3 : ¬ ((2 : Int32) < 0 ∨ cl3.slots.size ≤ ((2 : Int32)).toNatClampNeg) := inb_of Sz3 ⟨by decide, by decide⟩
    have hat3 : cl3.slots[((2 : Int32)).toNatClampNeg]? = some (.int cc) := Has.at Ha3 hin3 rfl
    refine own_go (X0.caload hx (j := (2 : Int32)) (v := (.int cc)) (by rw [e0]; exact Ar3.1) (State.isArrayOf_alike hZ.alike Ar3.2.1) Ar3.2.2 hin3 hat3 (g := (mkF m 36 #[rv al, iv (5 : Int32), iv q, iv r] [(.int (2 : Int32)), (.ref al)])) rfl rfl (hb hby own_d19_36)) ?_
    show own_Go p e below s _ _ _ (s₁.setTop (mkF m 37 #[rv al, iv (5 : Int32), iv q, iv r] [(.int cc)]))
    refine own_go (fun zt zk => (XS.iloadN X0.here hx rfl (hb hby own_d19_37) rfl zk)) ?_
    show own_Go p e below s _ _ _ (s₁.setTop (mkF m 38 #[rv al, iv (5 : Int32), iv q, iv r] [(.int q), (.int cc)]))
    by_cases heq : cc = q
    · refine own_go (fun zt zk => (XS.icmpNo X0.here hx rfl (hb hby own_d19_38) rfl (teq (heq : cc = q)).2 (XS.iconst X0.here hx rfl (hb hby own_d19_41) (XS.istoreN X0.here hx rfl (hb hby own_d19_42) rfl (l' := #[rv al, iv (5 : Int32), iv q, iv (2 : Int32)]) rfl zk)))) ?_
      show own_Go p e below s _ _ _ (s₁.setTop (mkF m 43 #[rv al, iv (5 : Int32), iv q, iv (2 : Int32)] []))
      exact J3 _ (if_pos heq).symm
    · refine own_go (fun zt zk => (XS.icmpYes X0.here hx rfl (pc0 := 38) (pc' := 43) rfl (hb hby own_d19_38) rfl (feq (heq : ¬ (cc = q))).2 (by decide) (by decide) zk)) ?_
      show own_Go p e below s _ _ _ (s₁.setTop (mkF m 43 #[rv al, iv (5 : Int32), iv q, iv r] []))
      exact J3 _ (hr.trans (if_neg heq).symm)
  have J1 : ∀ r : Int32, r = own_la [ca, cb, cc, cd, ce] q 1 → own_Go p e below s (own_Q_own_rlast5 Z al q ka ca cb cc cd ce h0 n0) ({ frames := 0, cells := 0, slots := 0, locals := 0 } : Room).cells ({ frames := 0, cells := 0, slots := 0, locals := 0 } : Room).slots (s₁.setTop (mkF m 15 #[rv al, iv (5 : Int32), iv q, iv r] [])) := by
    intro r hr
    show own_Go p e below s _ _ _ (s₁.setTop (mkF m 15 #[rv al, iv (5 : Int32), iv q, iv r] []))
    refine own_go (fun zt zk => (XS.iloadN X0.here hx rfl (hb hby own_d19_15) rfl (XS.iconst X0.here hx rfl (hb hby own_d19_16) (XS.icmpNo X0.here hx rfl (hb hby own_d19_17) rfl (tlt ((by decide) : (1 : Int32) < (5 : Int32))).2.2.2 (XS.aloadN X0.here hx rfl (hb hby own_d19_20) rfl rfl (XS.iconst X0.here hx rfl (hb hby own_d19_21) zk)))))) ?_
    show own_Go p e below s _ _ _ (s₁.setTop (mkF m 22 #[rv al, iv (5 : Int32), iv q, iv r] [(.int (1 : Int32)), (.ref al)]))
    obtain ⟨cl4, Ar4, q4, Sz4, Nz4, Ha4, Ga4⟩ := id Vl
    have hin4 : ¬ ((1 : Int32) < 0 ∨ cl4.slots.size ≤ ((1 : Int32)).toNatClampNeg) := inb_of Sz4 ⟨by decide, by decide⟩
    have hat4 : cl4.slots[((1 : Int32)).toNatClampNeg]? = some (.int cb) := Has.at Ha4 hin4 rfl
    refine own_go (X0.caload hx (j := (1 : Int32)) (v := (.int cb)) (by rw [e0]; exact Ar4.1) (State.isArrayOf_alike hZ.alike Ar4.2.1) Ar4.2.2 hin4 hat4 (g := (mkF m 22 #[rv al, iv (5 : Int32), iv q, iv r] [(.int (1 : Int32)), (.ref al)])) rfl rfl (hb hby own_d19_22)) ?_
    show own_Go p e below s _ _ _ (s₁.setTop (mkF m 23 #[rv al, iv (5 : Int32), iv q, iv r] [(.int cb)]))
    refine own_go (fun zt zk => (XS.iloadN X0.here hx rfl (hb hby own_d19_23) rfl zk)) ?_
    show own_Go p e below s _ _ _ (s₁.setTop (mkF m 24 #[rv al, iv (5 : Int32), iv q, iv r] [(.int q), (.int cb)]))
    by_cases heq : cb = q
    · refine own_go (fun zt zk => (XS.icmpNo X0.here hx rfl (hb hby own_d19_24) rfl (teq (heq : cb = q)).2 (XS.iconst X0.here hx rfl (hb hby own_d19_27) (XS.istoreN X0.here hx rfl (hb hby own_d19_28) rfl (l' := #[rv al, iv (5 : Int32), iv q, iv (1 : Int32)]) rfl zk)))) ?_
      show own_Go p e below s _ _ _ (s₁.setTop (mkF m 29 #[rv al, iv (5 : Int32), iv q, iv (1 : Int32)] []))
      exact J2 _ (if_pos heq).symm
    · refine own_go (fun zt zk => (XS.icmpYes X0.here hx rfl (pc0 := 24) (pc' := 29) rfl (hb hby own_d19_24) rfl (feq (heq : ¬ (cb = q))).2 (by decide) (by decide) zk)) ?_
      show own_Go p e below s _ _ _ (s₁.setTop (mkF m 29 #[rv al, iv (5 : Int32), iv q, iv r] []))
      exact J2 _ (hr.trans (if_neg heq).symm)
  have J0 : ∀ r : Int32, r = own_la [ca, cb, cc, cd, ce] q 0 → own_Go p e below s (own_Q_own_rlast5 Z al q ka ca cb cc cd ce h0 n0) ({ frames := 0, cells := 0, slots := 0, locals := 0 } : Room).cells ({ frames := 0, cells := 0, slots := 0, locals := 0 } : Room).slots (s₁.setTop (mkF m 2 #[rv al, iv (5 : Int32), iv q, iv r] [])) := by
    intro r hr
    show own_Go p e below s _ _ _ (s₁.setTop (mkF m 2 #[rv al, iv (5 : Int32), iv q, iv r] []))
    refine own_go (fun zt zk => (XS.iloadN X0.here hx rfl (hb hby own_d19_2) rfl (XS.ifNo X0.here hx rfl (hb hby own_d19_3) rfl ((if0 _ _).trans (tlt ((by decide) : (0 : Int32) < (5 : Int32))).2.2.2) (XS.aloadN X0.here hx rfl (hb hby own_d19_6) rfl rfl (XS.iconst X0.here hx rfl (hb hby own_d19_7) zk))))) ?_
    show own_Go p e below s _ _ _ (s₁.setTop (mkF m 8 #[rv al, iv (5 : Int32), iv q, iv r] [(.int (0 : Int32)), (.ref al)]))
    obtain ⟨cl5, Ar5, q5, Sz5, Nz5, Ha5, Ga5⟩ := id Vl
    have hin5 : ¬ ((0 : Int32) < 0 ∨ cl5.slots.size ≤ ((0 : Int32)).toNatClampNeg) := inb_of Sz5 ⟨by decide, by decide⟩
    have hat5 : cl5.slots[((0 : Int32)).toNatClampNeg]? = some (.int ca) := Has.at Ha5 hin5 rfl
    refine own_go (X0.caload hx (j := (0 : Int32)) (v := (.int ca)) (by rw [e0]; exact Ar5.1) (State.isArrayOf_alike hZ.alike Ar5.2.1) Ar5.2.2 hin5 hat5 (g := (mkF m 8 #[rv al, iv (5 : Int32), iv q, iv r] [(.int (0 : Int32)), (.ref al)])) rfl rfl (hb hby own_d19_8)) ?_
    show own_Go p e below s _ _ _ (s₁.setTop (mkF m 9 #[rv al, iv (5 : Int32), iv q, iv r] [(.int ca)]))
    refine own_go (fun zt zk => (XS.iloadN X0.here hx rfl (hb hby own_d19_9) rfl zk)) ?_
    show own_Go p e below s _ _ _ (s₁.setTop (mkF m 10 #[rv al, iv (5 : Int32), iv q, iv r] [(.int q), (.int ca)]))
    by_cases heq : ca = q
    · refine own_go (fun zt zk => (XS.icmpNo X0.here hx rfl (hb hby own_d19_10) rfl (teq (heq : ca = q)).2 (XS.iconst X0.here hx rfl (hb hby own_d19_13) (XS.istoreN X0.here hx rfl (hb hby own_d19_14) rfl (l' := #[rv al, iv (5 : Int32), iv q, iv (0 : Int32)]) rfl zk)))) ?_
      show own_Go p e below s _ _ _ (s₁.setTop (mkF m 15 #[rv al, iv (5 : Int32), iv q, iv (0 : Int32)] []))
      exact J1 _ (if_pos heq).symm
    · refine own_go (fun zt zk => (XS.icmpYes X0.here hx rfl (pc0 := 10) (pc' := 15) rfl (hb hby own_d19_10) rfl (feq (heq : ¬ (ca = q))).2 (by decide) (by decide) zk)) ?_
      show own_Go p e below s _ _ _ (s₁.setTop (mkF m 15 #[rv al, iv (5 : Int32), iv q, iv r] []))
      exact J1 _ (hr.trans (if_neg heq).symm)
  exact J0 _ rfl
theorem own_d20_0 : decode method_6_code 0 = .ok (.iload 4, 2) := by decide +kernel
theorem own_d20_2 : decode method_6_code 2 = .ok (.iload_n 3, 1) := by decide +kernel
theorem own_d20_3 : decode method_6_code 3 = .ok (.if_icmp .ge 18, 3) := by decide +kernel
theorem own_d20_6 : decode method_6_code 6 = .ok (.aload_n 0, 1) := by decide +kernel
theorem own_d20_7 : decode method_6_code 7 = .ok (.iload 4, 2) := by decide +kernel
theorem own_d20_9 : decode method_6_code 9 = .ok (.invokevirtual 40, 3) := by decide +kernel
theorem own_pd__I_C : parseMethodDescriptor "(I)C" = some ⟨[.int], some .char⟩ := by decide +kernel
theorem own_d20_12 : decode method_6_code 12 = .ok (.aload_n 1, 1) := by decide +kernel
theorem own_d20_13 : decode method_6_code 13 = .ok (.iload_n 2, 1) := by decide +kernel
theorem own_d20_14 : decode method_6_code 14 = .ok (.iload 4, 2) := by decide +kernel
theorem own_d20_16 : decode method_6_code 16 = .ok (.iadd, 1) := by decide +kernel
theorem own_d20_17 : decode method_6_code 17 = .ok (.caload, 1) := by decide +kernel
theorem own_d20_18 : decode method_6_code 18 = .ok (.if_icmp .ne 7, 3) := by decide +kernel
theorem own_d20_21 : decode method_6_code 21 = .ok (.iconst 1, 1) := by decide +kernel
theorem own_d20_22 : decode method_6_code 22 = .ok (.goto 4, 3) := by decide +kernel
theorem own_d20_26 : decode method_6_code 26 = .ok (.ireturn, 1) := by decide +kernel
theorem own_ef_own_rat0 (m : MethodId) (a1 : Addr) (al : Addr) (ny : Nat) : entryFrame m #[(.ref a1), (.ref al), (.int (Int32.ofNat s')), (.int (Int32.ofNat ny)), (.int (0 : Int32))] 5 = mkF m 0 #[rv a1, rv al, iv (Int32.ofNat s'), iv (Int32.ofNat ny), iv (0 : Int32)] [] := by first | (simp [entryFrame, mkF, argsToLocals, Value.category]; done) | rfl
def own_Q_own_rat0 (Z : State) (a1 : Addr) (al : Addr) (cz : Int32) (fm : Value) (t : Addr) (kb : ClassId) (ys : List Int32) (ny s' : Nat) (ka : ClassId) (ca cb cc cd ce : Int32) (h0 : Heap) (n0 : Nat) (v : Option Value) (h : Heap) (L : List Loc) : Prop := v = some (.int (1 : Int32)) ∧ Fr n0 L ∧ h = h0
set_option maxRecDepth 65536 in
set_option maxHeartbeats 40000000 in
theorem own_rat0 (l : Launch) (Z : State) (a0 : Array Value) (hw : ∀ d ∈ tables_1, d.before a0 Z = true) (ws : List Jvm.Cond) (a1 : Addr) (al : Addr) (cz : Int32) (fm : Value) (t : Addr) (kb : ClassId) (ys : List Int32) (ny s' : Nat) (ka : ClassId) (ca cb cc cd ce : Int32) (h0 : Heap) (n0 : Nat) (Z0 : n0 ≤ h0.size) (O : Old Z n0 h0) (SC : Sta Z Z.heap "java/lang/String" "COMPACT_STRINGS" "Z" (.int cz)) (SF : Sta Z Z.heap "jdk/internal/util/Preconditions" "SIOOBE_FORMATTER" "Ljava/util/function/BiFunction;" fm) (Ex : Exa Z h0 a1 "java/lang/String") (Fv : Fld Z h0 a1 "java/lang/String" "value" "[B" (.ref t)) (Fc : Fld Z h0 a1 "java/lang/String" "coder" "B" (.int (0 : Int32))) (Va : Arv Z h0 t kb .byte (Int32.ofNat ny) (ys.map Value.int) (.int (0 : Int32))) (Vl : Arv Z h0 al ka .char (5 : Int32) [(.int ca), (.int cb), (.int cc), (.int cd), (.int ce)] (.int (0 : Int32))) (hz : ¬ (cz = (0 : Int32))) (rfm : fm.isRef = true) (hsy : s' + ny ≤ 5) (hrel : ∀ j, j < ny → (ys.getD j 0 &&& (255 : Int32)) = [ca, cb, cc, cd, ce].getD (s' + j) 0) :
    MetFree l (⟨"com/example/boxwright/boxwright/TableNamesLocalNamePinLaw", "at", "(Ljava/lang/String;[CIII)Z"⟩ : MethodName) (head1 (Jvm.Cond.code (⟨"com/example/boxwright/boxwright/TableNamesLocalNamePinLaw", "at", "(Ljava/lang/String;[CIII)Z"⟩ : MethodName) method_6_code 5 (some .boolean) :: ws) ({ frames := 4, cells := 0, slots := 0, locals := 53 } : Room)) (fun a U => a = #[(.ref a1), (.ref al), (.int (Int32.ofNat s')), (.int (Int32.ofNat ny)), (.int (0 : Int32))] ∧ Z.Warmed39 U.vm ∧ U.heap = h0) (fun _ _ _ _ _ => True) (fun _ U o U' => ∃ v L, o = .returned v ∧ own_Q_own_rat0 Z a1 al cz fm t kb ys ny s' ka ca cb cc cd ce h0 n0 v U'.heap L ∧ FrameEnd U o U' L ({ frames := 4, cells := 0, slots := 0, locals := 53 } : Room).cells ({ frames := 4, cells := 0, slots := 0, locals := 53 } : Room).slots) := by
  refine MetFree.of_bodySF (plainFor_of_name own_pn_com_example_boxwright_boxwright_TableNamesLocalNamePinLaw) hisR ?_
  intro p e s m args below meth c s₁ Bd hml0 hP hK
  obtain ⟨rfl, hZ, hh⟩ := hP
  have hx := Bd.exec
  have hby := Bd.bytes
  have hml : c.maxLocals = 5 := hml0
  have hown : s.vm.findClass "com/example/boxwright/boxwright/TableNamesLocalNamePinLaw" = some m.cls := findClass_of_methodNamed Bd.named
  have hnm := (name_of_methodNamed Bd.named Bd.method).1
  have X0 : Stand p l e ({ frames := 4, cells := 0, slots := 0, locals := 53 } : Room) s m #[(.ref a1), (.ref al), (.int (Int32.ofNat s')), (.int (Int32.ofNat ny)), (.int (0 : Int32))] below meth c s₁ [] 0 0 := Stand.of_body Bd
  have e0 : s₁.heap = h0 := by rw [← hh, Bd.state]; rfl
  have N0 := Fr.nil n0
  show own_Go p e below s (own_Q_own_rat0 Z a1 al cz fm t kb ys ny s' ka ca cb cc cd ce h0 n0) ({ frames := 4, cells := 0, slots := 0, locals := 53 } : Room).cells ({ frames := 4, cells := 0, slots := 0, locals := 53 } : Room).slots (s₁.setTop (entryFrame m #[(.ref a1), (.ref al), (.int (Int32.ofNat s')), (.int (Int32.ofNat ny)), (.int (0 : Int32))] 5))
  refine own_go (fun zt zk => castTop (own_ef_own_rat0 m a1 al ny) zk) ?_
  show own_Go p e below s _ _ _ (s₁.setTop (mkF m 0 #[rv a1, rv al, iv (Int32.ofNat s'), iv (Int32.ofNat ny), iv (0 : Int32)] []))
  refine own_go (fun zt zk => (XS.iload X0.here hx rfl (hb hby own_d20_0) rfl (XS.iloadN X0.here hx rfl (hb hby own_d20_2) rfl zk))) ?_
  show own_Go p e below s _ _ _ (s₁.setTop (mkF m 3 #[rv a1, rv al, iv (Int32.ofNat s'), iv (Int32.ofNat ny), iv (0 : Int32)] [(.int (Int32.ofNat ny)), (.int (0 : Int32))]))
  by_cases hB : (0 : Int32) < (Int32.ofNat ny)
  · refine own_go (fun zt zk => (XS.icmpNo X0.here hx rfl (hb hby own_d20_3) rfl (tlt (hB : (0 : Int32) < (Int32.ofNat ny))).2.1 zk)) ?_
    show own_Go p e below s _ _ _ (s₁.setTop (mkF m 6 #[rv a1, rv al, iv (Int32.ofNat s'), iv (Int32.ofNat ny), iv (0 : Int32)] []))
    have hi : 0 < ny := (own_ltN (n := 0) (by omega) (by omega)).mp hB
    refine own_go (fun zt zk => (XS.aloadN X0.here hx rfl (hb hby own_d20_6) rfl rfl (XS.iload X0.here hx rfl (hb hby own_d20_7) rfl zk))) ?_
    show own_Go p e below s _ _ _ (s₁.setTop (mkF m 9 #[rv a1, rv al, iv (Int32.ofNat s'), iv (Int32.ofNat ny), iv (0 : Int32)] [(.int (0 : Int32)), (.ref a1)]))
    obtain ⟨cq1, kq1, qa1, qb1, qc1⟩ := isOf hZ e0 Ex
    obtain ⟨_, _, ⟨T1, L1, k1, n1⟩, -, X1, ⟨Lc1, hQ1, l1, y1, z1⟩, st1⟩ := X0.virtualBack hx (y := (⟨"java/lang/String", "charAt", "(I)C"⟩ : MethodName)) (z := (⟨"java/lang/String", "charAt", "(I)C"⟩ : MethodName)) hown (mvT hZ (hw _ (List.mem_of_getElem? (i := 128) rfl))) (mvT hZ (hw _ (List.mem_of_getElem? (i := 129) rfl))) (notFace_of_selects (args := #[]) (mvT hZ (hw _ (List.mem_of_getElem? (i := 131) rfl)))) (mvT hZ (hw _ (List.mem_of_getElem? (i := 131) rfl))) (mvT hZ (hw _ (List.mem_of_getElem? (i := 130) rfl))) (by decide) (backOf (W := 0) (own_rchar l Z a0 hw [] a1 (0 : Int32) cz fm t kb (Int32.ofNat ny) (ys.map Value.int) (ys.getD 0 0) h0 n0 Z0 O SC SF Ex Fv Fc Va hz rfm ⟨by decide, hB⟩ (own_mapget ys 0)) hZ (hw _ (List.mem_of_getElem? (i := 132) rfl)) (hw _ (List.mem_of_getElem? (i := 10) rfl)) (by decide) (by decide)) qa1 qc1 (g := (mkF m 9 #[rv a1, rv al, iv (Int32.ofNat s'), iv (Int32.ofNat ny), iv (0 : Int32)] [(.int (0 : Int32)), (.ref a1)])) rfl (by rw [hml]; rfl) (Steps.refl _) (argsL := [(.int (0 : Int32))]) (rest := []) (lenOf own_pd__I_C rfl) rfl (by show 2 * 0 + _ ≤ _; exact Nat.le_of_eq rfl) (hb hby own_d20_9) (fun _ _ => ⟨rfl, e0, (by decide : 0 + 0 ≤ _), (by decide : 0 + 0 ≤ _)⟩)
    dsimp only [Pt.U, Pt.locs, Pt.cells, Pt.slots] at X1 l1 y1 z1 st1 hQ1
    subst l1 y1 z1
    obtain ⟨rfl, Nq1, e1⟩ := hQ1
    have N1 := Fr.app N0 Nq1
    refine own_go (fun zt zk => st1.trans zk) ?_
    show own_Go p e below s _ _ _ (T1.setTop (mkF m 12 #[rv a1, rv al, iv (Int32.ofNat s'), iv (Int32.ofNat ny), iv (0 : Int32)] [(.int (ys.getD 0 0 &&& (255 : Int32)))]))
    refine own_go (fun zt zk => (XS.aloadN X1.here hx rfl (hb hby own_d20_12) rfl rfl (XS.iloadN X1.here hx rfl (hb hby own_d20_13) rfl (XS.iload X1.here hx rfl (hb hby own_d20_14) rfl (XS.iadd X1.here hx rfl (hb hby own_d20_16) rfl zk))))) ?_
    show own_Go p e below s _ _ _ (T1.setTop (mkF m 17 #[rv a1, rv al, iv (Int32.ofNat s'), iv (Int32.ofNat ny), iv (0 : Int32)] [(.int ((Int32.ofNat s') + (0 : Int32))), (.ref al), (.int (ys.getD 0 0 &&& (255 : Int32)))]))
    rw [show Int32.ofNat s' + (0 : Int32) = Int32.ofNat (s' + 0) from own_addN (n := s') (s := 0) (by omega)]
    show own_Go p e below s _ _ _ (T1.setTop (mkF m 17 #[rv a1, rv al, iv (Int32.ofNat s'), iv (Int32.ofNat ny), iv (0 : Int32)] [(.int (Int32.ofNat (s' + 0))), (.ref al), (.int (ys.getD 0 0 &&& (255 : Int32)))]))
    obtain ⟨hi1, hi3⟩ := own_idx (N := 5) (n := 5) rfl (by decide) (show s' + 0 < 5 by omega)
    obtain ⟨cl2, Ar2, q2, Sz2, Nz2, Ha2, Ga2⟩ := id Vl
    have hin2 : ¬ ((Int32.ofNat (s' + 0)) < 0 ∨ cl2.slots.size ≤ ((Int32.ofNat (s' + 0))).toNatClampNeg) := inb_of Sz2 hi1
    have hat2 : cl2.slots[((Int32.ofNat (s' + 0))).toNatClampNeg]? = some (.int ([ca, cb, cc, cd, ce].getD (s' + 0) 0)) := Has.at Ha2 hin2 (by rw [hi3]; exact own_mapget [ca, cb, cc, cd, ce] (s' + 0))
    refine own_go (X1.caload hx (j := (Int32.ofNat (s' + 0))) (v := (.int ([ca, cb, cc, cd, ce].getD (s' + 0) 0))) (by rw [e1]; exact Ar2.1) (State.isArrayOf_alike hZ.alike Ar2.2.1) Ar2.2.2 hin2 hat2 (g := (mkF m 17 #[rv a1, rv al, iv (Int32.ofNat s'), iv (Int32.ofNat ny), iv (0 : Int32)] [(.int (Int32.ofNat (s' + 0))), (.ref al), (.int (ys.getD 0 0 &&& (255 : Int32)))])) rfl rfl (hb hby own_d20_17)) ?_
    show own_Go p e below s _ _ _ (T1.setTop (mkF m 18 #[rv a1, rv al, iv (Int32.ofNat s'), iv (Int32.ofNat ny), iv (0 : Int32)] [(.int ([ca, cb, cc, cd, ce].getD (s' + 0) 0)), (.int (ys.getD 0 0 &&& (255 : Int32)))]))
    refine own_go (fun zt zk => (XS.icmpNo X1.here hx rfl (hb hby own_d20_18) rfl (teq ((hrel 0 hi) : (ys.getD 0 0 &&& (255 : Int32)) = ([ca, cb, cc, cd, ce].getD (s' + 0) 0))).2 (XS.iconst X1.here hx rfl (hb hby own_d20_21) (XS.goto X1.here hx rfl (pc0 := 22) (pc' := 26) rfl (hb hby own_d20_22) (by decide) (by decide) zk)))) ?_
    show own_Go p e below s _ _ _ (T1.setTop (mkF m 26 #[rv a1, rv al, iv (Int32.ofNat s'), iv (Int32.ofNat ny), iv (0 : Int32)] [(.int (1 : Int32))]))
    exact own_fin X1 Bd.notSynchronized (fun h => by rw [Bd.returns] at h; cases h) (fun fs hr => retN X1 hx (t := .boolean) Bd.returns (by simp) (hb hby own_d20_26) hr) (by rw [e1]; exact ⟨rfl, N1, rfl⟩) (by decide) (by decide)
  · refine own_go (fun zt zk => (XS.icmpYes X0.here hx rfl (pc0 := 3) (pc' := 21) rfl (hb hby own_d20_3) rfl (flt (hB : ¬ ((0 : Int32) < (Int32.ofNat ny)))).2.1 (by decide) (by decide) (XS.iconst X0.here hx rfl (hb hby own_d20_21) (XS.goto X0.here hx rfl (pc0 := 22) (pc' := 26) rfl (hb hby own_d20_22) (by decide) (by decide) zk)))) ?_
    show own_Go p e below s _ _ _ (s₁.setTop (mkF m 26 #[rv a1, rv al, iv (Int32.ofNat s'), iv (Int32.ofNat ny), iv (0 : Int32)] [(.int (1 : Int32))]))
    exact own_fin X0 Bd.notSynchronized (fun h => by rw [Bd.returns] at h; cases h) (fun fs hr => retN X0 hx (t := .boolean) Bd.returns (by simp) (hb hby own_d20_26) hr) (by rw [e0]; exact ⟨rfl, N0, rfl⟩) (by decide) (by decide)
theorem own_ef_own_rat1 (m : MethodId) (a1 : Addr) (al : Addr) (ny : Nat) : entryFrame m #[(.ref a1), (.ref al), (.int (Int32.ofNat s')), (.int (Int32.ofNat ny)), (.int (1 : Int32))] 5 = mkF m 0 #[rv a1, rv al, iv (Int32.ofNat s'), iv (Int32.ofNat ny), iv (1 : Int32)] [] := by first | (simp [entryFrame, mkF, argsToLocals, Value.category]; done) | rfl
def own_Q_own_rat1 (Z : State) (a1 : Addr) (al : Addr) (cz : Int32) (fm : Value) (t : Addr) (kb : ClassId) (ys : List Int32) (ny s' : Nat) (ka : ClassId) (ca cb cc cd ce : Int32) (h0 : Heap) (n0 : Nat) (v : Option Value) (h : Heap) (L : List Loc) : Prop := v = some (.int (1 : Int32)) ∧ Fr n0 L ∧ h = h0
set_option maxRecDepth 65536 in
set_option maxHeartbeats 40000000 in
theorem own_rat1 (l : Launch) (Z : State) (a0 : Array Value) (hw : ∀ d ∈ tables_1, d.before a0 Z = true) (ws : List Jvm.Cond) (a1 : Addr) (al : Addr) (cz : Int32) (fm : Value) (t : Addr) (kb : ClassId) (ys : List Int32) (ny s' : Nat) (ka : ClassId) (ca cb cc cd ce : Int32) (h0 : Heap) (n0 : Nat) (Z0 : n0 ≤ h0.size) (O : Old Z n0 h0) (SC : Sta Z Z.heap "java/lang/String" "COMPACT_STRINGS" "Z" (.int cz)) (SF : Sta Z Z.heap "jdk/internal/util/Preconditions" "SIOOBE_FORMATTER" "Ljava/util/function/BiFunction;" fm) (Ex : Exa Z h0 a1 "java/lang/String") (Fv : Fld Z h0 a1 "java/lang/String" "value" "[B" (.ref t)) (Fc : Fld Z h0 a1 "java/lang/String" "coder" "B" (.int (0 : Int32))) (Va : Arv Z h0 t kb .byte (Int32.ofNat ny) (ys.map Value.int) (.int (0 : Int32))) (Vl : Arv Z h0 al ka .char (5 : Int32) [(.int ca), (.int cb), (.int cc), (.int cd), (.int ce)] (.int (0 : Int32))) (hz : ¬ (cz = (0 : Int32))) (rfm : fm.isRef = true) (hsy : s' + ny ≤ 5) (hrel : ∀ j, j < ny → (ys.getD j 0 &&& (255 : Int32)) = [ca, cb, cc, cd, ce].getD (s' + j) 0) :
    MetFree l (⟨"com/example/boxwright/boxwright/TableNamesLocalNamePinLaw", "at", "(Ljava/lang/String;[CIII)Z"⟩ : MethodName) (head1 (Jvm.Cond.code (⟨"com/example/boxwright/boxwright/TableNamesLocalNamePinLaw", "at", "(Ljava/lang/String;[CIII)Z"⟩ : MethodName) method_6_code 5 (some .boolean) :: ws) ({ frames := 4, cells := 0, slots := 0, locals := 53 } : Room)) (fun a U => a = #[(.ref a1), (.ref al), (.int (Int32.ofNat s')), (.int (Int32.ofNat ny)), (.int (1 : Int32))] ∧ Z.Warmed39 U.vm ∧ U.heap = h0) (fun _ _ _ _ _ => True) (fun _ U o U' => ∃ v L, o = .returned v ∧ own_Q_own_rat1 Z a1 al cz fm t kb ys ny s' ka ca cb cc cd ce h0 n0 v U'.heap L ∧ FrameEnd U o U' L ({ frames := 4, cells := 0, slots := 0, locals := 53 } : Room).cells ({ frames := 4, cells := 0, slots := 0, locals := 53 } : Room).slots) := by
  refine MetFree.of_bodySF (plainFor_of_name own_pn_com_example_boxwright_boxwright_TableNamesLocalNamePinLaw) hisR ?_
  intro p e s m args below meth c s₁ Bd hml0 hP hK
  obtain ⟨rfl, hZ, hh⟩ := hP
  have hx := Bd.exec
  have hby := Bd.bytes
  have hml : c.maxLocals = 5 := hml0
  have hown : s.vm.findClass "com/example/boxwright/boxwright/TableNamesLocalNamePinLaw" = some m.cls := findClass_of_methodNamed Bd.named
  have hnm := (name_of_methodNamed Bd.named Bd.method).1
  have X0 : Stand p l e ({ frames := 4, cells := 0, slots := 0, locals := 53 } : Room) s m #[(.ref a1), (.ref al), (.int (Int32.ofNat s')), (.int (Int32.ofNat ny)), (.int (1 : Int32))] below meth c s₁ [] 0 0 := Stand.of_body Bd
  have e0 : s₁.heap = h0 := by rw [← hh, Bd.state]; rfl
  have N0 := Fr.nil n0
  show own_Go p e below s (own_Q_own_rat1 Z a1 al cz fm t kb ys ny s' ka ca cb cc cd ce h0 n0) ({ frames := 4, cells := 0, slots := 0, locals := 53 } : Room).cells ({ frames := 4, cells := 0, slots := 0, locals := 53 } : Room).slots (s₁.setTop (entryFrame m #[(.ref a1), (.ref al), (.int (Int32.ofNat s')), (.int (Int32.ofNat ny)), (.int (1 : Int32))] 5))
  refine own_go (fun zt zk => castTop (own_ef_own_rat1 m a1 al ny) zk) ?_
  show own_Go p e below s _ _ _ (s₁.setTop (mkF m 0 #[rv a1, rv al, iv (Int32.ofNat s'), iv (Int32.ofNat ny), iv (1 : Int32)] []))
  refine own_go (fun zt zk => (XS.iload X0.here hx rfl (hb hby own_d20_0) rfl (XS.iloadN X0.here hx rfl (hb hby own_d20_2) rfl zk))) ?_
  show own_Go p e below s _ _ _ (s₁.setTop (mkF m 3 #[rv a1, rv al, iv (Int32.ofNat s'), iv (Int32.ofNat ny), iv (1 : Int32)] [(.int (Int32.ofNat ny)), (.int (1 : Int32))]))
  by_cases hB : (1 : Int32) < (Int32.ofNat ny)
  · refine own_go (fun zt zk => (XS.icmpNo X0.here hx rfl (hb hby own_d20_3) rfl (tlt (hB : (1 : Int32) < (Int32.ofNat ny))).2.1 zk)) ?_
    show own_Go p e below s _ _ _ (s₁.setTop (mkF m 6 #[rv a1, rv al, iv (Int32.ofNat s'), iv (Int32.ofNat ny), iv (1 : Int32)] []))
    have hi : 1 < ny := (own_ltN (n := 1) (by omega) (by omega)).mp hB
    refine own_go (fun zt zk => (XS.aloadN X0.here hx rfl (hb hby own_d20_6) rfl rfl (XS.iload X0.here hx rfl (hb hby own_d20_7) rfl zk))) ?_
    show own_Go p e below s _ _ _ (s₁.setTop (mkF m 9 #[rv a1, rv al, iv (Int32.ofNat s'), iv (Int32.ofNat ny), iv (1 : Int32)] [(.int (1 : Int32)), (.ref a1)]))
    obtain ⟨cq1, kq1, qa1, qb1, qc1⟩ := isOf hZ e0 Ex
    obtain ⟨_, _, ⟨T1, L1, k1, n1⟩, -, X1, ⟨Lc1, hQ1, l1, y1, z1⟩, st1⟩ := X0.virtualBack hx (y := (⟨"java/lang/String", "charAt", "(I)C"⟩ : MethodName)) (z := (⟨"java/lang/String", "charAt", "(I)C"⟩ : MethodName)) hown (mvT hZ (hw _ (List.mem_of_getElem? (i := 128) rfl))) (mvT hZ (hw _ (List.mem_of_getElem? (i := 129) rfl))) (notFace_of_selects (args := #[]) (mvT hZ (hw _ (List.mem_of_getElem? (i := 131) rfl)))) (mvT hZ (hw _ (List.mem_of_getElem? (i := 131) rfl))) (mvT hZ (hw _ (List.mem_of_getElem? (i := 130) rfl))) (by decide) (backOf (W := 0) (own_rchar l Z a0 hw [] a1 (1 : Int32) cz fm t kb (Int32.ofNat ny) (ys.map Value.int) (ys.getD 1 0) h0 n0 Z0 O SC SF Ex Fv Fc Va hz rfm ⟨by decide, hB⟩ (own_mapget ys 1)) hZ (hw _ (List.mem_of_getElem? (i := 132) rfl)) (hw _ (List.mem_of_getElem? (i := 10) rfl)) (by decide) (by decide)) qa1 qc1 (g := (mkF m 9 #[rv a1, rv al, iv (Int32.ofNat s'), iv (Int32.ofNat ny), iv (1 : Int32)] [(.int (1 : Int32)), (.ref a1)])) rfl (by rw [hml]; rfl) (Steps.refl _) (argsL := [(.int (1 : Int32))]) (rest := []) (lenOf own_pd__I_C rfl) rfl (by show 2 * 0 + _ ≤ _; exact Nat.le_of_eq rfl) (hb hby own_d20_9) (fun _ _ => ⟨rfl, e0, (by decide : 0 + 0 ≤ _), (by decide : 0 + 0 ≤ _)⟩)
    dsimp only [Pt.U, Pt.locs, Pt.cells, Pt.slots] at X1 l1 y1 z1 st1 hQ1
    subst l1 y1 z1
    obtain ⟨rfl, Nq1, e1⟩ := hQ1
    have N1 := Fr.app N0 Nq1
    refine own_go (fun zt zk => st1.trans zk) ?_
    show own_Go p e below s _ _ _ (T1.setTop (mkF m 12 #[rv a1, rv al, iv (Int32.ofNat s'), iv (Int32.ofNat ny), iv (1 : Int32)] [(.int (ys.getD 1 0 &&& (255 : Int32)))]))
    refine own_go (fun zt zk => (XS.aloadN X1.here hx rfl (hb hby own_d20_12) rfl rfl (XS.iloadN X1.here hx rfl (hb hby own_d20_13) rfl (XS.iload X1.here hx rfl (hb hby own_d20_14) rfl (XS.iadd X1.here hx rfl (hb hby own_d20_16) rfl zk))))) ?_
    show own_Go p e below s _ _ _ (T1.setTop (mkF m 17 #[rv a1, rv al, iv (Int32.ofNat s'), iv (Int32.ofNat ny), iv (1 : Int32)] [(.int ((Int32.ofNat s') + (1 : Int32))), (.ref al), (.int (ys.getD 1 0 &&& (255 : Int32)))]))
    rw [show Int32.ofNat s' + (1 : Int32) = Int32.ofNat (s' + 1) from own_addN (n := s') (s := 1) (by omega)]
    show own_Go p e below s _ _ _ (T1.setTop (mkF m 17 #[rv a1, rv al, iv (Int32.ofNat s'), iv (Int32.ofNat ny), iv (1 : Int32)] [(.int (Int32.ofNat (s' + 1))), (.ref al), (.int (ys.getD 1 0 &&& (255 : Int32)))]))
    obtain ⟨hi1, hi3⟩ := own_idx (N := 5) (n := 5) rfl (by decide) (show s' + 1 < 5 by omega)
    obtain ⟨cl2, Ar2, q2, Sz2, Nz2, Ha2, Ga2⟩ := id Vl
    have hin2 : ¬ ((Int32.ofNat (s' + 1)) < 0 ∨ cl2.slots.size ≤ ((Int32.ofNat (s' + 1))).toNatClampNeg) := inb_of Sz2 hi1
    have hat2 : cl2.slots[((Int32.ofNat (s' + 1))).toNatClampNeg]? = some (.int ([ca, cb, cc, cd, ce].getD (s' + 1) 0)) := Has.at Ha2 hin2 (by rw [hi3]; exact own_mapget [ca, cb, cc, cd, ce] (s' + 1))
    refine own_go (X1.caload hx (j := (Int32.ofNat (s' + 1))) (v := (.int ([ca, cb, cc, cd, ce].getD (s' + 1) 0))) (by rw [e1]; exact Ar2.1) (State.isArrayOf_alike hZ.alike Ar2.2.1) Ar2.2.2 hin2 hat2 (g := (mkF m 17 #[rv a1, rv al, iv (Int32.ofNat s'), iv (Int32.ofNat ny), iv (1 : Int32)] [(.int (Int32.ofNat (s' + 1))), (.ref al), (.int (ys.getD 1 0 &&& (255 : Int32)))])) rfl rfl (hb hby own_d20_17)) ?_
    show own_Go p e below s _ _ _ (T1.setTop (mkF m 18 #[rv a1, rv al, iv (Int32.ofNat s'), iv (Int32.ofNat ny), iv (1 : Int32)] [(.int ([ca, cb, cc, cd, ce].getD (s' + 1) 0)), (.int (ys.getD 1 0 &&& (255 : Int32)))]))
    refine own_go (fun zt zk => (XS.icmpNo X1.here hx rfl (hb hby own_d20_18) rfl (teq ((hrel 1 hi) : (ys.getD 1 0 &&& (255 : Int32)) = ([ca, cb, cc, cd, ce].getD (s' + 1) 0))).2 (XS.iconst X1.here hx rfl (hb hby own_d20_21) (XS.goto X1.here hx rfl (pc0 := 22) (pc' := 26) rfl (hb hby own_d20_22) (by decide) (by decide) zk)))) ?_
    show own_Go p e below s _ _ _ (T1.setTop (mkF m 26 #[rv a1, rv al, iv (Int32.ofNat s'), iv (Int32.ofNat ny), iv (1 : Int32)] [(.int (1 : Int32))]))
    exact own_fin X1 Bd.notSynchronized (fun h => by rw [Bd.returns] at h; cases h) (fun fs hr => retN X1 hx (t := .boolean) Bd.returns (by simp) (hb hby own_d20_26) hr) (by rw [e1]; exact ⟨rfl, N1, rfl⟩) (by decide) (by decide)
  · refine own_go (fun zt zk => (XS.icmpYes X0.here hx rfl (pc0 := 3) (pc' := 21) rfl (hb hby own_d20_3) rfl (flt (hB : ¬ ((1 : Int32) < (Int32.ofNat ny)))).2.1 (by decide) (by decide) (XS.iconst X0.here hx rfl (hb hby own_d20_21) (XS.goto X0.here hx rfl (pc0 := 22) (pc' := 26) rfl (hb hby own_d20_22) (by decide) (by decide) zk)))) ?_
    show own_Go p e below s _ _ _ (s₁.setTop (mkF m 26 #[rv a1, rv al, iv (Int32.ofNat s'), iv (Int32.ofNat ny), iv (1 : Int32)] [(.int (1 : Int32))]))
    exact own_fin X0 Bd.notSynchronized (fun h => by rw [Bd.returns] at h; cases h) (fun fs hr => retN X0 hx (t := .boolean) Bd.returns (by simp) (hb hby own_d20_26) hr) (by rw [e0]; exact ⟨rfl, N0, rfl⟩) (by decide) (by decide)
theorem own_ef_own_rat2 (m : MethodId) (a1 : Addr) (al : Addr) (ny : Nat) : entryFrame m #[(.ref a1), (.ref al), (.int (Int32.ofNat s')), (.int (Int32.ofNat ny)), (.int (2 : Int32))] 5 = mkF m 0 #[rv a1, rv al, iv (Int32.ofNat s'), iv (Int32.ofNat ny), iv (2 : Int32)] [] := by first | (simp [entryFrame, mkF, argsToLocals, Value.category]; done) | rfl
def own_Q_own_rat2 (Z : State) (a1 : Addr) (al : Addr) (cz : Int32) (fm : Value) (t : Addr) (kb : ClassId) (ys : List Int32) (ny s' : Nat) (ka : ClassId) (ca cb cc cd ce : Int32) (h0 : Heap) (n0 : Nat) (v : Option Value) (h : Heap) (L : List Loc) : Prop := v = some (.int (1 : Int32)) ∧ Fr n0 L ∧ h = h0
set_option maxRecDepth 65536 in
set_option maxHeartbeats 40000000 in
theorem own_rat2 (l : Launch) (Z : State) (a0 : Array Value) (hw : ∀ d ∈ tables_1, d.before a0 Z = true) (ws : List Jvm.Cond) (a1 : Addr) (al : Addr) (cz : Int32) (fm : Value) (t : Addr) (kb : ClassId) (ys : List Int32) (ny s' : Nat) (ka : ClassId) (ca cb cc cd ce : Int32) (h0 : Heap) (n0 : Nat) (Z0 : n0 ≤ h0.size) (O : Old Z n0 h0) (SC : Sta Z Z.heap "java/lang/String" "COMPACT_STRINGS" "Z" (.int cz)) (SF : Sta Z Z.heap "jdk/internal/util/Preconditions" "SIOOBE_FORMATTER" "Ljava/util/function/BiFunction;" fm) (Ex : Exa Z h0 a1 "java/lang/String") (Fv : Fld Z h0 a1 "java/lang/String" "value" "[B" (.ref t)) (Fc : Fld Z h0 a1 "java/lang/String" "coder" "B" (.int (0 : Int32))) (Va : Arv Z h0 t kb .byte (Int32.ofNat ny) (ys.map Value.int) (.int (0 : Int32))) (Vl : Arv Z h0 al ka .char (5 : Int32) [(.int ca), (.int cb), (.int cc), (.int cd), (.int ce)] (.int (0 : Int32))) (hz : ¬ (cz = (0 : Int32))) (rfm : fm.isRef = true) (hsy : s' + ny ≤ 5) (hrel : ∀ j, j < ny → (ys.getD j 0 &&& (255 : Int32)) = [ca, cb, cc, cd, ce].getD (s' + j) 0) :
    MetFree l (⟨"com/example/boxwright/boxwright/TableNamesLocalNamePinLaw", "at", "(Ljava/lang/String;[CIII)Z"⟩ : MethodName) (head1 (Jvm.Cond.code (⟨"com/example/boxwright/boxwright/TableNamesLocalNamePinLaw", "at", "(Ljava/lang/String;[CIII)Z"⟩ : MethodName) method_6_code 5 (some .boolean) :: ws) ({ frames := 4, cells := 0, slots := 0, locals := 53 } : Room)) (fun a U => a = #[(.ref a1), (.ref al), (.int (Int32.ofNat s')), (.int (Int32.ofNat ny)), (.int (2 : Int32))] ∧ Z.Warmed39 U.vm ∧ U.heap = h0) (fun _ _ _ _ _ => True) (fun _ U o U' => ∃ v L, o = .returned v ∧ own_Q_own_rat2 Z a1 al cz fm t kb ys ny s' ka ca cb cc cd ce h0 n0 v U'.heap L ∧ FrameEnd U o U' L ({ frames := 4, cells := 0, slots := 0, locals := 53 } : Room).cells ({ frames := 4, cells := 0, slots := 0, locals := 53 } : Room).slots) := by
  refine MetFree.of_bodySF (plainFor_of_name own_pn_com_example_boxwright_boxwright_TableNamesLocalNamePinLaw) hisR ?_
  intro p e s m args below meth c s₁ Bd hml0 hP hK
  obtain ⟨rfl, hZ, hh⟩ := hP
  have hx := Bd.exec
  have hby := Bd.bytes
  have hml : c.maxLocals = 5 := hml0
  have hown : s.vm.findClass "com/example/boxwright/boxwright/TableNamesLocalNamePinLaw" = some m.cls := findClass_of_methodNamed Bd.named
  have hnm := (name_of_methodNamed Bd.named Bd.method).1
  have X0 : Stand p l e ({ frames := 4, cells := 0, slots := 0, locals := 53 } : Room) s m #[(.ref a1), (.ref al), (.int (Int32.ofNat s')), (.int (Int32.ofNat ny)), (.int (2 : Int32))] below meth c s₁ [] 0 0 := Stand.of_body Bd
  have e0 : s₁.heap = h0 := by rw [← hh, Bd.state]; rfl
  have N0 := Fr.nil n0
  show own_Go p e below s (own_Q_own_rat2 Z a1 al cz fm t kb ys ny s' ka ca cb cc cd ce h0 n0) ({ frames := 4, cells := 0, slots := 0, locals := 53 } : Room).cells ({ frames := 4, cells := 0, slots := 0, locals := 53 } : Room).slots (s₁.setTop (entryFrame m #[(.ref a1), (.ref al), (.int (Int32.ofNat s')), (.int (Int32.ofNat ny)), (.int (2 : Int32))] 5))
  refine own_go (fun zt zk => castTop (own_ef_own_rat2 m a1 al ny) zk) ?_
  show own_Go p e below s _ _ _ (s₁.setTop (mkF m 0 #[rv a1, rv al, iv (Int32.ofNat s'), iv (Int32.ofNat ny), iv (2 : Int32)] []))
  refine own_go (fun zt zk => (XS.iload X0.here hx rfl (hb hby own_d20_0) rfl (XS.iloadN X0.here hx rfl (hb hby own_d20_2) rfl zk))) ?_
  show own_Go p e below s _ _ _ (s₁.setTop (mkF m 3 #[rv a1, rv al, iv (Int32.ofNat s'), iv (Int32.ofNat ny), iv (2 : Int32)] [(.int (Int32.ofNat ny)), (.int (2 : Int32))]))
  by_cases hB : (2 : Int32) < (Int32.ofNat ny)
  · refine own_go (fun zt zk => (XS.icmpNo X0.here hx rfl (hb hby own_d20_3) rfl (tlt (hB : (2 : Int32) < (Int32.ofNat ny))).2.1 zk)) ?_
    show own_Go p e below s _ _ _ (s₁.setTop (mkF m 6 #[rv a1, rv al, iv (Int32.ofNat s'), iv (Int32.ofNat ny), iv (2 : Int32)] []))
    have hi : 2 < ny := (own_ltN (n := 2) (by omega) (by omega)).mp hB
    refine own_go (fun zt zk => (XS.aloadN X0.here hx rfl (hb hby own_d20_6) rfl rfl (XS.iload X0.here hx rfl (hb hby own_d20_7) rfl zk))) ?_
    show own_Go p e below s _ _ _ (s₁.setTop (mkF m 9 #[rv a1, rv al, iv (Int32.ofNat s'), iv (Int32.ofNat ny), iv (2 : Int32)] [(.int (2 : Int32)), (.ref a1)]))
    obtain ⟨cq1, kq1, qa1, qb1, qc1⟩ := isOf hZ e0 Ex
    obtain ⟨_, _, ⟨T1, L1, k1, n1⟩, -, X1, ⟨Lc1, hQ1, l1, y1, z1⟩, st1⟩ := X0.virtualBack hx (y := (⟨"java/lang/String", "charAt", "(I)C"⟩ : MethodName)) (z := (⟨"java/lang/String", "charAt", "(I)C"⟩ : MethodName)) hown (mvT hZ (hw _ (List.mem_of_getElem? (i := 128) rfl))) (mvT hZ (hw _ (List.mem_of_getElem? (i := 129) rfl))) (notFace_of_selects (args := #[]) (mvT hZ (hw _ (List.mem_of_getElem? (i := 131) rfl)))) (mvT hZ (hw _ (List.mem_of_getElem? (i := 131) rfl))) (mvT hZ (hw _ (List.mem_of_getElem? (i := 130) rfl))) (by decide) (backOf (W := 0) (own_rchar l Z a0 hw [] a1 (2 : Int32) cz fm t kb (Int32.ofNat ny) (ys.map Value.int) (ys.getD 2 0) h0 n0 Z0 O SC SF Ex Fv Fc Va hz rfm ⟨by decide, hB⟩ (own_mapget ys 2)) hZ (hw _ (List.mem_of_getElem? (i := 132) rfl)) (hw _ (List.mem_of_getElem? (i := 10) rfl)) (by decide) (by decide)) qa1 qc1 (g := (mkF m 9 #[rv a1, rv al, iv (Int32.ofNat s'), iv (Int32.ofNat ny), iv (2 : Int32)] [(.int (2 : Int32)), (.ref a1)])) rfl (by rw [hml]; rfl) (Steps.refl _) (argsL := [(.int (2 : Int32))]) (rest := []) (lenOf own_pd__I_C rfl) rfl (by show 2 * 0 + _ ≤ _; exact Nat.le_of_eq rfl) (hb hby own_d20_9) (fun _ _ => ⟨rfl, e0, (by decide : 0 + 0 ≤ _), (by decide : 0 + 0 ≤ _)⟩)
    dsimp only [Pt.U, Pt.locs, Pt.cells, Pt.slots] at X1 l1 y1 z1 st1 hQ1
    subst l1 y1 z1
    obtain ⟨rfl, Nq1, e1⟩ := hQ1
    have N1 := Fr.app N0 Nq1
    refine own_go (fun zt zk => st1.trans zk) ?_
    show own_Go p e below s _ _ _ (T1.setTop (mkF m 12 #[rv a1, rv al, iv (Int32.ofNat s'), iv (Int32.ofNat ny), iv (2 : Int32)] [(.int (ys.getD 2 0 &&& (255 : Int32)))]))
    refine own_go (fun zt zk => (XS.aloadN X1.here hx rfl (hb hby own_d20_12) rfl rfl (XS.iloadN X1.here hx rfl (hb hby own_d20_13) rfl (XS.iload X1.here hx rfl (hb hby own_d20_14) rfl (XS.iadd X1.here hx rfl (hb hby own_d20_16) rfl zk))))) ?_
    show own_Go p e below s _ _ _ (T1.setTop (mkF m 17 #[rv a1, rv al, iv (Int32.ofNat s'), iv (Int32.ofNat ny), iv (2 : Int32)] [(.int ((Int32.ofNat s') + (2 : Int32))), (.ref al), (.int (ys.getD 2 0 &&& (255 : Int32)))]))
    rw [show Int32.ofNat s' + (2 : Int32) = Int32.ofNat (s' + 2) from own_addN (n := s') (s := 2) (by omega)]
    show own_Go p e below s _ _ _ (T1.setTop (mkF m 17 #[rv a1, rv al, iv (Int32.ofNat s'), iv (Int32.ofNat ny), iv (2 : Int32)] [(.int (Int32.ofNat (s' + 2))), (.ref al), (.int (ys.getD 2 0 &&& (255 : Int32)))]))
    obtain ⟨hi1, hi3⟩ := own_idx (N := 5) (n := 5) rfl (by decide) (show s' + 2 < 5 by omega)
    obtain ⟨cl2, Ar2, q2, Sz2, Nz2, Ha2, Ga2⟩ := id Vl
    have hin2 : ¬ ((Int32.ofNat (s' + 2)) < 0 ∨ cl2.slots.size ≤ ((Int32.ofNat (s' + 2))).toNatClampNeg) := inb_of Sz2 hi1
    have hat2 : cl2.slots[((Int32.ofNat (s' + 2))).toNatClampNeg]? = some (.int ([ca, cb, cc, cd, ce].getD (s' + 2) 0)) := Has.at Ha2 hin2 (by rw [hi3]; exact own_mapget [ca, cb, cc, cd, ce] (s' + 2))
    refine own_go (X1.caload hx (j := (Int32.ofNat (s' + 2))) (v := (.int ([ca, cb, cc, cd, ce].getD (s' + 2) 0))) (by rw [e1]; exact Ar2.1) (State.isArrayOf_alike hZ.alike Ar2.2.1) Ar2.2.2 hin2 hat2 (g := (mkF m 17 #[rv a1, rv al, iv (Int32.ofNat s'), iv (Int32.ofNat ny), iv (2 : Int32)] [(.int (Int32.ofNat (s' + 2))), (.ref al), (.int (ys.getD 2 0 &&& (255 : Int32)))])) rfl rfl (hb hby own_d20_17)) ?_
    show own_Go p e below s _ _ _ (T1.setTop (mkF m 18 #[rv a1, rv al, iv (Int32.ofNat s'), iv (Int32.ofNat ny), iv (2 : Int32)] [(.int ([ca, cb, cc, cd, ce].getD (s' + 2) 0)), (.int (ys.getD 2 0 &&& (255 : Int32)))]))
    refine own_go (fun zt zk => (XS.icmpNo X1.here hx rfl (hb hby own_d20_18) rfl (teq ((hrel 2 hi) : (ys.getD 2 0 &&& (255 : Int32)) = ([ca, cb, cc, cd, ce].getD (s' + 2) 0))).2 (XS.iconst X1.here hx rfl (hb hby own_d20_21) (XS.goto X1.here hx rfl (pc0 := 22) (pc' := 26) rfl (hb hby own_d20_22) (by decide) (by decide) zk)))) ?_
    show own_Go p e below s _ _ _ (T1.setTop (mkF m 26 #[rv a1, rv al, iv (Int32.ofNat s'), iv (Int32.ofNat ny), iv (2 : Int32)] [(.int (1 : Int32))]))
    exact own_fin X1 Bd.notSynchronized (fun h => by rw [Bd.returns] at h; cases h) (fun fs hr => retN X1 hx (t := .boolean) Bd.returns (by simp) (hb hby own_d20_26) hr) (by rw [e1]; exact ⟨rfl, N1, rfl⟩) (by decide) (by decide)
  · refine own_go (fun zt zk => (XS.icmpYes X0.here hx rfl (pc0 := 3) (pc' := 21) rfl (hb hby own_d20_3) rfl (flt (hB : ¬ ((2 : Int32) < (Int32.ofNat ny)))).2.1 (by decide) (by decide) (XS.iconst X0.here hx rfl (hb hby own_d20_21) (XS.goto X0.here hx rfl (pc0 := 22) (pc' := 26) rfl (hb hby own_d20_22) (by decide) (by decide) zk)))) ?_
    show own_Go p e below s _ _ _ (s₁.setTop (mkF m 26 #[rv a1, rv al, iv (Int32.ofNat s'), iv (Int32.ofNat ny), iv (2 : Int32)] [(.int (1 : Int32))]))
    exact own_fin X0 Bd.notSynchronized (fun h => by rw [Bd.returns] at h; cases h) (fun fs hr => retN X0 hx (t := .boolean) Bd.returns (by simp) (hb hby own_d20_26) hr) (by rw [e0]; exact ⟨rfl, N0, rfl⟩) (by decide) (by decide)
theorem own_ef_own_rat3 (m : MethodId) (a1 : Addr) (al : Addr) (ny : Nat) : entryFrame m #[(.ref a1), (.ref al), (.int (Int32.ofNat s')), (.int (Int32.ofNat ny)), (.int (3 : Int32))] 5 = mkF m 0 #[rv a1, rv al, iv (Int32.ofNat s'), iv (Int32.ofNat ny), iv (3 : Int32)] [] := by first | (simp [entryFrame, mkF, argsToLocals, Value.category]; done) | rfl
def own_Q_own_rat3 (Z : State) (a1 : Addr) (al : Addr) (cz : Int32) (fm : Value) (t : Addr) (kb : ClassId) (ys : List Int32) (ny s' : Nat) (ka : ClassId) (ca cb cc cd ce : Int32) (h0 : Heap) (n0 : Nat) (v : Option Value) (h : Heap) (L : List Loc) : Prop := v = some (.int (1 : Int32)) ∧ Fr n0 L ∧ h = h0
set_option maxRecDepth 65536 in
set_option maxHeartbeats 40000000 in
theorem own_rat3 (l : Launch) (Z : State) (a0 : Array Value) (hw : ∀ d ∈ tables_1, d.before a0 Z = true) (ws : List Jvm.Cond) (a1 : Addr) (al : Addr) (cz : Int32) (fm : Value) (t : Addr) (kb : ClassId) (ys : List Int32) (ny s' : Nat) (ka : ClassId) (ca cb cc cd ce : Int32) (h0 : Heap) (n0 : Nat) (Z0 : n0 ≤ h0.size) (O : Old Z n0 h0) (SC : Sta Z Z.heap "java/lang/String" "COMPACT_STRINGS" "Z" (.int cz)) (SF : Sta Z Z.heap "jdk/internal/util/Preconditions" "SIOOBE_FORMATTER" "Ljava/util/function/BiFunction;" fm) (Ex : Exa Z h0 a1 "java/lang/String") (Fv : Fld Z h0 a1 "java/lang/String" "value" "[B" (.ref t)) (Fc : Fld Z h0 a1 "java/lang/String" "coder" "B" (.int (0 : Int32))) (Va : Arv Z h0 t kb .byte (Int32.ofNat ny) (ys.map Value.int) (.int (0 : Int32))) (Vl : Arv Z h0 al ka .char (5 : Int32) [(.int ca), (.int cb), (.int cc), (.int cd), (.int ce)] (.int (0 : Int32))) (hz : ¬ (cz = (0 : Int32))) (rfm : fm.isRef = true) (hsy : s' + ny ≤ 5) (hrel : ∀ j, j < ny → (ys.getD j 0 &&& (255 : Int32)) = [ca, cb, cc, cd, ce].getD (s' + j) 0) :
    MetFree l (⟨"com/example/boxwright/boxwright/TableNamesLocalNamePinLaw", "at", "(Ljava/lang/String;[CIII)Z"⟩ : MethodName) (head1 (Jvm.Cond.code (⟨"com/example/boxwright/boxwright/TableNamesLocalNamePinLaw", "at", "(Ljava/lang/String;[CIII)Z"⟩ : MethodName) method_6_code 5 (some .boolean) :: ws) ({ frames := 4, cells := 0, slots := 0, locals := 53 } : Room)) (fun a U => a = #[(.ref a1), (.ref al), (.int (Int32.ofNat s')), (.int (Int32.ofNat ny)), (.int (3 : Int32))] ∧ Z.Warmed39 U.vm ∧ U.heap = h0) (fun _ _ _ _ _ => True) (fun _ U o U' => ∃ v L, o = .returned v ∧ own_Q_own_rat3 Z a1 al cz fm t kb ys ny s' ka ca cb cc cd ce h0 n0 v U'.heap L ∧ FrameEnd U o U' L ({ frames := 4, cells := 0, slots := 0, locals := 53 } : Room).cells ({ frames := 4, cells := 0, slots := 0, locals := 53 } : Room).slots) := by
  refine MetFree.of_bodySF (plainFor_of_name own_pn_com_example_boxwright_boxwright_TableNamesLocalNamePinLaw) hisR ?_
  intro p e s m args below meth c s₁ Bd hml0 hP hK
  obtain ⟨rfl, hZ, hh⟩ := hP
  have hx := Bd.exec
  have hby := Bd.bytes
  have hml : c.maxLocals = 5 := hml0
  have hown : s.vm.findClass "com/example/boxwright/boxwright/TableNamesLocalNamePinLaw" = some m.cls := findClass_of_methodNamed Bd.named
  have hnm := (name_of_methodNamed Bd.named Bd.method).1
  have X0 : Stand p l e ({ frames := 4, cells := 0, slots := 0, locals := 53 } : Room) s m #[(.ref a1), (.ref al), (.int (Int32.ofNat s')), (.int (Int32.ofNat ny)), (.int (3 : Int32))] below meth c s₁ [] 0 0 := Stand.of_body Bd
  have e0 : s₁.heap = h0 := by rw [← hh, Bd.state]; rfl
  have N0 := Fr.nil n0
  show own_Go p e below s (own_Q_own_rat3 Z a1 al cz fm t kb ys ny s' ka ca cb cc cd ce h0 n0) ({ frames := 4, cells := 0, slots := 0, locals := 53 } : Room).cells ({ frames := 4, cells := 0, slots := 0, locals := 53 } : Room).slots (s₁.setTop (entryFrame m #[(.ref a1), (.ref al), (.int (Int32.ofNat s')), (.int (Int32.ofNat ny)), (.int (3 : Int32))] 5))
  refine own_go (fun zt zk => castTop (own_ef_own_rat3 m a1 al ny) zk) ?_
  show own_Go p e below s _ _ _ (s₁.setTop (mkF m 0 #[rv a1, rv al, iv (Int32.ofNat s'), iv (Int32.ofNat ny), iv (3 : Int32)] []))
  refine own_go (fun zt zk => (XS.iload X0.here hx rfl (hb hby own_d20_0) rfl (XS.iloadN X0.here hx rfl (hb hby own_d20_2) rfl zk))) ?_
  show own_Go p e below s _ _ _ (s₁.setTop (mkF m 3 #[rv a1, rv al, iv (Int32.ofNat s'), iv (Int32.ofNat ny), iv (3 : Int32)] [(.int (Int32.ofNat ny)), (.int (3 : Int32))]))
  by_cases hB : (3 : Int32) < (Int32.ofNat ny)
  · refine own_go (fun zt zk => (XS.icmpNo X0.here hx rfl (hb hby own_d20_3) rfl (tlt (hB : (3 : Int32) < (Int32.ofNat ny))).2.1 zk)) ?_
    show own_Go p e below s _ _ _ (s₁.setTop (mkF m 6 #[rv a1, rv al, iv (Int32.ofNat s'), iv (Int32.ofNat ny), iv (3 : Int32)] []))
    have hi : 3 < ny := (own_ltN (n := 3) (by omega) (by omega)).mp hB
    refine own_go (fun zt zk => (XS.aloadN X0.here hx rfl (hb hby own_d20_6) rfl rfl (XS.iload X0.here hx rfl (hb hby own_d20_7) rfl zk))) ?_
    show own_Go p e below s _ _ _ (s₁.setTop (mkF m 9 #[rv a1, rv al, iv (Int32.ofNat s'), iv (Int32.ofNat ny), iv (3 : Int32)] [(.int (3 : Int32)), (.ref a1)]))
    obtain ⟨cq1, kq1, qa1, qb1, qc1⟩ := isOf hZ e0 Ex
    obtain ⟨_, _, ⟨T1, L1, k1, n1⟩, -, X1, ⟨Lc1, hQ1, l1, y1, z1⟩, st1⟩ := X0.virtualBack hx (y := (⟨"java/lang/String", "charAt", "(I)C"⟩ : MethodName)) (z := (⟨"java/lang/String", "charAt", "(I)C"⟩ : MethodName)) hown (mvT hZ (hw _ (List.mem_of_getElem? (i := 128) rfl))) (mvT hZ (hw _ (List.mem_of_getElem? (i := 129) rfl))) (notFace_of_selects (args := #[]) (mvT hZ (hw _ (List.mem_of_getElem? (i := 131) rfl)))) (mvT hZ (hw _ (List.mem_of_getElem? (i := 131) rfl))) (mvT hZ (hw _ (List.mem_of_getElem? (i := 130) rfl))) (by decide) (backOf (W := 0) (own_rchar l Z a0 hw [] a1 (3 : Int32) cz fm t kb (Int32.ofNat ny) (ys.map Value.int) (ys.getD 3 0) h0 n0 Z0 O SC SF Ex Fv Fc Va hz rfm ⟨by decide, hB⟩ (own_mapget ys 3)) hZ (hw _ (List.mem_of_getElem? (i := 132) rfl)) (hw _ (List.mem_of_getElem? (i := 10) rfl)) (by decide) (by decide)) qa1 qc1 (g := (mkF m 9 #[rv a1, rv al, iv (Int32.ofNat s'), iv (Int32.ofNat ny), iv (3 : Int32)] [(.int (3 : Int32)), (.ref a1)])) rfl (by rw [hml]; rfl) (Steps.refl _) (argsL := [(.int (3 : Int32))]) (rest := []) (lenOf own_pd__I_C rfl) rfl (by show 2 * 0 + _ ≤ _; exact Nat.le_of_eq rfl) (hb hby own_d20_9) (fun _ _ => ⟨rfl, e0, (by decide : 0 + 0 ≤ _), (by decide : 0 + 0 ≤ _)⟩)
    dsimp only [Pt.U, Pt.locs, Pt.cells, Pt.slots] at X1 l1 y1 z1 st1 hQ1
    subst l1 y1 z1
    obtain ⟨rfl, Nq1, e1⟩ := hQ1
    have N1 := Fr.app N0 Nq1
    refine own_go (fun zt zk => st1.trans zk) ?_
    show own_Go p e below s _ _ _ (T1.setTop (mkF m 12 #[rv a1, rv al, iv (Int32.ofNat s'), iv (Int32.ofNat ny), iv (3 : Int32)] [(.int (ys.getD 3 0 &&& (255 : Int32)))]))
    refine own_go (fun zt zk => (XS.aloadN X1.here hx rfl (hb hby own_d20_12) rfl rfl (XS.iloadN X1.here hx rfl (hb hby own_d20_13) rfl (XS.iload X1.here hx rfl (hb hby own_d20_14) rfl (XS.iadd X1.here hx rfl (hb hby own_d20_16) rfl zk))))) ?_
    show own_Go p e below s _ _ _ (T1.setTop (mkF m 17 #[rv a1, rv al, iv (Int32.ofNat s'), iv (Int32.ofNat ny), iv (3 : Int32)] [(.int ((Int32.ofNat s') + (3 : Int32))), (.ref al), (.int (ys.getD 3 0 &&& (255 : Int32)))]))
    rw [show Int32.ofNat s' + (3 : Int32) = Int32.ofNat (s' + 3) from own_addN (n := s') (s := 3) (by omega)]
    show own_Go p e below s _ _ _ (T1.setTop (mkF m 17 #[rv a1, rv al, iv (Int32.ofNat s'), iv (Int32.ofNat ny), iv (3 : Int32)] [(.int (Int32.ofNat (s' + 3))), (.ref al), (.int (ys.getD 3 0 &&& (255 : Int32)))]))
    obtain ⟨hi1, hi3⟩ := own_idx (N := 5) (n := 5) rfl (by decide) (show s' + 3 < 5 by omega)
    obtain ⟨cl2, Ar2, q2, Sz2, Nz2, Ha2, Ga2⟩ := id Vl
    have hin2 : ¬ ((Int32.ofNat (s' + 3)) < 0 ∨ cl2.slots.size ≤ ((Int32.ofNat (s' + 3))).toNatClampNeg) := inb_of Sz2 hi1
    have hat2 : cl2.slots[((Int32.ofNat (s' + 3))).toNatClampNeg]? = some (.int ([ca, cb, cc, cd, ce].getD (s' + 3) 0)) := Has.at Ha2 hin2 (by rw [hi3]; exact own_mapget [ca, cb, cc, cd, ce] (s' + 3))
    refine own_go (X1.caload hx (j := (Int32.ofNat (s' + 3))) (v := (.int ([ca, cb, cc, cd, ce].getD (s' + 3) 0))) (by rw [e1]; exact Ar2.1) (State.isArrayOf_alike hZ.alike Ar2.2.1) Ar2.2.2 hin2 hat2 (g := (mkF m 17 #[rv a1, rv al, iv (Int32.ofNat s'), iv (Int32.ofNat ny), iv (3 : Int32)] [(.int (Int32.ofNat (s' + 3))), (.ref al), (.int (ys.getD 3 0 &&& (255 : Int32)))])) rfl rfl (hb hby own_d20_17)) ?_
    show own_Go p e below s _ _ _ (T1.setTop (mkF m 18 #[rv a1, rv al, iv (Int32.ofNat s'), iv (Int32.ofNat ny), iv (3 : Int32)] [(.int ([ca, cb, cc, cd, ce].getD (s' + 3) 0)), (.int (ys.getD 3 0 &&& (255 : Int32)))]))
    refine own_go (fun zt zk => (XS.icmpNo X1.here hx rfl (hb hby own_d20_18) rfl (teq ((hrel 3 hi) : (ys.getD 3 0 &&& (255 : Int32)) = ([ca, cb, cc, cd, ce].getD (s' + 3) 0))).2 (XS.iconst X1.here hx rfl (hb hby own_d20_21) (XS.goto X1.here hx rfl (pc0 := 22) (pc' := 26) rfl (hb hby own_d20_22) (by decide) (by decide) zk)))) ?_
    show own_Go p e below s _ _ _ (T1.setTop (mkF m 26 #[rv a1, rv al, iv (Int32.ofNat s'), iv (Int32.ofNat ny), iv (3 : Int32)] [(.int (1 : Int32))]))
    exact own_fin X1 Bd.notSynchronized (fun h => by rw [Bd.returns] at h; cases h) (fun fs hr => retN X1 hx (t := .boolean) Bd.returns (by simp) (hb hby own_d20_26) hr) (by rw [e1]; exact ⟨rfl, N1, rfl⟩) (by decide) (by decide)
  · refine own_go (fun zt zk => (XS.icmpYes X0.here hx rfl (pc0 := 3) (pc' := 21) rfl (hb hby own_d20_3) rfl (flt (hB : ¬ ((3 : Int32) < (Int32.ofNat ny)))).2.1 (by decide) (by decide) (XS.iconst X0.here hx rfl (hb hby own_d20_21) (XS.goto X0.here hx rfl (pc0 := 22) (pc' := 26) rfl (hb hby own_d20_22) (by decide) (by decide) zk)))) ?_
    show own_Go p e below s _ _ _ (s₁.setTop (mkF m 26 #[rv a1, rv al, iv (Int32.ofNat s'), iv (Int32.ofNat ny), iv (3 : Int32)] [(.int (1 : Int32))]))
    exact own_fin X0 Bd.notSynchronized (fun h => by rw [Bd.returns] at h; cases h) (fun fs hr => retN X0 hx (t := .boolean) Bd.returns (by simp) (hb hby own_d20_26) hr) (by rw [e0]; exact ⟨rfl, N0, rfl⟩) (by decide) (by decide)
theorem own_ef_own_rat4 (m : MethodId) (a1 : Addr) (al : Addr) (ny : Nat) : entryFrame m #[(.ref a1), (.ref al), (.int (Int32.ofNat s')), (.int (Int32.ofNat ny)), (.int (4 : Int32))] 5 = mkF m 0 #[rv a1, rv al, iv (Int32.ofNat s'), iv (Int32.ofNat ny), iv (4 : Int32)] [] := by first | (simp [entryFrame, mkF, argsToLocals, Value.category]; done) | rfl
def own_Q_own_rat4 (Z : State) (a1 : Addr) (al : Addr) (cz : Int32) (fm : Value) (t : Addr) (kb : ClassId) (ys : List Int32) (ny s' : Nat) (ka : ClassId) (ca cb cc cd ce : Int32) (h0 : Heap) (n0 : Nat) (v : Option Value) (h : Heap) (L : List Loc) : Prop := v = some (.int (1 : Int32)) ∧ Fr n0 L ∧ h = h0
set_option maxRecDepth 65536 in
set_option maxHeartbeats 40000000 in
theorem own_rat4 (l : Launch) (Z : State) (a0 : Array Value) (hw : ∀ d ∈ tables_1, d.before a0 Z = true) (ws : List Jvm.Cond) (a1 : Addr) (al : Addr) (cz : Int32) (fm : Value) (t : Addr) (kb : ClassId) (ys : List Int32) (ny s' : Nat) (ka : ClassId) (ca cb cc cd ce : Int32) (h0 : Heap) (n0 : Nat) (Z0 : n0 ≤ h0.size) (O : Old Z n0 h0) (SC : Sta Z Z.heap "java/lang/String" "COMPACT_STRINGS" "Z" (.int cz)) (SF : Sta Z Z.heap "jdk/internal/util/Preconditions" "SIOOBE_FORMATTER" "Ljava/util/function/BiFunction;" fm) (Ex : Exa Z h0 a1 "java/lang/String") (Fv : Fld Z h0 a1 "java/lang/String" "value" "[B" (.ref t)) (Fc : Fld Z h0 a1 "java/lang/String" "coder" "B" (.int (0 : Int32))) (Va : Arv Z h0 t kb .byte (Int32.ofNat ny) (ys.map Value.int) (.int (0 : Int32))) (Vl : Arv Z h0 al ka .char (5 : Int32) [(.int ca), (.int cb), (.int cc), (.int cd), (.int ce)] (.int (0 : Int32))) (hz : ¬ (cz = (0 : Int32))) (rfm : fm.isRef = true) (hsy : s' + ny ≤ 5) (hrel : ∀ j, j < ny → (ys.getD j 0 &&& (255 : Int32)) = [ca, cb, cc, cd, ce].getD (s' + j) 0) :
    MetFree l (⟨"com/example/boxwright/boxwright/TableNamesLocalNamePinLaw", "at", "(Ljava/lang/String;[CIII)Z"⟩ : MethodName) (head1 (Jvm.Cond.code (⟨"com/example/boxwright/boxwright/TableNamesLocalNamePinLaw", "at", "(Ljava/lang/String;[CIII)Z"⟩ : MethodName) method_6_code 5 (some .boolean) :: ws) ({ frames := 4, cells := 0, slots := 0, locals := 53 } : Room)) (fun a U => a = #[(.ref a1), (.ref al), (.int (Int32.ofNat s')), (.int (Int32.ofNat ny)), (.int (4 : Int32))] ∧ Z.Warmed39 U.vm ∧ U.heap = h0) (fun _ _ _ _ _ => True) (fun _ U o U' => ∃ v L, o = .returned v ∧ own_Q_own_rat4 Z a1 al cz fm t kb ys ny s' ka ca cb cc cd ce h0 n0 v U'.heap L ∧ FrameEnd U o U' L ({ frames := 4, cells := 0, slots := 0, locals := 53 } : Room).cells ({ frames := 4, cells := 0, slots := 0, locals := 53 } : Room).slots) := by
  refine MetFree.of_bodySF (plainFor_of_name own_pn_com_example_boxwright_boxwright_TableNamesLocalNamePinLaw) hisR ?_
  intro p e s m args below meth c s₁ Bd hml0 hP hK
  obtain ⟨rfl, hZ, hh⟩ := hP
  have hx := Bd.exec
  have hby := Bd.bytes
  have hml : c.maxLocals = 5 := hml0
  have hown : s.vm.findClass "com/example/boxwright/boxwright/TableNamesLocalNamePinLaw" = some m.cls := findClass_of_methodNamed Bd.named
  have hnm := (name_of_methodNamed Bd.named Bd.method).1
  have X0 : Stand p l e ({ frames := 4, cells := 0, slots := 0, locals := 53 } : Room) s m #[(.ref a1), (.ref al), (.int (Int32.ofNat s')), (.int (Int32.ofNat ny)), (.int (4 : Int32))] below meth c s₁ [] 0 0 := Stand.of_body Bd
  have e0 : s₁.heap = h0 := by rw [← hh, Bd.state]; rfl
  have N0 := Fr.nil n0
  show own_Go p e below s (own_Q_own_rat4 Z a1 al cz fm t kb ys ny s' ka ca cb cc cd ce h0 n0) ({ frames := 4, cells := 0, slots := 0, locals := 53 } : Room).cells ({ frames := 4, cells := 0, slots := 0, locals := 53 } : Room).slots (s₁.setTop (entryFrame m #[(.ref a1), (.ref al), (.int (Int32.ofNat s')), (.int (Int32.ofNat ny)), (.int (4 : Int32))] 5))
  refine own_go (fun zt zk => castTop (own_ef_own_rat4 m a1 al ny) zk) ?_
  show own_Go p e below s _ _ _ (s₁.setTop (mkF m 0 #[rv a1, rv al, iv (Int32.ofNat s'), iv (Int32.ofNat ny), iv (4 : Int32)] []))
  refine own_go (fun zt zk => (XS.iload X0.here hx rfl (hb hby own_d20_0) rfl (XS.iloadN X0.here hx rfl (hb hby own_d20_2) rfl zk))) ?_
  show own_Go p e below s _ _ _ (s₁.setTop (mkF m 3 #[rv a1, rv al, iv (Int32.ofNat s'), iv (Int32.ofNat ny), iv (4 : Int32)] [(.int (Int32.ofNat ny)), (.int (4 : Int32))]))
  by_cases hB : (4 : Int32) < (Int32.ofNat ny)
  · refine own_go (fun zt zk => (XS.icmpNo X0.here hx rfl (hb hby own_d20_3) rfl (tlt (hB : (4 : Int32) < (Int32.ofNat ny))).2.1 zk)) ?_
    show own_Go p e below s _ _ _ (s₁.setTop (mkF m 6 #[rv a1, rv al, iv (Int32.ofNat s'), iv (Int32.ofNat ny), iv (4 : Int32)] []))
    have hi : 4 < ny := (own_ltN (n := 4) (by omega) (by omega)).mp hB
    refine own_go (fun zt zk => (XS.aloadN X0.here hx rfl (hb hby own_d20_6) rfl rfl (XS.iload X0.here hx rfl (hb hby own_d20_7) rfl zk))) ?_
    show own_Go p e below s _ _ _ (s₁.setTop (mkF m 9 #[rv a1, rv al, iv (Int32.ofNat s'), iv (Int32.ofNat ny), iv (4 : Int32)] [(.int (4 : Int32)), (.ref a1)]))
    obtain ⟨cq1, kq1, qa1, qb1, qc1⟩ := isOf hZ e0 Ex
    obtain ⟨_, _, ⟨T1, L1, k1, n1⟩, -, X1, ⟨Lc1, hQ1, l1, y1, z1⟩, st1⟩ := X0.virtualBack hx (y := (⟨"java/lang/String", "charAt", "(I)C"⟩ : MethodName)) (z := (⟨"java/lang/String", "charAt", "(I)C"⟩ : MethodName)) hown (mvT hZ (hw _ (List.mem_of_getElem? (i := 128) rfl))) (mvT hZ (hw _ (List.mem_of_getElem? (i := 129) rfl))) (notFace_of_selects (args := #[]) (mvT hZ (hw _ (List.mem_of_getElem? (i := 131) rfl)))) (mvT hZ (hw _ (List.mem_of_getElem? (i := 131) rfl))) (mvT hZ (hw _ (List.mem_of_getElem? (i := 130) rfl))) (by decide) (backOf (W := 0) (own_rchar l Z a0 hw [] a1 (4 : Int32) cz fm t kb (Int32.ofNat ny) (ys.map Value.int) (ys.getD 4 0) h0 n0 Z0 O SC SF Ex Fv Fc Va hz rfm ⟨by decide, hB⟩ (own_mapget ys 4)) hZ (hw _ (List.mem_of_getElem? (i := 132) rfl)) (hw _ (List.mem_of_getElem? (i := 10) rfl)) (by decide) (by decide)) qa1 qc1 (g := (mkF m 9 #[rv a1, rv al, iv (Int32.ofNat s'), iv (Int32.ofNat ny), iv (4 : Int32)] [(.int (4 : Int32)), (.ref a1)])) rfl (by rw [hml]; rfl) (Steps.refl _) (argsL := [(.int (4 : Int32))]) (rest := []) (lenOf own_pd__I_C rfl) rfl (by show 2 * 0 + _ ≤ _; exact Nat.le_of_eq rfl) (hb hby own_d20_9) (fun _ _ => ⟨rfl, e0, (by decide : 0 + 0 ≤ _), (by decide : 0 + 0 ≤ _)⟩)
    dsimp only [Pt.U, Pt.locs, Pt.cells, Pt.slots] at X1 l1 y1 z1 st1 hQ1
    subst l1 y1 z1
    obtain ⟨rfl, Nq1, e1⟩ := hQ1
    have N1 := Fr.app N0 Nq1
    refine own_go (fun zt zk => st1.trans zk) ?_
    show own_Go p e below s _ _ _ (T1.setTop (mkF m 12 #[rv a1, rv al, iv (Int32.ofNat s'), iv (Int32.ofNat ny), iv (4 : Int32)] [(.int (ys.getD 4 0 &&& (255 : Int32)))]))
    refine own_go (fun zt zk => (XS.aloadN X1.here hx rfl (hb hby own_d20_12) rfl rfl (XS.iloadN X1.here hx rfl (hb hby own_d20_13) rfl (XS.iload X1.here hx rfl (hb hby own_d20_14) rfl (XS.iadd X1.here hx rfl (hb hby own_d20_16) rfl zk))))) ?_
    show own_Go p e below s _ _ _ (T1.setTop (mkF m 17 #[rv a1, rv al, iv (Int32.ofNat s'), iv (Int32.ofNat ny), iv (4 : Int32)] [(.int ((Int32.ofNat s') + (4 : Int32))), (.ref al), (.int (ys.getD 4 0 &&& (255 : Int32)))]))
    rw [show Int32.ofNat s' + (4 : Int32) = Int32.ofNat (s' + 4) from own_addN (n := s') (s := 4) (by omega)]
    show own_Go p e below s _ _ _ (T1.setTop (mkF m 17 #[rv a1, rv al, iv (Int32.ofNat s'), iv (Int32.ofNat ny), iv (4 : Int32)] [(.int (Int32.ofNat (s' + 4))), (.ref al), (.int (ys.getD 4 0 &&& (255 : Int32)))]))
    obtain ⟨hi1, hi3⟩ := own_idx (N := 5) (n := 5) rfl (by decide) (show s' + 4 < 5 by omega)
    obtain ⟨cl2, Ar2, q2, Sz2, Nz2, Ha2, Ga2⟩ := id Vl
    have hin2 : ¬ ((Int32.ofNat (s' + 4)) < 0 ∨ cl2.slots.size ≤ ((Int32.ofNat (s' + 4))).toNatClampNeg) := inb_of Sz2 hi1
    have hat2 : cl2.slots[((Int32.ofNat (s' + 4))).toNatClampNeg]? = some (.int ([ca, cb, cc, cd, ce].getD (s' + 4) 0)) := Has.at Ha2 hin2 (by rw [hi3]; exact own_mapget [ca, cb, cc, cd, ce] (s' + 4))
    refine own_go (X1.caload hx (j := (Int32.ofNat (s' + 4))) (v := (.int ([ca, cb, cc, cd, ce].getD (s' + 4) 0))) (by rw [e1]; exact Ar2.1) (State.isArrayOf_alike hZ.alike Ar2.2.1) Ar2.2.2 hin2 hat2 (g := (mkF m 17 #[rv a1, rv al, iv (Int32.ofNat s'), iv (Int32.ofNat ny), iv (4 : Int32)] [(.int (Int32.ofNat (s' + 4))), (.ref al), (.int (ys.getD 4 0 &&& (255 : Int32)))])) rfl rfl (hb hby own_d20_17)) ?_
    show own_Go p e below s _ _ _ (T1.setTop (mkF m 18 #[rv a1, rv al, iv (Int32.ofNat s'), iv (Int32.ofNat ny), iv (4 : Int32)] [(.int ([ca, cb, cc, cd, ce].getD (s' + 4) 0)), (.int (ys.getD 4 0 &&& (255 : Int32)))]))
    refine own_go (fun zt zk => (XS.icmpNo X1.here hx rfl (hb hby own_d20_18) rfl (teq ((hrel 4 hi) : (ys.getD 4 0 &&& (255 : Int32)) = ([ca, cb, cc, cd, ce].getD (s' + 4) 0))).2 (XS.iconst X1.here hx rfl (hb hby own_d20_21) (XS.goto X1.here hx rfl (pc0 := 22) (pc' := 26) rfl (hb hby own_d20_22) (by decide) (by decide) zk)))) ?_
    show own_Go p e below s _ _ _ (T1.setTop (mkF m 26 #[rv a1, rv al, iv (Int32.ofNat s'), iv (Int32.ofNat ny), iv (4 : Int32)] [(.int (1 : Int32))]))
    exact own_fin X1 Bd.notSynchronized (fun h => by rw [Bd.returns] at h; cases h) (fun fs hr => retN X1 hx (t := .boolean) Bd.returns (by simp) (hb hby own_d20_26) hr) (by rw [e1]; exact ⟨rfl, N1, rfl⟩) (by decide) (by decide)
  · refine own_go (fun zt zk => (XS.icmpYes X0.here hx rfl (pc0 := 3) (pc' := 21) rfl (hb hby own_d20_3) rfl (flt (hB : ¬ ((4 : Int32) < (Int32.ofNat ny)))).2.1 (by decide) (by decide) (XS.iconst X0.here hx rfl (hb hby own_d20_21) (XS.goto X0.here hx rfl (pc0 := 22) (pc' := 26) rfl (hb hby own_d20_22) (by decide) (by decide) zk)))) ?_
    show own_Go p e below s _ _ _ (s₁.setTop (mkF m 26 #[rv a1, rv al, iv (Int32.ofNat s'), iv (Int32.ofNat ny), iv (4 : Int32)] [(.int (1 : Int32))]))
    exact own_fin X0 Bd.notSynchronized (fun h => by rw [Bd.returns] at h; cases h) (fun fs hr => retN X0 hx (t := .boolean) Bd.returns (by simp) (hb hby own_d20_26) hr) (by rw [e0]; exact ⟨rfl, N0, rfl⟩) (by decide) (by decide)
theorem own_pd__ICCCCC_Ljava_lang_String_ : parseMethodDescriptor "(ICCCCC)Ljava/lang/String;" = some ⟨[.int, .char, .char, .char, .char, .char], some (.object "java/lang/String")⟩ := by decide +kernel
theorem own_pd__Ljava_lang_String__Ljava_lang_String_ : parseMethodDescriptor "(Ljava/lang/String;)Ljava/lang/String;" = some ⟨[(.object "java/lang/String")], some (.object "java/lang/String")⟩ := by decide +kernel
theorem own_pd___CIC_I : parseMethodDescriptor "([CIC)I" = some ⟨[(.array .char), .int, .char], some .int⟩ := by decide +kernel
theorem own_pd__Ljava_lang_String__CIII_Z : parseMethodDescriptor "(Ljava/lang/String;[CIII)Z" = some ⟨[(.object "java/lang/String"), (.array .char), .int, .int, .int], some .boolean⟩ := by decide +kernel
theorem own_ef_own_law (m : MethodId) (p1 : Int32) (p2 : Int32) (p3 : Int32) (p4 : Int32) (p5 : Int32) (p6 : Int32) : entryFrame m #[(.int p1), (.int p2), (.int p3), (.int p4), (.int p5), (.int p6)] maxLocals = mkF m 0 #[iv p1, iv p2, iv p3, iv p4, iv p5, iv p6, .unset, .unset, .unset, .unset, .unset, .unset, .unset, .unset, .unset, .unset, .unset, .unset, .unset] [] := by first | (simp [entryFrame, mkF, argsToLocals, Value.category, maxLocals]; done) | rfl
def own_Q_own_law (Z : State) (p1 : Int32) (p2 : Int32) (p3 : Int32) (p4 : Int32) (p5 : Int32) (p6 : Int32) (o_COMPACT_STRINGS : Int32) (o_SIOOBE_FORMATTER : Value) (h0 : Heap) (n0 : Nat) (v : Option Value) (h : Heap) (L : List Loc) : Prop := v = some (.int 1) ∧ Fr n0 L
set_option maxRecDepth 65536 in
set_option maxHeartbeats 40000000 in
theorem own_law (l : Launch) (Z : State) (a0 : Array Value) (hw : ∀ d ∈ tables_1, d.before a0 Z = true) (ws : List Jvm.Cond) (p1 : Int32) (p2 : Int32) (p3 : Int32) (p4 : Int32) (p5 : Int32) (p6 : Int32) (o_COMPACT_STRINGS : Int32) (o_SIOOBE_FORMATTER : Value) (vm0 : Vm) (h0 : Heap) (n0 : Nat) (Z0 : n0 ≤ h0.size) (O : Old Z n0 h0) (S_o_COMPACT_STRINGS : Sta Z Z.heap "java/lang/String" "COMPACT_STRINGS" "Z" (.int o_COMPACT_STRINGS)) (S_o_SIOOBE_FORMATTER : Sta Z Z.heap "jdk/internal/util/Preconditions" "SIOOBE_FORMATTER" "Ljava/util/function/BiFunction;" o_SIOOBE_FORMATTER) (nz_o_COMPACT_STRINGS : ¬ (o_COMPACT_STRINGS = (0 : Int32))) (r_o_SIOOBE_FORMATTER : o_SIOOBE_FORMATTER.isRef = true) :
    MetFree l x (head1 (Jvm.Cond.code x code maxLocals ret :: ws) room_1) (fun a U => a = #[(.int p1), (.int p2), (.int p3), (.int p4), (.int p5), (.int p6)] ∧ Z.Warmed39 U.vm ∧ U.heap = h0 ∧ CHr Z own_EL vm0 h0 U.vm h0) (fun _ _ _ _ _ => True) (fun _ U o U' => ∃ v L, o = .returned v ∧ own_Q_own_law Z p1 p2 p3 p4 p5 p6 o_COMPACT_STRINGS o_SIOOBE_FORMATTER h0 n0 v U'.heap L ∧ CHr Z own_EL U.vm U.heap U'.vm U'.heap ∧ ReturnedEndW U o U' L room_1.cells room_1.slots) := by
  refine MetFree.of_bodySF (plainFor_of_name own_pn_com_example_boxwright_boxwright_TableNamesLocalNamePinLaw) hisR ?_
  intro p e s m args below meth c s₁ Bd hml0 hP hK
  obtain ⟨rfl, hZ, hh, hCH⟩ := hP
  have hx := Bd.exec
  have hby := Bd.bytes
  have hml : c.maxLocals = 19 := hml0
  have hown : s.vm.findClass "com/example/boxwright/boxwright/TableNamesLocalNamePinLaw" = some m.cls := findClass_of_methodNamed Bd.named
  have hnm := (name_of_methodNamed Bd.named Bd.method).1
  have X0 : Stand p l e room_1 (s.setVm s.vm) m #[(.int p1), (.int p2), (.int p3), (.int p4), (.int p5), (.int p6)] below meth c s₁ [] 0 0 := Stand.of_body Bd
  have e0 : s₁.heap = h0 := by rw [← hh, Bd.state]; rfl
  have N0 := Fr.nil n0
  have hEL := own_EW Z a0 hw
  have wS := own_wS Z a0 hw
  have hS : s.Since s.vm 0 := (State.WarmedH.refl s).since 0
  have hk : 0 ≤ h0.size := Nat.zero_le _
  have Rc : CHr Z own_EL s.vm h0 s.vm h0 := CHr.refl hCH.1
  have Kp : Keep h0 h0 [] := Keep.refl h0 _
  show own_GoW p e below s Z (own_Q_own_law Z p1 p2 p3 p4 p5 p6 o_COMPACT_STRINGS o_SIOOBE_FORMATTER h0 n0) room_1.cells room_1.slots (s₁.setTop (entryFrame m #[(.int p1), (.int p2), (.int p3), (.int p4), (.int p5), (.int p6)] maxLocals))
  refine own_goW (fun zt zk => castTop (own_ef_own_law m p1 p2 p3 p4 p5 p6) zk) ?_
  show own_GoW p e below s _ _ _ _ (s₁.setTop (mkF m 0 #[iv p1, iv p2, iv p3, iv p4, iv p5, iv p6, .unset, .unset, .unset, .unset, .unset, .unset, .unset, .unset, .unset, .unset, .unset, .unset, .unset] []))
  refine own_goW (fun zt zk => (XS.iloadN X0.here hx rfl (hb hby at_0) rfl (XS.bipush X0.here hx rfl (hb hby at_1) (XS.iand X0.here hx rfl (hb hby at_3) rfl (XS.bipush X0.here hx rfl (hb hby at_4) (iremM X0 hx rfl (hb hby at_6) rfl (by decide) (XS.istore X0.here hx rfl (hb hby at_7) rfl (l' := #[iv p1, iv p2, iv p3, iv p4, iv p5, iv p6, iv ((p1 &&& (7 : Int32)) % (6 : Int32)), .unset, .unset, .unset, .unset, .unset, .unset, .unset, .unset, .unset, .unset, .unset, .unset]) rfl zk))))))) ?_
  show own_GoW p e below s _ _ _ _ (s₁.setTop (mkF m 9 #[iv p1, iv p2, iv p3, iv p4, iv p5, iv p6, iv ((p1 &&& (7 : Int32)) % (6 : Int32)), .unset, .unset, .unset, .unset, .unset, .unset, .unset, .unset, .unset, .unset, .unset, .unset] []))
  generalize hv_k : ((p1 &&& (7 : Int32)) % (6 : Int32)) = k
  show own_GoW p e below s _ _ _ _ (s₁.setTop (mkF m 9 #[iv p1, iv p2, iv p3, iv p4, iv p5, iv p6, iv k, .unset, .unset, .unset, .unset, .unset, .unset, .unset, .unset, .unset, .unset, .unset, .unset] []))
  by_cases hk0_k : k = (0 : Int32)
  · subst hk0_k
    show own_GoW p e below s _ _ _ _ (s₁.setTop (mkF m 9 #[iv p1, iv p2, iv p3, iv p4, iv p5, iv p6, iv (0 : Int32), .unset, .unset, .unset, .unset, .unset, .unset, .unset, .unset, .unset, .unset, .unset, .unset] []))
    refine own_goW (fun zt zk => (XS.iloadN X0.here hx rfl (hb hby at_9) rfl zk)) ?_
    show own_GoW p e below s _ _ _ _ (s₁.setTop (mkF m 10 #[iv p1, iv p2, iv p3, iv p4, iv p5, iv p6, iv (0 : Int32), .unset, .unset, .unset, .unset, .unset, .unset, .unset, .unset, .unset, .unset, .unset, .unset] [(.int p2)]))
    obtain ⟨_, _, ⟨T1, L1, k1, n1⟩, -, X1, ⟨Lc1, hQ1, l1, y1, z1⟩, st1⟩ := Jvm.LawKit.callS X0 hx (y := (⟨"com/example/boxwright/boxwright/TableNamesLocalNamePinLaw", "pick", "(I)C"⟩ : MethodName)) hown (mvT hZ (hw _ (List.mem_of_getElem? (i := 0) rfl))) (mvT hZ (hw _ (List.mem_of_getElem? (i := 1) rfl))) (mvT hZ (hw _ (List.mem_of_getElem? (i := 2) rfl))) (mvT hZ (hw _ (List.mem_of_getElem? (i := 3) rfl))) (by decide) (backOf (W := 0) (own_rpick l Z a0 hw [] p2  h0 n0 Z0 ) hZ (hw _ (List.mem_of_getElem? (i := 3) rfl)) (hw _ (List.mem_of_getElem? (i := 2) rfl)) (by decide) (by decide)) (g := (mkF m 10 #[iv p1, iv p2, iv p3, iv p4, iv p5, iv p6, iv (0 : Int32), .unset, .unset, .unset, .unset, .unset, .unset, .unset, .unset, .unset, .unset, .unset, .unset] [(.int p2)])) rfl (by rw [hml]; rfl) (argsL := [(.int p2)]) (rest := []) (lenOf own_pd__I_C rfl) rfl (by show 2 * 0 + _ ≤ _; exact Nat.le_of_eq rfl) (hb hby at_10) (fun _ _ => ⟨rfl, e0, (by decide : 0 + 0 ≤ _), (by decide : 0 + 0 ≤ _)⟩)
    dsimp only [Pt.U, Pt.locs, Pt.cells, Pt.slots] at X1 l1 y1 z1 st1 hQ1
    subst l1 y1 z1
    obtain ⟨c1, rfl, Nq1, e1, hr_c1⟩ := hQ1
    have N1 := Fr.app N0 Nq1
    refine own_goW st1 ?_
    show own_GoW p e below s _ _ _ _ (T1.setTop (mkF m 13 #[iv p1, iv p2, iv p3, iv p4, iv p5, iv p6, iv (0 : Int32), .unset, .unset, .unset, .unset, .unset, .unset, .unset, .unset, .unset, .unset, .unset, .unset] [(.int c1)]))
    refine own_goW (fun zt zk => (XS.istore X1.here hx rfl (hb hby at_13) rfl (l' := #[iv p1, iv p2, iv p3, iv p4, iv p5, iv p6, iv (0 : Int32), iv c1, .unset, .unset, .unset, .unset, .unset, .unset, .unset, .unset, .unset, .unset, .unset]) rfl (XS.iloadN X1.here hx rfl (hb hby at_15) rfl zk))) ?_
    show own_GoW p e below s _ _ _ _ (T1.setTop (mkF m 16 #[iv p1, iv p2, iv p3, iv p4, iv p5, iv p6, iv (0 : Int32), iv c1, .unset, .unset, .unset, .unset, .unset, .unset, .unset, .unset, .unset, .unset, .unset] [(.int p3)]))
    obtain ⟨_, _, ⟨T2, L2, k2, n2⟩, -, X2, ⟨Lc2, hQ2, l2, y2, z2⟩, st2⟩ := Jvm.LawKit.callS X1 hx (y := (⟨"com/example/boxwright/boxwright/TableNamesLocalNamePinLaw", "pick", "(I)C"⟩ : MethodName)) hown (mvT hZ (hw _ (List.mem_of_getElem? (i := 0) rfl))) (mvT hZ (hw _ (List.mem_of_getElem? (i := 1) rfl))) (mvT hZ (hw _ (List.mem_of_getElem? (i := 2) rfl))) (mvT hZ (hw _ (List.mem_of_getElem? (i := 3) rfl))) (by decide) (backOf (W := 0) (own_rpick l Z a0 hw [] p3  h0 n0 Z0 ) hZ (hw _ (List.mem_of_getElem? (i := 3) rfl)) (hw _ (List.mem_of_getElem? (i := 2) rfl)) (by decide) (by decide)) (g := (mkF m 16 #[iv p1, iv p2, iv p3, iv p4, iv p5, iv p6, iv (0 : Int32), iv c1, .unset, .unset, .unset, .unset, .unset, .unset, .unset, .unset, .unset, .unset, .unset] [(.int p3)])) rfl (by rw [hml]; rfl) (argsL := [(.int p3)]) (rest := []) (lenOf own_pd__I_C rfl) rfl (by show 2 * 0 + _ ≤ _; exact Nat.le_of_eq rfl) (hb hby at_16) (fun _ _ => ⟨rfl, e1, (by decide : 0 + 0 ≤ _), (by decide : 0 + 0 ≤ _)⟩)
    dsimp only [Pt.U, Pt.locs, Pt.cells, Pt.slots] at X2 l2 y2 z2 st2 hQ2
    subst l2 y2 z2
    obtain ⟨c2, rfl, Nq2, e2, hr_c2⟩ := hQ2
    have N2 := Fr.app N1 Nq2
    refine own_goW st2 ?_
    show own_GoW p e below s _ _ _ _ (T2.setTop (mkF m 19 #[iv p1, iv p2, iv p3, iv p4, iv p5, iv p6, iv (0 : Int32), iv c1, .unset, .unset, .unset, .unset, .unset, .unset, .unset, .unset, .unset, .unset, .unset] [(.int c2)]))
    refine own_goW (fun zt zk => (XS.istore X2.here hx rfl (hb hby at_19) rfl (l' := #[iv p1, iv p2, iv p3, iv p4, iv p5, iv p6, iv (0 : Int32), iv c1, iv c2, .unset, .unset, .unset, .unset, .unset, .unset, .unset, .unset, .unset, .unset]) rfl (XS.iloadN X2.here hx rfl (hb hby at_21) rfl zk))) ?_
    show own_GoW p e below s _ _ _ _ (T2.setTop (mkF m 22 #[iv p1, iv p2, iv p3, iv p4, iv p5, iv p6, iv (0 : Int32), iv c1, iv c2, .unset, .unset, .unset, .unset, .unset, .unset, .unset, .unset, .unset, .unset] [(.int p4)]))
    obtain ⟨_, _, ⟨T3, L3, k3, n3⟩, -, X3, ⟨Lc3, hQ3, l3, y3, z3⟩, st3⟩ := Jvm.LawKit.callS X2 hx (y := (⟨"com/example/boxwright/boxwright/TableNamesLocalNamePinLaw", "pick", "(I)C"⟩ : MethodName)) hown (mvT hZ (hw _ (List.mem_of_getElem? (i := 0) rfl))) (mvT hZ (hw _ (List.mem_of_getElem? (i := 1) rfl))) (mvT hZ (hw _ (List.mem_of_getElem? (i := 2) rfl))) (mvT hZ (hw _ (List.mem_of_getElem? (i := 3) rfl))) (by decide) (backOf (W := 0) (own_rpick l Z a0 hw [] p4  h0 n0 Z0 ) hZ (hw _ (List.mem_of_getElem? (i := 3) rfl)) (hw _ (List.mem_of_getElem? (i := 2) rfl)) (by decide) (by decide)) (g := (mkF m 22 #[iv p1, iv p2, iv p3, iv p4, iv p5, iv p6, iv (0 : Int32), iv c1, iv c2, .unset, .unset, .unset, .unset, .unset, .unset, .unset, .unset, .unset, .unset] [(.int p4)])) rfl (by rw [hml]; rfl) (argsL := [(.int p4)]) (rest := []) (lenOf own_pd__I_C rfl) rfl (by show 2 * 0 + _ ≤ _; exact Nat.le_of_eq rfl) (hb hby at_22) (fun _ _ => ⟨rfl, e2, (by decide : 0 + 0 ≤ _), (by decide : 0 + 0 ≤ _)⟩)
    dsimp only [Pt.U, Pt.locs, Pt.cells, Pt.slots] at X3 l3 y3 z3 st3 hQ3
    subst l3 y3 z3
    obtain ⟨c3, rfl, Nq3, e3, hr_c3⟩ := hQ3
    have N3 := Fr.app N2 Nq3
    refine own_goW st3 ?_
    show own_GoW p e below s _ _ _ _ (T3.setTop (mkF m 25 #[iv p1, iv p2, iv p3, iv p4, iv p5, iv p6, iv (0 : Int32), iv c1, iv c2, .unset, .unset, .unset, .unset, .unset, .unset, .unset, .unset, .unset, .unset] [(.int c3)]))
    refine own_goW (fun zt zk => (XS.istore X3.here hx rfl (hb hby at_25) rfl (l' := #[iv p1, iv p2, iv p3, iv p4, iv p5, iv p6, iv (0 : Int32), iv c1, iv c2, iv c3, .unset, .unset, .unset, .unset, .unset, .unset, .unset, .unset, .unset]) rfl (XS.iload X3.here hx rfl (hb hby at_27) rfl zk))) ?_
    show own_GoW p e below s _ _ _ _ (T3.setTop (mkF m 29 #[iv p1, iv p2, iv p3, iv p4, iv p5, iv p6, iv (0 : Int32), iv c1, iv c2, iv c3, .unset, .unset, .unset, .unset, .unset, .unset, .unset, .unset, .unset] [(.int p5)]))
    obtain ⟨_, _, ⟨T4, L4, k4, n4⟩, -, X4, ⟨Lc4, hQ4, l4, y4, z4⟩, st4⟩ := Jvm.LawKit.callS X3 hx (y := (⟨"com/example/boxwright/boxwright/TableNamesLocalNamePinLaw", "pick", "(I)C"⟩ : MethodName)) hown (mvT hZ (hw _ (List.mem_of_getElem? (i := 0) rfl))) (mvT hZ (hw _ (List.mem_of_getElem? (i := 1) rfl))) (mvT hZ (hw _ (List.mem_of_getElem? (i := 2) rfl))) (mvT hZ (hw _ (List.mem_of_getElem? (i := 3) rfl))) (by decide) (backOf (W := 0) (own_rpick l Z a0 hw [] p5  h0 n0 Z0 ) hZ (hw _ (List.mem_of_getElem? (i := 3) rfl)) (hw _ (List.mem_of_getElem? (i := 2) rfl)) (by decide) (by decide)) (g := (mkF m 29 #[iv p1, iv p2, iv p3, iv p4, iv p5, iv p6, iv (0 : Int32), iv c1, iv c2, iv c3, .unset, .unset, .unset, .unset, .unset, .unset, .unset, .unset, .unset] [(.int p5)])) rfl (by rw [hml]; rfl) (argsL := [(.int p5)]) (rest := []) (lenOf own_pd__I_C rfl) rfl (by show 2 * 0 + _ ≤ _; exact Nat.le_of_eq rfl) (hb hby at_29) (fun _ _ => ⟨rfl, e3, (by decide : 0 + 0 ≤ _), (by decide : 0 + 0 ≤ _)⟩)
    dsimp only [Pt.U, Pt.locs, Pt.cells, Pt.slots] at X4 l4 y4 z4 st4 hQ4
    subst l4 y4 z4
    obtain ⟨c4, rfl, Nq4, e4, hr_c4⟩ := hQ4
    have N4 := Fr.app N3 Nq4
    refine own_goW st4 ?_
    show own_GoW p e below s _ _ _ _ (T4.setTop (mkF m 32 #[iv p1, iv p2, iv p3, iv p4, iv p5, iv p6, iv (0 : Int32), iv c1, iv c2, iv c3, .unset, .unset, .unset, .unset, .unset, .unset, .unset, .unset, .unset] [(.int c4)]))
    refine own_goW (fun zt zk => (XS.istore X4.here hx rfl (hb hby at_32) rfl (l' := #[iv p1, iv p2, iv p3, iv p4, iv p5, iv p6, iv (0 : Int32), iv c1, iv c2, iv c3, iv c4, .unset, .unset, .unset, .unset, .unset, .unset, .unset, .unset]) rfl (XS.iload X4.here hx rfl (hb hby at_34) rfl zk))) ?_
    show own_GoW p e below s _ _ _ _ (T4.setTop (mkF m 36 #[iv p1, iv p2, iv p3, iv p4, iv p5, iv p6, iv (0 : Int32), iv c1, iv c2, iv c3, iv c4, .unset, .unset, .unset, .unset, .unset, .unset, .unset, .unset] [(.int p6)]))
    obtain ⟨_, _, ⟨T5, L5, k5, n5⟩, -, X5, ⟨Lc5, hQ5, l5, y5, z5⟩, st5⟩ := Jvm.LawKit.callS X4 hx (y := (⟨"com/example/boxwright/boxwright/TableNamesLocalNamePinLaw", "pick", "(I)C"⟩ : MethodName)) hown (mvT hZ (hw _ (List.mem_of_getElem? (i := 0) rfl))) (mvT hZ (hw _ (List.mem_of_getElem? (i := 1) rfl))) (mvT hZ (hw _ (List.mem_of_getElem? (i := 2) rfl))) (mvT hZ (hw _ (List.mem_of_getElem? (i := 3) rfl))) (by decide) (backOf (W := 0) (own_rpick l Z a0 hw [] p6  h0 n0 Z0 ) hZ (hw _ (List.mem_of_getElem? (i := 3) rfl)) (hw _ (List.mem_of_getElem? (i := 2) rfl)) (by decide) (by decide)) (g := (mkF m 36 #[iv p1, iv p2, iv p3, iv p4, iv p5, iv p6, iv (0 : Int32), iv c1, iv c2, iv c3, iv c4, .unset, .unset, .unset, .unset, .unset, .unset, .unset, .unset] [(.int p6)])) rfl (by rw [hml]; rfl) (argsL := [(.int p6)]) (rest := []) (lenOf own_pd__I_C rfl) rfl (by show 2 * 0 + _ ≤ _; exact Nat.le_of_eq rfl) (hb hby at_36) (fun _ _ => ⟨rfl, e4, (by decide : 0 + 0 ≤ _), (by decide : 0 + 0 ≤ _)⟩)
    dsimp only [Pt.U, Pt.locs, Pt.cells, Pt.slots] at X5 l5 y5 z5 st5 hQ5
    subst l5 y5 z5
    obtain ⟨c5, rfl, Nq5, e5, hr_c5⟩ := hQ5
    have N5 := Fr.app N4 Nq5
    refine own_goW st5 ?_
    show own_GoW p e below s _ _ _ _ (T5.setTop (mkF m 39 #[iv p1, iv p2, iv p3, iv p4, iv p5, iv p6, iv (0 : Int32), iv c1, iv c2, iv c3, iv c4, .unset, .unset, .unset, .unset, .unset, .unset, .unset, .unset] [(.int c5)]))
    refine own_goW (fun zt zk => (XS.istore X5.here hx rfl (hb hby at_39) rfl (l' := #[iv p1, iv p2, iv p3, iv p4, iv p5, iv p6, iv (0 : Int32), iv c1, iv c2, iv c3, iv c4, iv c5, .unset, .unset, .unset, .unset, .unset, .unset, .unset]) rfl (XS.iconst X5.here hx rfl (hb hby at_41) zk))) ?_
    show own_GoW p e below s _ _ _ _ (T5.setTop (mkF m 42 #[iv p1, iv p2, iv p3, iv p4, iv p5, iv p6, iv (0 : Int32), iv c1, iv c2, iv c3, iv c4, iv c5, .unset, .unset, .unset, .unset, .unset, .unset, .unset] [(.int (5 : Int32))]))
    obtain ⟨T6, h6, k6, X6, e6, E6, A6, Ea6, st6⟩ := newPE X5 hx hZ (hw _ (List.mem_of_getElem? (i := 4) rfl)) e5 (g := (mkF m 42 #[iv p1, iv p2, iv p3, iv p4, iv p5, iv p6, iv (0 : Int32), iv c1, iv c2, iv c3, iv c4, iv c5, .unset, .unset, .unset, .unset, .unset, .unset, .unset] [(.int (5 : Int32))])) rfl (hb hby at_42) rfl (by decide) (cap := 5) (by decide) (by decide) (by decide) (by decide) (ad := "[C") (by decide)
    obtain ⟨b6, g6⟩ : ∃ z, z = h0.size := ⟨_, rfl⟩
    rw [← g6] at A6 Ea6 st6
    refine own_goW st6 ?_
    have sz_b6 : h0.size ≤ b6 := Nat.le_trans Kp.1 (Nat.le_of_eq g6.symm)
    have g_b6 : n0 ≤ b6 := Nat.le_trans Z0 sz_b6
    have Sf_b6 : Safe Z own_EL s.vm h0 b6 := Safe.new (Nat.le_of_eq g6.symm)
    replace O := O.ext E6
    replace Kp := Kp.ext E6
    replace Sf_b6 := Safe.ext E6 Rc.1 Sf_b6
    replace Rc := Rc.trans (CHr.ext E6 Rc.1)
    replace hk := Nat.le_trans hk E6.1
    have V_b6 : Arv Z h6 b6 k6 .char (5 : Int32) [(.int (0 : Int32)), (.int (0 : Int32)), (.int (0 : Int32)), (.int (0 : Int32)), (.int (0 : Int32))] (.int (0 : Int32)) := (Arv.new A6 (by decide)).pad (pad_rep [] (.int (0 : Int32)) 5)
    have Ea_b6 := Ea6
    show own_GoW p e below s _ _ _ _ (T6.setTop (mkF m 44 #[iv p1, iv p2, iv p3, iv p4, iv p5, iv p6, iv (0 : Int32), iv c1, iv c2, iv c3, iv c4, iv c5, .unset, .unset, .unset, .unset, .unset, .unset, .unset] [(.ref b6)]))
    refine own_goW (fun zt zk => (XS.dup X6.here hx rfl (hb hby at_44) rfl rfl (XS.iconst X6.here hx rfl (hb hby at_45) (XS.iload X6.here hx rfl (hb hby at_46) rfl zk)))) ?_
    show own_GoW p e below s _ _ _ _ (T6.setTop (mkF m 48 #[iv p1, iv p2, iv p3, iv p4, iv p5, iv p6, iv (0 : Int32), iv c1, iv c2, iv c3, iv c4, iv c5, .unset, .unset, .unset, .unset, .unset, .unset, .unset] [(.int c1), (.int (0 : Int32)), (.ref b6), (.ref b6)]))
    obtain ⟨cl7, Ar7, q7, Sz7, Nz7, Ha7, Ga7⟩ := id V_b6
    have hin7 : ¬ ((0 : Int32) < 0 ∨ cl7.slots.size ≤ ((0 : Int32)).toNatClampNeg) := inb_of Sz7 ⟨by decide, by decide⟩
    obtain ⟨T8, h8, X8, e8, W8, st8⟩ := stC X6 hx hZ e6 Ar7 (j := (0 : Int32)) hin7 (g := (mkF m 48 #[iv p1, iv p2, iv p3, iv p4, iv p5, iv p6, iv (0 : Int32), iv c1, iv c2, iv c3, iv c4, iv c5, .unset, .unset, .unset, .unset, .unset, .unset, .unset] [(.int c1), (.int (0 : Int32)), (.ref b6), (.ref b6)])) rfl rfl (hb hby at_48)
    refine own_goW st8 ?_
    rw [show nar .char c1 = c1 from own_narc hr_c1] at W8
    have V8 := Arv.set Ar7 q7 Sz7 Nz7 Ha7 Ga7 (own_fitc hr_c1) W8 0 rfl (Nat.le_of_ble_eq_true rfl)
    have N8 := Fr.snoc X8 N5 g_b6
    have Sf_b6' := Safe.wr W8 Sf_b6 Rc.1 Sf_b6
    replace Rc := Rc.trans (CHr.wr W8 Sf_b6 Rc.1)
    replace hk := Nat.le_trans hk (Keep.of_wr W8).1
    replace Sf_b6 := Sf_b6'
    replace O := O.wr W8 g_b6
    replace Kp := Kp.wr W8 (Or.inr sz_b6)
    replace Ea_b6 := Ea_b6.wr W8
    replace V_b6 : Arv Z h8 b6 k6 .char (5 : Int32) [(.int c1), (.int (0 : Int32)), (.int (0 : Int32)), (.int (0 : Int32)), (.int (0 : Int32))] (.int (0 : Int32)) := V8
    show own_GoW p e below s _ _ _ _ (T8.setTop (mkF m 49 #[iv p1, iv p2, iv p3, iv p4, iv p5, iv p6, iv (0 : Int32), iv c1, iv c2, iv c3, iv c4, iv c5, .unset, .unset, .unset, .unset, .unset, .unset, .unset] [(.ref b6)]))
    refine own_goW (fun zt zk => (XS.dup X8.here hx rfl (hb hby at_49) rfl rfl (XS.iconst X8.here hx rfl (hb hby at_50) (XS.iload X8.here hx rfl (hb hby at_51) rfl zk)))) ?_
    show own_GoW p e below s _ _ _ _ (T8.setTop (mkF m 53 #[iv p1, iv p2, iv p3, iv p4, iv p5, iv p6, iv (0 : Int32), iv c1, iv c2, iv c3, iv c4, iv c5, .unset, .unset, .unset, .unset, .unset, .unset, .unset] [(.int c2), (.int (1 : Int32)), (.ref b6), (.ref b6)]))
    obtain ⟨cl9, Ar9, q9, Sz9, Nz9, Ha9, Ga9⟩ := id V_b6
    have hin9 : ¬ ((1 : Int32) < 0 ∨ cl9.slots.size ≤ ((1 : Int32)).toNatClampNeg) := inb_of Sz9 ⟨by decide, by decide⟩
    obtain ⟨T10, h10, X10, e10, W10, st10⟩ := stC X8 hx hZ e8 Ar9 (j := (1 : Int32)) hin9 (g := (mkF m 53 #[iv p1, iv p2, iv p3, iv p4, iv p5, iv p6, iv (0 : Int32), iv c1, iv c2, iv c3, iv c4, iv c5, .unset, .unset, .unset, .unset, .unset, .unset, .unset] [(.int c2), (.int (1 : Int32)), (.ref b6), (.ref b6)])) rfl rfl (hb hby at_53)
    refine own_goW st10 ?_
    rw [show nar .char c2 = c2 from own_narc hr_c2] at W10
    have V10 := Arv.set Ar9 q9 Sz9 Nz9 Ha9 Ga9 (own_fitc hr_c2) W10 1 rfl (Nat.le_of_ble_eq_true rfl)
    have N10 := Fr.snoc X10 N8 g_b6
    have Sf_b6' := Safe.wr W10 Sf_b6 Rc.1 Sf_b6
    replace Rc := Rc.trans (CHr.wr W10 Sf_b6 Rc.1)
    replace hk := Nat.le_trans hk (Keep.of_wr W10).1
    replace Sf_b6 := Sf_b6'
    replace O := O.wr W10 g_b6
    replace Kp := Kp.wr W10 (Or.inr sz_b6)
    replace Ea_b6 := Ea_b6.wr W10
    replace V_b6 : Arv Z h10 b6 k6 .char (5 : Int32) [(.int c1), (.int c2), (.int (0 : Int32)), (.int (0 : Int32)), (.int (0 : Int32))] (.int (0 : Int32)) := V10
    show own_GoW p e below s _ _ _ _ (T10.setTop (mkF m 54 #[iv p1, iv p2, iv p3, iv p4, iv p5, iv p6, iv (0 : Int32), iv c1, iv c2, iv c3, iv c4, iv c5, .unset, .unset, .unset, .unset, .unset, .unset, .unset] [(.ref b6)]))
    refine own_goW (fun zt zk => (XS.dup X10.here hx rfl (hb hby at_54) rfl rfl (XS.iconst X10.here hx rfl (hb hby at_55) (XS.iload X10.here hx rfl (hb hby at_56) rfl zk)))) ?_
    show own_GoW p e below s _ _ _ _ (T10.setTop (mkF m 58 #[iv p1, iv p2, iv p3, iv p4, iv p5, iv p6, iv (0 : Int32), iv c1, iv c2, iv c3, iv c4, iv c5, .unset, .unset, .unset, .unset, .unset, .unset, .unset] [(.int c3), (.int (2 : Int32)), (.ref b6), (.ref b6)]))
    obtain ⟨cl11, Ar11, q11, Sz11, Nz11, Ha11, Ga11⟩ := id V_b6
    have hin11 : ¬ ((2 : Int32) < 0 ∨ cl11.slots.size ≤ ((2 : Int32)).toNatClampNeg) := inb_of Sz11 ⟨by decide, by decide⟩
    obtain ⟨T12, h12, X12, e12, W12, st12⟩ := stC X10 hx hZ e10 Ar11 (j := (2 : Int32)) hin11 (g := (mkF m 58 #[iv p1, iv p2, iv p3, iv p4, iv p5, iv p6, iv (0 : Int32), iv c1, iv c2, iv c3, iv c4, iv c5, .unset, .unset, .unset, .unset, .unset, .unset, .unset] [(.int c3), (.int (2 : Int32)), (.ref b6), (.ref b6)])) rfl rfl (hb hby at_58)
    refine own_goW st12 ?_
    rw [show nar .char c3 = c3 from own_narc hr_c3] at W12
    have V12 := Arv.set Ar11 q11 Sz11 Nz11 Ha11 Ga11 (own_fitc hr_c3) W12 2 rfl (Nat.le_of_ble_eq_true rfl)
    have N12 := Fr.snoc X12 N10 g_b6
    have Sf_b6' := Safe.wr W12 Sf_b6 Rc.1 Sf_b6
    replace Rc := Rc.trans (CHr.wr W12 Sf_b6 Rc.1)
    replace hk := Nat.le_trans hk (Keep.of_wr W12).1
    replace Sf_b6 := Sf_b6'
    replace O := O.wr W12 g_b6
    replace Kp := Kp.wr W12 (Or.inr sz_b6)
    replace Ea_b6 := Ea_b6.wr W12
    replace V_b6 : Arv Z h12 b6 k6 .char (5 : Int32) [(.int c1), (.int c2), (.int c3), (.int (0 : Int32)), (.int (0 : Int32))] (.int (0 : Int32)) := V12
    show own_GoW p e below s _ _ _ _ (T12.setTop (mkF m 59 #[iv p1, iv p2, iv p3, iv p4, iv p5, iv p6, iv (0 : Int32), iv c1, iv c2, iv c3, iv c4, iv c5, .unset, .unset, .unset, .unset, .unset, .unset, .unset] [(.ref b6)]))
    refine own_goW (fun zt zk => (XS.dup X12.here hx rfl (hb hby at_59) rfl rfl (XS.iconst X12.here hx rfl (hb hby at_60) (XS.iload X12.here hx rfl (hb hby at_61) rfl zk)))) ?_
    show own_GoW p e below s _ _ _ _ (T12.setTop (mkF m 63 #[iv p1, iv p2, iv p3, iv p4, iv p5, iv p6, iv (0 : Int32), iv c1, iv c2, iv c3, iv c4, iv c5, .unset, .unset, .unset, .unset, .unset, .unset, .unset] [(.int c4), (.int (3 : Int32)), (.ref b6), (.ref b6)]))
    obtain ⟨cl13, Ar13, q13, Sz13, Nz13, Ha13, Ga13⟩ := id V_b6
    have hin13 : ¬ ((3 : Int32) < 0 ∨ cl13.slots.size ≤ ((3 : Int32)).toNatClampNeg) := inb_of Sz13 ⟨by decide, by decide⟩
    obtain ⟨T14, h14, X14, e14, W14, st14⟩ := stC X12 hx hZ e12 Ar13 (j := (3 : Int32)) hin13 (g := (mkF m 63 #[iv p1, iv p2, iv p3, iv p4, iv p5, iv p6, iv (0 : Int32), iv c1, iv c2, iv c3, iv c4, iv c5, .unset, .unset, .unset, .unset, .unset, .unset, .unset] [(.int c4), (.int (3 : Int32)), (.ref b6), (.ref b6)])) rfl rfl (hb hby at_63)
    refine own_goW st14 ?_
    rw [show nar .char c4 = c4 from own_narc hr_c4] at W14
    have V14 := Arv.set Ar13 q13 Sz13 Nz13 Ha13 Ga13 (own_fitc hr_c4) W14 3 rfl (Nat.le_of_ble_eq_true rfl)
    have N14 := Fr.snoc X14 N12 g_b6
    have Sf_b6' := Safe.wr W14 Sf_b6 Rc.1 Sf_b6
    replace Rc := Rc.trans (CHr.wr W14 Sf_b6 Rc.1)
    replace hk := Nat.le_trans hk (Keep.of_wr W14).1
    replace Sf_b6 := Sf_b6'
    replace O := O.wr W14 g_b6
    replace Kp := Kp.wr W14 (Or.inr sz_b6)
    replace Ea_b6 := Ea_b6.wr W14
    replace V_b6 : Arv Z h14 b6 k6 .char (5 : Int32) [(.int c1), (.int c2), (.int c3), (.int c4), (.int (0 : Int32))] (.int (0 : Int32)) := V14
    show own_GoW p e below s _ _ _ _ (T14.setTop (mkF m 64 #[iv p1, iv p2, iv p3, iv p4, iv p5, iv p6, iv (0 : Int32), iv c1, iv c2, iv c3, iv c4, iv c5, .unset, .unset, .unset, .unset, .unset, .unset, .unset] [(.ref b6)]))
    refine own_goW (fun zt zk => (XS.dup X14.here hx rfl (hb hby at_64) rfl rfl (XS.iconst X14.here hx rfl (hb hby at_65) (XS.iload X14.here hx rfl (hb hby at_66) rfl zk)))) ?_
    show own_GoW p e below s _ _ _ _ (T14.setTop (mkF m 68 #[iv p1, iv p2, iv p3, iv p4, iv p5, iv p6, iv (0 : Int32), iv c1, iv c2, iv c3, iv c4, iv c5, .unset, .unset, .unset, .unset, .unset, .unset, .unset] [(.int c5), (.int (4 : Int32)), (.ref b6), (.ref b6)]))
    obtain ⟨cl15, Ar15, q15, Sz15, Nz15, Ha15, Ga15⟩ := id V_b6
    have hin15 : ¬ ((4 : Int32) < 0 ∨ cl15.slots.size ≤ ((4 : Int32)).toNatClampNeg) := inb_of Sz15 ⟨by decide, by decide⟩
    obtain ⟨T16, h16, X16, e16, W16, st16⟩ := stC X14 hx hZ e14 Ar15 (j := (4 : Int32)) hin15 (g := (mkF m 68 #[iv p1, iv p2, iv p3, iv p4, iv p5, iv p6, iv (0 : Int32), iv c1, iv c2, iv c3, iv c4, iv c5, .unset, .unset, .unset, .unset, .unset, .unset, .unset] [(.int c5), (.int (4 : Int32)), (.ref b6), (.ref b6)])) rfl rfl (hb hby at_68)
    refine own_goW st16 ?_
    rw [show nar .char c5 = c5 from own_narc hr_c5] at W16
    have V16 := Arv.set Ar15 q15 Sz15 Nz15 Ha15 Ga15 (own_fitc hr_c5) W16 4 rfl (Nat.le_of_ble_eq_true rfl)
    have N16 := Fr.snoc X16 N14 g_b6
    have Sf_b6' := Safe.wr W16 Sf_b6 Rc.1 Sf_b6
    replace Rc := Rc.trans (CHr.wr W16 Sf_b6 Rc.1)
    replace hk := Nat.le_trans hk (Keep.of_wr W16).1
    replace Sf_b6 := Sf_b6'
    replace O := O.wr W16 g_b6
    replace Kp := Kp.wr W16 (Or.inr sz_b6)
    replace Ea_b6 := Ea_b6.wr W16
    replace V_b6 : Arv Z h16 b6 k6 .char (5 : Int32) [(.int c1), (.int c2), (.int c3), (.int c4), (.int c5)] (.int (0 : Int32)) := V16
    show own_GoW p e below s _ _ _ _ (T16.setTop (mkF m 69 #[iv p1, iv p2, iv p3, iv p4, iv p5, iv p6, iv (0 : Int32), iv c1, iv c2, iv c3, iv c4, iv c5, .unset, .unset, .unset, .unset, .unset, .unset, .unset] [(.ref b6)]))
    refine own_goW (fun zt zk => (XS.astore X16.here hx rfl (hb hby at_69) rfl rfl (l' := #[iv p1, iv p2, iv p3, iv p4, iv p5, iv p6, iv (0 : Int32), iv c1, iv c2, iv c3, iv c4, iv c5, rv b6, .unset, .unset, .unset, .unset, .unset, .unset]) rfl (XS.iload X16.here hx rfl (hb hby at_71) rfl (XS.iload X16.here hx rfl (hb hby at_73) rfl (XS.iload X16.here hx rfl (hb hby at_75) rfl (XS.iload X16.here hx rfl (hb hby at_77) rfl (XS.iload X16.here hx rfl (hb hby at_79) rfl (XS.iload X16.here hx rfl (hb hby at_81) rfl zk)))))))) ?_
    show own_GoW p e below s _ _ _ _ (T16.setTop (mkF m 83 #[iv p1, iv p2, iv p3, iv p4, iv p5, iv p6, iv (0 : Int32), iv c1, iv c2, iv c3, iv c4, iv c5, rv b6, .unset, .unset, .unset, .unset, .unset, .unset] [(.int c5), (.int c4), (.int c3), (.int c2), (.int c1), (.int (0 : Int32))]))
    obtain ⟨_, _, ⟨T17, L17, k17, n17⟩, -, X17, hSq17, hgq17, ⟨Lc17, hQ17, l17, y17, z17, A17⟩, st17⟩ := callSS X16 hx (y := (⟨"com/example/boxwright/boxwright/TableNamesLocalNamePinLaw", "make", "(ICCCCC)Ljava/lang/String;"⟩ : MethodName)) hown (mvT hZ (hw _ (List.mem_of_getElem? (i := 5) rfl))) (mvT hZ (hw _ (List.mem_of_getElem? (i := 6) rfl))) (mvT hZ (hw _ (List.mem_of_getElem? (i := 2) rfl))) (mvT hZ (hw _ (List.mem_of_getElem? (i := 7) rfl))) (by decide) (own_backW (s := s) (W := 0) (own_rmake0 l Z a0 hw [] c1 c2 c3 c4 c5  s.vm h16 n0 (Nat.le_trans Z0 Kp.1) hr_c1 hr_c2 hr_c3 hr_c4 hr_c5) hZ (hw _ (List.mem_of_getElem? (i := 7) rfl)) (hw _ (List.mem_of_getElem? (i := 2) rfl)) (by decide) (by decide) hEL Rc.1) (g := (mkF m 83 #[iv p1, iv p2, iv p3, iv p4, iv p5, iv p6, iv (0 : Int32), iv c1, iv c2, iv c3, iv c4, iv c5, rv b6, .unset, .unset, .unset, .unset, .unset, .unset] [(.int c5), (.int c4), (.int c3), (.int c2), (.int c1), (.int (0 : Int32))])) rfl (by rw [hml]; rfl) (argsL := [(.int (0 : Int32)), (.int c1), (.int c2), (.int c3), (.int c4), (.int c5)]) (rest := []) (lenOf own_pd__ICCCCC_Ljava_lang_String_ rfl) rfl (by show 2 * 0 + _ ≤ _; exact Nat.le_of_eq rfl) (hb hby at_83) (fun _ _ => ⟨rfl, e16, (by decide : 1 + 6 ≤ _), (by decide : 5 + 12 ≤ _)⟩)
    dsimp only [Pt.U, Pt.locs, Pt.cells, Pt.slots] at X17 l17 y17 z17 st17 hQ17 hSq17 hgq17 A17
    subst l17 y17 z17
    obtain ⟨X17, hS17, hZ17, hown17⟩ := rebS hS (by rw [e16]; exact hk) X17 hSq17 hgq17 hZ hown
    replace Sf_b6 := CHr.safe A17 V_b6.lt Sf_b6
    replace Rc := Rc.trans A17
    replace hS := hS17
    replace hZ := hZ17
    replace hown := hown17
    have hk : T17.heap.size ≤ T17.heap.size := Nat.le_refl _
    obtain ⟨b17, t17, kb17, rfl, Nq17, K17, sb17, Ex_b17, Fv17, Fc17, Vt17⟩ := hQ17
    have N17 := Fr.app N16 Nq17
    refine own_goW (fun zt zk => st17.trans zk) ?_
    replace O := O.keep K17 all0
    replace Kp := Kp.trans K17 all0
    replace V_b6 := V_b6.keep K17 nin0
    replace Ea_b6 := Ea_b6.keep K17
    show own_GoW p e below s _ _ _ _ (T17.setTop (mkF m 86 #[iv p1, iv p2, iv p3, iv p4, iv p5, iv p6, iv (0 : Int32), iv c1, iv c2, iv c3, iv c4, iv c5, rv b6, .unset, .unset, .unset, .unset, .unset, .unset] [(.ref b17)]))
    obtain ⟨s', hs', hsl⟩ := own_cut1 ([] : List Int32) 0 (by decide)
    have hcr : ∀ c ∈ ([] : List Int32), ¬ (c < (0 : Int32)) ∧ ¬ ((255 : Int32) < c) := own_an
    refine own_goW (fun zt zk => (XS.astore X17.here hx rfl (hb hby at_86) rfl rfl (l' := #[iv p1, iv p2, iv p3, iv p4, iv p5, iv p6, iv (0 : Int32), iv c1, iv c2, iv c3, iv c4, iv c5, rv b6, rv b17, .unset, .unset, .unset, .unset, .unset]) rfl (XS.aload X17.here hx rfl (hb hby at_88) rfl rfl zk))) ?_
    show own_GoW p e below s _ _ _ _ (T17.setTop (mkF m 90 #[iv p1, iv p2, iv p3, iv p4, iv p5, iv p6, iv (0 : Int32), iv c1, iv c2, iv c3, iv c4, iv c5, rv b6, rv b17, .unset, .unset, .unset, .unset, .unset] [(.ref b17)]))
    obtain ⟨_, _, ⟨T18, L18, k18, n18⟩, -, X18, hSq18, hgq18, ⟨Lc18, hQ18, l18, y18, z18, A18⟩, st18⟩ := callSS X17 hx (y := (⟨"com/example/boxwright/boxwright/TableNames", "localName", "(Ljava/lang/String;)Ljava/lang/String;"⟩ : MethodName)) hown (mvT hZ (hw _ (List.mem_of_getElem? (i := 29) rfl))) (mvT hZ (hw _ (List.mem_of_getElem? (i := 30) rfl))) (mvT hZ (hw _ (List.mem_of_getElem? (i := 31) rfl))) (mvT hZ (hw _ (List.mem_of_getElem? (i := 32) rfl))) (by decide) (own_backW (s := s) (W := 0) (own_rln l Z a0 hw [] b17 o_COMPACT_STRINGS o_SIOOBE_FORMATTER t17 kb17 ([] : List Int32) s' T17.vm T17.heap n0 (Nat.le_trans Z0 Kp.1) O S_o_COMPACT_STRINGS S_o_SIOOBE_FORMATTER Ex_b17 Fv17 Fc17 Vt17 nz_o_COMPACT_STRINGS r_o_SIOOBE_FORMATTER (Nat.le_of_ble_eq_true rfl) hsl hs') hZ (hw _ (List.mem_of_getElem? (i := 32) rfl)) (hw _ (List.mem_of_getElem? (i := 31) rfl)) (by decide) (by decide) hEL Rc.1) (g := (mkF m 90 #[iv p1, iv p2, iv p3, iv p4, iv p5, iv p6, iv (0 : Int32), iv c1, iv c2, iv c3, iv c4, iv c5, rv b6, rv b17, .unset, .unset, .unset, .unset, .unset] [(.ref b17)])) rfl (by rw [hml]; rfl) (argsL := [(.ref b17)]) (rest := []) (lenOf own_pd__Ljava_lang_String__Ljava_lang_String_ rfl) rfl (by show 2 * 0 + _ ≤ _; exact Nat.le_of_eq rfl) (hb hby at_90) (fun _ _ => ⟨rfl, rfl, (by decide : 7 + 2 ≤ _), (by decide : 17 + 9 ≤ _)⟩)
    dsimp only [Pt.U, Pt.locs, Pt.cells, Pt.slots] at X18 l18 y18 z18 st18 hQ18 hSq18 hgq18 A18
    subst l18 y18 z18
    obtain ⟨X18, hS18, hZ18, hown18⟩ := rebS hS (hk) X18 hSq18 hgq18 hZ hown
    replace Sf_b6 := CHr.safe A18 V_b6.lt Sf_b6
    replace Rc := Rc.trans A18
    replace hS := hS18
    replace hZ := hZ18
    replace hown := hown18
    have hk : T18.heap.size ≤ T18.heap.size := Nat.le_refl _
    obtain ⟨b18, t18, kb18, rfl, Nq18, K18, Ex_b18, Fv18, Fc18, Vt18⟩ := hQ18
    have N18 := Fr.app N17 Nq18
    refine own_goW (fun zt zk => st18.trans zk) ?_
    replace O := O.keep K18 all0
    replace Kp := Kp.trans K18 all0
    replace V_b6 := V_b6.keep K18 nin0
    replace Ea_b6 := Ea_b6.keep K18
    replace Ex_b17 := Ex_b17.keep K18
    replace Fv17 := Fv17.keep K18 nin0
    replace Fc17 := Fc17.keep K18 nin0
    replace Vt17 := Vt17.keep K18 nin0
    show own_GoW p e below s _ _ _ _ (T18.setTop (mkF m 93 #[iv p1, iv p2, iv p3, iv p4, iv p5, iv p6, iv (0 : Int32), iv c1, iv c2, iv c3, iv c4, iv c5, rv b6, rv b17, .unset, .unset, .unset, .unset, .unset] [(.ref b18)]))
    have el35 : own_la ([] : List Int32) 35 0 = own_la [c1, c2, c3, c4, c5] 35 0 := own_la_map hcr (by decide) (by decide) 0 (Nat.le_of_ble_eq_true rfl)
    have el47 : own_la ([] : List Int32) 47 0 = own_la [c1, c2, c3, c4, c5] 47 0 := own_la_map hcr (by decide) (by decide) 0 (Nat.le_of_ble_eq_true rfl)
    refine own_goW (fun zt zk => (XS.astore X18.here hx rfl (hb hby at_93) rfl rfl (l' := #[iv p1, iv p2, iv p3, iv p4, iv p5, iv p6, iv (0 : Int32), iv c1, iv c2, iv c3, iv c4, iv c5, rv b6, rv b17, rv b18, .unset, .unset, .unset, .unset]) rfl (XS.aload X18.here hx rfl (hb hby at_95) rfl rfl (XS.iload X18.here hx rfl (hb hby at_97) rfl (XS.bipush X18.here hx rfl (hb hby at_99) zk))))) ?_
    show own_GoW p e below s _ _ _ _ (T18.setTop (mkF m 101 #[iv p1, iv p2, iv p3, iv p4, iv p5, iv p6, iv (0 : Int32), iv c1, iv c2, iv c3, iv c4, iv c5, rv b6, rv b17, rv b18, .unset, .unset, .unset, .unset] [(.int (35 : Int32)), (.int (0 : Int32)), (.ref b6)]))
    obtain ⟨_, _, ⟨T19, L19, k19, n19⟩, -, X19, ⟨Lc19, hQ19, l19, y19, z19⟩, st19⟩ := Jvm.LawKit.callS X18 hx (y := (⟨"com/example/boxwright/boxwright/TableNamesLocalNamePinLaw", "last", "([CIC)I"⟩ : MethodName)) hown (mvT hZ (hw _ (List.mem_of_getElem? (i := 88) rfl))) (mvT hZ (hw _ (List.mem_of_getElem? (i := 89) rfl))) (mvT hZ (hw _ (List.mem_of_getElem? (i := 2) rfl))) (mvT hZ (hw _ (List.mem_of_getElem? (i := 90) rfl))) (by decide) (backOf (W := 0) (own_rlast0 l Z a0 hw [] b6 (35 : Int32) k6 c1 c2 c3 c4 c5 T18.heap n0 (Nat.le_trans Z0 Kp.1) V_b6) hZ (hw _ (List.mem_of_getElem? (i := 90) rfl)) (hw _ (List.mem_of_getElem? (i := 2) rfl)) (by decide) (by decide)) (g := (mkF m 101 #[iv p1, iv p2, iv p3, iv p4, iv p5, iv p6, iv (0 : Int32), iv c1, iv c2, iv c3, iv c4, iv c5, rv b6, rv b17, rv b18, .unset, .unset, .unset, .unset] [(.int (35 : Int32)), (.int (0 : Int32)), (.ref b6)])) rfl (by rw [hml]; rfl) (argsL := [(.ref b6), (.int (0 : Int32)), (.int (35 : Int32))]) (rest := []) (lenOf own_pd___CIC_I rfl) rfl (by show 2 * 0 + _ ≤ _; exact Nat.le_of_eq rfl) (hb hby at_101) (fun _ _ => ⟨rfl, rfl, (by decide : 9 + 0 ≤ _), (by decide : 26 + 0 ≤ _)⟩)
    dsimp only [Pt.U, Pt.locs, Pt.cells, Pt.slots] at X19 l19 y19 z19 st19 hQ19
    subst l19 y19 z19
    obtain ⟨rfl, Nq19, e19⟩ := hQ19
    have N19 := Fr.app N18 Nq19
    refine own_goW st19 ?_
    show own_GoW p e below s _ _ _ _ (T19.setTop (mkF m 104 #[iv p1, iv p2, iv p3, iv p4, iv p5, iv p6, iv (0 : Int32), iv c1, iv c2, iv c3, iv c4, iv c5, rv b6, rv b17, rv b18, .unset, .unset, .unset, .unset] [(.int (own_la [c1, c2, c3, c4, c5] (35 : Int32) 0))]))
    refine own_goW (fun zt zk => (XS.istore X19.here hx rfl (hb hby at_104) rfl (l' := #[iv p1, iv p2, iv p3, iv p4, iv p5, iv p6, iv (0 : Int32), iv c1, iv c2, iv c3, iv c4, iv c5, rv b6, rv b17, rv b18, iv (own_la [c1, c2, c3, c4, c5] (35 : Int32) 0), .unset, .unset, .unset]) rfl (XS.iload X19.here hx rfl (hb hby at_106) rfl zk))) ?_
    show own_GoW p e below s _ _ _ _ (T19.setTop (mkF m 108 #[iv p1, iv p2, iv p3, iv p4, iv p5, iv p6, iv (0 : Int32), iv c1, iv c2, iv c3, iv c4, iv c5, rv b6, rv b17, rv b18, iv (own_la [c1, c2, c3, c4, c5] (35 : Int32) 0), .unset, .unset, .unset] [(.int (own_la [c1, c2, c3, c4, c5] (35 : Int32) 0))]))
    refine own_use X19 (h := T18.heap) (n0 := n0) (P := fun cut => cut = own_cut ([] : List Int32) 0) (K := fun T cut => own_GoW p e below s Z (own_Q_own_law Z p1 p2 p3 p4 p5 p6 o_COMPACT_STRINGS o_SIOOBE_FORMATTER h0 n0) room_1.cells room_1.slots (T.setTop (mkF m 125 #[iv p1, iv p2, iv p3, iv p4, iv p5, iv p6, iv (0 : Int32), iv c1, iv c2, iv c3, iv c4, iv c5, rv b6, rv b17, rv b18, iv (own_la [c1, c2, c3, c4, c5] (35 : Int32) 0), .unset, .unset, .unset] [(.int cut)]))) ?_ ?_
    · intro TJ LJ cut XJ eJ NJ hcut
      subst hcut
      show own_GoW p e below s _ _ _ _ (TJ.setTop (mkF m 125 #[iv p1, iv p2, iv p3, iv p4, iv p5, iv p6, iv (0 : Int32), iv c1, iv c2, iv c3, iv c4, iv c5, rv b6, rv b17, rv b18, iv (own_la [c1, c2, c3, c4, c5] (35 : Int32) 0), .unset, .unset, .unset] [(.int (own_cut ([] : List Int32) 0))]))
      refine own_goW (fun zt zk => (XS.istore XJ.here hx rfl (hb hby at_125) rfl (l' := #[iv p1, iv p2, iv p3, iv p4, iv p5, iv p6, iv (0 : Int32), iv c1, iv c2, iv c3, iv c4, iv c5, rv b6, rv b17, rv b18, iv (own_la [c1, c2, c3, c4, c5] (35 : Int32) 0), iv (own_cut ([] : List Int32) 0), .unset, .unset]) rfl (XS.iload XJ.here hx rfl (hb hby at_127) rfl (XS.iconst XJ.here hx rfl (hb hby at_129) (XS.iadd XJ.here hx rfl (hb hby at_130) rfl zk))))) ?_
      show own_GoW p e below s _ _ _ _ (TJ.setTop (mkF m 131 #[iv p1, iv p2, iv p3, iv p4, iv p5, iv p6, iv (0 : Int32), iv c1, iv c2, iv c3, iv c4, iv c5, rv b6, rv b17, rv b18, iv (own_la [c1, c2, c3, c4, c5] (35 : Int32) 0), iv (own_cut ([] : List Int32) 0), .unset, .unset] [(.int ((own_cut ([] : List Int32) 0) + (1 : Int32)))]))
      rw [hs']
      show own_GoW p e below s _ _ _ _ (TJ.setTop (mkF m 131 #[iv p1, iv p2, iv p3, iv p4, iv p5, iv p6, iv (0 : Int32), iv c1, iv c2, iv c3, iv c4, iv c5, rv b6, rv b17, rv b18, iv (own_la [c1, c2, c3, c4, c5] (35 : Int32) 0), iv (own_cut ([] : List Int32) 0), .unset, .unset] [(.int (Int32.ofNat s'))]))
      refine own_goW (fun zt zk => (XS.istore XJ.here hx rfl (hb hby at_131) rfl (l' := #[iv p1, iv p2, iv p3, iv p4, iv p5, iv p6, iv (0 : Int32), iv c1, iv c2, iv c3, iv c4, iv c5, rv b6, rv b17, rv b18, iv (own_la [c1, c2, c3, c4, c5] (35 : Int32) 0), iv (own_cut ([] : List Int32) 0), iv (Int32.ofNat s'), .unset]) rfl (XS.iload XJ.here hx rfl (hb hby at_133) rfl (XS.iload XJ.here hx rfl (hb hby at_135) rfl (XS.isub XJ.here hx rfl (hb hby at_137) rfl zk))))) ?_
      show own_GoW p e below s _ _ _ _ (TJ.setTop (mkF m 138 #[iv p1, iv p2, iv p3, iv p4, iv p5, iv p6, iv (0 : Int32), iv c1, iv c2, iv c3, iv c4, iv c5, rv b6, rv b17, rv b18, iv (own_la [c1, c2, c3, c4, c5] (35 : Int32) 0), iv (own_cut ([] : List Int32) 0), iv (Int32.ofNat s'), .unset] [(.int ((0 : Int32) - (Int32.ofNat s')))]))
      rw [show (0 : Int32) - Int32.ofNat s' = Int32.ofNat (0 - s') from own_subN (n := 0) hsl (by omega)]
      show own_GoW p e below s _ _ _ _ (TJ.setTop (mkF m 138 #[iv p1, iv p2, iv p3, iv p4, iv p5, iv p6, iv (0 : Int32), iv c1, iv c2, iv c3, iv c4, iv c5, rv b6, rv b17, rv b18, iv (own_la [c1, c2, c3, c4, c5] (35 : Int32) 0), iv (own_cut ([] : List Int32) 0), iv (Int32.ofNat s'), .unset] [(.int (Int32.ofNat (0 - s')))]))
      refine own_goW (fun zt zk => (XS.istore XJ.here hx rfl (hb hby at_138) rfl (l' := #[iv p1, iv p2, iv p3, iv p4, iv p5, iv p6, iv (0 : Int32), iv c1, iv c2, iv c3, iv c4, iv c5, rv b6, rv b17, rv b18, iv (own_la [c1, c2, c3, c4, c5] (35 : Int32) 0), iv (own_cut ([] : List Int32) 0), iv (Int32.ofNat s'), iv (Int32.ofNat (0 - s'))]) rfl (XS.aload XJ.here hx rfl (hb hby at_140) rfl rfl zk))) ?_
      show own_GoW p e below s _ _ _ _ (TJ.setTop (mkF m 142 #[iv p1, iv p2, iv p3, iv p4, iv p5, iv p6, iv (0 : Int32), iv c1, iv c2, iv c3, iv c4, iv c5, rv b6, rv b17, rv b18, iv (own_la [c1, c2, c3, c4, c5] (35 : Int32) 0), iv (own_cut ([] : List Int32) 0), iv (Int32.ofNat s'), iv (Int32.ofNat (0 - s'))] [(.ref b18)]))
      obtain ⟨cq20, kq20, qa20, qb20, qc20⟩ := isOf hZ eJ Ex_b18
      obtain ⟨_, _, ⟨T20, L20, k20, n20⟩, -, X20, ⟨Lc20, hQ20, l20, y20, z20⟩, st20⟩ := XJ.virtualBack hx (y := (⟨"java/lang/String", "length", "()I"⟩ : MethodName)) (z := (⟨"java/lang/String", "length", "()I"⟩ : MethodName)) hown (mvT hZ (hw _ (List.mem_of_getElem? (i := 91) rfl))) (mvT hZ (hw _ (List.mem_of_getElem? (i := 39) rfl))) (notFace_of_selects (args := #[]) (mvT hZ (hw _ (List.mem_of_getElem? (i := 41) rfl)))) (mvT hZ (hw _ (List.mem_of_getElem? (i := 41) rfl))) (mvT hZ (hw _ (List.mem_of_getElem? (i := 40) rfl))) (by decide) (backOf (W := 0) (own_rlen l Z a0 hw [] b18 o_COMPACT_STRINGS t18 kb18 (Int32.ofNat (([] : List Int32).length - s')) ((([] : List Int32).drop s').map Value.int) T18.heap n0 (Nat.le_trans Z0 Kp.1) O S_o_COMPACT_STRINGS Ex_b18 Fv18 Fc18 Vt18 nz_o_COMPACT_STRINGS) hZ (hw _ (List.mem_of_getElem? (i := 42) rfl)) (hw _ (List.mem_of_getElem? (i := 10) rfl)) (by decide) (by decide)) qa20 qc20 (g := (mkF m 142 #[iv p1, iv p2, iv p3, iv p4, iv p5, iv p6, iv (0 : Int32), iv c1, iv c2, iv c3, iv c4, iv c5, rv b6, rv b17, rv b18, iv (own_la [c1, c2, c3, c4, c5] (35 : Int32) 0), iv (own_cut ([] : List Int32) 0), iv (Int32.ofNat s'), iv (Int32.ofNat (0 - s'))] [(.ref b18)])) rfl (by rw [hml]; rfl) (Steps.refl _) (argsL := []) (rest := []) (lenOf own_pd___I rfl) rfl (by show 2 * 0 + _ ≤ _; exact Nat.le_of_eq rfl) (hb hby at_142) (fun _ _ => ⟨rfl, eJ, (by decide : 9 + 0 ≤ _), (by decide : 26 + 0 ≤ _)⟩)
      dsimp only [Pt.U, Pt.locs, Pt.cells, Pt.slots] at X20 l20 y20 z20 st20 hQ20
      subst l20 y20 z20
      obtain ⟨rfl, Nq20, e20⟩ := hQ20
      have N20 := Fr.app NJ Nq20
      refine own_goW (fun zt zk => st20.trans zk) ?_
      show own_GoW p e below s _ _ _ _ (T20.setTop (mkF m 145 #[iv p1, iv p2, iv p3, iv p4, iv p5, iv p6, iv (0 : Int32), iv c1, iv c2, iv c3, iv c4, iv c5, rv b6, rv b17, rv b18, iv (own_la [c1, c2, c3, c4, c5] (35 : Int32) 0), iv (own_cut ([] : List Int32) 0), iv (Int32.ofNat s'), iv (Int32.ofNat (0 - s'))] [(.int (Int32.ofNat (0 - s')))]))
      refine own_goW (fun zt zk => (XS.iload X20.here hx rfl (hb hby at_145) rfl (XS.icmpYes X20.here hx rfl (pc0 := 147) (pc' := 152) rfl (hb hby at_147) rfl (teq (rfl : (Int32.ofNat (0 - s')) = (Int32.ofNat (0 - s')))).1 (by decide) (by decide) (XS.aload X20.here hx rfl (hb hby at_152) rfl rfl (XS.aload X20.here hx rfl (hb hby at_154) rfl rfl (XS.iload X20.here hx rfl (hb hby at_156) rfl (XS.iload X20.here hx rfl (hb hby at_158) rfl (XS.iconst X20.here hx rfl (hb hby at_160) zk)))))))) ?_
      show own_GoW p e below s _ _ _ _ (T20.setTop (mkF m 161 #[iv p1, iv p2, iv p3, iv p4, iv p5, iv p6, iv (0 : Int32), iv c1, iv c2, iv c3, iv c4, iv c5, rv b6, rv b17, rv b18, iv (own_la [c1, c2, c3, c4, c5] (35 : Int32) 0), iv (own_cut ([] : List Int32) 0), iv (Int32.ofNat s'), iv (Int32.ofNat (0 - s'))] [(.int (0 : Int32)), (.int (Int32.ofNat (0 - s'))), (.int (Int32.ofNat s')), (.ref b6), (.ref b18)]))
      have hyl : (([] : List Int32).drop s').length = 0 - s' := by rw [List.length_drop]; rfl
      have hrel : ∀ j, j < 0 - s' → ((([] : List Int32).drop s').getD j 0 &&& (255 : Int32)) = [c1, c2, c3, c4, c5].getD (s' + j) 0 := fun j hj => own_rel [] [c1, c2, c3, c4, c5] hcr (Nat.le_of_ble_eq_true rfl) rfl j (by rw [← hyl] at hj; exact hj)
      obtain ⟨_, _, ⟨T21, L21, k21, n21⟩, -, X21, ⟨Lc21, hQ21, l21, y21, z21⟩, st21⟩ := Jvm.LawKit.callS X20 hx (y := (⟨"com/example/boxwright/boxwright/TableNamesLocalNamePinLaw", "at", "(Ljava/lang/String;[CIII)Z"⟩ : MethodName)) hown (mvT hZ (hw _ (List.mem_of_getElem? (i := 92) rfl))) (mvT hZ (hw _ (List.mem_of_getElem? (i := 93) rfl))) (mvT hZ (hw _ (List.mem_of_getElem? (i := 2) rfl))) (mvT hZ (hw _ (List.mem_of_getElem? (i := 94) rfl))) (by decide) (backOf (W := 0) (own_rat0 l Z a0 hw [] b18 b6 o_COMPACT_STRINGS o_SIOOBE_FORMATTER t18 kb18 (([] : List Int32).drop s') (0 - s') s' k6 c1 c2 c3 c4 c5 T18.heap n0 (Nat.le_trans Z0 Kp.1) O S_o_COMPACT_STRINGS S_o_SIOOBE_FORMATTER Ex_b18 Fv18 Fc18 Vt18 V_b6 nz_o_COMPACT_STRINGS r_o_SIOOBE_FORMATTER (by omega) hrel) hZ (hw _ (List.mem_of_getElem? (i := 94) rfl)) (hw _ (List.mem_of_getElem? (i := 2) rfl)) (by decide) (by decide)) (g := (mkF m 161 #[iv p1, iv p2, iv p3, iv p4, iv p5, iv p6, iv (0 : Int32), iv c1, iv c2, iv c3, iv c4, iv c5, rv b6, rv b17, rv b18, iv (own_la [c1, c2, c3, c4, c5] (35 : Int32) 0), iv (own_cut ([] : List Int32) 0), iv (Int32.ofNat s'), iv (Int32.ofNat (0 - s'))] [(.int (0 : Int32)), (.int (Int32.ofNat (0 - s'))), (.int (Int32.ofNat s')), (.ref b6), (.ref b18)])) rfl (by rw [hml]; rfl) (argsL := [(.ref b18), (.ref b6), (.int (Int32.ofNat s')), (.int (Int32.ofNat (0 - s'))), (.int (0 : Int32))]) (rest := []) (lenOf own_pd__Ljava_lang_String__CIII_Z rfl) rfl (by show 2 * 0 + _ ≤ _; exact Nat.le_of_eq rfl) (hb hby at_161) (fun _ _ => ⟨rfl, e20, (by decide : 9 + 0 ≤ _), (by decide : 26 + 0 ≤ _)⟩)
      dsimp only [Pt.U, Pt.locs, Pt.cells, Pt.slots] at X21 l21 y21 z21 st21 hQ21
      subst l21 y21 z21
      obtain ⟨rfl, Nq21, e21⟩ := hQ21
      have N21 := Fr.app N20 Nq21
      refine own_goW st21 ?_
      show own_GoW p e below s _ _ _ _ (T21.setTop (mkF m 164 #[iv p1, iv p2, iv p3, iv p4, iv p5, iv p6, iv (0 : Int32), iv c1, iv c2, iv c3, iv c4, iv c5, rv b6, rv b17, rv b18, iv (own_la [c1, c2, c3, c4, c5] (35 : Int32) 0), iv (own_cut ([] : List Int32) 0), iv (Int32.ofNat s'), iv (Int32.ofNat (0 - s'))] [(.int (1 : Int32))]))
      refine own_goW (fun zt zk => (XS.ifNo X21.here hx rfl (hb hby at_164) rfl ((if0 _ _).trans (feq ((by decide) : ¬ ((1 : Int32) = (0 : Int32)))).1) (XS.aload X21.here hx rfl (hb hby at_167) rfl rfl (XS.aload X21.here hx rfl (hb hby at_169) rfl rfl (XS.iload X21.here hx rfl (hb hby at_171) rfl (XS.iload X21.here hx rfl (hb hby at_173) rfl (XS.iconst X21.here hx rfl (hb hby at_175) zk))))))) ?_
      show own_GoW p e below s _ _ _ _ (T21.setTop (mkF m 176 #[iv p1, iv p2, iv p3, iv p4, iv p5, iv p6, iv (0 : Int32), iv c1, iv c2, iv c3, iv c4, iv c5, rv b6, rv b17, rv b18, iv (own_la [c1, c2, c3, c4, c5] (35 : Int32) 0), iv (own_cut ([] : List Int32) 0), iv (Int32.ofNat s'), iv (Int32.ofNat (0 - s'))] [(.int (1 : Int32)), (.int (Int32.ofNat (0 - s'))), (.int (Int32.ofNat s')), (.ref b6), (.ref b18)]))
      obtain ⟨_, _, ⟨T22, L22, k22, n22⟩, -, X22, ⟨Lc22, hQ22, l22, y22, z22⟩, st22⟩ := Jvm.LawKit.callS X21 hx (y := (⟨"com/example/boxwright/boxwright/TableNamesLocalNamePinLaw", "at", "(Ljava/lang/String;[CIII)Z"⟩ : MethodName)) hown (mvT hZ (hw _ (List.mem_of_getElem? (i := 92) rfl))) (mvT hZ (hw _ (List.mem_of_getElem? (i := 93) rfl))) (mvT hZ (hw _ (List.mem_of_getElem? (i := 2) rfl))) (mvT hZ (hw _ (List.mem_of_getElem? (i := 94) rfl))) (by decide) (backOf (W := 0) (own_rat1 l Z a0 hw [] b18 b6 o_COMPACT_STRINGS o_SIOOBE_FORMATTER t18 kb18 (([] : List Int32).drop s') (0 - s') s' k6 c1 c2 c3 c4 c5 T18.heap n0 (Nat.le_trans Z0 Kp.1) O S_o_COMPACT_STRINGS S_o_SIOOBE_FORMATTER Ex_b18 Fv18 Fc18 Vt18 V_b6 nz_o_COMPACT_STRINGS r_o_SIOOBE_FORMATTER (by omega) hrel) hZ (hw _ (List.mem_of_getElem? (i := 94) rfl)) (hw _ (List.mem_of_getElem? (i := 2) rfl)) (by decide) (by decide)) (g := (mkF m 176 #[iv p1, iv p2, iv p3, iv p4, iv p5, iv p6, iv (0 : Int32), iv c1, iv c2, iv c3, iv c4, iv c5, rv b6, rv b17, rv b18, iv (own_la [c1, c2, c3, c4, c5] (35 : Int32) 0), iv (own_cut ([] : List Int32) 0), iv (Int32.ofNat s'), iv (Int32.ofNat (0 - s'))] [(.int (1 : Int32)), (.int (Int32.ofNat (0 - s'))), (.int (Int32.ofNat s')), (.ref b6), (.ref b18)])) rfl (by rw [hml]; rfl) (argsL := [(.ref b18), (.ref b6), (.int (Int32.ofNat s')), (.int (Int32.ofNat (0 - s'))), (.int (1 : Int32))]) (rest := []) (lenOf own_pd__Ljava_lang_String__CIII_Z rfl) rfl (by show 2 * 0 + _ ≤ _; exact Nat.le_of_eq rfl) (hb hby at_176) (fun _ _ => ⟨rfl, e21, (by decide : 9 + 0 ≤ _), (by decide : 26 + 0 ≤ _)⟩)
      dsimp only [Pt.U, Pt.locs, Pt.cells, Pt.slots] at X22 l22 y22 z22 st22 hQ22
      subst l22 y22 z22
      obtain ⟨rfl, Nq22, e22⟩ := hQ22
      have N22 := Fr.app N21 Nq22
      refine own_goW st22 ?_
      show own_GoW p e below s _ _ _ _ (T22.setTop (mkF m 179 #[iv p1, iv p2, iv p3, iv p4, iv p5, iv p6, iv (0 : Int32), iv c1, iv c2, iv c3, iv c4, iv c5, rv b6, rv b17, rv b18, iv (own_la [c1, c2, c3, c4, c5] (35 : Int32) 0), iv (own_cut ([] : List Int32) 0), iv (Int32.ofNat s'), iv (Int32.ofNat (0 - s'))] [(.int (1 : Int32))]))
      refine own_goW (fun zt zk => (XS.ifNo X22.here hx rfl (hb hby at_179) rfl ((if0 _ _).trans (feq ((by decide) : ¬ ((1 : Int32) = (0 : Int32)))).1) (XS.aload X22.here hx rfl (hb hby at_182) rfl rfl (XS.aload X22.here hx rfl (hb hby at_184) rfl rfl (XS.iload X22.here hx rfl (hb hby at_186) rfl (XS.iload X22.here hx rfl (hb hby at_188) rfl (XS.iconst X22.here hx rfl (hb hby at_190) zk))))))) ?_
      show own_GoW p e below s _ _ _ _ (T22.setTop (mkF m 191 #[iv p1, iv p2, iv p3, iv p4, iv p5, iv p6, iv (0 : Int32), iv c1, iv c2, iv c3, iv c4, iv c5, rv b6, rv b17, rv b18, iv (own_la [c1, c2, c3, c4, c5] (35 : Int32) 0), iv (own_cut ([] : List Int32) 0), iv (Int32.ofNat s'), iv (Int32.ofNat (0 - s'))] [(.int (2 : Int32)), (.int (Int32.ofNat (0 - s'))), (.int (Int32.ofNat s')), (.ref b6), (.ref b18)]))
      obtain ⟨_, _, ⟨T23, L23, k23, n23⟩, -, X23, ⟨Lc23, hQ23, l23, y23, z23⟩, st23⟩ := Jvm.LawKit.callS X22 hx (y := (⟨"com/example/boxwright/boxwright/TableNamesLocalNamePinLaw", "at", "(Ljava/lang/String;[CIII)Z"⟩ : MethodName)) hown (mvT hZ (hw _ (List.mem_of_getElem? (i := 92) rfl))) (mvT hZ (hw _ (List.mem_of_getElem? (i := 93) rfl))) (mvT hZ (hw _ (List.mem_of_getElem? (i := 2) rfl))) (mvT hZ (hw _ (List.mem_of_getElem? (i := 94) rfl))) (by decide) (backOf (W := 0) (own_rat2 l Z a0 hw [] b18 b6 o_COMPACT_STRINGS o_SIOOBE_FORMATTER t18 kb18 (([] : List Int32).drop s') (0 - s') s' k6 c1 c2 c3 c4 c5 T18.heap n0 (Nat.le_trans Z0 Kp.1) O S_o_COMPACT_STRINGS S_o_SIOOBE_FORMATTER Ex_b18 Fv18 Fc18 Vt18 V_b6 nz_o_COMPACT_STRINGS r_o_SIOOBE_FORMATTER (by omega) hrel) hZ (hw _ (List.mem_of_getElem? (i := 94) rfl)) (hw _ (List.mem_of_getElem? (i := 2) rfl)) (by decide) (by decide)) (g := (mkF m 191 #[iv p1, iv p2, iv p3, iv p4, iv p5, iv p6, iv (0 : Int32), iv c1, iv c2, iv c3, iv c4, iv c5, rv b6, rv b17, rv b18, iv (own_la [c1, c2, c3, c4, c5] (35 : Int32) 0), iv (own_cut ([] : List Int32) 0), iv (Int32.ofNat s'), iv (Int32.ofNat (0 - s'))] [(.int (2 : Int32)), (.int (Int32.ofNat (0 - s'))), (.int (Int32.ofNat s')), (.ref b6), (.ref b18)])) rfl (by rw [hml]; rfl) (argsL := [(.ref b18), (.ref b6), (.int (Int32.ofNat s')), (.int (Int32.ofNat (0 - s'))), (.int (2 : Int32))]) (rest := []) (lenOf own_pd__Ljava_lang_String__CIII_Z rfl) rfl (by show 2 * 0 + _ ≤ _; exact Nat.le_of_eq rfl) (hb hby at_191) (fun _ _ => ⟨rfl, e22, (by decide : 9 + 0 ≤ _), (by decide : 26 + 0 ≤ _)⟩)
      dsimp only [Pt.U, Pt.locs, Pt.cells, Pt.slots] at X23 l23 y23 z23 st23 hQ23
      subst l23 y23 z23
      obtain ⟨rfl, Nq23, e23⟩ := hQ23
      have N23 := Fr.app N22 Nq23
      refine own_goW st23 ?_
      show own_GoW p e below s _ _ _ _ (T23.setTop (mkF m 194 #[iv p1, iv p2, iv p3, iv p4, iv p5, iv p6, iv (0 : Int32), iv c1, iv c2, iv c3, iv c4, iv c5, rv b6, rv b17, rv b18, iv (own_la [c1, c2, c3, c4, c5] (35 : Int32) 0), iv (own_cut ([] : List Int32) 0), iv (Int32.ofNat s'), iv (Int32.ofNat (0 - s'))] [(.int (1 : Int32))]))
      refine own_goW (fun zt zk => (XS.ifNo X23.here hx rfl (hb hby at_194) rfl ((if0 _ _).trans (feq ((by decide) : ¬ ((1 : Int32) = (0 : Int32)))).1) (XS.aload X23.here hx rfl (hb hby at_197) rfl rfl (XS.aload X23.here hx rfl (hb hby at_199) rfl rfl (XS.iload X23.here hx rfl (hb hby at_201) rfl (XS.iload X23.here hx rfl (hb hby at_203) rfl (XS.iconst X23.here hx rfl (hb hby at_205) zk))))))) ?_
      show own_GoW p e below s _ _ _ _ (T23.setTop (mkF m 206 #[iv p1, iv p2, iv p3, iv p4, iv p5, iv p6, iv (0 : Int32), iv c1, iv c2, iv c3, iv c4, iv c5, rv b6, rv b17, rv b18, iv (own_la [c1, c2, c3, c4, c5] (35 : Int32) 0), iv (own_cut ([] : List Int32) 0), iv (Int32.ofNat s'), iv (Int32.ofNat (0 - s'))] [(.int (3 : Int32)), (.int (Int32.ofNat (0 - s'))), (.int (Int32.ofNat s')), (.ref b6), (.ref b18)]))
      obtain ⟨_, _, ⟨T24, L24, k24, n24⟩, -, X24, ⟨Lc24, hQ24, l24, y24, z24⟩, st24⟩ := Jvm.LawKit.callS X23 hx (y := (⟨"com/example/boxwright/boxwright/TableNamesLocalNamePinLaw", "at", "(Ljava/lang/String;[CIII)Z"⟩ : MethodName)) hown (mvT hZ (hw _ (List.mem_of_getElem? (i := 92) rfl))) (mvT hZ (hw _ (List.mem_of_getElem? (i := 93) rfl))) (mvT hZ (hw _ (List.mem_of_getElem? (i := 2) rfl))) (mvT hZ (hw _ (List.mem_of_getElem? (i := 94) rfl))) (by decide) (backOf (W := 0) (own_rat3 l Z a0 hw [] b18 b6 o_COMPACT_STRINGS o_SIOOBE_FORMATTER t18 kb18 (([] : List Int32).drop s') (0 - s') s' k6 c1 c2 c3 c4 c5 T18.heap n0 (Nat.le_trans Z0 Kp.1) O S_o_COMPACT_STRINGS S_o_SIOOBE_FORMATTER Ex_b18 Fv18 Fc18 Vt18 V_b6 nz_o_COMPACT_STRINGS r_o_SIOOBE_FORMATTER (by omega) hrel) hZ (hw _ (List.mem_of_getElem? (i := 94) rfl)) (hw _ (List.mem_of_getElem? (i := 2) rfl)) (by decide) (by decide)) (g := (mkF m 206 #[iv p1, iv p2, iv p3, iv p4, iv p5, iv p6, iv (0 : Int32), iv c1, iv c2, iv c3, iv c4, iv c5, rv b6, rv b17, rv b18, iv (own_la [c1, c2, c3, c4, c5] (35 : Int32) 0), iv (own_cut ([] : List Int32) 0), iv (Int32.ofNat s'), iv (Int32.ofNat (0 - s'))] [(.int (3 : Int32)), (.int (Int32.ofNat (0 - s'))), (.int (Int32.ofNat s')), (.ref b6), (.ref b18)])) rfl (by rw [hml]; rfl) (argsL := [(.ref b18), (.ref b6), (.int (Int32.ofNat s')), (.int (Int32.ofNat (0 - s'))), (.int (3 : Int32))]) (rest := []) (lenOf own_pd__Ljava_lang_String__CIII_Z rfl) rfl (by show 2 * 0 + _ ≤ _; exact Nat.le_of_eq rfl) (hb hby at_206) (fun _ _ => ⟨rfl, e23, (by decide : 9 + 0 ≤ _), (by decide : 26 + 0 ≤ _)⟩)
      dsimp only [Pt.U, Pt.locs, Pt.cells, Pt.slots] at X24 l24 y24 z24 st24 hQ24
      subst l24 y24 z24
      obtain ⟨rfl, Nq24, e24⟩ := hQ24
      have N24 := Fr.app N23 Nq24
      refine own_goW st24 ?_
      show own_GoW p e below s _ _ _ _ (T24.setTop (mkF m 209 #[iv p1, iv p2, iv p3, iv p4, iv p5, iv p6, iv (0 : Int32), iv c1, iv c2, iv c3, iv c4, iv c5, rv b6, rv b17, rv b18, iv (own_la [c1, c2, c3, c4, c5] (35 : Int32) 0), iv (own_cut ([] : List Int32) 0), iv (Int32.ofNat s'), iv (Int32.ofNat (0 - s'))] [(.int (1 : Int32))]))
      refine own_goW (fun zt zk => (XS.ifNo X24.here hx rfl (hb hby at_209) rfl ((if0 _ _).trans (feq ((by decide) : ¬ ((1 : Int32) = (0 : Int32)))).1) (XS.aload X24.here hx rfl (hb hby at_212) rfl rfl (XS.aload X24.here hx rfl (hb hby at_214) rfl rfl (XS.iload X24.here hx rfl (hb hby at_216) rfl (XS.iload X24.here hx rfl (hb hby at_218) rfl (XS.iconst X24.here hx rfl (hb hby at_220) zk))))))) ?_
      show own_GoW p e below s _ _ _ _ (T24.setTop (mkF m 221 #[iv p1, iv p2, iv p3, iv p4, iv p5, iv p6, iv (0 : Int32), iv c1, iv c2, iv c3, iv c4, iv c5, rv b6, rv b17, rv b18, iv (own_la [c1, c2, c3, c4, c5] (35 : Int32) 0), iv (own_cut ([] : List Int32) 0), iv (Int32.ofNat s'), iv (Int32.ofNat (0 - s'))] [(.int (4 : Int32)), (.int (Int32.ofNat (0 - s'))), (.int (Int32.ofNat s')), (.ref b6), (.ref b18)]))
      obtain ⟨_, _, ⟨T25, L25, k25, n25⟩, -, X25, ⟨Lc25, hQ25, l25, y25, z25⟩, st25⟩ := Jvm.LawKit.callS X24 hx (y := (⟨"com/example/boxwright/boxwright/TableNamesLocalNamePinLaw", "at", "(Ljava/lang/String;[CIII)Z"⟩ : MethodName)) hown (mvT hZ (hw _ (List.mem_of_getElem? (i := 92) rfl))) (mvT hZ (hw _ (List.mem_of_getElem? (i := 93) rfl))) (mvT hZ (hw _ (List.mem_of_getElem? (i := 2) rfl))) (mvT hZ (hw _ (List.mem_of_getElem? (i := 94) rfl))) (by decide) (backOf (W := 0) (own_rat4 l Z a0 hw [] b18 b6 o_COMPACT_STRINGS o_SIOOBE_FORMATTER t18 kb18 (([] : List Int32).drop s') (0 - s') s' k6 c1 c2 c3 c4 c5 T18.heap n0 (Nat.le_trans Z0 Kp.1) O S_o_COMPACT_STRINGS S_o_SIOOBE_FORMATTER Ex_b18 Fv18 Fc18 Vt18 V_b6 nz_o_COMPACT_STRINGS r_o_SIOOBE_FORMATTER (by omega) hrel) hZ (hw _ (List.mem_of_getElem? (i := 94) rfl)) (hw _ (List.mem_of_getElem? (i := 2) rfl)) (by decide) (by decide)) (g := (mkF m 221 #[iv p1, iv p2, iv p3, iv p4, iv p5, iv p6, iv (0 : Int32), iv c1, iv c2, iv c3, iv c4, iv c5, rv b6, rv b17, rv b18, iv (own_la [c1, c2, c3, c4, c5] (35 : Int32) 0), iv (own_cut ([] : List Int32) 0), iv (Int32.ofNat s'), iv (Int32.ofNat (0 - s'))] [(.int (4 : Int32)), (.int (Int32.ofNat (0 - s'))), (.int (Int32.ofNat s')), (.ref b6), (.ref b18)])) rfl (by rw [hml]; rfl) (argsL := [(.ref b18), (.ref b6), (.int (Int32.ofNat s')), (.int (Int32.ofNat (0 - s'))), (.int (4 : Int32))]) (rest := []) (lenOf own_pd__Ljava_lang_String__CIII_Z rfl) rfl (by show 2 * 0 + _ ≤ _; exact Nat.le_of_eq rfl) (hb hby at_221) (fun _ _ => ⟨rfl, e24, (by decide : 9 + 0 ≤ _), (by decide : 26 + 0 ≤ _)⟩)
      dsimp only [Pt.U, Pt.locs, Pt.cells, Pt.slots] at X25 l25 y25 z25 st25 hQ25
      subst l25 y25 z25
      obtain ⟨rfl, Nq25, e25⟩ := hQ25
      have N25 := Fr.app N24 Nq25
      refine own_goW st25 ?_
      show own_GoW p e below s _ _ _ _ (T25.setTop (mkF m 224 #[iv p1, iv p2, iv p3, iv p4, iv p5, iv p6, iv (0 : Int32), iv c1, iv c2, iv c3, iv c4, iv c5, rv b6, rv b17, rv b18, iv (own_la [c1, c2, c3, c4, c5] (35 : Int32) 0), iv (own_cut ([] : List Int32) 0), iv (Int32.ofNat s'), iv (Int32.ofNat (0 - s'))] [(.int (1 : Int32))]))
      refine own_goW (fun zt zk => (XS.ifNo X25.here hx rfl (hb hby at_224) rfl ((if0 _ _).trans (feq ((by decide) : ¬ ((1 : Int32) = (0 : Int32)))).1) (XS.iconst X25.here hx rfl (hb hby at_227) (XS.goto X25.here hx rfl (pc0 := 228) (pc' := 232) rfl (hb hby at_228) (by decide) (by decide) zk)))) ?_
      show own_GoW p e below s _ _ _ _ (T25.setTop (mkF m 232 #[iv p1, iv p2, iv p3, iv p4, iv p5, iv p6, iv (0 : Int32), iv c1, iv c2, iv c3, iv c4, iv c5, rv b6, rv b17, rv b18, iv (own_la [c1, c2, c3, c4, c5] (35 : Int32) 0), iv (own_cut ([] : List Int32) 0), iv (Int32.ofNat s'), iv (Int32.ofNat (0 - s'))] [(.int (1 : Int32))]))
      have Re := Rc.trans (CHv.at X25 hZ hEL Rc.1)
      exact own_finW X25 hS (by rw [e25]; exact hk) (by rw [e25, hh]; exact Re) Bd.notSynchronized (fun h => by rw [Bd.returns] at h; cases h) (fun fs hr => retN X25 hx (t := .boolean) Bd.returns (by simp) (hb hby at_232) hr) (by rw [e25]; exact ⟨rfl, N25⟩) (by decide) (by decide)
    · intro tail
      show own_GoW p e below s _ _ _ _ (T19.setTop (mkF m 108 #[iv p1, iv p2, iv p3, iv p4, iv p5, iv p6, iv (0 : Int32), iv c1, iv c2, iv c3, iv c4, iv c5, rv b6, rv b17, rv b18, iv (own_la [c1, c2, c3, c4, c5] (35 : Int32) 0), .unset, .unset, .unset] [(.int (own_la [c1, c2, c3, c4, c5] (35 : Int32) 0))]))
      by_cases hB : (own_la [c1, c2, c3, c4, c5] (35 : Int32) 0) < (0 : Int32)
      · refine own_goW (fun zt zk => (XS.ifYes X19.here hx rfl (pc0 := 108) (pc' := 116) rfl (hb hby at_108) rfl ((if0 _ _).trans (tlt (hB : (own_la [c1, c2, c3, c4, c5] (35 : Int32) 0) < (0 : Int32))).1) (by decide) (by decide) (XS.aload X19.here hx rfl (hb hby at_116) rfl rfl (XS.iload X19.here hx rfl (hb hby at_118) rfl (XS.bipush X19.here hx rfl (hb hby at_120) zk))))) ?_
        show own_GoW p e below s _ _ _ _ (T19.setTop (mkF m 122 #[iv p1, iv p2, iv p3, iv p4, iv p5, iv p6, iv (0 : Int32), iv c1, iv c2, iv c3, iv c4, iv c5, rv b6, rv b17, rv b18, iv (own_la [c1, c2, c3, c4, c5] (35 : Int32) 0), .unset, .unset, .unset] [(.int (47 : Int32)), (.int (0 : Int32)), (.ref b6)]))
        obtain ⟨_, _, ⟨T26, L26, k26, n26⟩, -, X26, ⟨Lc26, hQ26, l26, y26, z26⟩, st26⟩ := Jvm.LawKit.callS X19 hx (y := (⟨"com/example/boxwright/boxwright/TableNamesLocalNamePinLaw", "last", "([CIC)I"⟩ : MethodName)) hown (mvT hZ (hw _ (List.mem_of_getElem? (i := 88) rfl))) (mvT hZ (hw _ (List.mem_of_getElem? (i := 89) rfl))) (mvT hZ (hw _ (List.mem_of_getElem? (i := 2) rfl))) (mvT hZ (hw _ (List.mem_of_getElem? (i := 90) rfl))) (by decide) (backOf (W := 0) (own_rlast0 l Z a0 hw [] b6 (47 : Int32) k6 c1 c2 c3 c4 c5 T18.heap n0 (Nat.le_trans Z0 Kp.1) V_b6) hZ (hw _ (List.mem_of_getElem? (i := 90) rfl)) (hw _ (List.mem_of_getElem? (i := 2) rfl)) (by decide) (by decide)) (g := (mkF m 122 #[iv p1, iv p2, iv p3, iv p4, iv p5, iv p6, iv (0 : Int32), iv c1, iv c2, iv c3, iv c4, iv c5, rv b6, rv b17, rv b18, iv (own_la [c1, c2, c3, c4, c5] (35 : Int32) 0), .unset, .unset, .unset] [(.int (47 : Int32)), (.int (0 : Int32)), (.ref b6)])) rfl (by rw [hml]; rfl) (argsL := [(.ref b6), (.int (0 : Int32)), (.int (47 : Int32))]) (rest := []) (lenOf own_pd___CIC_I rfl) rfl (by show 2 * 0 + _ ≤ _; exact Nat.le_of_eq rfl) (hb hby at_122) (fun _ _ => ⟨rfl, e19, (by decide : 9 + 0 ≤ _), (by decide : 26 + 0 ≤ _)⟩)
        dsimp only [Pt.U, Pt.locs, Pt.cells, Pt.slots] at X26 l26 y26 z26 st26 hQ26
        subst l26 y26 z26
        obtain ⟨rfl, Nq26, e26⟩ := hQ26
        have N26 := Fr.app N19 Nq26
        refine own_goW st26 ?_
        show own_GoW p e below s _ _ _ _ (T26.setTop (mkF m 125 #[iv p1, iv p2, iv p3, iv p4, iv p5, iv p6, iv (0 : Int32), iv c1, iv c2, iv c3, iv c4, iv c5, rv b6, rv b17, rv b18, iv (own_la [c1, c2, c3, c4, c5] (35 : Int32) 0), .unset, .unset, .unset] [(.int (own_la [c1, c2, c3, c4, c5] (47 : Int32) 0))]))
        exact tail _ _ _ X26 e26 N26 (by unfold own_cut; rw [el35, el47, if_pos hB])
      · refine own_goW (fun zt zk => (XS.ifNo X19.here hx rfl (hb hby at_108) rfl ((if0 _ _).trans (flt (hB : ¬ ((own_la [c1, c2, c3, c4, c5] (35 : Int32) 0) < (0 : Int32)))).1) (XS.iload X19.here hx rfl (hb hby at_111) rfl (XS.goto X19.here hx rfl (pc0 := 113) (pc' := 125) rfl (hb hby at_113) (by decide) (by decide) zk)))) ?_
        show own_GoW p e below s _ _ _ _ (T19.setTop (mkF m 125 #[iv p1, iv p2, iv p3, iv p4, iv p5, iv p6, iv (0 : Int32), iv c1, iv c2, iv c3, iv c4, iv c5, rv b6, rv b17, rv b18, iv (own_la [c1, c2, c3, c4, c5] (35 : Int32) 0), .unset, .unset, .unset] [(.int (own_la [c1, c2, c3, c4, c5] (35 : Int32) 0))]))
        exact tail _ _ _ X19 e19 N19 (by unfold own_cut; rw [el35, if_neg hB])
  · by_cases hk1_k : k = (1 : Int32)
    · subst hk1_k
      show own_GoW p e below s _ _ _ _ (s₁.setTop (mkF m 9 #[iv p1, iv p2, iv p3, iv p4, iv p5, iv p6, iv (1 : Int32), .unset, .unset, .unset, .unset, .unset, .unset, .unset, .unset, .unset, .unset, .unset, .unset] []))
      refine own_goW (fun zt zk => (XS.iloadN X0.here hx rfl (hb hby at_9) rfl zk)) ?_
      show own_GoW p e below s _ _ _ _ (s₁.setTop (mkF m 10 #[iv p1, iv p2, iv p3, iv p4, iv p5, iv p6, iv (1 : Int32), .unset, .unset, .unset, .unset, .unset, .unset, .unset, .unset, .unset, .unset, .unset, .unset] [(.int p2)]))
      obtain ⟨_, _, ⟨T27, L27, k27, n27⟩, -, X27, ⟨Lc27, hQ27, l27, y27, z27⟩, st27⟩ := Jvm.LawKit.callS X0 hx (y := (⟨"com/example/boxwright/boxwright/TableNamesLocalNamePinLaw", "pick", "(I)C"⟩ : MethodName)) hown (mvT hZ (hw _ (List.mem_of_getElem? (i := 0) rfl))) (mvT hZ (hw _ (List.mem_of_getElem? (i := 1) rfl))) (mvT hZ (hw _ (List.mem_of_getElem? (i := 2) rfl))) (mvT hZ (hw _ (List.mem_of_getElem? (i := 3) rfl))) (by decide) (backOf (W := 0) (own_rpick l Z a0 hw [] p2  h0 n0 Z0 ) hZ (hw _ (List.mem_of_getElem? (i := 3) rfl)) (hw _ (List.mem_of_getElem? (i := 2) rfl)) (by decide) (by decide)) (g := (mkF m 10 #[iv p1, iv p2, iv p3, iv p4, iv p5, iv p6, iv (1 : Int32), .unset, .unset, .unset, .unset, .unset, .unset, .unset, .unset, .unset, .unset, .unset, .unset] [(.int p2)])) rfl (by rw [hml]; rfl) (argsL := [(.int p2)]) (rest := []) (lenOf own_pd__I_C rfl) rfl (by show 2 * 0 + _ ≤ _; exact Nat.le_of_eq rfl) (hb hby at_10) (fun _ _ => ⟨rfl, e0, (by decide : 0 + 0 ≤ _), (by decide : 0 + 0 ≤ _)⟩)
      dsimp only [Pt.U, Pt.locs, Pt.cells, Pt.slots] at X27 l27 y27 z27 st27 hQ27
      subst l27 y27 z27
      obtain ⟨c27, rfl, Nq27, e27, hr_c27⟩ := hQ27
      have N27 := Fr.app N0 Nq27
      refine own_goW st27 ?_
      show own_GoW p e below s _ _ _ _ (T27.setTop (mkF m 13 #[iv p1, iv p2, iv p3, iv p4, iv p5, iv p6, iv (1 : Int32), .unset, .unset, .unset, .unset, .unset, .unset, .unset, .unset, .unset, .unset, .unset, .unset] [(.int c27)]))
      refine own_goW (fun zt zk => (XS.istore X27.here hx rfl (hb hby at_13) rfl (l' := #[iv p1, iv p2, iv p3, iv p4, iv p5, iv p6, iv (1 : Int32), iv c27, .unset, .unset, .unset, .unset, .unset, .unset, .unset, .unset, .unset, .unset, .unset]) rfl (XS.iloadN X27.here hx rfl (hb hby at_15) rfl zk))) ?_
      show own_GoW p e below s _ _ _ _ (T27.setTop (mkF m 16 #[iv p1, iv p2, iv p3, iv p4, iv p5, iv p6, iv (1 : Int32), iv c27, .unset, .unset, .unset, .unset, .unset, .unset, .unset, .unset, .unset, .unset, .unset] [(.int p3)]))
      obtain ⟨_, _, ⟨T28, L28, k28, n28⟩, -, X28, ⟨Lc28, hQ28, l28, y28, z28⟩, st28⟩ := Jvm.LawKit.callS X27 hx (y := (⟨"com/example/boxwright/boxwright/TableNamesLocalNamePinLaw", "pick", "(I)C"⟩ : MethodName)) hown (mvT hZ (hw _ (List.mem_of_getElem? (i := 0) rfl))) (mvT hZ (hw _ (List.mem_of_getElem? (i := 1) rfl))) (mvT hZ (hw _ (List.mem_of_getElem? (i := 2) rfl))) (mvT hZ (hw _ (List.mem_of_getElem? (i := 3) rfl))) (by decide) (backOf (W := 0) (own_rpick l Z a0 hw [] p3  h0 n0 Z0 ) hZ (hw _ (List.mem_of_getElem? (i := 3) rfl)) (hw _ (List.mem_of_getElem? (i := 2) rfl)) (by decide) (by decide)) (g := (mkF m 16 #[iv p1, iv p2, iv p3, iv p4, iv p5, iv p6, iv (1 : Int32), iv c27, .unset, .unset, .unset, .unset, .unset, .unset, .unset, .unset, .unset, .unset, .unset] [(.int p3)])) rfl (by rw [hml]; rfl) (argsL := [(.int p3)]) (rest := []) (lenOf own_pd__I_C rfl) rfl (by show 2 * 0 + _ ≤ _; exact Nat.le_of_eq rfl) (hb hby at_16) (fun _ _ => ⟨rfl, e27, (by decide : 0 + 0 ≤ _), (by decide : 0 + 0 ≤ _)⟩)
      dsimp only [Pt.U, Pt.locs, Pt.cells, Pt.slots] at X28 l28 y28 z28 st28 hQ28
      subst l28 y28 z28
      obtain ⟨c28, rfl, Nq28, e28, hr_c28⟩ := hQ28
      have N28 := Fr.app N27 Nq28
      refine own_goW st28 ?_
      show own_GoW p e below s _ _ _ _ (T28.setTop (mkF m 19 #[iv p1, iv p2, iv p3, iv p4, iv p5, iv p6, iv (1 : Int32), iv c27, .unset, .unset, .unset, .unset, .unset, .unset, .unset, .unset, .unset, .unset, .unset] [(.int c28)]))
      refine own_goW (fun zt zk => (XS.istore X28.here hx rfl (hb hby at_19) rfl (l' := #[iv p1, iv p2, iv p3, iv p4, iv p5, iv p6, iv (1 : Int32), iv c27, iv c28, .unset, .unset, .unset, .unset, .unset, .unset, .unset, .unset, .unset, .unset]) rfl (XS.iloadN X28.here hx rfl (hb hby at_21) rfl zk))) ?_
      show own_GoW p e below s _ _ _ _ (T28.setTop (mkF m 22 #[iv p1, iv p2, iv p3, iv p4, iv p5, iv p6, iv (1 : Int32), iv c27, iv c28, .unset, .unset, .unset, .unset, .unset, .unset, .unset, .unset, .unset, .unset] [(.int p4)]))
      obtain ⟨_, _, ⟨T29, L29, k29, n29⟩, -, X29, ⟨Lc29, hQ29, l29, y29, z29⟩, st29⟩ := Jvm.LawKit.callS X28 hx (y := (⟨"com/example/boxwright/boxwright/TableNamesLocalNamePinLaw", "pick", "(I)C"⟩ : MethodName)) hown (mvT hZ (hw _ (List.mem_of_getElem? (i := 0) rfl))) (mvT hZ (hw _ (List.mem_of_getElem? (i := 1) rfl))) (mvT hZ (hw _ (List.mem_of_getElem? (i := 2) rfl))) (mvT hZ (hw _ (List.mem_of_getElem? (i := 3) rfl))) (by decide) (backOf (W := 0) (own_rpick l Z a0 hw [] p4  h0 n0 Z0 ) hZ (hw _ (List.mem_of_getElem? (i := 3) rfl)) (hw _ (List.mem_of_getElem? (i := 2) rfl)) (by decide) (by decide)) (g := (mkF m 22 #[iv p1, iv p2, iv p3, iv p4, iv p5, iv p6, iv (1 : Int32), iv c27, iv c28, .unset, .unset, .unset, .unset, .unset, .unset, .unset, .unset, .unset, .unset] [(.int p4)])) rfl (by rw [hml]; rfl) (argsL := [(.int p4)]) (rest := []) (lenOf own_pd__I_C rfl) rfl (by show 2 * 0 + _ ≤ _; exact Nat.le_of_eq rfl) (hb hby at_22) (fun _ _ => ⟨rfl, e28, (by decide : 0 + 0 ≤ _), (by decide : 0 + 0 ≤ _)⟩)
      dsimp only [Pt.U, Pt.locs, Pt.cells, Pt.slots] at X29 l29 y29 z29 st29 hQ29
      subst l29 y29 z29
      obtain ⟨c29, rfl, Nq29, e29, hr_c29⟩ := hQ29
      have N29 := Fr.app N28 Nq29
      refine own_goW st29 ?_
      show own_GoW p e below s _ _ _ _ (T29.setTop (mkF m 25 #[iv p1, iv p2, iv p3, iv p4, iv p5, iv p6, iv (1 : Int32), iv c27, iv c28, .unset, .unset, .unset, .unset, .unset, .unset, .unset, .unset, .unset, .unset] [(.int c29)]))
      refine own_goW (fun zt zk => (XS.istore X29.here hx rfl (hb hby at_25) rfl (l' := #[iv p1, iv p2, iv p3, iv p4, iv p5, iv p6, iv (1 : Int32), iv c27, iv c28, iv c29, .unset, .unset, .unset, .unset, .unset, .unset, .unset, .unset, .unset]) rfl (XS.iload X29.here hx rfl (hb hby at_27) rfl zk))) ?_
      show own_GoW p e below s _ _ _ _ (T29.setTop (mkF m 29 #[iv p1, iv p2, iv p3, iv p4, iv p5, iv p6, iv (1 : Int32), iv c27, iv c28, iv c29, .unset, .unset, .unset, .unset, .unset, .unset, .unset, .unset, .unset] [(.int p5)]))
      obtain ⟨_, _, ⟨T30, L30, k30, n30⟩, -, X30, ⟨Lc30, hQ30, l30, y30, z30⟩, st30⟩ := Jvm.LawKit.callS X29 hx (y := (⟨"com/example/boxwright/boxwright/TableNamesLocalNamePinLaw", "pick", "(I)C"⟩ : MethodName)) hown (mvT hZ (hw _ (List.mem_of_getElem? (i := 0) rfl))) (mvT hZ (hw _ (List.mem_of_getElem? (i := 1) rfl))) (mvT hZ (hw _ (List.mem_of_getElem? (i := 2) rfl))) (mvT hZ (hw _ (List.mem_of_getElem? (i := 3) rfl))) (by decide) (backOf (W := 0) (own_rpick l Z a0 hw [] p5  h0 n0 Z0 ) hZ (hw _ (List.mem_of_getElem? (i := 3) rfl)) (hw _ (List.mem_of_getElem? (i := 2) rfl)) (by decide) (by decide)) (g := (mkF m 29 #[iv p1, iv p2, iv p3, iv p4, iv p5, iv p6, iv (1 : Int32), iv c27, iv c28, iv c29, .unset, .unset, .unset, .unset, .unset, .unset, .unset, .unset, .unset] [(.int p5)])) rfl (by rw [hml]; rfl) (argsL := [(.int p5)]) (rest := []) (lenOf own_pd__I_C rfl) rfl (by show 2 * 0 + _ ≤ _; exact Nat.le_of_eq rfl) (hb hby at_29) (fun _ _ => ⟨rfl, e29, (by decide : 0 + 0 ≤ _), (by decide : 0 + 0 ≤ _)⟩)
      dsimp only [Pt.U, Pt.locs, Pt.cells, Pt.slots] at X30 l30 y30 z30 st30 hQ30
      subst l30 y30 z30
      obtain ⟨c30, rfl, Nq30, e30, hr_c30⟩ := hQ30
      have N30 := Fr.app N29 Nq30
      refine own_goW st30 ?_
      show own_GoW p e below s _ _ _ _ (T30.setTop (mkF m 32 #[iv p1, iv p2, iv p3, iv p4, iv p5, iv p6, iv (1 : Int32), iv c27, iv c28, iv c29, .unset, .unset, .unset, .unset, .unset, .unset, .unset, .unset, .unset] [(.int c30)]))
      refine own_goW (fun zt zk => (XS.istore X30.here hx rfl (hb hby at_32) rfl (l' := #[iv p1, iv p2, iv p3, iv p4, iv p5, iv p6, iv (1 : Int32), iv c27, iv c28, iv c29, iv c30, .unset, .unset, .unset, .unset, .unset, .unset, .unset, .unset]) rfl (XS.iload X30.here hx rfl (hb hby at_34) rfl zk))) ?_
      show own_GoW p e below s _ _ _ _ (T30.setTop (mkF m 36 #[iv p1, iv p2, iv p3, iv p4, iv p5, iv p6, iv (1 : Int32), iv c27, iv c28, iv c29, iv c30, .unset, .unset, .unset, .unset, .unset, .unset, .unset, .unset] [(.int p6)]))
      obtain ⟨_, _, ⟨T31, L31, k31, n31⟩, -, X31, ⟨Lc31, hQ31, l31, y31, z31⟩, st31⟩ := Jvm.LawKit.callS X30 hx (y := (⟨"com/example/boxwright/boxwright/TableNamesLocalNamePinLaw", "pick", "(I)C"⟩ : MethodName)) hown (mvT hZ (hw _ (List.mem_of_getElem? (i := 0) rfl))) (mvT hZ (hw _ (List.mem_of_getElem? (i := 1) rfl))) (mvT hZ (hw _ (List.mem_of_getElem? (i := 2) rfl))) (mvT hZ (hw _ (List.mem_of_getElem? (i := 3) rfl))) (by decide) (backOf (W := 0) (own_rpick l Z a0 hw [] p6  h0 n0 Z0 ) hZ (hw _ (List.mem_of_getElem? (i := 3) rfl)) (hw _ (List.mem_of_getElem? (i := 2) rfl)) (by decide) (by decide)) (g := (mkF m 36 #[iv p1, iv p2, iv p3, iv p4, iv p5, iv p6, iv (1 : Int32), iv c27, iv c28, iv c29, iv c30, .unset, .unset, .unset, .unset, .unset, .unset, .unset, .unset] [(.int p6)])) rfl (by rw [hml]; rfl) (argsL := [(.int p6)]) (rest := []) (lenOf own_pd__I_C rfl) rfl (by show 2 * 0 + _ ≤ _; exact Nat.le_of_eq rfl) (hb hby at_36) (fun _ _ => ⟨rfl, e30, (by decide : 0 + 0 ≤ _), (by decide : 0 + 0 ≤ _)⟩)
      dsimp only [Pt.U, Pt.locs, Pt.cells, Pt.slots] at X31 l31 y31 z31 st31 hQ31
      subst l31 y31 z31
      obtain ⟨c31, rfl, Nq31, e31, hr_c31⟩ := hQ31
      have N31 := Fr.app N30 Nq31
      refine own_goW st31 ?_
      show own_GoW p e below s _ _ _ _ (T31.setTop (mkF m 39 #[iv p1, iv p2, iv p3, iv p4, iv p5, iv p6, iv (1 : Int32), iv c27, iv c28, iv c29, iv c30, .unset, .unset, .unset, .unset, .unset, .unset, .unset, .unset] [(.int c31)]))
      refine own_goW (fun zt zk => (XS.istore X31.here hx rfl (hb hby at_39) rfl (l' := #[iv p1, iv p2, iv p3, iv p4, iv p5, iv p6, iv (1 : Int32), iv c27, iv c28, iv c29, iv c30, iv c31, .unset, .unset, .unset, .unset, .unset, .unset, .unset]) rfl (XS.iconst X31.here hx rfl (hb hby at_41) zk))) ?_
      show own_GoW p e below s _ _ _ _ (T31.setTop (mkF m 42 #[iv p1, iv p2, iv p3, iv p4, iv p5, iv p6, iv (1 : Int32), iv c27, iv c28, iv c29, iv c30, iv c31, .unset, .unset, .unset, .unset, .unset, .unset, .unset] [(.int (5 : Int32))]))
      obtain ⟨T32, h32, k32, X32, e32, E32, A32, Ea32, st32⟩ := newPE X31 hx hZ (hw _ (List.mem_of_getElem? (i := 4) rfl)) e31 (g := (mkF m 42 #[iv p1, iv p2, iv p3, iv p4, iv p5, iv p6, iv (1 : Int32), iv c27, iv c28, iv c29, iv c30, iv c31, .unset, .unset, .unset, .unset, .unset, .unset, .unset] [(.int (5 : Int32))])) rfl (hb hby at_42) rfl (by decide) (cap := 5) (by decide) (by decide) (by decide) (by decide) (ad := "[C") (by decide)
      obtain ⟨b32, g32⟩ : ∃ z, z = h0.size := ⟨_, rfl⟩
      rw [← g32] at A32 Ea32 st32
      refine own_goW st32 ?_
      have sz_b32 : h0.size ≤ b32 := Nat.le_trans Kp.1 (Nat.le_of_eq g32.symm)
      have g_b32 : n0 ≤ b32 := Nat.le_trans Z0 sz_b32
      have Sf_b32 : Safe Z own_EL s.vm h0 b32 := Safe.new (Nat.le_of_eq g32.symm)
      replace O := O.ext E32
      replace Kp := Kp.ext E32
      replace Sf_b32 := Safe.ext E32 Rc.1 Sf_b32
      replace Rc := Rc.trans (CHr.ext E32 Rc.1)
      replace hk := Nat.le_trans hk E32.1
      have V_b32 : Arv Z h32 b32 k32 .char (5 : Int32) [(.int (0 : Int32)), (.int (0 : Int32)), (.int (0 : Int32)), (.int (0 : Int32)), (.int (0 : Int32))] (.int (0 : Int32)) := (Arv.new A32 (by decide)).pad (pad_rep [] (.int (0 : Int32)) 5)
      have Ea_b32 := Ea32
      show own_GoW p e below s _ _ _ _ (T32.setTop (mkF m 44 #[iv p1, iv p2, iv p3, iv p4, iv p5, iv p6, iv (1 : Int32), iv c27, iv c28, iv c29, iv c30, iv c31, .unset, .unset, .unset, .unset, .unset, .unset, .unset] [(.ref b32)]))
      refine own_goW (fun zt zk => (XS.dup X32.here hx rfl (hb hby at_44) rfl rfl (XS.iconst X32.here hx rfl (hb hby at_45) (XS.iload X32.here hx rfl (hb hby at_46) rfl zk)))) ?_
      show own_GoW p e below s _ _ _ _ (T32.setTop (mkF m 48 #[iv p1, iv p2, iv p3, iv p4, iv p5, iv p6, iv (1 : Int32), iv c27, iv c28, iv c29, iv c30, iv c31, .unset, .unset, .unset, .unset, .unset, .unset, .unset] [(.int c27), (.int (0 : Int32)), (.ref b32), (.ref b32)]))
      obtain ⟨cl33, Ar33, q33, Sz33, Nz33, Ha33, Ga33⟩ := id V_b32
      have hin33 : ¬ ((0 : Int32) < 0 ∨ cl33.slots.size ≤ ((0 : Int32)).toNatClampNeg) := inb_of Sz33 ⟨by decide, by decide⟩
      obtain ⟨T34, h34, X34, e34, W34, st34⟩ := stC X32 hx hZ e32 Ar33 (j := (0 : Int32)) hin33 (g := (mkF m 48 #[iv p1, iv p2, iv p3, iv p4, iv p5, iv p6, iv (1 : Int32), iv c27, iv c28, iv c29, iv c30, iv c31, .unset, .unset, .unset, .unset, .unset, .unset, .unset] [(.int c27), (.int (0 : Int32)), (.ref b32), (.ref b32)])) rfl rfl (hb hby at_48)
      refine own_goW st34 ?_
      rw [show nar .char c27 = c27 from own_narc hr_c27] at W34
      have V34 := Arv.set Ar33 q33 Sz33 Nz33 Ha33 Ga33 (own_fitc hr_c27) W34 0 rfl (Nat.le_of_ble_eq_true rfl)
      have N34 := Fr.snoc X34 N31 g_b32
      have Sf_b32' := Safe.wr W34 Sf_b32 Rc.1 Sf_b32
      replace Rc := Rc.trans (CHr.wr W34 Sf_b32 Rc.1)
      replace hk := Nat.le_trans hk (Keep.of_wr W34).1
      replace Sf_b32 := Sf_b32'
      replace O := O.wr W34 g_b32
      replace Kp := Kp.wr W34 (Or.inr sz_b32)
      replace Ea_b32 := Ea_b32.wr W34
      replace V_b32 : Arv Z h34 b32 k32 .char (5 : Int32) [(.int c27), (.int (0 : Int32)), (.int (0 : Int32)), (.int (0 : Int32)), (.int (0 : Int32))] (.int (0 : Int32)) := V34
      show own_GoW p e below s _ _ _ _ (T34.setTop (mkF m 49 #[iv p1, iv p2, iv p3, iv p4, iv p5, iv p6, iv (1 : Int32), iv c27, iv c28, iv c29, iv c30, iv c31, .unset, .unset, .unset, .unset, .unset, .unset, .unset] [(.ref b32)]))
      refine own_goW (fun zt zk => (XS.dup X34.here hx rfl (hb hby at_49) rfl rfl (XS.iconst X34.here hx rfl (hb hby at_50) (XS.iload X34.here hx rfl (hb hby at_51) rfl zk)))) ?_
      show own_GoW p e below s _ _ _ _ (T34.setTop (mkF m 53 #[iv p1, iv p2, iv p3, iv p4, iv p5, iv p6, iv (1 : Int32), iv c27, iv c28, iv c29, iv c30, iv c31, .unset, .unset, .unset, .unset, .unset, .unset, .unset] [(.int c28), (.int (1 : Int32)), (.ref b32), (.ref b32)]))
      obtain ⟨cl35, Ar35, q35, Sz35, Nz35, Ha35, Ga35⟩ := id V_b32
      have hin35 : ¬ ((1 : Int32) < 0 ∨ cl35.slots.size ≤ ((1 : Int32)).toNatClampNeg) := inb_of Sz35 ⟨by decide, by decide⟩
      obtain ⟨T36, h36, X36, e36, W36, st36⟩ := stC X34 hx hZ e34 Ar35 (j := (1 : Int32)) hin35 (g := (mkF m 53 #[iv p1, iv p2, iv p3, iv p4, iv p5, iv p6, iv (1 : Int32), iv c27, iv c28, iv c29, iv c30, iv c31, .unset, .unset, .unset, .unset, .unset, .unset, .unset] [(.int c28), (.int (1 : Int32)), (.ref b32), (.ref b32)])) rfl rfl (hb hby at_53)
      refine own_goW st36 ?_
      rw [show nar .char c28 = c28 from own_narc hr_c28] at W36
      have V36 := Arv.set Ar35 q35 Sz35 Nz35 Ha35 Ga35 (own_fitc hr_c28) W36 1 rfl (Nat.le_of_ble_eq_true rfl)
      have N36 := Fr.snoc X36 N34 g_b32
      have Sf_b32' := Safe.wr W36 Sf_b32 Rc.1 Sf_b32
      replace Rc := Rc.trans (CHr.wr W36 Sf_b32 Rc.1)
      replace hk := Nat.le_trans hk (Keep.of_wr W36).1
      replace Sf_b32 := Sf_b32'
      replace O := O.wr W36 g_b32
      replace Kp := Kp.wr W36 (Or.inr sz_b32)
      replace Ea_b32 := Ea_b32.wr W36
      replace V_b32 : Arv Z h36 b32 k32 .char (5 : Int32) [(.int c27), (.int c28), (.int (0 : Int32)), (.int (0 : Int32)), (.int (0 : Int32))] (.int (0 : Int32)) := V36
      show own_GoW p e below s _ _ _ _ (T36.setTop (mkF m 54 #[iv p1, iv p2, iv p3, iv p4, iv p5, iv p6, iv (1 : Int32), iv c27, iv c28, iv c29, iv c30, iv c31, .unset, .unset, .unset, .unset, .unset, .unset, .unset] [(.ref b32)]))
      refine own_goW (fun zt zk => (XS.dup X36.here hx rfl (hb hby at_54) rfl rfl (XS.iconst X36.here hx rfl (hb hby at_55) (XS.iload X36.here hx rfl (hb hby at_56) rfl zk)))) ?_
      show own_GoW p e below s _ _ _ _ (T36.setTop (mkF m 58 #[iv p1, iv p2, iv p3, iv p4, iv p5, iv p6, iv (1 : Int32), iv c27, iv c28, iv c29, iv c30, iv c31, .unset, .unset, .unset, .unset, .unset, .unset, .unset] [(.int c29), (.int (2 : Int32)), (.ref b32), (.ref b32)]))
      obtain ⟨cl37, Ar37, q37, Sz37, Nz37, Ha37, Ga37⟩ := id V_b32
      have hin37 : ¬ ((2 : Int32) < 0 ∨ cl37.slots.size ≤ ((2 : Int32)).toNatClampNeg) := inb_of Sz37 ⟨by decide, by decide⟩
      obtain ⟨T38, h38, X38, e38, W38, st38⟩ := stC X36 hx hZ e36 Ar37 (j := (2 : Int32)) hin37 (g := (mkF m 58 #[iv p1, iv p2, iv p3, iv p4, iv p5, iv p6, iv (1 : Int32), iv c27, iv c28, iv c29, iv c30, iv c31, .unset, .unset, .unset, .unset, .unset, .unset, .unset] [(.int c29), (.int (2 : Int32)), (.ref b32), (.ref b32)])) rfl rfl (hb hby at_58)
      refine own_goW st38 ?_
      rw [show nar .char c29 = c29 from own_narc hr_c29] at W38
      have V38 := Arv.set Ar37 q37 Sz37 Nz37 Ha37 Ga37 (own_fitc hr_c29) W38 2 rfl (Nat.le_of_ble_eq_true rfl)
      have N38 := Fr.snoc X38 N36 g_b32
      have Sf_b32' := Safe.wr W38 Sf_b32 Rc.1 Sf_b32
      replace Rc := Rc.trans (CHr.wr W38 Sf_b32 Rc.1)
      replace hk := Nat.le_trans hk (Keep.of_wr W38).1
      replace Sf_b32 := Sf_b32'
      replace O := O.wr W38 g_b32
      replace Kp := Kp.wr W38 (Or.inr sz_b32)
      replace Ea_b32 := Ea_b32.wr W38
      replace V_b32 : Arv Z h38 b32 k32 .char (5 : Int32) [(.int c27), (.int c28), (.int c29), (.int (0 : Int32)), (.int (0 : Int32))] (.int (0 : Int32)) := V38
      show own_GoW p e below s _ _ _ _ (T38.setTop (mkF m 59 #[iv p1, iv p2, iv p3, iv p4, iv p5, iv p6, iv (1 : Int32), iv c27, iv c28, iv c29, iv c30, iv c31, .unset, .unset, .unset, .unset, .unset, .unset, .unset] [(.ref b32)]))
      refine own_goW (fun zt zk => (XS.dup X38.here hx rfl (hb hby at_59) rfl rfl (XS.iconst X38.here hx rfl (hb hby at_60) (XS.iload X38.here hx rfl (hb hby at_61) rfl zk)))) ?_
      show own_GoW p e below s _ _ _ _ (T38.setTop (mkF m 63 #[iv p1, iv p2, iv p3, iv p4, iv p5, iv p6, iv (1 : Int32), iv c27, iv c28, iv c29, iv c30, iv c31, .unset, .unset, .unset, .unset, .unset, .unset, .unset] [(.int c30), (.int (3 : Int32)), (.ref b32), (.ref b32)]))
      obtain ⟨cl39, Ar39, q39, Sz39, Nz39, Ha39, Ga39⟩ := id V_b32
      have hin39 : ¬ ((3 : Int32) < 0 ∨ cl39.slots.size ≤ ((3 : Int32)).toNatClampNeg) := inb_of Sz39 ⟨by decide, by decide⟩
      obtain ⟨T40, h40, X40, e40, W40, st40⟩ := stC X38 hx hZ e38 Ar39 (j := (3 : Int32)) hin39 (g := (mkF m 63 #[iv p1, iv p2, iv p3, iv p4, iv p5, iv p6, iv (1 : Int32), iv c27, iv c28, iv c29, iv c30, iv c31, .unset, .unset, .unset, .unset, .unset, .unset, .unset] [(.int c30), (.int (3 : Int32)), (.ref b32), (.ref b32)])) rfl rfl (hb hby at_63)
      refine own_goW st40 ?_
      rw [show nar .char c30 = c30 from own_narc hr_c30] at W40
      have V40 := Arv.set Ar39 q39 Sz39 Nz39 Ha39 Ga39 (own_fitc hr_c30) W40 3 rfl (Nat.le_of_ble_eq_true rfl)
      have N40 := Fr.snoc X40 N38 g_b32
      have Sf_b32' := Safe.wr W40 Sf_b32 Rc.1 Sf_b32
      replace Rc := Rc.trans (CHr.wr W40 Sf_b32 Rc.1)
      replace hk := Nat.le_trans hk (Keep.of_wr W40).1
      replace Sf_b32 := Sf_b32'
      replace O := O.wr W40 g_b32
      replace Kp := Kp.wr W40 (Or.inr sz_b32)
      replace Ea_b32 := Ea_b32.wr W40
      replace V_b32 : Arv Z h40 b32 k32 .char (5 : Int32) [(.int c27), (.int c28), (.int c29), (.int c30), (.int (0 : Int32))] (.int (0 : Int32)) := V40
      show own_GoW p e below s _ _ _ _ (T40.setTop (mkF m 64 #[iv p1, iv p2, iv p3, iv p4, iv p5, iv p6, iv (1 : Int32), iv c27, iv c28, iv c29, iv c30, iv c31, .unset, .unset, .unset, .unset, .unset, .unset, .unset] [(.ref b32)]))
      refine own_goW (fun zt zk => (XS.dup X40.here hx rfl (hb hby at_64) rfl rfl (XS.iconst X40.here hx rfl (hb hby at_65) (XS.iload X40.here hx rfl (hb hby at_66) rfl zk)))) ?_
      show own_GoW p e below s _ _ _ _ (T40.setTop (mkF m 68 #[iv p1, iv p2, iv p3, iv p4, iv p5, iv p6, iv (1 : Int32), iv c27, iv c28, iv c29, iv c30, iv c31, .unset, .unset, .unset, .unset, .unset, .unset, .unset] [(.int c31), (.int (4 : Int32)), (.ref b32), (.ref b32)]))
      obtain ⟨cl41, Ar41, q41, Sz41, Nz41, Ha41, Ga41⟩ := id V_b32
      have hin41 : ¬ ((4 : Int32) < 0 ∨ cl41.slots.size ≤ ((4 : Int32)).toNatClampNeg) := inb_of Sz41 ⟨by decide, by decide⟩
      obtain ⟨T42, h42, X42, e42, W42, st42⟩ := stC X40 hx hZ e40 Ar41 (j := (4 : Int32)) hin41 (g := (mkF m 68 #[iv p1, iv p2, iv p3, iv p4, iv p5, iv p6, iv (1 : Int32), iv c27, iv c28, iv c29, iv c30, iv c31, .unset, .unset, .unset, .unset, .unset, .unset, .unset] [(.int c31), (.int (4 : Int32)), (.ref b32), (.ref b32)])) rfl rfl (hb hby at_68)
      refine own_goW st42 ?_
      rw [show nar .char c31 = c31 from own_narc hr_c31] at W42
      have V42 := Arv.set Ar41 q41 Sz41 Nz41 Ha41 Ga41 (own_fitc hr_c31) W42 4 rfl (Nat.le_of_ble_eq_true rfl)
      have N42 := Fr.snoc X42 N40 g_b32
      have Sf_b32' := Safe.wr W42 Sf_b32 Rc.1 Sf_b32
      replace Rc := Rc.trans (CHr.wr W42 Sf_b32 Rc.1)
      replace hk := Nat.le_trans hk (Keep.of_wr W42).1
      replace Sf_b32 := Sf_b32'
      replace O := O.wr W42 g_b32
      replace Kp := Kp.wr W42 (Or.inr sz_b32)
      replace Ea_b32 := Ea_b32.wr W42
      replace V_b32 : Arv Z h42 b32 k32 .char (5 : Int32) [(.int c27), (.int c28), (.int c29), (.int c30), (.int c31)] (.int (0 : Int32)) := V42
      show own_GoW p e below s _ _ _ _ (T42.setTop (mkF m 69 #[iv p1, iv p2, iv p3, iv p4, iv p5, iv p6, iv (1 : Int32), iv c27, iv c28, iv c29, iv c30, iv c31, .unset, .unset, .unset, .unset, .unset, .unset, .unset] [(.ref b32)]))
      refine own_goW (fun zt zk => (XS.astore X42.here hx rfl (hb hby at_69) rfl rfl (l' := #[iv p1, iv p2, iv p3, iv p4, iv p5, iv p6, iv (1 : Int32), iv c27, iv c28, iv c29, iv c30, iv c31, rv b32, .unset, .unset, .unset, .unset, .unset, .unset]) rfl (XS.iload X42.here hx rfl (hb hby at_71) rfl (XS.iload X42.here hx rfl (hb hby at_73) rfl (XS.iload X42.here hx rfl (hb hby at_75) rfl (XS.iload X42.here hx rfl (hb hby at_77) rfl (XS.iload X42.here hx rfl (hb hby at_79) rfl (XS.iload X42.here hx rfl (hb hby at_81) rfl zk)))))))) ?_
      show own_GoW p e below s _ _ _ _ (T42.setTop (mkF m 83 #[iv p1, iv p2, iv p3, iv p4, iv p5, iv p6, iv (1 : Int32), iv c27, iv c28, iv c29, iv c30, iv c31, rv b32, .unset, .unset, .unset, .unset, .unset, .unset] [(.int c31), (.int c30), (.int c29), (.int c28), (.int c27), (.int (1 : Int32))]))
      obtain ⟨_, _, ⟨T43, L43, k43, n43⟩, -, X43, ⟨Lc43, hQ43, l43, y43, z43⟩, st43⟩ := Jvm.LawKit.callS X42 hx (y := (⟨"com/example/boxwright/boxwright/TableNamesLocalNamePinLaw", "make", "(ICCCCC)Ljava/lang/String;"⟩ : MethodName)) hown (mvT hZ (hw _ (List.mem_of_getElem? (i := 5) rfl))) (mvT hZ (hw _ (List.mem_of_getElem? (i := 6) rfl))) (mvT hZ (hw _ (List.mem_of_getElem? (i := 2) rfl))) (mvT hZ (hw _ (List.mem_of_getElem? (i := 7) rfl))) (by decide) (backOf (W := 0) (own_rmake1 l Z a0 hw [] c27 c28 c29 c30 c31 o_COMPACT_STRINGS h42 n0 (Nat.le_trans Z0 Kp.1) O S_o_COMPACT_STRINGS nz_o_COMPACT_STRINGS hr_c27 hr_c28 hr_c29 hr_c30 hr_c31) hZ (hw _ (List.mem_of_getElem? (i := 7) rfl)) (hw _ (List.mem_of_getElem? (i := 2) rfl)) (by decide) (by decide)) (g := (mkF m 83 #[iv p1, iv p2, iv p3, iv p4, iv p5, iv p6, iv (1 : Int32), iv c27, iv c28, iv c29, iv c30, iv c31, rv b32, .unset, .unset, .unset, .unset, .unset, .unset] [(.int c31), (.int c30), (.int c29), (.int c28), (.int c27), (.int (1 : Int32))])) rfl (by rw [hml]; rfl) (argsL := [(.int (1 : Int32)), (.int c27), (.int c28), (.int c29), (.int c30), (.int c31)]) (rest := []) (lenOf own_pd__ICCCCC_Ljava_lang_String_ rfl) rfl (by show 2 * 0 + _ ≤ _; exact Nat.le_of_eq rfl) (hb hby at_83) (fun _ _ => ⟨rfl, e42, (by decide : 1 + 3 ≤ _), (by decide : 5 + 6 ≤ _)⟩)
      dsimp only [Pt.U, Pt.locs, Pt.cells, Pt.slots] at X43 l43 y43 z43 st43 hQ43
      subst l43 y43 z43
      obtain ⟨b43, t43, kb43, rfl, Nq43, K43, sb43, Ex_b43, Fv43, Fc43, Vt43⟩ := hQ43
      have N43 := Fr.app N42 Nq43
      refine own_goW st43 ?_
      have Sf_b32' := Safe.keep K43 all0 Rc.1 Sf_b32
      replace Rc := Rc.trans (CHr.keep K43 all0 Rc.1)
      replace hk := Nat.le_trans hk K43.1
      replace Sf_b32 := Sf_b32'
      replace O := O.keep K43 all0
      replace Kp := Kp.trans K43 all0
      replace V_b32 := V_b32.keep K43 nin0
      replace Ea_b32 := Ea_b32.keep K43
      show own_GoW p e below s _ _ _ _ (T43.setTop (mkF m 86 #[iv p1, iv p2, iv p3, iv p4, iv p5, iv p6, iv (1 : Int32), iv c27, iv c28, iv c29, iv c30, iv c31, rv b32, .unset, .unset, .unset, .unset, .unset, .unset] [(.ref b43)]))
      obtain ⟨s', hs', hsl⟩ := own_cut1 [(c27.toInt8.toInt32)] 1 (by decide)
      have hcr : ∀ c ∈ ([c27] : List Int32), ¬ (c < (0 : Int32)) ∧ ¬ ((255 : Int32) < c) := (own_ac hr_c27 own_an)
      refine own_goW (fun zt zk => (XS.astore X43.here hx rfl (hb hby at_86) rfl rfl (l' := #[iv p1, iv p2, iv p3, iv p4, iv p5, iv p6, iv (1 : Int32), iv c27, iv c28, iv c29, iv c30, iv c31, rv b32, rv b43, .unset, .unset, .unset, .unset, .unset]) rfl (XS.aload X43.here hx rfl (hb hby at_88) rfl rfl zk))) ?_
      show own_GoW p e below s _ _ _ _ (T43.setTop (mkF m 90 #[iv p1, iv p2, iv p3, iv p4, iv p5, iv p6, iv (1 : Int32), iv c27, iv c28, iv c29, iv c30, iv c31, rv b32, rv b43, .unset, .unset, .unset, .unset, .unset] [(.ref b43)]))
      obtain ⟨_, _, ⟨T44, L44, k44, n44⟩, -, X44, hSq44, hgq44, ⟨Lc44, hQ44, l44, y44, z44, A44⟩, st44⟩ := callSS X43 hx (y := (⟨"com/example/boxwright/boxwright/TableNames", "localName", "(Ljava/lang/String;)Ljava/lang/String;"⟩ : MethodName)) hown (mvT hZ (hw _ (List.mem_of_getElem? (i := 29) rfl))) (mvT hZ (hw _ (List.mem_of_getElem? (i := 30) rfl))) (mvT hZ (hw _ (List.mem_of_getElem? (i := 31) rfl))) (mvT hZ (hw _ (List.mem_of_getElem? (i := 32) rfl))) (by decide) (own_backW (s := s) (W := 0) (own_rln l Z a0 hw [] b43 o_COMPACT_STRINGS o_SIOOBE_FORMATTER t43 kb43 [(c27.toInt8.toInt32)] s' s.vm T43.heap n0 (Nat.le_trans Z0 Kp.1) O S_o_COMPACT_STRINGS S_o_SIOOBE_FORMATTER Ex_b43 Fv43 Fc43 Vt43 nz_o_COMPACT_STRINGS r_o_SIOOBE_FORMATTER (Nat.le_of_ble_eq_true rfl) hsl hs') hZ (hw _ (List.mem_of_getElem? (i := 32) rfl)) (hw _ (List.mem_of_getElem? (i := 31) rfl)) (by decide) (by decide) hEL Rc.1) (g := (mkF m 90 #[iv p1, iv p2, iv p3, iv p4, iv p5, iv p6, iv (1 : Int32), iv c27, iv c28, iv c29, iv c30, iv c31, rv b32, rv b43, .unset, .unset, .unset, .unset, .unset] [(.ref b43)])) rfl (by rw [hml]; rfl) (argsL := [(.ref b43)]) (rest := []) (lenOf own_pd__Ljava_lang_String__Ljava_lang_String_ rfl) rfl (by show 2 * 0 + _ ≤ _; exact Nat.le_of_eq rfl) (hb hby at_90) (fun _ _ => ⟨rfl, rfl, (by decide : 4 + 2 ≤ _), (by decide : 11 + 9 ≤ _)⟩)
      dsimp only [Pt.U, Pt.locs, Pt.cells, Pt.slots] at X44 l44 y44 z44 st44 hQ44 hSq44 hgq44 A44
      subst l44 y44 z44
      obtain ⟨X44, hS44, hZ44, hown44⟩ := rebS hS (hk) X44 hSq44 hgq44 hZ hown
      replace Sf_b32 := CHr.safe A44 V_b32.lt Sf_b32
      replace Rc := Rc.trans A44
      replace hS := hS44
      replace hZ := hZ44
      replace hown := hown44
      have hk : T44.heap.size ≤ T44.heap.size := Nat.le_refl _
      obtain ⟨b44, t44, kb44, rfl, Nq44, K44, Ex_b44, Fv44, Fc44, Vt44⟩ := hQ44
      have N44 := Fr.app N43 Nq44
      refine own_goW (fun zt zk => st44.trans zk) ?_
      replace O := O.keep K44 all0
      replace Kp := Kp.trans K44 all0
      replace V_b32 := V_b32.keep K44 nin0
      replace Ea_b32 := Ea_b32.keep K44
      replace Ex_b43 := Ex_b43.keep K44
      replace Fv43 := Fv43.keep K44 nin0
      replace Fc43 := Fc43.keep K44 nin0
      replace Vt43 := Vt43.keep K44 nin0
      show own_GoW p e below s _ _ _ _ (T44.setTop (mkF m 93 #[iv p1, iv p2, iv p3, iv p4, iv p5, iv p6, iv (1 : Int32), iv c27, iv c28, iv c29, iv c30, iv c31, rv b32, rv b43, .unset, .unset, .unset, .unset, .unset] [(.ref b44)]))
      have el35 : own_la [(c27.toInt8.toInt32)] 35 1 = own_la [c27, c28, c29, c30, c31] 35 1 := own_la_map hcr (by decide) (by decide) 1 (Nat.le_of_ble_eq_true rfl)
      have el47 : own_la [(c27.toInt8.toInt32)] 47 1 = own_la [c27, c28, c29, c30, c31] 47 1 := own_la_map hcr (by decide) (by decide) 1 (Nat.le_of_ble_eq_true rfl)
      refine own_goW (fun zt zk => (XS.astore X44.here hx rfl (hb hby at_93) rfl rfl (l' := #[iv p1, iv p2, iv p3, iv p4, iv p5, iv p6, iv (1 : Int32), iv c27, iv c28, iv c29, iv c30, iv c31, rv b32, rv b43, rv b44, .unset, .unset, .unset, .unset]) rfl (XS.aload X44.here hx rfl (hb hby at_95) rfl rfl (XS.iload X44.here hx rfl (hb hby at_97) rfl (XS.bipush X44.here hx rfl (hb hby at_99) zk))))) ?_
      show own_GoW p e below s _ _ _ _ (T44.setTop (mkF m 101 #[iv p1, iv p2, iv p3, iv p4, iv p5, iv p6, iv (1 : Int32), iv c27, iv c28, iv c29, iv c30, iv c31, rv b32, rv b43, rv b44, .unset, .unset, .unset, .unset] [(.int (35 : Int32)), (.int (1 : Int32)), (.ref b32)]))
      obtain ⟨_, _, ⟨T45, L45, k45, n45⟩, -, X45, ⟨Lc45, hQ45, l45, y45, z45⟩, st45⟩ := Jvm.LawKit.callS X44 hx (y := (⟨"com/example/boxwright/boxwright/TableNamesLocalNamePinLaw", "last", "([CIC)I"⟩ : MethodName)) hown (mvT hZ (hw _ (List.mem_of_getElem? (i := 88) rfl))) (mvT hZ (hw _ (List.mem_of_getElem? (i := 89) rfl))) (mvT hZ (hw _ (List.mem_of_getElem? (i := 2) rfl))) (mvT hZ (hw _ (List.mem_of_getElem? (i := 90) rfl))) (by decide) (backOf (W := 0) (own_rlast1 l Z a0 hw [] b32 (35 : Int32) k32 c27 c28 c29 c30 c31 T44.heap n0 (Nat.le_trans Z0 Kp.1) V_b32) hZ (hw _ (List.mem_of_getElem? (i := 90) rfl)) (hw _ (List.mem_of_getElem? (i := 2) rfl)) (by decide) (by decide)) (g := (mkF m 101 #[iv p1, iv p2, iv p3, iv p4, iv p5, iv p6, iv (1 : Int32), iv c27, iv c28, iv c29, iv c30, iv c31, rv b32, rv b43, rv b44, .unset, .unset, .unset, .unset] [(.int (35 : Int32)), (.int (1 : Int32)), (.ref b32)])) rfl (by rw [hml]; rfl) (argsL := [(.ref b32), (.int (1 : Int32)), (.int (35 : Int32))]) (rest := []) (lenOf own_pd___CIC_I rfl) rfl (by show 2 * 0 + _ ≤ _; exact Nat.le_of_eq rfl) (hb hby at_101) (fun _ _ => ⟨rfl, rfl, (by decide : 6 + 0 ≤ _), (by decide : 20 + 0 ≤ _)⟩)
      dsimp only [Pt.U, Pt.locs, Pt.cells, Pt.slots] at X45 l45 y45 z45 st45 hQ45
      subst l45 y45 z45
      obtain ⟨rfl, Nq45, e45⟩ := hQ45
      have N45 := Fr.app N44 Nq45
      refine own_goW st45 ?_
      show own_GoW p e below s _ _ _ _ (T45.setTop (mkF m 104 #[iv p1, iv p2, iv p3, iv p4, iv p5, iv p6, iv (1 : Int32), iv c27, iv c28, iv c29, iv c30, iv c31, rv b32, rv b43, rv b44, .unset, .unset, .unset, .unset] [(.int (own_la [c27, c28, c29, c30, c31] (35 : Int32) 1))]))
      refine own_goW (fun zt zk => (XS.istore X45.here hx rfl (hb hby at_104) rfl (l' := #[iv p1, iv p2, iv p3, iv p4, iv p5, iv p6, iv (1 : Int32), iv c27, iv c28, iv c29, iv c30, iv c31, rv b32, rv b43, rv b44, iv (own_la [c27, c28, c29, c30, c31] (35 : Int32) 1), .unset, .unset, .unset]) rfl (XS.iload X45.here hx rfl (hb hby at_106) rfl zk))) ?_
      show own_GoW p e below s _ _ _ _ (T45.setTop (mkF m 108 #[iv p1, iv p2, iv p3, iv p4, iv p5, iv p6, iv (1 : Int32), iv c27, iv c28, iv c29, iv c30, iv c31, rv b32, rv b43, rv b44, iv (own_la [c27, c28, c29, c30, c31] (35 : Int32) 1), .unset, .unset, .unset] [(.int (own_la [c27, c28, c29, c30, c31] (35 : Int32) 1))]))
      refine own_use X45 (h := T44.heap) (n0 := n0) (P := fun cut => cut = own_cut [(c27.toInt8.toInt32)] 1) (K := fun T cut => own_GoW p e below s Z (own_Q_own_law Z p1 p2 p3 p4 p5 p6 o_COMPACT_STRINGS o_SIOOBE_FORMATTER h0 n0) room_1.cells room_1.slots (T.setTop (mkF m 125 #[iv p1, iv p2, iv p3, iv p4, iv p5, iv p6, iv (1 : Int32), iv c27, iv c28, iv c29, iv c30, iv c31, rv b32, rv b43, rv b44, iv (own_la [c27, c28, c29, c30, c31] (35 : Int32) 1), .unset, .unset, .unset] [(.int cut)]))) ?_ ?_
      · intro TJ LJ cut XJ eJ NJ hcut
        subst hcut
        show own_GoW p e below s _ _ _ _ (TJ.setTop (mkF m 125 #[iv p1, iv p2, iv p3, iv p4, iv p5, iv p6, iv (1 : Int32), iv c27, iv c28, iv c29, iv c30, iv c31, rv b32, rv b43, rv b44, iv (own_la [c27, c28, c29, c30, c31] (35 : Int32) 1), .unset, .unset, .unset] [(.int (own_cut [(c27.toInt8.toInt32)] 1))]))
        refine own_goW (fun zt zk => (XS.istore XJ.here hx rfl (hb hby at_125) rfl (l' := #[iv p1, iv p2, iv p3, iv p4, iv p5, iv p6, iv (1 : Int32), iv c27, iv c28, iv c29, iv c30, iv c31, rv b32, rv b43, rv b44, iv (own_la [c27, c28, c29, c30, c31] (35 : Int32) 1), iv (own_cut [(c27.toInt8.toInt32)] 1), .unset, .unset]) rfl (XS.iload XJ.here hx rfl (hb hby at_127) rfl (XS.iconst XJ.here hx rfl (hb hby at_129) (XS.iadd XJ.here hx rfl (hb hby at_130) rfl zk))))) ?_
        show own_GoW p e below s _ _ _ _ (TJ.setTop (mkF m 131 #[iv p1, iv p2, iv p3, iv p4, iv p5, iv p6, iv (1 : Int32), iv c27, iv c28, iv c29, iv c30, iv c31, rv b32, rv b43, rv b44, iv (own_la [c27, c28, c29, c30, c31] (35 : Int32) 1), iv (own_cut [(c27.toInt8.toInt32)] 1), .unset, .unset] [(.int ((own_cut [(c27.toInt8.toInt32)] 1) + (1 : Int32)))]))
        rw [hs']
        show own_GoW p e below s _ _ _ _ (TJ.setTop (mkF m 131 #[iv p1, iv p2, iv p3, iv p4, iv p5, iv p6, iv (1 : Int32), iv c27, iv c28, iv c29, iv c30, iv c31, rv b32, rv b43, rv b44, iv (own_la [c27, c28, c29, c30, c31] (35 : Int32) 1), iv (own_cut [(c27.toInt8.toInt32)] 1), .unset, .unset] [(.int (Int32.ofNat s'))]))
        refine own_goW (fun zt zk => (XS.istore XJ.here hx rfl (hb hby at_131) rfl (l' := #[iv p1, iv p2, iv p3, iv p4, iv p5, iv p6, iv (1 : Int32), iv c27, iv c28, iv c29, iv c30, iv c31, rv b32, rv b43, rv b44, iv (own_la [c27, c28, c29, c30, c31] (35 : Int32) 1), iv (own_cut [(c27.toInt8.toInt32)] 1), iv (Int32.ofNat s'), .unset]) rfl (XS.iload XJ.here hx rfl (hb hby at_133) rfl (XS.iload XJ.here hx rfl (hb hby at_135) rfl (XS.isub XJ.here hx rfl (hb hby at_137) rfl zk))))) ?_
        show own_GoW p e below s _ _ _ _ (TJ.setTop (mkF m 138 #[iv p1, iv p2, iv p3, iv p4, iv p5, iv p6, iv (1 : Int32), iv c27, iv c28, iv c29, iv c30, iv c31, rv b32, rv b43, rv b44, iv (own_la [c27, c28, c29, c30, c31] (35 : Int32) 1), iv (own_cut [(c27.toInt8.toInt32)] 1), iv (Int32.ofNat s'), .unset] [(.int ((1 : Int32) - (Int32.ofNat s')))]))
        rw [show (1 : Int32) - Int32.ofNat s' = Int32.ofNat (1 - s') from own_subN (n := 1) hsl (by omega)]
        show own_GoW p e below s _ _ _ _ (TJ.setTop (mkF m 138 #[iv p1, iv p2, iv p3, iv p4, iv p5, iv p6, iv (1 : Int32), iv c27, iv c28, iv c29, iv c30, iv c31, rv b32, rv b43, rv b44, iv (own_la [c27, c28, c29, c30, c31] (35 : Int32) 1), iv (own_cut [(c27.toInt8.toInt32)] 1), iv (Int32.ofNat s'), .unset] [(.int (Int32.ofNat (1 - s')))]))
        refine own_goW (fun zt zk => (XS.istore XJ.here hx rfl (hb hby at_138) rfl (l' := #[iv p1, iv p2, iv p3, iv p4, iv p5, iv p6, iv (1 : Int32), iv c27, iv c28, iv c29, iv c30, iv c31, rv b32, rv b43, rv b44, iv (own_la [c27, c28, c29, c30, c31] (35 : Int32) 1), iv (own_cut [(c27.toInt8.toInt32)] 1), iv (Int32.ofNat s'), iv (Int32.ofNat (1 - s'))]) rfl (XS.aload XJ.here hx rfl (hb hby at_140) rfl rfl zk))) ?_
        show own_GoW p e below s _ _ _ _ (TJ.setTop (mkF m 142 #[iv p1, iv p2, iv p3, iv p4, iv p5, iv p6, iv (1 : Int32), iv c27, iv c28, iv c29, iv c30, iv c31, rv b32, rv b43, rv b44, iv (own_la [c27, c28, c29, c30, c31] (35 : Int32) 1), iv (own_cut [(c27.toInt8.toInt32)] 1), iv (Int32.ofNat s'), iv (Int32.ofNat (1 - s'))] [(.ref b44)]))
        obtain ⟨cq46, kq46, qa46, qb46, qc46⟩ := isOf hZ eJ Ex_b44
        obtain ⟨_, _, ⟨T46, L46, k46, n46⟩, -, X46, ⟨Lc46, hQ46, l46, y46, z46⟩, st46⟩ := XJ.virtualBack hx (y := (⟨"java/lang/String", "length", "()I"⟩ : MethodName)) (z := (⟨"java/lang/String", "length", "()I"⟩ : MethodName)) hown (mvT hZ (hw _ (List.mem_of_getElem? (i := 91) rfl))) (mvT hZ (hw _ (List.mem_of_getElem? (i := 39) rfl))) (notFace_of_selects (args := #[]) (mvT hZ (hw _ (List.mem_of_getElem? (i := 41) rfl)))) (mvT hZ (hw _ (List.mem_of_getElem? (i := 41) rfl))) (mvT hZ (hw _ (List.mem_of_getElem? (i := 40) rfl))) (by decide) (backOf (W := 0) (own_rlen l Z a0 hw [] b44 o_COMPACT_STRINGS t44 kb44 (Int32.ofNat ([(c27.toInt8.toInt32)].length - s')) (([(c27.toInt8.toInt32)].drop s').map Value.int) T44.heap n0 (Nat.le_trans Z0 Kp.1) O S_o_COMPACT_STRINGS Ex_b44 Fv44 Fc44 Vt44 nz_o_COMPACT_STRINGS) hZ (hw _ (List.mem_of_getElem? (i := 42) rfl)) (hw _ (List.mem_of_getElem? (i := 10) rfl)) (by decide) (by decide)) qa46 qc46 (g := (mkF m 142 #[iv p1, iv p2, iv p3, iv p4, iv p5, iv p6, iv (1 : Int32), iv c27, iv c28, iv c29, iv c30, iv c31, rv b32, rv b43, rv b44, iv (own_la [c27, c28, c29, c30, c31] (35 : Int32) 1), iv (own_cut [(c27.toInt8.toInt32)] 1), iv (Int32.ofNat s'), iv (Int32.ofNat (1 - s'))] [(.ref b44)])) rfl (by rw [hml]; rfl) (Steps.refl _) (argsL := []) (rest := []) (lenOf own_pd___I rfl) rfl (by show 2 * 0 + _ ≤ _; exact Nat.le_of_eq rfl) (hb hby at_142) (fun _ _ => ⟨rfl, eJ, (by decide : 6 + 0 ≤ _), (by decide : 20 + 0 ≤ _)⟩)
        dsimp only [Pt.U, Pt.locs, Pt.cells, Pt.slots] at X46 l46 y46 z46 st46 hQ46
        subst l46 y46 z46
        obtain ⟨rfl, Nq46, e46⟩ := hQ46
        have N46 := Fr.app NJ Nq46
        refine own_goW (fun zt zk => st46.trans zk) ?_
        show own_GoW p e below s _ _ _ _ (T46.setTop (mkF m 145 #[iv p1, iv p2, iv p3, iv p4, iv p5, iv p6, iv (1 : Int32), iv c27, iv c28, iv c29, iv c30, iv c31, rv b32, rv b43, rv b44, iv (own_la [c27, c28, c29, c30, c31] (35 : Int32) 1), iv (own_cut [(c27.toInt8.toInt32)] 1), iv (Int32.ofNat s'), iv (Int32.ofNat (1 - s'))] [(.int (Int32.ofNat (1 - s')))]))
        refine own_goW (fun zt zk => (XS.iload X46.here hx rfl (hb hby at_145) rfl (XS.icmpYes X46.here hx rfl (pc0 := 147) (pc' := 152) rfl (hb hby at_147) rfl (teq (rfl : (Int32.ofNat (1 - s')) = (Int32.ofNat (1 - s')))).1 (by decide) (by decide) (XS.aload X46.here hx rfl (hb hby at_152) rfl rfl (XS.aload X46.here hx rfl (hb hby at_154) rfl rfl (XS.iload X46.here hx rfl (hb hby at_156) rfl (XS.iload X46.here hx rfl (hb hby at_158) rfl (XS.iconst X46.here hx rfl (hb hby at_160) zk)))))))) ?_
        show own_GoW p e below s _ _ _ _ (T46.setTop (mkF m 161 #[iv p1, iv p2, iv p3, iv p4, iv p5, iv p6, iv (1 : Int32), iv c27, iv c28, iv c29, iv c30, iv c31, rv b32, rv b43, rv b44, iv (own_la [c27, c28, c29, c30, c31] (35 : Int32) 1), iv (own_cut [(c27.toInt8.toInt32)] 1), iv (Int32.ofNat s'), iv (Int32.ofNat (1 - s'))] [(.int (0 : Int32)), (.int (Int32.ofNat (1 - s'))), (.int (Int32.ofNat s')), (.ref b32), (.ref b44)]))
        have hyl : ([(c27.toInt8.toInt32)].drop s').length = 1 - s' := by rw [List.length_drop]; rfl
        have hrel : ∀ j, j < 1 - s' → (([(c27.toInt8.toInt32)].drop s').getD j 0 &&& (255 : Int32)) = [c27, c28, c29, c30, c31].getD (s' + j) 0 := fun j hj => own_rel [c27] [c27, c28, c29, c30, c31] hcr (Nat.le_of_ble_eq_true rfl) rfl j (by rw [← hyl] at hj; exact hj)
        obtain ⟨_, _, ⟨T47, L47, k47, n47⟩, -, X47, ⟨Lc47, hQ47, l47, y47, z47⟩, st47⟩ := Jvm.LawKit.callS X46 hx (y := (⟨"com/example/boxwright/boxwright/TableNamesLocalNamePinLaw", "at", "(Ljava/lang/String;[CIII)Z"⟩ : MethodName)) hown (mvT hZ (hw _ (List.mem_of_getElem? (i := 92) rfl))) (mvT hZ (hw _ (List.mem_of_getElem? (i := 93) rfl))) (mvT hZ (hw _ (List.mem_of_getElem? (i := 2) rfl))) (mvT hZ (hw _ (List.mem_of_getElem? (i := 94) rfl))) (by decide) (backOf (W := 0) (own_rat0 l Z a0 hw [] b44 b32 o_COMPACT_STRINGS o_SIOOBE_FORMATTER t44 kb44 ([(c27.toInt8.toInt32)].drop s') (1 - s') s' k32 c27 c28 c29 c30 c31 T44.heap n0 (Nat.le_trans Z0 Kp.1) O S_o_COMPACT_STRINGS S_o_SIOOBE_FORMATTER Ex_b44 Fv44 Fc44 Vt44 V_b32 nz_o_COMPACT_STRINGS r_o_SIOOBE_FORMATTER (by omega) hrel) hZ (hw _ (List.mem_of_getElem? (i := 94) rfl)) (hw _ (List.mem_of_getElem? (i := 2) rfl)) (by decide) (by decide)) (g := (mkF m 161 #[iv p1, iv p2, iv p3, iv p4, iv p5, iv p6, iv (1 : Int32), iv c27, iv c28, iv c29, iv c30, iv c31, rv b32, rv b43, rv b44, iv (own_la [c27, c28, c29, c30, c31] (35 : Int32) 1), iv (own_cut [(c27.toInt8.toInt32)] 1), iv (Int32.ofNat s'), iv (Int32.ofNat (1 - s'))] [(.int (0 : Int32)), (.int (Int32.ofNat (1 - s'))), (.int (Int32.ofNat s')), (.ref b32), (.ref b44)])) rfl (by rw [hml]; rfl) (argsL := [(.ref b44), (.ref b32), (.int (Int32.ofNat s')), (.int (Int32.ofNat (1 - s'))), (.int (0 : Int32))]) (rest := []) (lenOf own_pd__Ljava_lang_String__CIII_Z rfl) rfl (by show 2 * 0 + _ ≤ _; exact Nat.le_of_eq rfl) (hb hby at_161) (fun _ _ => ⟨rfl, e46, (by decide : 6 + 0 ≤ _), (by decide : 20 + 0 ≤ _)⟩)
        dsimp only [Pt.U, Pt.locs, Pt.cells, Pt.slots] at X47 l47 y47 z47 st47 hQ47
        subst l47 y47 z47
        obtain ⟨rfl, Nq47, e47⟩ := hQ47
        have N47 := Fr.app N46 Nq47
        refine own_goW st47 ?_
        show own_GoW p e below s _ _ _ _ (T47.setTop (mkF m 164 #[iv p1, iv p2, iv p3, iv p4, iv p5, iv p6, iv (1 : Int32), iv c27, iv c28, iv c29, iv c30, iv c31, rv b32, rv b43, rv b44, iv (own_la [c27, c28, c29, c30, c31] (35 : Int32) 1), iv (own_cut [(c27.toInt8.toInt32)] 1), iv (Int32.ofNat s'), iv (Int32.ofNat (1 - s'))] [(.int (1 : Int32))]))
        refine own_goW (fun zt zk => (XS.ifNo X47.here hx rfl (hb hby at_164) rfl ((if0 _ _).trans (feq ((by decide) : ¬ ((1 : Int32) = (0 : Int32)))).1) (XS.aload X47.here hx rfl (hb hby at_167) rfl rfl (XS.aload X47.here hx rfl (hb hby at_169) rfl rfl (XS.iload X47.here hx rfl (hb hby at_171) rfl (XS.iload X47.here hx rfl (hb hby at_173) rfl (XS.iconst X47.here hx rfl (hb hby at_175) zk))))))) ?_
        show own_GoW p e below s _ _ _ _ (T47.setTop (mkF m 176 #[iv p1, iv p2, iv p3, iv p4, iv p5, iv p6, iv (1 : Int32), iv c27, iv c28, iv c29, iv c30, iv c31, rv b32, rv b43, rv b44, iv (own_la [c27, c28, c29, c30, c31] (35 : Int32) 1), iv (own_cut [(c27.toInt8.toInt32)] 1), iv (Int32.ofNat s'), iv (Int32.ofNat (1 - s'))] [(.int (1 : Int32)), (.int (Int32.ofNat (1 - s'))), (.int (Int32.ofNat s')), (.ref b32), (.ref b44)]))
        obtain ⟨_, _, ⟨T48, L48, k48, n48⟩, -, X48, ⟨Lc48, hQ48, l48, y48, z48⟩, st48⟩ := Jvm.LawKit.callS X47 hx (y := (⟨"com/example/boxwright/boxwright/TableNamesLocalNamePinLaw", "at", "(Ljava/lang/String;[CIII)Z"⟩ : MethodName)) hown (mvT hZ (hw _ (List.mem_of_getElem? (i := 92) rfl))) (mvT hZ (hw _ (List.mem_of_getElem? (i := 93) rfl))) (mvT hZ (hw _ (List.mem_of_getElem? (i := 2) rfl))) (mvT hZ (hw _ (List.mem_of_getElem? (i := 94) rfl))) (by decide) (backOf (W := 0) (own_rat1 l Z a0 hw [] b44 b32 o_COMPACT_STRINGS o_SIOOBE_FORMATTER t44 kb44 ([(c27.toInt8.toInt32)].drop s') (1 - s') s' k32 c27 c28 c29 c30 c31 T44.heap n0 (Nat.le_trans Z0 Kp.1) O S_o_COMPACT_STRINGS S_o_SIOOBE_FORMATTER Ex_b44 Fv44 Fc44 Vt44 V_b32 nz_o_COMPACT_STRINGS r_o_SIOOBE_FORMATTER (by omega) hrel) hZ (hw _ (List.mem_of_getElem? (i := 94) rfl)) (hw _ (List.mem_of_getElem? (i := 2) rfl)) (by decide) (by decide)) (g := (mkF m 176 #[iv p1, iv p2, iv p3, iv p4, iv p5, iv p6, iv (1 : Int32), iv c27, iv c28, iv c29, iv c30, iv c31, rv b32, rv b43, rv b44, iv (own_la [c27, c28, c29, c30, c31] (35 : Int32) 1), iv (own_cut [(c27.toInt8.toInt32)] 1), iv (Int32.ofNat s'), iv (Int32.ofNat (1 - s'))] [(.int (1 : Int32)), (.int (Int32.ofNat (1 - s'))), (.int (Int32.ofNat s')), (.ref b32), (.ref b44)])) rfl (by rw [hml]; rfl) (argsL := [(.ref b44), (.ref b32), (.int (Int32.ofNat s')), (.int (Int32.ofNat (1 - s'))), (.int (1 : Int32))]) (rest := []) (lenOf own_pd__Ljava_lang_String__CIII_Z rfl) rfl (by show 2 * 0 + _ ≤ _; exact Nat.le_of_eq rfl) (hb hby at_176) (fun _ _ => ⟨rfl, e47, (by decide : 6 + 0 ≤ _), (by decide : 20 + 0 ≤ _)⟩)
        dsimp only [Pt.U, Pt.locs, Pt.cells, Pt.slots] at X48 l48 y48 z48 st48 hQ48
        subst l48 y48 z48
        obtain ⟨rfl, Nq48, e48⟩ := hQ48
        have N48 := Fr.app N47 Nq48
        refine own_goW st48 ?_
        show own_GoW p e below s _ _ _ _ (T48.setTop (mkF m 179 #[iv p1, iv p2, iv p3, iv p4, iv p5, iv p6, iv (1 : Int32), iv c27, iv c28, iv c29, iv c30, iv c31, rv b32, rv b43, rv b44, iv (own_la [c27, c28, c29, c30, c31] (35 : Int32) 1), iv (own_cut [(c27.toInt8.toInt32)] 1), iv (Int32.ofNat s'), iv (Int32.ofNat (1 - s'))] [(.int (1 : Int32))]))
        refine own_goW (fun zt zk => (XS.ifNo X48.here hx rfl (hb hby at_179) rfl ((if0 _ _).trans (feq ((by decide) : ¬ ((1 : Int32) = (0 : Int32)))).1) (XS.aload X48.here hx rfl (hb hby at_182) rfl rfl (XS.aload X48.here hx rfl (hb hby at_184) rfl rfl (XS.iload X48.here hx rfl (hb hby at_186) rfl (XS.iload X48.here hx rfl (hb hby at_188) rfl (XS.iconst X48.here hx rfl (hb hby at_190) zk))))))) ?_
        show own_GoW p e below s _ _ _ _ (T48.setTop (mkF m 191 #[iv p1, iv p2, iv p3, iv p4, iv p5, iv p6, iv (1 : Int32), iv c27, iv c28, iv c29, iv c30, iv c31, rv b32, rv b43, rv b44, iv (own_la [c27, c28, c29, c30, c31] (35 : Int32) 1), iv (own_cut [(c27.toInt8.toInt32)] 1), iv (Int32.ofNat s'), iv (Int32.ofNat (1 - s'))] [(.int (2 : Int32)), (.int (Int32.ofNat (1 - s'))), (.int (Int32.ofNat s')), (.ref b32), (.ref b44)]))
        obtain ⟨_, _, ⟨T49, L49, k49, n49⟩, -, X49, ⟨Lc49, hQ49, l49, y49, z49⟩, st49⟩ := Jvm.LawKit.callS X48 hx (y := (⟨"com/example/boxwright/boxwright/TableNamesLocalNamePinLaw", "at", "(Ljava/lang/String;[CIII)Z"⟩ : MethodName)) hown (mvT hZ (hw _ (List.mem_of_getElem? (i := 92) rfl))) (mvT hZ (hw _ (List.mem_of_getElem? (i := 93) rfl))) (mvT hZ (hw _ (List.mem_of_getElem? (i := 2) rfl))) (mvT hZ (hw _ (List.mem_of_getElem? (i := 94) rfl))) (by decide) (backOf (W := 0) (own_rat2 l Z a0 hw [] b44 b32 o_COMPACT_STRINGS o_SIOOBE_FORMATTER t44 kb44 ([(c27.toInt8.toInt32)].drop s') (1 - s') s' k32 c27 c28 c29 c30 c31 T44.heap n0 (Nat.le_trans Z0 Kp.1) O S_o_COMPACT_STRINGS S_o_SIOOBE_FORMATTER Ex_b44 Fv44 Fc44 Vt44 V_b32 nz_o_COMPACT_STRINGS r_o_SIOOBE_FORMATTER (by omega) hrel) hZ (hw _ (List.mem_of_getElem? (i := 94) rfl)) (hw _ (List.mem_of_getElem? (i := 2) rfl)) (by decide) (by decide)) (g := (mkF m 191 #[iv p1, iv p2, iv p3, iv p4, iv p5, iv p6, iv (1 : Int32), iv c27, iv c28, iv c29, iv c30, iv c31, rv b32, rv b43, rv b44, iv (own_la [c27, c28, c29, c30, c31] (35 : Int32) 1), iv (own_cut [(c27.toInt8.toInt32)] 1), iv (Int32.ofNat s'), iv (Int32.ofNat (1 - s'))] [(.int (2 : Int32)), (.int (Int32.ofNat (1 - s'))), (.int (Int32.ofNat s')), (.ref b32), (.ref b44)])) rfl (by rw [hml]; rfl) (argsL := [(.ref b44), (.ref b32), (.int (Int32.ofNat s')), (.int (Int32.ofNat (1 - s'))), (.int (2 : Int32))]) (rest := []) (lenOf own_pd__Ljava_lang_String__CIII_Z rfl) rfl (by show 2 * 0 + _ ≤ _; exact Nat.le_of_eq rfl) (hb hby at_191) (fun _ _ => ⟨rfl, e48, (by decide : 6 + 0 ≤ _), (by decide : 20 + 0 ≤ _)⟩)
        dsimp only [Pt.U, Pt.locs, Pt.cells, Pt.slots] at X49 l49 y49 z49 st49 hQ49
        subst l49 y49 z49
        obtain ⟨rfl, Nq49, e49⟩ := hQ49
        have N49 := Fr.app N48 Nq49
        refine own_goW st49 ?_
        show own_GoW p e below s _ _ _ _ (T49.setTop (mkF m 194 #[iv p1, iv p2, iv p3, iv p4, iv p5, iv p6, iv (1 : Int32), iv c27, iv c28, iv c29, iv c30, iv c31, rv b32, rv b43, rv b44, iv (own_la [c27, c28, c29, c30, c31] (35 : Int32) 1), iv (own_cut [(c27.toInt8.toInt32)] 1), iv (Int32.ofNat s'), iv (Int32.ofNat (1 - s'))] [(.int (1 : Int32))]))
        refine own_goW (fun zt zk => (XS.ifNo X49.here hx rfl (hb hby at_194) rfl ((if0 _ _).trans (feq ((by decide) : ¬ ((1 : Int32) = (0 : Int32)))).1) (XS.aload X49.here hx rfl (hb hby at_197) rfl rfl (XS.aload X49.here hx rfl (hb hby at_199) rfl rfl (XS.iload X49.here hx rfl (hb hby at_201) rfl (XS.iload X49.here hx rfl (hb hby at_203) rfl (XS.iconst X49.here hx rfl (hb hby at_205) zk))))))) ?_
        show own_GoW p e below s _ _ _ _ (T49.setTop (mkF m 206 #[iv p1, iv p2, iv p3, iv p4, iv p5, iv p6, iv (1 : Int32), iv c27, iv c28, iv c29, iv c30, iv c31, rv b32, rv b43, rv b44, iv (own_la [c27, c28, c29, c30, c31] (35 : Int32) 1), iv (own_cut [(c27.toInt8.toInt32)] 1), iv (Int32.ofNat s'), iv (Int32.ofNat (1 - s'))] [(.int (3 : Int32)), (.int (Int32.ofNat (1 - s'))), (.int (Int32.ofNat s')), (.ref b32), (.ref b44)]))
        obtain ⟨_, _, ⟨T50, L50, k50, n50⟩, -, X50, ⟨Lc50, hQ50, l50, y50, z50⟩, st50⟩ := Jvm.LawKit.callS X49 hx (y := (⟨"com/example/boxwright/boxwright/TableNamesLocalNamePinLaw", "at", "(Ljava/lang/String;[CIII)Z"⟩ : MethodName)) hown (mvT hZ (hw _ (List.mem_of_getElem? (i := 92) rfl))) (mvT hZ (hw _ (List.mem_of_getElem? (i := 93) rfl))) (mvT hZ (hw _ (List.mem_of_getElem? (i := 2) rfl))) (mvT hZ (hw _ (List.mem_of_getElem? (i := 94) rfl))) (by decide) (backOf (W := 0) (own_rat3 l Z a0 hw [] b44 b32 o_COMPACT_STRINGS o_SIOOBE_FORMATTER t44 kb44 ([(c27.toInt8.toInt32)].drop s') (1 - s') s' k32 c27 c28 c29 c30 c31 T44.heap n0 (Nat.le_trans Z0 Kp.1) O S_o_COMPACT_STRINGS S_o_SIOOBE_FORMATTER Ex_b44 Fv44 Fc44 Vt44 V_b32 nz_o_COMPACT_STRINGS r_o_SIOOBE_FORMATTER (by omega) hrel) hZ (hw _ (List.mem_of_getElem? (i := 94) rfl)) (hw _ (List.mem_of_getElem? (i := 2) rfl)) (by decide) (by decide)) (g := (mkF m 206 #[iv p1, iv p2, iv p3, iv p4, iv p5, iv p6, iv (1 : Int32), iv c27, iv c28, iv c29, iv c30, iv c31, rv b32, rv b43, rv b44, iv (own_la [c27, c28, c29, c30, c31] (35 : Int32) 1), iv (own_cut [(c27.toInt8.toInt32)] 1), iv (Int32.ofNat s'), iv (Int32.ofNat (1 - s'))] [(.int (3 : Int32)), (.int (Int32.ofNat (1 - s'))), (.int (Int32.ofNat s')), (.ref b32), (.ref b44)])) rfl (by rw [hml]; rfl) (argsL := [(.ref b44), (.ref b32), (.int (Int32.ofNat s')), (.int (Int32.ofNat (1 - s'))), (.int (3 : Int32))]) (rest := []) (lenOf own_pd__Ljava_lang_String__CIII_Z rfl) rfl (by show 2 * 0 + _ ≤ _; exact Nat.le_of_eq rfl) (hb hby at_206) (fun _ _ => ⟨rfl, e49, (by decide : 6 + 0 ≤ _), (by decide : 20 + 0 ≤ _)⟩)
        dsimp only [Pt.U, Pt.locs, Pt.cells, Pt.slots] at X50 l50 y50 z50 st50 hQ50
        subst l50 y50 z50
        obtain ⟨rfl, Nq50, e50⟩ := hQ50
        have N50 := Fr.app N49 Nq50
        refine own_goW st50 ?_
        show own_GoW p e below s _ _ _ _ (T50.setTop (mkF m 209 #[iv p1, iv p2, iv p3, iv p4, iv p5, iv p6, iv (1 : Int32), iv c27, iv c28, iv c29, iv c30, iv c31, rv b32, rv b43, rv b44, iv (own_la [c27, c28, c29, c30, c31] (35 : Int32) 1), iv (own_cut [(c27.toInt8.toInt32)] 1), iv (Int32.ofNat s'), iv (Int32.ofNat (1 - s'))] [(.int (1 : Int32))]))
        refine own_goW (fun zt zk => (XS.ifNo X50.here hx rfl (hb hby at_209) rfl ((if0 _ _).trans (feq ((by decide) : ¬ ((1 : Int32) = (0 : Int32)))).1) (XS.aload X50.here hx rfl (hb hby at_212) rfl rfl (XS.aload X50.here hx rfl (hb hby at_214) rfl rfl (XS.iload X50.here hx rfl (hb hby at_216) rfl (XS.iload X50.here hx rfl (hb hby at_218) rfl (XS.iconst X50.here hx rfl (hb hby at_220) zk))))))) ?_
        show own_GoW p e below s _ _ _ _ (T50.setTop (mkF m 221 #[iv p1, iv p2, iv p3, iv p4, iv p5, iv p6, iv (1 : Int32), iv c27, iv c28, iv c29, iv c30, iv c31, rv b32, rv b43, rv b44, iv (own_la [c27, c28, c29, c30, c31] (35 : Int32) 1), iv (own_cut [(c27.toInt8.toInt32)] 1), iv (Int32.ofNat s'), iv (Int32.ofNat (1 - s'))] [(.int (4 : Int32)), (.int (Int32.ofNat (1 - s'))), (.int (Int32.ofNat s')), (.ref b32), (.ref b44)]))
        obtain ⟨_, _, ⟨T51, L51, k51, n51⟩, -, X51, ⟨Lc51, hQ51, l51, y51, z51⟩, st51⟩ := Jvm.LawKit.callS X50 hx (y := (⟨"com/example/boxwright/boxwright/TableNamesLocalNamePinLaw", "at", "(Ljava/lang/String;[CIII)Z"⟩ : MethodName)) hown (mvT hZ (hw _ (List.mem_of_getElem? (i := 92) rfl))) (mvT hZ (hw _ (List.mem_of_getElem? (i := 93) rfl))) (mvT hZ (hw _ (List.mem_of_getElem? (i := 2) rfl))) (mvT hZ (hw _ (List.mem_of_getElem? (i := 94) rfl))) (by decide) (backOf (W := 0) (own_rat4 l Z a0 hw [] b44 b32 o_COMPACT_STRINGS o_SIOOBE_FORMATTER t44 kb44 ([(c27.toInt8.toInt32)].drop s') (1 - s') s' k32 c27 c28 c29 c30 c31 T44.heap n0 (Nat.le_trans Z0 Kp.1) O S_o_COMPACT_STRINGS S_o_SIOOBE_FORMATTER Ex_b44 Fv44 Fc44 Vt44 V_b32 nz_o_COMPACT_STRINGS r_o_SIOOBE_FORMATTER (by omega) hrel) hZ (hw _ (List.mem_of_getElem? (i := 94) rfl)) (hw _ (List.mem_of_getElem? (i := 2) rfl)) (by decide) (by decide)) (g := (mkF m 221 #[iv p1, iv p2, iv p3, iv p4, iv p5, iv p6, iv (1 : Int32), iv c27, iv c28, iv c29, iv c30, iv c31, rv b32, rv b43, rv b44, iv (own_la [c27, c28, c29, c30, c31] (35 : Int32) 1), iv (own_cut [(c27.toInt8.toInt32)] 1), iv (Int32.ofNat s'), iv (Int32.ofNat (1 - s'))] [(.int (4 : Int32)), (.int (Int32.ofNat (1 - s'))), (.int (Int32.ofNat s')), (.ref b32), (.ref b44)])) rfl (by rw [hml]; rfl) (argsL := [(.ref b44), (.ref b32), (.int (Int32.ofNat s')), (.int (Int32.ofNat (1 - s'))), (.int (4 : Int32))]) (rest := []) (lenOf own_pd__Ljava_lang_String__CIII_Z rfl) rfl (by show 2 * 0 + _ ≤ _; exact Nat.le_of_eq rfl) (hb hby at_221) (fun _ _ => ⟨rfl, e50, (by decide : 6 + 0 ≤ _), (by decide : 20 + 0 ≤ _)⟩)
        dsimp only [Pt.U, Pt.locs, Pt.cells, Pt.slots] at X51 l51 y51 z51 st51 hQ51
        subst l51 y51 z51
        obtain ⟨rfl, Nq51, e51⟩ := hQ51
        have N51 := Fr.app N50 Nq51
        refine own_goW st51 ?_
        show own_GoW p e below s _ _ _ _ (T51.setTop (mkF m 224 #[iv p1, iv p2, iv p3, iv p4, iv p5, iv p6, iv (1 : Int32), iv c27, iv c28, iv c29, iv c30, iv c31, rv b32, rv b43, rv b44, iv (own_la [c27, c28, c29, c30, c31] (35 : Int32) 1), iv (own_cut [(c27.toInt8.toInt32)] 1), iv (Int32.ofNat s'), iv (Int32.ofNat (1 - s'))] [(.int (1 : Int32))]))
        refine own_goW (fun zt zk => (XS.ifNo X51.here hx rfl (hb hby at_224) rfl ((if0 _ _).trans (feq ((by decide) : ¬ ((1 : Int32) = (0 : Int32)))).1) (XS.iconst X51.here hx rfl (hb hby at_227) (XS.goto X51.here hx rfl (pc0 := 228) (pc' := 232) rfl (hb hby at_228) (by decide) (by decide) zk)))) ?_
        show own_GoW p e below s _ _ _ _ (T51.setTop (mkF m 232 #[iv p1, iv p2, iv p3, iv p4, iv p5, iv p6, iv (1 : Int32), iv c27, iv c28, iv c29, iv c30, iv c31, rv b32, rv b43, rv b44, iv (own_la [c27, c28, c29, c30, c31] (35 : Int32) 1), iv (own_cut [(c27.toInt8.toInt32)] 1), iv (Int32.ofNat s'), iv (Int32.ofNat (1 - s'))] [(.int (1 : Int32))]))
        have Re := Rc.trans (CHv.at X51 hZ hEL Rc.1)
        exact own_finW X51 hS (by rw [e51]; exact hk) (by rw [e51, hh]; exact Re) Bd.notSynchronized (fun h => by rw [Bd.returns] at h; cases h) (fun fs hr => retN X51 hx (t := .boolean) Bd.returns (by simp) (hb hby at_232) hr) (by rw [e51]; exact ⟨rfl, N51⟩) (by decide) (by decide)
      · intro tail
        show own_GoW p e below s _ _ _ _ (T45.setTop (mkF m 108 #[iv p1, iv p2, iv p3, iv p4, iv p5, iv p6, iv (1 : Int32), iv c27, iv c28, iv c29, iv c30, iv c31, rv b32, rv b43, rv b44, iv (own_la [c27, c28, c29, c30, c31] (35 : Int32) 1), .unset, .unset, .unset] [(.int (own_la [c27, c28, c29, c30, c31] (35 : Int32) 1))]))
        by_cases hB : (own_la [c27, c28, c29, c30, c31] (35 : Int32) 1) < (0 : Int32)
        · refine own_goW (fun zt zk => (XS.ifYes X45.here hx rfl (pc0 := 108) (pc' := 116) rfl (hb hby at_108) rfl ((if0 _ _).trans (tlt (hB : (own_la [c27, c28, c29, c30, c31] (35 : Int32) 1) < (0 : Int32))).1) (by decide) (by decide) (XS.aload X45.here hx rfl (hb hby at_116) rfl rfl (XS.iload X45.here hx rfl (hb hby at_118) rfl (XS.bipush X45.here hx rfl (hb hby at_120) zk))))) ?_
          show own_GoW p e below s _ _ _ _ (T45.setTop (mkF m 122 #[iv p1, iv p2, iv p3, iv p4, iv p5, iv p6, iv (1 : Int32), iv c27, iv c28, iv c29, iv c30, iv c31, rv b32, rv b43, rv b44, iv (own_la [c27, c28, c29, c30, c31] (35 : Int32) 1), .unset, .unset, .unset] [(.int (47 : Int32)), (.int (1 : Int32)), (.ref b32)]))
          obtain ⟨_, _, ⟨T52, L52, k52, n52⟩, -, X52, ⟨Lc52, hQ52, l52, y52, z52⟩, st52⟩ := Jvm.LawKit.callS X45 hx (y := (⟨"com/example/boxwright/boxwright/TableNamesLocalNamePinLaw", "last", "([CIC)I"⟩ : MethodName)) hown (mvT hZ (hw _ (List.mem_of_getElem? (i := 88) rfl))) (mvT hZ (hw _ (List.mem_of_getElem? (i := 89) rfl))) (mvT hZ (hw _ (List.mem_of_getElem? (i := 2) rfl))) (mvT hZ (hw _ (List.mem_of_getElem? (i := 90) rfl))) (by decide) (backOf (W := 0) (own_rlast1 l Z a0 hw [] b32 (47 : Int32) k32 c27 c28 c29 c30 c31 T44.heap n0 (Nat.le_trans Z0 Kp.1) V_b32) hZ (hw _ (List.mem_of_getElem? (i := 90) rfl)) (hw _ (List.mem_of_getElem? (i := 2) rfl)) (by decide) (by decide)) (g := (mkF m 122 #[iv p1, iv p2, iv p3, iv p4, iv p5, iv p6, iv (1 : Int32), iv c27, iv c28, iv c29, iv c30, iv c31, rv b32, rv b43, rv b44, iv (own_la [c27, c28, c29, c30, c31] (35 : Int32) 1), .unset, .unset, .unset] [(.int (47 : Int32)), (.int (1 : Int32)), (.ref b32)])) rfl (by rw [hml]; rfl) (argsL := [(.ref b32), (.int (1 : Int32)), (.int (47 : Int32))]) (rest := []) (lenOf own_pd___CIC_I rfl) rfl (by show 2 * 0 + _ ≤ _; exact Nat.le_of_eq rfl) (hb hby at_122) (fun _ _ => ⟨rfl, e45, (by decide : 6 + 0 ≤ _), (by decide : 20 + 0 ≤ _)⟩)
          dsimp only [Pt.U, Pt.locs, Pt.cells, Pt.slots] at X52 l52 y52 z52 st52 hQ52
          subst l52 y52 z52
          obtain ⟨rfl, Nq52, e52⟩ := hQ52
          have N52 := Fr.app N45 Nq52
          refine own_goW st52 ?_
          show own_GoW p e below s _ _ _ _ (T52.setTop (mkF m 125 #[iv p1, iv p2, iv p3, iv p4, iv p5, iv p6, iv (1 : Int32), iv c27, iv c28, iv c29, iv c30, iv c31, rv b32, rv b43, rv b44, iv (own_la [c27, c28, c29, c30, c31] (35 : Int32) 1), .unset, .unset, .unset] [(.int (own_la [c27, c28, c29, c30, c31] (47 : Int32) 1))]))
          exact tail _ _ _ X52 e52 N52 (by unfold own_cut; rw [el35, el47, if_pos hB])
        · refine own_goW (fun zt zk => (XS.ifNo X45.here hx rfl (hb hby at_108) rfl ((if0 _ _).trans (flt (hB : ¬ ((own_la [c27, c28, c29, c30, c31] (35 : Int32) 1) < (0 : Int32)))).1) (XS.iload X45.here hx rfl (hb hby at_111) rfl (XS.goto X45.here hx rfl (pc0 := 113) (pc' := 125) rfl (hb hby at_113) (by decide) (by decide) zk)))) ?_
          show own_GoW p e below s _ _ _ _ (T45.setTop (mkF m 125 #[iv p1, iv p2, iv p3, iv p4, iv p5, iv p6, iv (1 : Int32), iv c27, iv c28, iv c29, iv c30, iv c31, rv b32, rv b43, rv b44, iv (own_la [c27, c28, c29, c30, c31] (35 : Int32) 1), .unset, .unset, .unset] [(.int (own_la [c27, c28, c29, c30, c31] (35 : Int32) 1))]))
          exact tail _ _ _ X45 e45 N45 (by unfold own_cut; rw [el35, if_neg hB])
    · by_cases hk2_k : k = (2 : Int32)
      · subst hk2_k
        show own_GoW p e below s _ _ _ _ (s₁.setTop (mkF m 9 #[iv p1, iv p2, iv p3, iv p4, iv p5, iv p6, iv (2 : Int32), .unset, .unset, .unset, .unset, .unset, .unset, .unset, .unset, .unset, .unset, .unset, .unset] []))
        refine own_goW (fun zt zk => (XS.iloadN X0.here hx rfl (hb hby at_9) rfl zk)) ?_
        show own_GoW p e below s _ _ _ _ (s₁.setTop (mkF m 10 #[iv p1, iv p2, iv p3, iv p4, iv p5, iv p6, iv (2 : Int32), .unset, .unset, .unset, .unset, .unset, .unset, .unset, .unset, .unset, .unset, .unset, .unset] [(.int p2)]))
        obtain ⟨_, _, ⟨T53, L53, k53, n53⟩, -, X53, ⟨Lc53, hQ53, l53, y53, z53⟩, st53⟩ := Jvm.LawKit.callS X0 hx (y := (⟨"com/example/boxwright/boxwright/TableNamesLocalNamePinLaw", "pick", "(I)C"⟩ : MethodName)) hown (mvT hZ (hw _ (List.mem_of_getElem? (i := 0) rfl))) (mvT hZ (hw _ (List.mem_of_getElem? (i := 1) rfl))) (mvT hZ (hw _ (List.mem_of_getElem? (i := 2) rfl))) (mvT hZ (hw _ (List.mem_of_getElem? (i := 3) rfl))) (by decide) (backOf (W := 0) (own_rpick l Z a0 hw [] p2  h0 n0 Z0 ) hZ (hw _ (List.mem_of_getElem? (i := 3) rfl)) (hw _ (List.mem_of_getElem? (i := 2) rfl)) (by decide) (by decide)) (g := (mkF m 10 #[iv p1, iv p2, iv p3, iv p4, iv p5, iv p6, iv (2 : Int32), .unset, .unset, .unset, .unset, .unset, .unset, .unset, .unset, .unset, .unset, .unset, .unset] [(.int p2)])) rfl (by rw [hml]; rfl) (argsL := [(.int p2)]) (rest := []) (lenOf own_pd__I_C rfl) rfl (by show 2 * 0 + _ ≤ _; exact Nat.le_of_eq rfl) (hb hby at_10) (fun _ _ => ⟨rfl, e0, (by decide : 0 + 0 ≤ _), (by decide : 0 + 0 ≤ _)⟩)
        dsimp only [Pt.U, Pt.locs, Pt.cells, Pt.slots] at X53 l53 y53 z53 st53 hQ53
        subst l53 y53 z53
        obtain ⟨c53, rfl, Nq53, e53, hr_c53⟩ := hQ53
        have N53 := Fr.app N0 Nq53
        refine own_goW st53 ?_
        show own_GoW p e below s _ _ _ _ (T53.setTop (mkF m 13 #[iv p1, iv p2, iv p3, iv p4, iv p5, iv p6, iv (2 : Int32), .unset, .unset, .unset, .unset, .unset, .unset, .unset, .unset, .unset, .unset, .unset, .unset] [(.int c53)]))
        refine own_goW (fun zt zk => (XS.istore X53.here hx rfl (hb hby at_13) rfl (l' := #[iv p1, iv p2, iv p3, iv p4, iv p5, iv p6, iv (2 : Int32), iv c53, .unset, .unset, .unset, .unset, .unset, .unset, .unset, .unset, .unset, .unset, .unset]) rfl (XS.iloadN X53.here hx rfl (hb hby at_15) rfl zk))) ?_
        show own_GoW p e below s _ _ _ _ (T53.setTop (mkF m 16 #[iv p1, iv p2, iv p3, iv p4, iv p5, iv p6, iv (2 : Int32), iv c53, .unset, .unset, .unset, .unset, .unset, .unset, .unset, .unset, .unset, .unset, .unset] [(.int p3)]))
        obtain ⟨_, _, ⟨T54, L54, k54, n54⟩, -, X54, ⟨Lc54, hQ54, l54, y54, z54⟩, st54⟩ := Jvm.LawKit.callS X53 hx (y := (⟨"com/example/boxwright/boxwright/TableNamesLocalNamePinLaw", "pick", "(I)C"⟩ : MethodName)) hown (mvT hZ (hw _ (List.mem_of_getElem? (i := 0) rfl))) (mvT hZ (hw _ (List.mem_of_getElem? (i := 1) rfl))) (mvT hZ (hw _ (List.mem_of_getElem? (i := 2) rfl))) (mvT hZ (hw _ (List.mem_of_getElem? (i := 3) rfl))) (by decide) (backOf (W := 0) (own_rpick l Z a0 hw [] p3  h0 n0 Z0 ) hZ (hw _ (List.mem_of_getElem? (i := 3) rfl)) (hw _ (List.mem_of_getElem? (i := 2) rfl)) (by decide) (by decide)) (g := (mkF m 16 #[iv p1, iv p2, iv p3, iv p4, iv p5, iv p6, iv (2 : Int32), iv c53, .unset, .unset, .unset, .unset, .unset, .unset, .unset, .unset, .unset, .unset, .unset] [(.int p3)])) rfl (by rw [hml]; rfl) (argsL := [(.int p3)]) (rest := []) (lenOf own_pd__I_C rfl) rfl (by show 2 * 0 + _ ≤ _; exact Nat.le_of_eq rfl) (hb hby at_16) (fun _ _ => ⟨rfl, e53, (by decide : 0 + 0 ≤ _), (by decide : 0 + 0 ≤ _)⟩)
        dsimp only [Pt.U, Pt.locs, Pt.cells, Pt.slots] at X54 l54 y54 z54 st54 hQ54
        subst l54 y54 z54
        obtain ⟨c54, rfl, Nq54, e54, hr_c54⟩ := hQ54
        have N54 := Fr.app N53 Nq54
        refine own_goW st54 ?_
        show own_GoW p e below s _ _ _ _ (T54.setTop (mkF m 19 #[iv p1, iv p2, iv p3, iv p4, iv p5, iv p6, iv (2 : Int32), iv c53, .unset, .unset, .unset, .unset, .unset, .unset, .unset, .unset, .unset, .unset, .unset] [(.int c54)]))
        refine own_goW (fun zt zk => (XS.istore X54.here hx rfl (hb hby at_19) rfl (l' := #[iv p1, iv p2, iv p3, iv p4, iv p5, iv p6, iv (2 : Int32), iv c53, iv c54, .unset, .unset, .unset, .unset, .unset, .unset, .unset, .unset, .unset, .unset]) rfl (XS.iloadN X54.here hx rfl (hb hby at_21) rfl zk))) ?_
        show own_GoW p e below s _ _ _ _ (T54.setTop (mkF m 22 #[iv p1, iv p2, iv p3, iv p4, iv p5, iv p6, iv (2 : Int32), iv c53, iv c54, .unset, .unset, .unset, .unset, .unset, .unset, .unset, .unset, .unset, .unset] [(.int p4)]))
        obtain ⟨_, _, ⟨T55, L55, k55, n55⟩, -, X55, ⟨Lc55, hQ55, l55, y55, z55⟩, st55⟩ := Jvm.LawKit.callS X54 hx (y := (⟨"com/example/boxwright/boxwright/TableNamesLocalNamePinLaw", "pick", "(I)C"⟩ : MethodName)) hown (mvT hZ (hw _ (List.mem_of_getElem? (i := 0) rfl))) (mvT hZ (hw _ (List.mem_of_getElem? (i := 1) rfl))) (mvT hZ (hw _ (List.mem_of_getElem? (i := 2) rfl))) (mvT hZ (hw _ (List.mem_of_getElem? (i := 3) rfl))) (by decide) (backOf (W := 0) (own_rpick l Z a0 hw [] p4  h0 n0 Z0 ) hZ (hw _ (List.mem_of_getElem? (i := 3) rfl)) (hw _ (List.mem_of_getElem? (i := 2) rfl)) (by decide) (by decide)) (g := (mkF m 22 #[iv p1, iv p2, iv p3, iv p4, iv p5, iv p6, iv (2 : Int32), iv c53, iv c54, .unset, .unset, .unset, .unset, .unset, .unset, .unset, .unset, .unset, .unset] [(.int p4)])) rfl (by rw [hml]; rfl) (argsL := [(.int p4)]) (rest := []) (lenOf own_pd__I_C rfl) rfl (by show 2 * 0 + _ ≤ _; exact Nat.le_of_eq rfl) (hb hby at_22) (fun _ _ => ⟨rfl, e54, (by decide : 0 + 0 ≤ _), (by decide : 0 + 0 ≤ _)⟩)
        dsimp only [Pt.U, Pt.locs, Pt.cells, Pt.slots] at X55 l55 y55 z55 st55 hQ55
        subst l55 y55 z55
        obtain ⟨c55, rfl, Nq55, e55, hr_c55⟩ := hQ55
        have N55 := Fr.app N54 Nq55
        refine own_goW st55 ?_
        show own_GoW p e below s _ _ _ _ (T55.setTop (mkF m 25 #[iv p1, iv p2, iv p3, iv p4, iv p5, iv p6, iv (2 : Int32), iv c53, iv c54, .unset, .unset, .unset, .unset, .unset, .unset, .unset, .unset, .unset, .unset] [(.int c55)]))
        refine own_goW (fun zt zk => (XS.istore X55.here hx rfl (hb hby at_25) rfl (l' := #[iv p1, iv p2, iv p3, iv p4, iv p5, iv p6, iv (2 : Int32), iv c53, iv c54, iv c55, .unset, .unset, .unset, .unset, .unset, .unset, .unset, .unset, .unset]) rfl (XS.iload X55.here hx rfl (hb hby at_27) rfl zk))) ?_
        show own_GoW p e below s _ _ _ _ (T55.setTop (mkF m 29 #[iv p1, iv p2, iv p3, iv p4, iv p5, iv p6, iv (2 : Int32), iv c53, iv c54, iv c55, .unset, .unset, .unset, .unset, .unset, .unset, .unset, .unset, .unset] [(.int p5)]))
        obtain ⟨_, _, ⟨T56, L56, k56, n56⟩, -, X56, ⟨Lc56, hQ56, l56, y56, z56⟩, st56⟩ := Jvm.LawKit.callS X55 hx (y := (⟨"com/example/boxwright/boxwright/TableNamesLocalNamePinLaw", "pick", "(I)C"⟩ : MethodName)) hown (mvT hZ (hw _ (List.mem_of_getElem? (i := 0) rfl))) (mvT hZ (hw _ (List.mem_of_getElem? (i := 1) rfl))) (mvT hZ (hw _ (List.mem_of_getElem? (i := 2) rfl))) (mvT hZ (hw _ (List.mem_of_getElem? (i := 3) rfl))) (by decide) (backOf (W := 0) (own_rpick l Z a0 hw [] p5  h0 n0 Z0 ) hZ (hw _ (List.mem_of_getElem? (i := 3) rfl)) (hw _ (List.mem_of_getElem? (i := 2) rfl)) (by decide) (by decide)) (g := (mkF m 29 #[iv p1, iv p2, iv p3, iv p4, iv p5, iv p6, iv (2 : Int32), iv c53, iv c54, iv c55, .unset, .unset, .unset, .unset, .unset, .unset, .unset, .unset, .unset] [(.int p5)])) rfl (by rw [hml]; rfl) (argsL := [(.int p5)]) (rest := []) (lenOf own_pd__I_C rfl) rfl (by show 2 * 0 + _ ≤ _; exact Nat.le_of_eq rfl) (hb hby at_29) (fun _ _ => ⟨rfl, e55, (by decide : 0 + 0 ≤ _), (by decide : 0 + 0 ≤ _)⟩)
        dsimp only [Pt.U, Pt.locs, Pt.cells, Pt.slots] at X56 l56 y56 z56 st56 hQ56
        subst l56 y56 z56
        obtain ⟨c56, rfl, Nq56, e56, hr_c56⟩ := hQ56
        have N56 := Fr.app N55 Nq56
        refine own_goW st56 ?_
        show own_GoW p e below s _ _ _ _ (T56.setTop (mkF m 32 #[iv p1, iv p2, iv p3, iv p4, iv p5, iv p6, iv (2 : Int32), iv c53, iv c54, iv c55, .unset, .unset, .unset, .unset, .unset, .unset, .unset, .unset, .unset] [(.int c56)]))
        refine own_goW (fun zt zk => (XS.istore X56.here hx rfl (hb hby at_32) rfl (l' := #[iv p1, iv p2, iv p3, iv p4, iv p5, iv p6, iv (2 : Int32), iv c53, iv c54, iv c55, iv c56, .unset, .unset, .unset, .unset, .unset, .unset, .unset, .unset]) rfl (XS.iload X56.here hx rfl (hb hby at_34) rfl zk))) ?_
        show own_GoW p e below s _ _ _ _ (T56.setTop (mkF m 36 #[iv p1, iv p2, iv p3, iv p4, iv p5, iv p6, iv (2 : Int32), iv c53, iv c54, iv c55, iv c56, .unset, .unset, .unset, .unset, .unset, .unset, .unset, .unset] [(.int p6)]))
        obtain ⟨_, _, ⟨T57, L57, k57, n57⟩, -, X57, ⟨Lc57, hQ57, l57, y57, z57⟩, st57⟩ := Jvm.LawKit.callS X56 hx (y := (⟨"com/example/boxwright/boxwright/TableNamesLocalNamePinLaw", "pick", "(I)C"⟩ : MethodName)) hown (mvT hZ (hw _ (List.mem_of_getElem? (i := 0) rfl))) (mvT hZ (hw _ (List.mem_of_getElem? (i := 1) rfl))) (mvT hZ (hw _ (List.mem_of_getElem? (i := 2) rfl))) (mvT hZ (hw _ (List.mem_of_getElem? (i := 3) rfl))) (by decide) (backOf (W := 0) (own_rpick l Z a0 hw [] p6  h0 n0 Z0 ) hZ (hw _ (List.mem_of_getElem? (i := 3) rfl)) (hw _ (List.mem_of_getElem? (i := 2) rfl)) (by decide) (by decide)) (g := (mkF m 36 #[iv p1, iv p2, iv p3, iv p4, iv p5, iv p6, iv (2 : Int32), iv c53, iv c54, iv c55, iv c56, .unset, .unset, .unset, .unset, .unset, .unset, .unset, .unset] [(.int p6)])) rfl (by rw [hml]; rfl) (argsL := [(.int p6)]) (rest := []) (lenOf own_pd__I_C rfl) rfl (by show 2 * 0 + _ ≤ _; exact Nat.le_of_eq rfl) (hb hby at_36) (fun _ _ => ⟨rfl, e56, (by decide : 0 + 0 ≤ _), (by decide : 0 + 0 ≤ _)⟩)
        dsimp only [Pt.U, Pt.locs, Pt.cells, Pt.slots] at X57 l57 y57 z57 st57 hQ57
        subst l57 y57 z57
        obtain ⟨c57, rfl, Nq57, e57, hr_c57⟩ := hQ57
        have N57 := Fr.app N56 Nq57
        refine own_goW st57 ?_
        show own_GoW p e below s _ _ _ _ (T57.setTop (mkF m 39 #[iv p1, iv p2, iv p3, iv p4, iv p5, iv p6, iv (2 : Int32), iv c53, iv c54, iv c55, iv c56, .unset, .unset, .unset, .unset, .unset, .unset, .unset, .unset] [(.int c57)]))
        refine own_goW (fun zt zk => (XS.istore X57.here hx rfl (hb hby at_39) rfl (l' := #[iv p1, iv p2, iv p3, iv p4, iv p5, iv p6, iv (2 : Int32), iv c53, iv c54, iv c55, iv c56, iv c57, .unset, .unset, .unset, .unset, .unset, .unset, .unset]) rfl (XS.iconst X57.here hx rfl (hb hby at_41) zk))) ?_
        show own_GoW p e below s _ _ _ _ (T57.setTop (mkF m 42 #[iv p1, iv p2, iv p3, iv p4, iv p5, iv p6, iv (2 : Int32), iv c53, iv c54, iv c55, iv c56, iv c57, .unset, .unset, .unset, .unset, .unset, .unset, .unset] [(.int (5 : Int32))]))
        obtain ⟨T58, h58, k58, X58, e58, E58, A58, Ea58, st58⟩ := newPE X57 hx hZ (hw _ (List.mem_of_getElem? (i := 4) rfl)) e57 (g := (mkF m 42 #[iv p1, iv p2, iv p3, iv p4, iv p5, iv p6, iv (2 : Int32), iv c53, iv c54, iv c55, iv c56, iv c57, .unset, .unset, .unset, .unset, .unset, .unset, .unset] [(.int (5 : Int32))])) rfl (hb hby at_42) rfl (by decide) (cap := 5) (by decide) (by decide) (by decide) (by decide) (ad := "[C") (by decide)
        obtain ⟨b58, g58⟩ : ∃ z, z = h0.size := ⟨_, rfl⟩
        rw [← g58] at A58 Ea58 st58
        refine own_goW st58 ?_
        have sz_b58 : h0.size ≤ b58 := Nat.le_trans Kp.1 (Nat.le_of_eq g58.symm)
        have g_b58 : n0 ≤ b58 := Nat.le_trans Z0 sz_b58
        have Sf_b58 : Safe Z own_EL s.vm h0 b58 := Safe.new (Nat.le_of_eq g58.symm)
        replace O := O.ext E58
        replace Kp := Kp.ext E58
        replace Sf_b58 := Safe.ext E58 Rc.1 Sf_b58
        replace Rc := Rc.trans (CHr.ext E58 Rc.1)
        replace hk := Nat.le_trans hk E58.1
        have V_b58 : Arv Z h58 b58 k58 .char (5 : Int32) [(.int (0 : Int32)), (.int (0 : Int32)), (.int (0 : Int32)), (.int (0 : Int32)), (.int (0 : Int32))] (.int (0 : Int32)) := (Arv.new A58 (by decide)).pad (pad_rep [] (.int (0 : Int32)) 5)
        have Ea_b58 := Ea58
        show own_GoW p e below s _ _ _ _ (T58.setTop (mkF m 44 #[iv p1, iv p2, iv p3, iv p4, iv p5, iv p6, iv (2 : Int32), iv c53, iv c54, iv c55, iv c56, iv c57, .unset, .unset, .unset, .unset, .unset, .unset, .unset] [(.ref b58)]))
        refine own_goW (fun zt zk => (XS.dup X58.here hx rfl (hb hby at_44) rfl rfl (XS.iconst X58.here hx rfl (hb hby at_45) (XS.iload X58.here hx rfl (hb hby at_46) rfl zk)))) ?_
        show own_GoW p e below s _ _ _ _ (T58.setTop (mkF m 48 #[iv p1, iv p2, iv p3, iv p4, iv p5, iv p6, iv (2 : Int32), iv c53, iv c54, iv c55, iv c56, iv c57, .unset, .unset, .unset, .unset, .unset, .unset, .unset] [(.int c53), (.int (0 : Int32)), (.ref b58), (.ref b58)]))
        obtain ⟨cl59, Ar59, q59, Sz59, Nz59, Ha59, Ga59⟩ := id V_b58
        have hin59 : ¬ ((0 : Int32) < 0 ∨ cl59.slots.size ≤ ((0 : Int32)).toNatClampNeg) := inb_of Sz59 ⟨by decide, by decide⟩
        obtain ⟨T60, h60, X60, e60, W60, st60⟩ := stC X58 hx hZ e58 Ar59 (j := (0 : Int32)) hin59 (g := (mkF m 48 #[iv p1, iv p2, iv p3, iv p4, iv p5, iv p6, iv (2 : Int32), iv c53, iv c54, iv c55, iv c56, iv c57, .unset, .unset, .unset, .unset, .unset, .unset, .unset] [(.int c53), (.int (0 : Int32)), (.ref b58), (.ref b58)])) rfl rfl (hb hby at_48)
        refine own_goW st60 ?_
        rw [show nar .char c53 = c53 from own_narc hr_c53] at W60
        have V60 := Arv.set Ar59 q59 Sz59 Nz59 Ha59 Ga59 (own_fitc hr_c53) W60 0 rfl (Nat.le_of_ble_eq_true rfl)
        have N60 := Fr.snoc X60 N57 g_b58
        have Sf_b58' := Safe.wr W60 Sf_b58 Rc.1 Sf_b58
        replace Rc := Rc.trans (CHr.wr W60 Sf_b58 Rc.1)
        replace hk := Nat.le_trans hk (Keep.of_wr W60).1
        replace Sf_b58 := Sf_b58'
        replace O := O.wr W60 g_b58
        replace Kp := Kp.wr W60 (Or.inr sz_b58)
        replace Ea_b58 := Ea_b58.wr W60
        replace V_b58 : Arv Z h60 b58 k58 .char (5 : Int32) [(.int c53), (.int (0 : Int32)), (.int (0 : Int32)), (.int (0 : Int32)), (.int (0 : Int32))] (.int (0 : Int32)) := V60
        show own_GoW p e below s _ _ _ _ (T60.setTop (mkF m 49 #[iv p1, iv p2, iv p3, iv p4, iv p5, iv p6, iv (2 : Int32), iv c53, iv c54, iv c55, iv c56, iv c57, .unset, .unset, .unset, .unset, .unset, .unset, .unset] [(.ref b58)]))
        refine own_goW (fun zt zk => (XS.dup X60.here hx rfl (hb hby at_49) rfl rfl (XS.iconst X60.here hx rfl (hb hby at_50) (XS.iload X60.here hx rfl (hb hby at_51) rfl zk)))) ?_
        show own_GoW p e below s _ _ _ _ (T60.setTop (mkF m 53 #[iv p1, iv p2, iv p3, iv p4, iv p5, iv p6, iv (2 : Int32), iv c53, iv c54, iv c55, iv c56, iv c57, .unset, .unset, .unset, .unset, .unset, .unset, .unset] [(.int c54), (.int (1 : Int32)), (.ref b58), (.ref b58)]))
        obtain ⟨cl61, Ar61, q61, Sz61, Nz61, Ha61, Ga61⟩ := id V_b58
        have hin61 : ¬ ((1 : Int32) < 0 ∨ cl61.slots.size ≤ ((1 : Int32)).toNatClampNeg) := inb_of Sz61 ⟨by decide, by decide⟩
        obtain ⟨T62, h62, X62, e62, W62, st62⟩ := stC X60 hx hZ e60 Ar61 (j := (1 : Int32)) hin61 (g := (mkF m 53 #[iv p1, iv p2, iv p3, iv p4, iv p5, iv p6, iv (2 : Int32), iv c53, iv c54, iv c55, iv c56, iv c57, .unset, .unset, .unset, .unset, .unset, .unset, .unset] [(.int c54), (.int (1 : Int32)), (.ref b58), (.ref b58)])) rfl rfl (hb hby at_53)
        refine own_goW st62 ?_
        rw [show nar .char c54 = c54 from own_narc hr_c54] at W62
        have V62 := Arv.set Ar61 q61 Sz61 Nz61 Ha61 Ga61 (own_fitc hr_c54) W62 1 rfl (Nat.le_of_ble_eq_true rfl)
        have N62 := Fr.snoc X62 N60 g_b58
        have Sf_b58' := Safe.wr W62 Sf_b58 Rc.1 Sf_b58
        replace Rc := Rc.trans (CHr.wr W62 Sf_b58 Rc.1)
        replace hk := Nat.le_trans hk (Keep.of_wr W62).1
        replace Sf_b58 := Sf_b58'
        replace O := O.wr W62 g_b58
        replace Kp := Kp.wr W62 (Or.inr sz_b58)
        replace Ea_b58 := Ea_b58.wr W62
        replace V_b58 : Arv Z h62 b58 k58 .char (5 : Int32) [(.int c53), (.int c54), (.int (0 : Int32)), (.int (0 : Int32)), (.int (0 : Int32))] (.int (0 : Int32)) := V62
        show own_GoW p e below s _ _ _ _ (T62.setTop (mkF m 54 #[iv p1, iv p2, iv p3, iv p4, iv p5, iv p6, iv (2 : Int32), iv c53, iv c54, iv c55, iv c56, iv c57, .unset, .unset, .unset, .unset, .unset, .unset, .unset] [(.ref b58)]))
        refine own_goW (fun zt zk => (XS.dup X62.here hx rfl (hb hby at_54) rfl rfl (XS.iconst X62.here hx rfl (hb hby at_55) (XS.iload X62.here hx rfl (hb hby at_56) rfl zk)))) ?_
        show own_GoW p e below s _ _ _ _ (T62.setTop (mkF m 58 #[iv p1, iv p2, iv p3, iv p4, iv p5, iv p6, iv (2 : Int32), iv c53, iv c54, iv c55, iv c56, iv c57, .unset, .unset, .unset, .unset, .unset, .unset, .unset] [(.int c55), (.int (2 : Int32)), (.ref b58), (.ref b58)]))
        obtain ⟨cl63, Ar63, q63, Sz63, Nz63, Ha63, Ga63⟩ := id V_b58
        have hin63 : ¬ ((2 : Int32) < 0 ∨ cl63.slots.size ≤ ((2 : Int32)).toNatClampNeg) := inb_of Sz63 ⟨by decide, by decide⟩
        obtain ⟨T64, h64, X64, e64, W64, st64⟩ := stC X62 hx hZ e62 Ar63 (j := (2 : Int32)) hin63 (g := (mkF m 58 #[iv p1, iv p2, iv p3, iv p4, iv p5, iv p6, iv (2 : Int32), iv c53, iv c54, iv c55, iv c56, iv c57, .unset, .unset, .unset, .unset, .unset, .unset, .unset] [(.int c55), (.int (2 : Int32)), (.ref b58), (.ref b58)])) rfl rfl (hb hby at_58)
        refine own_goW st64 ?_
        rw [show nar .char c55 = c55 from own_narc hr_c55] at W64
        have V64 := Arv.set Ar63 q63 Sz63 Nz63 Ha63 Ga63 (own_fitc hr_c55) W64 2 rfl (Nat.le_of_ble_eq_true rfl)
        have N64 := Fr.snoc X64 N62 g_b58
        have Sf_b58' := Safe.wr W64 Sf_b58 Rc.1 Sf_b58
        replace Rc := Rc.trans (CHr.wr W64 Sf_b58 Rc.1)
        replace hk := Nat.le_trans hk (Keep.of_wr W64).1
        replace Sf_b58 := Sf_b58'
        replace O := O.wr W64 g_b58
        replace Kp := Kp.wr W64 (Or.inr sz_b58)
        replace Ea_b58 := Ea_b58.wr W64
        replace V_b58 : Arv Z h64 b58 k58 .char (5 : Int32) [(.int c53), (.int c54), (.int c55), (.int (0 : Int32)), (.int (0 : Int32))] (.int (0 : Int32)) := V64
        show own_GoW p e below s _ _ _ _ (T64.setTop (mkF m 59 #[iv p1, iv p2, iv p3, iv p4, iv p5, iv p6, iv (2 : Int32), iv c53, iv c54, iv c55, iv c56, iv c57, .unset, .unset, .unset, .unset, .unset, .unset, .unset] [(.ref b58)]))
        refine own_goW (fun zt zk => (XS.dup X64.here hx rfl (hb hby at_59) rfl rfl (XS.iconst X64.here hx rfl (hb hby at_60) (XS.iload X64.here hx rfl (hb hby at_61) rfl zk)))) ?_
        show own_GoW p e below s _ _ _ _ (T64.setTop (mkF m 63 #[iv p1, iv p2, iv p3, iv p4, iv p5, iv p6, iv (2 : Int32), iv c53, iv c54, iv c55, iv c56, iv c57, .unset, .unset, .unset, .unset, .unset, .unset, .unset] [(.int c56), (.int (3 : Int32)), (.ref b58), (.ref b58)]))
        obtain ⟨cl65, Ar65, q65, Sz65, Nz65, Ha65, Ga65⟩ := id V_b58
        have hin65 : ¬ ((3 : Int32) < 0 ∨ cl65.slots.size ≤ ((3 : Int32)).toNatClampNeg) := inb_of Sz65 ⟨by decide, by decide⟩
        obtain ⟨T66, h66, X66, e66, W66, st66⟩ := stC X64 hx hZ e64 Ar65 (j := (3 : Int32)) hin65 (g := (mkF m 63 #[iv p1, iv p2, iv p3, iv p4, iv p5, iv p6, iv (2 : Int32), iv c53, iv c54, iv c55, iv c56, iv c57, .unset, .unset, .unset, .unset, .unset, .unset, .unset] [(.int c56), (.int (3 : Int32)), (.ref b58), (.ref b58)])) rfl rfl (hb hby at_63)
        refine own_goW st66 ?_
        rw [show nar .char c56 = c56 from own_narc hr_c56] at W66
        have V66 := Arv.set Ar65 q65 Sz65 Nz65 Ha65 Ga65 (own_fitc hr_c56) W66 3 rfl (Nat.le_of_ble_eq_true rfl)
        have N66 := Fr.snoc X66 N64 g_b58
        have Sf_b58' := Safe.wr W66 Sf_b58 Rc.1 Sf_b58
        replace Rc := Rc.trans (CHr.wr W66 Sf_b58 Rc.1)
        replace hk := Nat.le_trans hk (Keep.of_wr W66).1
        replace Sf_b58 := Sf_b58'
        replace O := O.wr W66 g_b58
        replace Kp := Kp.wr W66 (Or.inr sz_b58)
        replace Ea_b58 := Ea_b58.wr W66
        replace V_b58 : Arv Z h66 b58 k58 .char (5 : Int32) [(.int c53), (.int c54), (.int c55), (.int c56), (.int (0 : Int32))] (.int (0 : Int32)) := V66
        show own_GoW p e below s _ _ _ _ (T66.setTop (mkF m 64 #[iv p1, iv p2, iv p3, iv p4, iv p5, iv p6, iv (2 : Int32), iv c53, iv c54, iv c55, iv c56, iv c57, .unset, .unset, .unset, .unset, .unset, .unset, .unset] [(.ref b58)]))
        refine own_goW (fun zt zk => (XS.dup X66.here hx rfl (hb hby at_64) rfl rfl (XS.iconst X66.here hx rfl (hb hby at_65) (XS.iload X66.here hx rfl (hb hby at_66) rfl zk)))) ?_
        show own_GoW p e below s _ _ _ _ (T66.setTop (mkF m 68 #[iv p1, iv p2, iv p3, iv p4, iv p5, iv p6, iv (2 : Int32), iv c53, iv c54, iv c55, iv c56, iv c57, .unset, .unset, .unset, .unset, .unset, .unset, .unset] [(.int c57), (.int (4 : Int32)), (.ref b58), (.ref b58)]))
        obtain ⟨cl67, Ar67, q67, Sz67, Nz67, Ha67, Ga67⟩ := id V_b58
        have hin67 : ¬ ((4 : Int32) < 0 ∨ cl67.slots.size ≤ ((4 : Int32)).toNatClampNeg) := inb_of Sz67 ⟨by decide, by decide⟩
        obtain ⟨T68, h68, X68, e68, W68, st68⟩ := stC X66 hx hZ e66 Ar67 (j := (4 : Int32)) hin67 (g := (mkF m 68 #[iv p1, iv p2, iv p3, iv p4, iv p5, iv p6, iv (2 : Int32), iv c53, iv c54, iv c55, iv c56, iv c57, .unset, .unset, .unset, .unset, .unset, .unset, .unset] [(.int c57), (.int (4 : Int32)), (.ref b58), (.ref b58)])) rfl rfl (hb hby at_68)
        refine own_goW st68 ?_
        rw [show nar .char c57 = c57 from own_narc hr_c57] at W68
        have V68 := Arv.set Ar67 q67 Sz67 Nz67 Ha67 Ga67 (own_fitc hr_c57) W68 4 rfl (Nat.le_of_ble_eq_true rfl)
        have N68 := Fr.snoc X68 N66 g_b58
        have Sf_b58' := Safe.wr W68 Sf_b58 Rc.1 Sf_b58
        replace Rc := Rc.trans (CHr.wr W68 Sf_b58 Rc.1)
        replace hk := Nat.le_trans hk (Keep.of_wr W68).1
        replace Sf_b58 := Sf_b58'
        replace O := O.wr W68 g_b58
        replace Kp := Kp.wr W68 (Or.inr sz_b58)
        replace Ea_b58 := Ea_b58.wr W68
        replace V_b58 : Arv Z h68 b58 k58 .char (5 : Int32) [(.int c53), (.int c54), (.int c55), (.int c56), (.int c57)] (.int (0 : Int32)) := V68
        show own_GoW p e below s _ _ _ _ (T68.setTop (mkF m 69 #[iv p1, iv p2, iv p3, iv p4, iv p5, iv p6, iv (2 : Int32), iv c53, iv c54, iv c55, iv c56, iv c57, .unset, .unset, .unset, .unset, .unset, .unset, .unset] [(.ref b58)]))
        refine own_goW (fun zt zk => (XS.astore X68.here hx rfl (hb hby at_69) rfl rfl (l' := #[iv p1, iv p2, iv p3, iv p4, iv p5, iv p6, iv (2 : Int32), iv c53, iv c54, iv c55, iv c56, iv c57, rv b58, .unset, .unset, .unset, .unset, .unset, .unset]) rfl (XS.iload X68.here hx rfl (hb hby at_71) rfl (XS.iload X68.here hx rfl (hb hby at_73) rfl (XS.iload X68.here hx rfl (hb hby at_75) rfl (XS.iload X68.here hx rfl (hb hby at_77) rfl (XS.iload X68.here hx rfl (hb hby at_79) rfl (XS.iload X68.here hx rfl (hb hby at_81) rfl zk)))))))) ?_
        show own_GoW p e below s _ _ _ _ (T68.setTop (mkF m 83 #[iv p1, iv p2, iv p3, iv p4, iv p5, iv p6, iv (2 : Int32), iv c53, iv c54, iv c55, iv c56, iv c57, rv b58, .unset, .unset, .unset, .unset, .unset, .unset] [(.int c57), (.int c56), (.int c55), (.int c54), (.int c53), (.int (2 : Int32))]))
        obtain ⟨_, _, ⟨T69, L69, k69, n69⟩, -, X69, ⟨Lc69, hQ69, l69, y69, z69⟩, st69⟩ := Jvm.LawKit.callS X68 hx (y := (⟨"com/example/boxwright/boxwright/TableNamesLocalNamePinLaw", "make", "(ICCCCC)Ljava/lang/String;"⟩ : MethodName)) hown (mvT hZ (hw _ (List.mem_of_getElem? (i := 5) rfl))) (mvT hZ (hw _ (List.mem_of_getElem? (i := 6) rfl))) (mvT hZ (hw _ (List.mem_of_getElem? (i := 2) rfl))) (mvT hZ (hw _ (List.mem_of_getElem? (i := 7) rfl))) (by decide) (backOf (W := 0) (own_rmake2 l Z a0 hw [] c53 c54 c55 c56 c57 o_COMPACT_STRINGS h68 n0 (Nat.le_trans Z0 Kp.1) O S_o_COMPACT_STRINGS nz_o_COMPACT_STRINGS hr_c53 hr_c54 hr_c55 hr_c56 hr_c57) hZ (hw _ (List.mem_of_getElem? (i := 7) rfl)) (hw _ (List.mem_of_getElem? (i := 2) rfl)) (by decide) (by decide)) (g := (mkF m 83 #[iv p1, iv p2, iv p3, iv p4, iv p5, iv p6, iv (2 : Int32), iv c53, iv c54, iv c55, iv c56, iv c57, rv b58, .unset, .unset, .unset, .unset, .unset, .unset] [(.int c57), (.int c56), (.int c55), (.int c54), (.int c53), (.int (2 : Int32))])) rfl (by rw [hml]; rfl) (argsL := [(.int (2 : Int32)), (.int c53), (.int c54), (.int c55), (.int c56), (.int c57)]) (rest := []) (lenOf own_pd__ICCCCC_Ljava_lang_String_ rfl) rfl (by show 2 * 0 + _ ≤ _; exact Nat.le_of_eq rfl) (hb hby at_83) (fun _ _ => ⟨rfl, e68, (by decide : 1 + 3 ≤ _), (by decide : 5 + 8 ≤ _)⟩)
        dsimp only [Pt.U, Pt.locs, Pt.cells, Pt.slots] at X69 l69 y69 z69 st69 hQ69
        subst l69 y69 z69
        obtain ⟨b69, t69, kb69, rfl, Nq69, K69, sb69, Ex_b69, Fv69, Fc69, Vt69⟩ := hQ69
        have N69 := Fr.app N68 Nq69
        refine own_goW st69 ?_
        have Sf_b58' := Safe.keep K69 all0 Rc.1 Sf_b58
        replace Rc := Rc.trans (CHr.keep K69 all0 Rc.1)
        replace hk := Nat.le_trans hk K69.1
        replace Sf_b58 := Sf_b58'
        replace O := O.keep K69 all0
        replace Kp := Kp.trans K69 all0
        replace V_b58 := V_b58.keep K69 nin0
        replace Ea_b58 := Ea_b58.keep K69
        show own_GoW p e below s _ _ _ _ (T69.setTop (mkF m 86 #[iv p1, iv p2, iv p3, iv p4, iv p5, iv p6, iv (2 : Int32), iv c53, iv c54, iv c55, iv c56, iv c57, rv b58, .unset, .unset, .unset, .unset, .unset, .unset] [(.ref b69)]))
        obtain ⟨s', hs', hsl⟩ := own_cut1 [(c53.toInt8.toInt32), (c54.toInt8.toInt32)] 2 (by decide)
        have hcr : ∀ c ∈ ([c53, c54] : List Int32), ¬ (c < (0 : Int32)) ∧ ¬ ((255 : Int32) < c) := (own_ac hr_c53 (own_ac hr_c54 own_an))
        refine own_goW (fun zt zk => (XS.astore X69.here hx rfl (hb hby at_86) rfl rfl (l' := #[iv p1, iv p2, iv p3, iv p4, iv p5, iv p6, iv (2 : Int32), iv c53, iv c54, iv c55, iv c56, iv c57, rv b58, rv b69, .unset, .unset, .unset, .unset, .unset]) rfl (XS.aload X69.here hx rfl (hb hby at_88) rfl rfl zk))) ?_
        show own_GoW p e below s _ _ _ _ (T69.setTop (mkF m 90 #[iv p1, iv p2, iv p3, iv p4, iv p5, iv p6, iv (2 : Int32), iv c53, iv c54, iv c55, iv c56, iv c57, rv b58, rv b69, .unset, .unset, .unset, .unset, .unset] [(.ref b69)]))
        obtain ⟨_, _, ⟨T70, L70, k70, n70⟩, -, X70, hSq70, hgq70, ⟨Lc70, hQ70, l70, y70, z70, A70⟩, st70⟩ := callSS X69 hx (y := (⟨"com/example/boxwright/boxwright/TableNames", "localName", "(Ljava/lang/String;)Ljava/lang/String;"⟩ : MethodName)) hown (mvT hZ (hw _ (List.mem_of_getElem? (i := 29) rfl))) (mvT hZ (hw _ (List.mem_of_getElem? (i := 30) rfl))) (mvT hZ (hw _ (List.mem_of_getElem? (i := 31) rfl))) (mvT hZ (hw _ (List.mem_of_getElem? (i := 32) rfl))) (by decide) (own_backW (s := s) (W := 0) (own_rln l Z a0 hw [] b69 o_COMPACT_STRINGS o_SIOOBE_FORMATTER t69 kb69 [(c53.toInt8.toInt32), (c54.toInt8.toInt32)] s' s.vm T69.heap n0 (Nat.le_trans Z0 Kp.1) O S_o_COMPACT_STRINGS S_o_SIOOBE_FORMATTER Ex_b69 Fv69 Fc69 Vt69 nz_o_COMPACT_STRINGS r_o_SIOOBE_FORMATTER (Nat.le_of_ble_eq_true rfl) hsl hs') hZ (hw _ (List.mem_of_getElem? (i := 32) rfl)) (hw _ (List.mem_of_getElem? (i := 31) rfl)) (by decide) (by decide) hEL Rc.1) (g := (mkF m 90 #[iv p1, iv p2, iv p3, iv p4, iv p5, iv p6, iv (2 : Int32), iv c53, iv c54, iv c55, iv c56, iv c57, rv b58, rv b69, .unset, .unset, .unset, .unset, .unset] [(.ref b69)])) rfl (by rw [hml]; rfl) (argsL := [(.ref b69)]) (rest := []) (lenOf own_pd__Ljava_lang_String__Ljava_lang_String_ rfl) rfl (by show 2 * 0 + _ ≤ _; exact Nat.le_of_eq rfl) (hb hby at_90) (fun _ _ => ⟨rfl, rfl, (by decide : 4 + 2 ≤ _), (by decide : 13 + 9 ≤ _)⟩)
        dsimp only [Pt.U, Pt.locs, Pt.cells, Pt.slots] at X70 l70 y70 z70 st70 hQ70 hSq70 hgq70 A70
        subst l70 y70 z70
        obtain ⟨X70, hS70, hZ70, hown70⟩ := rebS hS (hk) X70 hSq70 hgq70 hZ hown
        replace Sf_b58 := CHr.safe A70 V_b58.lt Sf_b58
        replace Rc := Rc.trans A70
        replace hS := hS70
        replace hZ := hZ70
        replace hown := hown70
        have hk : T70.heap.size ≤ T70.heap.size := Nat.le_refl _
        obtain ⟨b70, t70, kb70, rfl, Nq70, K70, Ex_b70, Fv70, Fc70, Vt70⟩ := hQ70
        have N70 := Fr.app N69 Nq70
        refine own_goW (fun zt zk => st70.trans zk) ?_
        replace O := O.keep K70 all0
        replace Kp := Kp.trans K70 all0
        replace V_b58 := V_b58.keep K70 nin0
        replace Ea_b58 := Ea_b58.keep K70
        replace Ex_b69 := Ex_b69.keep K70
        replace Fv69 := Fv69.keep K70 nin0
        replace Fc69 := Fc69.keep K70 nin0
        replace Vt69 := Vt69.keep K70 nin0
        show own_GoW p e below s _ _ _ _ (T70.setTop (mkF m 93 #[iv p1, iv p2, iv p3, iv p4, iv p5, iv p6, iv (2 : Int32), iv c53, iv c54, iv c55, iv c56, iv c57, rv b58, rv b69, .unset, .unset, .unset, .unset, .unset] [(.ref b70)]))
        have el35 : own_la [(c53.toInt8.toInt32), (c54.toInt8.toInt32)] 35 2 = own_la [c53, c54, c55, c56, c57] 35 2 := own_la_map hcr (by decide) (by decide) 2 (Nat.le_of_ble_eq_true rfl)
        have el47 : own_la [(c53.toInt8.toInt32), (c54.toInt8.toInt32)] 47 2 = own_la [c53, c54, c55, c56, c57] 47 2 := own_la_map hcr (by decide) (by decide) 2 (Nat.le_of_ble_eq_true rfl)
        refine own_goW (fun zt zk => (XS.astore X70.here hx rfl (hb hby at_93) rfl rfl (l' := #[iv p1, iv p2, iv p3, iv p4, iv p5, iv p6, iv (2 : Int32), iv c53, iv c54, iv c55, iv c56, iv c57, rv b58, rv b69, rv b70, .unset, .unset, .unset, .unset]) rfl (XS.aload X70.here hx rfl (hb hby at_95) rfl rfl (XS.iload X70.here hx rfl (hb hby at_97) rfl (XS.bipush X70.here hx rfl (hb hby at_99) zk))))) ?_
        show own_GoW p e below s _ _ _ _ (T70.setTop (mkF m 101 #[iv p1, iv p2, iv p3, iv p4, iv p5, iv p6, iv (2 : Int32), iv c53, iv c54, iv c55, iv c56, iv c57, rv b58, rv b69, rv b70, .unset, .unset, .unset, .unset] [(.int (35 : Int32)), (.int (2 : Int32)), (.ref b58)]))
        obtain ⟨_, _, ⟨T71, L71, k71, n71⟩, -, X71, ⟨Lc71, hQ71, l71, y71, z71⟩, st71⟩ := Jvm.LawKit.callS X70 hx (y := (⟨"com/example/boxwright/boxwright/TableNamesLocalNamePinLaw", "last", "([CIC)I"⟩ : MethodName)) hown (mvT hZ (hw _ (List.mem_of_getElem? (i := 88) rfl))) (mvT hZ (hw _ (List.mem_of_getElem? (i := 89) rfl))) (mvT hZ (hw _ (List.mem_of_getElem? (i := 2) rfl))) (mvT hZ (hw _ (List.mem_of_getElem? (i := 90) rfl))) (by decide) (backOf (W := 0) (own_rlast2 l Z a0 hw [] b58 (35 : Int32) k58 c53 c54 c55 c56 c57 T70.heap n0 (Nat.le_trans Z0 Kp.1) V_b58) hZ (hw _ (List.mem_of_getElem? (i := 90) rfl)) (hw _ (List.mem_of_getElem? (i := 2) rfl)) (by decide) (by decide)) (g := (mkF m 101 #[iv p1, iv p2, iv p3, iv p4, iv p5, iv p6, iv (2 : Int32), iv c53, iv c54, iv c55, iv c56, iv c57, rv b58, rv b69, rv b70, .unset, .unset, .unset, .unset] [(.int (35 : Int32)), (.int (2 : Int32)), (.ref b58)])) rfl (by rw [hml]; rfl) (argsL := [(.ref b58), (.int (2 : Int32)), (.int (35 : Int32))]) (rest := []) (lenOf own_pd___CIC_I rfl) rfl (by show 2 * 0 + _ ≤ _; exact Nat.le_of_eq rfl) (hb hby at_101) (fun _ _ => ⟨rfl, rfl, (by decide : 6 + 0 ≤ _), (by decide : 22 + 0 ≤ _)⟩)
        dsimp only [Pt.U, Pt.locs, Pt.cells, Pt.slots] at X71 l71 y71 z71 st71 hQ71
        subst l71 y71 z71
        obtain ⟨rfl, Nq71, e71⟩ := hQ71
        have N71 := Fr.app N70 Nq71
        refine own_goW st71 ?_
        show own_GoW p e below s _ _ _ _ (T71.setTop (mkF m 104 #[iv p1, iv p2, iv p3, iv p4, iv p5, iv p6, iv (2 : Int32), iv c53, iv c54, iv c55, iv c56, iv c57, rv b58, rv b69, rv b70, .unset, .unset, .unset, .unset] [(.int (own_la [c53, c54, c55, c56, c57] (35 : Int32) 2))]))
        refine own_goW (fun zt zk => (XS.istore X71.here hx rfl (hb hby at_104) rfl (l' := #[iv p1, iv p2, iv p3, iv p4, iv p5, iv p6, iv (2 : Int32), iv c53, iv c54, iv c55, iv c56, iv c57, rv b58, rv b69, rv b70, iv (own_la [c53, c54, c55, c56, c57] (35 : Int32) 2), .unset, .unset, .unset]) rfl (XS.iload X71.here hx rfl (hb hby at_106) rfl zk))) ?_
        show own_GoW p e below s _ _ _ _ (T71.setTop (mkF m 108 #[iv p1, iv p2, iv p3, iv p4, iv p5, iv p6, iv (2 : Int32), iv c53, iv c54, iv c55, iv c56, iv c57, rv b58, rv b69, rv b70, iv (own_la [c53, c54, c55, c56, c57] (35 : Int32) 2), .unset, .unset, .unset] [(.int (own_la [c53, c54, c55, c56, c57] (35 : Int32) 2))]))
        refine own_use X71 (h := T70.heap) (n0 := n0) (P := fun cut => cut = own_cut [(c53.toInt8.toInt32), (c54.toInt8.toInt32)] 2) (K := fun T cut => own_GoW p e below s Z (own_Q_own_law Z p1 p2 p3 p4 p5 p6 o_COMPACT_STRINGS o_SIOOBE_FORMATTER h0 n0) room_1.cells room_1.slots (T.setTop (mkF m 125 #[iv p1, iv p2, iv p3, iv p4, iv p5, iv p6, iv (2 : Int32), iv c53, iv c54, iv c55, iv c56, iv c57, rv b58, rv b69, rv b70, iv (own_la [c53, c54, c55, c56, c57] (35 : Int32) 2), .unset, .unset, .unset] [(.int cut)]))) ?_ ?_
        · intro TJ LJ cut XJ eJ NJ hcut
          subst hcut
          show own_GoW p e below s _ _ _ _ (TJ.setTop (mkF m 125 #[iv p1, iv p2, iv p3, iv p4, iv p5, iv p6, iv (2 : Int32), iv c53, iv c54, iv c55, iv c56, iv c57, rv b58, rv b69, rv b70, iv (own_la [c53, c54, c55, c56, c57] (35 : Int32) 2), .unset, .unset, .unset] [(.int (own_cut [(c53.toInt8.toInt32), (c54.toInt8.toInt32)] 2))]))
          refine own_goW (fun zt zk => (XS.istore XJ.here hx rfl (hb hby at_125) rfl (l' := #[iv p1, iv p2, iv p3, iv p4, iv p5, iv p6, iv (2 : Int32), iv c53, iv c54, iv c55, iv c56, iv c57, rv b58, rv b69, rv b70, iv (own_la [c53, c54, c55, c56, c57] (35 : Int32) 2), iv (own_cut [(c53.toInt8.toInt32), (c54.toInt8.toInt32)] 2), .unset, .unset]) rfl (XS.iload XJ.here hx rfl (hb hby at_127) rfl (XS.iconst XJ.here hx rfl (hb hby at_129) (XS.iadd XJ.here hx rfl (hb hby at_130) rfl zk))))) ?_
          show own_GoW p e below s _ _ _ _ (TJ.setTop (mkF m 131 #[iv p1, iv p2, iv p3, iv p4, iv p5, iv p6, iv (2 : Int32), iv c53, iv c54, iv c55, iv c56, iv c57, rv b58, rv b69, rv b70, iv (own_la [c53, c54, c55, c56, c57] (35 : Int32) 2), iv (own_cut [(c53.toInt8.toInt32), (c54.toInt8.toInt32)] 2), .unset, .unset] [(.int ((own_cut [(c53.toInt8.toInt32), (c54.toInt8.toInt32)] 2) + (1 : Int32)))]))
          rw [hs']
          show own_GoW p e below s _ _ _ _ (TJ.setTop (mkF m 131 #[iv p1, iv p2, iv p3, iv p4, iv p5, iv p6, iv (2 : Int32), iv c53, iv c54, iv c55, iv c56, iv c57, rv b58, rv b69, rv b70, iv (own_la [c53, c54, c55, c56, c57] (35 : Int32) 2), iv (own_cut [(c53.toInt8.toInt32), (c54.toInt8.toInt32)] 2), .unset, .unset] [(.int (Int32.ofNat s'))]))
          refine own_goW (fun zt zk => (XS.istore XJ.here hx rfl (hb hby at_131) rfl (l' := #[iv p1, iv p2, iv p3, iv p4, iv p5, iv p6, iv (2 : Int32), iv c53, iv c54, iv c55, iv c56, iv c57, rv b58, rv b69, rv b70, iv (own_la [c53, c54, c55, c56, c57] (35 : Int32) 2), iv (own_cut [(c53.toInt8.toInt32), (c54.toInt8.toInt32)] 2), iv (Int32.ofNat s'), .unset]) rfl (XS.iload XJ.here hx rfl (hb hby at_133) rfl (XS.iload XJ.here hx rfl (hb hby at_135) rfl (XS.isub XJ.here hx rfl (hb hby at_137) rfl zk))))) ?_
          show own_GoW p e below s _ _ _ _ (TJ.setTop (mkF m 138 #[iv p1, iv p2, iv p3, iv p4, iv p5, iv p6, iv (2 : Int32), iv c53, iv c54, iv c55, iv c56, iv c57, rv b58, rv b69, rv b70, iv (own_la [c53, c54, c55, c56, c57] (35 : Int32) 2), iv (own_cut [(c53.toInt8.toInt32), (c54.toInt8.toInt32)] 2), iv (Int32.ofNat s'), .unset] [(.int ((2 : Int32) - (Int32.ofNat s')))]))
          rw [show (2 : Int32) - Int32.ofNat s' = Int32.ofNat (2 - s') from own_subN (n := 2) hsl (by omega)]
          show own_GoW p e below s _ _ _ _ (TJ.setTop (mkF m 138 #[iv p1, iv p2, iv p3, iv p4, iv p5, iv p6, iv (2 : Int32), iv c53, iv c54, iv c55, iv c56, iv c57, rv b58, rv b69, rv b70, iv (own_la [c53, c54, c55, c56, c57] (35 : Int32) 2), iv (own_cut [(c53.toInt8.toInt32), (c54.toInt8.toInt32)] 2), iv (Int32.ofNat s'), .unset] [(.int (Int32.ofNat (2 - s')))]))
          refine own_goW (fun zt zk => (XS.istore XJ.here hx rfl (hb hby at_138) rfl (l' := #[iv p1, iv p2, iv p3, iv p4, iv p5, iv p6, iv (2 : Int32), iv c53, iv c54, iv c55, iv c56, iv c57, rv b58, rv b69, rv b70, iv (own_la [c53, c54, c55, c56, c57] (35 : Int32) 2), iv (own_cut [(c53.toInt8.toInt32), (c54.toInt8.toInt32)] 2), iv (Int32.ofNat s'), iv (Int32.ofNat (2 - s'))]) rfl (XS.aload XJ.here hx rfl (hb hby at_140) rfl rfl zk))) ?_
          show own_GoW p e below s _ _ _ _ (TJ.setTop (mkF m 142 #[iv p1, iv p2, iv p3, iv p4, iv p5, iv p6, iv (2 : Int32), iv c53, iv c54, iv c55, iv c56, iv c57, rv b58, rv b69, rv b70, iv (own_la [c53, c54, c55, c56, c57] (35 : Int32) 2), iv (own_cut [(c53.toInt8.toInt32), (c54.toInt8.toInt32)] 2), iv (Int32.ofNat s'), iv (Int32.ofNat (2 - s'))] [(.ref b70)]))
          obtain ⟨cq72, kq72, qa72, qb72, qc72⟩ := isOf hZ eJ Ex_b70
          obtain ⟨_, _, ⟨T72, L72, k72, n72⟩, -, X72, ⟨Lc72, hQ72, l72, y72, z72⟩, st72⟩ := XJ.virtualBack hx (y := (⟨"java/lang/String", "length", "()I"⟩ : MethodName)) (z := (⟨"java/lang/String", "length", "()I"⟩ : MethodName)) hown (mvT hZ (hw _ (List.mem_of_getElem? (i := 91) rfl))) (mvT hZ (hw _ (List.mem_of_getElem? (i := 39) rfl))) (notFace_of_selects (args := #[]) (mvT hZ (hw _ (List.mem_of_getElem? (i := 41) rfl)))) (mvT hZ (hw _ (List.mem_of_getElem? (i := 41) rfl))) (mvT hZ (hw _ (List.mem_of_getElem? (i := 40) rfl))) (by decide) (backOf (W := 0) (own_rlen l Z a0 hw [] b70 o_COMPACT_STRINGS t70 kb70 (Int32.ofNat ([(c53.toInt8.toInt32), (c54.toInt8.toInt32)].length - s')) (([(c53.toInt8.toInt32), (c54.toInt8.toInt32)].drop s').map Value.int) T70.heap n0 (Nat.le_trans Z0 Kp.1) O S_o_COMPACT_STRINGS Ex_b70 Fv70 Fc70 Vt70 nz_o_COMPACT_STRINGS) hZ (hw _ (List.mem_of_getElem? (i := 42) rfl)) (hw _ (List.mem_of_getElem? (i := 10) rfl)) (by decide) (by decide)) qa72 qc72 (g := (mkF m 142 #[iv p1, iv p2, iv p3, iv p4, iv p5, iv p6, iv (2 : Int32), iv c53, iv c54, iv c55, iv c56, iv c57, rv b58, rv b69, rv b70, iv (own_la [c53, c54, c55, c56, c57] (35 : Int32) 2), iv (own_cut [(c53.toInt8.toInt32), (c54.toInt8.toInt32)] 2), iv (Int32.ofNat s'), iv (Int32.ofNat (2 - s'))] [(.ref b70)])) rfl (by rw [hml]; rfl) (Steps.refl _) (argsL := []) (rest := []) (lenOf own_pd___I rfl) rfl (by show 2 * 0 + _ ≤ _; exact Nat.le_of_eq rfl) (hb hby at_142) (fun _ _ => ⟨rfl, eJ, (by decide : 6 + 0 ≤ _), (by decide : 22 + 0 ≤ _)⟩)
          dsimp only [Pt.U, Pt.locs, Pt.cells, Pt.slots] at X72 l72 y72 z72 st72 hQ72
          subst l72 y72 z72
          obtain ⟨rfl, Nq72, e72⟩ := hQ72
          have N72 := Fr.app NJ Nq72
          refine own_goW (fun zt zk => st72.trans zk) ?_
          show own_GoW p e below s _ _ _ _ (T72.setTop (mkF m 145 #[iv p1, iv p2, iv p3, iv p4, iv p5, iv p6, iv (2 : Int32), iv c53, iv c54, iv c55, iv c56, iv c57, rv b58, rv b69, rv b70, iv (own_la [c53, c54, c55, c56, c57] (35 : Int32) 2), iv (own_cut [(c53.toInt8.toInt32), (c54.toInt8.toInt32)] 2), iv (Int32.ofNat s'), iv (Int32.ofNat (2 - s'))] [(.int (Int32.ofNat (2 - s')))]))
          refine own_goW (fun zt zk => (XS.iload X72.here hx rfl (hb hby at_145) rfl (XS.icmpYes X72.here hx rfl (pc0 := 147) (pc' := 152) rfl (hb hby at_147) rfl (teq (rfl : (Int32.ofNat (2 - s')) = (Int32.ofNat (2 - s')))).1 (by decide) (by decide) (XS.aload X72.here hx rfl (hb hby at_152) rfl rfl (XS.aload X72.here hx rfl (hb hby at_154) rfl rfl (XS.iload X72.here hx rfl (hb hby at_156) rfl (XS.iload X72.here hx rfl (hb hby at_158) rfl (XS.iconst X72.here hx rfl (hb hby at_160) zk)))))))) ?_
          show own_GoW p e below s _ _ _ _ (T72.setTop (mkF m 161 #[iv p1, iv p2, iv p3, iv p4, iv p5, iv p6, iv (2 : Int32), iv c53, iv c54, iv c55, iv c56, iv c57, rv b58, rv b69, rv b70, iv (own_la [c53, c54, c55, c56, c57] (35 : Int32) 2), iv (own_cut [(c53.toInt8.toInt32), (c54.toInt8.toInt32)] 2), iv (Int32.ofNat s'), iv (Int32.ofNat (2 - s'))] [(.int (0 : Int32)), (.int (Int32.ofNat (2 - s'))), (.int (Int32.ofNat s')), (.ref b58), (.ref b70)]))
          have hyl : ([(c53.toInt8.toInt32), (c54.toInt8.toInt32)].drop s').length = 2 - s' := by rw [List.length_drop]; rfl
          have hrel : ∀ j, j < 2 - s' → (([(c53.toInt8.toInt32), (c54.toInt8.toInt32)].drop s').getD j 0 &&& (255 : Int32)) = [c53, c54, c55, c56, c57].getD (s' + j) 0 := fun j hj => own_rel [c53, c54] [c53, c54, c55, c56, c57] hcr (Nat.le_of_ble_eq_true rfl) rfl j (by rw [← hyl] at hj; exact hj)
          obtain ⟨_, _, ⟨T73, L73, k73, n73⟩, -, X73, ⟨Lc73, hQ73, l73, y73, z73⟩, st73⟩ := Jvm.LawKit.callS X72 hx (y := (⟨"com/example/boxwright/boxwright/TableNamesLocalNamePinLaw", "at", "(Ljava/lang/String;[CIII)Z"⟩ : MethodName)) hown (mvT hZ (hw _ (List.mem_of_getElem? (i := 92) rfl))) (mvT hZ (hw _ (List.mem_of_getElem? (i := 93) rfl))) (mvT hZ (hw _ (List.mem_of_getElem? (i := 2) rfl))) (mvT hZ (hw _ (List.mem_of_getElem? (i := 94) rfl))) (by decide) (backOf (W := 0) (own_rat0 l Z a0 hw [] b70 b58 o_COMPACT_STRINGS o_SIOOBE_FORMATTER t70 kb70 ([(c53.toInt8.toInt32), (c54.toInt8.toInt32)].drop s') (2 - s') s' k58 c53 c54 c55 c56 c57 T70.heap n0 (Nat.le_trans Z0 Kp.1) O S_o_COMPACT_STRINGS S_o_SIOOBE_FORMATTER Ex_b70 Fv70 Fc70 Vt70 V_b58 nz_o_COMPACT_STRINGS r_o_SIOOBE_FORMATTER (by omega) hrel) hZ (hw _ (List.mem_of_getElem? (i := 94) rfl)) (hw _ (List.mem_of_getElem? (i := 2) rfl)) (by decide) (by decide)) (g := (mkF m 161 #[iv p1, iv p2, iv p3, iv p4, iv p5, iv p6, iv (2 : Int32), iv c53, iv c54, iv c55, iv c56, iv c57, rv b58, rv b69, rv b70, iv (own_la [c53, c54, c55, c56, c57] (35 : Int32) 2), iv (own_cut [(c53.toInt8.toInt32), (c54.toInt8.toInt32)] 2), iv (Int32.ofNat s'), iv (Int32.ofNat (2 - s'))] [(.int (0 : Int32)), (.int (Int32.ofNat (2 - s'))), (.int (Int32.ofNat s')), (.ref b58), (.ref b70)])) rfl (by rw [hml]; rfl) (argsL := [(.ref b70), (.ref b58), (.int (Int32.ofNat s')), (.int (Int32.ofNat (2 - s'))), (.int (0 : Int32))]) (rest := []) (lenOf own_pd__Ljava_lang_String__CIII_Z rfl) rfl (by show 2 * 0 + _ ≤ _; exact Nat.le_of_eq rfl) (hb hby at_161) (fun _ _ => ⟨rfl, e72, (by decide : 6 + 0 ≤ _), (by decide : 22 + 0 ≤ _)⟩)
          dsimp only [Pt.U, Pt.locs, Pt.cells, Pt.slots] at X73 l73 y73 z73 st73 hQ73
          subst l73 y73 z73
          obtain ⟨rfl, Nq73, e73⟩ := hQ73
          have N73 := Fr.app N72 Nq73
          refine own_goW st73 ?_
          show own_GoW p e below s _ _ _ _ (T73.setTop (mkF m 164 #[iv p1, iv p2, iv p3, iv p4, iv p5, iv p6, iv (2 : Int32), iv c53, iv c54, iv c55, iv c56, iv c57, rv b58, rv b69, rv b70, iv (own_la [c53, c54, c55, c56, c57] (35 : Int32) 2), iv (own_cut [(c53.toInt8.toInt32), (c54.toInt8.toInt32)] 2), iv (Int32.ofNat s'), iv (Int32.ofNat (2 - s'))] [(.int (1 : Int32))]))
          refine own_goW (fun zt zk => (XS.ifNo X73.here hx rfl (hb hby at_164) rfl ((if0 _ _).trans (feq ((by decide) : ¬ ((1 : Int32) = (0 : Int32)))).1) (XS.aload X73.here hx rfl (hb hby at_167) rfl rfl (XS.aload X73.here hx rfl (hb hby at_169) rfl rfl (XS.iload X73.here hx rfl (hb hby at_171) rfl (XS.iload X73.here hx rfl (hb hby at_173) rfl (XS.iconst X73.here hx rfl (hb hby at_175) zk))))))) ?_
          show own_GoW p e below s _ _ _ _ (T73.setTop (mkF m 176 #[iv p1, iv p2, iv p3, iv p4, iv p5, iv p6, iv (2 : Int32), iv c53, iv c54, iv c55, iv c56, iv c57, rv b58, rv b69, rv b70, iv (own_la [c53, c54, c55, c56, c57] (35 : Int32) 2), iv (own_cut [(c53.toInt8.toInt32), (c54.toInt8.toInt32)] 2), iv (Int32.ofNat s'), iv (Int32.ofNat (2 - s'))] [(.int (1 : Int32)), (.int (Int32.ofNat (2 - s'))), (.int (Int32.ofNat s')), (.ref b58), (.ref b70)]))
          obtain ⟨_, _, ⟨T74, L74, k74, n74⟩, -, X74, ⟨Lc74, hQ74, l74, y74, z74⟩, st74⟩ := Jvm.LawKit.callS X73 hx (y := (⟨"com/example/boxwright/boxwright/TableNamesLocalNamePinLaw", "at", "(Ljava/lang/String;[CIII)Z"⟩ : MethodName)) hown (mvT hZ (hw _ (List.mem_of_getElem? (i := 92) rfl))) (mvT hZ (hw _ (List.mem_of_getElem? (i := 93) rfl))) (mvT hZ (hw _ (List.mem_of_getElem? (i := 2) rfl))) (mvT hZ (hw _ (List.mem_of_getElem? (i := 94) rfl))) (by decide) (backOf (W := 0) (own_rat1 l Z a0 hw [] b70 b58 o_COMPACT_STRINGS o_SIOOBE_FORMATTER t70 kb70 ([(c53.toInt8.toInt32), (c54.toInt8.toInt32)].drop s') (2 - s') s' k58 c53 c54 c55 c56 c57 T70.heap n0 (Nat.le_trans Z0 Kp.1) O S_o_COMPACT_STRINGS S_o_SIOOBE_FORMATTER Ex_b70 Fv70 Fc70 Vt70 V_b58 nz_o_COMPACT_STRINGS r_o_SIOOBE_FORMATTER (by omega) hrel) hZ (hw _ (List.mem_of_getElem? (i := 94) rfl)) (hw _ (List.mem_of_getElem? (i := 2) rfl)) (by decide) (by decide)) (g := (mkF m 176 #[iv p1, iv p2, iv p3, iv p4, iv p5, iv p6, iv (2 : Int32), iv c53, iv c54, iv c55, iv c56, iv c57, rv b58, rv b69, rv b70, iv (own_la [c53, c54, c55, c56, c57] (35 : Int32) 2), iv (own_cut [(c53.toInt8.toInt32), (c54.toInt8.toInt32)] 2), iv (Int32.ofNat s'), iv (Int32.ofNat (2 - s'))] [(.int (1 : Int32)), (.int (Int32.ofNat (2 - s'))), (.int (Int32.ofNat s')), (.ref b58), (.ref b70)])) rfl (by rw [hml]; rfl) (argsL := [(.ref b70), (.ref b58), (.int (Int32.ofNat s')), (.int (Int32.ofNat (2 - s'))), (.int (1 : Int32))]) (rest := []) (lenOf own_pd__Ljava_lang_String__CIII_Z rfl) rfl (by show 2 * 0 + _ ≤ _; exact Nat.le_of_eq rfl) (hb hby at_176) (fun _ _ => ⟨rfl, e73, (by decide : 6 + 0 ≤ _), (by decide : 22 + 0 ≤ _)⟩)
          dsimp only [Pt.U, Pt.locs, Pt.cells, Pt.slots] at X74 l74 y74 z74 st74 hQ74
          subst l74 y74 z74
          obtain ⟨rfl, Nq74, e74⟩ := hQ74
          have N74 := Fr.app N73 Nq74
          refine own_goW st74 ?_
          show own_GoW p e below s _ _ _ _ (T74.setTop (mkF m 179 #[iv p1, iv p2, iv p3, iv p4, iv p5, iv p6, iv (2 : Int32), iv c53, iv c54, iv c55, iv c56, iv c57, rv b58, rv b69, rv b70, iv (own_la [c53, c54, c55, c56, c57] (35 : Int32) 2), iv (own_cut [(c53.toInt8.toInt32), (c54.toInt8.toInt32)] 2), iv (Int32.ofNat s'), iv (Int32.ofNat (2 - s'))] [(.int (1 : Int32))]))
          refine own_goW (fun zt zk => (XS.ifNo X74.here hx rfl (hb hby at_179) rfl ((if0 _ _).trans (feq ((by decide) : ¬ ((1 : Int32) = (0 : Int32)))).1) (XS.aload X74.here hx rfl (hb hby at_182) rfl rfl (XS.aload X74.here hx rfl (hb hby at_184) rfl rfl (XS.iload X74.here hx rfl (hb hby at_186) rfl (XS.iload X74.here hx rfl (hb hby at_188) rfl (XS.iconst X74.here hx rfl (hb hby at_190) zk))))))) ?_
          show own_GoW p e below s _ _ _ _ (T74.setTop (mkF m 191 #[iv p1, iv p2, iv p3, iv p4, iv p5, iv p6, iv (2 : Int32), iv c53, iv c54, iv c55, iv c56, iv c57, rv b58, rv b69, rv b70, iv (own_la [c53, c54, c55, c56, c57] (35 : Int32) 2), iv (own_cut [(c53.toInt8.toInt32), (c54.toInt8.toInt32)] 2), iv (Int32.ofNat s'), iv (Int32.ofNat (2 - s'))] [(.int (2 : Int32)), (.int (Int32.ofNat (2 - s'))), (.int (Int32.ofNat s')), (.ref b58), (.ref b70)]))
          obtain ⟨_, _, ⟨T75, L75, k75, n75⟩, -, X75, ⟨Lc75, hQ75, l75, y75, z75⟩, st75⟩ := Jvm.LawKit.callS X74 hx (y := (⟨"com/example/boxwright/boxwright/TableNamesLocalNamePinLaw", "at", "(Ljava/lang/String;[CIII)Z"⟩ : MethodName)) hown (mvT hZ (hw _ (List.mem_of_getElem? (i := 92) rfl))) (mvT hZ (hw _ (List.mem_of_getElem? (i := 93) rfl))) (mvT hZ (hw _ (List.mem_of_getElem? (i := 2) rfl))) (mvT hZ (hw _ (List.mem_of_getElem? (i := 94) rfl))) (by decide) (backOf (W := 0) (own_rat2 l Z a0 hw [] b70 b58 o_COMPACT_STRINGS o_SIOOBE_FORMATTER t70 kb70 ([(c53.toInt8.toInt32), (c54.toInt8.toInt32)].drop s') (2 - s') s' k58 c53 c54 c55 c56 c57 T70.heap n0 (Nat.le_trans Z0 Kp.1) O S_o_COMPACT_STRINGS S_o_SIOOBE_FORMATTER Ex_b70 Fv70 Fc70 Vt70 V_b58 nz_o_COMPACT_STRINGS r_o_SIOOBE_FORMATTER (by omega) hrel) hZ (hw _ (List.mem_of_getElem? (i := 94) rfl)) (hw _ (List.mem_of_getElem? (i := 2) rfl)) (by decide) (by decide)) (g := (mkF m 191 #[iv p1, iv p2, iv p3, iv p4, iv p5, iv p6, iv (2 : Int32), iv c53, iv c54, iv c55, iv c56, iv c57, rv b58, rv b69, rv b70, iv (own_la [c53, c54, c55, c56, c57] (35 : Int32) 2), iv (own_cut [(c53.toInt8.toInt32), (c54.toInt8.toInt32)] 2), iv (Int32.ofNat s'), iv (Int32.ofNat (2 - s'))] [(.int (2 : Int32)), (.int (Int32.ofNat (2 - s'))), (.int (Int32.ofNat s')), (.ref b58), (.ref b70)])) rfl (by rw [hml]; rfl) (argsL := [(.ref b70), (.ref b58), (.int (Int32.ofNat s')), (.int (Int32.ofNat (2 - s'))), (.int (2 : Int32))]) (rest := []) (lenOf own_pd__Ljava_lang_String__CIII_Z rfl) rfl (by show 2 * 0 + _ ≤ _; exact Nat.le_of_eq rfl) (hb hby at_191) (fun _ _ => ⟨rfl, e74, (by decide : 6 + 0 ≤ _), (by decide : 22 + 0 ≤ _)⟩)
          dsimp only [Pt.U, Pt.locs, Pt.cells, Pt.slots] at X75 l75 y75 z75 st75 hQ75
          subst l75 y75 z75
          obtain ⟨rfl, Nq75, e75⟩ := hQ75
          have N75 := Fr.app N74 Nq75
          refine own_goW st75 ?_
          show own_GoW p e below s _ _ _ _ (T75.setTop (mkF m 194 #[iv p1, iv p2, iv p3, iv p4, iv p5, iv p6, iv (2 : Int32), iv c53, iv c54, iv c55, iv c56, iv c57, rv b58, rv b69, rv b70, iv (own_la [c53, c54, c55, c56, c57] (35 : Int32) 2), iv (own_cut [(c53.toInt8.toInt32), (c54.toInt8.toInt32)] 2), iv (Int32.ofNat s'), iv (Int32.ofNat (2 - s'))] [(.int (1 : Int32))]))
          refine own_goW (fun zt zk => (XS.ifNo X75.here hx rfl (hb hby at_194) rfl ((if0 _ _).trans (feq ((by decide) : ¬ ((1 : Int32) = (0 : Int32)))).1) (XS.aload X75.here hx rfl (hb hby at_197) rfl rfl (XS.aload X75.here hx rfl (hb hby at_199) rfl rfl (XS.iload X75.here hx rfl (hb hby at_201) rfl (XS.iload X75.here hx rfl (hb hby at_203) rfl (XS.iconst X75.here hx rfl (hb hby at_205) zk))))))) ?_
          show own_GoW p e below s _ _ _ _ (T75.setTop (mkF m 206 #[iv p1, iv p2, iv p3, iv p4, iv p5, iv p6, iv (2 : Int32), iv c53, iv c54, iv c55, iv c56, iv c57, rv b58, rv b69, rv b70, iv (own_la [c53, c54, c55, c56, c57] (35 : Int32) 2), iv (own_cut [(c53.toInt8.toInt32), (c54.toInt8.toInt32)] 2), iv (Int32.ofNat s'), iv (Int32.ofNat (2 - s'))] [(.int (3 : Int32)), (.int (Int32.ofNat (2 - s'))), (.int (Int32.ofNat s')), (.ref b58), (.ref b70)]))
          obtain ⟨_, _, ⟨T76, L76, k76, n76⟩, -, X76, ⟨Lc76, hQ76, l76, y76, z76⟩, st76⟩ := Jvm.LawKit.callS X75 hx (y := (⟨"com/example/boxwright/boxwright/TableNamesLocalNamePinLaw", "at", "(Ljava/lang/String;[CIII)Z"⟩ : MethodName)) hown (mvT hZ (hw _ (List.mem_of_getElem? (i := 92) rfl))) (mvT hZ (hw _ (List.mem_of_getElem? (i := 93) rfl))) (mvT hZ (hw _ (List.mem_of_getElem? (i := 2) rfl))) (mvT hZ (hw _ (List.mem_of_getElem? (i := 94) rfl))) (by decide) (backOf (W := 0) (own_rat3 l Z a0 hw [] b70 b58 o_COMPACT_STRINGS o_SIOOBE_FORMATTER t70 kb70 ([(c53.toInt8.toInt32), (c54.toInt8.toInt32)].drop s') (2 - s') s' k58 c53 c54 c55 c56 c57 T70.heap n0 (Nat.le_trans Z0 Kp.1) O S_o_COMPACT_STRINGS S_o_SIOOBE_FORMATTER Ex_b70 Fv70 Fc70 Vt70 V_b58 nz_o_COMPACT_STRINGS r_o_SIOOBE_FORMATTER (by omega) hrel) hZ (hw _ (List.mem_of_getElem? (i := 94) rfl)) (hw _ (List.mem_of_getElem? (i := 2) rfl)) (by decide) (by decide)) (g := (mkF m 206 #[iv p1, iv p2, iv p3, iv p4, iv p5, iv p6, iv (2 : Int32), iv c53, iv c54, iv c55, iv c56, iv c57, rv b58, rv b69, rv b70, iv (own_la [c53, c54, c55, c56, c57] (35 : Int32) 2), iv (own_cut [(c53.toInt8.toInt32), (c54.toInt8.toInt32)] 2), iv (Int32.ofNat s'), iv (Int32.ofNat (2 - s'))] [(.int (3 : Int32)), (.int (Int32.ofNat (2 - s'))), (.int (Int32.ofNat s')), (.ref b58), (.ref b70)])) rfl (by rw [hml]; rfl) (argsL := [(.ref b70), (.ref b58), (.int (Int32.ofNat s')), (.int (Int32.ofNat (2 - s'))), (.int (3 : Int32))]) (rest := []) (lenOf own_pd__Ljava_lang_String__CIII_Z rfl) rfl (by show 2 * 0 + _ ≤ _; exact Nat.le_of_eq rfl) (hb hby at_206) (fun _ _ => ⟨rfl, e75, (by decide : 6 + 0 ≤ _), (by decide : 22 + 0 ≤ _)⟩)
          dsimp only [Pt.U, Pt.locs, Pt.cells, Pt.slots] at X76 l76 y76 z76 st76 hQ76
          subst l76 y76 z76
          obtain ⟨rfl, Nq76, e76⟩ := hQ76
          have N76 := Fr.app N75 Nq76
          refine own_goW st76 ?_
          show own_GoW p e below s _ _ _ _ (T76.setTop (mkF m 209 #[iv p1, iv p2, iv p3, iv p4, iv p5, iv p6, iv (2 : Int32), iv c53, iv c54, iv c55, iv c56, iv c57, rv b58, rv b69, rv b70, iv (own_la [c53, c54, c55, c56, c57] (35 : Int32) 2), iv (own_cut [(c53.toInt8.toInt32), (c54.toInt8.toInt32)] 2), iv (Int32.ofNat s'), iv (Int32.ofNat (2 - s'))] [(.int (1 : Int32))]))
          refine own_goW (fun zt zk => (XS.ifNo X76.here hx rfl (hb hby at_209) rfl ((if0 _ _).trans (feq ((by decide) : ¬ ((1 : Int32) = (0 : Int32)))).1) (XS.aload X76.here hx rfl (hb hby at_212) rfl rfl (XS.aload X76.here hx rfl (hb hby at_214) rfl rfl (XS.iload X76.here hx rfl (hb hby at_216) rfl (XS.iload X76.here hx rfl (hb hby at_218) rfl (XS.iconst X76.here hx rfl (hb hby at_220) zk))))))) ?_
          show own_GoW p e below s _ _ _ _ (T76.setTop (mkF m 221 #[iv p1, iv p2, iv p3, iv p4, iv p5, iv p6, iv (2 : Int32), iv c53, iv c54, iv c55, iv c56, iv c57, rv b58, rv b69, rv b70, iv (own_la [c53, c54, c55, c56, c57] (35 : Int32) 2), iv (own_cut [(c53.toInt8.toInt32), (c54.toInt8.toInt32)] 2), iv (Int32.ofNat s'), iv (Int32.ofNat (2 - s'))] [(.int (4 : Int32)), (.int (Int32.ofNat (2 - s'))), (.int (Int32.ofNat s')), (.ref b58), (.ref b70)]))
          obtain ⟨_, _, ⟨T77, L77, k77, n77⟩, -, X77, ⟨Lc77, hQ77, l77, y77, z77⟩, st77⟩ := Jvm.LawKit.callS X76 hx (y := (⟨"com/example/boxwright/boxwright/TableNamesLocalNamePinLaw", "at", "(Ljava/lang/String;[CIII)Z"⟩ : MethodName)) hown (mvT hZ (hw _ (List.mem_of_getElem? (i := 92) rfl))) (mvT hZ (hw _ (List.mem_of_getElem? (i := 93) rfl))) (mvT hZ (hw _ (List.mem_of_getElem? (i := 2) rfl))) (mvT hZ (hw _ (List.mem_of_getElem? (i := 94) rfl))) (by decide) (backOf (W := 0) (own_rat4 l Z a0 hw [] b70 b58 o_COMPACT_STRINGS o_SIOOBE_FORMATTER t70 kb70 ([(c53.toInt8.toInt32), (c54.toInt8.toInt32)].drop s') (2 - s') s' k58 c53 c54 c55 c56 c57 T70.heap n0 (Nat.le_trans Z0 Kp.1) O S_o_COMPACT_STRINGS S_o_SIOOBE_FORMATTER Ex_b70 Fv70 Fc70 Vt70 V_b58 nz_o_COMPACT_STRINGS r_o_SIOOBE_FORMATTER (by omega) hrel) hZ (hw _ (List.mem_of_getElem? (i := 94) rfl)) (hw _ (List.mem_of_getElem? (i := 2) rfl)) (by decide) (by decide)) (g := (mkF m 221 #[iv p1, iv p2, iv p3, iv p4, iv p5, iv p6, iv (2 : Int32), iv c53, iv c54, iv c55, iv c56, iv c57, rv b58, rv b69, rv b70, iv (own_la [c53, c54, c55, c56, c57] (35 : Int32) 2), iv (own_cut [(c53.toInt8.toInt32), (c54.toInt8.toInt32)] 2), iv (Int32.ofNat s'), iv (Int32.ofNat (2 - s'))] [(.int (4 : Int32)), (.int (Int32.ofNat (2 - s'))), (.int (Int32.ofNat s')), (.ref b58), (.ref b70)])) rfl (by rw [hml]; rfl) (argsL := [(.ref b70), (.ref b58), (.int (Int32.ofNat s')), (.int (Int32.ofNat (2 - s'))), (.int (4 : Int32))]) (rest := []) (lenOf own_pd__Ljava_lang_String__CIII_Z rfl) rfl (by show 2 * 0 + _ ≤ _; exact Nat.le_of_eq rfl) (hb hby at_221) (fun _ _ => ⟨rfl, e76, (by decide : 6 + 0 ≤ _), (by decide : 22 + 0 ≤ _)⟩)
          dsimp only [Pt.U, Pt.locs, Pt.cells, Pt.slots] at X77 l77 y77 z77 st77 hQ77
          subst l77 y77 z77
          obtain ⟨rfl, Nq77, e77⟩ := hQ77
          have N77 := Fr.app N76 Nq77
          refine own_goW st77 ?_
          show own_GoW p e below s _ _ _ _ (T77.setTop (mkF m 224 #[iv p1, iv p2, iv p3, iv p4, iv p5, iv p6, iv (2 : Int32), iv c53, iv c54, iv c55, iv c56, iv c57, rv b58, rv b69, rv b70, iv (own_la [c53, c54, c55, c56, c57] (35 : Int32) 2), iv (own_cut [(c53.toInt8.toInt32), (c54.toInt8.toInt32)] 2), iv (Int32.ofNat s'), iv (Int32.ofNat (2 - s'))] [(.int (1 : Int32))]))
          refine own_goW (fun zt zk => (XS.ifNo X77.here hx rfl (hb hby at_224) rfl ((if0 _ _).trans (feq ((by decide) : ¬ ((1 : Int32) = (0 : Int32)))).1) (XS.iconst X77.here hx rfl (hb hby at_227) (XS.goto X77.here hx rfl (pc0 := 228) (pc' := 232) rfl (hb hby at_228) (by decide) (by decide) zk)))) ?_
          show own_GoW p e below s _ _ _ _ (T77.setTop (mkF m 232 #[iv p1, iv p2, iv p3, iv p4, iv p5, iv p6, iv (2 : Int32), iv c53, iv c54, iv c55, iv c56, iv c57, rv b58, rv b69, rv b70, iv (own_la [c53, c54, c55, c56, c57] (35 : Int32) 2), iv (own_cut [(c53.toInt8.toInt32), (c54.toInt8.toInt32)] 2), iv (Int32.ofNat s'), iv (Int32.ofNat (2 - s'))] [(.int (1 : Int32))]))
          have Re := Rc.trans (CHv.at X77 hZ hEL Rc.1)
          exact own_finW X77 hS (by rw [e77]; exact hk) (by rw [e77, hh]; exact Re) Bd.notSynchronized (fun h => by rw [Bd.returns] at h; cases h) (fun fs hr => retN X77 hx (t := .boolean) Bd.returns (by simp) (hb hby at_232) hr) (by rw [e77]; exact ⟨rfl, N77⟩) (by decide) (by decide)
        · intro tail
          show own_GoW p e below s _ _ _ _ (T71.setTop (mkF m 108 #[iv p1, iv p2, iv p3, iv p4, iv p5, iv p6, iv (2 : Int32), iv c53, iv c54, iv c55, iv c56, iv c57, rv b58, rv b69, rv b70, iv (own_la [c53, c54, c55, c56, c57] (35 : Int32) 2), .unset, .unset, .unset] [(.int (own_la [c53, c54, c55, c56, c57] (35 : Int32) 2))]))
          by_cases hB : (own_la [c53, c54, c55, c56, c57] (35 : Int32) 2) < (0 : Int32)
          · refine own_goW (fun zt zk => (XS.ifYes X71.here hx rfl (pc0 := 108) (pc' := 116) rfl (hb hby at_108) rfl ((if0 _ _).trans (tlt (hB : (own_la [c53, c54, c55, c56, c57] (35 : Int32) 2) < (0 : Int32))).1) (by decide) (by decide) (XS.aload X71.here hx rfl (hb hby at_116) rfl rfl (XS.iload X71.here hx rfl (hb hby at_118) rfl (XS.bipush X71.here hx rfl (hb hby at_120) zk))))) ?_
            show own_GoW p e below s _ _ _ _ (T71.setTop (mkF m 122 #[iv p1, iv p2, iv p3, iv p4, iv p5, iv p6, iv (2 : Int32), iv c53, iv c54, iv c55, iv c56, iv c57, rv b58, rv b69, rv b70, iv (own_la [c53, c54, c55, c56, c57] (35 : Int32) 2), .unset, .unset, .unset] [(.int (47 : Int32)), (.int (2 : Int32)), (.ref b58)]))
            obtain ⟨_, _, ⟨T78, L78, k78, n78⟩, -, X78, ⟨Lc78, hQ78, l78, y78, z78⟩, st78⟩ := Jvm.LawKit.callS X71 hx (y := (⟨"com/example/boxwright/boxwright/TableNamesLocalNamePinLaw", "last", "([CIC)I"⟩ : MethodName)) hown (mvT hZ (hw _ (List.mem_of_getElem? (i := 88) rfl))) (mvT hZ (hw _ (List.mem_of_getElem? (i := 89) rfl))) (mvT hZ (hw _ (List.mem_of_getElem? (i := 2) rfl))) (mvT hZ (hw _ (List.mem_of_getElem? (i := 90) rfl))) (by decide) (backOf (W := 0) (own_rlast2 l Z a0 hw [] b58 (47 : Int32) k58 c53 c54 c55 c56 c57 T70.heap n0 (Nat.le_trans Z0 Kp.1) V_b58) hZ (hw _ (List.mem_of_getElem? (i := 90) rfl)) (hw _ (List.mem_of_getElem? (i := 2) rfl)) (by decide) (by decide)) (g := (mkF m 122 #[iv p1, iv p2, iv p3, iv p4, iv p5, iv p6, iv (2 : Int32), iv c53, iv c54, iv c55, iv c56, iv c57, rv b58, rv b69, rv b70, iv (own_la [c53, c54, c55, c56, c57] (35 : Int32) 2), .unset, .unset, .unset] [(.int (47 : Int32)), (.int (2 : Int32)), (.ref b58)])) rfl (by rw [hml]; rfl) (argsL := [(.ref b58), (.int (2 : Int32)), (.int (47 : Int32))]) (rest := []) (lenOf own_pd___CIC_I rfl) rfl (by show 2 * 0 + _ ≤ _; exact Nat.le_of_eq rfl) (hb hby at_122) (fun _ _ => ⟨rfl, e71, (by decide : 6 + 0 ≤ _), (by decide : 22 + 0 ≤ _)⟩)
            dsimp only [Pt.U, Pt.locs, Pt.cells, Pt.slots] at X78 l78 y78 z78 st78 hQ78
            subst l78 y78 z78
            obtain ⟨rfl, Nq78, e78⟩ := hQ78
            have N78 := Fr.app N71 Nq78
            refine own_goW st78 ?_
            show own_GoW p e below s _ _ _ _ (T78.setTop (mkF m 125 #[iv p1, iv p2, iv p3, iv p4, iv p5, iv p6, iv (2 : Int32), iv c53, iv c54, iv c55, iv c56, iv c57, rv b58, rv b69, rv b70, iv (own_la [c53, c54, c55, c56, c57] (35 : Int32) 2), .unset, .unset, .unset] [(.int (own_la [c53, c54, c55, c56, c57] (47 : Int32) 2))]))
            exact tail _ _ _ X78 e78 N78 (by unfold own_cut; rw [el35, el47, if_pos hB])
          · refine own_goW (fun zt zk => (XS.ifNo X71.here hx rfl (hb hby at_108) rfl ((if0 _ _).trans (flt (hB : ¬ ((own_la [c53, c54, c55, c56, c57] (35 : Int32) 2) < (0 : Int32)))).1) (XS.iload X71.here hx rfl (hb hby at_111) rfl (XS.goto X71.here hx rfl (pc0 := 113) (pc' := 125) rfl (hb hby at_113) (by decide) (by decide) zk)))) ?_
            show own_GoW p e below s _ _ _ _ (T71.setTop (mkF m 125 #[iv p1, iv p2, iv p3, iv p4, iv p5, iv p6, iv (2 : Int32), iv c53, iv c54, iv c55, iv c56, iv c57, rv b58, rv b69, rv b70, iv (own_la [c53, c54, c55, c56, c57] (35 : Int32) 2), .unset, .unset, .unset] [(.int (own_la [c53, c54, c55, c56, c57] (35 : Int32) 2))]))
            exact tail _ _ _ X71 e71 N71 (by unfold own_cut; rw [el35, if_neg hB])
      · by_cases hk3_k : k = (3 : Int32)
        · subst hk3_k
          show own_GoW p e below s _ _ _ _ (s₁.setTop (mkF m 9 #[iv p1, iv p2, iv p3, iv p4, iv p5, iv p6, iv (3 : Int32), .unset, .unset, .unset, .unset, .unset, .unset, .unset, .unset, .unset, .unset, .unset, .unset] []))
          refine own_goW (fun zt zk => (XS.iloadN X0.here hx rfl (hb hby at_9) rfl zk)) ?_
          show own_GoW p e below s _ _ _ _ (s₁.setTop (mkF m 10 #[iv p1, iv p2, iv p3, iv p4, iv p5, iv p6, iv (3 : Int32), .unset, .unset, .unset, .unset, .unset, .unset, .unset, .unset, .unset, .unset, .unset, .unset] [(.int p2)]))
          obtain ⟨_, _, ⟨T79, L79, k79, n79⟩, -, X79, ⟨Lc79, hQ79, l79, y79, z79⟩, st79⟩ := Jvm.LawKit.callS X0 hx (y := (⟨"com/example/boxwright/boxwright/TableNamesLocalNamePinLaw", "pick", "(I)C"⟩ : MethodName)) hown (mvT hZ (hw _ (List.mem_of_getElem? (i := 0) rfl))) (mvT hZ (hw _ (List.mem_of_getElem? (i := 1) rfl))) (mvT hZ (hw _ (List.mem_of_getElem? (i := 2) rfl))) (mvT hZ (hw _ (List.mem_of_getElem? (i := 3) rfl))) (by decide) (backOf (W := 0) (own_rpick l Z a0 hw [] p2  h0 n0 Z0 ) hZ (hw _ (List.mem_of_getElem? (i := 3) rfl)) (hw _ (List.mem_of_getElem? (i := 2) rfl)) (by decide) (by decide)) (g := (mkF m 10 #[iv p1, iv p2, iv p3, iv p4, iv p5, iv p6, iv (3 : Int32), .unset, .unset, .unset, .unset, .unset, .unset, .unset, .unset, .unset, .unset, .unset, .unset] [(.int p2)])) rfl (by rw [hml]; rfl) (argsL := [(.int p2)]) (rest := []) (lenOf own_pd__I_C rfl) rfl (by show 2 * 0 + _ ≤ _; exact Nat.le_of_eq rfl) (hb hby at_10) (fun _ _ => ⟨rfl, e0, (by decide : 0 + 0 ≤ _), (by decide : 0 + 0 ≤ _)⟩)
          dsimp only [Pt.U, Pt.locs, Pt.cells, Pt.slots] at X79 l79 y79 z79 st79 hQ79
          subst l79 y79 z79
          obtain ⟨c79, rfl, Nq79, e79, hr_c79⟩ := hQ79
          have N79 := Fr.app N0 Nq79
          refine own_goW st79 ?_
          show own_GoW p e below s _ _ _ _ (T79.setTop (mkF m 13 #[iv p1, iv p2, iv p3, iv p4, iv p5, iv p6, iv (3 : Int32), .unset, .unset, .unset, .unset, .unset, .unset, .unset, .unset, .unset, .unset, .unset, .unset] [(.int c79)]))
          refine own_goW (fun zt zk => (XS.istore X79.here hx rfl (hb hby at_13) rfl (l' := #[iv p1, iv p2, iv p3, iv p4, iv p5, iv p6, iv (3 : Int32), iv c79, .unset, .unset, .unset, .unset, .unset, .unset, .unset, .unset, .unset, .unset, .unset]) rfl (XS.iloadN X79.here hx rfl (hb hby at_15) rfl zk))) ?_
          show own_GoW p e below s _ _ _ _ (T79.setTop (mkF m 16 #[iv p1, iv p2, iv p3, iv p4, iv p5, iv p6, iv (3 : Int32), iv c79, .unset, .unset, .unset, .unset, .unset, .unset, .unset, .unset, .unset, .unset, .unset] [(.int p3)]))
          obtain ⟨_, _, ⟨T80, L80, k80, n80⟩, -, X80, ⟨Lc80, hQ80, l80, y80, z80⟩, st80⟩ := Jvm.LawKit.callS X79 hx (y := (⟨"com/example/boxwright/boxwright/TableNamesLocalNamePinLaw", "pick", "(I)C"⟩ : MethodName)) hown (mvT hZ (hw _ (List.mem_of_getElem? (i := 0) rfl))) (mvT hZ (hw _ (List.mem_of_getElem? (i := 1) rfl))) (mvT hZ (hw _ (List.mem_of_getElem? (i := 2) rfl))) (mvT hZ (hw _ (List.mem_of_getElem? (i := 3) rfl))) (by decide) (backOf (W := 0) (own_rpick l Z a0 hw [] p3  h0 n0 Z0 ) hZ (hw _ (List.mem_of_getElem? (i := 3) rfl)) (hw _ (List.mem_of_getElem? (i := 2) rfl)) (by decide) (by decide)) (g := (mkF m 16 #[iv p1, iv p2, iv p3, iv p4, iv p5, iv p6, iv (3 : Int32), iv c79, .unset, .unset, .unset, .unset, .unset, .unset, .unset, .unset, .unset, .unset, .unset] [(.int p3)])) rfl (by rw [hml]; rfl) (argsL := [(.int p3)]) (rest := []) (lenOf own_pd__I_C rfl) rfl (by show 2 * 0 + _ ≤ _; exact Nat.le_of_eq rfl) (hb hby at_16) (fun _ _ => ⟨rfl, e79, (by decide : 0 + 0 ≤ _), (by decide : 0 + 0 ≤ _)⟩)
          dsimp only [Pt.U, Pt.locs, Pt.cells, Pt.slots] at X80 l80 y80 z80 st80 hQ80
          subst l80 y80 z80
          obtain ⟨c80, rfl, Nq80, e80, hr_c80⟩ := hQ80
          have N80 := Fr.app N79 Nq80
          refine own_goW st80 ?_
          show own_GoW p e below s _ _ _ _ (T80.setTop (mkF m 19 #[iv p1, iv p2, iv p3, iv p4, iv p5, iv p6, iv (3 : Int32), iv c79, .unset, .unset, .unset, .unset, .unset, .unset, .unset, .unset, .unset, .unset, .unset] [(.int c80)]))
          refine own_goW (fun zt zk => (XS.istore X80.here hx rfl (hb hby at_19) rfl (l' := #[iv p1, iv p2, iv p3, iv p4, iv p5, iv p6, iv (3 : Int32), iv c79, iv c80, .unset, .unset, .unset, .unset, .unset, .unset, .unset, .unset, .unset, .unset]) rfl (XS.iloadN X80.here hx rfl (hb hby at_21) rfl zk))) ?_
          show own_GoW p e below s _ _ _ _ (T80.setTop (mkF m 22 #[iv p1, iv p2, iv p3, iv p4, iv p5, iv p6, iv (3 : Int32), iv c79, iv c80, .unset, .unset, .unset, .unset, .unset, .unset, .unset, .unset, .unset, .unset] [(.int p4)]))
          obtain ⟨_, _, ⟨T81, L81, k81, n81⟩, -, X81, ⟨Lc81, hQ81, l81, y81, z81⟩, st81⟩ := Jvm.LawKit.callS X80 hx (y := (⟨"com/example/boxwright/boxwright/TableNamesLocalNamePinLaw", "pick", "(I)C"⟩ : MethodName)) hown (mvT hZ (hw _ (List.mem_of_getElem? (i := 0) rfl))) (mvT hZ (hw _ (List.mem_of_getElem? (i := 1) rfl))) (mvT hZ (hw _ (List.mem_of_getElem? (i := 2) rfl))) (mvT hZ (hw _ (List.mem_of_getElem? (i := 3) rfl))) (by decide) (backOf (W := 0) (own_rpick l Z a0 hw [] p4  h0 n0 Z0 ) hZ (hw _ (List.mem_of_getElem? (i := 3) rfl)) (hw _ (List.mem_of_getElem? (i := 2) rfl)) (by decide) (by decide)) (g := (mkF m 22 #[iv p1, iv p2, iv p3, iv p4, iv p5, iv p6, iv (3 : Int32), iv c79, iv c80, .unset, .unset, .unset, .unset, .unset, .unset, .unset, .unset, .unset, .unset] [(.int p4)])) rfl (by rw [hml]; rfl) (argsL := [(.int p4)]) (rest := []) (lenOf own_pd__I_C rfl) rfl (by show 2 * 0 + _ ≤ _; exact Nat.le_of_eq rfl) (hb hby at_22) (fun _ _ => ⟨rfl, e80, (by decide : 0 + 0 ≤ _), (by decide : 0 + 0 ≤ _)⟩)
          dsimp only [Pt.U, Pt.locs, Pt.cells, Pt.slots] at X81 l81 y81 z81 st81 hQ81
          subst l81 y81 z81
          obtain ⟨c81, rfl, Nq81, e81, hr_c81⟩ := hQ81
          have N81 := Fr.app N80 Nq81
          refine own_goW st81 ?_
          show own_GoW p e below s _ _ _ _ (T81.setTop (mkF m 25 #[iv p1, iv p2, iv p3, iv p4, iv p5, iv p6, iv (3 : Int32), iv c79, iv c80, .unset, .unset, .unset, .unset, .unset, .unset, .unset, .unset, .unset, .unset] [(.int c81)]))
          refine own_goW (fun zt zk => (XS.istore X81.here hx rfl (hb hby at_25) rfl (l' := #[iv p1, iv p2, iv p3, iv p4, iv p5, iv p6, iv (3 : Int32), iv c79, iv c80, iv c81, .unset, .unset, .unset, .unset, .unset, .unset, .unset, .unset, .unset]) rfl (XS.iload X81.here hx rfl (hb hby at_27) rfl zk))) ?_
          show own_GoW p e below s _ _ _ _ (T81.setTop (mkF m 29 #[iv p1, iv p2, iv p3, iv p4, iv p5, iv p6, iv (3 : Int32), iv c79, iv c80, iv c81, .unset, .unset, .unset, .unset, .unset, .unset, .unset, .unset, .unset] [(.int p5)]))
          obtain ⟨_, _, ⟨T82, L82, k82, n82⟩, -, X82, ⟨Lc82, hQ82, l82, y82, z82⟩, st82⟩ := Jvm.LawKit.callS X81 hx (y := (⟨"com/example/boxwright/boxwright/TableNamesLocalNamePinLaw", "pick", "(I)C"⟩ : MethodName)) hown (mvT hZ (hw _ (List.mem_of_getElem? (i := 0) rfl))) (mvT hZ (hw _ (List.mem_of_getElem? (i := 1) rfl))) (mvT hZ (hw _ (List.mem_of_getElem? (i := 2) rfl))) (mvT hZ (hw _ (List.mem_of_getElem? (i := 3) rfl))) (by decide) (backOf (W := 0) (own_rpick l Z a0 hw [] p5  h0 n0 Z0 ) hZ (hw _ (List.mem_of_getElem? (i := 3) rfl)) (hw _ (List.mem_of_getElem? (i := 2) rfl)) (by decide) (by decide)) (g := (mkF m 29 #[iv p1, iv p2, iv p3, iv p4, iv p5, iv p6, iv (3 : Int32), iv c79, iv c80, iv c81, .unset, .unset, .unset, .unset, .unset, .unset, .unset, .unset, .unset] [(.int p5)])) rfl (by rw [hml]; rfl) (argsL := [(.int p5)]) (rest := []) (lenOf own_pd__I_C rfl) rfl (by show 2 * 0 + _ ≤ _; exact Nat.le_of_eq rfl) (hb hby at_29) (fun _ _ => ⟨rfl, e81, (by decide : 0 + 0 ≤ _), (by decide : 0 + 0 ≤ _)⟩)
          dsimp only [Pt.U, Pt.locs, Pt.cells, Pt.slots] at X82 l82 y82 z82 st82 hQ82
          subst l82 y82 z82
          obtain ⟨c82, rfl, Nq82, e82, hr_c82⟩ := hQ82
          have N82 := Fr.app N81 Nq82
          refine own_goW st82 ?_
          show own_GoW p e below s _ _ _ _ (T82.setTop (mkF m 32 #[iv p1, iv p2, iv p3, iv p4, iv p5, iv p6, iv (3 : Int32), iv c79, iv c80, iv c81, .unset, .unset, .unset, .unset, .unset, .unset, .unset, .unset, .unset] [(.int c82)]))
          refine own_goW (fun zt zk => (XS.istore X82.here hx rfl (hb hby at_32) rfl (l' := #[iv p1, iv p2, iv p3, iv p4, iv p5, iv p6, iv (3 : Int32), iv c79, iv c80, iv c81, iv c82, .unset, .unset, .unset, .unset, .unset, .unset, .unset, .unset]) rfl (XS.iload X82.here hx rfl (hb hby at_34) rfl zk))) ?_
          show own_GoW p e below s _ _ _ _ (T82.setTop (mkF m 36 #[iv p1, iv p2, iv p3, iv p4, iv p5, iv p6, iv (3 : Int32), iv c79, iv c80, iv c81, iv c82, .unset, .unset, .unset, .unset, .unset, .unset, .unset, .unset] [(.int p6)]))
          obtain ⟨_, _, ⟨T83, L83, k83, n83⟩, -, X83, ⟨Lc83, hQ83, l83, y83, z83⟩, st83⟩ := Jvm.LawKit.callS X82 hx (y := (⟨"com/example/boxwright/boxwright/TableNamesLocalNamePinLaw", "pick", "(I)C"⟩ : MethodName)) hown (mvT hZ (hw _ (List.mem_of_getElem? (i := 0) rfl))) (mvT hZ (hw _ (List.mem_of_getElem? (i := 1) rfl))) (mvT hZ (hw _ (List.mem_of_getElem? (i := 2) rfl))) (mvT hZ (hw _ (List.mem_of_getElem? (i := 3) rfl))) (by decide) (backOf (W := 0) (own_rpick l Z a0 hw [] p6  h0 n0 Z0 ) hZ (hw _ (List.mem_of_getElem? (i := 3) rfl)) (hw _ (List.mem_of_getElem? (i := 2) rfl)) (by decide) (by decide)) (g := (mkF m 36 #[iv p1, iv p2, iv p3, iv p4, iv p5, iv p6, iv (3 : Int32), iv c79, iv c80, iv c81, iv c82, .unset, .unset, .unset, .unset, .unset, .unset, .unset, .unset] [(.int p6)])) rfl (by rw [hml]; rfl) (argsL := [(.int p6)]) (rest := []) (lenOf own_pd__I_C rfl) rfl (by show 2 * 0 + _ ≤ _; exact Nat.le_of_eq rfl) (hb hby at_36) (fun _ _ => ⟨rfl, e82, (by decide : 0 + 0 ≤ _), (by decide : 0 + 0 ≤ _)⟩)
          dsimp only [Pt.U, Pt.locs, Pt.cells, Pt.slots] at X83 l83 y83 z83 st83 hQ83
          subst l83 y83 z83
          obtain ⟨c83, rfl, Nq83, e83, hr_c83⟩ := hQ83
          have N83 := Fr.app N82 Nq83
          refine own_goW st83 ?_
          show own_GoW p e below s _ _ _ _ (T83.setTop (mkF m 39 #[iv p1, iv p2, iv p3, iv p4, iv p5, iv p6, iv (3 : Int32), iv c79, iv c80, iv c81, iv c82, .unset, .unset, .unset, .unset, .unset, .unset, .unset, .unset] [(.int c83)]))
          refine own_goW (fun zt zk => (XS.istore X83.here hx rfl (hb hby at_39) rfl (l' := #[iv p1, iv p2, iv p3, iv p4, iv p5, iv p6, iv (3 : Int32), iv c79, iv c80, iv c81, iv c82, iv c83, .unset, .unset, .unset, .unset, .unset, .unset, .unset]) rfl (XS.iconst X83.here hx rfl (hb hby at_41) zk))) ?_
          show own_GoW p e below s _ _ _ _ (T83.setTop (mkF m 42 #[iv p1, iv p2, iv p3, iv p4, iv p5, iv p6, iv (3 : Int32), iv c79, iv c80, iv c81, iv c82, iv c83, .unset, .unset, .unset, .unset, .unset, .unset, .unset] [(.int (5 : Int32))]))
          obtain ⟨T84, h84, k84, X84, e84, E84, A84, Ea84, st84⟩ := newPE X83 hx hZ (hw _ (List.mem_of_getElem? (i := 4) rfl)) e83 (g := (mkF m 42 #[iv p1, iv p2, iv p3, iv p4, iv p5, iv p6, iv (3 : Int32), iv c79, iv c80, iv c81, iv c82, iv c83, .unset, .unset, .unset, .unset, .unset, .unset, .unset] [(.int (5 : Int32))])) rfl (hb hby at_42) rfl (by decide) (cap := 5) (by decide) (by decide) (by decide) (by decide) (ad := "[C") (by decide)
          obtain ⟨b84, g84⟩ : ∃ z, z = h0.size := ⟨_, rfl⟩
          rw [← g84] at A84 Ea84 st84
          refine own_goW st84 ?_
          have sz_b84 : h0.size ≤ b84 := Nat.le_trans Kp.1 (Nat.le_of_eq g84.symm)
          have g_b84 : n0 ≤ b84 := Nat.le_trans Z0 sz_b84
          have Sf_b84 : Safe Z own_EL s.vm h0 b84 := Safe.new (Nat.le_of_eq g84.symm)
          replace O := O.ext E84
          replace Kp := Kp.ext E84
          replace Sf_b84 := Safe.ext E84 Rc.1 Sf_b84
          replace Rc := Rc.trans (CHr.ext E84 Rc.1)
          replace hk := Nat.le_trans hk E84.1
          have V_b84 : Arv Z h84 b84 k84 .char (5 : Int32) [(.int (0 : Int32)), (.int (0 : Int32)), (.int (0 : Int32)), (.int (0 : Int32)), (.int (0 : Int32))] (.int (0 : Int32)) := (Arv.new A84 (by decide)).pad (pad_rep [] (.int (0 : Int32)) 5)
          have Ea_b84 := Ea84
          show own_GoW p e below s _ _ _ _ (T84.setTop (mkF m 44 #[iv p1, iv p2, iv p3, iv p4, iv p5, iv p6, iv (3 : Int32), iv c79, iv c80, iv c81, iv c82, iv c83, .unset, .unset, .unset, .unset, .unset, .unset, .unset] [(.ref b84)]))
          refine own_goW (fun zt zk => (XS.dup X84.here hx rfl (hb hby at_44) rfl rfl (XS.iconst X84.here hx rfl (hb hby at_45) (XS.iload X84.here hx rfl (hb hby at_46) rfl zk)))) ?_
          show own_GoW p e below s _ _ _ _ (T84.setTop (mkF m 48 #[iv p1, iv p2, iv p3, iv p4, iv p5, iv p6, iv (3 : Int32), iv c79, iv c80, iv c81, iv c82, iv c83, .unset, .unset, .unset, .unset, .unset, .unset, .unset] [(.int c79), (.int (0 : Int32)), (.ref b84), (.ref b84)]))
          obtain ⟨cl85, Ar85, q85, Sz85, Nz85, Ha85, Ga85⟩ := id V_b84
          have hin85 : ¬ ((0 : Int32) < 0 ∨ cl85.slots.size ≤ ((0 : Int32)).toNatClampNeg) := inb_of Sz85 ⟨by decide, by decide⟩
          obtain ⟨T86, h86, X86, e86, W86, st86⟩ := stC X84 hx hZ e84 Ar85 (j := (0 : Int32)) hin85 (g := (mkF m 48 #[iv p1, iv p2, iv p3, iv p4, iv p5, iv p6, iv (3 : Int32), iv c79, iv c80, iv c81, iv c82, iv c83, .unset, .unset, .unset, .unset, .unset, .unset, .unset] [(.int c79), (.int (0 : Int32)), (.ref b84), (.ref b84)])) rfl rfl (hb hby at_48)
          refine own_goW st86 ?_
          rw [show nar .char c79 = c79 from own_narc hr_c79] at W86
          have V86 := Arv.set Ar85 q85 Sz85 Nz85 Ha85 Ga85 (own_fitc hr_c79) W86 0 rfl (Nat.le_of_ble_eq_true rfl)
          have N86 := Fr.snoc X86 N83 g_b84
          have Sf_b84' := Safe.wr W86 Sf_b84 Rc.1 Sf_b84
          replace Rc := Rc.trans (CHr.wr W86 Sf_b84 Rc.1)
          replace hk := Nat.le_trans hk (Keep.of_wr W86).1
          replace Sf_b84 := Sf_b84'
          replace O := O.wr W86 g_b84
          replace Kp := Kp.wr W86 (Or.inr sz_b84)
          replace Ea_b84 := Ea_b84.wr W86
          replace V_b84 : Arv Z h86 b84 k84 .char (5 : Int32) [(.int c79), (.int (0 : Int32)), (.int (0 : Int32)), (.int (0 : Int32)), (.int (0 : Int32))] (.int (0 : Int32)) := V86
          show own_GoW p e below s _ _ _ _ (T86.setTop (mkF m 49 #[iv p1, iv p2, iv p3, iv p4, iv p5, iv p6, iv (3 : Int32), iv c79, iv c80, iv c81, iv c82, iv c83, .unset, .unset, .unset, .unset, .unset, .unset, .unset] [(.ref b84)]))
          refine own_goW (fun zt zk => (XS.dup X86.here hx rfl (hb hby at_49) rfl rfl (XS.iconst X86.here hx rfl (hb hby at_50) (XS.iload X86.here hx rfl (hb hby at_51) rfl zk)))) ?_
          show own_GoW p e below s _ _ _ _ (T86.setTop (mkF m 53 #[iv p1, iv p2, iv p3, iv p4, iv p5, iv p6, iv (3 : Int32), iv c79, iv c80, iv c81, iv c82, iv c83, .unset, .unset, .unset, .unset, .unset, .unset, .unset] [(.int c80), (.int (1 : Int32)), (.ref b84), (.ref b84)]))
          obtain ⟨cl87, Ar87, q87, Sz87, Nz87, Ha87, Ga87⟩ := id V_b84
          have hin87 : ¬ ((1 : Int32) < 0 ∨ cl87.slots.size ≤ ((1 : Int32)).toNatClampNeg) := inb_of Sz87 ⟨by decide, by decide⟩
          obtain ⟨T88, h88, X88, e88, W88, st88⟩ := stC X86 hx hZ e86 Ar87 (j := (1 : Int32)) hin87 (g := (mkF m 53 #[iv p1, iv p2, iv p3, iv p4, iv p5, iv p6, iv (3 : Int32), iv c79, iv c80, iv c81, iv c82, iv c83, .unset, .unset, .unset, .unset, .unset, .unset, .unset] [(.int c80), (.int (1 : Int32)), (.ref b84), (.ref b84)])) rfl rfl (hb hby at_53)
          refine own_goW st88 ?_
          rw [show nar .char c80 = c80 from own_narc hr_c80] at W88
          have V88 := Arv.set Ar87 q87 Sz87 Nz87 Ha87 Ga87 (own_fitc hr_c80) W88 1 rfl (Nat.le_of_ble_eq_true rfl)
          have N88 := Fr.snoc X88 N86 g_b84
          have Sf_b84' := Safe.wr W88 Sf_b84 Rc.1 Sf_b84
          replace Rc := Rc.trans (CHr.wr W88 Sf_b84 Rc.1)
          replace hk := Nat.le_trans hk (Keep.of_wr W88).1
          replace Sf_b84 := Sf_b84'
          replace O := O.wr W88 g_b84
          replace Kp := Kp.wr W88 (Or.inr sz_b84)
          replace Ea_b84 := Ea_b84.wr W88
          replace V_b84 : Arv Z h88 b84 k84 .char (5 : Int32) [(.int c79), (.int c80), (.int (0 : Int32)), (.int (0 : Int32)), (.int (0 : Int32))] (.int (0 : Int32)) := V88
          show own_GoW p e below s _ _ _ _ (T88.setTop (mkF m 54 #[iv p1, iv p2, iv p3, iv p4, iv p5, iv p6, iv (3 : Int32), iv c79, iv c80, iv c81, iv c82, iv c83, .unset, .unset, .unset, .unset, .unset, .unset, .unset] [(.ref b84)]))
          refine own_goW (fun zt zk => (XS.dup X88.here hx rfl (hb hby at_54) rfl rfl (XS.iconst X88.here hx rfl (hb hby at_55) (XS.iload X88.here hx rfl (hb hby at_56) rfl zk)))) ?_
          show own_GoW p e below s _ _ _ _ (T88.setTop (mkF m 58 #[iv p1, iv p2, iv p3, iv p4, iv p5, iv p6, iv (3 : Int32), iv c79, iv c80, iv c81, iv c82, iv c83, .unset, .unset, .unset, .unset, .unset, .unset, .unset] [(.int c81), (.int (2 : Int32)), (.ref b84), (.ref b84)]))
          obtain ⟨cl89, Ar89, q89, Sz89, Nz89, Ha89, Ga89⟩ := id V_b84
          have hin89 : ¬ ((2 : Int32) < 0 ∨ cl89.slots.size ≤ ((2 : Int32)).toNatClampNeg) := inb_of Sz89 ⟨by decide, by decide⟩
          obtain ⟨T90, h90, X90, e90, W90, st90⟩ := stC X88 hx hZ e88 Ar89 (j := (2 : Int32)) hin89 (g := (mkF m 58 #[iv p1, iv p2, iv p3, iv p4, iv p5, iv p6, iv (3 : Int32), iv c79, iv c80, iv c81, iv c82, iv c83, .unset, .unset, .unset, .unset, .unset, .unset, .unset] [(.int c81), (.int (2 : Int32)), (.ref b84), (.ref b84)])) rfl rfl (hb hby at_58)
          refine own_goW st90 ?_
          rw [show nar .char c81 = c81 from own_narc hr_c81] at W90
          have V90 := Arv.set Ar89 q89 Sz89 Nz89 Ha89 Ga89 (own_fitc hr_c81) W90 2 rfl (Nat.le_of_ble_eq_true rfl)
          have N90 := Fr.snoc X90 N88 g_b84
          have Sf_b84' := Safe.wr W90 Sf_b84 Rc.1 Sf_b84
          replace Rc := Rc.trans (CHr.wr W90 Sf_b84 Rc.1)
          replace hk := Nat.le_trans hk (Keep.of_wr W90).1
          replace Sf_b84 := Sf_b84'
          replace O := O.wr W90 g_b84
          replace Kp := Kp.wr W90 (Or.inr sz_b84)
          replace Ea_b84 := Ea_b84.wr W90
          replace V_b84 : Arv Z h90 b84 k84 .char (5 : Int32) [(.int c79), (.int c80), (.int c81), (.int (0 : Int32)), (.int (0 : Int32))] (.int (0 : Int32)) := V90
          show own_GoW p e below s _ _ _ _ (T90.setTop (mkF m 59 #[iv p1, iv p2, iv p3, iv p4, iv p5, iv p6, iv (3 : Int32), iv c79, iv c80, iv c81, iv c82, iv c83, .unset, .unset, .unset, .unset, .unset, .unset, .unset] [(.ref b84)]))
          refine own_goW (fun zt zk => (XS.dup X90.here hx rfl (hb hby at_59) rfl rfl (XS.iconst X90.here hx rfl (hb hby at_60) (XS.iload X90.here hx rfl (hb hby at_61) rfl zk)))) ?_
          show own_GoW p e below s _ _ _ _ (T90.setTop (mkF m 63 #[iv p1, iv p2, iv p3, iv p4, iv p5, iv p6, iv (3 : Int32), iv c79, iv c80, iv c81, iv c82, iv c83, .unset, .unset, .unset, .unset, .unset, .unset, .unset] [(.int c82), (.int (3 : Int32)), (.ref b84), (.ref b84)]))
          obtain ⟨cl91, Ar91, q91, Sz91, Nz91, Ha91, Ga91⟩ := id V_b84
          have hin91 : ¬ ((3 : Int32) < 0 ∨ cl91.slots.size ≤ ((3 : Int32)).toNatClampNeg) := inb_of Sz91 ⟨by decide, by decide⟩
          obtain ⟨T92, h92, X92, e92, W92, st92⟩ := stC X90 hx hZ e90 Ar91 (j := (3 : Int32)) hin91 (g := (mkF m 63 #[iv p1, iv p2, iv p3, iv p4, iv p5, iv p6, iv (3 : Int32), iv c79, iv c80, iv c81, iv c82, iv c83, .unset, .unset, .unset, .unset, .unset, .unset, .unset] [(.int c82), (.int (3 : Int32)), (.ref b84), (.ref b84)])) rfl rfl (hb hby at_63)
          refine own_goW st92 ?_
          rw [show nar .char c82 = c82 from own_narc hr_c82] at W92
          have V92 := Arv.set Ar91 q91 Sz91 Nz91 Ha91 Ga91 (own_fitc hr_c82) W92 3 rfl (Nat.le_of_ble_eq_true rfl)
          have N92 := Fr.snoc X92 N90 g_b84
          have Sf_b84' := Safe.wr W92 Sf_b84 Rc.1 Sf_b84
          replace Rc := Rc.trans (CHr.wr W92 Sf_b84 Rc.1)
          replace hk := Nat.le_trans hk (Keep.of_wr W92).1
          replace Sf_b84 := Sf_b84'
          replace O := O.wr W92 g_b84
          replace Kp := Kp.wr W92 (Or.inr sz_b84)
          replace Ea_b84 := Ea_b84.wr W92
          replace V_b84 : Arv Z h92 b84 k84 .char (5 : Int32) [(.int c79), (.int c80), (.int c81), (.int c82), (.int (0 : Int32))] (.int (0 : Int32)) := V92
          show own_GoW p e below s _ _ _ _ (T92.setTop (mkF m 64 #[iv p1, iv p2, iv p3, iv p4, iv p5, iv p6, iv (3 : Int32), iv c79, iv c80, iv c81, iv c82, iv c83, .unset, .unset, .unset, .unset, .unset, .unset, .unset] [(.ref b84)]))
          refine own_goW (fun zt zk => (XS.dup X92.here hx rfl (hb hby at_64) rfl rfl (XS.iconst X92.here hx rfl (hb hby at_65) (XS.iload X92.here hx rfl (hb hby at_66) rfl zk)))) ?_
          show own_GoW p e below s _ _ _ _ (T92.setTop (mkF m 68 #[iv p1, iv p2, iv p3, iv p4, iv p5, iv p6, iv (3 : Int32), iv c79, iv c80, iv c81, iv c82, iv c83, .unset, .unset, .unset, .unset, .unset, .unset, .unset] [(.int c83), (.int (4 : Int32)), (.ref b84), (.ref b84)]))
          obtain ⟨cl93, Ar93, q93, Sz93, Nz93, Ha93, Ga93⟩ := id V_b84
          have hin93 : ¬ ((4 : Int32) < 0 ∨ cl93.slots.size ≤ ((4 : Int32)).toNatClampNeg) := inb_of Sz93 ⟨by decide, by decide⟩
          obtain ⟨T94, h94, X94, e94, W94, st94⟩ := stC X92 hx hZ e92 Ar93 (j := (4 : Int32)) hin93 (g := (mkF m 68 #[iv p1, iv p2, iv p3, iv p4, iv p5, iv p6, iv (3 : Int32), iv c79, iv c80, iv c81, iv c82, iv c83, .unset, .unset, .unset, .unset, .unset, .unset, .unset] [(.int c83), (.int (4 : Int32)), (.ref b84), (.ref b84)])) rfl rfl (hb hby at_68)
          refine own_goW st94 ?_
          rw [show nar .char c83 = c83 from own_narc hr_c83] at W94
          have V94 := Arv.set Ar93 q93 Sz93 Nz93 Ha93 Ga93 (own_fitc hr_c83) W94 4 rfl (Nat.le_of_ble_eq_true rfl)
          have N94 := Fr.snoc X94 N92 g_b84
          have Sf_b84' := Safe.wr W94 Sf_b84 Rc.1 Sf_b84
          replace Rc := Rc.trans (CHr.wr W94 Sf_b84 Rc.1)
          replace hk := Nat.le_trans hk (Keep.of_wr W94).1
          replace Sf_b84 := Sf_b84'
          replace O := O.wr W94 g_b84
          replace Kp := Kp.wr W94 (Or.inr sz_b84)
          replace Ea_b84 := Ea_b84.wr W94
          replace V_b84 : Arv Z h94 b84 k84 .char (5 : Int32) [(.int c79), (.int c80), (.int c81), (.int c82), (.int c83)] (.int (0 : Int32)) := V94
          show own_GoW p e below s _ _ _ _ (T94.setTop (mkF m 69 #[iv p1, iv p2, iv p3, iv p4, iv p5, iv p6, iv (3 : Int32), iv c79, iv c80, iv c81, iv c82, iv c83, .unset, .unset, .unset, .unset, .unset, .unset, .unset] [(.ref b84)]))
          refine own_goW (fun zt zk => (XS.astore X94.here hx rfl (hb hby at_69) rfl rfl (l' := #[iv p1, iv p2, iv p3, iv p4, iv p5, iv p6, iv (3 : Int32), iv c79, iv c80, iv c81, iv c82, iv c83, rv b84, .unset, .unset, .unset, .unset, .unset, .unset]) rfl (XS.iload X94.here hx rfl (hb hby at_71) rfl (XS.iload X94.here hx rfl (hb hby at_73) rfl (XS.iload X94.here hx rfl (hb hby at_75) rfl (XS.iload X94.here hx rfl (hb hby at_77) rfl (XS.iload X94.here hx rfl (hb hby at_79) rfl (XS.iload X94.here hx rfl (hb hby at_81) rfl zk)))))))) ?_
          show own_GoW p e below s _ _ _ _ (T94.setTop (mkF m 83 #[iv p1, iv p2, iv p3, iv p4, iv p5, iv p6, iv (3 : Int32), iv c79, iv c80, iv c81, iv c82, iv c83, rv b84, .unset, .unset, .unset, .unset, .unset, .unset] [(.int c83), (.int c82), (.int c81), (.int c80), (.int c79), (.int (3 : Int32))]))
          obtain ⟨_, _, ⟨T95, L95, k95, n95⟩, -, X95, ⟨Lc95, hQ95, l95, y95, z95⟩, st95⟩ := Jvm.LawKit.callS X94 hx (y := (⟨"com/example/boxwright/boxwright/TableNamesLocalNamePinLaw", "make", "(ICCCCC)Ljava/lang/String;"⟩ : MethodName)) hown (mvT hZ (hw _ (List.mem_of_getElem? (i := 5) rfl))) (mvT hZ (hw _ (List.mem_of_getElem? (i := 6) rfl))) (mvT hZ (hw _ (List.mem_of_getElem? (i := 2) rfl))) (mvT hZ (hw _ (List.mem_of_getElem? (i := 7) rfl))) (by decide) (backOf (W := 0) (own_rmake3 l Z a0 hw [] c79 c80 c81 c82 c83 o_COMPACT_STRINGS h94 n0 (Nat.le_trans Z0 Kp.1) O S_o_COMPACT_STRINGS nz_o_COMPACT_STRINGS hr_c79 hr_c80 hr_c81 hr_c82 hr_c83) hZ (hw _ (List.mem_of_getElem? (i := 7) rfl)) (hw _ (List.mem_of_getElem? (i := 2) rfl)) (by decide) (by decide)) (g := (mkF m 83 #[iv p1, iv p2, iv p3, iv p4, iv p5, iv p6, iv (3 : Int32), iv c79, iv c80, iv c81, iv c82, iv c83, rv b84, .unset, .unset, .unset, .unset, .unset, .unset] [(.int c83), (.int c82), (.int c81), (.int c80), (.int c79), (.int (3 : Int32))])) rfl (by rw [hml]; rfl) (argsL := [(.int (3 : Int32)), (.int c79), (.int c80), (.int c81), (.int c82), (.int c83)]) (rest := []) (lenOf own_pd__ICCCCC_Ljava_lang_String_ rfl) rfl (by show 2 * 0 + _ ≤ _; exact Nat.le_of_eq rfl) (hb hby at_83) (fun _ _ => ⟨rfl, e94, (by decide : 1 + 3 ≤ _), (by decide : 5 + 10 ≤ _)⟩)
          dsimp only [Pt.U, Pt.locs, Pt.cells, Pt.slots] at X95 l95 y95 z95 st95 hQ95
          subst l95 y95 z95
          obtain ⟨b95, t95, kb95, rfl, Nq95, K95, sb95, Ex_b95, Fv95, Fc95, Vt95⟩ := hQ95
          have N95 := Fr.app N94 Nq95
          refine own_goW st95 ?_
          have Sf_b84' := Safe.keep K95 all0 Rc.1 Sf_b84
          replace Rc := Rc.trans (CHr.keep K95 all0 Rc.1)
          replace hk := Nat.le_trans hk K95.1
          replace Sf_b84 := Sf_b84'
          replace O := O.keep K95 all0
          replace Kp := Kp.trans K95 all0
          replace V_b84 := V_b84.keep K95 nin0
          replace Ea_b84 := Ea_b84.keep K95
          show own_GoW p e below s _ _ _ _ (T95.setTop (mkF m 86 #[iv p1, iv p2, iv p3, iv p4, iv p5, iv p6, iv (3 : Int32), iv c79, iv c80, iv c81, iv c82, iv c83, rv b84, .unset, .unset, .unset, .unset, .unset, .unset] [(.ref b95)]))
          obtain ⟨s', hs', hsl⟩ := own_cut1 [(c79.toInt8.toInt32), (c80.toInt8.toInt32), (c81.toInt8.toInt32)] 3 (by decide)
          have hcr : ∀ c ∈ ([c79, c80, c81] : List Int32), ¬ (c < (0 : Int32)) ∧ ¬ ((255 : Int32) < c) := (own_ac hr_c79 (own_ac hr_c80 (own_ac hr_c81 own_an)))
          refine own_goW (fun zt zk => (XS.astore X95.here hx rfl (hb hby at_86) rfl rfl (l' := #[iv p1, iv p2, iv p3, iv p4, iv p5, iv p6, iv (3 : Int32), iv c79, iv c80, iv c81, iv c82, iv c83, rv b84, rv b95, .unset, .unset, .unset, .unset, .unset]) rfl (XS.aload X95.here hx rfl (hb hby at_88) rfl rfl zk))) ?_
          show own_GoW p e below s _ _ _ _ (T95.setTop (mkF m 90 #[iv p1, iv p2, iv p3, iv p4, iv p5, iv p6, iv (3 : Int32), iv c79, iv c80, iv c81, iv c82, iv c83, rv b84, rv b95, .unset, .unset, .unset, .unset, .unset] [(.ref b95)]))
          obtain ⟨_, _, ⟨T96, L96, k96, n96⟩, -, X96, hSq96, hgq96, ⟨Lc96, hQ96, l96, y96, z96, A96⟩, st96⟩ := callSS X95 hx (y := (⟨"com/example/boxwright/boxwright/TableNames", "localName", "(Ljava/lang/String;)Ljava/lang/String;"⟩ : MethodName)) hown (mvT hZ (hw _ (List.mem_of_getElem? (i := 29) rfl))) (mvT hZ (hw _ (List.mem_of_getElem? (i := 30) rfl))) (mvT hZ (hw _ (List.mem_of_getElem? (i := 31) rfl))) (mvT hZ (hw _ (List.mem_of_getElem? (i := 32) rfl))) (by decide) (own_backW (s := s) (W := 0) (own_rln l Z a0 hw [] b95 o_COMPACT_STRINGS o_SIOOBE_FORMATTER t95 kb95 [(c79.toInt8.toInt32), (c80.toInt8.toInt32), (c81.toInt8.toInt32)] s' s.vm T95.heap n0 (Nat.le_trans Z0 Kp.1) O S_o_COMPACT_STRINGS S_o_SIOOBE_FORMATTER Ex_b95 Fv95 Fc95 Vt95 nz_o_COMPACT_STRINGS r_o_SIOOBE_FORMATTER (Nat.le_of_ble_eq_true rfl) hsl hs') hZ (hw _ (List.mem_of_getElem? (i := 32) rfl)) (hw _ (List.mem_of_getElem? (i := 31) rfl)) (by decide) (by decide) hEL Rc.1) (g := (mkF m 90 #[iv p1, iv p2, iv p3, iv p4, iv p5, iv p6, iv (3 : Int32), iv c79, iv c80, iv c81, iv c82, iv c83, rv b84, rv b95, .unset, .unset, .unset, .unset, .unset] [(.ref b95)])) rfl (by rw [hml]; rfl) (argsL := [(.ref b95)]) (rest := []) (lenOf own_pd__Ljava_lang_String__Ljava_lang_String_ rfl) rfl (by show 2 * 0 + _ ≤ _; exact Nat.le_of_eq rfl) (hb hby at_90) (fun _ _ => ⟨rfl, rfl, (by decide : 4 + 2 ≤ _), (by decide : 15 + 9 ≤ _)⟩)
          dsimp only [Pt.U, Pt.locs, Pt.cells, Pt.slots] at X96 l96 y96 z96 st96 hQ96 hSq96 hgq96 A96
          subst l96 y96 z96
          obtain ⟨X96, hS96, hZ96, hown96⟩ := rebS hS (hk) X96 hSq96 hgq96 hZ hown
          replace Sf_b84 := CHr.safe A96 V_b84.lt Sf_b84
          replace Rc := Rc.trans A96
          replace hS := hS96
          replace hZ := hZ96
          replace hown := hown96
          have hk : T96.heap.size ≤ T96.heap.size := Nat.le_refl _
          obtain ⟨b96, t96, kb96, rfl, Nq96, K96, Ex_b96, Fv96, Fc96, Vt96⟩ := hQ96
          have N96 := Fr.app N95 Nq96
          refine own_goW (fun zt zk => st96.trans zk) ?_
          replace O := O.keep K96 all0
          replace Kp := Kp.trans K96 all0
          replace V_b84 := V_b84.keep K96 nin0
          replace Ea_b84 := Ea_b84.keep K96
          replace Ex_b95 := Ex_b95.keep K96
          replace Fv95 := Fv95.keep K96 nin0
          replace Fc95 := Fc95.keep K96 nin0
          replace Vt95 := Vt95.keep K96 nin0
          show own_GoW p e below s _ _ _ _ (T96.setTop (mkF m 93 #[iv p1, iv p2, iv p3, iv p4, iv p5, iv p6, iv (3 : Int32), iv c79, iv c80, iv c81, iv c82, iv c83, rv b84, rv b95, .unset, .unset, .unset, .unset, .unset] [(.ref b96)]))
          have el35 : own_la [(c79.toInt8.toInt32), (c80.toInt8.toInt32), (c81.toInt8.toInt32)] 35 3 = own_la [c79, c80, c81, c82, c83] 35 3 := own_la_map hcr (by decide) (by decide) 3 (Nat.le_of_ble_eq_true rfl)
          have el47 : own_la [(c79.toInt8.toInt32), (c80.toInt8.toInt32), (c81.toInt8.toInt32)] 47 3 = own_la [c79, c80, c81, c82, c83] 47 3 := own_la_map hcr (by decide) (by decide) 3 (Nat.le_of_ble_eq_true rfl)
          refine own_goW (fun zt zk => (XS.astore X96.here hx rfl (hb hby at_93) rfl rfl (l' := #[iv p1, iv p2, iv p3, iv p4, iv p5, iv p6, iv (3 : Int32), iv c79, iv c80, iv c81, iv c82, iv c83, rv b84, rv b95, rv b96, .unset, .unset, .unset, .unset]) rfl (XS.aload X96.here hx rfl (hb hby at_95) rfl rfl (XS.iload X96.here hx rfl (hb hby at_97) rfl (XS.bipush X96.here hx rfl (hb hby at_99) zk))))) ?_
          show own_GoW p e below s _ _ _ _ (T96.setTop (mkF m 101 #[iv p1, iv p2, iv p3, iv p4, iv p5, iv p6, iv (3 : Int32), iv c79, iv c80, iv c81, iv c82, iv c83, rv b84, rv b95, rv b96, .unset, .unset, .unset, .unset] [(.int (35 : Int32)), (.int (3 : Int32)), (.ref b84)]))
          obtain ⟨_, _, ⟨T97, L97, k97, n97⟩, -, X97, ⟨Lc97, hQ97, l97, y97, z97⟩, st97⟩ := Jvm.LawKit.callS X96 hx (y := (⟨"com/example/boxwright/boxwright/TableNamesLocalNamePinLaw", "last", "([CIC)I"⟩ : MethodName)) hown (mvT hZ (hw _ (List.mem_of_getElem? (i := 88) rfl))) (mvT hZ (hw _ (List.mem_of_getElem? (i := 89) rfl))) (mvT hZ (hw _ (List.mem_of_getElem? (i := 2) rfl))) (mvT hZ (hw _ (List.mem_of_getElem? (i := 90) rfl))) (by decide) (backOf (W := 0) (own_rlast3 l Z a0 hw [] b84 (35 : Int32) k84 c79 c80 c81 c82 c83 T96.heap n0 (Nat.le_trans Z0 Kp.1) V_b84) hZ (hw _ (List.mem_of_getElem? (i := 90) rfl)) (hw _ (List.mem_of_getElem? (i := 2) rfl)) (by decide) (by decide)) (g := (mkF m 101 #[iv p1, iv p2, iv p3, iv p4, iv p5, iv p6, iv (3 : Int32), iv c79, iv c80, iv c81, iv c82, iv c83, rv b84, rv b95, rv b96, .unset, .unset, .unset, .unset] [(.int (35 : Int32)), (.int (3 : Int32)), (.ref b84)])) rfl (by rw [hml]; rfl) (argsL := [(.ref b84), (.int (3 : Int32)), (.int (35 : Int32))]) (rest := []) (lenOf own_pd___CIC_I rfl) rfl (by show 2 * 0 + _ ≤ _; exact Nat.le_of_eq rfl) (hb hby at_101) (fun _ _ => ⟨rfl, rfl, (by decide : 6 + 0 ≤ _), (by decide : 24 + 0 ≤ _)⟩)
          dsimp only [Pt.U, Pt.locs, Pt.cells, Pt.slots] at X97 l97 y97 z97 st97 hQ97
          subst l97 y97 z97
          obtain ⟨rfl, Nq97, e97⟩ := hQ97
          have N97 := Fr.app N96 Nq97
          refine own_goW st97 ?_
          show own_GoW p e below s _ _ _ _ (T97.setTop (mkF m 104 #[iv p1, iv p2, iv p3, iv p4, iv p5, iv p6, iv (3 : Int32), iv c79, iv c80, iv c81, iv c82, iv c83, rv b84, rv b95, rv b96, .unset, .unset, .unset, .unset] [(.int (own_la [c79, c80, c81, c82, c83] (35 : Int32) 3))]))
          refine own_goW (fun zt zk => (XS.istore X97.here hx rfl (hb hby at_104) rfl (l' := #[iv p1, iv p2, iv p3, iv p4, iv p5, iv p6, iv (3 : Int32), iv c79, iv c80, iv c81, iv c82, iv c83, rv b84, rv b95, rv b96, iv (own_la [c79, c80, c81, c82, c83] (35 : Int32) 3), .unset, .unset, .unset]) rfl (XS.iload X97.here hx rfl (hb hby at_106) rfl zk))) ?_
          show own_GoW p e below s _ _ _ _ (T97.setTop (mkF m 108 #[iv p1, iv p2, iv p3, iv p4, iv p5, iv p6, iv (3 : Int32), iv c79, iv c80, iv c81, iv c82, iv c83, rv b84, rv b95, rv b96, iv (own_la [c79, c80, c81, c82, c83] (35 : Int32) 3), .unset, .unset, .unset] [(.int (own_la [c79, c80, c81, c82, c83] (35 : Int32) 3))]))
          refine own_use X97 (h := T96.heap) (n0 := n0) (P := fun cut => cut = own_cut [(c79.toInt8.toInt32), (c80.toInt8.toInt32), (c81.toInt8.toInt32)] 3) (K := fun T cut => own_GoW p e below s Z (own_Q_own_law Z p1 p2 p3 p4 p5 p6 o_COMPACT_STRINGS o_SIOOBE_FORMATTER h0 n0) room_1.cells room_1.slots (T.setTop (mkF m 125 #[iv p1, iv p2, iv p3, iv p4, iv p5, iv p6, iv (3 : Int32), iv c79, iv c80, iv c81, iv c82, iv c83, rv b84, rv b95, rv b96, iv (own_la [c79, c80, c81, c82, c83] (35 : Int32) 3), .unset, .unset, .unset] [(.int cut)]))) ?_ ?_
          · intro TJ LJ cut XJ eJ NJ hcut
            subst hcut
            show own_GoW p e below s _ _ _ _ (TJ.setTop (mkF m 125 #[iv p1, iv p2, iv p3, iv p4, iv p5, iv p6, iv (3 : Int32), iv c79, iv c80, iv c81, iv c82, iv c83, rv b84, rv b95, rv b96, iv (own_la [c79, c80, c81, c82, c83] (35 : Int32) 3), .unset, .unset, .unset] [(.int (own_cut [(c79.toInt8.toInt32), (c80.toInt8.toInt32), (c81.toInt8.toInt32)] 3))]))
            refine own_goW (fun zt zk => (XS.istore XJ.here hx rfl (hb hby at_125) rfl (l' := #[iv p1, iv p2, iv p3, iv p4, iv p5, iv p6, iv (3 : Int32), iv c79, iv c80, iv c81, iv c82, iv c83, rv b84, rv b95, rv b96, iv (own_la [c79, c80, c81, c82, c83] (35 : Int32) 3), iv (own_cut [(c79.toInt8.toInt32), (c80.toInt8.toInt32), (c81.toInt8.toInt32)] 3), .unset, .unset]) rfl (XS.iload XJ.here hx rfl (hb hby at_127) rfl (XS.iconst XJ.here hx rfl (hb hby at_129) (XS.iadd XJ.here hx rfl (hb hby at_130) rfl zk))))) ?_
            show own_GoW p e below s _ _ _ _ (TJ.setTop (mkF m 131 #[iv p1, iv p2, iv p3, iv p4, iv p5, iv p6, iv (3 : Int32), iv c79, iv c80, iv c81, iv c82, iv c83, rv b84, rv b95, rv b96, iv (own_la [c79, c80, c81, c82, c83] (35 : Int32) 3), iv (own_cut [(c79.toInt8.toInt32), (c80.toInt8.toInt32), (c81.toInt8.toInt32)] 3), .unset, .unset] [(.int ((own_cut [(c79.toInt8.toInt32), (c80.toInt8.toInt32), (c81.toInt8.toInt32)] 3) + (1 : Int32)))]))
            rw [hs']
            show own_GoW p e below s _ _ _ _ (TJ.setTop (mkF m 131 #[iv p1, iv p2, iv p3, iv p4, iv p5, iv p6, iv (3 : Int32), iv c79, iv c80, iv c81, iv c82, iv c83, rv b84, rv b95, rv b96, iv (own_la [c79, c80, c81, c82, c83] (35 : Int32) 3), iv (own_cut [(c79.toInt8.toInt32), (c80.toInt8.toInt32), (c81.toInt8.toInt32)] 3), .unset, .unset] [(.int (Int32.ofNat s'))]))
            refine own_goW (fun zt zk => (XS.istore XJ.here hx rfl (hb hby at_131) rfl (l' := #[iv p1, iv p2, iv p3, iv p4, iv p5, iv p6, iv (3 : Int32), iv c79, iv c80, iv c81, iv c82, iv c83, rv b84, rv b95, rv b96, iv (own_la [c79, c80, c81, c82, c83] (35 : Int32) 3), iv (own_cut [(c79.toInt8.toInt32), (c80.toInt8.toInt32), (c81.toInt8.toInt32)] 3), iv (Int32.ofNat s'), .unset]) rfl (XS.iload XJ.here hx rfl (hb hby at_133) rfl (XS.iload XJ.here hx rfl (hb hby at_135) rfl (XS.isub XJ.here hx rfl (hb hby at_137) rfl zk))))) ?_
            show own_GoW p e below s _ _ _ _ (TJ.setTop (mkF m 138 #[iv p1, iv p2, iv p3, iv p4, iv p5, iv p6, iv (3 : Int32), iv c79, iv c80, iv c81, iv c82, iv c83, rv b84, rv b95, rv b96, iv (own_la [c79, c80, c81, c82, c83] (35 : Int32) 3), iv (own_cut [(c79.toInt8.toInt32), (c80.toInt8.toInt32), (c81.toInt8.toInt32)] 3), iv (Int32.ofNat s'), .unset] [(.int ((3 : Int32) - (Int32.ofNat s')))]))
            rw [show (3 : Int32) - Int32.ofNat s' = Int32.ofNat (3 - s') from own_subN (n := 3) hsl (by omega)]
            show own_GoW p e below s _ _ _ _ (TJ.setTop (mkF m 138 #[iv p1, iv p2, iv p3, iv p4, iv p5, iv p6, iv (3 : Int32), iv c79, iv c80, iv c81, iv c82, iv c83, rv b84, rv b95, rv b96, iv (own_la [c79, c80, c81, c82, c83] (35 : Int32) 3), iv (own_cut [(c79.toInt8.toInt32), (c80.toInt8.toInt32), (c81.toInt8.toInt32)] 3), iv (Int32.ofNat s'), .unset] [(.int (Int32.ofNat (3 - s')))]))
            refine own_goW (fun zt zk => (XS.istore XJ.here hx rfl (hb hby at_138) rfl (l' := #[iv p1, iv p2, iv p3, iv p4, iv p5, iv p6, iv (3 : Int32), iv c79, iv c80, iv c81, iv c82, iv c83, rv b84, rv b95, rv b96, iv (own_la [c79, c80, c81, c82, c83] (35 : Int32) 3), iv (own_cut [(c79.toInt8.toInt32), (c80.toInt8.toInt32), (c81.toInt8.toInt32)] 3), iv (Int32.ofNat s'), iv (Int32.ofNat (3 - s'))]) rfl (XS.aload XJ.here hx rfl (hb hby at_140) rfl rfl zk))) ?_
            show own_GoW p e below s _ _ _ _ (TJ.setTop (mkF m 142 #[iv p1, iv p2, iv p3, iv p4, iv p5, iv p6, iv (3 : Int32), iv c79, iv c80, iv c81, iv c82, iv c83, rv b84, rv b95, rv b96, iv (own_la [c79, c80, c81, c82, c83] (35 : Int32) 3), iv (own_cut [(c79.toInt8.toInt32), (c80.toInt8.toInt32), (c81.toInt8.toInt32)] 3), iv (Int32.ofNat s'), iv (Int32.ofNat (3 - s'))] [(.ref b96)]))
            obtain ⟨cq98, kq98, qa98, qb98, qc98⟩ := isOf hZ eJ Ex_b96
            obtain ⟨_, _, ⟨T98, L98, k98, n98⟩, -, X98, ⟨Lc98, hQ98, l98, y98, z98⟩, st98⟩ := XJ.virtualBack hx (y := (⟨"java/lang/String", "length", "()I"⟩ : MethodName)) (z := (⟨"java/lang/String", "length", "()I"⟩ : MethodName)) hown (mvT hZ (hw _ (List.mem_of_getElem? (i := 91) rfl))) (mvT hZ (hw _ (List.mem_of_getElem? (i := 39) rfl))) (notFace_of_selects (args := #[]) (mvT hZ (hw _ (List.mem_of_getElem? (i := 41) rfl)))) (mvT hZ (hw _ (List.mem_of_getElem? (i := 41) rfl))) (mvT hZ (hw _ (List.mem_of_getElem? (i := 40) rfl))) (by decide) (backOf (W := 0) (own_rlen l Z a0 hw [] b96 o_COMPACT_STRINGS t96 kb96 (Int32.ofNat ([(c79.toInt8.toInt32), (c80.toInt8.toInt32), (c81.toInt8.toInt32)].length - s')) (([(c79.toInt8.toInt32), (c80.toInt8.toInt32), (c81.toInt8.toInt32)].drop s').map Value.int) T96.heap n0 (Nat.le_trans Z0 Kp.1) O S_o_COMPACT_STRINGS Ex_b96 Fv96 Fc96 Vt96 nz_o_COMPACT_STRINGS) hZ (hw _ (List.mem_of_getElem? (i := 42) rfl)) (hw _ (List.mem_of_getElem? (i := 10) rfl)) (by decide) (by decide)) qa98 qc98 (g := (mkF m 142 #[iv p1, iv p2, iv p3, iv p4, iv p5, iv p6, iv (3 : Int32), iv c79, iv c80, iv c81, iv c82, iv c83, rv b84, rv b95, rv b96, iv (own_la [c79, c80, c81, c82, c83] (35 : Int32) 3), iv (own_cut [(c79.toInt8.toInt32), (c80.toInt8.toInt32), (c81.toInt8.toInt32)] 3), iv (Int32.ofNat s'), iv (Int32.ofNat (3 - s'))] [(.ref b96)])) rfl (by rw [hml]; rfl) (Steps.refl _) (argsL := []) (rest := []) (lenOf own_pd___I rfl) rfl (by show 2 * 0 + _ ≤ _; exact Nat.le_of_eq rfl) (hb hby at_142) (fun _ _ => ⟨rfl, eJ, (by decide : 6 + 0 ≤ _), (by decide : 24 + 0 ≤ _)⟩)
            dsimp only [Pt.U, Pt.locs, Pt.cells, Pt.slots] at X98 l98 y98 z98 st98 hQ98
            subst l98 y98 z98
            obtain ⟨rfl, Nq98, e98⟩ := hQ98
            have N98 := Fr.app NJ Nq98
            refine own_goW (fun zt zk => st98.trans zk) ?_
            show own_GoW p e below s _ _ _ _ (T98.setTop (mkF m 145 #[iv p1, iv p2, iv p3, iv p4, iv p5, iv p6, iv (3 : Int32), iv c79, iv c80, iv c81, iv c82, iv c83, rv b84, rv b95, rv b96, iv (own_la [c79, c80, c81, c82, c83] (35 : Int32) 3), iv (own_cut [(c79.toInt8.toInt32), (c80.toInt8.toInt32), (c81.toInt8.toInt32)] 3), iv (Int32.ofNat s'), iv (Int32.ofNat (3 - s'))] [(.int (Int32.ofNat (3 - s')))]))
            refine own_goW (fun zt zk => (XS.iload X98.here hx rfl (hb hby at_145) rfl (XS.icmpYes X98.here hx rfl (pc0 := 147) (pc' := 152) rfl (hb hby at_147) rfl (teq (rfl : (Int32.ofNat (3 - s')) = (Int32.ofNat (3 - s')))).1 (by decide) (by decide) (XS.aload X98.here hx rfl (hb hby at_152) rfl rfl (XS.aload X98.here hx rfl (hb hby at_154) rfl rfl (XS.iload X98.here hx rfl (hb hby at_156) rfl (XS.iload X98.here hx rfl (hb hby at_158) rfl (XS.iconst X98.here hx rfl (hb hby at_160) zk)))))))) ?_
            show own_GoW p e below s _ _ _ _ (T98.setTop (mkF m 161 #[iv p1, iv p2, iv p3, iv p4, iv p5, iv p6, iv (3 : Int32), iv c79, iv c80, iv c81, iv c82, iv c83, rv b84, rv b95, rv b96, iv (own_la [c79, c80, c81, c82, c83] (35 : Int32) 3), iv (own_cut [(c79.toInt8.toInt32), (c80.toInt8.toInt32), (c81.toInt8.toInt32)] 3), iv (Int32.ofNat s'), iv (Int32.ofNat (3 - s'))] [(.int (0 : Int32)), (.int (Int32.ofNat (3 - s'))), (.int (Int32.ofNat s')), (.ref b84), (.ref b96)]))
            have hyl : ([(c79.toInt8.toInt32), (c80.toInt8.toInt32), (c81.toInt8.toInt32)].drop s').length = 3 - s' := by rw [List.length_drop]; rfl
            have hrel : ∀ j, j < 3 - s' → (([(c79.toInt8.toInt32), (c80.toInt8.toInt32), (c81.toInt8.toInt32)].drop s').getD j 0 &&& (255 : Int32)) = [c79, c80, c81, c82, c83].getD (s' + j) 0 := fun j hj => own_rel [c79, c80, c81] [c79, c80, c81, c82, c83] hcr (Nat.le_of_ble_eq_true rfl) rfl j (by rw [← hyl] at hj; exact hj)
            obtain ⟨_, _, ⟨T99, L99, k99, n99⟩, -, X99, ⟨Lc99, hQ99, l99, y99, z99⟩, st99⟩ := Jvm.LawKit.callS X98 hx (y := (⟨"com/example/boxwright/boxwright/TableNamesLocalNamePinLaw", "at", "(Ljava/lang/String;[CIII)Z"⟩ : MethodName)) hown (mvT hZ (hw _ (List.mem_of_getElem? (i := 92) rfl))) (mvT hZ (hw _ (List.mem_of_getElem? (i := 93) rfl))) (mvT hZ (hw _ (List.mem_of_getElem? (i := 2) rfl))) (mvT hZ (hw _ (List.mem_of_getElem? (i := 94) rfl))) (by decide) (backOf (W := 0) (own_rat0 l Z a0 hw [] b96 b84 o_COMPACT_STRINGS o_SIOOBE_FORMATTER t96 kb96 ([(c79.toInt8.toInt32), (c80.toInt8.toInt32), (c81.toInt8.toInt32)].drop s') (3 - s') s' k84 c79 c80 c81 c82 c83 T96.heap n0 (Nat.le_trans Z0 Kp.1) O S_o_COMPACT_STRINGS S_o_SIOOBE_FORMATTER Ex_b96 Fv96 Fc96 Vt96 V_b84 nz_o_COMPACT_STRINGS r_o_SIOOBE_FORMATTER (by omega) hrel) hZ (hw _ (List.mem_of_getElem? (i := 94) rfl)) (hw _ (List.mem_of_getElem? (i := 2) rfl)) (by decide) (by decide)) (g := (mkF m 161 #[iv p1, iv p2, iv p3, iv p4, iv p5, iv p6, iv (3 : Int32), iv c79, iv c80, iv c81, iv c82, iv c83, rv b84, rv b95, rv b96, iv (own_la [c79, c80, c81, c82, c83] (35 : Int32) 3), iv (own_cut [(c79.toInt8.toInt32), (c80.toInt8.toInt32), (c81.toInt8.toInt32)] 3), iv (Int32.ofNat s'), iv (Int32.ofNat (3 - s'))] [(.int (0 : Int32)), (.int (Int32.ofNat (3 - s'))), (.int (Int32.ofNat s')), (.ref b84), (.ref b96)])) rfl (by rw [hml]; rfl) (argsL := [(.ref b96), (.ref b84), (.int (Int32.ofNat s')), (.int (Int32.ofNat (3 - s'))), (.int (0 : Int32))]) (rest := []) (lenOf own_pd__Ljava_lang_String__CIII_Z rfl) rfl (by show 2 * 0 + _ ≤ _; exact Nat.le_of_eq rfl) (hb hby at_161) (fun _ _ => ⟨rfl, e98, (by decide : 6 + 0 ≤ _), (by decide : 24 + 0 ≤ _)⟩)
            dsimp only [Pt.U, Pt.locs, Pt.cells, Pt.slots] at X99 l99 y99 z99 st99 hQ99
            subst l99 y99 z99
            obtain ⟨rfl, Nq99, e99⟩ := hQ99
            have N99 := Fr.app N98 Nq99
            refine own_goW st99 ?_
            show own_GoW p e below s _ _ _ _ (T99.setTop (mkF m 164 #[iv p1, iv p2, iv p3, iv p4, iv p5, iv p6, iv (3 : Int32), iv c79, iv c80, iv c81, iv c82, iv c83, rv b84, rv b95, rv b96, iv (own_la [c79, c80, c81, c82, c83] (35 : Int32) 3), iv (own_cut [(c79.toInt8.toInt32), (c80.toInt8.toInt32), (c81.toInt8.toInt32)] 3), iv (Int32.ofNat s'), iv (Int32.ofNat (3 - s'))] [(.int (1 : Int32))]))
            refine own_goW (fun zt zk => (XS.ifNo X99.here hx rfl (hb hby at_164) rfl ((if0 _ _).trans (feq ((by decide) : ¬ ((1 : Int32) = (0 : Int32)))).1) (XS.aload X99.here hx rfl (hb hby at_167) rfl rfl (XS.aload X99.here hx rfl (hb hby at_169) rfl rfl (XS.iload X99.here hx rfl (hb hby at_171) rfl (XS.iload X99.here hx rfl (hb hby at_173) rfl (XS.iconst X99.here hx rfl (hb hby at_175) zk))))))) ?_
            show own_GoW p e below s _ _ _ _ (T99.setTop (mkF m 176 #[iv p1, iv p2, iv p3, iv p4, iv p5, iv p6, iv (3 : Int32), iv c79, iv c80, iv c81, iv c82, iv c83, rv b84, rv b95, rv b96, iv (own_la [c79, c80, c81, c82, c83] (35 : Int32) 3), iv (own_cut [(c79.toInt8.toInt32), (c80.toInt8.toInt32), (c81.toInt8.toInt32)] 3), iv (Int32.ofNat s'), iv (Int32.ofNat (3 - s'))] [(.int (1 : Int32)), (.int (Int32.ofNat (3 - s'))), (.int (Int32.ofNat s')), (.ref b84), (.ref b96)]))
            obtain ⟨_, _, ⟨T100, L100, k100, n100⟩, -, X100, ⟨Lc100, hQ100, l100, y100, z100⟩, st100⟩ := Jvm.LawKit.callS X99 hx (y := (⟨"com/example/boxwright/boxwright/TableNamesLocalNamePinLaw", "at", "(Ljava/lang/String;[CIII)Z"⟩ : MethodName)) hown (mvT hZ (hw _ (List.mem_of_getElem? (i := 92) rfl))) (mvT hZ (hw _ (List.mem_of_getElem? (i := 93) rfl))) (mvT hZ (hw _ (List.mem_of_getElem? (i := 2) rfl))) (mvT hZ (hw _ (List.mem_of_getElem? (i := 94) rfl))) (by decide) (backOf (W := 0) (own_rat1 l Z a0 hw [] b96 b84 o_COMPACT_STRINGS o_SIOOBE_FORMATTER t96 kb96 ([(c79.toInt8.toInt32), (c80.toInt8.toInt32), (c81.toInt8.toInt32)].drop s') (3 - s') s' k84 c79 c80 c81 c82 c83 T96.heap n0 (Nat.le_trans Z0 Kp.1) O S_o_COMPACT_STRINGS S_o_SIOOBE_FORMATTER Ex_b96 Fv96 Fc96 Vt96 V_b84 nz_o_COMPACT_STRINGS r_o_SIOOBE_FORMATTER (by omega) hrel) hZ (hw _ (List.mem_of_getElem? (i := 94) rfl)) (hw _ (List.mem_of_getElem? (i := 2) rfl)) (by decide) (by decide)) (g := (mkF m 176 #[iv p1, iv p2, iv p3, iv p4, iv p5, iv p6, iv (3 : Int32), iv c79, iv c80, iv c81, iv c82, iv c83, rv b84, rv b95, rv b96, iv (own_la [c79, c80, c81, c82, c83] (35 : Int32) 3), iv (own_cut [(c79.toInt8.toInt32), (c80.toInt8.toInt32), (c81.toInt8.toInt32)] 3), iv (Int32.ofNat s'), iv (Int32.ofNat (3 - s'))] [(.int (1 : Int32)), (.int (Int32.ofNat (3 - s'))), (.int (Int32.ofNat s')), (.ref b84), (.ref b96)])) rfl (by rw [hml]; rfl) (argsL := [(.ref b96), (.ref b84), (.int (Int32.ofNat s')), (.int (Int32.ofNat (3 - s'))), (.int (1 : Int32))]) (rest := []) (lenOf own_pd__Ljava_lang_String__CIII_Z rfl) rfl (by show 2 * 0 + _ ≤ _; exact Nat.le_of_eq rfl) (hb hby at_176) (fun _ _ => ⟨rfl, e99, (by decide : 6 + 0 ≤ _), (by decide : 24 + 0 ≤ _)⟩)
            dsimp only [Pt.U, Pt.locs, Pt.cells, Pt.slots] at X100 l100 y100 z100 st100 hQ100
            subst l100 y100 z100
            obtain ⟨rfl, Nq100, e100⟩ := hQ100
            have N100 := Fr.app N99 Nq100
            refine own_goW st100 ?_
            show own_GoW p e below s _ _ _ _ (T100.setTop (mkF m 179 #[iv p1, iv p2, iv p3, iv p4, iv p5, iv p6, iv (3 : Int32), iv c79, iv c80, iv c81, iv c82, iv c83, rv b84, rv b95, rv b96, iv (own_la [c79, c80, c81, c82, c83] (35 : Int32) 3), iv (own_cut [(c79.toInt8.toInt32), (c80.toInt8.toInt32), (c81.toInt8.toInt32)] 3), iv (Int32.ofNat s'), iv (Int32.ofNat (3 - s'))] [(.int (1 : Int32))]))
            refine own_goW (fun zt zk => (XS.ifNo X100.here hx rfl (hb hby at_179) rfl ((if0 _ _).trans (feq ((by decide) : ¬ ((1 : Int32) = (0 : Int32)))).1) (XS.aload X100.here hx rfl (hb hby at_182) rfl rfl (XS.aload X100.here hx rfl (hb hby at_184) rfl rfl (XS.iload X100.here hx rfl (hb hby at_186) rfl (XS.iload X100.here hx rfl (hb hby at_188) rfl (XS.iconst X100.here hx rfl (hb hby at_190) zk))))))) ?_
            show own_GoW p e below s _ _ _ _ (T100.setTop (mkF m 191 #[iv p1, iv p2, iv p3, iv p4, iv p5, iv p6, iv (3 : Int32), iv c79, iv c80, iv c81, iv c82, iv c83, rv b84, rv b95, rv b96, iv (own_la [c79, c80, c81, c82, c83] (35 : Int32) 3), iv (own_cut [(c79.toInt8.toInt32), (c80.toInt8.toInt32), (c81.toInt8.toInt32)] 3), iv (Int32.ofNat s'), iv (Int32.ofNat (3 - s'))] [(.int (2 : Int32)), (.int (Int32.ofNat (3 - s'))), (.int (Int32.ofNat s')), (.ref b84), (.ref b96)]))
            obtain ⟨_, _, ⟨T101, L101, k101, n101⟩, -, X101, ⟨Lc101, hQ101, l101, y101, z101⟩, st101⟩ := Jvm.LawKit.callS X100 hx (y := (⟨"com/example/boxwright/boxwright/TableNamesLocalNamePinLaw", "at", "(Ljava/lang/String;[CIII)Z"⟩ : MethodName)) hown (mvT hZ (hw _ (List.mem_of_getElem? (i := 92) rfl))) (mvT hZ (hw _ (List.mem_of_getElem? (i := 93) rfl))) (mvT hZ (hw _ (List.mem_of_getElem? (i := 2) rfl))) (mvT hZ (hw _ (List.mem_of_getElem? (i := 94) rfl))) (by decide) (backOf (W := 0) (own_rat2 l Z a0 hw [] b96 b84 o_COMPACT_STRINGS o_SIOOBE_FORMATTER t96 kb96 ([(c79.toInt8.toInt32), (c80.toInt8.toInt32), (c81.toInt8.toInt32)].drop s') (3 - s') s' k84 c79 c80 c81 c82 c83 T96.heap n0 (Nat.le_trans Z0 Kp.1) O S_o_COMPACT_STRINGS S_o_SIOOBE_FORMATTER Ex_b96 Fv96 Fc96 Vt96 V_b84 nz_o_COMPACT_STRINGS r_o_SIOOBE_FORMATTER (by omega) hrel) hZ (hw _ (List.mem_of_getElem? (i := 94) rfl)) (hw _ (List.mem_of_getElem? (i := 2) rfl)) (by decide) (by decide)) (g := (mkF m 191 #[iv p1, iv p2, iv p3, iv p4, iv p5, iv p6, iv (3 : Int32), iv c79, iv c80, iv c81, iv c82, iv c83, rv b84, rv b95, rv b96, iv (own_la [c79, c80, c81, c82, c83] (35 : Int32) 3), iv (own_cut [(c79.toInt8.toInt32), (c80.toInt8.toInt32), (c81.toInt8.toInt32)] 3), iv (Int32.ofNat s'), iv (Int32.ofNat (3 - s'))] [(.int (2 : Int32)), (.int (Int32.ofNat (3 - s'))), (.int (Int32.ofNat s')), (.ref b84), (.ref b96)])) rfl (by rw [hml]; rfl) (argsL := [(.ref b96), (.ref b84), (.int (Int32.ofNat s')), (.int (Int32.ofNat (3 - s'))), (.int (2 : Int32))]) (rest := []) (lenOf own_pd__Ljava_lang_String__CIII_Z rfl) rfl (by show 2 * 0 + _ ≤ _; exact Nat.le_of_eq rfl) (hb hby at_191) (fun _ _ => ⟨rfl, e100, (by decide : 6 + 0 ≤ _), (by decide : 24 + 0 ≤ _)⟩)
            dsimp only [Pt.U, Pt.locs, Pt.cells, Pt.slots] at X101 l101 y101 z101 st101 hQ101
            subst l101 y101 z101
            obtain ⟨rfl, Nq101, e101⟩ := hQ101
            have N101 := Fr.app N100 Nq101
            refine own_goW st101 ?_
            show own_GoW p e below s _ _ _ _ (T101.setTop (mkF m 194 #[iv p1, iv p2, iv p3, iv p4, iv p5, iv p6, iv (3 : Int32), iv c79, iv c80, iv c81, iv c82, iv c83, rv b84, rv b95, rv b96, iv (own_la [c79, c80, c81, c82, c83] (35 : Int32) 3), iv (own_cut [(c79.toInt8.toInt32), (c80.toInt8.toInt32), (c81.toInt8.toInt32)] 3), iv (Int32.ofNat s'), iv (Int32.ofNat (3 - s'))] [(.int (1 : Int32))]))
            refine own_goW (fun zt zk => (XS.ifNo X101.here hx rfl (hb hby at_194) rfl ((if0 _ _).trans (feq ((by decide) : ¬ ((1 : Int32) = (0 : Int32)))).1) (XS.aload X101.here hx rfl (hb hby at_197) rfl rfl (XS.aload X101.here hx rfl (hb hby at_199) rfl rfl (XS.iload X101.here hx rfl (hb hby at_201) rfl (XS.iload X101.here hx rfl (hb hby at_203) rfl (XS.iconst X101.here hx rfl (hb hby at_205) zk))))))) ?_
            show own_GoW p e below s _ _ _ _ (T101.setTop (mkF m 206 #[iv p1, iv p2, iv p3, iv p4, iv p5, iv p6, iv (3 : Int32), iv c79, iv c80, iv c81, iv c82, iv c83, rv b84, rv b95, rv b96, iv (own_la [c79, c80, c81, c82, c83] (35 : Int32) 3), iv (own_cut [(c79.toInt8.toInt32), (c80.toInt8.toInt32), (c81.toInt8.toInt32)] 3), iv (Int32.ofNat s'), iv (Int32.ofNat (3 - s'))] [(.int (3 : Int32)), (.int (Int32.ofNat (3 - s'))), (.int (Int32.ofNat s')), (.ref b84), (.ref b96)]))
            obtain ⟨_, _, ⟨T102, L102, k102, n102⟩, -, X102, ⟨Lc102, hQ102, l102, y102, z102⟩, st102⟩ := Jvm.LawKit.callS X101 hx (y := (⟨"com/example/boxwright/boxwright/TableNamesLocalNamePinLaw", "at", "(Ljava/lang/String;[CIII)Z"⟩ : MethodName)) hown (mvT hZ (hw _ (List.mem_of_getElem? (i := 92) rfl))) (mvT hZ (hw _ (List.mem_of_getElem? (i := 93) rfl))) (mvT hZ (hw _ (List.mem_of_getElem? (i := 2) rfl))) (mvT hZ (hw _ (List.mem_of_getElem? (i := 94) rfl))) (by decide) (backOf (W := 0) (own_rat3 l Z a0 hw [] b96 b84 o_COMPACT_STRINGS o_SIOOBE_FORMATTER t96 kb96 ([(c79.toInt8.toInt32), (c80.toInt8.toInt32), (c81.toInt8.toInt32)].drop s') (3 - s') s' k84 c79 c80 c81 c82 c83 T96.heap n0 (Nat.le_trans Z0 Kp.1) O S_o_COMPACT_STRINGS S_o_SIOOBE_FORMATTER Ex_b96 Fv96 Fc96 Vt96 V_b84 nz_o_COMPACT_STRINGS r_o_SIOOBE_FORMATTER (by omega) hrel) hZ (hw _ (List.mem_of_getElem? (i := 94) rfl)) (hw _ (List.mem_of_getElem? (i := 2) rfl)) (by decide) (by decide)) (g := (mkF m 206 #[iv p1, iv p2, iv p3, iv p4, iv p5, iv p6, iv (3 : Int32), iv c79, iv c80, iv c81, iv c82, iv c83, rv b84, rv b95, rv b96, iv (own_la [c79, c80, c81, c82, c83] (35 : Int32) 3), iv (own_cut [(c79.toInt8.toInt32), (c80.toInt8.toInt32), (c81.toInt8.toInt32)] 3), iv (Int32.ofNat s'), iv (Int32.ofNat (3 - s'))] [(.int (3 : Int32)), (.int (Int32.ofNat (3 - s'))), (.int (Int32.ofNat s')), (.ref b84), (.ref b96)])) rfl (by rw [hml]; rfl) (argsL := [(.ref b96), (.ref b84), (.int (Int32.ofNat s')), (.int (Int32.ofNat (3 - s'))), (.int (3 : Int32))]) (rest := []) (lenOf own_pd__Ljava_lang_String__CIII_Z rfl) rfl (by show 2 * 0 + _ ≤ _; exact Nat.le_of_eq rfl) (hb hby at_206) (fun _ _ => ⟨rfl, e101, (by decide : 6 + 0 ≤ _), (by decide : 24 + 0 ≤ _)⟩)
            dsimp only [Pt.U, Pt.locs, Pt.cells, Pt.slots] at X102 l102 y102 z102 st102 hQ102
            subst l102 y102 z102
            obtain ⟨rfl, Nq102, e102⟩ := hQ102
            have N102 := Fr.app N101 Nq102
            refine own_goW st102 ?_
            show own_GoW p e below s _ _ _ _ (T102.setTop (mkF m 209 #[iv p1, iv p2, iv p3, iv p4, iv p5, iv p6, iv (3 : Int32), iv c79, iv c80, iv c81, iv c82, iv c83, rv b84, rv b95, rv b96, iv (own_la [c79, c80, c81, c82, c83] (35 : Int32) 3), iv (own_cut [(c79.toInt8.toInt32), (c80.toInt8.toInt32), (c81.toInt8.toInt32)] 3), iv (Int32.ofNat s'), iv (Int32.ofNat (3 - s'))] [(.int (1 : Int32))]))
            refine own_goW (fun zt zk => (XS.ifNo X102.here hx rfl (hb hby at_209) rfl ((if0 _ _).trans (feq ((by decide) : ¬ ((1 : Int32) = (0 : Int32)))).1) (XS.aload X102.here hx rfl (hb hby at_212) rfl rfl (XS.aload X102.here hx rfl (hb hby at_214) rfl rfl (XS.iload X102.here hx rfl (hb hby at_216) rfl (XS.iload X102.here hx rfl (hb hby at_218) rfl (XS.iconst X102.here hx rfl (hb hby at_220) zk))))))) ?_
            show own_GoW p e below s _ _ _ _ (T102.setTop (mkF m 221 #[iv p1, iv p2, iv p3, iv p4, iv p5, iv p6, iv (3 : Int32), iv c79, iv c80, iv c81, iv c82, iv c83, rv b84, rv b95, rv b96, iv (own_la [c79, c80, c81, c82, c83] (35 : Int32) 3), iv (own_cut [(c79.toInt8.toInt32), (c80.toInt8.toInt32), (c81.toInt8.toInt32)] 3), iv (Int32.ofNat s'), iv (Int32.ofNat (3 - s'))] [(.int (4 : Int32)), (.int (Int32.ofNat (3 - s'))), (.int (Int32.ofNat s')), (.ref b84), (.ref b96)]))
            obtain ⟨_, _, ⟨T103, L103, k103, n103⟩, -, X103, ⟨Lc103, hQ103, l103, y103, z103⟩, st103⟩ := Jvm.LawKit.callS X102 hx (y := (⟨"com/example/boxwright/boxwright/TableNamesLocalNamePinLaw", "at", "(Ljava/lang/String;[CIII)Z"⟩ : MethodName)) hown (mvT hZ (hw _ (List.mem_of_getElem? (i := 92) rfl))) (mvT hZ (hw _ (List.mem_of_getElem? (i := 93) rfl))) (mvT hZ (hw _ (List.mem_of_getElem? (i := 2) rfl))) (mvT hZ (hw _ (List.mem_of_getElem? (i := 94) rfl))) (by decide) (backOf (W := 0) (own_rat4 l Z a0 hw [] b96 b84 o_COMPACT_STRINGS o_SIOOBE_FORMATTER t96 kb96 ([(c79.toInt8.toInt32), (c80.toInt8.toInt32), (c81.toInt8.toInt32)].drop s') (3 - s') s' k84 c79 c80 c81 c82 c83 T96.heap n0 (Nat.le_trans Z0 Kp.1) O S_o_COMPACT_STRINGS S_o_SIOOBE_FORMATTER Ex_b96 Fv96 Fc96 Vt96 V_b84 nz_o_COMPACT_STRINGS r_o_SIOOBE_FORMATTER (by omega) hrel) hZ (hw _ (List.mem_of_getElem? (i := 94) rfl)) (hw _ (List.mem_of_getElem? (i := 2) rfl)) (by decide) (by decide)) (g := (mkF m 221 #[iv p1, iv p2, iv p3, iv p4, iv p5, iv p6, iv (3 : Int32), iv c79, iv c80, iv c81, iv c82, iv c83, rv b84, rv b95, rv b96, iv (own_la [c79, c80, c81, c82, c83] (35 : Int32) 3), iv (own_cut [(c79.toInt8.toInt32), (c80.toInt8.toInt32), (c81.toInt8.toInt32)] 3), iv (Int32.ofNat s'), iv (Int32.ofNat (3 - s'))] [(.int (4 : Int32)), (.int (Int32.ofNat (3 - s'))), (.int (Int32.ofNat s')), (.ref b84), (.ref b96)])) rfl (by rw [hml]; rfl) (argsL := [(.ref b96), (.ref b84), (.int (Int32.ofNat s')), (.int (Int32.ofNat (3 - s'))), (.int (4 : Int32))]) (rest := []) (lenOf own_pd__Ljava_lang_String__CIII_Z rfl) rfl (by show 2 * 0 + _ ≤ _; exact Nat.le_of_eq rfl) (hb hby at_221) (fun _ _ => ⟨rfl, e102, (by decide : 6 + 0 ≤ _), (by decide : 24 + 0 ≤ _)⟩)
            dsimp only [Pt.U, Pt.locs, Pt.cells, Pt.slots] at X103 l103 y103 z103 st103 hQ103
            subst l103 y103 z103
            obtain ⟨rfl, Nq103, e103⟩ := hQ103
            have N103 := Fr.app N102 Nq103
            refine own_goW st103 ?_
            show own_GoW p e below s _ _ _ _ (T103.setTop (mkF m 224 #[iv p1, iv p2, iv p3, iv p4, iv p5, iv p6, iv (3 : Int32), iv c79, iv c80, iv c81, iv c82, iv c83, rv b84, rv b95, rv b96, iv (own_la [c79, c80, c81, c82, c83] (35 : Int32) 3), iv (own_cut [(c79.toInt8.toInt32), (c80.toInt8.toInt32), (c81.toInt8.toInt32)] 3), iv (Int32.ofNat s'), iv (Int32.ofNat (3 - s'))] [(.int (1 : Int32))]))
            refine own_goW (fun zt zk => (XS.ifNo X103.here hx rfl (hb hby at_224) rfl ((if0 _ _).trans (feq ((by decide) : ¬ ((1 : Int32) = (0 : Int32)))).1) (XS.iconst X103.here hx rfl (hb hby at_227) (XS.goto X103.here hx rfl (pc0 := 228) (pc' := 232) rfl (hb hby at_228) (by decide) (by decide) zk)))) ?_
            show own_GoW p e below s _ _ _ _ (T103.setTop (mkF m 232 #[iv p1, iv p2, iv p3, iv p4, iv p5, iv p6, iv (3 : Int32), iv c79, iv c80, iv c81, iv c82, iv c83, rv b84, rv b95, rv b96, iv (own_la [c79, c80, c81, c82, c83] (35 : Int32) 3), iv (own_cut [(c79.toInt8.toInt32), (c80.toInt8.toInt32), (c81.toInt8.toInt32)] 3), iv (Int32.ofNat s'), iv (Int32.ofNat (3 - s'))] [(.int (1 : Int32))]))
            have Re := Rc.trans (CHv.at X103 hZ hEL Rc.1)
            exact own_finW X103 hS (by rw [e103]; exact hk) (by rw [e103, hh]; exact Re) Bd.notSynchronized (fun h => by rw [Bd.returns] at h; cases h) (fun fs hr => retN X103 hx (t := .boolean) Bd.returns (by simp) (hb hby at_232) hr) (by rw [e103]; exact ⟨rfl, N103⟩) (by decide) (by decide)
          · intro tail
            show own_GoW p e below s _ _ _ _ (T97.setTop (mkF m 108 #[iv p1, iv p2, iv p3, iv p4, iv p5, iv p6, iv (3 : Int32), iv c79, iv c80, iv c81, iv c82, iv c83, rv b84, rv b95, rv b96, iv (own_la [c79, c80, c81, c82, c83] (35 : Int32) 3), .unset, .unset, .unset] [(.int (own_la [c79, c80, c81, c82, c83] (35 : Int32) 3))]))
            by_cases hB : (own_la [c79, c80, c81, c82, c83] (35 : Int32) 3) < (0 : Int32)
            · refine own_goW (fun zt zk => (XS.ifYes X97.here hx rfl (pc0 := 108) (pc' := 116) rfl (hb hby at_108) rfl ((if0 _ _).trans (tlt (hB : (own_la [c79, c80, c81, c82, c83] (35 : Int32) 3) < (0 : Int32))).1) (by decide) (by decide) (XS.aload X97.here hx rfl (hb hby at_116) rfl rfl (XS.iload X97.here hx rfl (hb hby at_118) rfl (XS.bipush X97.here hx rfl (hb hby at_120) zk))))) ?_
              show own_GoW p e below s _ _ _ _ (T97.setTop (mkF m 122 #[iv p1, iv p2, iv p3, iv p4, iv p5, iv p6, iv (3 : Int32), iv c79, iv c80, iv c81, iv c82, iv c83, rv b84, rv b95, rv b96, iv (own_la [c79, c80, c81, c82, c83] (35 : Int32) 3), .unset, .unset, .unset] [(.int (47 : Int32)), (.int (3 : Int32)), (.ref b84)]))
              obtain ⟨_, _, ⟨T104, L104, k104, n104⟩, -, X104, ⟨Lc104, hQ104, l104, y104, z104⟩, st104⟩ := Jvm.LawKit.callS X97 hx (y := (⟨"com/example/boxwright/boxwright/TableNamesLocalNamePinLaw", "last", "([CIC)I"⟩ : MethodName)) hown (mvT hZ (hw _ (List.mem_of_getElem? (i := 88) rfl))) (mvT hZ (hw _ (List.mem_of_getElem? (i := 89) rfl))) (mvT hZ (hw _ (List.mem_of_getElem? (i := 2) rfl))) (mvT hZ (hw _ (List.mem_of_getElem? (i := 90) rfl))) (by decide) (backOf (W := 0) (own_rlast3 l Z a0 hw [] b84 (47 : Int32) k84 c79 c80 c81 c82 c83 T96.heap n0 (Nat.le_trans Z0 Kp.1) V_b84) hZ (hw _ (List.mem_of_getElem? (i := 90) rfl)) (hw _ (List.mem_of_getElem? (i := 2) rfl)) (by decide) (by decide)) (g := (mkF m 122 #[iv p1, iv p2, iv p3, iv p4, iv p5, iv p6, iv (3 : Int32), iv c79, iv c80, iv c81, iv c82, iv c83, rv b84, rv b95, rv b96, iv (own_la [c79, c80, c81, c82, c83] (35 : Int32) 3), .unset, .unset, .unset] [(.int (47 : Int32)), (.int (3 : Int32)), (.ref b84)])) rfl (by rw [hml]; rfl) (argsL := [(.ref b84), (.int (3 : Int32)), (.int (47 : Int32))]) (rest := []) (lenOf own_pd___CIC_I rfl) rfl (by show 2 * 0 + _ ≤ _; exact Nat.le_of_eq rfl) (hb hby at_122) (fun _ _ => ⟨rfl, e97, (by decide : 6 + 0 ≤ _), (by decide : 24 + 0 ≤ _)⟩)
              dsimp only [Pt.U, Pt.locs, Pt.cells, Pt.slots] at X104 l104 y104 z104 st104 hQ104
              subst l104 y104 z104
              obtain ⟨rfl, Nq104, e104⟩ := hQ104
              have N104 := Fr.app N97 Nq104
              refine own_goW st104 ?_
              show own_GoW p e below s _ _ _ _ (T104.setTop (mkF m 125 #[iv p1, iv p2, iv p3, iv p4, iv p5, iv p6, iv (3 : Int32), iv c79, iv c80, iv c81, iv c82, iv c83, rv b84, rv b95, rv b96, iv (own_la [c79, c80, c81, c82, c83] (35 : Int32) 3), .unset, .unset, .unset] [(.int (own_la [c79, c80, c81, c82, c83] (47 : Int32) 3))]))
              exact tail _ _ _ X104 e104 N104 (by unfold own_cut; rw [el35, el47, if_pos hB])
            · refine own_goW (fun zt zk => (XS.ifNo X97.here hx rfl (hb hby at_108) rfl ((if0 _ _).trans (flt (hB : ¬ ((own_la [c79, c80, c81, c82, c83] (35 : Int32) 3) < (0 : Int32)))).1) (XS.iload X97.here hx rfl (hb hby at_111) rfl (XS.goto X97.here hx rfl (pc0 := 113) (pc' := 125) rfl (hb hby at_113) (by decide) (by decide) zk)))) ?_
              show own_GoW p e below s _ _ _ _ (T97.setTop (mkF m 125 #[iv p1, iv p2, iv p3, iv p4, iv p5, iv p6, iv (3 : Int32), iv c79, iv c80, iv c81, iv c82, iv c83, rv b84, rv b95, rv b96, iv (own_la [c79, c80, c81, c82, c83] (35 : Int32) 3), .unset, .unset, .unset] [(.int (own_la [c79, c80, c81, c82, c83] (35 : Int32) 3))]))
              exact tail _ _ _ X97 e97 N97 (by unfold own_cut; rw [el35, if_neg hB])
        · by_cases hk4_k : k = (4 : Int32)
          · subst hk4_k
            show own_GoW p e below s _ _ _ _ (s₁.setTop (mkF m 9 #[iv p1, iv p2, iv p3, iv p4, iv p5, iv p6, iv (4 : Int32), .unset, .unset, .unset, .unset, .unset, .unset, .unset, .unset, .unset, .unset, .unset, .unset] []))
            refine own_goW (fun zt zk => (XS.iloadN X0.here hx rfl (hb hby at_9) rfl zk)) ?_
            show own_GoW p e below s _ _ _ _ (s₁.setTop (mkF m 10 #[iv p1, iv p2, iv p3, iv p4, iv p5, iv p6, iv (4 : Int32), .unset, .unset, .unset, .unset, .unset, .unset, .unset, .unset, .unset, .unset, .unset, .unset] [(.int p2)]))
            obtain ⟨_, _, ⟨T105, L105, k105, n105⟩, -, X105, ⟨Lc105, hQ105, l105, y105, z105⟩, st105⟩ := Jvm.LawKit.callS X0 hx (y := (⟨"com/example/boxwright/boxwright/TableNamesLocalNamePinLaw", "pick", "(I)C"⟩ : MethodName)) hown (mvT hZ (hw _ (List.mem_of_getElem? (i := 0) rfl))) (mvT hZ (hw _ (List.mem_of_getElem? (i := 1) rfl))) (mvT hZ (hw _ (List.mem_of_getElem? (i := 2) rfl))) (mvT hZ (hw _ (List.mem_of_getElem? (i := 3) rfl))) (by decide) (backOf (W := 0) (own_rpick l Z a0 hw [] p2  h0 n0 Z0 ) hZ (hw _ (List.mem_of_getElem? (i := 3) rfl)) (hw _ (List.mem_of_getElem? (i := 2) rfl)) (by decide) (by decide)) (g := (mkF m 10 #[iv p1, iv p2, iv p3, iv p4, iv p5, iv p6, iv (4 : Int32), .unset, .unset, .unset, .unset, .unset, .unset, .unset, .unset, .unset, .unset, .unset, .unset] [(.int p2)])) rfl (by rw [hml]; rfl) (argsL := [(.int p2)]) (rest := []) (lenOf own_pd__I_C rfl) rfl (by show 2 * 0 + _ ≤ _; exact Nat.le_of_eq rfl) (hb hby at_10) (fun _ _ => ⟨rfl, e0, (by decide : 0 + 0 ≤ _), (by decide : 0 + 0 ≤ _)⟩)
            dsimp only [Pt.U, Pt.locs, Pt.cells, Pt.slots] at X105 l105 y105 z105 st105 hQ105
            subst l105 y105 z105
            obtain ⟨c105, rfl, Nq105, e105, hr_c105⟩ := hQ105
            have N105 := Fr.app N0 Nq105
            refine own_goW st105 ?_
            show own_GoW p e below s _ _ _ _ (T105.setTop (mkF m 13 #[iv p1, iv p2, iv p3, iv p4, iv p5, iv p6, iv (4 : Int32), .unset, .unset, .unset, .unset, .unset, .unset, .unset, .unset, .unset, .unset, .unset, .unset] [(.int c105)]))
            refine own_goW (fun zt zk => (XS.istore X105.here hx rfl (hb hby at_13) rfl (l' := #[iv p1, iv p2, iv p3, iv p4, iv p5, iv p6, iv (4 : Int32), iv c105, .unset, .unset, .unset, .unset, .unset, .unset, .unset, .unset, .unset, .unset, .unset]) rfl (XS.iloadN X105.here hx rfl (hb hby at_15) rfl zk))) ?_
            show own_GoW p e below s _ _ _ _ (T105.setTop (mkF m 16 #[iv p1, iv p2, iv p3, iv p4, iv p5, iv p6, iv (4 : Int32), iv c105, .unset, .unset, .unset, .unset, .unset, .unset, .unset, .unset, .unset, .unset, .unset] [(.int p3)]))
            obtain ⟨_, _, ⟨T106, L106, k106, n106⟩, -, X106, ⟨Lc106, hQ106, l106, y106, z106⟩, st106⟩ := Jvm.LawKit.callS X105 hx (y := (⟨"com/example/boxwright/boxwright/TableNamesLocalNamePinLaw", "pick", "(I)C"⟩ : MethodName)) hown (mvT hZ (hw _ (List.mem_of_getElem? (i := 0) rfl))) (mvT hZ (hw _ (List.mem_of_getElem? (i := 1) rfl))) (mvT hZ (hw _ (List.mem_of_getElem? (i := 2) rfl))) (mvT hZ (hw _ (List.mem_of_getElem? (i := 3) rfl))) (by decide) (backOf (W := 0) (own_rpick l Z a0 hw [] p3  h0 n0 Z0 ) hZ (hw _ (List.mem_of_getElem? (i := 3) rfl)) (hw _ (List.mem_of_getElem? (i := 2) rfl)) (by decide) (by decide)) (g := (mkF m 16 #[iv p1, iv p2, iv p3, iv p4, iv p5, iv p6, iv (4 : Int32), iv c105, .unset, .unset, .unset, .unset, .unset, .unset, .unset, .unset, .unset, .unset, .unset] [(.int p3)])) rfl (by rw [hml]; rfl) (argsL := [(.int p3)]) (rest := []) (lenOf own_pd__I_C rfl) rfl (by show 2 * 0 + _ ≤ _; exact Nat.le_of_eq rfl) (hb hby at_16) (fun _ _ => ⟨rfl, e105, (by decide : 0 + 0 ≤ _), (by decide : 0 + 0 ≤ _)⟩)
            dsimp only [Pt.U, Pt.locs, Pt.cells, Pt.slots] at X106 l106 y106 z106 st106 hQ106
            subst l106 y106 z106
            obtain ⟨c106, rfl, Nq106, e106, hr_c106⟩ := hQ106
            have N106 := Fr.app N105 Nq106
            refine own_goW st106 ?_
            show own_GoW p e below s _ _ _ _ (T106.setTop (mkF m 19 #[iv p1, iv p2, iv p3, iv p4, iv p5, iv p6, iv (4 : Int32), iv c105, .unset, .unset, .unset, .unset, .unset, .unset, .unset, .unset, .unset, .unset, .unset] [(.int c106)]))
            refine own_goW (fun zt zk => (XS.istore X106.here hx rfl (hb hby at_19) rfl (l' := #[iv p1, iv p2, iv p3, iv p4, iv p5, iv p6, iv (4 : Int32), iv c105, iv c106, .unset, .unset, .unset, .unset, .unset, .unset, .unset, .unset, .unset, .unset]) rfl (XS.iloadN X106.here hx rfl (hb hby at_21) rfl zk))) ?_
            show own_GoW p e below s _ _ _ _ (T106.setTop (mkF m 22 #[iv p1, iv p2, iv p3, iv p4, iv p5, iv p6, iv (4 : Int32), iv c105, iv c106, .unset, .unset, .unset, .unset, .unset, .unset, .unset, .unset, .unset, .unset] [(.int p4)]))
            obtain ⟨_, _, ⟨T107, L107, k107, n107⟩, -, X107, ⟨Lc107, hQ107, l107, y107, z107⟩, st107⟩ := Jvm.LawKit.callS X106 hx (y := (⟨"com/example/boxwright/boxwright/TableNamesLocalNamePinLaw", "pick", "(I)C"⟩ : MethodName)) hown (mvT hZ (hw _ (List.mem_of_getElem? (i := 0) rfl))) (mvT hZ (hw _ (List.mem_of_getElem? (i := 1) rfl))) (mvT hZ (hw _ (List.mem_of_getElem? (i := 2) rfl))) (mvT hZ (hw _ (List.mem_of_getElem? (i := 3) rfl))) (by decide) (backOf (W := 0) (own_rpick l Z a0 hw [] p4  h0 n0 Z0 ) hZ (hw _ (List.mem_of_getElem? (i := 3) rfl)) (hw _ (List.mem_of_getElem? (i := 2) rfl)) (by decide) (by decide)) (g := (mkF m 22 #[iv p1, iv p2, iv p3, iv p4, iv p5, iv p6, iv (4 : Int32), iv c105, iv c106, .unset, .unset, .unset, .unset, .unset, .unset, .unset, .unset, .unset, .unset] [(.int p4)])) rfl (by rw [hml]; rfl) (argsL := [(.int p4)]) (rest := []) (lenOf own_pd__I_C rfl) rfl (by show 2 * 0 + _ ≤ _; exact Nat.le_of_eq rfl) (hb hby at_22) (fun _ _ => ⟨rfl, e106, (by decide : 0 + 0 ≤ _), (by decide : 0 + 0 ≤ _)⟩)
            dsimp only [Pt.U, Pt.locs, Pt.cells, Pt.slots] at X107 l107 y107 z107 st107 hQ107
            subst l107 y107 z107
            obtain ⟨c107, rfl, Nq107, e107, hr_c107⟩ := hQ107
            have N107 := Fr.app N106 Nq107
            refine own_goW st107 ?_
            show own_GoW p e below s _ _ _ _ (T107.setTop (mkF m 25 #[iv p1, iv p2, iv p3, iv p4, iv p5, iv p6, iv (4 : Int32), iv c105, iv c106, .unset, .unset, .unset, .unset, .unset, .unset, .unset, .unset, .unset, .unset] [(.int c107)]))
            refine own_goW (fun zt zk => (XS.istore X107.here hx rfl (hb hby at_25) rfl (l' := #[iv p1, iv p2, iv p3, iv p4, iv p5, iv p6, iv (4 : Int32), iv c105, iv c106, iv c107, .unset, .unset, .unset, .unset, .unset, .unset, .unset, .unset, .unset]) rfl (XS.iload X107.here hx rfl (hb hby at_27) rfl zk))) ?_
            show own_GoW p e below s _ _ _ _ (T107.setTop (mkF m 29 #[iv p1, iv p2, iv p3, iv p4, iv p5, iv p6, iv (4 : Int32), iv c105, iv c106, iv c107, .unset, .unset, .unset, .unset, .unset, .unset, .unset, .unset, .unset] [(.int p5)]))
            obtain ⟨_, _, ⟨T108, L108, k108, n108⟩, -, X108, ⟨Lc108, hQ108, l108, y108, z108⟩, st108⟩ := Jvm.LawKit.callS X107 hx (y := (⟨"com/example/boxwright/boxwright/TableNamesLocalNamePinLaw", "pick", "(I)C"⟩ : MethodName)) hown (mvT hZ (hw _ (List.mem_of_getElem? (i := 0) rfl))) (mvT hZ (hw _ (List.mem_of_getElem? (i := 1) rfl))) (mvT hZ (hw _ (List.mem_of_getElem? (i := 2) rfl))) (mvT hZ (hw _ (List.mem_of_getElem? (i := 3) rfl))) (by decide) (backOf (W := 0) (own_rpick l Z a0 hw [] p5  h0 n0 Z0 ) hZ (hw _ (List.mem_of_getElem? (i := 3) rfl)) (hw _ (List.mem_of_getElem? (i := 2) rfl)) (by decide) (by decide)) (g := (mkF m 29 #[iv p1, iv p2, iv p3, iv p4, iv p5, iv p6, iv (4 : Int32), iv c105, iv c106, iv c107, .unset, .unset, .unset, .unset, .unset, .unset, .unset, .unset, .unset] [(.int p5)])) rfl (by rw [hml]; rfl) (argsL := [(.int p5)]) (rest := []) (lenOf own_pd__I_C rfl) rfl (by show 2 * 0 + _ ≤ _; exact Nat.le_of_eq rfl) (hb hby at_29) (fun _ _ => ⟨rfl, e107, (by decide : 0 + 0 ≤ _), (by decide : 0 + 0 ≤ _)⟩)
            dsimp only [Pt.U, Pt.locs, Pt.cells, Pt.slots] at X108 l108 y108 z108 st108 hQ108
            subst l108 y108 z108
            obtain ⟨c108, rfl, Nq108, e108, hr_c108⟩ := hQ108
            have N108 := Fr.app N107 Nq108
            refine own_goW st108 ?_
            show own_GoW p e below s _ _ _ _ (T108.setTop (mkF m 32 #[iv p1, iv p2, iv p3, iv p4, iv p5, iv p6, iv (4 : Int32), iv c105, iv c106, iv c107, .unset, .unset, .unset, .unset, .unset, .unset, .unset, .unset, .unset] [(.int c108)]))
            refine own_goW (fun zt zk => (XS.istore X108.here hx rfl (hb hby at_32) rfl (l' := #[iv p1, iv p2, iv p3, iv p4, iv p5, iv p6, iv (4 : Int32), iv c105, iv c106, iv c107, iv c108, .unset, .unset, .unset, .unset, .unset, .unset, .unset, .unset]) rfl (XS.iload X108.here hx rfl (hb hby at_34) rfl zk))) ?_
            show own_GoW p e below s _ _ _ _ (T108.setTop (mkF m 36 #[iv p1, iv p2, iv p3, iv p4, iv p5, iv p6, iv (4 : Int32), iv c105, iv c106, iv c107, iv c108, .unset, .unset, .unset, .unset, .unset, .unset, .unset, .unset] [(.int p6)]))
            obtain ⟨_, _, ⟨T109, L109, k109, n109⟩, -, X109, ⟨Lc109, hQ109, l109, y109, z109⟩, st109⟩ := Jvm.LawKit.callS X108 hx (y := (⟨"com/example/boxwright/boxwright/TableNamesLocalNamePinLaw", "pick", "(I)C"⟩ : MethodName)) hown (mvT hZ (hw _ (List.mem_of_getElem? (i := 0) rfl))) (mvT hZ (hw _ (List.mem_of_getElem? (i := 1) rfl))) (mvT hZ (hw _ (List.mem_of_getElem? (i := 2) rfl))) (mvT hZ (hw _ (List.mem_of_getElem? (i := 3) rfl))) (by decide) (backOf (W := 0) (own_rpick l Z a0 hw [] p6  h0 n0 Z0 ) hZ (hw _ (List.mem_of_getElem? (i := 3) rfl)) (hw _ (List.mem_of_getElem? (i := 2) rfl)) (by decide) (by decide)) (g := (mkF m 36 #[iv p1, iv p2, iv p3, iv p4, iv p5, iv p6, iv (4 : Int32), iv c105, iv c106, iv c107, iv c108, .unset, .unset, .unset, .unset, .unset, .unset, .unset, .unset] [(.int p6)])) rfl (by rw [hml]; rfl) (argsL := [(.int p6)]) (rest := []) (lenOf own_pd__I_C rfl) rfl (by show 2 * 0 + _ ≤ _; exact Nat.le_of_eq rfl) (hb hby at_36) (fun _ _ => ⟨rfl, e108, (by decide : 0 + 0 ≤ _), (by decide : 0 + 0 ≤ _)⟩)
            dsimp only [Pt.U, Pt.locs, Pt.cells, Pt.slots] at X109 l109 y109 z109 st109 hQ109
            subst l109 y109 z109
            obtain ⟨c109, rfl, Nq109, e109, hr_c109⟩ := hQ109
            have N109 := Fr.app N108 Nq109
            refine own_goW st109 ?_
            show own_GoW p e below s _ _ _ _ (T109.setTop (mkF m 39 #[iv p1, iv p2, iv p3, iv p4, iv p5, iv p6, iv (4 : Int32), iv c105, iv c106, iv c107, iv c108, .unset, .unset, .unset, .unset, .unset, .unset, .unset, .unset] [(.int c109)]))
            refine own_goW (fun zt zk => (XS.istore X109.here hx rfl (hb hby at_39) rfl (l' := #[iv p1, iv p2, iv p3, iv p4, iv p5, iv p6, iv (4 : Int32), iv c105, iv c106, iv c107, iv c108, iv c109, .unset, .unset, .unset, .unset, .unset, .unset, .unset]) rfl (XS.iconst X109.here hx rfl (hb hby at_41) zk))) ?_
            show own_GoW p e below s _ _ _ _ (T109.setTop (mkF m 42 #[iv p1, iv p2, iv p3, iv p4, iv p5, iv p6, iv (4 : Int32), iv c105, iv c106, iv c107, iv c108, iv c109, .unset, .unset, .unset, .unset, .unset, .unset, .unset] [(.int (5 : Int32))]))
            obtain ⟨T110, h110, k110, X110, e110, E110, A110, Ea110, st110⟩ := newPE X109 hx hZ (hw _ (List.mem_of_getElem? (i := 4) rfl)) e109 (g := (mkF m 42 #[iv p1, iv p2, iv p3, iv p4, iv p5, iv p6, iv (4 : Int32), iv c105, iv c106, iv c107, iv c108, iv c109, .unset, .unset, .unset, .unset, .unset, .unset, .unset] [(.int (5 : Int32))])) rfl (hb hby at_42) rfl (by decide) (cap := 5) (by decide) (by decide) (by decide) (by decide) (ad := "[C") (by decide)
            obtain ⟨b110, g110⟩ : ∃ z, z = h0.size := ⟨_, rfl⟩
            rw [← g110] at A110 Ea110 st110
            refine own_goW st110 ?_
            have sz_b110 : h0.size ≤ b110 := Nat.le_trans Kp.1 (Nat.le_of_eq g110.symm)
            have g_b110 : n0 ≤ b110 := Nat.le_trans Z0 sz_b110
            have Sf_b110 : Safe Z own_EL s.vm h0 b110 := Safe.new (Nat.le_of_eq g110.symm)
            replace O := O.ext E110
            replace Kp := Kp.ext E110
            replace Sf_b110 := Safe.ext E110 Rc.1 Sf_b110
            replace Rc := Rc.trans (CHr.ext E110 Rc.1)
            replace hk := Nat.le_trans hk E110.1
            have V_b110 : Arv Z h110 b110 k110 .char (5 : Int32) [(.int (0 : Int32)), (.int (0 : Int32)), (.int (0 : Int32)), (.int (0 : Int32)), (.int (0 : Int32))] (.int (0 : Int32)) := (Arv.new A110 (by decide)).pad (pad_rep [] (.int (0 : Int32)) 5)
            have Ea_b110 := Ea110
            show own_GoW p e below s _ _ _ _ (T110.setTop (mkF m 44 #[iv p1, iv p2, iv p3, iv p4, iv p5, iv p6, iv (4 : Int32), iv c105, iv c106, iv c107, iv c108, iv c109, .unset, .unset, .unset, .unset, .unset, .unset, .unset] [(.ref b110)]))
            refine own_goW (fun zt zk => (XS.dup X110.here hx rfl (hb hby at_44) rfl rfl (XS.iconst X110.here hx rfl (hb hby at_45) (XS.iload X110.here hx rfl (hb hby at_46) rfl zk)))) ?_
            show own_GoW p e below s _ _ _ _ (T110.setTop (mkF m 48 #[iv p1, iv p2, iv p3, iv p4, iv p5, iv p6, iv (4 : Int32), iv c105, iv c106, iv c107, iv c108, iv c109, .unset, .unset, .unset, .unset, .unset, .unset, .unset] [(.int c105), (.int (0 : Int32)), (.ref b110), (.ref b110)]))
            obtain ⟨cl111, Ar111, q111, Sz111, Nz111, Ha111, Ga111⟩ := id V_b110
            have hin111 : ¬ ((0 : Int32) < 0 ∨ cl111.slots.size ≤ ((0 : Int32)).toNatClampNeg) := inb_of Sz111 ⟨by decide, by decide⟩
            obtain ⟨T112, h112, X112, e112, W112, st112⟩ := stC X110 hx hZ e110 Ar111 (j := (0 : Int32)) hin111 (g := (mkF m 48 #[iv p1, iv p2, iv p3, iv p4, iv p5, iv p6, iv (4 : Int32), iv c105, iv c106, iv c107, iv c108, iv c109, .unset, .unset, .unset, .unset, .unset, .unset, .unset] [(.int c105), (.int (0 : Int32)), (.ref b110), (.ref b110)])) rfl rfl (hb hby at_48)
            refine own_goW st112 ?_
            rw [show nar .char c105 = c105 from own_narc hr_c105] at W112
            have V112 := Arv.set Ar111 q111 Sz111 Nz111 Ha111 Ga111 (own_fitc hr_c105) W112 0 rfl (Nat.le_of_ble_eq_true rfl)
            have N112 := Fr.snoc X112 N109 g_b110
            have Sf_b110' := Safe.wr W112 Sf_b110 Rc.1 Sf_b110
            replace Rc := Rc.trans (CHr.wr W112 Sf_b110 Rc.1)
            replace hk := Nat.le_trans hk (Keep.of_wr W112).1
            replace Sf_b110 := Sf_b110'
            replace O := O.wr W112 g_b110
            replace Kp := Kp.wr W112 (Or.inr sz_b110)
            replace Ea_b110 := Ea_b110.wr W112
            replace V_b110 : Arv Z h112 b110 k110 .char (5 : Int32) [(.int c105), (.int (0 : Int32)), (.int (0 : Int32)), (.int (0 : Int32)), (.int (0 : Int32))] (.int (0 : Int32)) := V112
            show own_GoW p e below s _ _ _ _ (T112.setTop (mkF m 49 #[iv p1, iv p2, iv p3, iv p4, iv p5, iv p6, iv (4 : Int32), iv c105, iv c106, iv c107, iv c108, iv c109, .unset, .unset, .unset, .unset, .unset, .unset, .unset] [(.ref b110)]))
            refine own_goW (fun zt zk => (XS.dup X112.here hx rfl (hb hby at_49) rfl rfl (XS.iconst X112.here hx rfl (hb hby at_50) (XS.iload X112.here hx rfl (hb hby at_51) rfl zk)))) ?_
            show own_GoW p e below s _ _ _ _ (T112.setTop (mkF m 53 #[iv p1, iv p2, iv p3, iv p4, iv p5, iv p6, iv (4 : Int32), iv c105, iv c106, iv c107, iv c108, iv c109, .unset, .unset, .unset, .unset, .unset, .unset, .unset] [(.int c106), (.int (1 : Int32)), (.ref b110), (.ref b110)]))
            obtain ⟨cl113, Ar113, q113, Sz113, Nz113, Ha113, Ga113⟩ := id V_b110
            have hin113 : ¬ ((1 : Int32) < 0 ∨ cl113.slots.size ≤ ((1 : Int32)).toNatClampNeg) := inb_of Sz113 ⟨by decide, by decide⟩
            obtain ⟨T114, h114, X114, e114, W114, st114⟩ := stC X112 hx hZ e112 Ar113 (j := (1 : Int32)) hin113 (g := (mkF m 53 #[iv p1, iv p2, iv p3, iv p4, iv p5, iv p6, iv (4 : Int32), iv c105, iv c106, iv c107, iv c108, iv c109, .unset, .unset, .unset, .unset, .unset, .unset, .unset] [(.int c106), (.int (1 : Int32)), (.ref b110), (.ref b110)])) rfl rfl (hb hby at_53)
            refine own_goW st114 ?_
            rw [show nar .char c106 = c106 from own_narc hr_c106] at W114
            have V114 := Arv.set Ar113 q113 Sz113 Nz113 Ha113 Ga113 (own_fitc hr_c106) W114 1 rfl (Nat.le_of_ble_eq_true rfl)
            have N114 := Fr.snoc X114 N112 g_b110
            have Sf_b110' := Safe.wr W114 Sf_b110 Rc.1 Sf_b110
            replace Rc := Rc.trans (CHr.wr W114 Sf_b110 Rc.1)
            replace hk := Nat.le_trans hk (Keep.of_wr W114).1
            replace Sf_b110 := Sf_b110'
            replace O := O.wr W114 g_b110
            replace Kp := Kp.wr W114 (Or.inr sz_b110)
            replace Ea_b110 := Ea_b110.wr W114
            replace V_b110 : Arv Z h114 b110 k110 .char (5 : Int32) [(.int c105), (.int c106), (.int (0 : Int32)), (.int (0 : Int32)), (.int (0 : Int32))] (.int (0 : Int32)) := V114
            show own_GoW p e below s _ _ _ _ (T114.setTop (mkF m 54 #[iv p1, iv p2, iv p3, iv p4, iv p5, iv p6, iv (4 : Int32), iv c105, iv c106, iv c107, iv c108, iv c109, .unset, .unset, .unset, .unset, .unset, .unset, .unset] [(.ref b110)]))
            refine own_goW (fun zt zk => (XS.dup X114.here hx rfl (hb hby at_54) rfl rfl (XS.iconst X114.here hx rfl (hb hby at_55) (XS.iload X114.here hx rfl (hb hby at_56) rfl zk)))) ?_
            show own_GoW p e below s _ _ _ _ (T114.setTop (mkF m 58 #[iv p1, iv p2, iv p3, iv p4, iv p5, iv p6, iv (4 : Int32), iv c105, iv c106, iv c107, iv c108, iv c109, .unset, .unset, .unset, .unset, .unset, .unset, .unset] [(.int c107), (.int (2 : Int32)), (.ref b110), (.ref b110)]))
            obtain ⟨cl115, Ar115, q115, Sz115, Nz115, Ha115, Ga115⟩ := id V_b110
            have hin115 : ¬ ((2 : Int32) < 0 ∨ cl115.slots.size ≤ ((2 : Int32)).toNatClampNeg) := inb_of Sz115 ⟨by decide, by decide⟩
            obtain ⟨T116, h116, X116, e116, W116, st116⟩ := stC X114 hx hZ e114 Ar115 (j := (2 : Int32)) hin115 (g := (mkF m 58 #[iv p1, iv p2, iv p3, iv p4, iv p5, iv p6, iv (4 : Int32), iv c105, iv c106, iv c107, iv c108, iv c109, .unset, .unset, .unset, .unset, .unset, .unset, .unset] [(.int c107), (.int (2 : Int32)), (.ref b110), (.ref b110)])) rfl rfl (hb hby at_58)
            refine own_goW st116 ?_
            rw [show nar .char c107 = c107 from own_narc hr_c107] at W116
            have V116 := Arv.set Ar115 q115 Sz115 Nz115 Ha115 Ga115 (own_fitc hr_c107) W116 2 rfl (Nat.le_of_ble_eq_true rfl)
            have N116 := Fr.snoc X116 N114 g_b110
            have Sf_b110' := Safe.wr W116 Sf_b110 Rc.1 Sf_b110
            replace Rc := Rc.trans (CHr.wr W116 Sf_b110 Rc.1)
            replace hk := Nat.le_trans hk (Keep.of_wr W116).1
            replace Sf_b110 := Sf_b110'
            replace O := O.wr W116 g_b110
            replace Kp := Kp.wr W116 (Or.inr sz_b110)
            replace Ea_b110 := Ea_b110.wr W116
            replace V_b110 : Arv Z h116 b110 k110 .char (5 : Int32) [(.int c105), (.int c106), (.int c107), (.int (0 : Int32)), (.int (0 : Int32))] (.int (0 : Int32)) := V116
            show own_GoW p e below s _ _ _ _ (T116.setTop (mkF m 59 #[iv p1, iv p2, iv p3, iv p4, iv p5, iv p6, iv (4 : Int32), iv c105, iv c106, iv c107, iv c108, iv c109, .unset, .unset, .unset, .unset, .unset, .unset, .unset] [(.ref b110)]))
            refine own_goW (fun zt zk => (XS.dup X116.here hx rfl (hb hby at_59) rfl rfl (XS.iconst X116.here hx rfl (hb hby at_60) (XS.iload X116.here hx rfl (hb hby at_61) rfl zk)))) ?_
            show own_GoW p e below s _ _ _ _ (T116.setTop (mkF m 63 #[iv p1, iv p2, iv p3, iv p4, iv p5, iv p6, iv (4 : Int32), iv c105, iv c106, iv c107, iv c108, iv c109, .unset, .unset, .unset, .unset, .unset, .unset, .unset] [(.int c108), (.int (3 : Int32)), (.ref b110), (.ref b110)]))
            obtain ⟨cl117, Ar117, q117, Sz117, Nz117, Ha117, Ga117⟩ := id V_b110
            have hin117 : ¬ ((3 : Int32) < 0 ∨ cl117.slots.size ≤ ((3 : Int32)).toNatClampNeg) := inb_of Sz117 ⟨by decide, by decide⟩
            obtain ⟨T118, h118, X118, e118, W118, st118⟩ := stC X116 hx hZ e116 Ar117 (j := (3 : Int32)) hin117 (g := (mkF m 63 #[iv p1, iv p2, iv p3, iv p4, iv p5, iv p6, iv (4 : Int32), iv c105, iv c106, iv c107, iv c108, iv c109, .unset, .unset, .unset, .unset, .unset, .unset, .unset] [(.int c108), (.int (3 : Int32)), (.ref b110), (.ref b110)])) rfl rfl (hb hby at_63)
            refine own_goW st118 ?_
            rw [show nar .char c108 = c108 from own_narc hr_c108] at W118
            have V118 := Arv.set Ar117 q117 Sz117 Nz117 Ha117 Ga117 (own_fitc hr_c108) W118 3 rfl (Nat.le_of_ble_eq_true rfl)
            have N118 := Fr.snoc X118 N116 g_b110
            have Sf_b110' := Safe.wr W118 Sf_b110 Rc.1 Sf_b110
            replace Rc := Rc.trans (CHr.wr W118 Sf_b110 Rc.1)
            replace hk := Nat.le_trans hk (Keep.of_wr W118).1
            replace Sf_b110 := Sf_b110'
            replace O := O.wr W118 g_b110
            replace Kp := Kp.wr W118 (Or.inr sz_b110)
            replace Ea_b110 := Ea_b110.wr W118
            replace V_b110 : Arv Z h118 b110 k110 .char (5 : Int32) [(.int c105), (.int c106), (.int c107), (.int c108), (.int (0 : Int32))] (.int (0 : Int32)) := V118
            show own_GoW p e below s _ _ _ _ (T118.setTop (mkF m 64 #[iv p1, iv p2, iv p3, iv p4, iv p5, iv p6, iv (4 : Int32), iv c105, iv c106, iv c107, iv c108, iv c109, .unset, .unset, .unset, .unset, .unset, .unset, .unset] [(.ref b110)]))
            refine own_goW (fun zt zk => (XS.dup X118.here hx rfl (hb hby at_64) rfl rfl (XS.iconst X118.here hx rfl (hb hby at_65) (XS.iload X118.here hx rfl (hb hby at_66) rfl zk)))) ?_
            show own_GoW p e below s _ _ _ _ (T118.setTop (mkF m 68 #[iv p1, iv p2, iv p3, iv p4, iv p5, iv p6, iv (4 : Int32), iv c105, iv c106, iv c107, iv c108, iv c109, .unset, .unset, .unset, .unset, .unset, .unset, .unset] [(.int c109), (.int (4 : Int32)), (.ref b110), (.ref b110)]))
            obtain ⟨cl119, Ar119, q119, Sz119, Nz119, Ha119, Ga119⟩ := id V_b110
            have hin119 : ¬ ((4 : Int32) < 0 ∨ cl119.slots.size ≤ ((4 : Int32)).toNatClampNeg) := inb_of Sz119 ⟨by decide, by decide⟩
            obtain ⟨T120, h120, X120, e120, W120, st120⟩ := stC X118 hx hZ e118 Ar119 (j := (4 : Int32)) hin119 (g := (mkF m 68 #[iv p1, iv p2, iv p3, iv p4, iv p5, iv p6, iv (4 : Int32), iv c105, iv c106, iv c107, iv c108, iv c109, .unset, .unset, .unset, .unset, .unset, .unset, .unset] [(.int c109), (.int (4 : Int32)), (.ref b110), (.ref b110)])) rfl rfl (hb hby at_68)
            refine own_goW st120 ?_
            rw [show nar .char c109 = c109 from own_narc hr_c109] at W120
            have V120 := Arv.set Ar119 q119 Sz119 Nz119 Ha119 Ga119 (own_fitc hr_c109) W120 4 rfl (Nat.le_of_ble_eq_true rfl)
            have N120 := Fr.snoc X120 N118 g_b110
            have Sf_b110' := Safe.wr W120 Sf_b110 Rc.1 Sf_b110
            replace Rc := Rc.trans (CHr.wr W120 Sf_b110 Rc.1)
            replace hk := Nat.le_trans hk (Keep.of_wr W120).1
            replace Sf_b110 := Sf_b110'
            replace O := O.wr W120 g_b110
            replace Kp := Kp.wr W120 (Or.inr sz_b110)
            replace Ea_b110 := Ea_b110.wr W120
            replace V_b110 : Arv Z h120 b110 k110 .char (5 : Int32) [(.int c105), (.int c106), (.int c107), (.int c108), (.int c109)] (.int (0 : Int32)) := V120
            show own_GoW p e below s _ _ _ _ (T120.setTop (mkF m 69 #[iv p1, iv p2, iv p3, iv p4, iv p5, iv p6, iv (4 : Int32), iv c105, iv c106, iv c107, iv c108, iv c109, .unset, .unset, .unset, .unset, .unset, .unset, .unset] [(.ref b110)]))
            refine own_goW (fun zt zk => (XS.astore X120.here hx rfl (hb hby at_69) rfl rfl (l' := #[iv p1, iv p2, iv p3, iv p4, iv p5, iv p6, iv (4 : Int32), iv c105, iv c106, iv c107, iv c108, iv c109, rv b110, .unset, .unset, .unset, .unset, .unset, .unset]) rfl (XS.iload X120.here hx rfl (hb hby at_71) rfl (XS.iload X120.here hx rfl (hb hby at_73) rfl (XS.iload X120.here hx rfl (hb hby at_75) rfl (XS.iload X120.here hx rfl (hb hby at_77) rfl (XS.iload X120.here hx rfl (hb hby at_79) rfl (XS.iload X120.here hx rfl (hb hby at_81) rfl zk)))))))) ?_
            show own_GoW p e below s _ _ _ _ (T120.setTop (mkF m 83 #[iv p1, iv p2, iv p3, iv p4, iv p5, iv p6, iv (4 : Int32), iv c105, iv c106, iv c107, iv c108, iv c109, rv b110, .unset, .unset, .unset, .unset, .unset, .unset] [(.int c109), (.int c108), (.int c107), (.int c106), (.int c105), (.int (4 : Int32))]))
            obtain ⟨_, _, ⟨T121, L121, k121, n121⟩, -, X121, ⟨Lc121, hQ121, l121, y121, z121⟩, st121⟩ := Jvm.LawKit.callS X120 hx (y := (⟨"com/example/boxwright/boxwright/TableNamesLocalNamePinLaw", "make", "(ICCCCC)Ljava/lang/String;"⟩ : MethodName)) hown (mvT hZ (hw _ (List.mem_of_getElem? (i := 5) rfl))) (mvT hZ (hw _ (List.mem_of_getElem? (i := 6) rfl))) (mvT hZ (hw _ (List.mem_of_getElem? (i := 2) rfl))) (mvT hZ (hw _ (List.mem_of_getElem? (i := 7) rfl))) (by decide) (backOf (W := 0) (own_rmake4 l Z a0 hw [] c105 c106 c107 c108 c109 o_COMPACT_STRINGS h120 n0 (Nat.le_trans Z0 Kp.1) O S_o_COMPACT_STRINGS nz_o_COMPACT_STRINGS hr_c105 hr_c106 hr_c107 hr_c108 hr_c109) hZ (hw _ (List.mem_of_getElem? (i := 7) rfl)) (hw _ (List.mem_of_getElem? (i := 2) rfl)) (by decide) (by decide)) (g := (mkF m 83 #[iv p1, iv p2, iv p3, iv p4, iv p5, iv p6, iv (4 : Int32), iv c105, iv c106, iv c107, iv c108, iv c109, rv b110, .unset, .unset, .unset, .unset, .unset, .unset] [(.int c109), (.int c108), (.int c107), (.int c106), (.int c105), (.int (4 : Int32))])) rfl (by rw [hml]; rfl) (argsL := [(.int (4 : Int32)), (.int c105), (.int c106), (.int c107), (.int c108), (.int c109)]) (rest := []) (lenOf own_pd__ICCCCC_Ljava_lang_String_ rfl) rfl (by show 2 * 0 + _ ≤ _; exact Nat.le_of_eq rfl) (hb hby at_83) (fun _ _ => ⟨rfl, e120, (by decide : 1 + 3 ≤ _), (by decide : 5 + 12 ≤ _)⟩)
            dsimp only [Pt.U, Pt.locs, Pt.cells, Pt.slots] at X121 l121 y121 z121 st121 hQ121
            subst l121 y121 z121
            obtain ⟨b121, t121, kb121, rfl, Nq121, K121, sb121, Ex_b121, Fv121, Fc121, Vt121⟩ := hQ121
            have N121 := Fr.app N120 Nq121
            refine own_goW st121 ?_
            have Sf_b110' := Safe.keep K121 all0 Rc.1 Sf_b110
            replace Rc := Rc.trans (CHr.keep K121 all0 Rc.1)
            replace hk := Nat.le_trans hk K121.1
            replace Sf_b110 := Sf_b110'
            replace O := O.keep K121 all0
            replace Kp := Kp.trans K121 all0
            replace V_b110 := V_b110.keep K121 nin0
            replace Ea_b110 := Ea_b110.keep K121
            show own_GoW p e below s _ _ _ _ (T121.setTop (mkF m 86 #[iv p1, iv p2, iv p3, iv p4, iv p5, iv p6, iv (4 : Int32), iv c105, iv c106, iv c107, iv c108, iv c109, rv b110, .unset, .unset, .unset, .unset, .unset, .unset] [(.ref b121)]))
            obtain ⟨s', hs', hsl⟩ := own_cut1 [(c105.toInt8.toInt32), (c106.toInt8.toInt32), (c107.toInt8.toInt32), (c108.toInt8.toInt32)] 4 (by decide)
            have hcr : ∀ c ∈ ([c105, c106, c107, c108] : List Int32), ¬ (c < (0 : Int32)) ∧ ¬ ((255 : Int32) < c) := (own_ac hr_c105 (own_ac hr_c106 (own_ac hr_c107 (own_ac hr_c108 own_an))))
            refine own_goW (fun zt zk => (XS.astore X121.here hx rfl (hb hby at_86) rfl rfl (l' := #[iv p1, iv p2, iv p3, iv p4, iv p5, iv p6, iv (4 : Int32), iv c105, iv c106, iv c107, iv c108, iv c109, rv b110, rv b121, .unset, .unset, .unset, .unset, .unset]) rfl (XS.aload X121.here hx rfl (hb hby at_88) rfl rfl zk))) ?_
            show own_GoW p e below s _ _ _ _ (T121.setTop (mkF m 90 #[iv p1, iv p2, iv p3, iv p4, iv p5, iv p6, iv (4 : Int32), iv c105, iv c106, iv c107, iv c108, iv c109, rv b110, rv b121, .unset, .unset, .unset, .unset, .unset] [(.ref b121)]))
            obtain ⟨_, _, ⟨T122, L122, k122, n122⟩, -, X122, hSq122, hgq122, ⟨Lc122, hQ122, l122, y122, z122, A122⟩, st122⟩ := callSS X121 hx (y := (⟨"com/example/boxwright/boxwright/TableNames", "localName", "(Ljava/lang/String;)Ljava/lang/String;"⟩ : MethodName)) hown (mvT hZ (hw _ (List.mem_of_getElem? (i := 29) rfl))) (mvT hZ (hw _ (List.mem_of_getElem? (i := 30) rfl))) (mvT hZ (hw _ (List.mem_of_getElem? (i := 31) rfl))) (mvT hZ (hw _ (List.mem_of_getElem? (i := 32) rfl))) (by decide) (own_backW (s := s) (W := 0) (own_rln l Z a0 hw [] b121 o_COMPACT_STRINGS o_SIOOBE_FORMATTER t121 kb121 [(c105.toInt8.toInt32), (c106.toInt8.toInt32), (c107.toInt8.toInt32), (c108.toInt8.toInt32)] s' s.vm T121.heap n0 (Nat.le_trans Z0 Kp.1) O S_o_COMPACT_STRINGS S_o_SIOOBE_FORMATTER Ex_b121 Fv121 Fc121 Vt121 nz_o_COMPACT_STRINGS r_o_SIOOBE_FORMATTER (Nat.le_of_ble_eq_true rfl) hsl hs') hZ (hw _ (List.mem_of_getElem? (i := 32) rfl)) (hw _ (List.mem_of_getElem? (i := 31) rfl)) (by decide) (by decide) hEL Rc.1) (g := (mkF m 90 #[iv p1, iv p2, iv p3, iv p4, iv p5, iv p6, iv (4 : Int32), iv c105, iv c106, iv c107, iv c108, iv c109, rv b110, rv b121, .unset, .unset, .unset, .unset, .unset] [(.ref b121)])) rfl (by rw [hml]; rfl) (argsL := [(.ref b121)]) (rest := []) (lenOf own_pd__Ljava_lang_String__Ljava_lang_String_ rfl) rfl (by show 2 * 0 + _ ≤ _; exact Nat.le_of_eq rfl) (hb hby at_90) (fun _ _ => ⟨rfl, rfl, (by decide : 4 + 2 ≤ _), (by decide : 17 + 9 ≤ _)⟩)
            dsimp only [Pt.U, Pt.locs, Pt.cells, Pt.slots] at X122 l122 y122 z122 st122 hQ122 hSq122 hgq122 A122
            subst l122 y122 z122
            obtain ⟨X122, hS122, hZ122, hown122⟩ := rebS hS (hk) X122 hSq122 hgq122 hZ hown
            replace Sf_b110 := CHr.safe A122 V_b110.lt Sf_b110
            replace Rc := Rc.trans A122
            replace hS := hS122
            replace hZ := hZ122
            replace hown := hown122
            have hk : T122.heap.size ≤ T122.heap.size := Nat.le_refl _
            obtain ⟨b122, t122, kb122, rfl, Nq122, K122, Ex_b122, Fv122, Fc122, Vt122⟩ := hQ122
            have N122 := Fr.app N121 Nq122
            refine own_goW (fun zt zk => st122.trans zk) ?_
            replace O := O.keep K122 all0
            replace Kp := Kp.trans K122 all0
            replace V_b110 := V_b110.keep K122 nin0
            replace Ea_b110 := Ea_b110.keep K122
            replace Ex_b121 := Ex_b121.keep K122
            replace Fv121 := Fv121.keep K122 nin0
            replace Fc121 := Fc121.keep K122 nin0
            replace Vt121 := Vt121.keep K122 nin0
            show own_GoW p e below s _ _ _ _ (T122.setTop (mkF m 93 #[iv p1, iv p2, iv p3, iv p4, iv p5, iv p6, iv (4 : Int32), iv c105, iv c106, iv c107, iv c108, iv c109, rv b110, rv b121, .unset, .unset, .unset, .unset, .unset] [(.ref b122)]))
            have el35 : own_la [(c105.toInt8.toInt32), (c106.toInt8.toInt32), (c107.toInt8.toInt32), (c108.toInt8.toInt32)] 35 4 = own_la [c105, c106, c107, c108, c109] 35 4 := own_la_map hcr (by decide) (by decide) 4 (Nat.le_of_ble_eq_true rfl)
            have el47 : own_la [(c105.toInt8.toInt32), (c106.toInt8.toInt32), (c107.toInt8.toInt32), (c108.toInt8.toInt32)] 47 4 = own_la [c105, c106, c107, c108, c109] 47 4 := own_la_map hcr (by decide) (by decide) 4 (Nat.le_of_ble_eq_true rfl)
            refine own_goW (fun zt zk => (XS.astore X122.here hx rfl (hb hby at_93) rfl rfl (l' := #[iv p1, iv p2, iv p3, iv p4, iv p5, iv p6, iv (4 : Int32), iv c105, iv c106, iv c107, iv c108, iv c109, rv b110, rv b121, rv b122, .unset, .unset, .unset, .unset]) rfl (XS.aload X122.here hx rfl (hb hby at_95) rfl rfl (XS.iload X122.here hx rfl (hb hby at_97) rfl (XS.bipush X122.here hx rfl (hb hby at_99) zk))))) ?_
            show own_GoW p e below s _ _ _ _ (T122.setTop (mkF m 101 #[iv p1, iv p2, iv p3, iv p4, iv p5, iv p6, iv (4 : Int32), iv c105, iv c106, iv c107, iv c108, iv c109, rv b110, rv b121, rv b122, .unset, .unset, .unset, .unset] [(.int (35 : Int32)), (.int (4 : Int32)), (.ref b110)]))
            obtain ⟨_, _, ⟨T123, L123, k123, n123⟩, -, X123, ⟨Lc123, hQ123, l123, y123, z123⟩, st123⟩ := Jvm.LawKit.callS X122 hx (y := (⟨"com/example/boxwright/boxwright/TableNamesLocalNamePinLaw", "last", "([CIC)I"⟩ : MethodName)) hown (mvT hZ (hw _ (List.mem_of_getElem? (i := 88) rfl))) (mvT hZ (hw _ (List.mem_of_getElem? (i := 89) rfl))) (mvT hZ (hw _ (List.mem_of_getElem? (i := 2) rfl))) (mvT hZ (hw _ (List.mem_of_getElem? (i := 90) rfl))) (by decide) (backOf (W := 0) (own_rlast4 l Z a0 hw [] b110 (35 : Int32) k110 c105 c106 c107 c108 c109 T122.heap n0 (Nat.le_trans Z0 Kp.1) V_b110) hZ (hw _ (List.mem_of_getElem? (i := 90) rfl)) (hw _ (List.mem_of_getElem? (i := 2) rfl)) (by decide) (by decide)) (g := (mkF m 101 #[iv p1, iv p2, iv p3, iv p4, iv p5, iv p6, iv (4 : Int32), iv c105, iv c106, iv c107, iv c108, iv c109, rv b110, rv b121, rv b122, .unset, .unset, .unset, .unset] [(.int (35 : Int32)), (.int (4 : Int32)), (.ref b110)])) rfl (by rw [hml]; rfl) (argsL := [(.ref b110), (.int (4 : Int32)), (.int (35 : Int32))]) (rest := []) (lenOf own_pd___CIC_I rfl) rfl (by show 2 * 0 + _ ≤ _; exact Nat.le_of_eq rfl) (hb hby at_101) (fun _ _ => ⟨rfl, rfl, (by decide : 6 + 0 ≤ _), (by decide : 26 + 0 ≤ _)⟩)
            dsimp only [Pt.U, Pt.locs, Pt.cells, Pt.slots] at X123 l123 y123 z123 st123 hQ123
            subst l123 y123 z123
            obtain ⟨rfl, Nq123, e123⟩ := hQ123
            have N123 := Fr.app N122 Nq123
            refine own_goW st123 ?_
            show own_GoW p e below s _ _ _ _ (T123.setTop (mkF m 104 #[iv p1, iv p2, iv p3, iv p4, iv p5, iv p6, iv (4 : Int32), iv c105, iv c106, iv c107, iv c108, iv c109, rv b110, rv b121, rv b122, .unset, .unset, .unset, .unset] [(.int (own_la [c105, c106, c107, c108, c109] (35 : Int32) 4))]))
            refine own_goW (fun zt zk => (XS.istore X123.here hx rfl (hb hby at_104) rfl (l' := #[iv p1, iv p2, iv p3, iv p4, iv p5, iv p6, iv (4 : Int32), iv c105, iv c106, iv c107, iv c108, iv c109, rv b110, rv b121, rv b122, iv (own_la [c105, c106, c107, c108, c109] (35 : Int32) 4), .unset, .unset, .unset]) rfl (XS.iload X123.here hx rfl (hb hby at_106) rfl zk))) ?_
            show own_GoW p e below s _ _ _ _ (T123.setTop (mkF m 108 #[iv p1, iv p2, iv p3, iv p4, iv p5, iv p6, iv (4 : Int32), iv c105, iv c106, iv c107, iv c108, iv c109, rv b110, rv b121, rv b122, iv (own_la [c105, c106, c107, c108, c109] (35 : Int32) 4), .unset, .unset, .unset] [(.int (own_la [c105, c106, c107, c108, c109] (35 : Int32) 4))]))
            refine own_use X123 (h := T122.heap) (n0 := n0) (P := fun cut => cut = own_cut [(c105.toInt8.toInt32), (c106.toInt8.toInt32), (c107.toInt8.toInt32), (c108.toInt8.toInt32)] 4) (K := fun T cut => own_GoW p e below s Z (own_Q_own_law Z p1 p2 p3 p4 p5 p6 o_COMPACT_STRINGS o_SIOOBE_FORMATTER h0 n0) room_1.cells room_1.slots (T.setTop (mkF m 125 #[iv p1, iv p2, iv p3, iv p4, iv p5, iv p6, iv (4 : Int32), iv c105, iv c106, iv c107, iv c108, iv c109, rv b110, rv b121, rv b122, iv (own_la [c105, c106, c107, c108, c109] (35 : Int32) 4), .unset, .unset, .unset] [(.int cut)]))) ?_ ?_
            · intro TJ LJ cut XJ eJ NJ hcut
              subst hcut
              show own_GoW p e below s _ _ _ _ (TJ.setTop (mkF m 125 #[iv p1, iv p2, iv p3, iv p4, iv p5, iv p6, iv (4 : Int32), iv c105, iv c106, iv c107, iv c108, iv c109, rv b110, rv b121, rv b122, iv (own_la [c105, c106, c107, c108, c109] (35 : Int32) 4), .unset, .unset, .unset] [(.int (own_cut [(c105.toInt8.toInt32), (c106.toInt8.toInt32), (c107.toInt8.toInt32), (c108.toInt8.toInt32)] 4))]))
              refine own_goW (fun zt zk => (XS.istore XJ.here hx rfl (hb hby at_125) rfl (l' := #[iv p1, iv p2, iv p3, iv p4, iv p5, iv p6, iv (4 : Int32), iv c105, iv c106, iv c107, iv c108, iv c109, rv b110, rv b121, rv b122, iv (own_la [c105, c106, c107, c108, c109] (35 : Int32) 4), iv (own_cut [(c105.toInt8.toInt32), (c106.toInt8.toInt32), (c107.toInt8.toInt32), (c108.toInt8.toInt32)] 4), .unset, .unset]) rfl (XS.iload XJ.here hx rfl (hb hby at_127) rfl (XS.iconst XJ.here hx rfl (hb hby at_129) (XS.iadd XJ.here hx rfl (hb hby at_130) rfl zk))))) ?_
              show own_GoW p e below s _ _ _ _ (TJ.setTop (mkF m 131 #[iv p1, iv p2, iv p3, iv p4, iv p5, iv p6, iv (4 : Int32), iv c105, iv c106, iv c107, iv c108, iv c109, rv b110, rv b121, rv b122, iv (own_la [c105, c106, c107, c108, c109] (35 : Int32) 4), iv (own_cut [(c105.toInt8.toInt32), (c106.toInt8.toInt32), (c107.toInt8.toInt32), (c108.toInt8.toInt32)] 4), .unset, .unset] [(.int ((own_cut [(c105.toInt8.toInt32), (c106.toInt8.toInt32), (c107.toInt8.toInt32), (c108.toInt8.toInt32)] 4) + (1 : Int32)))]))
              rw [hs']
              show own_GoW p e below s _ _ _ _ (TJ.setTop (mkF m 131 #[iv p1, iv p2, iv p3, iv p4, iv p5, iv p6, iv (4 : Int32), iv c105, iv c106, iv c107, iv c108, iv c109, rv b110, rv b121, rv b122, iv (own_la [c105, c106, c107, c108, c109] (35 : Int32) 4), iv (own_cut [(c105.toInt8.toInt32), (c106.toInt8.toInt32), (c107.toInt8.toInt32), (c108.toInt8.toInt32)] 4), .unset, .unset] [(.int (Int32.ofNat s'))]))
              refine own_goW (fun zt zk => (XS.istore XJ.here hx rfl (hb hby at_131) rfl (l' := #[iv p1, iv p2, iv p3, iv p4, iv p5, iv p6, iv (4 : Int32), iv c105, iv c106, iv c107, iv c108, iv c109, rv b110, rv b121, rv b122, iv (own_la [c105, c106, c107, c108, c109] (35 : Int32) 4), iv (own_cut [(c105.toInt8.toInt32), (c106.toInt8.toInt32), (c107.toInt8.toInt32), (c108.toInt8.toInt32)] 4), iv (Int32.ofNat s'), .unset]) rfl (XS.iload XJ.here hx rfl (hb hby at_133) rfl (XS.iload XJ.here hx rfl (hb hby at_135) rfl (XS.isub XJ.here hx rfl (hb hby at_137) rfl zk))))) ?_
              show own_GoW p e below s _ _ _ _ (TJ.setTop (mkF m 138 #[iv p1, iv p2, iv p3, iv p4, iv p5, iv p6, iv (4 : Int32), iv c105, iv c106, iv c107, iv c108, iv c109, rv b110, rv b121, rv b122, iv (own_la [c105, c106, c107, c108, c109] (35 : Int32) 4), iv (own_cut [(c105.toInt8.toInt32), (c106.toInt8.toInt32), (c107.toInt8.toInt32), (c108.toInt8.toInt32)] 4), iv (Int32.ofNat s'), .unset] [(.int ((4 : Int32) - (Int32.ofNat s')))]))
              rw [show (4 : Int32) - Int32.ofNat s' = Int32.ofNat (4 - s') from own_subN (n := 4) hsl (by omega)]
              show own_GoW p e below s _ _ _ _ (TJ.setTop (mkF m 138 #[iv p1, iv p2, iv p3, iv p4, iv p5, iv p6, iv (4 : Int32), iv c105, iv c106, iv c107, iv c108, iv c109, rv b110, rv b121, rv b122, iv (own_la [c105, c106, c107, c108, c109] (35 : Int32) 4), iv (own_cut [(c105.toInt8.toInt32), (c106.toInt8.toInt32), (c107.toInt8.toInt32), (c108.toInt8.toInt32)] 4), iv (Int32.ofNat s'), .unset] [(.int (Int32.ofNat (4 - s')))]))
              refine own_goW (fun zt zk => (XS.istore XJ.here hx rfl (hb hby at_138) rfl (l' := #[iv p1, iv p2, iv p3, iv p4, iv p5, iv p6, iv (4 : Int32), iv c105, iv c106, iv c107, iv c108, iv c109, rv b110, rv b121, rv b122, iv (own_la [c105, c106, c107, c108, c109] (35 : Int32) 4), iv (own_cut [(c105.toInt8.toInt32), (c106.toInt8.toInt32), (c107.toInt8.toInt32), (c108.toInt8.toInt32)] 4), iv (Int32.ofNat s'), iv (Int32.ofNat (4 - s'))]) rfl (XS.aload XJ.here hx rfl (hb hby at_140) rfl rfl zk))) ?_
              show own_GoW p e below s _ _ _ _ (TJ.setTop (mkF m 142 #[iv p1, iv p2, iv p3, iv p4, iv p5, iv p6, iv (4 : Int32), iv c105, iv c106, iv c107, iv c108, iv c109, rv b110, rv b121, rv b122, iv (own_la [c105, c106, c107, c108, c109] (35 : Int32) 4), iv (own_cut [(c105.toInt8.toInt32), (c106.toInt8.toInt32), (c107.toInt8.toInt32), (c108.toInt8.toInt32)] 4), iv (Int32.ofNat s'), iv (Int32.ofNat (4 - s'))] [(.ref b122)]))
              obtain ⟨cq124, kq124, qa124, qb124, qc124⟩ := isOf hZ eJ Ex_b122
              obtain ⟨_, _, ⟨T124, L124, k124, n124⟩, -, X124, ⟨Lc124, hQ124, l124, y124, z124⟩, st124⟩ := XJ.virtualBack hx (y := (⟨"java/lang/String", "length", "()I"⟩ : MethodName)) (z := (⟨"java/lang/String", "length", "()I"⟩ : MethodName)) hown (mvT hZ (hw _ (List.mem_of_getElem? (i := 91) rfl))) (mvT hZ (hw _ (List.mem_of_getElem? (i := 39) rfl))) (notFace_of_selects (args := #[]) (mvT hZ (hw _ (List.mem_of_getElem? (i := 41) rfl)))) (mvT hZ (hw _ (List.mem_of_getElem? (i := 41) rfl))) (mvT hZ (hw _ (List.mem_of_getElem? (i := 40) rfl))) (by decide) (backOf (W := 0) (own_rlen l Z a0 hw [] b122 o_COMPACT_STRINGS t122 kb122 (Int32.ofNat ([(c105.toInt8.toInt32), (c106.toInt8.toInt32), (c107.toInt8.toInt32), (c108.toInt8.toInt32)].length - s')) (([(c105.toInt8.toInt32), (c106.toInt8.toInt32), (c107.toInt8.toInt32), (c108.toInt8.toInt32)].drop s').map Value.int) T122.heap n0 (Nat.le_trans Z0 Kp.1) O S_o_COMPACT_STRINGS Ex_b122 Fv122 Fc122 Vt122 nz_o_COMPACT_STRINGS) hZ (hw _ (List.mem_of_getElem? (i := 42) rfl)) (hw _ (List.mem_of_getElem? (i := 10) rfl)) (by decide) (by decide)) qa124 qc124 (g := (mkF m 142 #[iv p1, iv p2, iv p3, iv p4, iv p5, iv p6, iv (4 : Int32), iv c105, iv c106, iv c107, iv c108, iv c109, rv b110, rv b121, rv b122, iv (own_la [c105, c106, c107, c108, c109] (35 : Int32) 4), iv (own_cut [(c105.toInt8.toInt32), (c106.toInt8.toInt32), (c107.toInt8.toInt32), (c108.toInt8.toInt32)] 4), iv (Int32.ofNat s'), iv (Int32.ofNat (4 - s'))] [(.ref b122)])) rfl (by rw [hml]; rfl) (Steps.refl _) (argsL := []) (rest := []) (lenOf own_pd___I rfl) rfl (by show 2 * 0 + _ ≤ _; exact Nat.le_of_eq rfl) (hb hby at_142) (fun _ _ => ⟨rfl, eJ, (by decide : 6 + 0 ≤ _), (by decide : 26 + 0 ≤ _)⟩)
              dsimp only [Pt.U, Pt.locs, Pt.cells, Pt.slots] at X124 l124 y124 z124 st124 hQ124
              subst l124 y124 z124
              obtain ⟨rfl, Nq124, e124⟩ := hQ124
              have N124 := Fr.app NJ Nq124
              refine own_goW (fun zt zk => st124.trans zk) ?_
              show own_GoW p e below s _ _ _ _ (T124.setTop (mkF m 145 #[iv p1, iv p2, iv p3, iv p4, iv p5, iv p6, iv (4 : Int32), iv c105, iv c106, iv c107, iv c108, iv c109, rv b110, rv b121, rv b122, iv (own_la [c105, c106, c107, c108, c109] (35 : Int32) 4), iv (own_cut [(c105.toInt8.toInt32), (c106.toInt8.toInt32), (c107.toInt8.toInt32), (c108.toInt8.toInt32)] 4), iv (Int32.ofNat s'), iv (Int32.ofNat (4 - s'))] [(.int (Int32.ofNat (4 - s')))]))
              refine own_goW (fun zt zk => (XS.iload X124.here hx rfl (hb hby at_145) rfl (XS.icmpYes X124.here hx rfl (pc0 := 147) (pc' := 152) rfl (hb hby at_147) rfl (teq (rfl : (Int32.ofNat (4 - s')) = (Int32.ofNat (4 - s')))).1 (by decide) (by decide) (XS.aload X124.here hx rfl (hb hby at_152) rfl rfl (XS.aload X124.here hx rfl (hb hby at_154) rfl rfl (XS.iload X124.here hx rfl (hb hby at_156) rfl (XS.iload X124.here hx rfl (hb hby at_158) rfl (XS.iconst X124.here hx rfl (hb hby at_160) zk)))))))) ?_
              show own_GoW p e below s _ _ _ _ (T124.setTop (mkF m 161 #[iv p1, iv p2, iv p3, iv p4, iv p5, iv p6, iv (4 : Int32), iv c105, iv c106, iv c107, iv c108, iv c109, rv b110, rv b121, rv b122, iv (own_la [c105, c106, c107, c108, c109] (35 : Int32) 4), iv (own_cut [(c105.toInt8.toInt32), (c106.toInt8.toInt32), (c107.toInt8.toInt32), (c108.toInt8.toInt32)] 4), iv (Int32.ofNat s'), iv (Int32.ofNat (4 - s'))] [(.int (0 : Int32)), (.int (Int32.ofNat (4 - s'))), (.int (Int32.ofNat s')), (.ref b110), (.ref b122)]))
              have hyl : ([(c105.toInt8.toInt32), (c106.toInt8.toInt32), (c107.toInt8.toInt32), (c108.toInt8.toInt32)].drop s').length = 4 - s' := by rw [List.length_drop]; rfl
              have hrel : ∀ j, j < 4 - s' → (([(c105.toInt8.toInt32), (c106.toInt8.toInt32), (c107.toInt8.toInt32), (c108.toInt8.toInt32)].drop s').getD j 0 &&& (255 : Int32)) = [c105, c106, c107, c108, c109].getD (s' + j) 0 := fun j hj => own_rel [c105, c106, c107, c108] [c105, c106, c107, c108, c109] hcr (Nat.le_of_ble_eq_true rfl) rfl j (by rw [← hyl] at hj; exact hj)
              obtain ⟨_, _, ⟨T125, L125, k125, n125⟩, -, X125, ⟨Lc125, hQ125, l125, y125, z125⟩, st125⟩ := Jvm.LawKit.callS X124 hx (y := (⟨"com/example/boxwright/boxwright/TableNamesLocalNamePinLaw", "at", "(Ljava/lang/String;[CIII)Z"⟩ : MethodName)) hown (mvT hZ (hw _ (List.mem_of_getElem? (i := 92) rfl))) (mvT hZ (hw _ (List.mem_of_getElem? (i := 93) rfl))) (mvT hZ (hw _ (List.mem_of_getElem? (i := 2) rfl))) (mvT hZ (hw _ (List.mem_of_getElem? (i := 94) rfl))) (by decide) (backOf (W := 0) (own_rat0 l Z a0 hw [] b122 b110 o_COMPACT_STRINGS o_SIOOBE_FORMATTER t122 kb122 ([(c105.toInt8.toInt32), (c106.toInt8.toInt32), (c107.toInt8.toInt32), (c108.toInt8.toInt32)].drop s') (4 - s') s' k110 c105 c106 c107 c108 c109 T122.heap n0 (Nat.le_trans Z0 Kp.1) O S_o_COMPACT_STRINGS S_o_SIOOBE_FORMATTER Ex_b122 Fv122 Fc122 Vt122 V_b110 nz_o_COMPACT_STRINGS r_o_SIOOBE_FORMATTER (by omega) hrel) hZ (hw _ (List.mem_of_getElem? (i := 94) rfl)) (hw _ (List.mem_of_getElem? (i := 2) rfl)) (by decide) (by decide)) (g := (mkF m 161 #[iv p1, iv p2, iv p3, iv p4, iv p5, iv p6, iv (4 : Int32), iv c105, iv c106, iv c107, iv c108, iv c109, rv b110, rv b121, rv b122, iv (own_la [c105, c106, c107, c108, c109] (35 : Int32) 4), iv (own_cut [(c105.toInt8.toInt32), (c106.toInt8.toInt32), (c107.toInt8.toInt32), (c108.toInt8.toInt32)] 4), iv (Int32.ofNat s'), iv (Int32.ofNat (4 - s'))] [(.int (0 : Int32)), (.int (Int32.ofNat (4 - s'))), (.int (Int32.ofNat s')), (.ref b110), (.ref b122)])) rfl (by rw [hml]; rfl) (argsL := [(.ref b122), (.ref b110), (.int (Int32.ofNat s')), (.int (Int32.ofNat (4 - s'))), (.int (0 : Int32))]) (rest := []) (lenOf own_pd__Ljava_lang_String__CIII_Z rfl) rfl (by show 2 * 0 + _ ≤ _; exact Nat.le_of_eq rfl) (hb hby at_161) (fun _ _ => ⟨rfl, e124, (by decide : 6 + 0 ≤ _), (by decide : 26 + 0 ≤ _)⟩)
              dsimp only [Pt.U, Pt.locs, Pt.cells, Pt.slots] at X125 l125 y125 z125 st125 hQ125
              subst l125 y125 z125
              obtain ⟨rfl, Nq125, e125⟩ := hQ125
              have N125 := Fr.app N124 Nq125
              refine own_goW st125 ?_
              show own_GoW p e below s _ _ _ _ (T125.setTop (mkF m 164 #[iv p1, iv p2, iv p3, iv p4, iv p5, iv p6, iv (4 : Int32), iv c105, iv c106, iv c107, iv c108, iv c109, rv b110, rv b121, rv b122, iv (own_la [c105, c106, c107, c108, c109] (35 : Int32) 4), iv (own_cut [(c105.toInt8.toInt32), (c106.toInt8.toInt32), (c107.toInt8.toInt32), (c108.toInt8.toInt32)] 4), iv (Int32.ofNat s'), iv (Int32.ofNat (4 - s'))] [(.int (1 : Int32))]))
              refine own_goW (fun zt zk => (XS.ifNo X125.here hx rfl (hb hby at_164) rfl ((if0 _ _).trans (feq ((by decide) : ¬ ((1 : Int32) = (0 : Int32)))).1) (XS.aload X125.here hx rfl (hb hby at_167) rfl rfl (XS.aload X125.here hx rfl (hb hby at_169) rfl rfl (XS.iload X125.here hx rfl (hb hby at_171) rfl (XS.iload X125.here hx rfl (hb hby at_173) rfl (XS.iconst X125.here hx rfl (hb hby at_175) zk))))))) ?_
              show own_GoW p e below s _ _ _ _ (T125.setTop (mkF m 176 #[iv p1, iv p2, iv p3, iv p4, iv p5, iv p6, iv (4 : Int32), iv c105, iv c106, iv c107, iv c108, iv c109, rv b110, rv b121, rv b122, iv (own_la [c105, c106, c107, c108, c109] (35 : Int32) 4), iv (own_cut [(c105.toInt8.toInt32), (c106.toInt8.toInt32), (c107.toInt8.toInt32), (c108.toInt8.toInt32)] 4), iv (Int32.ofNat s'), iv (Int32.ofNat (4 - s'))] [(.int (1 : Int32)), (.int (Int32.ofNat (4 - s'))), (.int (Int32.ofNat s')), (.ref b110), (.ref b122)]))
              obtain ⟨_, _, ⟨T126, L126, k126, n126⟩, -, X126, ⟨Lc126, hQ126, l126, y126, z126⟩, st126⟩ := Jvm.LawKit.callS X125 hx (y := (⟨"com/example/boxwright/boxwright/TableNamesLocalNamePinLaw", "at", "(Ljava/lang/String;[CIII)Z"⟩ : MethodName)) hown (mvT hZ (hw _ (List.mem_of_getElem? (i := 92) rfl))) (mvT hZ (hw _ (List.mem_of_getElem? (i := 93) rfl))) (mvT hZ (hw _ (List.mem_of_getElem? (i := 2) rfl))) (mvT hZ (hw _ (List.mem_of_getElem? (i := 94) rfl))) (by decide) (backOf (W := 0) (own_rat1 l Z a0 hw [] b122 b110 o_COMPACT_STRINGS o_SIOOBE_FORMATTER t122 kb122 ([(c105.toInt8.toInt32), (c106.toInt8.toInt32), (c107.toInt8.toInt32), (c108.toInt8.toInt32)].drop s') (4 - s') s' k110 c105 c106 c107 c108 c109 T122.heap n0 (Nat.le_trans Z0 Kp.1) O S_o_COMPACT_STRINGS S_o_SIOOBE_FORMATTER Ex_b122 Fv122 Fc122 Vt122 V_b110 nz_o_COMPACT_STRINGS r_o_SIOOBE_FORMATTER (by omega) hrel) hZ (hw _ (List.mem_of_getElem? (i := 94) rfl)) (hw _ (List.mem_of_getElem? (i := 2) rfl)) (by decide) (by decide)) (g := (mkF m 176 #[iv p1, iv p2, iv p3, iv p4, iv p5, iv p6, iv (4 : Int32), iv c105, iv c106, iv c107, iv c108, iv c109, rv b110, rv b121, rv b122, iv (own_la [c105, c106, c107, c108, c109] (35 : Int32) 4), iv (own_cut [(c105.toInt8.toInt32), (c106.toInt8.toInt32), (c107.toInt8.toInt32), (c108.toInt8.toInt32)] 4), iv (Int32.ofNat s'), iv (Int32.ofNat (4 - s'))] [(.int (1 : Int32)), (.int (Int32.ofNat (4 - s'))), (.int (Int32.ofNat s')), (.ref b110), (.ref b122)])) rfl (by rw [hml]; rfl) (argsL := [(.ref b122), (.ref b110), (.int (Int32.ofNat s')), (.int (Int32.ofNat (4 - s'))), (.int (1 : Int32))]) (rest := []) (lenOf own_pd__Ljava_lang_String__CIII_Z rfl) rfl (by show 2 * 0 + _ ≤ _; exact Nat.le_of_eq rfl) (hb hby at_176) (fun _ _ => ⟨rfl, e125, (by decide : 6 + 0 ≤ _), (by decide : 26 + 0 ≤ _)⟩)
              dsimp only [Pt.U, Pt.locs, Pt.cells, Pt.slots] at X126 l126 y126 z126 st126 hQ126
              subst l126 y126 z126
              obtain ⟨rfl, Nq126, e126⟩ := hQ126
              have N126 := Fr.app N125 Nq126
              refine own_goW st126 ?_
              show own_GoW p e below s _ _ _ _ (T126.setTop (mkF m 179 #[iv p1, iv p2, iv p3, iv p4, iv p5, iv p6, iv (4 : Int32), iv c105, iv c106, iv c107, iv c108, iv c109, rv b110, rv b121, rv b122, iv (own_la [c105, c106, c107, c108, c109] (35 : Int32) 4), iv (own_cut [(c105.toInt8.toInt32), (c106.toInt8.toInt32), (c107.toInt8.toInt32), (c108.toInt8.toInt32)] 4), iv (Int32.ofNat s'), iv (Int32.ofNat (4 - s'))] [(.int (1 : Int32))]))
              refine own_goW (fun zt zk => (XS.ifNo X126.here hx rfl (hb hby at_179) rfl ((if0 _ _).trans (feq ((by decide) : ¬ ((1 : Int32) = (0 : Int32)))).1) (XS.aload X126.here hx rfl (hb hby at_182) rfl rfl (XS.aload X126.here hx rfl (hb hby at_184) rfl rfl (XS.iload X126.here hx rfl (hb hby at_186) rfl (XS.iload X126.here hx rfl (hb hby at_188) rfl (XS.iconst X126.here hx rfl (hb hby at_190) zk))))))) ?_
              show own_GoW p e below s _ _ _ _ (T126.setTop (mkF m 191 #[iv p1, iv p2, iv p3, iv p4, iv p5, iv p6, iv (4 : Int32), iv c105, iv c106, iv c107, iv c108, iv c109, rv b110, rv b121, rv b122, iv (own_la [c105, c106, c107, c108, c109] (35 : Int32) 4), iv (own_cut [(c105.toInt8.toInt32), (c106.toInt8.toInt32), (c107.toInt8.toInt32), (c108.toInt8.toInt32)] 4), iv (Int32.ofNat s'), iv (Int32.ofNat (4 - s'))] [(.int (2 : Int32)), (.int (Int32.ofNat (4 - s'))), (.int (Int32.ofNat s')), (.ref b110), (.ref b122)]))
              obtain ⟨_, _, ⟨T127, L127, k127, n127⟩, -, X127, ⟨Lc127, hQ127, l127, y127, z127⟩, st127⟩ := Jvm.LawKit.callS X126 hx (y := (⟨"com/example/boxwright/boxwright/TableNamesLocalNamePinLaw", "at", "(Ljava/lang/String;[CIII)Z"⟩ : MethodName)) hown (mvT hZ (hw _ (List.mem_of_getElem? (i := 92) rfl))) (mvT hZ (hw _ (List.mem_of_getElem? (i := 93) rfl))) (mvT hZ (hw _ (List.mem_of_getElem? (i := 2) rfl))) (mvT hZ (hw _ (List.mem_of_getElem? (i := 94) rfl))) (by decide) (backOf (W := 0) (own_rat2 l Z a0 hw [] b122 b110 o_COMPACT_STRINGS o_SIOOBE_FORMATTER t122 kb122 ([(c105.toInt8.toInt32), (c106.toInt8.toInt32), (c107.toInt8.toInt32), (c108.toInt8.toInt32)].drop s') (4 - s') s' k110 c105 c106 c107 c108 c109 T122.heap n0 (Nat.le_trans Z0 Kp.1) O S_o_COMPACT_STRINGS S_o_SIOOBE_FORMATTER Ex_b122 Fv122 Fc122 Vt122 V_b110 nz_o_COMPACT_STRINGS r_o_SIOOBE_FORMATTER (by omega) hrel) hZ (hw _ (List.mem_of_getElem? (i := 94) rfl)) (hw _ (List.mem_of_getElem? (i := 2) rfl)) (by decide) (by decide)) (g := (mkF m 191 #[iv p1, iv p2, iv p3, iv p4, iv p5, iv p6, iv (4 : Int32), iv c105, iv c106, iv c107, iv c108, iv c109, rv b110, rv b121, rv b122, iv (own_la [c105, c106, c107, c108, c109] (35 : Int32) 4), iv (own_cut [(c105.toInt8.toInt32), (c106.toInt8.toInt32), (c107.toInt8.toInt32), (c108.toInt8.toInt32)] 4), iv (Int32.ofNat s'), iv (Int32.ofNat (4 - s'))] [(.int (2 : Int32)), (.int (Int32.ofNat (4 - s'))), (.int (Int32.ofNat s')), (.ref b110), (.ref b122)])) rfl (by rw [hml]; rfl) (argsL := [(.ref b122), (.ref b110), (.int (Int32.ofNat s')), (.int (Int32.ofNat (4 - s'))), (.int (2 : Int32))]) (rest := []) (lenOf own_pd__Ljava_lang_String__CIII_Z rfl) rfl (by show 2 * 0 + _ ≤ _; exact Nat.le_of_eq rfl) (hb hby at_191) (fun _ _ => ⟨rfl, e126, (by decide : 6 + 0 ≤ _), (by decide : 26 + 0 ≤ _)⟩)
              dsimp only [Pt.U, Pt.locs, Pt.cells, Pt.slots] at X127 l127 y127 z127 st127 hQ127
              subst l127 y127 z127
              obtain ⟨rfl, Nq127, e127⟩ := hQ127
              have N127 := Fr.app N126 Nq127
              refine own_goW st127 ?_
              show own_GoW p e below s _ _ _ _ (T127.setTop (mkF m 194 #[iv p1, iv p2, iv p3, iv p4, iv p5, iv p6, iv (4 : Int32), iv c105, iv c106, iv c107, iv c108, iv c109, rv b110, rv b121, rv b122, iv (own_la [c105, c106, c107, c108, c109] (35 : Int32) 4), iv (own_cut [(c105.toInt8.toInt32), (c106.toInt8.toInt32), (c107.toInt8.toInt32), (c108.toInt8.toInt32)] 4), iv (Int32.ofNat s'), iv (Int32.ofNat (4 - s'))] [(.int (1 : Int32))]))
              refine own_goW (fun zt zk => (XS.ifNo X127.here hx rfl (hb hby at_194) rfl ((if0 _ _).trans (feq ((by decide) : ¬ ((1 : Int32) = (0 : Int32)))).1) (XS.aload X127.here hx rfl (hb hby at_197) rfl rfl (XS.aload X127.here hx rfl (hb hby at_199) rfl rfl (XS.iload X127.here hx rfl (hb hby at_201) rfl (XS.iload X127.here hx rfl (hb hby at_203) rfl (XS.iconst X127.here hx rfl (hb hby at_205) zk))))))) ?_
              show own_GoW p e below s _ _ _ _ (T127.setTop (mkF m 206 #[iv p1, iv p2, iv p3, iv p4, iv p5, iv p6, iv (4 : Int32), iv c105, iv c106, iv c107, iv c108, iv c109, rv b110, rv b121, rv b122, iv (own_la [c105, c106, c107, c108, c109] (35 : Int32) 4), iv (own_cut [(c105.toInt8.toInt32), (c106.toInt8.toInt32), (c107.toInt8.toInt32), (c108.toInt8.toInt32)] 4), iv (Int32.ofNat s'), iv (Int32.ofNat (4 - s'))] [(.int (3 : Int32)), (.int (Int32.ofNat (4 - s'))), (.int (Int32.ofNat s')), (.ref b110), (.ref b122)]))
              obtain ⟨_, _, ⟨T128, L128, k128, n128⟩, -, X128, ⟨Lc128, hQ128, l128, y128, z128⟩, st128⟩ := Jvm.LawKit.callS X127 hx (y := (⟨"com/example/boxwright/boxwright/TableNamesLocalNamePinLaw", "at", "(Ljava/lang/String;[CIII)Z"⟩ : MethodName)) hown (mvT hZ (hw _ (List.mem_of_getElem? (i := 92) rfl))) (mvT hZ (hw _ (List.mem_of_getElem? (i := 93) rfl))) (mvT hZ (hw _ (List.mem_of_getElem? (i := 2) rfl))) (mvT hZ (hw _ (List.mem_of_getElem? (i := 94) rfl))) (by decide) (backOf (W := 0) (own_rat3 l Z a0 hw [] b122 b110 o_COMPACT_STRINGS o_SIOOBE_FORMATTER t122 kb122 ([(c105.toInt8.toInt32), (c106.toInt8.toInt32), (c107.toInt8.toInt32), (c108.toInt8.toInt32)].drop s') (4 - s') s' k110 c105 c106 c107 c108 c109 T122.heap n0 (Nat.le_trans Z0 Kp.1) O S_o_COMPACT_STRINGS S_o_SIOOBE_FORMATTER Ex_b122 Fv122 Fc122 Vt122 V_b110 nz_o_COMPACT_STRINGS r_o_SIOOBE_FORMATTER (by omega) hrel) hZ (hw _ (List.mem_of_getElem? (i := 94) rfl)) (hw _ (List.mem_of_getElem? (i := 2) rfl)) (by decide) (by decide)) (g := (mkF m 206 #[iv p1, iv p2, iv p3, iv p4, iv p5, iv p6, iv (4 : Int32), iv c105, iv c106, iv c107, iv c108, iv c109, rv b110, rv b121, rv b122, iv (own_la [c105, c106, c107, c108, c109] (35 : Int32) 4), iv (own_cut [(c105.toInt8.toInt32), (c106.toInt8.toInt32), (c107.toInt8.toInt32), (c108.toInt8.toInt32)] 4), iv (Int32.ofNat s'), iv (Int32.ofNat (4 - s'))] [(.int (3 : Int32)), (.int (Int32.ofNat (4 - s'))), (.int (Int32.ofNat s')), (.ref b110), (.ref b122)])) rfl (by rw [hml]; rfl) (argsL := [(.ref b122), (.ref b110), (.int (Int32.ofNat s')), (.int (Int32.ofNat (4 - s'))), (.int (3 : Int32))]) (rest := []) (lenOf own_pd__Ljava_lang_String__CIII_Z rfl) rfl (by show 2 * 0 + _ ≤ _; exact Nat.le_of_eq rfl) (hb hby at_206) (fun _ _ => ⟨rfl, e127, (by decide : 6 + 0 ≤ _), (by decide : 26 + 0 ≤ _)⟩)
              dsimp only [Pt.U, Pt.locs, Pt.cells, Pt.slots] at X128 l128 y128 z128 st128 hQ128
              subst l128 y128 z128
              obtain ⟨rfl, Nq128, e128⟩ := hQ128
              have N128 := Fr.app N127 Nq128
              refine own_goW st128 ?_
              show own_GoW p e below s _ _ _ _ (T128.setTop (mkF m 209 #[iv p1, iv p2, iv p3, iv p4, iv p5, iv p6, iv (4 : Int32), iv c105, iv c106, iv c107, iv c108, iv c109, rv b110, rv b121, rv b122, iv (own_la [c105, c106, c107, c108, c109] (35 : Int32) 4), iv (own_cut [(c105.toInt8.toInt32), (c106.toInt8.toInt32), (c107.toInt8.toInt32), (c108.toInt8.toInt32)] 4), iv (Int32.ofNat s'), iv (Int32.ofNat (4 - s'))] [(.int (1 : Int32))]))
              refine own_goW (fun zt zk => (XS.ifNo X128.here hx rfl (hb hby at_209) rfl ((if0 _ _).trans (feq ((by decide) : ¬ ((1 : Int32) = (0 : Int32)))).1) (XS.aload X128.here hx rfl (hb hby at_212) rfl rfl (XS.aload X128.here hx rfl (hb hby at_214) rfl rfl (XS.iload X128.here hx rfl (hb hby at_216) rfl (XS.iload X128.here hx rfl (hb hby at_218) rfl (XS.iconst X128.here hx rfl (hb hby at_220) zk))))))) ?_
              show own_GoW p e below s _ _ _ _ (T128.setTop (mkF m 221 #[iv p1, iv p2, iv p3, iv p4, iv p5, iv p6, iv (4 : Int32), iv c105, iv c106, iv c107, iv c108, iv c109, rv b110, rv b121, rv b122, iv (own_la [c105, c106, c107, c108, c109] (35 : Int32) 4), iv (own_cut [(c105.toInt8.toInt32), (c106.toInt8.toInt32), (c107.toInt8.toInt32), (c108.toInt8.toInt32)] 4), iv (Int32.ofNat s'), iv (Int32.ofNat (4 - s'))] [(.int (4 : Int32)), (.int (Int32.ofNat (4 - s'))), (.int (Int32.ofNat s')), (.ref b110), (.ref b122)]))
              obtain ⟨_, _, ⟨T129, L129, k129, n129⟩, -, X129, ⟨Lc129, hQ129, l129, y129, z129⟩, st129⟩ := Jvm.LawKit.callS X128 hx (y := (⟨"com/example/boxwright/boxwright/TableNamesLocalNamePinLaw", "at", "(Ljava/lang/String;[CIII)Z"⟩ : MethodName)) hown (mvT hZ (hw _ (List.mem_of_getElem? (i := 92) rfl))) (mvT hZ (hw _ (List.mem_of_getElem? (i := 93) rfl))) (mvT hZ (hw _ (List.mem_of_getElem? (i := 2) rfl))) (mvT hZ (hw _ (List.mem_of_getElem? (i := 94) rfl))) (by decide) (backOf (W := 0) (own_rat4 l Z a0 hw [] b122 b110 o_COMPACT_STRINGS o_SIOOBE_FORMATTER t122 kb122 ([(c105.toInt8.toInt32), (c106.toInt8.toInt32), (c107.toInt8.toInt32), (c108.toInt8.toInt32)].drop s') (4 - s') s' k110 c105 c106 c107 c108 c109 T122.heap n0 (Nat.le_trans Z0 Kp.1) O S_o_COMPACT_STRINGS S_o_SIOOBE_FORMATTER Ex_b122 Fv122 Fc122 Vt122 V_b110 nz_o_COMPACT_STRINGS r_o_SIOOBE_FORMATTER (by omega) hrel) hZ (hw _ (List.mem_of_getElem? (i := 94) rfl)) (hw _ (List.mem_of_getElem? (i := 2) rfl)) (by decide) (by decide)) (g := (mkF m 221 #[iv p1, iv p2, iv p3, iv p4, iv p5, iv p6, iv (4 : Int32), iv c105, iv c106, iv c107, iv c108, iv c109, rv b110, rv b121, rv b122, iv (own_la [c105, c106, c107, c108, c109] (35 : Int32) 4), iv (own_cut [(c105.toInt8.toInt32), (c106.toInt8.toInt32), (c107.toInt8.toInt32), (c108.toInt8.toInt32)] 4), iv (Int32.ofNat s'), iv (Int32.ofNat (4 - s'))] [(.int (4 : Int32)), (.int (Int32.ofNat (4 - s'))), (.int (Int32.ofNat s')), (.ref b110), (.ref b122)])) rfl (by rw [hml]; rfl) (argsL := [(.ref b122), (.ref b110), (.int (Int32.ofNat s')), (.int (Int32.ofNat (4 - s'))), (.int (4 : Int32))]) (rest := []) (lenOf own_pd__Ljava_lang_String__CIII_Z rfl) rfl (by show 2 * 0 + _ ≤ _; exact Nat.le_of_eq rfl) (hb hby at_221) (fun _ _ => ⟨rfl, e128, (by decide : 6 + 0 ≤ _), (by decide : 26 + 0 ≤ _)⟩)
              dsimp only [Pt.U, Pt.locs, Pt.cells, Pt.slots] at X129 l129 y129 z129 st129 hQ129
              subst l129 y129 z129
              obtain ⟨rfl, Nq129, e129⟩ := hQ129
              have N129 := Fr.app N128 Nq129
              refine own_goW st129 ?_
              show own_GoW p e below s _ _ _ _ (T129.setTop (mkF m 224 #[iv p1, iv p2, iv p3, iv p4, iv p5, iv p6, iv (4 : Int32), iv c105, iv c106, iv c107, iv c108, iv c109, rv b110, rv b121, rv b122, iv (own_la [c105, c106, c107, c108, c109] (35 : Int32) 4), iv (own_cut [(c105.toInt8.toInt32), (c106.toInt8.toInt32), (c107.toInt8.toInt32), (c108.toInt8.toInt32)] 4), iv (Int32.ofNat s'), iv (Int32.ofNat (4 - s'))] [(.int (1 : Int32))]))
              refine own_goW (fun zt zk => (XS.ifNo X129.here hx rfl (hb hby at_224) rfl ((if0 _ _).trans (feq ((by decide) : ¬ ((1 : Int32) = (0 : Int32)))).1) (XS.iconst X129.here hx rfl (hb hby at_227) (XS.goto X129.here hx rfl (pc0 := 228) (pc' := 232) rfl (hb hby at_228) (by decide) (by decide) zk)))) ?_
              show own_GoW p e below s _ _ _ _ (T129.setTop (mkF m 232 #[iv p1, iv p2, iv p3, iv p4, iv p5, iv p6, iv (4 : Int32), iv c105, iv c106, iv c107, iv c108, iv c109, rv b110, rv b121, rv b122, iv (own_la [c105, c106, c107, c108, c109] (35 : Int32) 4), iv (own_cut [(c105.toInt8.toInt32), (c106.toInt8.toInt32), (c107.toInt8.toInt32), (c108.toInt8.toInt32)] 4), iv (Int32.ofNat s'), iv (Int32.ofNat (4 - s'))] [(.int (1 : Int32))]))
              have Re := Rc.trans (CHv.at X129 hZ hEL Rc.1)
              exact own_finW X129 hS (by rw [e129]; exact hk) (by rw [e129, hh]; exact Re) Bd.notSynchronized (fun h => by rw [Bd.returns] at h; cases h) (fun fs hr => retN X129 hx (t := .boolean) Bd.returns (by simp) (hb hby at_232) hr) (by rw [e129]; exact ⟨rfl, N129⟩) (by decide) (by decide)
            · intro tail
              show own_GoW p e below s _ _ _ _ (T123.setTop (mkF m 108 #[iv p1, iv p2, iv p3, iv p4, iv p5, iv p6, iv (4 : Int32), iv c105, iv c106, iv c107, iv c108, iv c109, rv b110, rv b121, rv b122, iv (own_la [c105, c106, c107, c108, c109] (35 : Int32) 4), .unset, .unset, .unset] [(.int (own_la [c105, c106, c107, c108, c109] (35 : Int32) 4))]))
              by_cases hB : (own_la [c105, c106, c107, c108, c109] (35 : Int32) 4) < (0 : Int32)
              · refine own_goW (fun zt zk => (XS.ifYes X123.here hx rfl (pc0 := 108) (pc' := 116) rfl (hb hby at_108) rfl ((if0 _ _).trans (tlt (hB : (own_la [c105, c106, c107, c108, c109] (35 : Int32) 4) < (0 : Int32))).1) (by decide) (by decide) (XS.aload X123.here hx rfl (hb hby at_116) rfl rfl (XS.iload X123.here hx rfl (hb hby at_118) rfl (XS.bipush X123.here hx rfl (hb hby at_120) zk))))) ?_
                show own_GoW p e below s _ _ _ _ (T123.setTop (mkF m 122 #[iv p1, iv p2, iv p3, iv p4, iv p5, iv p6, iv (4 : Int32), iv c105, iv c106, iv c107, iv c108, iv c109, rv b110, rv b121, rv b122, iv (own_la [c105, c106, c107, c108, c109] (35 : Int32) 4), .unset, .unset, .unset] [(.int (47 : Int32)), (.int (4 : Int32)), (.ref b110)]))
                obtain ⟨_, _, ⟨T130, L130, k130, n130⟩, -, X130, ⟨Lc130, hQ130, l130, y130, z130⟩, st130⟩ := Jvm.LawKit.callS X123 hx (y := (⟨"com/example/boxwright/boxwright/TableNamesLocalNamePinLaw", "last", "([CIC)I"⟩ : MethodName)) hown (mvT hZ (hw _ (List.mem_of_getElem? (i := 88) rfl))) (mvT hZ (hw _ (List.mem_of_getElem? (i := 89) rfl))) (mvT hZ (hw _ (List.mem_of_getElem? (i := 2) rfl))) (mvT hZ (hw _ (List.mem_of_getElem? (i := 90) rfl))) (by decide) (backOf (W := 0) (own_rlast4 l Z a0 hw [] b110 (47 : Int32) k110 c105 c106 c107 c108 c109 T122.heap n0 (Nat.le_trans Z0 Kp.1) V_b110) hZ (hw _ (List.mem_of_getElem? (i := 90) rfl)) (hw _ (List.mem_of_getElem? (i := 2) rfl)) (by decide) (by decide)) (g := (mkF m 122 #[iv p1, iv p2, iv p3, iv p4, iv p5, iv p6, iv (4 : Int32), iv c105, iv c106, iv c107, iv c108, iv c109, rv b110, rv b121, rv b122, iv (own_la [c105, c106, c107, c108, c109] (35 : Int32) 4), .unset, .unset, .unset] [(.int (47 : Int32)), (.int (4 : Int32)), (.ref b110)])) rfl (by rw [hml]; rfl) (argsL := [(.ref b110), (.int (4 : Int32)), (.int (47 : Int32))]) (rest := []) (lenOf own_pd___CIC_I rfl) rfl (by show 2 * 0 + _ ≤ _; exact Nat.le_of_eq rfl) (hb hby at_122) (fun _ _ => ⟨rfl, e123, (by decide : 6 + 0 ≤ _), (by decide : 26 + 0 ≤ _)⟩)
                dsimp only [Pt.U, Pt.locs, Pt.cells, Pt.slots] at X130 l130 y130 z130 st130 hQ130
                subst l130 y130 z130
                obtain ⟨rfl, Nq130, e130⟩ := hQ130
                have N130 := Fr.app N123 Nq130
                refine own_goW st130 ?_
                show own_GoW p e below s _ _ _ _ (T130.setTop (mkF m 125 #[iv p1, iv p2, iv p3, iv p4, iv p5, iv p6, iv (4 : Int32), iv c105, iv c106, iv c107, iv c108, iv c109, rv b110, rv b121, rv b122, iv (own_la [c105, c106, c107, c108, c109] (35 : Int32) 4), .unset, .unset, .unset] [(.int (own_la [c105, c106, c107, c108, c109] (47 : Int32) 4))]))
                exact tail _ _ _ X130 e130 N130 (by unfold own_cut; rw [el35, el47, if_pos hB])
              · refine own_goW (fun zt zk => (XS.ifNo X123.here hx rfl (hb hby at_108) rfl ((if0 _ _).trans (flt (hB : ¬ ((own_la [c105, c106, c107, c108, c109] (35 : Int32) 4) < (0 : Int32)))).1) (XS.iload X123.here hx rfl (hb hby at_111) rfl (XS.goto X123.here hx rfl (pc0 := 113) (pc' := 125) rfl (hb hby at_113) (by decide) (by decide) zk)))) ?_
                show own_GoW p e below s _ _ _ _ (T123.setTop (mkF m 125 #[iv p1, iv p2, iv p3, iv p4, iv p5, iv p6, iv (4 : Int32), iv c105, iv c106, iv c107, iv c108, iv c109, rv b110, rv b121, rv b122, iv (own_la [c105, c106, c107, c108, c109] (35 : Int32) 4), .unset, .unset, .unset] [(.int (own_la [c105, c106, c107, c108, c109] (35 : Int32) 4))]))
                exact tail _ _ _ X123 e123 N123 (by unfold own_cut; rw [el35, if_neg hB])
          · refine own_goW (fun zt zk => (XS.iloadN X0.here hx rfl (hb hby at_9) rfl zk)) ?_
            show own_GoW p e below s _ _ _ _ (s₁.setTop (mkF m 10 #[iv p1, iv p2, iv p3, iv p4, iv p5, iv p6, iv k, .unset, .unset, .unset, .unset, .unset, .unset, .unset, .unset, .unset, .unset, .unset, .unset] [(.int p2)]))
            obtain ⟨_, _, ⟨T131, L131, k131, n131⟩, -, X131, ⟨Lc131, hQ131, l131, y131, z131⟩, st131⟩ := Jvm.LawKit.callS X0 hx (y := (⟨"com/example/boxwright/boxwright/TableNamesLocalNamePinLaw", "pick", "(I)C"⟩ : MethodName)) hown (mvT hZ (hw _ (List.mem_of_getElem? (i := 0) rfl))) (mvT hZ (hw _ (List.mem_of_getElem? (i := 1) rfl))) (mvT hZ (hw _ (List.mem_of_getElem? (i := 2) rfl))) (mvT hZ (hw _ (List.mem_of_getElem? (i := 3) rfl))) (by decide) (backOf (W := 0) (own_rpick l Z a0 hw [] p2  h0 n0 Z0 ) hZ (hw _ (List.mem_of_getElem? (i := 3) rfl)) (hw _ (List.mem_of_getElem? (i := 2) rfl)) (by decide) (by decide)) (g := (mkF m 10 #[iv p1, iv p2, iv p3, iv p4, iv p5, iv p6, iv k, .unset, .unset, .unset, .unset, .unset, .unset, .unset, .unset, .unset, .unset, .unset, .unset] [(.int p2)])) rfl (by rw [hml]; rfl) (argsL := [(.int p2)]) (rest := []) (lenOf own_pd__I_C rfl) rfl (by show 2 * 0 + _ ≤ _; exact Nat.le_of_eq rfl) (hb hby at_10) (fun _ _ => ⟨rfl, e0, (by decide : 0 + 0 ≤ _), (by decide : 0 + 0 ≤ _)⟩)
            dsimp only [Pt.U, Pt.locs, Pt.cells, Pt.slots] at X131 l131 y131 z131 st131 hQ131
            subst l131 y131 z131
            obtain ⟨c131, rfl, Nq131, e131, hr_c131⟩ := hQ131
            have N131 := Fr.app N0 Nq131
            refine own_goW st131 ?_
            show own_GoW p e below s _ _ _ _ (T131.setTop (mkF m 13 #[iv p1, iv p2, iv p3, iv p4, iv p5, iv p6, iv k, .unset, .unset, .unset, .unset, .unset, .unset, .unset, .unset, .unset, .unset, .unset, .unset] [(.int c131)]))
            refine own_goW (fun zt zk => (XS.istore X131.here hx rfl (hb hby at_13) rfl (l' := #[iv p1, iv p2, iv p3, iv p4, iv p5, iv p6, iv k, iv c131, .unset, .unset, .unset, .unset, .unset, .unset, .unset, .unset, .unset, .unset, .unset]) rfl (XS.iloadN X131.here hx rfl (hb hby at_15) rfl zk))) ?_
            show own_GoW p e below s _ _ _ _ (T131.setTop (mkF m 16 #[iv p1, iv p2, iv p3, iv p4, iv p5, iv p6, iv k, iv c131, .unset, .unset, .unset, .unset, .unset, .unset, .unset, .unset, .unset, .unset, .unset] [(.int p3)]))
            obtain ⟨_, _, ⟨T132, L132, k132, n132⟩, -, X132, ⟨Lc132, hQ132, l132, y132, z132⟩, st132⟩ := Jvm.LawKit.callS X131 hx (y := (⟨"com/example/boxwright/boxwright/TableNamesLocalNamePinLaw", "pick", "(I)C"⟩ : MethodName)) hown (mvT hZ (hw _ (List.mem_of_getElem? (i := 0) rfl))) (mvT hZ (hw _ (List.mem_of_getElem? (i := 1) rfl))) (mvT hZ (hw _ (List.mem_of_getElem? (i := 2) rfl))) (mvT hZ (hw _ (List.mem_of_getElem? (i := 3) rfl))) (by decide) (backOf (W := 0) (own_rpick l Z a0 hw [] p3  h0 n0 Z0 ) hZ (hw _ (List.mem_of_getElem? (i := 3) rfl)) (hw _ (List.mem_of_getElem? (i := 2) rfl)) (by decide) (by decide)) (g := (mkF m 16 #[iv p1, iv p2, iv p3, iv p4, iv p5, iv p6, iv k, iv c131, .unset, .unset, .unset, .unset, .unset, .unset, .unset, .unset, .unset, .unset, .unset] [(.int p3)])) rfl (by rw [hml]; rfl) (argsL := [(.int p3)]) (rest := []) (lenOf own_pd__I_C rfl) rfl (by show 2 * 0 + _ ≤ _; exact Nat.le_of_eq rfl) (hb hby at_16) (fun _ _ => ⟨rfl, e131, (by decide : 0 + 0 ≤ _), (by decide : 0 + 0 ≤ _)⟩)
            dsimp only [Pt.U, Pt.locs, Pt.cells, Pt.slots] at X132 l132 y132 z132 st132 hQ132
            subst l132 y132 z132
            obtain ⟨c132, rfl, Nq132, e132, hr_c132⟩ := hQ132
            have N132 := Fr.app N131 Nq132
            refine own_goW st132 ?_
            show own_GoW p e below s _ _ _ _ (T132.setTop (mkF m 19 #[iv p1, iv p2, iv p3, iv p4, iv p5, iv p6, iv k, iv c131, .unset, .unset, .unset, .unset, .unset, .unset, .unset, .unset, .unset, .unset, .unset] [(.int c132)]))
            refine own_goW (fun zt zk => (XS.istore X132.here hx rfl (hb hby at_19) rfl (l' := #[iv p1, iv p2, iv p3, iv p4, iv p5, iv p6, iv k, iv c131, iv c132, .unset, .unset, .unset, .unset, .unset, .unset, .unset, .unset, .unset, .unset]) rfl (XS.iloadN X132.here hx rfl (hb hby at_21) rfl zk))) ?_
            show own_GoW p e below s _ _ _ _ (T132.setTop (mkF m 22 #[iv p1, iv p2, iv p3, iv p4, iv p5, iv p6, iv k, iv c131, iv c132, .unset, .unset, .unset, .unset, .unset, .unset, .unset, .unset, .unset, .unset] [(.int p4)]))
            obtain ⟨_, _, ⟨T133, L133, k133, n133⟩, -, X133, ⟨Lc133, hQ133, l133, y133, z133⟩, st133⟩ := Jvm.LawKit.callS X132 hx (y := (⟨"com/example/boxwright/boxwright/TableNamesLocalNamePinLaw", "pick", "(I)C"⟩ : MethodName)) hown (mvT hZ (hw _ (List.mem_of_getElem? (i := 0) rfl))) (mvT hZ (hw _ (List.mem_of_getElem? (i := 1) rfl))) (mvT hZ (hw _ (List.mem_of_getElem? (i := 2) rfl))) (mvT hZ (hw _ (List.mem_of_getElem? (i := 3) rfl))) (by decide) (backOf (W := 0) (own_rpick l Z a0 hw [] p4  h0 n0 Z0 ) hZ (hw _ (List.mem_of_getElem? (i := 3) rfl)) (hw _ (List.mem_of_getElem? (i := 2) rfl)) (by decide) (by decide)) (g := (mkF m 22 #[iv p1, iv p2, iv p3, iv p4, iv p5, iv p6, iv k, iv c131, iv c132, .unset, .unset, .unset, .unset, .unset, .unset, .unset, .unset, .unset, .unset] [(.int p4)])) rfl (by rw [hml]; rfl) (argsL := [(.int p4)]) (rest := []) (lenOf own_pd__I_C rfl) rfl (by show 2 * 0 + _ ≤ _; exact Nat.le_of_eq rfl) (hb hby at_22) (fun _ _ => ⟨rfl, e132, (by decide : 0 + 0 ≤ _), (by decide : 0 + 0 ≤ _)⟩)
            dsimp only [Pt.U, Pt.locs, Pt.cells, Pt.slots] at X133 l133 y133 z133 st133 hQ133
            subst l133 y133 z133
            obtain ⟨c133, rfl, Nq133, e133, hr_c133⟩ := hQ133
            have N133 := Fr.app N132 Nq133
            refine own_goW st133 ?_
            show own_GoW p e below s _ _ _ _ (T133.setTop (mkF m 25 #[iv p1, iv p2, iv p3, iv p4, iv p5, iv p6, iv k, iv c131, iv c132, .unset, .unset, .unset, .unset, .unset, .unset, .unset, .unset, .unset, .unset] [(.int c133)]))
            refine own_goW (fun zt zk => (XS.istore X133.here hx rfl (hb hby at_25) rfl (l' := #[iv p1, iv p2, iv p3, iv p4, iv p5, iv p6, iv k, iv c131, iv c132, iv c133, .unset, .unset, .unset, .unset, .unset, .unset, .unset, .unset, .unset]) rfl (XS.iload X133.here hx rfl (hb hby at_27) rfl zk))) ?_
            show own_GoW p e below s _ _ _ _ (T133.setTop (mkF m 29 #[iv p1, iv p2, iv p3, iv p4, iv p5, iv p6, iv k, iv c131, iv c132, iv c133, .unset, .unset, .unset, .unset, .unset, .unset, .unset, .unset, .unset] [(.int p5)]))
            obtain ⟨_, _, ⟨T134, L134, k134, n134⟩, -, X134, ⟨Lc134, hQ134, l134, y134, z134⟩, st134⟩ := Jvm.LawKit.callS X133 hx (y := (⟨"com/example/boxwright/boxwright/TableNamesLocalNamePinLaw", "pick", "(I)C"⟩ : MethodName)) hown (mvT hZ (hw _ (List.mem_of_getElem? (i := 0) rfl))) (mvT hZ (hw _ (List.mem_of_getElem? (i := 1) rfl))) (mvT hZ (hw _ (List.mem_of_getElem? (i := 2) rfl))) (mvT hZ (hw _ (List.mem_of_getElem? (i := 3) rfl))) (by decide) (backOf (W := 0) (own_rpick l Z a0 hw [] p5  h0 n0 Z0 ) hZ (hw _ (List.mem_of_getElem? (i := 3) rfl)) (hw _ (List.mem_of_getElem? (i := 2) rfl)) (by decide) (by decide)) (g := (mkF m 29 #[iv p1, iv p2, iv p3, iv p4, iv p5, iv p6, iv k, iv c131, iv c132, iv c133, .unset, .unset, .unset, .unset, .unset, .unset, .unset, .unset, .unset] [(.int p5)])) rfl (by rw [hml]; rfl) (argsL := [(.int p5)]) (rest := []) (lenOf own_pd__I_C rfl) rfl (by show 2 * 0 + _ ≤ _; exact Nat.le_of_eq rfl) (hb hby at_29) (fun _ _ => ⟨rfl, e133, (by decide : 0 + 0 ≤ _), (by decide : 0 + 0 ≤ _)⟩)
            dsimp only [Pt.U, Pt.locs, Pt.cells, Pt.slots] at X134 l134 y134 z134 st134 hQ134
            subst l134 y134 z134
            obtain ⟨c134, rfl, Nq134, e134, hr_c134⟩ := hQ134
            have N134 := Fr.app N133 Nq134
            refine own_goW st134 ?_
            show own_GoW p e below s _ _ _ _ (T134.setTop (mkF m 32 #[iv p1, iv p2, iv p3, iv p4, iv p5, iv p6, iv k, iv c131, iv c132, iv c133, .unset, .unset, .unset, .unset, .unset, .unset, .unset, .unset, .unset] [(.int c134)]))
            refine own_goW (fun zt zk => (XS.istore X134.here hx rfl (hb hby at_32) rfl (l' := #[iv p1, iv p2, iv p3, iv p4, iv p5, iv p6, iv k, iv c131, iv c132, iv c133, iv c134, .unset, .unset, .unset, .unset, .unset, .unset, .unset, .unset]) rfl (XS.iload X134.here hx rfl (hb hby at_34) rfl zk))) ?_
            show own_GoW p e below s _ _ _ _ (T134.setTop (mkF m 36 #[iv p1, iv p2, iv p3, iv p4, iv p5, iv p6, iv k, iv c131, iv c132, iv c133, iv c134, .unset, .unset, .unset, .unset, .unset, .unset, .unset, .unset] [(.int p6)]))
            obtain ⟨_, _, ⟨T135, L135, k135, n135⟩, -, X135, ⟨Lc135, hQ135, l135, y135, z135⟩, st135⟩ := Jvm.LawKit.callS X134 hx (y := (⟨"com/example/boxwright/boxwright/TableNamesLocalNamePinLaw", "pick", "(I)C"⟩ : MethodName)) hown (mvT hZ (hw _ (List.mem_of_getElem? (i := 0) rfl))) (mvT hZ (hw _ (List.mem_of_getElem? (i := 1) rfl))) (mvT hZ (hw _ (List.mem_of_getElem? (i := 2) rfl))) (mvT hZ (hw _ (List.mem_of_getElem? (i := 3) rfl))) (by decide) (backOf (W := 0) (own_rpick l Z a0 hw [] p6  h0 n0 Z0 ) hZ (hw _ (List.mem_of_getElem? (i := 3) rfl)) (hw _ (List.mem_of_getElem? (i := 2) rfl)) (by decide) (by decide)) (g := (mkF m 36 #[iv p1, iv p2, iv p3, iv p4, iv p5, iv p6, iv k, iv c131, iv c132, iv c133, iv c134, .unset, .unset, .unset, .unset, .unset, .unset, .unset, .unset] [(.int p6)])) rfl (by rw [hml]; rfl) (argsL := [(.int p6)]) (rest := []) (lenOf own_pd__I_C rfl) rfl (by show 2 * 0 + _ ≤ _; exact Nat.le_of_eq rfl) (hb hby at_36) (fun _ _ => ⟨rfl, e134, (by decide : 0 + 0 ≤ _), (by decide : 0 + 0 ≤ _)⟩)
            dsimp only [Pt.U, Pt.locs, Pt.cells, Pt.slots] at X135 l135 y135 z135 st135 hQ135
            subst l135 y135 z135
            obtain ⟨c135, rfl, Nq135, e135, hr_c135⟩ := hQ135
            have N135 := Fr.app N134 Nq135
            refine own_goW st135 ?_
            show own_GoW p e below s _ _ _ _ (T135.setTop (mkF m 39 #[iv p1, iv p2, iv p3, iv p4, iv p5, iv p6, iv k, iv c131, iv c132, iv c133, iv c134, .unset, .unset, .unset, .unset, .unset, .unset, .unset, .unset] [(.int c135)]))
            refine own_goW (fun zt zk => (XS.istore X135.here hx rfl (hb hby at_39) rfl (l' := #[iv p1, iv p2, iv p3, iv p4, iv p5, iv p6, iv k, iv c131, iv c132, iv c133, iv c134, iv c135, .unset, .unset, .unset, .unset, .unset, .unset, .unset]) rfl (XS.iconst X135.here hx rfl (hb hby at_41) zk))) ?_
            show own_GoW p e below s _ _ _ _ (T135.setTop (mkF m 42 #[iv p1, iv p2, iv p3, iv p4, iv p5, iv p6, iv k, iv c131, iv c132, iv c133, iv c134, iv c135, .unset, .unset, .unset, .unset, .unset, .unset, .unset] [(.int (5 : Int32))]))
            obtain ⟨T136, h136, k136, X136, e136, E136, A136, Ea136, st136⟩ := newPE X135 hx hZ (hw _ (List.mem_of_getElem? (i := 4) rfl)) e135 (g := (mkF m 42 #[iv p1, iv p2, iv p3, iv p4, iv p5, iv p6, iv k, iv c131, iv c132, iv c133, iv c134, iv c135, .unset, .unset, .unset, .unset, .unset, .unset, .unset] [(.int (5 : Int32))])) rfl (hb hby at_42) rfl (by decide) (cap := 5) (by decide) (by decide) (by decide) (by decide) (ad := "[C") (by decide)
            obtain ⟨b136, g136⟩ : ∃ z, z = h0.size := ⟨_, rfl⟩
            rw [← g136] at A136 Ea136 st136
            refine own_goW st136 ?_
            have sz_b136 : h0.size ≤ b136 := Nat.le_trans Kp.1 (Nat.le_of_eq g136.symm)
            have g_b136 : n0 ≤ b136 := Nat.le_trans Z0 sz_b136
            have Sf_b136 : Safe Z own_EL s.vm h0 b136 := Safe.new (Nat.le_of_eq g136.symm)
            replace O := O.ext E136
            replace Kp := Kp.ext E136
            replace Sf_b136 := Safe.ext E136 Rc.1 Sf_b136
            replace Rc := Rc.trans (CHr.ext E136 Rc.1)
            replace hk := Nat.le_trans hk E136.1
            have V_b136 : Arv Z h136 b136 k136 .char (5 : Int32) [(.int (0 : Int32)), (.int (0 : Int32)), (.int (0 : Int32)), (.int (0 : Int32)), (.int (0 : Int32))] (.int (0 : Int32)) := (Arv.new A136 (by decide)).pad (pad_rep [] (.int (0 : Int32)) 5)
            have Ea_b136 := Ea136
            show own_GoW p e below s _ _ _ _ (T136.setTop (mkF m 44 #[iv p1, iv p2, iv p3, iv p4, iv p5, iv p6, iv k, iv c131, iv c132, iv c133, iv c134, iv c135, .unset, .unset, .unset, .unset, .unset, .unset, .unset] [(.ref b136)]))
            refine own_goW (fun zt zk => (XS.dup X136.here hx rfl (hb hby at_44) rfl rfl (XS.iconst X136.here hx rfl (hb hby at_45) (XS.iload X136.here hx rfl (hb hby at_46) rfl zk)))) ?_
            show own_GoW p e below s _ _ _ _ (T136.setTop (mkF m 48 #[iv p1, iv p2, iv p3, iv p4, iv p5, iv p6, iv k, iv c131, iv c132, iv c133, iv c134, iv c135, .unset, .unset, .unset, .unset, .unset, .unset, .unset] [(.int c131), (.int (0 : Int32)), (.ref b136), (.ref b136)]))
            obtain ⟨cl137, Ar137, q137, Sz137, Nz137, Ha137, Ga137⟩ := id V_b136
            have hin137 : ¬ ((0 : Int32) < 0 ∨ cl137.slots.size ≤ ((0 : Int32)).toNatClampNeg) := inb_of Sz137 ⟨by decide, by decide⟩
            obtain ⟨T138, h138, X138, e138, W138, st138⟩ := stC X136 hx hZ e136 Ar137 (j := (0 : Int32)) hin137 (g := (mkF m 48 #[iv p1, iv p2, iv p3, iv p4, iv p5, iv p6, iv k, iv c131, iv c132, iv c133, iv c134, iv c135, .unset, .unset, .unset, .unset, .unset, .unset, .unset] [(.int c131), (.int (0 : Int32)), (.ref b136), (.ref b136)])) rfl rfl (hb hby at_48)
            refine own_goW st138 ?_
            rw [show nar .char c131 = c131 from own_narc hr_c131] at W138
            have V138 := Arv.set Ar137 q137 Sz137 Nz137 Ha137 Ga137 (own_fitc hr_c131) W138 0 rfl (Nat.le_of_ble_eq_true rfl)
            have N138 := Fr.snoc X138 N135 g_b136
            have Sf_b136' := Safe.wr W138 Sf_b136 Rc.1 Sf_b136
            replace Rc := Rc.trans (CHr.wr W138 Sf_b136 Rc.1)
            replace hk := Nat.le_trans hk (Keep.of_wr W138).1
            replace Sf_b136 := Sf_b136'
            replace O := O.wr W138 g_b136
            replace Kp := Kp.wr W138 (Or.inr sz_b136)
            replace Ea_b136 := Ea_b136.wr W138
            replace V_b136 : Arv Z h138 b136 k136 .char (5 : Int32) [(.int c131), (.int (0 : Int32)), (.int (0 : Int32)), (.int (0 : Int32)), (.int (0 : Int32))] (.int (0 : Int32)) := V138
            show own_GoW p e below s _ _ _ _ (T138.setTop (mkF m 49 #[iv p1, iv p2, iv p3, iv p4, iv p5, iv p6, iv k, iv c131, iv c132, iv c133, iv c134, iv c135, .unset, .unset, .unset, .unset, .unset, .unset, .unset] [(.ref b136)]))
            refine own_goW (fun zt zk => (XS.dup X138.here hx rfl (hb hby at_49) rfl rfl (XS.iconst X138.here hx rfl (hb hby at_50) (XS.iload X138.here hx rfl (hb hby at_51) rfl zk)))) ?_
            show own_GoW p e below s _ _ _ _ (T138.setTop (mkF m 53 #[iv p1, iv p2, iv p3, iv p4, iv p5, iv p6, iv k, iv c131, iv c132, iv c133, iv c134, iv c135, .unset, .unset, .unset, .unset, .unset, .unset, .unset] [(.int c132), (.int (1 : Int32)), (.ref b136), (.ref b136)]))
            obtain ⟨cl139, Ar139, q139, Sz139, Nz139, Ha139, Ga139⟩ := id V_b136
            have hin139 : ¬ ((1 : Int32) < 0 ∨ cl139.slots.size ≤ ((1 : Int32)).toNatClampNeg) := inb_of Sz139 ⟨by decide, by decide⟩
            obtain ⟨T140, h140, X140, e140, W140, st140⟩ := stC X138 hx hZ e138 Ar139 (j := (1 : Int32)) hin139 (g := (mkF m 53 #[iv p1, iv p2, iv p3, iv p4, iv p5, iv p6, iv k, iv c131, iv c132, iv c133, iv c134, iv c135, .unset, .unset, .unset, .unset, .unset, .unset, .unset] [(.int c132), (.int (1 : Int32)), (.ref b136), (.ref b136)])) rfl rfl (hb hby at_53)
            refine own_goW st140 ?_
            rw [show nar .char c132 = c132 from own_narc hr_c132] at W140
            have V140 := Arv.set Ar139 q139 Sz139 Nz139 Ha139 Ga139 (own_fitc hr_c132) W140 1 rfl (Nat.le_of_ble_eq_true rfl)
            have N140 := Fr.snoc X140 N138 g_b136
            have Sf_b136' := Safe.wr W140 Sf_b136 Rc.1 Sf_b136
            replace Rc := Rc.trans (CHr.wr W140 Sf_b136 Rc.1)
            replace hk := Nat.le_trans hk (Keep.of_wr W140).1
            replace Sf_b136 := Sf_b136'
            replace O := O.wr W140 g_b136
            replace Kp := Kp.wr W140 (Or.inr sz_b136)
            replace Ea_b136 := Ea_b136.wr W140
            replace V_b136 : Arv Z h140 b136 k136 .char (5 : Int32) [(.int c131), (.int c132), (.int (0 : Int32)), (.int (0 : Int32)), (.int (0 : Int32))] (.int (0 : Int32)) := V140
            show own_GoW p e below s _ _ _ _ (T140.setTop (mkF m 54 #[iv p1, iv p2, iv p3, iv p4, iv p5, iv p6, iv k, iv c131, iv c132, iv c133, iv c134, iv c135, .unset, .unset, .unset, .unset, .unset, .unset, .unset] [(.ref b136)]))
            refine own_goW (fun zt zk => (XS.dup X140.here hx rfl (hb hby at_54) rfl rfl (XS.iconst X140.here hx rfl (hb hby at_55) (XS.iload X140.here hx rfl (hb hby at_56) rfl zk)))) ?_
            show own_GoW p e below s _ _ _ _ (T140.setTop (mkF m 58 #[iv p1, iv p2, iv p3, iv p4, iv p5, iv p6, iv k, iv c131, iv c132, iv c133, iv c134, iv c135, .unset, .unset, .unset, .unset, .unset, .unset, .unset] [(.int c133), (.int (2 : Int32)), (.ref b136), (.ref b136)]))
            obtain ⟨cl141, Ar141, q141, Sz141, Nz141, Ha141, Ga141⟩ := id V_b136
            have hin141 : ¬ ((2 : Int32) < 0 ∨ cl141.slots.size ≤ ((2 : Int32)).toNatClampNeg) := inb_of Sz141 ⟨by decide, by decide⟩
            obtain ⟨T142, h142, X142, e142, W142, st142⟩ := stC X140 hx hZ e140 Ar141 (j := (2 : Int32)) hin141 (g := (mkF m 58 #[iv p1, iv p2, iv p3, iv p4, iv p5, iv p6, iv k, iv c131, iv c132, iv c133, iv c134, iv c135, .unset, .unset, .unset, .unset, .unset, .unset, .unset] [(.int c133), (.int (2 : Int32)), (.ref b136), (.ref b136)])) rfl rfl (hb hby at_58)
            refine own_goW st142 ?_
            rw [show nar .char c133 = c133 from own_narc hr_c133] at W142
            have V142 := Arv.set Ar141 q141 Sz141 Nz141 Ha141 Ga141 (own_fitc hr_c133) W142 2 rfl (Nat.le_of_ble_eq_true rfl)
            have N142 := Fr.snoc X142 N140 g_b136
            have Sf_b136' := Safe.wr W142 Sf_b136 Rc.1 Sf_b136
            replace Rc := Rc.trans (CHr.wr W142 Sf_b136 Rc.1)
            replace hk := Nat.le_trans hk (Keep.of_wr W142).1
            replace Sf_b136 := Sf_b136'
            replace O := O.wr W142 g_b136
            replace Kp := Kp.wr W142 (Or.inr sz_b136)
            replace Ea_b136 := Ea_b136.wr W142
            replace V_b136 : Arv Z h142 b136 k136 .char (5 : Int32) [(.int c131), (.int c132), (.int c133), (.int (0 : Int32)), (.int (0 : Int32))] (.int (0 : Int32)) := V142
            show own_GoW p e below s _ _ _ _ (T142.setTop (mkF m 59 #[iv p1, iv p2, iv p3, iv p4, iv p5, iv p6, iv k, iv c131, iv c132, iv c133, iv c134, iv c135, .unset, .unset, .unset, .unset, .unset, .unset, .unset] [(.ref b136)]))
            refine own_goW (fun zt zk => (XS.dup X142.here hx rfl (hb hby at_59) rfl rfl (XS.iconst X142.here hx rfl (hb hby at_60) (XS.iload X142.here hx rfl (hb hby at_61) rfl zk)))) ?_
            show own_GoW p e below s _ _ _ _ (T142.setTop (mkF m 63 #[iv p1, iv p2, iv p3, iv p4, iv p5, iv p6, iv k, iv c131, iv c132, iv c133, iv c134, iv c135, .unset, .unset, .unset, .unset, .unset, .unset, .unset] [(.int c134), (.int (3 : Int32)), (.ref b136), (.ref b136)]))
            obtain ⟨cl143, Ar143, q143, Sz143, Nz143, Ha143, Ga143⟩ := id V_b136
            have hin143 : ¬ ((3 : Int32) < 0 ∨ cl143.slots.size ≤ ((3 : Int32)).toNatClampNeg) := inb_of Sz143 ⟨by decide, by decide⟩
            obtain ⟨T144, h144, X144, e144, W144, st144⟩ := stC X142 hx hZ e142 Ar143 (j := (3 : Int32)) hin143 (g := (mkF m 63 #[iv p1, iv p2, iv p3, iv p4, iv p5, iv p6, iv k, iv c131, iv c132, iv c133, iv c134, iv c135, .unset, .unset, .unset, .unset, .unset, .unset, .unset] [(.int c134), (.int (3 : Int32)), (.ref b136), (.ref b136)])) rfl rfl (hb hby at_63)
            refine own_goW st144 ?_
            rw [show nar .char c134 = c134 from own_narc hr_c134] at W144
            have V144 := Arv.set Ar143 q143 Sz143 Nz143 Ha143 Ga143 (own_fitc hr_c134) W144 3 rfl (Nat.le_of_ble_eq_true rfl)
            have N144 := Fr.snoc X144 N142 g_b136
            have Sf_b136' := Safe.wr W144 Sf_b136 Rc.1 Sf_b136
            replace Rc := Rc.trans (CHr.wr W144 Sf_b136 Rc.1)
            replace hk := Nat.le_trans hk (Keep.of_wr W144).1
            replace Sf_b136 := Sf_b136'
            replace O := O.wr W144 g_b136
            replace Kp := Kp.wr W144 (Or.inr sz_b136)
            replace Ea_b136 := Ea_b136.wr W144
            replace V_b136 : Arv Z h144 b136 k136 .char (5 : Int32) [(.int c131), (.int c132), (.int c133), (.int c134), (.int (0 : Int32))] (.int (0 : Int32)) := V144
            show own_GoW p e below s _ _ _ _ (T144.setTop (mkF m 64 #[iv p1, iv p2, iv p3, iv p4, iv p5, iv p6, iv k, iv c131, iv c132, iv c133, iv c134, iv c135, .unset, .unset, .unset, .unset, .unset, .unset, .unset] [(.ref b136)]))
            refine own_goW (fun zt zk => (XS.dup X144.here hx rfl (hb hby at_64) rfl rfl (XS.iconst X144.here hx rfl (hb hby at_65) (XS.iload X144.here hx rfl (hb hby at_66) rfl zk)))) ?_
            show own_GoW p e below s _ _ _ _ (T144.setTop (mkF m 68 #[iv p1, iv p2, iv p3, iv p4, iv p5, iv p6, iv k, iv c131, iv c132, iv c133, iv c134, iv c135, .unset, .unset, .unset, .unset, .unset, .unset, .unset] [(.int c135), (.int (4 : Int32)), (.ref b136), (.ref b136)]))
            obtain ⟨cl145, Ar145, q145, Sz145, Nz145, Ha145, Ga145⟩ := id V_b136
            have hin145 : ¬ ((4 : Int32) < 0 ∨ cl145.slots.size ≤ ((4 : Int32)).toNatClampNeg) := inb_of Sz145 ⟨by decide, by decide⟩
            obtain ⟨T146, h146, X146, e146, W146, st146⟩ := stC X144 hx hZ e144 Ar145 (j := (4 : Int32)) hin145 (g := (mkF m 68 #[iv p1, iv p2, iv p3, iv p4, iv p5, iv p6, iv k, iv c131, iv c132, iv c133, iv c134, iv c135, .unset, .unset, .unset, .unset, .unset, .unset, .unset] [(.int c135), (.int (4 : Int32)), (.ref b136), (.ref b136)])) rfl rfl (hb hby at_68)
            refine own_goW st146 ?_
            rw [show nar .char c135 = c135 from own_narc hr_c135] at W146
            have V146 := Arv.set Ar145 q145 Sz145 Nz145 Ha145 Ga145 (own_fitc hr_c135) W146 4 rfl (Nat.le_of_ble_eq_true rfl)
            have N146 := Fr.snoc X146 N144 g_b136
            have Sf_b136' := Safe.wr W146 Sf_b136 Rc.1 Sf_b136
            replace Rc := Rc.trans (CHr.wr W146 Sf_b136 Rc.1)
            replace hk := Nat.le_trans hk (Keep.of_wr W146).1
            replace Sf_b136 := Sf_b136'
            replace O := O.wr W146 g_b136
            replace Kp := Kp.wr W146 (Or.inr sz_b136)
            replace Ea_b136 := Ea_b136.wr W146
            replace V_b136 : Arv Z h146 b136 k136 .char (5 : Int32) [(.int c131), (.int c132), (.int c133), (.int c134), (.int c135)] (.int (0 : Int32)) := V146
            show own_GoW p e below s _ _ _ _ (T146.setTop (mkF m 69 #[iv p1, iv p2, iv p3, iv p4, iv p5, iv p6, iv k, iv c131, iv c132, iv c133, iv c134, iv c135, .unset, .unset, .unset, .unset, .unset, .unset, .unset] [(.ref b136)]))
            refine own_goW (fun zt zk => (XS.astore X146.here hx rfl (hb hby at_69) rfl rfl (l' := #[iv p1, iv p2, iv p3, iv p4, iv p5, iv p6, iv k, iv c131, iv c132, iv c133, iv c134, iv c135, rv b136, .unset, .unset, .unset, .unset, .unset, .unset]) rfl (XS.iload X146.here hx rfl (hb hby at_71) rfl (XS.iload X146.here hx rfl (hb hby at_73) rfl (XS.iload X146.here hx rfl (hb hby at_75) rfl (XS.iload X146.here hx rfl (hb hby at_77) rfl (XS.iload X146.here hx rfl (hb hby at_79) rfl (XS.iload X146.here hx rfl (hb hby at_81) rfl zk)))))))) ?_
            show own_GoW p e below s _ _ _ _ (T146.setTop (mkF m 83 #[iv p1, iv p2, iv p3, iv p4, iv p5, iv p6, iv k, iv c131, iv c132, iv c133, iv c134, iv c135, rv b136, .unset, .unset, .unset, .unset, .unset, .unset] [(.int c135), (.int c134), (.int c133), (.int c132), (.int c131), (.int k)]))
            obtain ⟨_, _, ⟨T147, L147, k147, n147⟩, -, X147, ⟨Lc147, hQ147, l147, y147, z147⟩, st147⟩ := Jvm.LawKit.callS X146 hx (y := (⟨"com/example/boxwright/boxwright/TableNamesLocalNamePinLaw", "make", "(ICCCCC)Ljava/lang/String;"⟩ : MethodName)) hown (mvT hZ (hw _ (List.mem_of_getElem? (i := 5) rfl))) (mvT hZ (hw _ (List.mem_of_getElem? (i := 6) rfl))) (mvT hZ (hw _ (List.mem_of_getElem? (i := 2) rfl))) (mvT hZ (hw _ (List.mem_of_getElem? (i := 7) rfl))) (by decide) (backOf (W := 0) (own_rmake5 l Z a0 hw [] k c131 c132 c133 c134 c135 o_COMPACT_STRINGS h146 n0 (Nat.le_trans Z0 Kp.1) O S_o_COMPACT_STRINGS nz_o_COMPACT_STRINGS hr_c131 hr_c132 hr_c133 hr_c134 hr_c135 hk0_k hk1_k hk2_k hk3_k hk4_k) hZ (hw _ (List.mem_of_getElem? (i := 7) rfl)) (hw _ (List.mem_of_getElem? (i := 2) rfl)) (by decide) (by decide)) (g := (mkF m 83 #[iv p1, iv p2, iv p3, iv p4, iv p5, iv p6, iv k, iv c131, iv c132, iv c133, iv c134, iv c135, rv b136, .unset, .unset, .unset, .unset, .unset, .unset] [(.int c135), (.int c134), (.int c133), (.int c132), (.int c131), (.int k)])) rfl (by rw [hml]; rfl) (argsL := [(.int k), (.int c131), (.int c132), (.int c133), (.int c134), (.int c135)]) (rest := []) (lenOf own_pd__ICCCCC_Ljava_lang_String_ rfl) rfl (by show 2 * 0 + _ ≤ _; exact Nat.le_of_eq rfl) (hb hby at_83) (fun _ _ => ⟨rfl, e146, (by decide : 1 + 3 ≤ _), (by decide : 5 + 14 ≤ _)⟩)
            dsimp only [Pt.U, Pt.locs, Pt.cells, Pt.slots] at X147 l147 y147 z147 st147 hQ147
            subst l147 y147 z147
            obtain ⟨b147, t147, kb147, rfl, Nq147, K147, sb147, Ex_b147, Fv147, Fc147, Vt147⟩ := hQ147
            have N147 := Fr.app N146 Nq147
            refine own_goW st147 ?_
            have Sf_b136' := Safe.keep K147 all0 Rc.1 Sf_b136
            replace Rc := Rc.trans (CHr.keep K147 all0 Rc.1)
            replace hk := Nat.le_trans hk K147.1
            replace Sf_b136 := Sf_b136'
            replace O := O.keep K147 all0
            replace Kp := Kp.trans K147 all0
            replace V_b136 := V_b136.keep K147 nin0
            replace Ea_b136 := Ea_b136.keep K147
            show own_GoW p e below s _ _ _ _ (T147.setTop (mkF m 86 #[iv p1, iv p2, iv p3, iv p4, iv p5, iv p6, iv k, iv c131, iv c132, iv c133, iv c134, iv c135, rv b136, .unset, .unset, .unset, .unset, .unset, .unset] [(.ref b147)]))
            have hk5_k : k = (5 : Int32) := Int32.toInt_inj.mp (by have a := own_mod7 hv_k; have b0 := own_ne 0 rfl hk0_k; have b1 := own_ne 1 rfl hk1_k; have b2 := own_ne 2 rfl hk2_k; have b3 := own_ne 3 rfl hk3_k; have b4 := own_ne 4 rfl hk4_k; show k.toInt = 5; omega)
            subst hk5_k
            show own_GoW p e below s _ _ _ _ (T147.setTop (mkF m 86 #[iv p1, iv p2, iv p3, iv p4, iv p5, iv p6, iv (5 : Int32), iv c131, iv c132, iv c133, iv c134, iv c135, rv b136, .unset, .unset, .unset, .unset, .unset, .unset] [(.ref b147)]))
            obtain ⟨s', hs', hsl⟩ := own_cut1 [(c131.toInt8.toInt32), (c132.toInt8.toInt32), (c133.toInt8.toInt32), (c134.toInt8.toInt32), (c135.toInt8.toInt32)] 5 (by decide)
            have hcr : ∀ c ∈ ([c131, c132, c133, c134, c135] : List Int32), ¬ (c < (0 : Int32)) ∧ ¬ ((255 : Int32) < c) := (own_ac hr_c131 (own_ac hr_c132 (own_ac hr_c133 (own_ac hr_c134 (own_ac hr_c135 own_an)))))
            refine own_goW (fun zt zk => (XS.astore X147.here hx rfl (hb hby at_86) rfl rfl (l' := #[iv p1, iv p2, iv p3, iv p4, iv p5, iv p6, iv (5 : Int32), iv c131, iv c132, iv c133, iv c134, iv c135, rv b136, rv b147, .unset, .unset, .unset, .unset, .unset]) rfl (XS.aload X147.here hx rfl (hb hby at_88) rfl rfl zk))) ?_
            show own_GoW p e below s _ _ _ _ (T147.setTop (mkF m 90 #[iv p1, iv p2, iv p3, iv p4, iv p5, iv p6, iv (5 : Int32), iv c131, iv c132, iv c133, iv c134, iv c135, rv b136, rv b147, .unset, .unset, .unset, .unset, .unset] [(.ref b147)]))
            obtain ⟨_, _, ⟨T148, L148, k148, n148⟩, -, X148, hSq148, hgq148, ⟨Lc148, hQ148, l148, y148, z148, A148⟩, st148⟩ := callSS X147 hx (y := (⟨"com/example/boxwright/boxwright/TableNames", "localName", "(Ljava/lang/String;)Ljava/lang/String;"⟩ : MethodName)) hown (mvT hZ (hw _ (List.mem_of_getElem? (i := 29) rfl))) (mvT hZ (hw _ (List.mem_of_getElem? (i := 30) rfl))) (mvT hZ (hw _ (List.mem_of_getElem? (i := 31) rfl))) (mvT hZ (hw _ (List.mem_of_getElem? (i := 32) rfl))) (by decide) (own_backW (s := s) (W := 0) (own_rln l Z a0 hw [] b147 o_COMPACT_STRINGS o_SIOOBE_FORMATTER t147 kb147 [(c131.toInt8.toInt32), (c132.toInt8.toInt32), (c133.toInt8.toInt32), (c134.toInt8.toInt32), (c135.toInt8.toInt32)] s' s.vm T147.heap n0 (Nat.le_trans Z0 Kp.1) O S_o_COMPACT_STRINGS S_o_SIOOBE_FORMATTER Ex_b147 Fv147 Fc147 Vt147 nz_o_COMPACT_STRINGS r_o_SIOOBE_FORMATTER (Nat.le_of_ble_eq_true rfl) hsl hs') hZ (hw _ (List.mem_of_getElem? (i := 32) rfl)) (hw _ (List.mem_of_getElem? (i := 31) rfl)) (by decide) (by decide) hEL Rc.1) (g := (mkF m 90 #[iv p1, iv p2, iv p3, iv p4, iv p5, iv p6, iv (5 : Int32), iv c131, iv c132, iv c133, iv c134, iv c135, rv b136, rv b147, .unset, .unset, .unset, .unset, .unset] [(.ref b147)])) rfl (by rw [hml]; rfl) (argsL := [(.ref b147)]) (rest := []) (lenOf own_pd__Ljava_lang_String__Ljava_lang_String_ rfl) rfl (by show 2 * 0 + _ ≤ _; exact Nat.le_of_eq rfl) (hb hby at_90) (fun _ _ => ⟨rfl, rfl, (by decide : 4 + 2 ≤ _), (by decide : 19 + 9 ≤ _)⟩)
            dsimp only [Pt.U, Pt.locs, Pt.cells, Pt.slots] at X148 l148 y148 z148 st148 hQ148 hSq148 hgq148 A148
            subst l148 y148 z148
            obtain ⟨X148, hS148, hZ148, hown148⟩ := rebS hS (hk) X148 hSq148 hgq148 hZ hown
            replace Sf_b136 := CHr.safe A148 V_b136.lt Sf_b136
            replace Rc := Rc.trans A148
            replace hS := hS148
            replace hZ := hZ148
            replace hown := hown148
            have hk : T148.heap.size ≤ T148.heap.size := Nat.le_refl _
            obtain ⟨b148, t148, kb148, rfl, Nq148, K148, Ex_b148, Fv148, Fc148, Vt148⟩ := hQ148
            have N148 := Fr.app N147 Nq148
            refine own_goW (fun zt zk => st148.trans zk) ?_
            replace O := O.keep K148 all0
            replace Kp := Kp.trans K148 all0
            replace V_b136 := V_b136.keep K148 nin0
            replace Ea_b136 := Ea_b136.keep K148
            replace Ex_b147 := Ex_b147.keep K148
            replace Fv147 := Fv147.keep K148 nin0
            replace Fc147 := Fc147.keep K148 nin0
            replace Vt147 := Vt147.keep K148 nin0
            show own_GoW p e below s _ _ _ _ (T148.setTop (mkF m 93 #[iv p1, iv p2, iv p3, iv p4, iv p5, iv p6, iv (5 : Int32), iv c131, iv c132, iv c133, iv c134, iv c135, rv b136, rv b147, .unset, .unset, .unset, .unset, .unset] [(.ref b148)]))
            have el35 : own_la [(c131.toInt8.toInt32), (c132.toInt8.toInt32), (c133.toInt8.toInt32), (c134.toInt8.toInt32), (c135.toInt8.toInt32)] 35 5 = own_la [c131, c132, c133, c134, c135] 35 5 := own_la_map hcr (by decide) (by decide) 5 (Nat.le_of_ble_eq_true rfl)
            have el47 : own_la [(c131.toInt8.toInt32), (c132.toInt8.toInt32), (c133.toInt8.toInt32), (c134.toInt8.toInt32), (c135.toInt8.toInt32)] 47 5 = own_la [c131, c132, c133, c134, c135] 47 5 := own_la_map hcr (by decide) (by decide) 5 (Nat.le_of_ble_eq_true rfl)
            refine own_goW (fun zt zk => (XS.astore X148.here hx rfl (hb hby at_93) rfl rfl (l' := #[iv p1, iv p2, iv p3, iv p4, iv p5, iv p6, iv (5 : Int32), iv c131, iv c132, iv c133, iv c134, iv c135, rv b136, rv b147, rv b148, .unset, .unset, .unset, .unset]) rfl (XS.aload X148.here hx rfl (hb hby at_95) rfl rfl (XS.iload X148.here hx rfl (hb hby at_97) rfl (XS.bipush X148.here hx rfl (hb hby at_99) zk))))) ?_
            show own_GoW p e below s _ _ _ _ (T148.setTop (mkF m 101 #[iv p1, iv p2, iv p3, iv p4, iv p5, iv p6, iv (5 : Int32), iv c131, iv c132, iv c133, iv c134, iv c135, rv b136, rv b147, rv b148, .unset, .unset, .unset, .unset] [(.int (35 : Int32)), (.int (5 : Int32)), (.ref b136)]))
            obtain ⟨_, _, ⟨T149, L149, k149, n149⟩, -, X149, ⟨Lc149, hQ149, l149, y149, z149⟩, st149⟩ := Jvm.LawKit.callS X148 hx (y := (⟨"com/example/boxwright/boxwright/TableNamesLocalNamePinLaw", "last", "([CIC)I"⟩ : MethodName)) hown (mvT hZ (hw _ (List.mem_of_getElem? (i := 88) rfl))) (mvT hZ (hw _ (List.mem_of_getElem? (i := 89) rfl))) (mvT hZ (hw _ (List.mem_of_getElem? (i := 2) rfl))) (mvT hZ (hw _ (List.mem_of_getElem? (i := 90) rfl))) (by decide) (backOf (W := 0) (own_rlast5 l Z a0 hw [] b136 (35 : Int32) k136 c131 c132 c133 c134 c135 T148.heap n0 (Nat.le_trans Z0 Kp.1) V_b136) hZ (hw _ (List.mem_of_getElem? (i := 90) rfl)) (hw _ (List.mem_of_getElem? (i := 2) rfl)) (by decide) (by decide)) (g := (mkF m 101 #[iv p1, iv p2, iv p3, iv p4, iv p5, iv p6, iv (5 : Int32), iv c131, iv c132, iv c133, iv c134, iv c135, rv b136, rv b147, rv b148, .unset, .unset, .unset, .unset] [(.int (35 : Int32)), (.int (5 : Int32)), (.ref b136)])) rfl (by rw [hml]; rfl) (argsL := [(.ref b136), (.int (5 : Int32)), (.int (35 : Int32))]) (rest := []) (lenOf own_pd___CIC_I rfl) rfl (by show 2 * 0 + _ ≤ _; exact Nat.le_of_eq rfl) (hb hby at_101) (fun _ _ => ⟨rfl, rfl, (by decide : 6 + 0 ≤ _), (by decide : 28 + 0 ≤ _)⟩)
            dsimp only [Pt.U, Pt.locs, Pt.cells, Pt.slots] at X149 l149 y149 z149 st149 hQ149
            subst l149 y149 z149
            obtain ⟨rfl, Nq149, e149⟩ := hQ149
            have N149 := Fr.app N148 Nq149
            refine own_goW st149 ?_
            show own_GoW p e below s _ _ _ _ (T149.setTop (mkF m 104 #[iv p1, iv p2, iv p3, iv p4, iv p5, iv p6, iv (5 : Int32), iv c131, iv c132, iv c133, iv c134, iv c135, rv b136, rv b147, rv b148, .unset, .unset, .unset, .unset] [(.int (own_la [c131, c132, c133, c134, c135] (35 : Int32) 5))]))
            refine own_goW (fun zt zk => (XS.istore X149.here hx rfl (hb hby at_104) rfl (l' := #[iv p1, iv p2, iv p3, iv p4, iv p5, iv p6, iv (5 : Int32), iv c131, iv c132, iv c133, iv c134, iv c135, rv b136, rv b147, rv b148, iv (own_la [c131, c132, c133, c134, c135] (35 : Int32) 5), .unset, .unset, .unset]) rfl (XS.iload X149.here hx rfl (hb hby at_106) rfl zk))) ?_
            show own_GoW p e below s _ _ _ _ (T149.setTop (mkF m 108 #[iv p1, iv p2, iv p3, iv p4, iv p5, iv p6, iv (5 : Int32), iv c131, iv c132, iv c133, iv c134, iv c135, rv b136, rv b147, rv b148, iv (own_la [c131, c132, c133, c134, c135] (35 : Int32) 5), .unset, .unset, .unset] [(.int (own_la [c131, c132, c133, c134, c135] (35 : Int32) 5))]))
            refine own_use X149 (h := T148.heap) (n0 := n0) (P := fun cut => cut = own_cut [(c131.toInt8.toInt32), (c132.toInt8.toInt32), (c133.toInt8.toInt32), (c134.toInt8.toInt32), (c135.toInt8.toInt32)] 5) (K := fun T cut => own_GoW p e below s Z (own_Q_own_law Z p1 p2 p3 p4 p5 p6 o_COMPACT_STRINGS o_SIOOBE_FORMATTER h0 n0) room_1.cells room_1.slots (T.setTop (mkF m 125 #[iv p1, iv p2, iv p3, iv p4, iv p5, iv p6, iv (5 : Int32), iv c131, iv c132, iv c133, iv c134, iv c135, rv b136, rv b147, rv b148, iv (own_la [c131, c132, c133, c134, c135] (35 : Int32) 5), .unset, .unset, .unset] [(.int cut)]))) ?_ ?_
            · intro TJ LJ cut XJ eJ NJ hcut
              subst hcut
              show own_GoW p e below s _ _ _ _ (TJ.setTop (mkF m 125 #[iv p1, iv p2, iv p3, iv p4, iv p5, iv p6, iv (5 : Int32), iv c131, iv c132, iv c133, iv c134, iv c135, rv b136, rv b147, rv b148, iv (own_la [c131, c132, c133, c134, c135] (35 : Int32) 5), .unset, .unset, .unset] [(.int (own_cut [(c131.toInt8.toInt32), (c132.toInt8.toInt32), (c133.toInt8.toInt32), (c134.toInt8.toInt32), (c135.toInt8.toInt32)] 5))]))
              refine own_goW (fun zt zk => (XS.istore XJ.here hx rfl (hb hby at_125) rfl (l' := #[iv p1, iv p2, iv p3, iv p4, iv p5, iv p6, iv (5 : Int32), iv c131, iv c132, iv c133, iv c134, iv c135, rv b136, rv b147, rv b148, iv (own_la [c131, c132, c133, c134, c135] (35 : Int32) 5), iv (own_cut [(c131.toInt8.toInt32), (c132.toInt8.toInt32), (c133.toInt8.toInt32), (c134.toInt8.toInt32), (c135.toInt8.toInt32)] 5), .unset, .unset]) rfl (XS.iload XJ.here hx rfl (hb hby at_127) rfl (XS.iconst XJ.here hx rfl (hb hby at_129) (XS.iadd XJ.here hx rfl (hb hby at_130) rfl zk))))) ?_
              show own_GoW p e below s _ _ _ _ (TJ.setTop (mkF m 131 #[iv p1, iv p2, iv p3, iv p4, iv p5, iv p6, iv (5 : Int32), iv c131, iv c132, iv c133, iv c134, iv c135, rv b136, rv b147, rv b148, iv (own_la [c131, c132, c133, c134, c135] (35 : Int32) 5), iv (own_cut [(c131.toInt8.toInt32), (c132.toInt8.toInt32), (c133.toInt8.toInt32), (c134.toInt8.toInt32), (c135.toInt8.toInt32)] 5), .unset, .unset] [(.int ((own_cut [(c131.toInt8.toInt32), (c132.toInt8.toInt32), (c133.toInt8.toInt32), (c134.toInt8.toInt32), (c135.toInt8.toInt32)] 5) + (1 : Int32)))]))
              rw [hs']
              show own_GoW p e below s _ _ _ _ (TJ.setTop (mkF m 131 #[iv p1, iv p2, iv p3, iv p4, iv p5, iv p6, iv (5 : Int32), iv c131, iv c132, iv c133, iv c134, iv c135, rv b136, rv b147, rv b148, iv (own_la [c131, c132, c133, c134, c135] (35 : Int32) 5), iv (own_cut [(c131.toInt8.toInt32), (c132.toInt8.toInt32), (c133.toInt8.toInt32), (c134.toInt8.toInt32), (c135.toInt8.toInt32)] 5), .unset, .unset] [(.int (Int32.ofNat s'))]))
              refine own_goW (fun zt zk => (XS.istore XJ.here hx rfl (hb hby at_131) rfl (l' := #[iv p1, iv p2, iv p3, iv p4, iv p5, iv p6, iv (5 : Int32), iv c131, iv c132, iv c133, iv c134, iv c135, rv b136, rv b147, rv b148, iv (own_la [c131, c132, c133, c134, c135] (35 : Int32) 5), iv (own_cut [(c131.toInt8.toInt32), (c132.toInt8.toInt32), (c133.toInt8.toInt32), (c134.toInt8.toInt32), (c135.toInt8.toInt32)] 5), iv (Int32.ofNat s'), .unset]) rfl (XS.iload XJ.here hx rfl (hb hby at_133) rfl (XS.iload XJ.here hx rfl (hb hby at_135) rfl (XS.isub XJ.here hx rfl (hb hby at_137) rfl zk))))) ?_
              show own_GoW p e below s _ _ _ _ (TJ.setTop (mkF m 138 #[iv p1, iv p2, iv p3, iv p4, iv p5, iv p6, iv (5 : Int32), iv c131, iv c132, iv c133, iv c134, iv c135, rv b136, rv b147, rv b148, iv (own_la [c131, c132, c133, c134, c135] (35 : Int32) 5), iv (own_cut [(c131.toInt8.toInt32), (c132.toInt8.toInt32), (c133.toInt8.toInt32), (c134.toInt8.toInt32), (c135.toInt8.toInt32)] 5), iv (Int32.ofNat s'), .unset] [(.int ((5 : Int32) - (Int32.ofNat s')))]))
              rw [show (5 : Int32) - Int32.ofNat s' = Int32.ofNat (5 - s') from own_subN (n := 5) hsl (by omega)]
              show own_GoW p e below s _ _ _ _ (TJ.setTop (mkF m 138 #[iv p1, iv p2, iv p3, iv p4, iv p5, iv p6, iv (5 : Int32), iv c131, iv c132, iv c133, iv c134, iv c135, rv b136, rv b147, rv b148, iv (own_la [c131, c132, c133, c134, c135] (35 : Int32) 5), iv (own_cut [(c131.toInt8.toInt32), (c132.toInt8.toInt32), (c133.toInt8.toInt32), (c134.toInt8.toInt32), (c135.toInt8.toInt32)] 5), iv (Int32.ofNat s'), .unset] [(.int (Int32.ofNat (5 - s')))]))
              refine own_goW (fun zt zk => (XS.istore XJ.here hx rfl (hb hby at_138) rfl (l' := #[iv p1, iv p2, iv p3, iv p4, iv p5, iv p6, iv (5 : Int32), iv c131, iv c132, iv c133, iv c134, iv c135, rv b136, rv b147, rv b148, iv (own_la [c131, c132, c133, c134, c135] (35 : Int32) 5), iv (own_cut [(c131.toInt8.toInt32), (c132.toInt8.toInt32), (c133.toInt8.toInt32), (c134.toInt8.toInt32), (c135.toInt8.toInt32)] 5), iv (Int32.ofNat s'), iv (Int32.ofNat (5 - s'))]) rfl (XS.aload XJ.here hx rfl (hb hby at_140) rfl rfl zk))) ?_
              show own_GoW p e below s _ _ _ _ (TJ.setTop (mkF m 142 #[iv p1, iv p2, iv p3, iv p4, iv p5, iv p6, iv (5 : Int32), iv c131, iv c132, iv c133, iv c134, iv c135, rv b136, rv b147, rv b148, iv (own_la [c131, c132, c133, c134, c135] (35 : Int32) 5), iv (own_cut [(c131.toInt8.toInt32), (c132.toInt8.toInt32), (c133.toInt8.toInt32), (c134.toInt8.toInt32), (c135.toInt8.toInt32)] 5), iv (Int32.ofNat s'), iv (Int32.ofNat (5 - s'))] [(.ref b148)]))
              obtain ⟨cq150, kq150, qa150, qb150, qc150⟩ := isOf hZ eJ Ex_b148
              obtain ⟨_, _, ⟨T150, L150, k150, n150⟩, -, X150, ⟨Lc150, hQ150, l150, y150, z150⟩, st150⟩ := XJ.virtualBack hx (y := (⟨"java/lang/String", "length", "()I"⟩ : MethodName)) (z := (⟨"java/lang/String", "length", "()I"⟩ : MethodName)) hown (mvT hZ (hw _ (List.mem_of_getElem? (i := 91) rfl))) (mvT hZ (hw _ (List.mem_of_getElem? (i := 39) rfl))) (notFace_of_selects (args := #[]) (mvT hZ (hw _ (List.mem_of_getElem? (i := 41) rfl)))) (mvT hZ (hw _ (List.mem_of_getElem? (i := 41) rfl))) (mvT hZ (hw _ (List.mem_of_getElem? (i := 40) rfl))) (by decide) (backOf (W := 0) (own_rlen l Z a0 hw [] b148 o_COMPACT_STRINGS t148 kb148 (Int32.ofNat ([(c131.toInt8.toInt32), (c132.toInt8.toInt32), (c133.toInt8.toInt32), (c134.toInt8.toInt32), (c135.toInt8.toInt32)].length - s')) (([(c131.toInt8.toInt32), (c132.toInt8.toInt32), (c133.toInt8.toInt32), (c134.toInt8.toInt32), (c135.toInt8.toInt32)].drop s').map Value.int) T148.heap n0 (Nat.le_trans Z0 Kp.1) O S_o_COMPACT_STRINGS Ex_b148 Fv148 Fc148 Vt148 nz_o_COMPACT_STRINGS) hZ (hw _ (List.mem_of_getElem? (i := 42) rfl)) (hw _ (List.mem_of_getElem? (i := 10) rfl)) (by decide) (by decide)) qa150 qc150 (g := (mkF m 142 #[iv p1, iv p2, iv p3, iv p4, iv p5, iv p6, iv (5 : Int32), iv c131, iv c132, iv c133, iv c134, iv c135, rv b136, rv b147, rv b148, iv (own_la [c131, c132, c133, c134, c135] (35 : Int32) 5), iv (own_cut [(c131.toInt8.toInt32), (c132.toInt8.toInt32), (c133.toInt8.toInt32), (c134.toInt8.toInt32), (c135.toInt8.toInt32)] 5), iv (Int32.ofNat s'), iv (Int32.ofNat (5 - s'))] [(.ref b148)])) rfl (by rw [hml]; rfl) (Steps.refl _) (argsL := []) (rest := []) (lenOf own_pd___I rfl) rfl (by show 2 * 0 + _ ≤ _; exact Nat.le_of_eq rfl) (hb hby at_142) (fun _ _ => ⟨rfl, eJ, (by decide : 6 + 0 ≤ _), (by decide : 28 + 0 ≤ _)⟩)
              dsimp only [Pt.U, Pt.locs, Pt.cells, Pt.slots] at X150 l150 y150 z150 st150 hQ150
              subst l150 y150 z150
              obtain ⟨rfl, Nq150, e150⟩ := hQ150
              have N150 := Fr.app NJ Nq150
              refine own_goW (fun zt zk => st150.trans zk) ?_
              show own_GoW p e below s _ _ _ _ (T150.setTop (mkF m 145 #[iv p1, iv p2, iv p3, iv p4, iv p5, iv p6, iv (5 : Int32), iv c131, iv c132, iv c133, iv c134, iv c135, rv b136, rv b147, rv b148, iv (own_la [c131, c132, c133, c134, c135] (35 : Int32) 5), iv (own_cut [(c131.toInt8.toInt32), (c132.toInt8.toInt32), (c133.toInt8.toInt32), (c134.toInt8.toInt32), (c135.toInt8.toInt32)] 5), iv (Int32.ofNat s'), iv (Int32.ofNat (5 - s'))] [(.int (Int32.ofNat (5 - s')))]))
              refine own_goW (fun zt zk => (XS.iload X150.here hx rfl (hb hby at_145) rfl (XS.icmpYes X150.here hx rfl (pc0 := 147) (pc' := 152) rfl (hb hby at_147) rfl (teq (rfl : (Int32.ofNat (5 - s')) = (Int32.ofNat (5 - s')))).1 (by decide) (by decide) (XS.aload X150.here hx rfl (hb hby at_152) rfl rfl (XS.aload X150.here hx rfl (hb hby at_154) rfl rfl (XS.iload X150.here hx rfl (hb hby at_156) rfl (XS.iload X150.here hx rfl (hb hby at_158) rfl (XS.iconst X150.here hx rfl (hb hby at_160) zk)))))))) ?_
              show own_GoW p e below s _ _ _ _ (T150.setTop (mkF m 161 #[iv p1, iv p2, iv p3, iv p4, iv p5, iv p6, iv (5 : Int32), iv c131, iv c132, iv c133, iv c134, iv c135, rv b136, rv b147, rv b148, iv (own_la [c131, c132, c133, c134, c135] (35 : Int32) 5), iv (own_cut [(c131.toInt8.toInt32), (c132.toInt8.toInt32), (c133.toInt8.toInt32), (c134.toInt8.toInt32), (c135.toInt8.toInt32)] 5), iv (Int32.ofNat s'), iv (Int32.ofNat (5 - s'))] [(.int (0 : Int32)), (.int (Int32.ofNat (5 - s'))), (.int (Int32.ofNat s')), (.ref b136), (.ref b148)]))
              have hyl : ([(c131.toInt8.toInt32), (c132.toInt8.toInt32), (c133.toInt8.toInt32), (c134.toInt8.toInt32), (c135.toInt8.toInt32)].drop s').length = 5 - s' := by rw [List.length_drop]; rfl
              have hrel : ∀ j, j < 5 - s' → (([(c131.toInt8.toInt32), (c132.toInt8.toInt32), (c133.toInt8.toInt32), (c134.toInt8.toInt32), (c135.toInt8.toInt32)].drop s').getD j 0 &&& (255 : Int32)) = [c131, c132, c133, c134, c135].getD (s' + j) 0 := fun j hj => own_rel [c131, c132, c133, c134, c135] [c131, c132, c133, c134, c135] hcr (Nat.le_of_ble_eq_true rfl) rfl j (by rw [← hyl] at hj; exact hj)
              obtain ⟨_, _, ⟨T151, L151, k151, n151⟩, -, X151, ⟨Lc151, hQ151, l151, y151, z151⟩, st151⟩ := Jvm.LawKit.callS X150 hx (y := (⟨"com/example/boxwright/boxwright/TableNamesLocalNamePinLaw", "at", "(Ljava/lang/String;[CIII)Z"⟩ : MethodName)) hown (mvT hZ (hw _ (List.mem_of_getElem? (i := 92) rfl))) (mvT hZ (hw _ (List.mem_of_getElem? (i := 93) rfl))) (mvT hZ (hw _ (List.mem_of_getElem? (i := 2) rfl))) (mvT hZ (hw _ (List.mem_of_getElem? (i := 94) rfl))) (by decide) (backOf (W := 0) (own_rat0 l Z a0 hw [] b148 b136 o_COMPACT_STRINGS o_SIOOBE_FORMATTER t148 kb148 ([(c131.toInt8.toInt32), (c132.toInt8.toInt32), (c133.toInt8.toInt32), (c134.toInt8.toInt32), (c135.toInt8.toInt32)].drop s') (5 - s') s' k136 c131 c132 c133 c134 c135 T148.heap n0 (Nat.le_trans Z0 Kp.1) O S_o_COMPACT_STRINGS S_o_SIOOBE_FORMATTER Ex_b148 Fv148 Fc148 Vt148 V_b136 nz_o_COMPACT_STRINGS r_o_SIOOBE_FORMATTER (by omega) hrel) hZ (hw _ (List.mem_of_getElem? (i := 94) rfl)) (hw _ (List.mem_of_getElem? (i := 2) rfl)) (by decide) (by decide)) (g := (mkF m 161 #[iv p1, iv p2, iv p3, iv p4, iv p5, iv p6, iv (5 : Int32), iv c131, iv c132, iv c133, iv c134, iv c135, rv b136, rv b147, rv b148, iv (own_la [c131, c132, c133, c134, c135] (35 : Int32) 5), iv (own_cut [(c131.toInt8.toInt32), (c132.toInt8.toInt32), (c133.toInt8.toInt32), (c134.toInt8.toInt32), (c135.toInt8.toInt32)] 5), iv (Int32.ofNat s'), iv (Int32.ofNat (5 - s'))] [(.int (0 : Int32)), (.int (Int32.ofNat (5 - s'))), (.int (Int32.ofNat s')), (.ref b136), (.ref b148)])) rfl (by rw [hml]; rfl) (argsL := [(.ref b148), (.ref b136), (.int (Int32.ofNat s')), (.int (Int32.ofNat (5 - s'))), (.int (0 : Int32))]) (rest := []) (lenOf own_pd__Ljava_lang_String__CIII_Z rfl) rfl (by show 2 * 0 + _ ≤ _; exact Nat.le_of_eq rfl) (hb hby at_161) (fun _ _ => ⟨rfl, e150, (by decide : 6 + 0 ≤ _), (by decide : 28 + 0 ≤ _)⟩)
              dsimp only [Pt.U, Pt.locs, Pt.cells, Pt.slots] at X151 l151 y151 z151 st151 hQ151
              subst l151 y151 z151
              obtain ⟨rfl, Nq151, e151⟩ := hQ151
              have N151 := Fr.app N150 Nq151
              refine own_goW st151 ?_
              show own_GoW p e below s _ _ _ _ (T151.setTop (mkF m 164 #[iv p1, iv p2, iv p3, iv p4, iv p5, iv p6, iv (5 : Int32), iv c131, iv c132, iv c133, iv c134, iv c135, rv b136, rv b147, rv b148, iv (own_la [c131, c132, c133, c134, c135] (35 : Int32) 5), iv (own_cut [(c131.toInt8.toInt32), (c132.toInt8.toInt32), (c133.toInt8.toInt32), (c134.toInt8.toInt32), (c135.toInt8.toInt32)] 5), iv (Int32.ofNat s'), iv (Int32.ofNat (5 - s'))] [(.int (1 : Int32))]))
              refine own_goW (fun zt zk => (XS.ifNo X151.here hx rfl (hb hby at_164) rfl ((if0 _ _).trans (feq ((by decide) : ¬ ((1 : Int32) = (0 : Int32)))).1) (XS.aload X151.here hx rfl (hb hby at_167) rfl rfl (XS.aload X151.here hx rfl (hb hby at_169) rfl rfl (XS.iload X151.here hx rfl (hb hby at_171) rfl (XS.iload X151.here hx rfl (hb hby at_173) rfl (XS.iconst X151.here hx rfl (hb hby at_175) zk))))))) ?_
              show own_GoW p e below s _ _ _ _ (T151.setTop (mkF m 176 #[iv p1, iv p2, iv p3, iv p4, iv p5, iv p6, iv (5 : Int32), iv c131, iv c132, iv c133, iv c134, iv c135, rv b136, rv b147, rv b148, iv (own_la [c131, c132, c133, c134, c135] (35 : Int32) 5), iv (own_cut [(c131.toInt8.toInt32), (c132.toInt8.toInt32), (c133.toInt8.toInt32), (c134.toInt8.toInt32), (c135.toInt8.toInt32)] 5), iv (Int32.ofNat s'), iv (Int32.ofNat (5 - s'))] [(.int (1 : Int32)), (.int (Int32.ofNat (5 - s'))), (.int (Int32.ofNat s')), (.ref b136), (.ref b148)]))
              obtain ⟨_, _, ⟨T152, L152, k152, n152⟩, -, X152, ⟨Lc152, hQ152, l152, y152, z152⟩, st152⟩ := Jvm.LawKit.callS X151 hx (y := (⟨"com/example/boxwright/boxwright/TableNamesLocalNamePinLaw", "at", "(Ljava/lang/String;[CIII)Z"⟩ : MethodName)) hown (mvT hZ (hw _ (List.mem_of_getElem? (i := 92) rfl))) (mvT hZ (hw _ (List.mem_of_getElem? (i := 93) rfl))) (mvT hZ (hw _ (List.mem_of_getElem? (i := 2) rfl))) (mvT hZ (hw _ (List.mem_of_getElem? (i := 94) rfl))) (by decide) (backOf (W := 0) (own_rat1 l Z a0 hw [] b148 b136 o_COMPACT_STRINGS o_SIOOBE_FORMATTER t148 kb148 ([(c131.toInt8.toInt32), (c132.toInt8.toInt32), (c133.toInt8.toInt32), (c134.toInt8.toInt32), (c135.toInt8.toInt32)].drop s') (5 - s') s' k136 c131 c132 c133 c134 c135 T148.heap n0 (Nat.le_trans Z0 Kp.1) O S_o_COMPACT_STRINGS S_o_SIOOBE_FORMATTER Ex_b148 Fv148 Fc148 Vt148 V_b136 nz_o_COMPACT_STRINGS r_o_SIOOBE_FORMATTER (by omega) hrel) hZ (hw _ (List.mem_of_getElem? (i := 94) rfl)) (hw _ (List.mem_of_getElem? (i := 2) rfl)) (by decide) (by decide)) (g := (mkF m 176 #[iv p1, iv p2, iv p3, iv p4, iv p5, iv p6, iv (5 : Int32), iv c131, iv c132, iv c133, iv c134, iv c135, rv b136, rv b147, rv b148, iv (own_la [c131, c132, c133, c134, c135] (35 : Int32) 5), iv (own_cut [(c131.toInt8.toInt32), (c132.toInt8.toInt32), (c133.toInt8.toInt32), (c134.toInt8.toInt32), (c135.toInt8.toInt32)] 5), iv (Int32.ofNat s'), iv (Int32.ofNat (5 - s'))] [(.int (1 : Int32)), (.int (Int32.ofNat (5 - s'))), (.int (Int32.ofNat s')), (.ref b136), (.ref b148)])) rfl (by rw [hml]; rfl) (argsL := [(.ref b148), (.ref b136), (.int (Int32.ofNat s')), (.int (Int32.ofNat (5 - s'))), (.int (1 : Int32))]) (rest := []) (lenOf own_pd__Ljava_lang_String__CIII_Z rfl) rfl (by show 2 * 0 + _ ≤ _; exact Nat.le_of_eq rfl) (hb hby at_176) (fun _ _ => ⟨rfl, e151, (by decide : 6 + 0 ≤ _), (by decide : 28 + 0 ≤ _)⟩)
              dsimp only [Pt.U, Pt.locs, Pt.cells, Pt.slots] at X152 l152 y152 z152 st152 hQ152
              subst l152 y152 z152
              obtain ⟨rfl, Nq152, e152⟩ := hQ152
              have N152 := Fr.app N151 Nq152
              refine own_goW st152 ?_
              show own_GoW p e below s _ _ _ _ (T152.setTop (mkF m 179 #[iv p1, iv p2, iv p3, iv p4, iv p5, iv p6, iv (5 : Int32), iv c131, iv c132, iv c133, iv c134, iv c135, rv b136, rv b147, rv b148, iv (own_la [c131, c132, c133, c134, c135] (35 : Int32) 5), iv (own_cut [(c131.toInt8.toInt32), (c132.toInt8.toInt32), (c133.toInt8.toInt32), (c134.toInt8.toInt32), (c135.toInt8.toInt32)] 5), iv (Int32.ofNat s'), iv (Int32.ofNat (5 - s'))] [(.int (1 : Int32))]))
              refine own_goW (fun zt zk => (XS.ifNo X152.here hx rfl (hb hby at_179) rfl ((if0 _ _).trans (feq ((by decide) : ¬ ((1 : Int32) = (0 : Int32)))).1) (XS.aload X152.here hx rfl (hb hby at_182) rfl rfl (XS.aload X152.here hx rfl (hb hby at_184) rfl rfl (XS.iload X152.here hx rfl (hb hby at_186) rfl (XS.iload X152.here hx rfl (hb hby at_188) rfl (XS.iconst X152.here hx rfl (hb hby at_190) zk))))))) ?_
              show own_GoW p e below s _ _ _ _ (T152.setTop (mkF m 191 #[iv p1, iv p2, iv p3, iv p4, iv p5, iv p6, iv (5 : Int32), iv c131, iv c132, iv c133, iv c134, iv c135, rv b136, rv b147, rv b148, iv (own_la [c131, c132, c133, c134, c135] (35 : Int32) 5), iv (own_cut [(c131.toInt8.toInt32), (c132.toInt8.toInt32), (c133.toInt8.toInt32), (c134.toInt8.toInt32), (c135.toInt8.toInt32)] 5), iv (Int32.ofNat s'), iv (Int32.ofNat (5 - s'))] [(.int (2 : Int32)), (.int (Int32.ofNat (5 - s'))), (.int (Int32.ofNat s')), (.ref b136), (.ref b148)]))
              obtain ⟨_, _, ⟨T153, L153, k153, n153⟩, -, X153, ⟨Lc153, hQ153, l153, y153, z153⟩, st153⟩ := Jvm.LawKit.callS X152 hx (y := (⟨"com/example/boxwright/boxwright/TableNamesLocalNamePinLaw", "at", "(Ljava/lang/String;[CIII)Z"⟩ : MethodName)) hown (mvT hZ (hw _ (List.mem_of_getElem? (i := 92) rfl))) (mvT hZ (hw _ (List.mem_of_getElem? (i := 93) rfl))) (mvT hZ (hw _ (List.mem_of_getElem? (i := 2) rfl))) (mvT hZ (hw _ (List.mem_of_getElem? (i := 94) rfl))) (by decide) (backOf (W := 0) (own_rat2 l Z a0 hw [] b148 b136 o_COMPACT_STRINGS o_SIOOBE_FORMATTER t148 kb148 ([(c131.toInt8.toInt32), (c132.toInt8.toInt32), (c133.toInt8.toInt32), (c134.toInt8.toInt32), (c135.toInt8.toInt32)].drop s') (5 - s') s' k136 c131 c132 c133 c134 c135 T148.heap n0 (Nat.le_trans Z0 Kp.1) O S_o_COMPACT_STRINGS S_o_SIOOBE_FORMATTER Ex_b148 Fv148 Fc148 Vt148 V_b136 nz_o_COMPACT_STRINGS r_o_SIOOBE_FORMATTER (by omega) hrel) hZ (hw _ (List.mem_of_getElem? (i := 94) rfl)) (hw _ (List.mem_of_getElem? (i := 2) rfl)) (by decide) (by decide)) (g := (mkF m 191 #[iv p1, iv p2, iv p3, iv p4, iv p5, iv p6, iv (5 : Int32), iv c131, iv c132, iv c133, iv c134, iv c135, rv b136, rv b147, rv b148, iv (own_la [c131, c132, c133, c134, c135] (35 : Int32) 5), iv (own_cut [(c131.toInt8.toInt32), (c132.toInt8.toInt32), (c133.toInt8.toInt32), (c134.toInt8.toInt32), (c135.toInt8.toInt32)] 5), iv (Int32.ofNat s'), iv (Int32.ofNat (5 - s'))] [(.int (2 : Int32)), (.int (Int32.ofNat (5 - s'))), (.int (Int32.ofNat s')), (.ref b136), (.ref b148)])) rfl (by rw [hml]; rfl) (argsL := [(.ref b148), (.ref b136), (.int (Int32.ofNat s')), (.int (Int32.ofNat (5 - s'))), (.int (2 : Int32))]) (rest := []) (lenOf own_pd__Ljava_lang_String__CIII_Z rfl) rfl (by show 2 * 0 + _ ≤ _; exact Nat.le_of_eq rfl) (hb hby at_191) (fun _ _ => ⟨rfl, e152, (by decide : 6 + 0 ≤ _), (by decide : 28 + 0 ≤ _)⟩)
              dsimp only [Pt.U, Pt.locs, Pt.cells, Pt.slots] at X153 l153 y153 z153 st153 hQ153
              subst l153 y153 z153
              obtain ⟨rfl, Nq153, e153⟩ := hQ153
              have N153 := Fr.app N152 Nq153
              refine own_goW st153 ?_
              show own_GoW p e below s _ _ _ _ (T153.setTop (mkF m 194 #[iv p1, iv p2, iv p3, iv p4, iv p5, iv p6, iv (5 : Int32), iv c131, iv c132, iv c133, iv c134, iv c135, rv b136, rv b147, rv b148, iv (own_la [c131, c132, c133, c134, c135] (35 : Int32) 5), iv (own_cut [(c131.toInt8.toInt32), (c132.toInt8.toInt32), (c133.toInt8.toInt32), (c134.toInt8.toInt32), (c135.toInt8.toInt32)] 5), iv (Int32.ofNat s'), iv (Int32.ofNat (5 - s'))] [(.int (1 : Int32))]))
              refine own_goW (fun zt zk => (XS.ifNo X153.here hx rfl (hb hby at_194) rfl ((if0 _ _).trans (feq ((by decide) : ¬ ((1 : Int32) = (0 : Int32)))).1) (XS.aload X153.here hx rfl (hb hby at_197) rfl rfl (XS.aload X153.here hx rfl (hb hby at_199) rfl rfl (XS.iload X153.here hx rfl (hb hby at_201) rfl (XS.iload X153.here hx rfl (hb hby at_203) rfl (XS.iconst X153.here hx rfl (hb hby at_205) zk))))))) ?_
              show own_GoW p e below s _ _ _ _ (T153.setTop (mkF m 206 #[iv p1, iv p2, iv p3, iv p4, iv p5, iv p6, iv (5 : Int32), iv c131, iv c132, iv c133, iv c134, iv c135, rv b136, rv b147, rv b148, iv (own_la [c131, c132, c133, c134, c135] (35 : Int32) 5), iv (own_cut [(c131.toInt8.toInt32), (c132.toInt8.toInt32), (c133.toInt8.toInt32), (c134.toInt8.toInt32), (c135.toInt8.toInt32)] 5), iv (Int32.ofNat s'), iv (Int32.ofNat (5 - s'))] [(.int (3 : Int32)), (.int (Int32.ofNat (5 - s'))), (.int (Int32.ofNat s')), (.ref b136), (.ref b148)]))
              obtain ⟨_, _, ⟨T154, L154, k154, n154⟩, -, X154, ⟨Lc154, hQ154, l154, y154, z154⟩, st154⟩ := Jvm.LawKit.callS X153 hx (y := (⟨"com/example/boxwright/boxwright/TableNamesLocalNamePinLaw", "at", "(Ljava/lang/String;[CIII)Z"⟩ : MethodName)) hown (mvT hZ (hw _ (List.mem_of_getElem? (i := 92) rfl))) (mvT hZ (hw _ (List.mem_of_getElem? (i := 93) rfl))) (mvT hZ (hw _ (List.mem_of_getElem? (i := 2) rfl))) (mvT hZ (hw _ (List.mem_of_getElem? (i := 94) rfl))) (by decide) (backOf (W := 0) (own_rat3 l Z a0 hw [] b148 b136 o_COMPACT_STRINGS o_SIOOBE_FORMATTER t148 kb148 ([(c131.toInt8.toInt32), (c132.toInt8.toInt32), (c133.toInt8.toInt32), (c134.toInt8.toInt32), (c135.toInt8.toInt32)].drop s') (5 - s') s' k136 c131 c132 c133 c134 c135 T148.heap n0 (Nat.le_trans Z0 Kp.1) O S_o_COMPACT_STRINGS S_o_SIOOBE_FORMATTER Ex_b148 Fv148 Fc148 Vt148 V_b136 nz_o_COMPACT_STRINGS r_o_SIOOBE_FORMATTER (by omega) hrel) hZ (hw _ (List.mem_of_getElem? (i := 94) rfl)) (hw _ (List.mem_of_getElem? (i := 2) rfl)) (by decide) (by decide)) (g := (mkF m 206 #[iv p1, iv p2, iv p3, iv p4, iv p5, iv p6, iv (5 : Int32), iv c131, iv c132, iv c133, iv c134, iv c135, rv b136, rv b147, rv b148, iv (own_la [c131, c132, c133, c134, c135] (35 : Int32) 5), iv (own_cut [(c131.toInt8.toInt32), (c132.toInt8.toInt32), (c133.toInt8.toInt32), (c134.toInt8.toInt32), (c135.toInt8.toInt32)] 5), iv (Int32.ofNat s'), iv (Int32.ofNat (5 - s'))] [(.int (3 : Int32)), (.int (Int32.ofNat (5 - s'))), (.int (Int32.ofNat s')), (.ref b136), (.ref b148)])) rfl (by rw [hml]; rfl) (argsL := [(.ref b148), (.ref b136), (.int (Int32.ofNat s')), (.int (Int32.ofNat (5 - s'))), (.int (3 : Int32))]) (rest := []) (lenOf own_pd__Ljava_lang_String__CIII_Z rfl) rfl (by show 2 * 0 + _ ≤ _; exact Nat.le_of_eq rfl) (hb hby at_206) (fun _ _ => ⟨rfl, e153, (by decide : 6 + 0 ≤ _), (by decide : 28 + 0 ≤ _)⟩)
              dsimp only [Pt.U, Pt.locs, Pt.cells, Pt.slots] at X154 l154 y154 z154 st154 hQ154
              subst l154 y154 z154
              obtain ⟨rfl, Nq154, e154⟩ := hQ154
              have N154 := Fr.app N153 Nq154
              refine own_goW st154 ?_
              show own_GoW p e below s _ _ _ _ (T154.setTop (mkF m 209 #[iv p1, iv p2, iv p3, iv p4, iv p5, iv p6, iv (5 : Int32), iv c131, iv c132, iv c133, iv c134, iv c135, rv b136, rv b147, rv b148, iv (own_la [c131, c132, c133, c134, c135] (35 : Int32) 5), iv (own_cut [(c131.toInt8.toInt32), (c132.toInt8.toInt32), (c133.toInt8.toInt32), (c134.toInt8.toInt32), (c135.toInt8.toInt32)] 5), iv (Int32.ofNat s'), iv (Int32.ofNat (5 - s'))] [(.int (1 : Int32))]))
              refine own_goW (fun zt zk => (XS.ifNo X154.here hx rfl (hb hby at_209) rfl ((if0 _ _).trans (feq ((by decide) : ¬ ((1 : Int32) = (0 : Int32)))).1) (XS.aload X154.here hx rfl (hb hby at_212) rfl rfl (XS.aload X154.here hx rfl (hb hby at_214) rfl rfl (XS.iload X154.here hx rfl (hb hby at_216) rfl (XS.iload X154.here hx rfl (hb hby at_218) rfl (XS.iconst X154.here hx rfl (hb hby at_220) zk))))))) ?_
              show own_GoW p e below s _ _ _ _ (T154.setTop (mkF m 221 #[iv p1, iv p2, iv p3, iv p4, iv p5, iv p6, iv (5 : Int32), iv c131, iv c132, iv c133, iv c134, iv c135, rv b136, rv b147, rv b148, iv (own_la [c131, c132, c133, c134, c135] (35 : Int32) 5), iv (own_cut [(c131.toInt8.toInt32), (c132.toInt8.toInt32), (c133.toInt8.toInt32), (c134.toInt8.toInt32), (c135.toInt8.toInt32)] 5), iv (Int32.ofNat s'), iv (Int32.ofNat (5 - s'))] [(.int (4 : Int32)), (.int (Int32.ofNat (5 - s'))), (.int (Int32.ofNat s')), (.ref b136), (.ref b148)]))
              obtain ⟨_, _, ⟨T155, L155, k155, n155⟩, -, X155, ⟨Lc155, hQ155, l155, y155, z155⟩, st155⟩ := Jvm.LawKit.callS X154 hx (y := (⟨"com/example/boxwright/boxwright/TableNamesLocalNamePinLaw", "at", "(Ljava/lang/String;[CIII)Z"⟩ : MethodName)) hown (mvT hZ (hw _ (List.mem_of_getElem? (i := 92) rfl))) (mvT hZ (hw _ (List.mem_of_getElem? (i := 93) rfl))) (mvT hZ (hw _ (List.mem_of_getElem? (i := 2) rfl))) (mvT hZ (hw _ (List.mem_of_getElem? (i := 94) rfl))) (by decide) (backOf (W := 0) (own_rat4 l Z a0 hw [] b148 b136 o_COMPACT_STRINGS o_SIOOBE_FORMATTER t148 kb148 ([(c131.toInt8.toInt32), (c132.toInt8.toInt32), (c133.toInt8.toInt32), (c134.toInt8.toInt32), (c135.toInt8.toInt32)].drop s') (5 - s') s' k136 c131 c132 c133 c134 c135 T148.heap n0 (Nat.le_trans Z0 Kp.1) O S_o_COMPACT_STRINGS S_o_SIOOBE_FORMATTER Ex_b148 Fv148 Fc148 Vt148 V_b136 nz_o_COMPACT_STRINGS r_o_SIOOBE_FORMATTER (by omega) hrel) hZ (hw _ (List.mem_of_getElem? (i := 94) rfl)) (hw _ (List.mem_of_getElem? (i := 2) rfl)) (by decide) (by decide)) (g := (mkF m 221 #[iv p1, iv p2, iv p3, iv p4, iv p5, iv p6, iv (5 : Int32), iv c131, iv c132, iv c133, iv c134, iv c135, rv b136, rv b147, rv b148, iv (own_la [c131, c132, c133, c134, c135] (35 : Int32) 5), iv (own_cut [(c131.toInt8.toInt32), (c132.toInt8.toInt32), (c133.toInt8.toInt32), (c134.toInt8.toInt32), (c135.toInt8.toInt32)] 5), iv (Int32.ofNat s'), iv (Int32.ofNat (5 - s'))] [(.int (4 : Int32)), (.int (Int32.ofNat (5 - s'))), (.int (Int32.ofNat s')), (.ref b136), (.ref b148)])) rfl (by rw [hml]; rfl) (argsL := [(.ref b148), (.ref b136), (.int (Int32.ofNat s')), (.int (Int32.ofNat (5 - s'))), (.int (4 : Int32))]) (rest := []) (lenOf own_pd__Ljava_lang_String__CIII_Z rfl) rfl (by show 2 * 0 + _ ≤ _; exact Nat.le_of_eq rfl) (hb hby at_221) (fun _ _ => ⟨rfl, e154, (by decide : 6 + 0 ≤ _), (by decide : 28 + 0 ≤ _)⟩)
              dsimp only [Pt.U, Pt.locs, Pt.cells, Pt.slots] at X155 l155 y155 z155 st155 hQ155
              subst l155 y155 z155
              obtain ⟨rfl, Nq155, e155⟩ := hQ155
              have N155 := Fr.app N154 Nq155
              refine own_goW st155 ?_
              show own_GoW p e below s _ _ _ _ (T155.setTop (mkF m 224 #[iv p1, iv p2, iv p3, iv p4, iv p5, iv p6, iv (5 : Int32), iv c131, iv c132, iv c133, iv c134, iv c135, rv b136, rv b147, rv b148, iv (own_la [c131, c132, c133, c134, c135] (35 : Int32) 5), iv (own_cut [(c131.toInt8.toInt32), (c132.toInt8.toInt32), (c133.toInt8.toInt32), (c134.toInt8.toInt32), (c135.toInt8.toInt32)] 5), iv (Int32.ofNat s'), iv (Int32.ofNat (5 - s'))] [(.int (1 : Int32))]))
              refine own_goW (fun zt zk => (XS.ifNo X155.here hx rfl (hb hby at_224) rfl ((if0 _ _).trans (feq ((by decide) : ¬ ((1 : Int32) = (0 : Int32)))).1) (XS.iconst X155.here hx rfl (hb hby at_227) (XS.goto X155.here hx rfl (pc0 := 228) (pc' := 232) rfl (hb hby at_228) (by decide) (by decide) zk)))) ?_
              show own_GoW p e below s _ _ _ _ (T155.setTop (mkF m 232 #[iv p1, iv p2, iv p3, iv p4, iv p5, iv p6, iv (5 : Int32), iv c131, iv c132, iv c133, iv c134, iv c135, rv b136, rv b147, rv b148, iv (own_la [c131, c132, c133, c134, c135] (35 : Int32) 5), iv (own_cut [(c131.toInt8.toInt32), (c132.toInt8.toInt32), (c133.toInt8.toInt32), (c134.toInt8.toInt32), (c135.toInt8.toInt32)] 5), iv (Int32.ofNat s'), iv (Int32.ofNat (5 - s'))] [(.int (1 : Int32))]))
              have Re := Rc.trans (CHv.at X155 hZ hEL Rc.1)
              exact own_finW X155 hS (by rw [e155]; exact hk) (by rw [e155, hh]; exact Re) Bd.notSynchronized (fun h => by rw [Bd.returns] at h; cases h) (fun fs hr => retN X155 hx (t := .boolean) Bd.returns (by simp) (hb hby at_232) hr) (by rw [e155]; exact ⟨rfl, N155⟩) (by decide) (by decide)
            · intro tail
              show own_GoW p e below s _ _ _ _ (T149.setTop (mkF m 108 #[iv p1, iv p2, iv p3, iv p4, iv p5, iv p6, iv (5 : Int32), iv c131, iv c132, iv c133, iv c134, iv c135, rv b136, rv b147, rv b148, iv (own_la [c131, c132, c133, c134, c135] (35 : Int32) 5), .unset, .unset, .unset] [(.int (own_la [c131, c132, c133, c134, c135] (35 : Int32) 5))]))
              by_cases hB : (own_la [c131, c132, c133, c134, c135] (35 : Int32) 5) < (0 : Int32)
              · refine own_goW (fun zt zk => (XS.ifYes X149.here hx rfl (pc0 := 108) (pc' := 116) rfl (hb hby at_108) rfl ((if0 _ _).trans (tlt (hB : (own_la [c131, c132, c133, c134, c135] (35 : Int32) 5) < (0 : Int32))).1) (by decide) (by decide) (XS.aload X149.here hx rfl (hb hby at_116) rfl rfl (XS.iload X149.here hx rfl (hb hby at_118) rfl (XS.bipush X149.here hx rfl (hb hby at_120) zk))))) ?_
                show own_GoW p e below s _ _ _ _ (T149.setTop (mkF m 122 #[iv p1, iv p2, iv p3, iv p4, iv p5, iv p6, iv (5 : Int32), iv c131, iv c132, iv c133, iv c134, iv c135, rv b136, rv b147, rv b148, iv (own_la [c131, c132, c133, c134, c135] (35 : Int32) 5), .unset, .unset, .unset] [(.int (47 : Int32)), (.int (5 : Int32)), (.ref b136)]))
                obtain ⟨_, _, ⟨T156, L156, k156, n156⟩, -, X156, ⟨Lc156, hQ156, l156, y156, z156⟩, st156⟩ := Jvm.LawKit.callS X149 hx (y := (⟨"com/example/boxwright/boxwright/TableNamesLocalNamePinLaw", "last", "([CIC)I"⟩ : MethodName)) hown (mvT hZ (hw _ (List.mem_of_getElem? (i := 88) rfl))) (mvT hZ (hw _ (List.mem_of_getElem? (i := 89) rfl))) (mvT hZ (hw _ (List.mem_of_getElem? (i := 2) rfl))) (mvT hZ (hw _ (List.mem_of_getElem? (i := 90) rfl))) (by decide) (backOf (W := 0) (own_rlast5 l Z a0 hw [] b136 (47 : Int32) k136 c131 c132 c133 c134 c135 T148.heap n0 (Nat.le_trans Z0 Kp.1) V_b136) hZ (hw _ (List.mem_of_getElem? (i := 90) rfl)) (hw _ (List.mem_of_getElem? (i := 2) rfl)) (by decide) (by decide)) (g := (mkF m 122 #[iv p1, iv p2, iv p3, iv p4, iv p5, iv p6, iv (5 : Int32), iv c131, iv c132, iv c133, iv c134, iv c135, rv b136, rv b147, rv b148, iv (own_la [c131, c132, c133, c134, c135] (35 : Int32) 5), .unset, .unset, .unset] [(.int (47 : Int32)), (.int (5 : Int32)), (.ref b136)])) rfl (by rw [hml]; rfl) (argsL := [(.ref b136), (.int (5 : Int32)), (.int (47 : Int32))]) (rest := []) (lenOf own_pd___CIC_I rfl) rfl (by show 2 * 0 + _ ≤ _; exact Nat.le_of_eq rfl) (hb hby at_122) (fun _ _ => ⟨rfl, e149, (by decide : 6 + 0 ≤ _), (by decide : 28 + 0 ≤ _)⟩)
                dsimp only [Pt.U, Pt.locs, Pt.cells, Pt.slots] at X156 l156 y156 z156 st156 hQ156
                subst l156 y156 z156
                obtain ⟨rfl, Nq156, e156⟩ := hQ156
                have N156 := Fr.app N149 Nq156
                refine own_goW st156 ?_
                show own_GoW p e below s _ _ _ _ (T156.setTop (mkF m 125 #[iv p1, iv p2, iv p3, iv p4, iv p5, iv p6, iv (5 : Int32), iv c131, iv c132, iv c133, iv c134, iv c135, rv b136, rv b147, rv b148, iv (own_la [c131, c132, c133, c134, c135] (35 : Int32) 5), .unset, .unset, .unset] [(.int (own_la [c131, c132, c133, c134, c135] (47 : Int32) 5))]))
                exact tail _ _ _ X156 e156 N156 (by unfold own_cut; rw [el35, el47, if_pos hB])
              · refine own_goW (fun zt zk => (XS.ifNo X149.here hx rfl (hb hby at_108) rfl ((if0 _ _).trans (flt (hB : ¬ ((own_la [c131, c132, c133, c134, c135] (35 : Int32) 5) < (0 : Int32)))).1) (XS.iload X149.here hx rfl (hb hby at_111) rfl (XS.goto X149.here hx rfl (pc0 := 113) (pc' := 125) rfl (hb hby at_113) (by decide) (by decide) zk)))) ?_
                show own_GoW p e below s _ _ _ _ (T149.setTop (mkF m 125 #[iv p1, iv p2, iv p3, iv p4, iv p5, iv p6, iv (5 : Int32), iv c131, iv c132, iv c133, iv c134, iv c135, rv b136, rv b147, rv b148, iv (own_la [c131, c132, c133, c134, c135] (35 : Int32) 5), .unset, .unset, .unset] [(.int (own_la [c131, c132, c133, c134, c135] (35 : Int32) 5))]))
                exact tail _ _ _ X149 e149 N149 (by unfold own_cut; rw [el35, if_neg hB])
set_option maxRecDepth 65536 in
set_option maxHeartbeats 40000000 in
theorem comes_1 {Post : Tables → Env → Array Value → State → Outcome → State → Prop} (hpost : ∀ tb e args s v u, (limb_1_1.after args s (.returned v) u = true ∧ limb_1_2.after args s (.returned v) u = true ∧ True) → ReturnedEndW s (.returned v) u (Jvm.fieldLocs frame_1_writes args s ++ Jvm.arrayLocs frame_1_arrays args s ++ Jvm.staticLocs frame_1_statics s) 24 2176 → Post tb e args s (.returned v) u) :
    ArmFor flags0 classFile x code maxLocals ret World_1 tables_1 room_1 Calls_1 rest_1 Pre_1 Post := by
  intro l hfl _ _ p e ha hc hk s m args below hf hA hF happ hP
  obtain ⟨hcalls, hrest, hpre⟩ := hP
  obtain ⟨-, -, -, hnamed, -, -, -, hat⟩ := (Spec.applies_iff hf).mp happ
  obtain ⟨hg, hn⟩ := and_e (Cond.before_iff.mp (show (Jvm.Cond.and given_1 narrow_1).before args s = true from hpre))
  obtain ⟨g0, r0⟩ := and_e hg
  obtain ⟨g1, r1⟩ := and_e r0
  obtain ⟨g2, r2⟩ := and_e r1
  obtain ⟨g3, r3⟩ := and_e r2
  obtain ⟨g4, r4⟩ := and_e r3
  obtain ⟨g5, r5⟩ := and_e r4
  have g6 := r5
  obtain ⟨w0, w1, w2, w3, w4, w5, rfl⟩ : ∃ w0 w1 w2 w3 w4 w5 : Value, args = #[w0, w1, w2, w3, w4, w5] := by
    have hs : args.size = 6 := by simpa [Cond.value, given_1] using g0
    obtain ⟨L⟩ := args
    match L, hs with
    | [w0, w1, w2, w3, w4, w5], _ => exact ⟨w0, w1, w2, w3, w4, w5, rfl⟩
  have hw := fun d (hd : d ∈ tables_1) => atoms_spec (ws := Jvm.Cond.code x code maxLocals ret :: tables_1) hat d (List.mem_cons_of_mem _ hd)
  have hfit : Fit s := fun {y c} hc i hi => by
    obtain ⟨ha, rfl⟩ := Array.getElem?_eq_some_iff.mp hc
    have q := List.all_eq_true.mp ((Array.all_eq_true_iff_forall_mem.mp hF) _ (Array.getElem_mem ha)) i (List.mem_range.mpr hi)
    simpa [Array.getElem?_eq_getElem hi] using q
  obtain ⟨hsets, hown0⟩ := atoms_of _ (rest_1_c_eq ▸ (show rest_1_c.before _ s = true from hrest))
  obtain ⟨i0, ei0⟩ := is_v g1
  obtain rfl : w0 = (.int i0) := Option.some.inj ei0
  obtain ⟨i1, ei1⟩ := is_v g2
  obtain rfl : w1 = (.int i1) := Option.some.inj ei1
  obtain ⟨i2, ei2⟩ := is_v g3
  obtain rfl : w2 = (.int i2) := Option.some.inj ei2
  obtain ⟨i3, ei3⟩ := is_v g4
  obtain rfl : w3 = (.int i3) := Option.some.inj ei3
  obtain ⟨i4, ei4⟩ := is_v g5
  obtain rfl : w4 = (.int i4) := Option.some.inj ei4
  obtain ⟨i5, ei5⟩ := is_v g6
  obtain rfl : w5 = (.int i5) := Option.some.inj ei5
  obtain ⟨o_COMPACT_STRINGS, e_o_COMPACT_STRINGS⟩ := is_v (Cond.before_iff.mp (hsets _ (List.mem_of_getElem? (i := 1) rfl)))
  have S_o_COMPACT_STRINGS := Sta.start e_o_COMPACT_STRINGS (Or.inl (hsets _ (List.mem_of_getElem? (i := 0) rfl)))
  have nz_o_COMPACT_STRINGS : ¬ (o_COMPACT_STRINGS = (0 : Int32)) := gotF (Cond.eq_ints e_o_COMPACT_STRINGS (Term.int_eval 0)) (not_v (Cond.before_iff.mp (hsets _ (List.mem_of_getElem? (i := 2) rfl))))
  obtain ⟨o_SIOOBE_FORMATTER, e_o_SIOOBE_FORMATTER, r_o_SIOOBE_FORMATTER⟩ := isR_v (Cond.before_iff.mp (hsets _ (List.mem_of_getElem? (i := 8) rfl)))
  have S_o_SIOOBE_FORMATTER := Sta.start e_o_SIOOBE_FORMATTER (Or.inl (hsets _ (List.mem_of_getElem? (i := 7) rfl)))
  have hcw : Jvm.Lit.compactW.before #[(.int i0), (.int i1), (.int i2), (.int i3), (.int i4), (.int i5)] s = true := hsets _ (List.mem_of_getElem? (i := 2) rfl)
  have hCH : CHv s own_EL s.vm s.heap := CHv.start (own_EW s _ hw) hcalls.1 hcw (hw _ (List.mem_of_getElem? (i := 22) rfl)) (hw _ (List.mem_of_getElem? (i := 9) rfl))
  obtain ⟨n, o, h1, h2, h3, _, L, rfl, ⟨rfl, N⟩, -, hq⟩ := own_law l s _ hw tables_1 i0 i1 i2 i3 i4 i5 o_COMPACT_STRINGS o_SIOOBE_FORMATTER s.vm s.heap s.heap.size (Nat.le_refl _) (Old.start s) S_o_COMPACT_STRINGS S_o_SIOOBE_FORMATTER nz_o_COMPACT_STRINGS r_o_SIOOBE_FORMATTER p e ha hc hk s m _ below hf ((Spec.applies_iff_loose hf).mp happ).1 ⟨rfl, State.Warmed39.refl s, rfl, CHr.refl hCH⟩ trivial
  refine ⟨n, _, h1, h2, h3, hpost _ _ _ _ _ _ ⟨Cond.after_iff.mpr rfl, Cond.after_iff.mpr (eq_i res_at (Term.int_eval (1)) rfl), trivial⟩ ⟨hq.1, hq.2.1, hq.2.2.1, (hq.2.2.2.sift fun y hy => Or.inr (N y hy)).mono (by decide) (by decide)⟩⟩
theorem main_1_1 : Claimed_1_1 := comes_1 fun _ _ _ _ _ _ h hF => ⟨h.1, hF⟩
theorem main_1_2 : Claimed_1_2 := comes_1 fun _ _ _ _ _ _ h hF => ⟨h.2.1, hF⟩
end Jvm.Pilot.@@N@@
namespace Jvm.Pilot.@@N@@
open Jvm Jvm.ClassFile Sem Op Lib Jvm.Free Jvm.Stand Jvm.Pilot.@@N@@.Jvm.D
/-! MADE BY PROGRAM (witnessworld.py) out of the Statement's table words and the real class files: 23 classes; the members and pool entries that the words name. The judged class is class 1, her method 1. -/
namespace start1
open Jvm.ClassFile
def u (s : String) : CpInfo := .utf8 (stringToUtf16 s)
/-- a pool by its gaps: so many unusable entries, then the entry; so many at the end -/
def gap : Nat → List CpInfo → List CpInfo
  | 0, r => r
  | n + 1, r => .unusable :: gap n r
def poolList (es : List (Nat × CpInfo)) (last : Nat) : List CpInfo := es.foldr (fun e r => gap e.1 (e.2 :: r)) (gap last [])
def pool (es : List (Nat × CpInfo)) (last : Nat) : Array CpInfo := ⟨poolList es last⟩
def fileOf (pool : Array CpInfo) (this : Nat) (attrs : Array Attribute := #[]) (ms : Array MethodInfo := #[]) (fl : Nat := 33) (sup : Nat := 0) (ifs : Array Nat := #[]) (fds : Array FieldInfo := #[]) : ClassFile where
  minorVersion := 0
  majorVersion := 65
  constantPool := pool
  accessFlags := fl
  thisClass := this
  superClass := sup
  interfaces := ifs
  fields := fds
  methods := ms
  attributes := attrs
def plain (name : String) (sup : Option ClassId) : Class where
  name := name
  kind := .ordinary
  loader := none
  accessFlags := 33
  super := sup
  interfaces := #[]
  cf := none
  fields := #[]
  methods := #[]
  instanceTypes := #[]
  staticTypes := #[]
  resolved := #[]
  callSites := []
  init := .initialized
  statics := none
  mirror := none

def pool0 : Array CpInfo := pool [(5, u "<init>"), (0, u "()V"), (1, .class_ 10), (1, u "java/lang/Object")] 113

def k0c0 : Code := { maxStack := 0, maxLocals := 1, code := object_method_1_code, exceptionTable := #[], attributes := #[] }
def k0m0 : Method := { name := "<init>", desc := "()V", sig := { parameters := [], returnType := none }, accessFlags := 1, code := some k0c0 }
/-- java/lang/Object -/
def k0 : Class := { plain "java/lang/Object" none with
  accessFlags := 33
  interfaces := #[]
  cf := some (fileOf pool0 8 #[] #[{ accessFlags := 1, nameIndex := 5, descriptorIndex := 6, attributes := #[] }] 33 0 #[] #[])
  fields := #[]
  methods := #[k0m0]
  instanceTypes := #[]
  staticTypes := #[]
  resolved := Array.replicate 124 none
  statics := none }

def pool1 : Array CpInfo := pool [(2, .class_ 4), (1, u "java/lang/Object"), (0, u "<init>"), (0, u "()V"), (0, .methodref 8 9), (0, .class_ 10), (0, .nameAndType 11 12), (0, u "com/example/boxwright/boxwright/TableNamesLocalNamePinLaw"), (0, u "pick"), (0, u "(I)C"), (0, .methodref 8 14), (0, .nameAndType 15 16), (0, u "make"), (0, u "(ICCCCC)Ljava/lang/String;"), (0, .methodref 18 19), (0, .class_ 20), (0, .nameAndType 21 22), (0, u "com/example/boxwright/boxwright/TableNames"), (0, u "localName"), (0, u "(Ljava/lang/String;)Ljava/lang/String;"), (0, .methodref 8 24), (0, .nameAndType 25 26), (0, u "last"), (0, u "([CIC)I"), (0, .methodref 28 29), (0, .class_ 30), (0, .nameAndType 31 32), (0, u "java/lang/String"), (0, u "length"), (0, u "()I"), (0, .methodref 8 34), (0, .nameAndType 35 36), (0, u "at"), (0, u "(Ljava/lang/String;[CIII)Z"), (0, .methodref 28 38), (0, .nameAndType 5 39), (0, u "([C)V"), (0, .methodref 28 41), (0, .nameAndType 42 12), (0, u "charAt"), (2, u "law"), (0, u "(IIIIII)Z")] 5

def k1m0 : Method := { name := "<init>", desc := "()V", sig := { parameters := [], returnType := none }, accessFlags := 1, code := none }
def k1c1 : Code := { maxStack := 6, maxLocals := 19, code := code, exceptionTable := #[], attributes := #[] }
def k1m1 : Method := { name := "law", desc := "(IIIIII)Z", sig := { parameters := [.int, .int, .int, .int, .int, .int], returnType := some .boolean }, accessFlags := 9, code := some k1c1 }
def k1c2 : Code := { maxStack := 2, maxLocals := 2, code := method_3_code, exceptionTable := #[], attributes := #[] }
def k1m2 : Method := { name := "pick", desc := "(I)C", sig := { parameters := [.int], returnType := some .char }, accessFlags := 10, code := some k1c2 }
def k1c3 : Code := { maxStack := 6, maxLocals := 6, code := method_4_code, exceptionTable := #[], attributes := #[] }
def k1m3 : Method := { name := "make", desc := "(ICCCCC)Ljava/lang/String;", sig := { parameters := [.int, .char, .char, .char, .char, .char], returnType := some (.object "java/lang/String") }, accessFlags := 10, code := some k1c3 }
def k1c4 : Code := { maxStack := 2, maxLocals := 4, code := method_5_code, exceptionTable := #[], attributes := #[] }
def k1m4 : Method := { name := "last", desc := "([CIC)I", sig := { parameters := [(.array .char), .int, .char], returnType := some .int }, accessFlags := 10, code := some k1c4 }
def k1c5 : Code := { maxStack := 4, maxLocals := 5, code := method_6_code, exceptionTable := #[], attributes := #[] }
def k1m5 : Method := { name := "at", desc := "(Ljava/lang/String;[CIII)Z", sig := { parameters := [(.object "java/lang/String"), (.array .char), .int, .int, .int], returnType := some .boolean }, accessFlags := 10, code := some k1c5 }
/-- com/example/boxwright/boxwright/TableNamesLocalNamePinLaw -/
def k1 : Class := { plain "com/example/boxwright/boxwright/TableNamesLocalNamePinLaw" (some 0) with
  accessFlags := 49
  interfaces := #[]
  cf := some (fileOf pool1 8 #[] #[{ accessFlags := 1, nameIndex := 5, descriptorIndex := 6, attributes := #[] }, { accessFlags := 9, nameIndex := 45, descriptorIndex := 46, attributes := #[] }, { accessFlags := 10, nameIndex := 11, descriptorIndex := 12, attributes := #[] }, { accessFlags := 10, nameIndex := 15, descriptorIndex := 16, attributes := #[] }, { accessFlags := 10, nameIndex := 25, descriptorIndex := 26, attributes := #[] }, { accessFlags := 10, nameIndex := 35, descriptorIndex := 36, attributes := #[] }] 49 2 #[] #[])
  fields := #[]
  methods := #[k1m0, k1m1, k1m2, k1m3, k1m4, k1m5]
  instanceTypes := #[]
  staticTypes := #[]
  resolved := Array.replicate 52 none
  statics := none }

def pool2 : Array CpInfo := pool [(1, .class_ 2), (0, u "java/io/Serializable"), (0, .class_ 4), (0, u "java/lang/Object")] 2

/-- java/io/Serializable -/
def k2 : Class := { plain "java/io/Serializable" (some 0) with
  accessFlags := 1537
  interfaces := #[]
  cf := some (fileOf pool2 1 #[] #[] 1537 3 #[] #[])
  fields := #[]
  methods := #[]
  instanceTypes := #[]
  staticTypes := #[]
  resolved := Array.replicate 7 none
  statics := none }

def pool3 : Array CpInfo := pool [(1, .class_ 2), (0, u "java/lang/Comparable"), (0, .class_ 4), (0, u "java/lang/Object")] 7

/-- java/lang/Comparable -/
def k3 : Class := { plain "java/lang/Comparable" (some 0) with
  accessFlags := 1537
  interfaces := #[]
  cf := some (fileOf pool3 1 #[] #[] 1537 3 #[] #[])
  fields := #[]
  methods := #[]
  instanceTypes := #[]
  staticTypes := #[]
  resolved := Array.replicate 12 none
  statics := none }

def pool4 : Array CpInfo := pool [(2, .class_ 4), (1, u "java/lang/CharSequence"), (42, .class_ 48), (0, u "java/lang/CharSequence$1CodePointIterator"), (10, .class_ 60), (0, u "java/lang/CharSequence$1CharIterator"), (5, .class_ 67), (0, u "java/lang/Object")] 63

/-- java/lang/CharSequence -/
def k4 : Class := { plain "java/lang/CharSequence" (some 0) with
  accessFlags := 1537
  interfaces := #[]
  cf := some (fileOf pool4 2 #[.nestMembers #[47, 59]] #[] 1537 66 #[] #[])
  fields := #[]
  methods := #[]
  instanceTypes := #[]
  staticTypes := #[]
  resolved := Array.replicate 131 none
  statics := none }

def pool5 : Array CpInfo := pool [(1, .class_ 2), (0, u "java/lang/constant/Constable"), (0, .class_ 4), (0, u "java/lang/Object")] 6

/-- java/lang/constant/Constable -/
def k5 : Class := { plain "java/lang/constant/Constable" (some 0) with
  accessFlags := 1537
  interfaces := #[]
  cf := some (fileOf pool5 1 #[] #[] 1537 3 #[] #[])
  fields := #[]
  methods := #[]
  instanceTypes := #[]
  staticTypes := #[]
  resolved := Array.replicate 11 none
  statics := none }

def pool6 : Array CpInfo := pool [(1, .class_ 2), (0, u "java/lang/constant/ConstantDesc"), (0, .class_ 4), (0, u "java/lang/Object")] 32

/-- java/lang/constant/ConstantDesc -/
def k6 : Class := { plain "java/lang/constant/ConstantDesc" (some 0) with
  accessFlags := 1537
  interfaces := #[]
  cf := some (fileOf pool6 1 #[] #[] 1537 3 #[] #[])
  fields := #[]
  methods := #[]
  instanceTypes := #[]
  staticTypes := #[]
  resolved := Array.replicate 37 none
  statics := none }

def pool7 : Array CpInfo := pool [(1, .methodref 2 3), (0, .class_ 4), (0, .nameAndType 5 6), (0, u "java/lang/Object"), (0, u "<init>"), (0, u "()V"), (0, .string 8), (0, u ""), (0, .fieldref 10 11), (0, .class_ 12), (0, .nameAndType 13 14), (0, u "java/lang/String"), (0, u "value"), (0, u "[B"), (0, .fieldref 10 16), (0, .nameAndType 17 18), (0, u "coder"), (0, u "B"), (2, u "hash"), (0, u "I"), (2, u "hashIsZero"), (0, u "Z"), (0, .methodref 10 28), (0, .nameAndType 5 29), (0, u "([CIILjava/lang/Void;)V"), (8, .fieldref 10 39), (0, .nameAndType 40 26), (0, u "COMPACT_STRINGS"), (1, .class_ 44), (1, u "java/lang/StringUTF16"), (0, u "compress"), (1, .methodref 42 48), (0, .nameAndType 49 50), (0, u "coderFromArrayLen"), (0, u "([BI)B"), (46, u "([BII)I"), (9, .class_ 109), (1, u "java/lang/StringLatin1"), (32, u "()Z"), (34, .methodref 42 178), (0, .nameAndType 45 179), (0, u "([CII)[B"), (31, u "([BB)V"), (122, u "()I"), (0, .methodref 10 336), (0, .nameAndType 17 337), (0, u "()B"), (25, u "([BI)C"), (27, u "(II)V"), (35, u "(I)C"), (64, .methodref 10 493), (0, .nameAndType 494 142), (0, u "isLatin1"), (0, .methodref 107 496), (0, .nameAndType 497 363), (0, u "charAt"), (3, u "checkIndex"), (3, .methodref 10 506), (0, .nameAndType 507 334), (0, u "length"), (5, u "checkFromToIndex"), (7, .methodref 10 522), (0, .nameAndType 523 524), (0, u "checkBoundsBeginEnd"), (0, u "(III)V"), (50, .class_ 576), (0, u "java/lang/CharSequence"), (22, u "CASE_INSENSITIVE_ORDER"), (0, u "Ljava/util/Comparator;"), (35, u "(II)I"), (4, .methodref 10 642), (0, .nameAndType 643 636), (0, u "lastIndexOf"), (0, .methodref 107 645), (0, .nameAndType 643 97), (35, .methodref 10 682), (0, .nameAndType 683 684), (0, u "substring"), (0, u "(II)Ljava/lang/String;"), (0, .methodref 107 686), (0, .nameAndType 687 688), (0, u "newString"), (0, u "([BII)Ljava/lang/String;"), (76, u "(I)I"), (126, u "(I)Ljava/lang/String;"), (117, u "([C)V"), (42, .fieldref 1054 1055), (0, .class_ 1056), (0, .nameAndType 1057 1058), (0, u "jdk/internal/util/Preconditions"), (0, u "SIOOBE_FORMATTER"), (0, u "Ljava/util/function/BiFunction;"), (0, .methodref 1054 1060), (0, .nameAndType 501 1061), (0, u "(IILjava/util/function/BiFunction;)I"), (0, .methodref 1054 1063), (0, .nameAndType 513 1064), (0, u "(IIILjava/util/function/BiFunction;)I"), (36, u "serialPersistentFields"), (0, u "[Ljava/io/ObjectStreamField;"), (0, .class_ 1104), (0, u "java/lang/String$CaseInsensitiveComparator"), (1, .class_ 1107), (0, u "java/io/Serializable"), (0, .class_ 1109), (0, u "java/lang/Comparable"), (0, .class_ 1111), (0, u "java/lang/constant/Constable"), (0, .class_ 1113), (0, u "java/lang/constant/ConstantDesc"), (2, u "serialVersionUID"), (0, u "J"), (3, u "REPL"), (0, u "C"), (2, u "LATIN1"), (1, u "UTF16")] 323

def k7m0 : Method := { name := "<init>", desc := "()V", sig := { parameters := [], returnType := none }, accessFlags := 1, code := none }
def k7c1 : Code := { maxStack := 5, maxLocals := 2, code := jdk_42_method_3_code, exceptionTable := #[], attributes := #[] }
def k7m1 : Method := { name := "<init>", desc := "([C)V", sig := { parameters := [(.array .char)], returnType := none }, accessFlags := 1, code := some k7c1 }
def k7c2 : Code := { maxStack := 2, maxLocals := 1, code := jdk_42_method_54_code, exceptionTable := #[], attributes := #[] }
def k7m2 : Method := { name := "length", desc := "()I", sig := { parameters := [], returnType := some .int }, accessFlags := 1, code := some k7c2 }
def k7c3 : Code := { maxStack := 2, maxLocals := 2, code := jdk_42_method_56_code, exceptionTable := #[], attributes := #[] }
def k7m3 : Method := { name := "charAt", desc := "(I)C", sig := { parameters := [.int], returnType := some .char }, accessFlags := 1, code := some k7c3 }
def k7c4 : Code := { maxStack := 4, maxLocals := 2, code := jdk_42_method_82_code, exceptionTable := #[], attributes := #[] }
def k7m4 : Method := { name := "lastIndexOf", desc := "(I)I", sig := { parameters := [.int], returnType := some .int }, accessFlags := 1, code := some k7c4 }
def k7c5 : Code := { maxStack := 3, maxLocals := 3, code := jdk_42_method_83_code, exceptionTable := #[], attributes := #[] }
def k7m5 : Method := { name := "lastIndexOf", desc := "(II)I", sig := { parameters := [.int, .int], returnType := some .int }, accessFlags := 1, code := some k7c5 }
def k7c6 : Code := { maxStack := 3, maxLocals := 2, code := jdk_42_method_91_code, exceptionTable := #[], attributes := #[] }
def k7m6 : Method := { name := "substring", desc := "(I)Ljava/lang/String;", sig := { parameters := [.int], returnType := some (.object "java/lang/String") }, accessFlags := 1, code := some k7c6 }
def k7c7 : Code := { maxStack := 3, maxLocals := 5, code := jdk_42_method_92_code, exceptionTable := #[], attributes := #[] }
def k7m7 : Method := { name := "substring", desc := "(II)Ljava/lang/String;", sig := { parameters := [.int, .int], returnType := some (.object "java/lang/String") }, accessFlags := 1, code := some k7c7 }
def k7c8 : Code := { maxStack := 4, maxLocals := 6, code := jdk_42_method_149_code, exceptionTable := #[], attributes := #[] }
def k7m8 : Method := { name := "<init>", desc := "([CIILjava/lang/Void;)V", sig := { parameters := [(.array .char), .int, .int, (.object "java/lang/Void")], returnType := none }, accessFlags := 2, code := some k7c8 }
def k7c9 : Code := { maxStack := 2, maxLocals := 3, code := jdk_42_method_151_code, exceptionTable := #[], attributes := #[] }
def k7m9 : Method := { name := "<init>", desc := "([BB)V", sig := { parameters := [(.array .byte), .byte], returnType := none }, accessFlags := 0, code := some k7c9 }
def k7c10 : Code := { maxStack := 1, maxLocals := 1, code := jdk_42_method_152_code, exceptionTable := #[], attributes := #[] }
def k7m10 : Method := { name := "coder", desc := "()B", sig := { parameters := [], returnType := some .byte }, accessFlags := 0, code := some k7c10 }
def k7c11 : Code := { maxStack := 1, maxLocals := 1, code := jdk_42_method_154_code, exceptionTable := #[], attributes := #[] }
def k7m11 : Method := { name := "isLatin1", desc := "()Z", sig := { parameters := [], returnType := some .boolean }, accessFlags := 0, code := some k7c11 }
def k7c12 : Code := { maxStack := 3, maxLocals := 2, code := jdk_42_method_155_code, exceptionTable := #[], attributes := #[] }
def k7m12 : Method := { name := "checkIndex", desc := "(II)V", sig := { parameters := [.int, .int], returnType := none }, accessFlags := 8, code := some k7c12 }
def k7c13 : Code := { maxStack := 4, maxLocals := 3, code := jdk_42_method_158_code, exceptionTable := #[], attributes := #[] }
def k7m13 : Method := { name := "checkBoundsBeginEnd", desc := "(III)V", sig := { parameters := [.int, .int, .int], returnType := none }, accessFlags := 8, code := some k7c13 }
/-- java/lang/String -/
def k7 : Class := { plain "java/lang/String" (some 0) with
  accessFlags := 49
  interfaces := #[2, 3, 4, 5, 6]
  cf := some (fileOf pool7 10 #[.nestMembers #[1103]] #[{ accessFlags := 1, nameIndex := 5, descriptorIndex := 6, attributes := #[] }, { accessFlags := 1, nameIndex := 5, descriptorIndex := 1010, attributes := #[] }, { accessFlags := 1, nameIndex := 507, descriptorIndex := 334, attributes := #[] }, { accessFlags := 1, nameIndex := 497, descriptorIndex := 427, attributes := #[] }, { accessFlags := 1, nameIndex := 643, descriptorIndex := 765, attributes := #[] }, { accessFlags := 1, nameIndex := 643, descriptorIndex := 636, attributes := #[] }, { accessFlags := 1, nameIndex := 683, descriptorIndex := 892, attributes := #[] }, { accessFlags := 1, nameIndex := 683, descriptorIndex := 684, attributes := #[] }, { accessFlags := 2, nameIndex := 5, descriptorIndex := 29, attributes := #[] }, { accessFlags := 0, nameIndex := 5, descriptorIndex := 211, attributes := #[] }, { accessFlags := 0, nameIndex := 17, descriptorIndex := 337, attributes := #[] }, { accessFlags := 0, nameIndex := 494, descriptorIndex := 142, attributes := #[] }, { accessFlags := 8, nameIndex := 501, descriptorIndex := 391, attributes := #[] }, { accessFlags := 8, nameIndex := 523, descriptorIndex := 524, attributes := #[] }] 49 2 #[1106, 1108, 575, 1110, 1112] #[{ accessFlags := 18, nameIndex := 13, descriptorIndex := 14, attributes := #[] }, { accessFlags := 18, nameIndex := 17, descriptorIndex := 18, attributes := #[] }, { accessFlags := 2, nameIndex := 21, descriptorIndex := 22, attributes := #[] }, { accessFlags := 2, nameIndex := 25, descriptorIndex := 26, attributes := #[] }, { accessFlags := 26, nameIndex := 1116, descriptorIndex := 1117, attributes := #[] }, { accessFlags := 24, nameIndex := 40, descriptorIndex := 26, attributes := #[] }, { accessFlags := 26, nameIndex := 1101, descriptorIndex := 1102, attributes := #[] }, { accessFlags := 26, nameIndex := 1121, descriptorIndex := 1122, attributes := #[] }, { accessFlags := 25, nameIndex := 599, descriptorIndex := 600, attributes := #[] }, { accessFlags := 24, nameIndex := 1125, descriptorIndex := 18, attributes := #[] }, { accessFlags := 24, nameIndex := 1127, descriptorIndex := 18, attributes := #[] }])
  fields := #[{ name := "value", type := (.array .byte), accessFlags := 18, slot := 0, constantValue := 0 }, { name := "coder", type := .byte, accessFlags := 18, slot := 1, constantValue := 0 }, { name := "hash", type := .int, accessFlags := 2, slot := 2, constantValue := 0 }, { name := "hashIsZero", type := .boolean, accessFlags := 2, slot := 3, constantValue := 0 }, { name := "serialVersionUID", type := .long, accessFlags := 26, slot := 0, constantValue := 0 }, { name := "COMPACT_STRINGS", type := .boolean, accessFlags := 24, slot := 1, constantValue := 0 }, { name := "serialPersistentFields", type := (.array (.object "java/io/ObjectStreamField")), accessFlags := 26, slot := 2, constantValue := 0 }, { name := "REPL", type := .char, accessFlags := 26, slot := 3, constantValue := 0 }, { name := "CASE_INSENSITIVE_ORDER", type := (.object "java/util/Comparator"), accessFlags := 25, slot := 4, constantValue := 0 }, { name := "LATIN1", type := .byte, accessFlags := 24, slot := 5, constantValue := 0 }, { name := "UTF16", type := .byte, accessFlags := 24, slot := 6, constantValue := 0 }]
  methods := #[k7m0, k7m1, k7m2, k7m3, k7m4, k7m5, k7m6, k7m7, k7m8, k7m9, k7m10, k7m11, k7m12, k7m13]
  instanceTypes := #[(.array .byte), .byte, .int, .boolean]
  staticTypes := #[.long, .boolean, (.array (.object "java/io/ObjectStreamField")), .char, (.object "java/util/Comparator"), .byte, .byte]
  resolved := Array.replicate 1451 none
  statics := some 0 }

def pool8 : Array CpInfo := pool [(2, .class_ 4), (1, u "java/lang/Object"), (3, .class_ 10), (1, u "com/example/boxwright/boxwright/TableNames"), (0, u "tables"), (0, u "Ljava/util/SortedMap;"), (2, u "localNameUses"), (0, u "Ljava/util/Map;"), (19, .class_ 37), (0, u "java/lang/String"), (2, u "localName"), (0, u "(Ljava/lang/String;)Ljava/lang/String;"), (52, .methodref 36 95), (0, .nameAndType 96 97), (0, u "lastIndexOf"), (0, u "(I)I"), (0, .methodref 36 99), (0, .nameAndType 100 101), (0, u "substring"), (0, u "(I)Ljava/lang/String;")] 108

def k8c0 : Code := { maxStack := 3, maxLocals := 3, code := prog_23_method_3_code, exceptionTable := #[], attributes := #[] }
def k8m0 : Method := { name := "localName", desc := "(Ljava/lang/String;)Ljava/lang/String;", sig := { parameters := [(.object "java/lang/String")], returnType := some (.object "java/lang/String") }, accessFlags := 8, code := some k8c0 }
/-- com/example/boxwright/boxwright/TableNames -/
def k8 : Class := { plain "com/example/boxwright/boxwright/TableNames" (some 0) with
  accessFlags := 48
  interfaces := #[]
  cf := some (fileOf pool8 8 #[] #[{ accessFlags := 8, nameIndex := 40, descriptorIndex := 41, attributes := #[] }] 48 2 #[] #[{ accessFlags := 18, nameIndex := 11, descriptorIndex := 12, attributes := #[] }, { accessFlags := 18, nameIndex := 15, descriptorIndex := 16, attributes := #[] }])
  fields := #[{ name := "tables", type := (.object "java/util/SortedMap"), accessFlags := 18, slot := 0, constantValue := 0 }, { name := "localNameUses", type := (.object "java/util/Map"), accessFlags := 18, slot := 1, constantValue := 0 }]
  methods := #[k8m0]
  instanceTypes := #[(.object "java/util/SortedMap"), (.object "java/util/Map")]
  staticTypes := #[]
  resolved := Array.replicate 210 none
  statics := none }

def pool9 : Array CpInfo := pool [(1, .class_ 2), (0, u "java/lang/String"), (1, .class_ 6), (1, u "java/lang/Object"), (0, u "<init>"), (0, u "()V"), (0, .methodref 1 10), (0, .nameAndType 11 12), (0, u "checkIndex"), (0, u "(II)V"), (1, .class_ 16), (1, u "java/lang/StringLatin1"), (21, .methodref 39 40), (0, .class_ 41), (0, .nameAndType 42 43), (0, u "java/lang/Math"), (0, u "min"), (0, u "(II)I"), (9, u "([BI)C"), (34, .methodref 14 89), (0, .nameAndType 90 91), (0, u "canEncode"), (0, u "(I)Z"), (20, .methodref 1 113), (0, .nameAndType 7 114), (0, u "([BB)V"), (6, u "$assertionsDisabled"), (0, u "Z"), (8, .class_ 133), (1, u "java/util/Arrays"), (17, .string 152), (0, u ""), (43, u "newString"), (0, u "([BII)Ljava/lang/String;"), (23, .class_ 223), (1, u "java/lang/StringLatin1$LinesSpliterator"), (8, .methodref 131 233), (0, .nameAndType 234 235), (0, u "copyOfRange"), (0, u "([BII)[B"), (16, u "charAt"), (8, u "([BII)I"), (47, u "lastIndexOf"), (80, .class_ 391), (0, u "java/lang/StringLatin1$CharsSpliterator")] 3

def k9m0 : Method := { name := "<init>", desc := "()V", sig := { parameters := [], returnType := none }, accessFlags := 0, code := none }
def k9c1 : Code := { maxStack := 2, maxLocals := 2, code := jdk_43_method_2_code, exceptionTable := #[], attributes := #[] }
def k9m1 : Method := { name := "charAt", desc := "([BI)C", sig := { parameters := [(.array .byte), .int], returnType := some .char }, accessFlags := 9, code := some k9c1 }
def k9c2 : Code := { maxStack := 2, maxLocals := 1, code := jdk_43_method_4_code, exceptionTable := #[], attributes := #[] }
def k9m2 : Method := { name := "canEncode", desc := "(I)Z", sig := { parameters := [.int], returnType := some .boolean }, accessFlags := 9, code := some k9c2 }
def k9c3 : Code := { maxStack := 3, maxLocals := 4, code := jdk_43_method_27_code, exceptionTable := #[], attributes := #[] }
def k9m3 : Method := { name := "lastIndexOf", desc := "([BII)I", sig := { parameters := [(.array .byte), .int, .int], returnType := some .int }, accessFlags := 9, code := some k9c3 }
def k9c4 : Code := { maxStack := 6, maxLocals := 3, code := jdk_43_method_47_code, exceptionTable := #[], attributes := #[] }
def k9m4 : Method := { name := "newString", desc := "([BII)Ljava/lang/String;", sig := { parameters := [(.array .byte), .int, .int], returnType := some (.object "java/lang/String") }, accessFlags := 9, code := some k9c4 }
/-- java/lang/StringLatin1 -/
def k9 : Class := { plain "java/lang/StringLatin1" (some 0) with
  accessFlags := 48
  interfaces := #[]
  cf := some (fileOf pool9 14 #[.nestMembers #[390, 221]] #[{ accessFlags := 0, nameIndex := 7, descriptorIndex := 8, attributes := #[] }, { accessFlags := 9, nameIndex := 252, descriptorIndex := 53, attributes := #[] }, { accessFlags := 9, nameIndex := 90, descriptorIndex := 91, attributes := #[] }, { accessFlags := 9, nameIndex := 309, descriptorIndex := 261, attributes := #[] }, { accessFlags := 9, nameIndex := 196, descriptorIndex := 197, attributes := #[] }] 48 4 #[] #[{ accessFlags := 4120, nameIndex := 121, descriptorIndex := 122, attributes := #[] }])
  fields := #[{ name := "$assertionsDisabled", type := .boolean, accessFlags := 4120, slot := 0, constantValue := 0 }]
  methods := #[k9m0, k9m1, k9m2, k9m3, k9m4]
  instanceTypes := #[]
  staticTypes := #[.boolean]
  resolved := Array.replicate 395 none
  statics := none }

def pool10 : Array CpInfo := pool [(1, .class_ 2), (0, u "java/lang/Math"), (1, .class_ 6), (1, u "java/lang/Object"), (0, u "<init>"), (0, u "()V"), (89, .class_ 100), (1, u "java/lang/Math$RandomNumberGeneratorHolder"), (71, u "negativeZeroFloatBits"), (0, u "J"), (2, u "negativeZeroDoubleBits"), (24, u "min"), (43, u "$assertionsDisabled"), (0, u "Z"), (88, u "(II)I"), (2, u "twoToTheDoubleScaleDown"), (0, u "D"), (4, u "twoToTheDoubleScaleUp"), (9, u "E"), (3, u "PI"), (2, u "TAU"), (2, u "DEGREES_TO_RADIANS"), (0, u "RADIANS_TO_DEGREES")] 94

def k10m0 : Method := { name := "<init>", desc := "()V", sig := { parameters := [], returnType := none }, accessFlags := 2, code := none }
def k10c1 : Code := { maxStack := 2, maxLocals := 2, code := jdk_29_method_69_code, exceptionTable := #[], attributes := #[] }
def k10m1 : Method := { name := "min", desc := "(II)I", sig := { parameters := [.int, .int], returnType := some .int }, accessFlags := 9, code := some k10c1 }
/-- java/lang/Math -/
def k10 : Class := { plain "java/lang/Math" (some 0) with
  accessFlags := 49
  interfaces := #[]
  cf := some (fileOf pool10 1 #[.nestMembers #[98]] #[{ accessFlags := 2, nameIndex := 7, descriptorIndex := 8, attributes := #[] }, { accessFlags := 9, nameIndex := 201, descriptorIndex := 335, attributes := #[] }] 49 4 #[] #[{ accessFlags := 25, nameIndex := 354, descriptorIndex := 339, attributes := #[] }, { accessFlags := 25, nameIndex := 358, descriptorIndex := 339, attributes := #[] }, { accessFlags := 25, nameIndex := 361, descriptorIndex := 339, attributes := #[] }, { accessFlags := 26, nameIndex := 364, descriptorIndex := 339, attributes := #[] }, { accessFlags := 26, nameIndex := 365, descriptorIndex := 339, attributes := #[] }, { accessFlags := 26, nameIndex := 172, descriptorIndex := 173, attributes := #[] }, { accessFlags := 26, nameIndex := 176, descriptorIndex := 173, attributes := #[] }, { accessFlags := 8, nameIndex := 344, descriptorIndex := 339, attributes := #[] }, { accessFlags := 8, nameIndex := 338, descriptorIndex := 339, attributes := #[] }, { accessFlags := 4120, nameIndex := 245, descriptorIndex := 246, attributes := #[] }])
  fields := #[{ name := "E", type := .double, accessFlags := 25, slot := 0, constantValue := 0 }, { name := "PI", type := .double, accessFlags := 25, slot := 1, constantValue := 0 }, { name := "TAU", type := .double, accessFlags := 25, slot := 2, constantValue := 0 }, { name := "DEGREES_TO_RADIANS", type := .double, accessFlags := 26, slot := 3, constantValue := 0 }, { name := "RADIANS_TO_DEGREES", type := .double, accessFlags := 26, slot := 4, constantValue := 0 }, { name := "negativeZeroFloatBits", type := .long, accessFlags := 26, slot := 5, constantValue := 0 }, { name := "negativeZeroDoubleBits", type := .long, accessFlags := 26, slot := 6, constantValue := 0 }, { name := "twoToTheDoubleScaleUp", type := .double, accessFlags := 8, slot := 7, constantValue := 0 }, { name := "twoToTheDoubleScaleDown", type := .double, accessFlags := 8, slot := 8, constantValue := 0 }, { name := "$assertionsDisabled", type := .boolean, accessFlags := 4120, slot := 9, constantValue := 0 }]
  methods := #[k10m0, k10m1]
  instanceTypes := #[]
  staticTypes := #[.double, .double, .double, .double, .double, .long, .long, .double, .double, .boolean]
  resolved := Array.replicate 460 none
  statics := none }

def pool11 : Array CpInfo := pool [(2, .class_ 4), (1, u "java/lang/Object"), (0, u "<init>"), (0, u "()V"), (17, .class_ 26), (1, u "jdk/internal/util/Preconditions"), (6, u "checkIndex"), (13, u "checkFromToIndex"), (7, .class_ 56), (0, u "jdk/internal/util/Preconditions$4"), (57, .class_ 115), (0, u "jdk/internal/util/Preconditions$1"), (7, u "SIOOBE_FORMATTER"), (0, u "Ljava/util/function/BiFunction;"), (0, .class_ 126), (0, u "jdk/internal/util/Preconditions$2"), (3, u "AIOOBE_FORMATTER"), (0, .class_ 132), (0, u "jdk/internal/util/Preconditions$3"), (3, u "IOOBE_FORMATTER"), (41, u "(IILjava/util/function/BiFunction;)I"), (4, u "(IIILjava/util/function/BiFunction;)I")] 10

def k11m0 : Method := { name := "<init>", desc := "()V", sig := { parameters := [], returnType := none }, accessFlags := 1, code := none }
def k11c1 : Code := { maxStack := 3, maxLocals := 3, code := jdk_41_method_11_code, exceptionTable := #[], attributes := #[] }
def k11m1 : Method := { name := "checkIndex", desc := "(IILjava/util/function/BiFunction;)I", sig := { parameters := [.int, .int, (.object "java/util/function/BiFunction")], returnType := some .int }, accessFlags := 9, code := some k11c1 }
def k11c2 : Code := { maxStack := 4, maxLocals := 4, code := jdk_41_method_12_code, exceptionTable := #[], attributes := #[] }
def k11m2 : Method := { name := "checkFromToIndex", desc := "(IIILjava/util/function/BiFunction;)I", sig := { parameters := [.int, .int, .int, (.object "java/util/function/BiFunction")], returnType := some .int }, accessFlags := 9, code := some k11c2 }
/-- jdk/internal/util/Preconditions -/
def k11 : Class := { plain "jdk/internal/util/Preconditions" (some 0) with
  accessFlags := 33
  interfaces := #[]
  cf := some (fileOf pool11 24 #[.nestMembers #[55, 131, 125, 114]] #[{ accessFlags := 1, nameIndex := 5, descriptorIndex := 6, attributes := #[] }, { accessFlags := 9, nameIndex := 33, descriptorIndex := 178, attributes := #[] }, { accessFlags := 9, nameIndex := 47, descriptorIndex := 183, attributes := #[] }] 33 2 #[] #[{ accessFlags := 25, nameIndex := 123, descriptorIndex := 124, attributes := #[] }, { accessFlags := 25, nameIndex := 130, descriptorIndex := 124, attributes := #[] }, { accessFlags := 25, nameIndex := 136, descriptorIndex := 124, attributes := #[] }])
  fields := #[{ name := "SIOOBE_FORMATTER", type := (.object "java/util/function/BiFunction"), accessFlags := 25, slot := 0, constantValue := 0 }, { name := "AIOOBE_FORMATTER", type := (.object "java/util/function/BiFunction"), accessFlags := 25, slot := 1, constantValue := 0 }, { name := "IOOBE_FORMATTER", type := (.object "java/util/function/BiFunction"), accessFlags := 25, slot := 2, constantValue := 0 }]
  methods := #[k11m0, k11m1, k11m2]
  instanceTypes := #[]
  staticTypes := #[(.object "java/util/function/BiFunction"), (.object "java/util/function/BiFunction"), (.object "java/util/function/BiFunction")]
  resolved := Array.replicate 194 none
  statics := some 1 }

def pool12 : Array CpInfo := pool [(6, .class_ 8), (1, u "java/lang/Object"), (0, u "<init>"), (0, u "()V"), (1, .class_ 14), (1, u "java/lang/StringUTF16"), (31, u "$assertionsDisabled"), (0, u "Z"), (13, u "HI_BYTE_SHIFT"), (0, u "I"), (2, u "LO_BYTE_SHIFT"), (49, .methodref 12 116), (0, .nameAndType 117 118), (0, u "compress"), (0, u "([CI[BII)I"), (3, u "([CII)[B"), (138, u "coderFromArrayLen"), (0, u "([BI)B"), (106, .class_ 371), (1, u "java/lang/StringUTF16$LinesSpliterator"), (58, u "MAX_LENGTH"), (196, .class_ 628), (0, u "java/lang/StringUTF16$CodePointsSpliterator"), (0, .class_ 630), (0, u "java/lang/StringUTF16$CharsSpliterator")] 4

def k12m0 : Method := { name := "<init>", desc := "()V", sig := { parameters := [], returnType := none }, accessFlags := 0, code := none }
def k12c1 : Code := { maxStack := 2, maxLocals := 2, code := jdk_52_method_15_code, exceptionTable := #[], attributes := #[] }
def k12m1 : Method := { name := "coderFromArrayLen", desc := "([BI)B", sig := { parameters := [(.array .byte), .int], returnType := some .byte }, accessFlags := 8, code := some k12c1 }
def k12c2 : Code := { maxStack := 5, maxLocals := 6, code := jdk_52_method_16_code, exceptionTable := #[], attributes := #[] }
def k12m2 : Method := { name := "compress", desc := "([CII)[B", sig := { parameters := [(.array .char), .int, .int], returnType := some (.array .byte) }, accessFlags := 9, code := some k12c2 }
def k12c3 : Code := { maxStack := 3, maxLocals := 7, code := jdk_52_method_21_code, exceptionTable := #[], attributes := #[] }
def k12m3 : Method := { name := "compress", desc := "([CI[BII)I", sig := { parameters := [(.array .char), .int, (.array .byte), .int, .int], returnType := some .int }, accessFlags := 9, code := some k12c3 }
/-- java/lang/StringUTF16 -/
def k12 : Class := { plain "java/lang/StringUTF16" (some 0) with
  accessFlags := 48
  interfaces := #[]
  cf := some (fileOf pool12 12 #[.nestMembers #[627, 629, 369]] #[{ accessFlags := 0, nameIndex := 9, descriptorIndex := 10, attributes := #[] }, { accessFlags := 8, nameIndex := 261, descriptorIndex := 262, attributes := #[] }, { accessFlags := 9, nameIndex := 117, descriptorIndex := 122, attributes := #[] }, { accessFlags := 9, nameIndex := 117, descriptorIndex := 118, attributes := #[] }] 48 6 #[] #[{ accessFlags := 26, nameIndex := 61, descriptorIndex := 62, attributes := #[] }, { accessFlags := 26, nameIndex := 65, descriptorIndex := 62, attributes := #[] }, { accessFlags := 24, nameIndex := 430, descriptorIndex := 62, attributes := #[] }, { accessFlags := 4120, nameIndex := 46, descriptorIndex := 47, attributes := #[] }])
  fields := #[{ name := "HI_BYTE_SHIFT", type := .int, accessFlags := 26, slot := 0, constantValue := 0 }, { name := "LO_BYTE_SHIFT", type := .int, accessFlags := 26, slot := 1, constantValue := 0 }, { name := "MAX_LENGTH", type := .int, accessFlags := 24, slot := 2, constantValue := 0 }, { name := "$assertionsDisabled", type := .boolean, accessFlags := 4120, slot := 3, constantValue := 0 }]
  methods := #[k12m0, k12m1, k12m2, k12m3]
  instanceTypes := #[]
  staticTypes := #[.int, .int, .int, .boolean]
  resolved := Array.replicate 635 none
  statics := none }

def pool13 : Array CpInfo := pool [(2, .class_ 4), (1, u "java/lang/Object"), (0, u "<init>"), (0, u "()V"), (7, .class_ 16), (1, u "java/util/Arrays"), (57, .class_ 76), (1, u "java/util/Arrays$NaturalOrder"), (36, .class_ 115), (1, u "java/util/Arrays$LegacyMergeSort"), (1, u "Z"), (21, u "copyOfRange"), (10, .methodref 151 152), (0, .class_ 153), (0, .nameAndType 154 155), (0, u "java/lang/System"), (0, u "arraycopy"), (0, u "(Ljava/lang/Object;ILjava/lang/Object;II)V"), (148, .methodref 305 306), (0, .class_ 307), (0, .nameAndType 308 309), (0, u "java/lang/Math"), (0, u "min"), (0, u "(II)I"), (29, .methodref 14 340), (0, .nameAndType 341 342), (0, u "copyOfRangeByte"), (0, u "([BII)[B"), (0, .methodref 14 344), (0, .nameAndType 345 346), (0, u "checkLength"), (0, u "(II)V"), (28, .class_ 376), (0, u "java/util/Arrays$ArrayList"), (68, u "$assertionsDisabled"), (269, u "MIN_ARRAY_SORT_GRAN"), (0, u "I"), (2, u "INSERTIONSORT_THRESHOLD"), (255, .class_ 976), (0, u "java/util/Arrays$ArrayItr")] 52

def k13m0 : Method := { name := "<init>", desc := "()V", sig := { parameters := [], returnType := none }, accessFlags := 2, code := none }
def k13c1 : Code := { maxStack := 4, maxLocals := 2, code := jdk_65_method_131_code, exceptionTable := #[], attributes := #[] }
def k13m1 : Method := { name := "checkLength", desc := "(II)V", sig := { parameters := [.int, .int], returnType := none }, accessFlags := 10, code := some k13c1 }
def k13c2 : Code := { maxStack := 3, maxLocals := 3, code := jdk_65_method_132_code, exceptionTable := #[], attributes := #[] }
def k13m2 : Method := { name := "copyOfRange", desc := "([BII)[B", sig := { parameters := [(.array .byte), .int, .int], returnType := some (.array .byte) }, accessFlags := 9, code := some k13c2 }
def k13c3 : Code := { maxStack := 6, maxLocals := 5, code := jdk_65_method_133_code, exceptionTable := #[], attributes := #[] }
def k13m3 : Method := { name := "copyOfRangeByte", desc := "([BII)[B", sig := { parameters := [(.array .byte), .int, .int], returnType := some (.array .byte) }, accessFlags := 10, code := some k13c3 }
/-- java/util/Arrays -/
def k13 : Class := { plain "java/util/Arrays" (some 0) with
  accessFlags := 49
  interfaces := #[]
  cf := some (fileOf pool13 14 #[.nestMembers #[975, 375, 113, 74]] #[{ accessFlags := 2, nameIndex := 5, descriptorIndex := 6, attributes := #[] }, { accessFlags := 10, nameIndex := 345, descriptorIndex := 346, attributes := #[] }, { accessFlags := 9, nameIndex := 139, descriptorIndex := 342, attributes := #[] }, { accessFlags := 10, nameIndex := 341, descriptorIndex := 342, attributes := #[] }] 49 2 #[] #[{ accessFlags := 26, nameIndex := 715, descriptorIndex := 716, attributes := #[] }, { accessFlags := 26, nameIndex := 719, descriptorIndex := 716, attributes := #[] }, { accessFlags := 4120, nameIndex := 445, descriptorIndex := 117, attributes := #[] }])
  fields := #[{ name := "MIN_ARRAY_SORT_GRAN", type := .int, accessFlags := 26, slot := 0, constantValue := 0 }, { name := "INSERTIONSORT_THRESHOLD", type := .int, accessFlags := 26, slot := 1, constantValue := 0 }, { name := "$assertionsDisabled", type := .boolean, accessFlags := 4120, slot := 2, constantValue := 0 }]
  methods := #[k13m0, k13m1, k13m2, k13m3]
  instanceTypes := #[]
  staticTypes := #[.int, .int, .boolean]
  resolved := Array.replicate 1029 none
  statics := none }

def pool14 : Array CpInfo := pool [(2, .class_ 4), (1, u "java/lang/Object"), (0, u "<init>"), (0, u "()V"), (1, .class_ 10), (1, u "java/lang/System"), (0, u "allowSecurityManager"), (0, u "I"), (16, u "cons"), (0, u "Ljava/io/Console;"), (77, .class_ 110), (1, u "java/lang/System$CallersHolder"), (43, u "initialErrStream"), (0, u "Ljava/io/PrintStream;"), (19, u "security"), (0, u "Ljava/lang/SecurityManager;"), (31, .class_ 209), (0, u "java/lang/System$1"), (7, u "props"), (0, u "Ljava/util/Properties;"), (2, u "lineSeparator"), (0, u "Ljava/lang/String;"), (96, .class_ 321), (1, u "java/lang/System$LoggerFinder"), (5, .class_ 328), (0, u "java/lang/System$Logger"), (67, u "err"), (2, u "out"), (91, u "notSupportedJnuEncoding"), (15, u "in"), (17, u "initialIn"), (0, u "Ljava/io/InputStream;"), (35, u "bootLayer"), (0, u "Ljava/lang/ModuleLayer;"), (99, .class_ 664), (0, u "java/lang/System$2"), (9, u "NEVER"), (2, u "MAYBE"), (49, u "arraycopy"), (0, u "(Ljava/lang/Object;ILjava/lang/Object;II)V"), (72, .class_ 802), (0, u "java/lang/System$Logger$Level")] 31

def k14m0 : Method := { name := "<init>", desc := "()V", sig := { parameters := [], returnType := none }, accessFlags := 2, code := none }
def k14m1 : Method := { name := "arraycopy", desc := "(Ljava/lang/Object;ILjava/lang/Object;II)V", sig := { parameters := [(.object "java/lang/Object"), .int, (.object "java/lang/Object"), .int, .int], returnType := none }, accessFlags := 265, code := none }
/-- java/lang/System -/
def k14 : Class := { plain "java/lang/System" (some 0) with
  accessFlags := 49
  interfaces := #[]
  cf := some (fileOf pool14 8 #[.nestMembers #[319, 327, 801, 108, 663, 208]] #[{ accessFlags := 2, nameIndex := 5, descriptorIndex := 6, attributes := #[] }, { accessFlags := 265, nameIndex := 727, descriptorIndex := 728, attributes := #[] }] 49 2 #[] #[{ accessFlags := 25, nameIndex := 507, descriptorIndex := 526, attributes := #[] }, { accessFlags := 25, nameIndex := 399, descriptorIndex := 155, attributes := #[] }, { accessFlags := 25, nameIndex := 396, descriptorIndex := 155, attributes := #[] }, { accessFlags := 10, nameIndex := 525, descriptorIndex := 526, attributes := #[] }, { accessFlags := 26, nameIndex := 674, descriptorIndex := 12, attributes := #[] }, { accessFlags := 26, nameIndex := 677, descriptorIndex := 12, attributes := #[] }, { accessFlags := 10, nameIndex := 11, descriptorIndex := 12, attributes := #[] }, { accessFlags := 74, nameIndex := 175, descriptorIndex := 176, attributes := #[] }, { accessFlags := 10, nameIndex := 491, descriptorIndex := 222, attributes := #[] }, { accessFlags := 74, nameIndex := 29, descriptorIndex := 30, attributes := #[] }, { accessFlags := 74, nameIndex := 154, descriptorIndex := 155, attributes := #[] }, { accessFlags := 10, nameIndex := 217, descriptorIndex := 218, attributes := #[] }, { accessFlags := 10, nameIndex := 221, descriptorIndex := 222, attributes := #[] }, { accessFlags := 8, nameIndex := 562, descriptorIndex := 563, attributes := #[] }])
  fields := #[{ name := "in", type := (.object "java/io/InputStream"), accessFlags := 25, slot := 0, constantValue := 0 }, { name := "out", type := (.object "java/io/PrintStream"), accessFlags := 25, slot := 1, constantValue := 0 }, { name := "err", type := (.object "java/io/PrintStream"), accessFlags := 25, slot := 2, constantValue := 0 }, { name := "initialIn", type := (.object "java/io/InputStream"), accessFlags := 10, slot := 3, constantValue := 0 }, { name := "NEVER", type := .int, accessFlags := 26, slot := 4, constantValue := 0 }, { name := "MAYBE", type := .int, accessFlags := 26, slot := 5, constantValue := 0 }, { name := "allowSecurityManager", type := .int, accessFlags := 10, slot := 6, constantValue := 0 }, { name := "security", type := (.object "java/lang/SecurityManager"), accessFlags := 74, slot := 7, constantValue := 0 }, { name := "notSupportedJnuEncoding", type := (.object "java/lang/String"), accessFlags := 10, slot := 8, constantValue := 0 }, { name := "cons", type := (.object "java/io/Console"), accessFlags := 74, slot := 9, constantValue := 0 }, { name := "initialErrStream", type := (.object "java/io/PrintStream"), accessFlags := 74, slot := 10, constantValue := 0 }, { name := "props", type := (.object "java/util/Properties"), accessFlags := 10, slot := 11, constantValue := 0 }, { name := "lineSeparator", type := (.object "java/lang/String"), accessFlags := 10, slot := 12, constantValue := 0 }, { name := "bootLayer", type := (.object "java/lang/ModuleLayer"), accessFlags := 8, slot := 13, constantValue := 0 }]
  methods := #[k14m0, k14m1]
  instanceTypes := #[]
  staticTypes := #[(.object "java/io/InputStream"), (.object "java/io/PrintStream"), (.object "java/io/PrintStream"), (.object "java/io/InputStream"), .int, .int, .int, (.object "java/lang/SecurityManager"), (.object "java/lang/String"), (.object "java/io/Console"), (.object "java/io/PrintStream"), (.object "java/util/Properties"), (.object "java/lang/String"), (.object "java/lang/ModuleLayer")]
  resolved := Array.replicate 834 none
  statics := none }

def pool15 : Array CpInfo := pool [(9, u "<init>"), (6, .class_ 18), (1, u "java/lang/Object"), (0, u "()V"), (1, .class_ 23), (1, u "jdk/internal/util/ArraysSupport"), (0, u "LOG2_ARRAY_LONG_INDEX_SCALE"), (0, u "I"), (2, u "U"), (0, u "Ljdk/internal/misc/Unsafe;"), (8, u "BIG_ENDIAN"), (0, u "Z"), (8, u "LOG2_BYTE_BIT_SIZE"), (4, u "LOG2_ARRAY_INT_INDEX_SCALE"), (54, u "JLA"), (0, u "Ljdk/internal/access/JavaLangAccess;"), (11, u "LOG2_ARRAY_BOOLEAN_INDEX_SCALE"), (9, u "LOG2_ARRAY_BYTE_INDEX_SCALE"), (5, u "LOG2_ARRAY_CHAR_INDEX_SCALE"), (5, u "LOG2_ARRAY_SHORT_INDEX_SCALE"), (18, u "LOG2_ARRAY_FLOAT_INDEX_SCALE"), (24, u "LOG2_ARRAY_DOUBLE_INDEX_SCALE"), (89, u "T_BOOLEAN"), (2, u "T_CHAR"), (1, u "T_FLOAT"), (1, u "T_DOUBLE"), (1, u "T_BYTE"), (1, u "T_SHORT"), (1, u "T_INT"), (1, u "T_LONG"), (1, u "SOFT_MAX_ARRAY_LENGTH")] 83

def k15m0 : Method := { name := "<init>", desc := "()V", sig := { parameters := [], returnType := none }, accessFlags := 2, code := none }
/-- jdk/internal/util/ArraysSupport -/
def k15 : Class := { plain "jdk/internal/util/ArraysSupport" (some 0) with
  accessFlags := 33
  interfaces := #[]
  cf := some (fileOf pool15 21 #[] #[{ accessFlags := 2, nameIndex := 9, descriptorIndex := 19, attributes := #[] }] 33 16 #[] #[{ accessFlags := 24, nameIndex := 28, descriptorIndex := 29, attributes := #[] }, { accessFlags := 26, nameIndex := 38, descriptorIndex := 39, attributes := #[] }, { accessFlags := 25, nameIndex := 121, descriptorIndex := 25, attributes := #[] }, { accessFlags := 25, nameIndex := 131, descriptorIndex := 25, attributes := #[] }, { accessFlags := 25, nameIndex := 137, descriptorIndex := 25, attributes := #[] }, { accessFlags := 25, nameIndex := 143, descriptorIndex := 25, attributes := #[] }, { accessFlags := 25, nameIndex := 53, descriptorIndex := 25, attributes := #[] }, { accessFlags := 25, nameIndex := 24, descriptorIndex := 25, attributes := #[] }, { accessFlags := 25, nameIndex := 162, descriptorIndex := 25, attributes := #[] }, { accessFlags := 25, nameIndex := 187, descriptorIndex := 25, attributes := #[] }, { accessFlags := 26, nameIndex := 48, descriptorIndex := 25, attributes := #[] }, { accessFlags := 25, nameIndex := 277, descriptorIndex := 25, attributes := #[] }, { accessFlags := 25, nameIndex := 280, descriptorIndex := 25, attributes := #[] }, { accessFlags := 25, nameIndex := 282, descriptorIndex := 25, attributes := #[] }, { accessFlags := 25, nameIndex := 284, descriptorIndex := 25, attributes := #[] }, { accessFlags := 25, nameIndex := 286, descriptorIndex := 25, attributes := #[] }, { accessFlags := 25, nameIndex := 288, descriptorIndex := 25, attributes := #[] }, { accessFlags := 25, nameIndex := 290, descriptorIndex := 25, attributes := #[] }, { accessFlags := 25, nameIndex := 292, descriptorIndex := 25, attributes := #[] }, { accessFlags := 26, nameIndex := 108, descriptorIndex := 109, attributes := #[] }, { accessFlags := 25, nameIndex := 294, descriptorIndex := 25, attributes := #[] }])
  fields := #[{ name := "U", type := (.object "jdk/internal/misc/Unsafe"), accessFlags := 24, slot := 0, constantValue := 0 }, { name := "BIG_ENDIAN", type := .boolean, accessFlags := 26, slot := 1, constantValue := 0 }, { name := "LOG2_ARRAY_BOOLEAN_INDEX_SCALE", type := .int, accessFlags := 25, slot := 2, constantValue := 0 }, { name := "LOG2_ARRAY_BYTE_INDEX_SCALE", type := .int, accessFlags := 25, slot := 3, constantValue := 0 }, { name := "LOG2_ARRAY_CHAR_INDEX_SCALE", type := .int, accessFlags := 25, slot := 4, constantValue := 0 }, { name := "LOG2_ARRAY_SHORT_INDEX_SCALE", type := .int, accessFlags := 25, slot := 5, constantValue := 0 }, { name := "LOG2_ARRAY_INT_INDEX_SCALE", type := .int, accessFlags := 25, slot := 6, constantValue := 0 }, { name := "LOG2_ARRAY_LONG_INDEX_SCALE", type := .int, accessFlags := 25, slot := 7, constantValue := 0 }, { name := "LOG2_ARRAY_FLOAT_INDEX_SCALE", type := .int, accessFlags := 25, slot := 8, constantValue := 0 }, { name := "LOG2_ARRAY_DOUBLE_INDEX_SCALE", type := .int, accessFlags := 25, slot := 9, constantValue := 0 }, { name := "LOG2_BYTE_BIT_SIZE", type := .int, accessFlags := 26, slot := 10, constantValue := 0 }, { name := "T_BOOLEAN", type := .int, accessFlags := 25, slot := 11, constantValue := 0 }, { name := "T_CHAR", type := .int, accessFlags := 25, slot := 12, constantValue := 0 }, { name := "T_FLOAT", type := .int, accessFlags := 25, slot := 13, constantValue := 0 }, { name := "T_DOUBLE", type := .int, accessFlags := 25, slot := 14, constantValue := 0 }, { name := "T_BYTE", type := .int, accessFlags := 25, slot := 15, constantValue := 0 }, { name := "T_SHORT", type := .int, accessFlags := 25, slot := 16, constantValue := 0 }, { name := "T_INT", type := .int, accessFlags := 25, slot := 17, constantValue := 0 }, { name := "T_LONG", type := .int, accessFlags := 25, slot := 18, constantValue := 0 }, { name := "JLA", type := (.object "jdk/internal/access/JavaLangAccess"), accessFlags := 26, slot := 19, constantValue := 0 }, { name := "SOFT_MAX_ARRAY_LENGTH", type := .int, accessFlags := 25, slot := 20, constantValue := 0 }]
  methods := #[k15m0]
  instanceTypes := #[]
  staticTypes := #[(.object "jdk/internal/misc/Unsafe"), .boolean, .int, .int, .int, .int, .int, .int, .int, .int, .int, .int, .int, .int, .int, .int, .int, .int, .int, (.object "jdk/internal/access/JavaLangAccess"), .int]
  resolved := Array.replicate 378 none
  statics := none }

def pool16 : Array CpInfo := pool [(1, u "java/lang/Cloneable"), (0, .class_ 1), (0, u "java/lang/Object"), (0, .class_ 3)] 3

/-- java/lang/Cloneable -/
def k16 : Class := { plain "java/lang/Cloneable" (some 0) with
  accessFlags := 1537
  interfaces := #[]
  cf := some (fileOf pool16 2 #[] #[] 1537 4 #[] #[])
  fields := #[]
  methods := #[]
  instanceTypes := #[]
  staticTypes := #[]
  resolved := Array.replicate 8 none
  statics := none }

/-- the primitive byte -/
def k17 : Class := { plain "byte" none with kind := .primitive 'B', accessFlags := 0x411 }
/-- [B -/
def k18 : Class := { plain "[B" (some 0) with kind := .array 17 .byte, interfaces := #[16, 2], accessFlags := 1041 }

/-- the primitive char -/
def k19 : Class := { plain "char" none with kind := .primitive 'C', accessFlags := 0x411 }
/-- [C -/
def k20 : Class := { plain "[C" (some 0) with kind := .array 19 .char, interfaces := #[16, 2], accessFlags := 1041 }

/-- the primitive int -/
def k21 : Class := { plain "int" none with kind := .primitive 'I', accessFlags := 0x411 }
/-- [I -/
def k22 : Class := { plain "[I" (some 0) with kind := .array 21 .int, interfaces := #[16, 2], accessFlags := 1041 }

def heap : Heap := #[{ cls := 7, slots := #[.long 0, .int 1, .null, .int 0, .null, .int 0, .int 0], vm := .statics 7 },
  { cls := 11, slots := #[.null, .null, .null], vm := .statics 11 }]
def classes : Array Class := #[k0, k1, k2, k3, k4, k5, k6, k7, k8, k9, k10, k11, k12, k13, k14, k15, k16, k17, k18, k19, k20, k21, k22]
def interned : List (Array UInt16 × Addr) := []
def slotsUsed : Nat := 10
def theMethod : MethodId := ⟨1, 1⟩
def args0 : Array Value := #[.int 3, .int 2, .int 3, .int 4, .int 5, .int 6]
def aboutOver (below : List Frame) : State where
  vm := { classes := classes, interned := interned.toArray }
  heap := heap
  slotsUsed := slotsUsed
  threads := #[{ frames := .invoking theMethod args0 :: below }]
def below0 : List Frame := [.native { method := ⟨0, 0⟩, args := #[] }]
def about1 : State := aboutOver below0
def p0 : Program := .bare "" "" ""
def e0 : Env := launch0.env 0 0 0
theorem w_frames : about1.frames = Frame.invoking theMethod args0 :: below0 := rfl
set_option maxRecDepth 65536 in
theorem w_args : argsFit about1.vm theMethod args0 = true := by decide +kernel
set_option maxRecDepth 65536 in
theorem w_heap : heapFits about1 = true := by decide +kernel
set_option maxRecDepth 65536 in
theorem w_runnable : about1.curStatus? = some .runnable := by decide +kernel
set_option maxRecDepth 65536 in
theorem w_alone : about1.alone = true := by decide +kernel
set_option maxRecDepth 65536 in
theorem w_named : about1.methodNamed? x = some theMethod := by decide +kernel
set_option maxRecDepth 65536 in
theorem w_hears : about1.hears theMethod below0 = true := by decide +kernel
set_option maxRecDepth 65536 in
theorem w_ripe : about1.ripe theMethod args0 below0 = true := by decide +kernel
theorem w_running : about1.status = .running := rfl
set_option maxRecDepth 65536 in
theorem w_room : about1.hasRoom e0.platform room_1 = true :=
  launch0.hasRoom_least _ room_1 (by decide +kernel) (by decide +kernel) (by decide +kernel) (by decide +kernel) (by decide +kernel) (by decide +kernel)
theorem allAtoms_all (ts : List Jvm.Cond) (a : Array Jvm.Value) (st : Jvm.State) : (allAtoms ts).before a st = ts.all (fun c => c.before a st) := by
  induction ts with
  | nil => rfl
  | cons c t ih =>
    show (Jvm.Cond.and c (allAtoms t)).before a st = _
    rw [Jvm.Cond.before_and, ih, List.all_cons]
def words1 : List Jvm.Cond := Jvm.Cond.code x code maxLocals ret :: tables_1
/-- a 'code' word, met by the world's own term for the bytes: nothing is compared byte by byte -/
theorem code_word {y : MethodName} {bytes : ByteArray} {mx : Nat} {rt : Option FieldType} {a : Array Value} {s : State} {m : MethodId} {meth : Method} {c : Code} (h1 : s.methodNamed? y = some m) (h2 : s.vm.method? m = some meth) (h3 : meth.code = some c) (h4 : c.code = bytes)
    (h5 : (c.maxLocals == mx && c.exceptionTable.isEmpty && decide (c.maxStack ≤ mostOperands) && decide (meth.sig.returnType = rt) && !meth.locks && decide (parseMethodDescriptor y.desc = some meth.sig)) = true) : (Jvm.Cond.code y bytes mx rt).before a s = true := by
  simp only [Bool.and_eq_true, beq_iff_eq, Bool.not_eq_true', decide_eq_true_eq] at h5
  obtain ⟨⟨⟨⟨⟨g1, g2⟩, g3⟩, g4⟩, g5⟩, g6⟩ := h5
  simp [Cond.before, Cond.holds, Cond.value, h1, h2, h3, h4, g1, g2, g3, g4, g5, g6]
def isCode : Jvm.Cond → Bool
  | .code _ _ _ _ => true
  | _ => false
theorem all_split {L : List Jvm.Cond} {P : Jvm.Cond → Bool} (h1 : L.all (fun c => isCode c || P c) = true) (h2 : ∀ c ∈ L.filter isCode, P c = true) : L.all P = true := by
  refine List.all_eq_true.mpr fun c hc => ?_
  have h := List.all_eq_true.mp h1 c hc
  rcases Bool.eq_false_or_eq_true (isCode c) with hi | hi
  · exact h2 c (List.mem_filter.mpr ⟨hc, hi⟩)
  · simpa [hi] using h
set_option maxRecDepth 65536 in
theorem w_c0 : (Jvm.Cond.code x code maxLocals ret).before args0 about1 = true := code_word (m := ⟨1, 1⟩) (meth := k1m1) (c := k1c1) (by decide +kernel) rfl rfl rfl (by decide +kernel)
set_option maxRecDepth 65536 in
theorem w_c1 : (Jvm.Cond.code ({ cls := "com/example/boxwright/boxwright/TableNamesLocalNamePinLaw", name := "pick", desc := "(I)C" } : Jvm.MethodName) method_3_code (2 : Nat) (Option.some Jvm.ClassFile.FieldType.char)).before args0 about1 = true := code_word (m := ⟨1, 2⟩) (meth := k1m2) (c := k1c2) (by decide +kernel) rfl rfl rfl (by decide +kernel)
set_option maxRecDepth 65536 in
theorem w_c2 : (Jvm.Cond.code ({ cls := "com/example/boxwright/boxwright/TableNamesLocalNamePinLaw", name := "make", desc := "(ICCCCC)Ljava/lang/String;" } : Jvm.MethodName) method_4_code (6 : Nat) (Option.some (Jvm.ClassFile.FieldType.object "java/lang/String"))).before args0 about1 = true := code_word (m := ⟨1, 3⟩) (meth := k1m3) (c := k1c3) (by decide +kernel) rfl rfl rfl (by decide +kernel)
set_option maxRecDepth 65536 in
theorem w_c3 : (Jvm.Cond.code ({ cls := "java/lang/String", name := "<init>", desc := "([C)V" } : Jvm.MethodName) jdk_42_method_3_code (2 : Nat) (Option.none : Option Jvm.ClassFile.FieldType)).before args0 about1 = true := code_word (m := ⟨7, 1⟩) (meth := k7m1) (c := k7c1) (by decide +kernel) rfl rfl rfl (by decide +kernel)
set_option maxRecDepth 65536 in
theorem w_c4 : (Jvm.Cond.code ({ cls := "java/lang/String", name := "<init>", desc := "([CIILjava/lang/Void;)V" } : Jvm.MethodName) jdk_42_method_149_code (6 : Nat) (Option.none : Option Jvm.ClassFile.FieldType)).before args0 about1 = true := code_word (m := ⟨7, 8⟩) (meth := k7m8) (c := k7c8) (by decide +kernel) rfl rfl rfl (by decide +kernel)
set_option maxRecDepth 65536 in
theorem w_c5 : (Jvm.Cond.code ({ cls := "java/lang/Object", name := "<init>", desc := "()V" } : Jvm.MethodName) object_method_1_code (1 : Nat) (Option.none : Option Jvm.ClassFile.FieldType)).before args0 about1 = true := code_word (m := ⟨0, 0⟩) (meth := k0m0) (c := k0c0) (by decide +kernel) rfl rfl rfl (by decide +kernel)
set_option maxRecDepth 65536 in
theorem w_c6 : (Jvm.Cond.code ({ cls := "com/example/boxwright/boxwright/TableNames", name := "localName", desc := "(Ljava/lang/String;)Ljava/lang/String;" } : Jvm.MethodName) prog_23_method_3_code (3 : Nat) (Option.some (Jvm.ClassFile.FieldType.object "java/lang/String"))).before args0 about1 = true := code_word (m := ⟨8, 0⟩) (meth := k8m0) (c := k8c0) (by decide +kernel) rfl rfl rfl (by decide +kernel)
set_option maxRecDepth 65536 in
theorem w_c7 : (Jvm.Cond.code ({ cls := "java/lang/String", name := "lastIndexOf", desc := "(I)I" } : Jvm.MethodName) jdk_42_method_82_code (2 : Nat) (Option.some Jvm.ClassFile.FieldType.int)).before args0 about1 = true := code_word (m := ⟨7, 4⟩) (meth := k7m4) (c := k7c4) (by decide +kernel) rfl rfl rfl (by decide +kernel)
set_option maxRecDepth 65536 in
theorem w_c8 : (Jvm.Cond.code ({ cls := "java/lang/String", name := "length", desc := "()I" } : Jvm.MethodName) jdk_42_method_54_code (1 : Nat) (Option.some Jvm.ClassFile.FieldType.int)).before args0 about1 = true := code_word (m := ⟨7, 2⟩) (meth := k7m2) (c := k7c2) (by decide +kernel) rfl rfl rfl (by decide +kernel)
set_option maxRecDepth 65536 in
theorem w_c9 : (Jvm.Cond.code ({ cls := "java/lang/String", name := "coder", desc := "()B" } : Jvm.MethodName) jdk_42_method_152_code (1 : Nat) (Option.some Jvm.ClassFile.FieldType.byte)).before args0 about1 = true := code_word (m := ⟨7, 10⟩) (meth := k7m10) (c := k7c10) (by decide +kernel) rfl rfl rfl (by decide +kernel)
set_option maxRecDepth 65536 in
theorem w_c10 : (Jvm.Cond.code ({ cls := "java/lang/String", name := "lastIndexOf", desc := "(II)I" } : Jvm.MethodName) jdk_42_method_83_code (3 : Nat) (Option.some Jvm.ClassFile.FieldType.int)).before args0 about1 = true := code_word (m := ⟨7, 5⟩) (meth := k7m5) (c := k7c5) (by decide +kernel) rfl rfl rfl (by decide +kernel)
set_option maxRecDepth 65536 in
theorem w_c11 : (Jvm.Cond.code ({ cls := "java/lang/String", name := "isLatin1", desc := "()Z" } : Jvm.MethodName) jdk_42_method_154_code (1 : Nat) (Option.some Jvm.ClassFile.FieldType.boolean)).before args0 about1 = true := code_word (m := ⟨7, 11⟩) (meth := k7m11) (c := k7c11) (by decide +kernel) rfl rfl rfl (by decide +kernel)
set_option maxRecDepth 65536 in
theorem w_c12 : (Jvm.Cond.code ({ cls := "java/lang/StringLatin1", name := "lastIndexOf", desc := "([BII)I" } : Jvm.MethodName) jdk_43_method_27_code (4 : Nat) (Option.some Jvm.ClassFile.FieldType.int)).before args0 about1 = true := code_word (m := ⟨9, 3⟩) (meth := k9m3) (c := k9c3) (by decide +kernel) rfl rfl rfl (by decide +kernel)
set_option maxRecDepth 65536 in
theorem w_c13 : (Jvm.Cond.code ({ cls := "java/lang/StringLatin1", name := "canEncode", desc := "(I)Z" } : Jvm.MethodName) jdk_43_method_4_code (1 : Nat) (Option.some Jvm.ClassFile.FieldType.boolean)).before args0 about1 = true := code_word (m := ⟨9, 2⟩) (meth := k9m2) (c := k9c2) (by decide +kernel) rfl rfl rfl (by decide +kernel)
set_option maxRecDepth 65536 in
theorem w_c14 : (Jvm.Cond.code ({ cls := "java/lang/Math", name := "min", desc := "(II)I" } : Jvm.MethodName) jdk_29_method_69_code (2 : Nat) (Option.some Jvm.ClassFile.FieldType.int)).before args0 about1 = true := code_word (m := ⟨10, 1⟩) (meth := k10m1) (c := k10c1) (by decide +kernel) rfl rfl rfl (by decide +kernel)
set_option maxRecDepth 65536 in
theorem w_c15 : (Jvm.Cond.code ({ cls := "java/lang/String", name := "substring", desc := "(I)Ljava/lang/String;" } : Jvm.MethodName) jdk_42_method_91_code (2 : Nat) (Option.some (Jvm.ClassFile.FieldType.object "java/lang/String"))).before args0 about1 = true := code_word (m := ⟨7, 6⟩) (meth := k7m6) (c := k7c6) (by decide +kernel) rfl rfl rfl (by decide +kernel)
set_option maxRecDepth 65536 in
theorem w_c16 : (Jvm.Cond.code ({ cls := "java/lang/String", name := "substring", desc := "(II)Ljava/lang/String;" } : Jvm.MethodName) jdk_42_method_92_code (5 : Nat) (Option.some (Jvm.ClassFile.FieldType.object "java/lang/String"))).before args0 about1 = true := code_word (m := ⟨7, 7⟩) (meth := k7m7) (c := k7c7) (by decide +kernel) rfl rfl rfl (by decide +kernel)
set_option maxRecDepth 65536 in
theorem w_c17 : (Jvm.Cond.code ({ cls := "java/lang/String", name := "checkBoundsBeginEnd", desc := "(III)V" } : Jvm.MethodName) jdk_42_method_158_code (3 : Nat) (Option.none : Option Jvm.ClassFile.FieldType)).before args0 about1 = true := code_word (m := ⟨7, 13⟩) (meth := k7m13) (c := k7c13) (by decide +kernel) rfl rfl rfl (by decide +kernel)
set_option maxRecDepth 65536 in
theorem w_c18 : (Jvm.Cond.code ({ cls := "jdk/internal/util/Preconditions", name := "checkFromToIndex", desc := "(IIILjava/util/function/BiFunction;)I" } : Jvm.MethodName) jdk_41_method_12_code (4 : Nat) (Option.some Jvm.ClassFile.FieldType.int)).before args0 about1 = true := code_word (m := ⟨11, 2⟩) (meth := k11m2) (c := k11c2) (by decide +kernel) rfl rfl rfl (by decide +kernel)
set_option maxRecDepth 65536 in
theorem w_c19 : (Jvm.Cond.code ({ cls := "com/example/boxwright/boxwright/TableNamesLocalNamePinLaw", name := "last", desc := "([CIC)I" } : Jvm.MethodName) method_5_code (4 : Nat) (Option.some Jvm.ClassFile.FieldType.int)).before args0 about1 = true := code_word (m := ⟨1, 4⟩) (meth := k1m4) (c := k1c4) (by decide +kernel) rfl rfl rfl (by decide +kernel)
set_option maxRecDepth 65536 in
theorem w_c20 : (Jvm.Cond.code ({ cls := "com/example/boxwright/boxwright/TableNamesLocalNamePinLaw", name := "at", desc := "(Ljava/lang/String;[CIII)Z" } : Jvm.MethodName) method_6_code (5 : Nat) (Option.some Jvm.ClassFile.FieldType.boolean)).before args0 about1 = true := code_word (m := ⟨1, 5⟩) (meth := k1m5) (c := k1c5) (by decide +kernel) rfl rfl rfl (by decide +kernel)
set_option maxRecDepth 65536 in
theorem w_c21 : (Jvm.Cond.code ({ cls := "java/lang/StringUTF16", name := "compress", desc := "([CII)[B" } : Jvm.MethodName) jdk_52_method_16_code (6 : Nat) (Option.some (Jvm.ClassFile.FieldType.array Jvm.ClassFile.FieldType.byte))).before args0 about1 = true := code_word (m := ⟨12, 2⟩) (meth := k12m2) (c := k12c2) (by decide +kernel) rfl rfl rfl (by decide +kernel)
set_option maxRecDepth 65536 in
theorem w_c22 : (Jvm.Cond.code ({ cls := "java/lang/StringUTF16", name := "compress", desc := "([CI[BII)I" } : Jvm.MethodName) jdk_52_method_21_code (7 : Nat) (Option.some Jvm.ClassFile.FieldType.int)).before args0 about1 = true := code_word (m := ⟨12, 3⟩) (meth := k12m3) (c := k12c3) (by decide +kernel) rfl rfl rfl (by decide +kernel)
set_option maxRecDepth 65536 in
theorem w_c23 : (Jvm.Cond.code ({ cls := "java/lang/StringUTF16", name := "coderFromArrayLen", desc := "([BI)B" } : Jvm.MethodName) jdk_52_method_15_code (2 : Nat) (Option.some Jvm.ClassFile.FieldType.byte)).before args0 about1 = true := code_word (m := ⟨12, 1⟩) (meth := k12m1) (c := k12c1) (by decide +kernel) rfl rfl rfl (by decide +kernel)
set_option maxRecDepth 65536 in
theorem w_c24 : (Jvm.Cond.code ({ cls := "java/lang/StringLatin1", name := "newString", desc := "([BII)Ljava/lang/String;" } : Jvm.MethodName) jdk_43_method_47_code (3 : Nat) (Option.some (Jvm.ClassFile.FieldType.object "java/lang/String"))).before args0 about1 = true := code_word (m := ⟨9, 4⟩) (meth := k9m4) (c := k9c4) (by decide +kernel) rfl rfl rfl (by decide +kernel)
set_option maxRecDepth 65536 in
theorem w_c25 : (Jvm.Cond.code ({ cls := "java/util/Arrays", name := "copyOfRange", desc := "([BII)[B" } : Jvm.MethodName) jdk_65_method_132_code (3 : Nat) (Option.some (Jvm.ClassFile.FieldType.array Jvm.ClassFile.FieldType.byte))).before args0 about1 = true := code_word (m := ⟨13, 2⟩) (meth := k13m2) (c := k13c2) (by decide +kernel) rfl rfl rfl (by decide +kernel)
set_option maxRecDepth 65536 in
theorem w_c26 : (Jvm.Cond.code ({ cls := "java/util/Arrays", name := "copyOfRangeByte", desc := "([BII)[B" } : Jvm.MethodName) jdk_65_method_133_code (5 : Nat) (Option.some (Jvm.ClassFile.FieldType.array Jvm.ClassFile.FieldType.byte))).before args0 about1 = true := code_word (m := ⟨13, 3⟩) (meth := k13m3) (c := k13c3) (by decide +kernel) rfl rfl rfl (by decide +kernel)
set_option maxRecDepth 65536 in
theorem w_c27 : (Jvm.Cond.code ({ cls := "java/util/Arrays", name := "checkLength", desc := "(II)V" } : Jvm.MethodName) jdk_65_method_131_code (2 : Nat) (Option.none : Option Jvm.ClassFile.FieldType)).before args0 about1 = true := code_word (m := ⟨13, 1⟩) (meth := k13m1) (c := k13c1) (by decide +kernel) rfl rfl rfl (by decide +kernel)
set_option maxRecDepth 65536 in
theorem w_c28 : (Jvm.Cond.code ({ cls := "java/lang/String", name := "<init>", desc := "([BB)V" } : Jvm.MethodName) jdk_42_method_151_code (3 : Nat) (Option.none : Option Jvm.ClassFile.FieldType)).before args0 about1 = true := code_word (m := ⟨7, 9⟩) (meth := k7m9) (c := k7c9) (by decide +kernel) rfl rfl rfl (by decide +kernel)
set_option maxRecDepth 65536 in
theorem w_c29 : (Jvm.Cond.code ({ cls := "java/lang/String", name := "charAt", desc := "(I)C" } : Jvm.MethodName) jdk_42_method_56_code (2 : Nat) (Option.some Jvm.ClassFile.FieldType.char)).before args0 about1 = true := code_word (m := ⟨7, 3⟩) (meth := k7m3) (c := k7c3) (by decide +kernel) rfl rfl rfl (by decide +kernel)
set_option maxRecDepth 65536 in
theorem w_c30 : (Jvm.Cond.code ({ cls := "java/lang/StringLatin1", name := "charAt", desc := "([BI)C" } : Jvm.MethodName) jdk_43_method_2_code (2 : Nat) (Option.some Jvm.ClassFile.FieldType.char)).before args0 about1 = true := code_word (m := ⟨9, 1⟩) (meth := k9m1) (c := k9c1) (by decide +kernel) rfl rfl rfl (by decide +kernel)
set_option maxRecDepth 65536 in
theorem w_c31 : (Jvm.Cond.code ({ cls := "java/lang/String", name := "checkIndex", desc := "(II)V" } : Jvm.MethodName) jdk_42_method_155_code (2 : Nat) (Option.none : Option Jvm.ClassFile.FieldType)).before args0 about1 = true := code_word (m := ⟨7, 12⟩) (meth := k7m12) (c := k7c12) (by decide +kernel) rfl rfl rfl (by decide +kernel)
set_option maxRecDepth 65536 in
theorem w_c32 : (Jvm.Cond.code ({ cls := "jdk/internal/util/Preconditions", name := "checkIndex", desc := "(IILjava/util/function/BiFunction;)I" } : Jvm.MethodName) jdk_41_method_11_code (3 : Nat) (Option.some Jvm.ClassFile.FieldType.int)).before args0 about1 = true := code_word (m := ⟨11, 1⟩) (meth := k11m1) (c := k11c1) (by decide +kernel) rfl rfl rfl (by decide +kernel)
def codes1 : List Jvm.Cond := [Jvm.Cond.code x code maxLocals ret, Jvm.Cond.code ({ cls := "com/example/boxwright/boxwright/TableNamesLocalNamePinLaw", name := "pick", desc := "(I)C" } : Jvm.MethodName) method_3_code (2 : Nat) (Option.some Jvm.ClassFile.FieldType.char), Jvm.Cond.code ({ cls := "com/example/boxwright/boxwright/TableNamesLocalNamePinLaw", name := "make", desc := "(ICCCCC)Ljava/lang/String;" } : Jvm.MethodName) method_4_code (6 : Nat) (Option.some (Jvm.ClassFile.FieldType.object "java/lang/String")), Jvm.Cond.code ({ cls := "java/lang/String", name := "<init>", desc := "([C)V" } : Jvm.MethodName) jdk_42_method_3_code (2 : Nat) (Option.none : Option Jvm.ClassFile.FieldType), Jvm.Cond.code ({ cls := "java/lang/String", name := "<init>", desc := "([CIILjava/lang/Void;)V" } : Jvm.MethodName) jdk_42_method_149_code (6 : Nat) (Option.none : Option Jvm.ClassFile.FieldType), Jvm.Cond.code ({ cls := "java/lang/Object", name := "<init>", desc := "()V" } : Jvm.MethodName) object_method_1_code (1 : Nat) (Option.none : Option Jvm.ClassFile.FieldType), Jvm.Cond.code ({ cls := "com/example/boxwright/boxwright/TableNames", name := "localName", desc := "(Ljava/lang/String;)Ljava/lang/String;" } : Jvm.MethodName) prog_23_method_3_code (3 : Nat) (Option.some (Jvm.ClassFile.FieldType.object "java/lang/String")), Jvm.Cond.code ({ cls := "java/lang/String", name := "lastIndexOf", desc := "(I)I" } : Jvm.MethodName) jdk_42_method_82_code (2 : Nat) (Option.some Jvm.ClassFile.FieldType.int), Jvm.Cond.code ({ cls := "java/lang/String", name := "length", desc := "()I" } : Jvm.MethodName) jdk_42_method_54_code (1 : Nat) (Option.some Jvm.ClassFile.FieldType.int), Jvm.Cond.code ({ cls := "java/lang/String", name := "coder", desc := "()B" } : Jvm.MethodName) jdk_42_method_152_code (1 : Nat) (Option.some Jvm.ClassFile.FieldType.byte), Jvm.Cond.code ({ cls := "java/lang/String", name := "lastIndexOf", desc := "(II)I" } : Jvm.MethodName) jdk_42_method_83_code (3 : Nat) (Option.some Jvm.ClassFile.FieldType.int), Jvm.Cond.code ({ cls := "java/lang/String", name := "isLatin1", desc := "()Z" } : Jvm.MethodName) jdk_42_method_154_code (1 : Nat) (Option.some Jvm.ClassFile.FieldType.boolean), Jvm.Cond.code ({ cls := "java/lang/StringLatin1", name := "lastIndexOf", desc := "([BII)I" } : Jvm.MethodName) jdk_43_method_27_code (4 : Nat) (Option.some Jvm.ClassFile.FieldType.int), Jvm.Cond.code ({ cls := "java/lang/StringLatin1", name := "canEncode", desc := "(I)Z" } : Jvm.MethodName) jdk_43_method_4_code (1 : Nat) (Option.some Jvm.ClassFile.FieldType.boolean), Jvm.Cond.code ({ cls := "java/lang/Math", name := "min", desc := "(II)I" } : Jvm.MethodName) jdk_29_method_69_code (2 : Nat) (Option.some Jvm.ClassFile.FieldType.int), Jvm.Cond.code ({ cls := "java/lang/String", name := "substring", desc := "(I)Ljava/lang/String;" } : Jvm.MethodName) jdk_42_method_91_code (2 : Nat) (Option.some (Jvm.ClassFile.FieldType.object "java/lang/String")), Jvm.Cond.code ({ cls := "java/lang/String", name := "substring", desc := "(II)Ljava/lang/String;" } : Jvm.MethodName) jdk_42_method_92_code (5 : Nat) (Option.some (Jvm.ClassFile.FieldType.object "java/lang/String")), Jvm.Cond.code ({ cls := "java/lang/String", name := "checkBoundsBeginEnd", desc := "(III)V" } : Jvm.MethodName) jdk_42_method_158_code (3 : Nat) (Option.none : Option Jvm.ClassFile.FieldType), Jvm.Cond.code ({ cls := "jdk/internal/util/Preconditions", name := "checkFromToIndex", desc := "(IIILjava/util/function/BiFunction;)I" } : Jvm.MethodName) jdk_41_method_12_code (4 : Nat) (Option.some Jvm.ClassFile.FieldType.int), Jvm.Cond.code ({ cls := "com/example/boxwright/boxwright/TableNamesLocalNamePinLaw", name := "last", desc := "([CIC)I" } : Jvm.MethodName) method_5_code (4 : Nat) (Option.some Jvm.ClassFile.FieldType.int), Jvm.Cond.code ({ cls := "com/example/boxwright/boxwright/TableNamesLocalNamePinLaw", name := "at", desc := "(Ljava/lang/String;[CIII)Z" } : Jvm.MethodName) method_6_code (5 : Nat) (Option.some Jvm.ClassFile.FieldType.boolean), Jvm.Cond.code ({ cls := "java/lang/StringUTF16", name := "compress", desc := "([CII)[B" } : Jvm.MethodName) jdk_52_method_16_code (6 : Nat) (Option.some (Jvm.ClassFile.FieldType.array Jvm.ClassFile.FieldType.byte)), Jvm.Cond.code ({ cls := "java/lang/StringUTF16", name := "compress", desc := "([CI[BII)I" } : Jvm.MethodName) jdk_52_method_21_code (7 : Nat) (Option.some Jvm.ClassFile.FieldType.int), Jvm.Cond.code ({ cls := "java/lang/StringUTF16", name := "coderFromArrayLen", desc := "([BI)B" } : Jvm.MethodName) jdk_52_method_15_code (2 : Nat) (Option.some Jvm.ClassFile.FieldType.byte), Jvm.Cond.code ({ cls := "java/lang/StringLatin1", name := "newString", desc := "([BII)Ljava/lang/String;" } : Jvm.MethodName) jdk_43_method_47_code (3 : Nat) (Option.some (Jvm.ClassFile.FieldType.object "java/lang/String")), Jvm.Cond.code ({ cls := "java/util/Arrays", name := "copyOfRange", desc := "([BII)[B" } : Jvm.MethodName) jdk_65_method_132_code (3 : Nat) (Option.some (Jvm.ClassFile.FieldType.array Jvm.ClassFile.FieldType.byte)), Jvm.Cond.code ({ cls := "java/util/Arrays", name := "copyOfRangeByte", desc := "([BII)[B" } : Jvm.MethodName) jdk_65_method_133_code (5 : Nat) (Option.some (Jvm.ClassFile.FieldType.array Jvm.ClassFile.FieldType.byte)), Jvm.Cond.code ({ cls := "java/util/Arrays", name := "checkLength", desc := "(II)V" } : Jvm.MethodName) jdk_65_method_131_code (2 : Nat) (Option.none : Option Jvm.ClassFile.FieldType), Jvm.Cond.code ({ cls := "java/lang/String", name := "<init>", desc := "([BB)V" } : Jvm.MethodName) jdk_42_method_151_code (3 : Nat) (Option.none : Option Jvm.ClassFile.FieldType), Jvm.Cond.code ({ cls := "java/lang/String", name := "charAt", desc := "(I)C" } : Jvm.MethodName) jdk_42_method_56_code (2 : Nat) (Option.some Jvm.ClassFile.FieldType.char), Jvm.Cond.code ({ cls := "java/lang/StringLatin1", name := "charAt", desc := "([BI)C" } : Jvm.MethodName) jdk_43_method_2_code (2 : Nat) (Option.some Jvm.ClassFile.FieldType.char), Jvm.Cond.code ({ cls := "java/lang/String", name := "checkIndex", desc := "(II)V" } : Jvm.MethodName) jdk_42_method_155_code (2 : Nat) (Option.none : Option Jvm.ClassFile.FieldType), Jvm.Cond.code ({ cls := "jdk/internal/util/Preconditions", name := "checkIndex", desc := "(IILjava/util/function/BiFunction;)I" } : Jvm.MethodName) jdk_41_method_11_code (3 : Nat) (Option.some Jvm.ClassFile.FieldType.int)]
set_option maxRecDepth 65536 in
theorem codes_eq : words1.filter isCode = codes1 := rfl
theorem w_codes : ∀ c ∈ words1.filter isCode, c.before args0 about1 = true := by
  rw [codes_eq]
  intro c hc
  simp only [codes1, List.mem_cons, List.not_mem_nil, or_false] at hc
  rcases hc with rfl | rfl | rfl | rfl | rfl | rfl | rfl | rfl | rfl | rfl | rfl | rfl | rfl | rfl | rfl | rfl | rfl | rfl | rfl | rfl | rfl | rfl | rfl | rfl | rfl | rfl | rfl | rfl | rfl | rfl | rfl | rfl | rfl
  · exact w_c0
  · exact w_c1
  · exact w_c2
  · exact w_c3
  · exact w_c4
  · exact w_c5
  · exact w_c6
  · exact w_c7
  · exact w_c8
  · exact w_c9
  · exact w_c10
  · exact w_c11
  · exact w_c12
  · exact w_c13
  · exact w_c14
  · exact w_c15
  · exact w_c16
  · exact w_c17
  · exact w_c18
  · exact w_c19
  · exact w_c20
  · exact w_c21
  · exact w_c22
  · exact w_c23
  · exact w_c24
  · exact w_c25
  · exact w_c26
  · exact w_c27
  · exact w_c28
  · exact w_c29
  · exact w_c30
  · exact w_c31
  · exact w_c32
set_option maxRecDepth 65536 in
theorem w_t1 : (words1.take 24).all (fun c => isCode c || c.before args0 about1) = true := by decide +kernel
set_option maxRecDepth 65536 in
theorem w_t2 : ((words1.drop 24).take 24).all (fun c => isCode c || c.before args0 about1) = true := by decide +kernel
set_option maxRecDepth 65536 in
theorem w_t3 : (((words1.drop 24).drop 24).take 24).all (fun c => isCode c || c.before args0 about1) = true := by decide +kernel
set_option maxRecDepth 65536 in
theorem w_t4 : ((((words1.drop 24).drop 24).drop 24).take 24).all (fun c => isCode c || c.before args0 about1) = true := by decide +kernel
set_option maxRecDepth 65536 in
theorem w_t5 : (((((words1.drop 24).drop 24).drop 24).drop 24).take 24).all (fun c => isCode c || c.before args0 about1) = true := by decide +kernel
set_option maxRecDepth 65536 in
theorem w_t6 : (((((words1.drop 24).drop 24).drop 24).drop 24).drop 24).all (fun c => isCode c || c.before args0 about1) = true := by decide +kernel
theorem w_tables : (allAtoms (Jvm.Cond.code x code maxLocals ret :: tables_1)).before args0 about1 = true := by
  rw [allAtoms_all]
  show words1.all (fun c => c.before args0 about1) = true
  refine all_split ?_ w_codes
  rw [← List.take_append_drop 24 words1, List.all_append, w_t1, ← List.take_append_drop 24 (words1.drop 24), List.all_append, w_t2, ← List.take_append_drop 24 ((words1.drop 24).drop 24), List.all_append, w_t3, ← List.take_append_drop 24 (((words1.drop 24).drop 24).drop 24), List.all_append, w_t4, ← List.take_append_drop 24 ((((words1.drop 24).drop 24).drop 24).drop 24), List.all_append, w_t5, w_t6]
  rfl
set_option maxRecDepth 65536 in
theorem w_rest : rest_1_c.before args0 about1 = true := by decide +kernel
set_option maxRecDepth 65536 in
theorem w_case : (Jvm.Cond.and given_1 narrow_1).before args0 about1 = true := by decide +kernel
set_option maxRecDepth 65536 in
theorem w_consts : constsHeld consts_1 about1 := Jvm.Lit.constsHeldB_iff.mp (by decide +kernel)
theorem w_applies : (headSpec (Jvm.Cond.code x code maxLocals ret :: tables_1) room_1).applies x e0.platform about1 = true :=
  (Spec.applies_iff w_frames).mpr ⟨w_running, w_runnable, w_alone, w_named, w_hears, w_ripe, w_room, w_tables⟩
theorem atStart : AtStart classFile x code maxLocals ret World_1 tables_1 room_1 Calls_1 rest_1 Pre_1 launch0 p0 e0 about1 theMethod args0 below0 :=
  ⟨lists_1, trivial, launch0.admits_env _ _ _, launch0.least_env, fairChoices_fair.cas, fairChoices_fair.clock, w_frames, w_args, w_heap, w_applies, ⟨w_consts, trivial⟩, w_rest, w_case⟩
end start1
theorem witness_1 : WitnessClaimed_1 := ⟨start1.p0, start1.e0, start1.about1, start1.theMethod, start1.args0, start1.below0, start1.atStart⟩
end Jvm.Pilot.@@N@@
