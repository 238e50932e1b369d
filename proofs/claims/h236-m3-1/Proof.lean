import JvmDerived
import JvmDerived.Pilot.@@N@@Statement
import JvmDerived.Pilot.@@N@@Code
set_option linter.unusedVariables false
set_option linter.unusedSimpArgs false
/- laws to paste: Road.backV (cut by pick.py; bodies as the Statement names them) -/
namespace Jvm.Pilot.@@N@@
namespace StrChars
open Jvm Sem ClassFile Op Lib Jvm.Stand Jvm.Free.XT Jvm.Free.ALB Jvm.Free.JM Jvm.Free
open Jvm.Lib.Cold (StaticIs)
/-- a char array whose places are chars -/
def Ch (a : Addr) (A : Cell) (U : State) : Prop := Arr .char a A U ∧ Typed .char A
theorem Ch.mv {a : Addr} {A : Cell} {U U' : State} (h : Ch a A U) (hal : U.vm.Alike U'.vm) (hh : U'.heap = U.heap) : Ch a A U' := ⟨h.1.mv hal hh, h.2⟩
theorem Ch.keep {a : Addr} {A : Cell} {U U' : State} (h : Ch a A U) (hal : U.vm.Alike U'.vm) (hk : U'.heap[a]? = some A) : Ch a A U' := ⟨h.1.keep hal hk, h.2⟩
/-- what place i of a char[]'s cell holds -/
def cv (A : Cell) (i : Nat) : Int32 := match A.slots[i]? with | some (.int x) => x | _ => 0
theorem Ch.get {a : Addr} {A : Cell} {U : State} (h : Ch a A U) {i : Nat} (hi : i < A.slots.size) : A.slots[i]? = some (.int (cv A i)) := by
  have e := Array.getElem?_eq_getElem hi
  have f := h.2 i _ e
  unfold cv; rw [e]
  generalize A.slots[i] = v at f
  cases v <;> simp [fits] at f ⊢
/-- the byte that i2b leaves of a char -/
def lo8 (x : Int32) : Int32 := x.toInt8.toInt32
theorem fits_lo8 (y : Int32) : fits .byte (.int (lo8 y)) = true := by
  have h1 := y.toInt8.le_toInt
  have h2 := y.toInt8.toInt_lt
  simp only [lo8, fits, Bool.and_eq_true, decide_eq_true_eq, Int32.le_iff_toInt_le, Int8.toInt_toInt32, show (-128 : Int32).toInt = -128 from by decide, show (127 : Int32).toInt = 127 from by decide]
  omega
/-- A' is A but that each place j of lo .. hi - 1 holds f j -/
def Laid (A A' : Cell) (lo hi : Nat) (f : Nat → Value) : Prop := A'.cls = A.cls ∧ A'.vm = A.vm ∧ A'.slots.size = A.slots.size ∧ ∀ i, A'.slots[i]? = if lo ≤ i ∧ i < hi then some (f i) else A.slots[i]?
theorem Laid.zero (A : Cell) (lo : Nat) (f : Nat → Value) : Laid A A lo (lo + 0) f := ⟨rfl, rfl, rfl, fun i => by rw [if_neg (by omega)]⟩
theorem Laid.step {A Ak : Cell} {lo k : Nat} {f : Nat → Value} {v : Value} (h : Laid A Ak lo k f) (hlo : lo ≤ k) (hk : k < Ak.slots.size) (hv : v = f k) : Laid A (Ak.setSlot k v) lo (k + 1) f := by
  refine ⟨h.1, h.2.1, by simpa [Cell.setSlot] using h.2.2.1, fun i => ?_⟩
  by_cases e : k = i
  · subst e; rw [Cell.slots_setSlot_self v hk, if_pos (by omega), hv]
  · rw [Cell.slots_setSlot_ne v e, h.2.2.2 i]
    by_cases q : lo ≤ i ∧ i < k
    · rw [if_pos q, if_pos (by omega)]
    · rw [if_neg q, if_neg (by omega)]
def U16 : String := "java/lang/StringUTF16"
namespace Cmp5
def yN : MethodName := ⟨"java/lang/StringUTF16", "compress", "([CI[BII)I"⟩
abbrev yB : ByteArray := jdk_52_method_21_code
theorem d0 : decode yB 0 = .ok (.iconst 0, 1) := by decide +kernel
theorem d1 : decode yB 1 = .ok (.istore 5, 2) := by decide +kernel
theorem d3 : decode yB 3 = .ok (.iload 5, 2) := by decide +kernel
theorem d5 : decode yB 5 = .ok (.iload 4, 2) := by decide +kernel
theorem d7 : decode yB 7 = .ok (.if_icmp (.ge) 37, 3) := by decide +kernel
theorem d10 : decode yB 10 = .ok (.aload_n 0, 1) := by decide +kernel
theorem d11 : decode yB 11 = .ok (.iload_n 1, 1) := by decide +kernel
theorem d12 : decode yB 12 = .ok (.caload, 1) := by decide +kernel
theorem d13 : decode yB 13 = .ok (.istore 6, 2) := by decide +kernel
theorem d15 : decode yB 15 = .ok (.iload 6, 2) := by decide +kernel
theorem d17 : decode yB 17 = .ok (.sipush 255, 3) := by decide +kernel
theorem d20 : decode yB 20 = .ok (.if_icmp (.le) 6, 3) := by decide +kernel
theorem d26 : decode yB 26 = .ok (.aload_n 2, 1) := by decide +kernel
theorem d27 : decode yB 27 = .ok (.iload_n 3, 1) := by decide +kernel
theorem d28 : decode yB 28 = .ok (.iload 6, 2) := by decide +kernel
theorem d30 : decode yB 30 = .ok (.i2b, 1) := by decide +kernel
theorem d31 : decode yB 31 = .ok (.bastore, 1) := by decide +kernel
theorem d32 : decode yB 32 = .ok (.iinc 1 1, 3) := by decide +kernel
theorem d35 : decode yB 35 = .ok (.iinc 3 1, 3) := by decide +kernel
theorem d38 : decode yB 38 = .ok (.iinc 5 1, 3) := by decide +kernel
theorem d41 : decode yB 41 = .ok (.goto (-38), 3) := by decide +kernel
theorem d44 : decode yB 44 = .ok (.iload 4, 2) := by decide +kernel
theorem d46 : decode yB 46 = .ok (.ireturn, 1) := by decide +kernel
def site : List Cond := []
def tab : Cond := tabOf yN yB 7 (some .int) site
def P (b : Addr) (A : Cell) (d : Addr) (B : Cell) (o q len : Nat) (args : Array Value) (s : State) : Prop := args = #[.ref b, .int (Int32.ofNat o), .ref d, .int (Int32.ofNat q), .int (Int32.ofNat len)] ∧ Ch b A s ∧ Arr .byte d B s ∧ b ≠ d ∧ o + len ≤ A.slots.size ∧ q + len ≤ B.slots.size ∧ ∀ i, i < len → ¬ 255 < cv A (o + i)
def E (b : Addr) (A : Cell) (d : Addr) (B : Cell) (o q len : Nat) (r : Option Value) (s u : State) : Prop := r = some (.int (Int32.ofNat len)) ∧ ∃ B', Put d B' s u ∧ Laid B B' q (q + len) (fun j => Value.int (lo8 (cv A (o + (j - q)))))
/-- no char of the range above 255: len; the places written hold each char's low byte -/
theorem law (l : Launch) (b : Addr) (A : Cell) (d : Addr) (B : Cell) (o q len : Nat) : Law l yN 5 5 0 0 yB 7 (some .int) site (P b A d B o q len) (E b A d B o q len) (copyLocs d q len) 0 0 := by
  refine Law.of_walk (plainFor_of_name (by decide +kernel)) (by decide +kernel) (by decide +kernel) (by decide) (fun _ _ h => by rw [h.1]; rfl) (fun _ U U' hal hh h => ⟨h.1, h.2.1.mv hal hh, h.2.2.1.mv hal hh, h.2.2.2⟩) (fun r U U' V V' h1 hal h2 h => ⟨h.1, h.2.elim fun B' q => ⟨B', q.1.mv h1 h2, q.2⟩⟩) ?_
  intro p e s m args below meth c s₁ X0 hexec hbytes hml hret hlk hnm hown hh0 W hP
  obtain ⟨rfl, hA, hB, hne, l1, l2, hp⟩ := hP
  have c1 : Steps p.tables e below (s₁.setTop (entryFrame m #[.ref b, .int (Int32.ofNat o), .ref d, .int (Int32.ofNat q), .int (Int32.ofNat len)] 7)) (s₁.setTop (mkF m 0 #[.val (.ref b), .val (.int (Int32.ofNat o)), .val (.ref d), .val (.int (Int32.ofNat q)), .val (.int (Int32.ofNat len)), .unset, .unset] [])) := entry rfl
  have hA0 := hA.1.mv X0.warmed.alike hh0
  have hB0 := hB.mv X0.warmed.alike hh0
  have a31 := hA.1.2.2.2
  have c2 : Steps p.tables e below (s₁.setTop (entryFrame m #[.ref b, .int (Int32.ofNat o), .ref d, .int (Int32.ofNat q), .int (Int32.ofNat len)] 7)) (s₁.setTop (mkF m 3 #[.val (.ref b), .val (.int (Int32.ofNat o)), .val (.ref d), .val (.int (Int32.ofNat q)), .val (.int (Int32.ofNat len)), .val (.int 0), .unset] [])) := c1.trans (by
    refine iconstV X0.here hexec rfl 0 (hb hbytes d0) (by decide) ?_
    refine XS.istore X0.here hexec rfl (hb hbytes d1) rfl rfl ?_
    exact Steps.refl _)
  have loop : ∀ (r i : Nat), i + r = len → ∀ (z : Slot), (z = .unset ∨ ∃ w, z = .val w ∧ w.category = 1) → ∀ (Tl : State) (Bk : Cell), Stand p l e { frames := 0, locals := 0, cells := 0, slots := 0 } s m #[.ref b, .int (Int32.ofNat o), .ref d, .int (Int32.ofNat q), .int (Int32.ofNat len)] below meth c Tl ([] ++ copyLocs d q i) 0 0 → Put d Bk s₁ Tl → Laid B Bk q (q + i) (fun j => Value.int (lo8 (cv A (o + (j - q))))) →
      Steps p.tables e below (s₁.setTop (entryFrame m #[.ref b, .int (Int32.ofNat o), .ref d, .int (Int32.ofNat q), .int (Int32.ofNat len)] 7)) (Tl.setTop (mkF m 3 #[.val (.ref b), .val (.int (Int32.ofNat (o + i))), .val (.ref d), .val (.int (Int32.ofNat (q + i))), .val (.int (Int32.ofNat len)), .val (.int (Int32.ofNat i)), z] [])) → ∃ (T' : State) (B' : Cell) (z' : Slot), Stand p l e { frames := 0, locals := 0, cells := 0, slots := 0 } s m #[.ref b, .int (Int32.ofNat o), .ref d, .int (Int32.ofNat q), .int (Int32.ofNat len)] below meth c T' ([] ++ copyLocs d q len) 0 0 ∧ Put d B' s₁ T' ∧ Laid B B' q (q + len) (fun j => Value.int (lo8 (cv A (o + (j - q))))) ∧
      Steps p.tables e below (s₁.setTop (entryFrame m #[.ref b, .int (Int32.ofNat o), .ref d, .int (Int32.ofNat q), .int (Int32.ofNat len)] 7)) (T'.setTop (mkF m 3 #[.val (.ref b), .val (.int (Int32.ofNat (o + len))), .val (.ref d), .val (.int (Int32.ofNat (q + len))), .val (.int (Int32.ofNat len)), .val (.int (Int32.ofNat len)), z'] [])) := by
    intro r
    induction r with
    | zero =>
      intro i hi z hz Tl Bk Xl pl fl cl
      have hil : i = len := by omega
      rw [hil] at Xl fl cl
      exact ⟨Tl, Bk, z, Xl, pl, fl, cl⟩
    | succ r ih =>
      intro i hi z hz Tl Bk Xl pl fl cl
      have all := X0.warmed.alike.symm.trans Xl.warmed.alike
      have hAl := hA0.keep all (pl.other hne hA0.1)
      have hBk := hB0.like all pl.1 fl.1 fl.2.1 fl.2.2.1
      have hlt : q + i < Bk.slots.size := by rw [fl.2.2.1]; omega
      have c3 : Steps p.tables e below (s₁.setTop (entryFrame m #[.ref b, .int (Int32.ofNat o), .ref d, .int (Int32.ofNat q), .int (Int32.ofNat len)] 7)) (Tl.setTop (mkF m 12 #[.val (.ref b), .val (.int (Int32.ofNat (o + i))), .val (.ref d), .val (.int (Int32.ofNat (q + i))), .val (.int (Int32.ofNat len)), .val (.int (Int32.ofNat i)), z] [.int (Int32.ofNat (o + i)), .ref b])) := cl.trans (by
        refine XS.iload Xl.here hexec rfl (hb hbytes d3) rfl ?_
        refine XS.iload Xl.here hexec rfl (hb hbytes d5) rfl ?_
        refine XS.icmpNo Xl.here hexec rfl (hb hbytes d7) rfl (ii_ge_f (lt32 (by omega) (by omega))) ?_
        refine XS.aloadN Xl.here hexec rfl (hb hbytes d10) rfl rfl ?_
        refine XS.iloadN Xl.here hexec rfl (hb hbytes d11) rfl ?_
        exact Steps.refl _)
      have c4 : Steps p.tables e below (s₁.setTop (entryFrame m #[.ref b, .int (Int32.ofNat o), .ref d, .int (Int32.ofNat q), .int (Int32.ofNat len)] 7)) (Tl.setTop (mkF m 13 #[.val (.ref b), .val (.int (Int32.ofNat (o + i))), .val (.ref d), .val (.int (Int32.ofNat (q + i))), .val (.int (Int32.ofNat len)), .val (.int (Int32.ofNat i)), z] [.int (cv A (o + i))])) := c3.trans (by
        refine Xl.aget hexec hAl rfl (hA.get (i := o + i) (by omega)) rfl rfl (hb hbytes d12) ?_
        exact Steps.refl _)
      have c5 : Steps p.tables e below (s₁.setTop (entryFrame m #[.ref b, .int (Int32.ofNat o), .ref d, .int (Int32.ofNat q), .int (Int32.ofNat len)] 7)) (Tl.setTop (mkF m 15 #[.val (.ref b), .val (.int (Int32.ofNat (o + i))), .val (.ref d), .val (.int (Int32.ofNat (q + i))), .val (.int (Int32.ofNat len)), .val (.int (Int32.ofNat i)), .val (.int (cv A (o + i)))] [])) := c4.trans (by
        refine XS.istoreS Xl.here hexec rfl (hb hbytes d13) rfl rfl hz ?_
        exact Steps.refl _)
      have c6 : Steps p.tables e below (s₁.setTop (entryFrame m #[.ref b, .int (Int32.ofNat o), .ref d, .int (Int32.ofNat q), .int (Int32.ofNat len)] 7)) (Tl.setTop (mkF m 31 #[.val (.ref b), .val (.int (Int32.ofNat (o + i))), .val (.ref d), .val (.int (Int32.ofNat (q + i))), .val (.int (Int32.ofNat len)), .val (.int (Int32.ofNat i)), .val (.int (cv A (o + i)))] [.int (lo8 (cv A (o + i))), .int (Int32.ofNat (q + i)), .ref d])) := c5.trans (by
        refine XS.iload Xl.here hexec rfl (hb hbytes d15) rfl ?_
        refine sipushV Xl.here hexec rfl 255 (hb hbytes d17) (by decide) ?_
        refine XS.icmpYes Xl.here hexec rfl (pc0 := 20) rfl (hb hbytes d20) rfl (ii_le_t (hp i (by omega))) (by decide) rfl ?_
        refine XS.aloadN Xl.here hexec rfl (hb hbytes d26) rfl rfl ?_
        refine XS.iloadN Xl.here hexec rfl (hb hbytes d27) rfl ?_
        refine XS.iload Xl.here hexec rfl (hb hbytes d28) rfl ?_
        refine i2b Xl.here hexec rfl (hb hbytes d30) rfl ?_
        exact Steps.refl _)
      obtain ⟨T7, X7, p7, st7⟩ := Xl.aput hexec hBk rfl hlt rfl (fits_lo8 (cv A (o + i))) (g := (mkF m 31 #[.val (.ref b), .val (.int (Int32.ofNat (o + i))), .val (.ref d), .val (.int (Int32.ofNat (q + i))), .val (.int (Int32.ofNat len)), .val (.int (Int32.ofNat i)), .val (.int (cv A (o + i)))] [.int (lo8 (cv A (o + i))), .int (Int32.ofNat (q + i)), .ref d])) rfl (rest := []) rfl (hb hbytes d31)
      have c8 : Steps p.tables e below (s₁.setTop (entryFrame m #[.ref b, .int (Int32.ofNat o), .ref d, .int (Int32.ofNat q), .int (Int32.ofNat len)] 7)) (T7.setTop (mkF m 32 #[.val (.ref b), .val (.int (Int32.ofNat (o + i))), .val (.ref d), .val (.int (Int32.ofNat (q + i))), .val (.int (Int32.ofNat len)), .val (.int (Int32.ofNat i)), .val (.int (cv A (o + i)))] [])) := c6.trans (st7 _ (Steps.refl _))
      have c9 : Steps p.tables e below (s₁.setTop (entryFrame m #[.ref b, .int (Int32.ofNat o), .ref d, .int (Int32.ofNat q), .int (Int32.ofNat len)] 7)) (T7.setTop (mkF m 3 #[.val (.ref b), .val (.int (Int32.ofNat (o + i) + 1)), .val (.ref d), .val (.int (Int32.ofNat (q + i) + 1)), .val (.int (Int32.ofNat len)), .val (.int (Int32.ofNat i + 1)), .val (.int (cv A (o + i)))] [])) := c8.trans (by
        refine iincV X7.here hexec rfl 1 (hb hbytes d32) (by decide) rfl rfl ?_
        refine iincV X7.here hexec rfl 1 (hb hbytes d35) (by decide) rfl rfl ?_
        refine iincV X7.here hexec rfl 1 (hb hbytes d38) (by decide) rfl rfl ?_
        refine XS.goto X7.here hexec rfl (pc0 := 41) rfl (hb hbytes d41) (by decide) rfl ?_
        exact Steps.refl _)
      have c10 : Steps p.tables e below (s₁.setTop (entryFrame m #[.ref b, .int (Int32.ofNat o), .ref d, .int (Int32.ofNat q), .int (Int32.ofNat len)] 7)) (T7.setTop (mkF m 3 #[.val (.ref b), .val (.int (Int32.ofNat (o + (i + 1)))), .val (.ref d), .val (.int (Int32.ofNat (q + (i + 1)))), .val (.int (Int32.ofNat len)), .val (.int (Int32.ofNat (i + 1))), .val (.int (cv A (o + i)))] [])) := by
        have := c9
        rw [succ32, succ32, succ32] at this
        exact this
      exact ih (i + 1) (by omega) _ (Or.inr ⟨_, rfl, rfl⟩) T7 _ (by rw [copyLocs_step, ← List.append_assoc]; exact X7) (pl.trans p7) (fl.step (by omega) hlt (by simp)) c10
  obtain ⟨T9, B9, z9, X9, p9, f9, g9⟩ := loop len 0 (by omega) .unset (Or.inl rfl) s₁ B (by simpa [copyLocs] using X0) ⟨hB0.1, fun _ _ => rfl, rfl⟩ (Laid.zero _ _ _) c2
  have c11 : Steps p.tables e below (s₁.setTop (entryFrame m #[.ref b, .int (Int32.ofNat o), .ref d, .int (Int32.ofNat q), .int (Int32.ofNat len)] 7)) (T9.setTop (mkF m 46 #[.val (.ref b), .val (.int (Int32.ofNat (o + len))), .val (.ref d), .val (.int (Int32.ofNat (q + len))), .val (.int (Int32.ofNat len)), .val (.int (Int32.ofNat len)), z9] [.int (Int32.ofNat len)])) := g9.trans (by
    refine XS.iload X9.here hexec rfl (hb hbytes d3) rfl ?_
    refine XS.iload X9.here hexec rfl (hb hbytes d5) rfl ?_
    refine XS.icmpYes X9.here hexec rfl (pc0 := 7) rfl (hb hbytes d7) rfl (ii_ge_t (nlt32 (by omega) (Nat.le_refl _))) (by decide) rfl ?_
    refine XS.iload X9.here hexec rfl (hb hbytes d44) rfl ?_
    exact Steps.refl _)
  exact ⟨T9, some (.int (Int32.ofNat len)), _, _, _, X9, by simp, rfl, rfl, (fun h => by cases h), ⟨rfl, B9, p9.from hh0, f9⟩, fun fs hl => c11.trans (X9.ireturnOut hexec hret rfl (Or.inl rfl) (hb hbytes d46) hl)⟩
end Cmp5
namespace Cmp3
def yN : MethodName := ⟨"java/lang/StringUTF16", "compress", "([CII)[B"⟩
abbrev yB : ByteArray := jdk_52_method_16_code
theorem d0 : decode yB 0 = .ok (.iload_n 2, 1) := by decide +kernel
theorem d1 : decode yB 1 = .ok (.newarray .byte, 2) := by decide +kernel
theorem d3 : decode yB 3 = .ok (.astore_n 3, 1) := by decide +kernel
theorem d4 : decode yB 4 = .ok (.aload_n 0, 1) := by decide +kernel
theorem d5 : decode yB 5 = .ok (.iload_n 1, 1) := by decide +kernel
theorem d6 : decode yB 6 = .ok (.aload_n 3, 1) := by decide +kernel
theorem d7 : decode yB 7 = .ok (.iconst 0, 1) := by decide +kernel
theorem d8 : decode yB 8 = .ok (.iload_n 2, 1) := by decide +kernel
theorem d9 : decode yB 9 = .ok (.invokestatic 115, 3) := by decide +kernel
theorem d12 : decode yB 12 = .ok (.istore 4, 2) := by decide +kernel
theorem d14 : decode yB 14 = .ok (.iload 4, 2) := by decide +kernel
theorem d16 : decode yB 16 = .ok (.iload_n 2, 1) := by decide +kernel
theorem d17 : decode yB 17 = .ok (.if_icmp (.eq) 40, 3) := by decide +kernel
theorem d57 : decode yB 57 = .ok (.aload_n 3, 1) := by decide +kernel
theorem d58 : decode yB 58 = .ok (.areturn, 1) := by decide +kernel
def site : List Cond := [.arrayClass .byte, Cmp5.tab] ++ staticW U16 115 Cmp5.yN
def tab : Cond := tabOf yN yB 6 (some (.array .byte)) site
def P (b : Addr) (A : Cell) (o len : Nat) (args : Array Value) (s : State) : Prop := args = #[.ref b, .int (Int32.ofNat o), .int (Int32.ofNat len)] ∧ Ch b A s ∧ o + len ≤ A.slots.size ∧ len ≤ 536870912 ∧ ∀ i, i < len → ¬ 255 < cv A (o + i)
def E (b : Addr) (A : Cell) (o len : Nat) (r : Option Value) (s u : State) : Prop := NewArr .byte "[B" len (fun j => .int (lo8 (cv A (o + j)))) r s u ∧ u.heap.size = s.heap.size + 1
/-- no char of the range above 255: a new byte[] of their low bytes -/
theorem law (l : Launch) (b : Addr) (A : Cell) (o len : Nat) : Law l yN 3 3 1 18 yB 6 (some (.array .byte)) site (P b A o len) (E b A o len) [] 1 len := by
  refine Law.of_walk (plainFor_of_name (by decide +kernel)) (by decide +kernel) (by decide +kernel) (by decide) (fun _ _ h => by rw [h.1]; rfl) (fun _ U U' hal hh h => ⟨h.1, h.2.1.mv hal hh, h.2.2⟩) (fun r U U' V V' h1 hal h2 h => ⟨NewArr.mv r U U' V V' h1 hal h2 h.1, by rw [h1, h2]; exact h.2⟩) ?_
  intro p e s m args below meth c s₁ X0 hexec hbytes hml hret hlk hnm hown hh0 W hP
  obtain ⟨rfl, hA, l1, l2, hp⟩ := hP
  have a31 := hA.1.2.2.2
  have c1 : Steps p.tables e below (s₁.setTop (entryFrame m #[.ref b, .int (Int32.ofNat o), .int (Int32.ofNat len)] 6)) (s₁.setTop (mkF m 0 #[.val (.ref b), .val (.int (Int32.ofNat o)), .val (.int (Int32.ofNat len)), .unset, .unset, .unset] [])) := entry rfl
  have c2 : Steps p.tables e below (s₁.setTop (entryFrame m #[.ref b, .int (Int32.ofNat o), .int (Int32.ofNat len)] 6)) (s₁.setTop (mkF m 1 #[.val (.ref b), .val (.int (Int32.ofNat o)), .val (.int (Int32.ofNat len)), .unset, .unset, .unset] [.int (Int32.ofNat len)])) := c1.trans (by
    refine XS.iloadN X0.here hexec rfl (hb hbytes d0) rfl ?_
    exact Steps.refl _)
  obtain ⟨T3, B3, X3, ba3, bs3, bv3, bh3, bf3, st3⟩ := X0.anew hexec (atype := .byte) (wk W (.arrayClass .byte)) rfl (by show len * 1 ≤ _; omega) (by omega) (g := (mkF m 1 #[.val (.ref b), .val (.int (Int32.ofNat o)), .val (.int (Int32.ofNat len)), .unset, .unset, .unset] [.int (Int32.ofNat len)])) rfl (hb hbytes d1) (rest := []) rfl (Nat.le_refl _) (by show 0 + len ≤ len; omega)
  rw [hh0] at ba3 st3
  have kp3 : XT.Kept s T3 := (XT.Kept.of_eq hh0).push bh3
  have hA3 := hA.keep X3.warmed.alike (kp3 _ _ hA.1.1)
  have hne : b ≠ s.heap.size := hA.1.ne
  have c4 : Steps p.tables e below (s₁.setTop (entryFrame m #[.ref b, .int (Int32.ofNat o), .int (Int32.ofNat len)] 6)) (T3.setTop (mkF m 3 #[.val (.ref b), .val (.int (Int32.ofNat o)), .val (.int (Int32.ofNat len)), .unset, .unset, .unset] [.ref s.heap.size])) := c2.trans (st3 _ (Steps.refl _))
  have c5 : Steps p.tables e below (s₁.setTop (entryFrame m #[.ref b, .int (Int32.ofNat o), .int (Int32.ofNat len)] 6)) (T3.setTop (mkF m 9 #[.val (.ref b), .val (.int (Int32.ofNat o)), .val (.int (Int32.ofNat len)), .val (.ref s.heap.size), .unset, .unset] [.int (Int32.ofNat len), .int 0, .ref s.heap.size, .int (Int32.ofNat o), .ref b])) := c4.trans (by
    refine XS.astoreN X3.here hexec rfl (hb hbytes d3) rfl rfl rfl ?_
    refine XS.aloadN X3.here hexec rfl (hb hbytes d4) rfl rfl ?_
    refine XS.iloadN X3.here hexec rfl (hb hbytes d5) rfl ?_
    refine XS.aloadN X3.here hexec rfl (hb hbytes d6) rfl rfl ?_
    refine iconstV X3.here hexec rfl 0 (hb hbytes d7) (by decide) ?_
    refine XS.iloadN X3.here hexec rfl (hb hbytes d8) rfl ?_
    exact Steps.refl _)
  obtain ⟨v6, T6, X6, E6, g6⟩ := X3.callS hexec (Cmp5.law l b A s.heap.size B3 o 0 len) hown (wks W (staticW U16 115 Cmp5.yN)) (wk W Cmp5.tab) (W := 0) (Nat.le_of_ble_eq_true rfl) (Nat.le_of_ble_eq_true rfl) (Nat.le_refl _) (by show 0 + len + 0 ≤ len; omega) (g := (mkF m 9 #[.val (.ref b), .val (.int (Int32.ofNat o)), .val (.int (Int32.ofNat len)), .val (.ref s.heap.size), .unset, .unset] [.int (Int32.ofNat len), .int (Int32.ofNat 0), .ref s.heap.size, .int (Int32.ofNat o), .ref b])) rfl (by rw [hml]; rfl) c5 (argsL := [.ref b, .int (Int32.ofNat o), .ref s.heap.size, .int (Int32.ofNat 0), .int (Int32.ofNat len)]) (rest := []) rfl rfl (by show 2 * 0 + 0 ≤ _; decide) (hb hbytes d9) (⟨rfl, hA3, ba3, hne, l1, by rw [bs3]; simp, hp⟩)
  obtain ⟨rfl, B6, p6, f6⟩ := E6
  have c7 : Steps p.tables e below (s₁.setTop (entryFrame m #[.ref b, .int (Int32.ofNat o), .int (Int32.ofNat len)] 6)) (T6.setTop (mkF m 12 #[.val (.ref b), .val (.int (Int32.ofNat o)), .val (.int (Int32.ofNat len)), .val (.ref s.heap.size), .unset, .unset] [.int (Int32.ofNat len)])) := g6
  have c8 : Steps p.tables e below (s₁.setTop (entryFrame m #[.ref b, .int (Int32.ofNat o), .int (Int32.ofNat len)] 6)) (T6.setTop (mkF m 58 #[.val (.ref b), .val (.int (Int32.ofNat o)), .val (.int (Int32.ofNat len)), .val (.ref s.heap.size), .val (.int (Int32.ofNat len)), .unset] [.ref s.heap.size])) := c7.trans (by
    refine XS.istore X6.here hexec rfl (hb hbytes d12) rfl rfl ?_
    refine XS.iload X6.here hexec rfl (hb hbytes d14) rfl ?_
    refine XS.iloadN X6.here hexec rfl (hb hbytes d16) rfl ?_
    refine XS.icmpYes X6.here hexec rfl (pc0 := 17) rfl (hb hbytes d17) rfl (ii_eq_t rfl) (by decide) rfl ?_
    refine XS.aloadN X6.here hexec rfl (hb hbytes d57) rfl rfl ?_
    exact Steps.refl _)
  have X8 := X6.wide (L' := []) (cells' := 1) (slots' := len) (fun x hx hlt => by
    simp only [List.nil_append, copyLocs, List.mem_map, List.mem_range] at hx
    obtain ⟨i, -, rfl⟩ := hx
    exact absurd hlt (Nat.lt_irrefl _)) (Nat.le_refl _) (by omega)
  exact ⟨T6, some (.ref s.heap.size), _, _, _, X8, rfl, rfl, rfl, (fun h => by cases h), ⟨⟨rfl, B6, ba3.like (X3.warmed.alike.symm.trans X6.warmed.alike) p6.1 f6.1 f6.2.1 f6.2.2.1, f6.2.1.trans bv3, by rw [X6.warmed.alike.findClass, f6.1]; exact bf3, by rw [f6.2.2.1, bs3]; simp, fun j hj => by rw [f6.2.2.2 j, if_pos (by omega)]; rfl, kp3.put p6 (Nat.le_refl _)⟩, by rw [p6.2.2, bh3, hh0]; simp⟩, fun fs hl => c8.trans (X8.areturnOut hexec rfl hret rfl (hb hbytes d58) hl)⟩
end Cmp3
namespace CodL
def yN : MethodName := ⟨"java/lang/StringUTF16", "coderFromArrayLen", "([BI)B"⟩
abbrev yB : ByteArray := jdk_52_method_15_code
theorem d0 : decode yB 0 = .ok (.iload_n 1, 1) := by decide +kernel
theorem d1 : decode yB 1 = .ok (.aload_n 0, 1) := by decide +kernel
theorem d2 : decode yB 2 = .ok (.arraylength, 1) := by decide +kernel
theorem d3 : decode yB 3 = .ok (.isub, 1) := by decide +kernel
theorem d4 : decode yB 4 = .ok (.bipush 31, 2) := by decide +kernel
theorem d6 : decode yB 6 = .ok (.iushr, 1) := by decide +kernel
theorem d7 : decode yB 7 = .ok (.i2b, 1) := by decide +kernel
theorem d8 : decode yB 8 = .ok (.ireturn, 1) := by decide +kernel
def site : List Cond := []
def tab : Cond := tabOf yN yB 2 (some .byte) site
def P (d : Addr) (B : Cell) (args : Array Value) (s : State) : Prop := args = #[.ref d, .int (Int32.ofNat B.slots.size)] ∧ Arr .byte d B s
def E (r : Option Value) (s u : State) : Prop := XT.PureE (some (.int 0)) r s u
/-- an array as long as the number of chars: LATIN1 -/
theorem law (l : Launch) (d : Addr) (B : Cell) : Law l yN 2 2 0 0 yB 2 (some .byte) site (P d B) E [] 0 0 := by
  refine Law.of_walk (plainFor_of_name (by decide +kernel)) (by decide +kernel) (by decide +kernel) (by decide) (fun _ _ h => by rw [h.1]; rfl) (fun _ U U' hal hh h => ⟨h.1, h.2.mv hal hh⟩) (fun r U U' V V' h1 hal h2 h => XT.PureE.mv r U U' V V' h1 hal h2 h) ?_
  intro p e s m args below meth c s₁ X0 hexec hbytes hml hret hlk hnm hown hh0 W hP
  obtain ⟨rfl, hB⟩ := hP
  have hB0 := hB.mv X0.warmed.alike hh0
  have c1 : Steps p.tables e below (s₁.setTop (entryFrame m #[.ref d, .int (Int32.ofNat B.slots.size)] 2)) (s₁.setTop (mkF m 0 #[.val (.ref d), .val (.int (Int32.ofNat B.slots.size))] [])) := entry rfl
  have c2 : Steps p.tables e below (s₁.setTop (entryFrame m #[.ref d, .int (Int32.ofNat B.slots.size)] 2)) (s₁.setTop (mkF m 2 #[.val (.ref d), .val (.int (Int32.ofNat B.slots.size))] [.ref d, .int (Int32.ofNat B.slots.size)])) := c1.trans (by
    refine XS.iloadN X0.here hexec rfl (hb hbytes d0) rfl ?_
    refine XS.aloadN X0.here hexec rfl (hb hbytes d1) rfl rfl ?_
    exact Steps.refl _)
  have c3 : Steps p.tables e below (s₁.setTop (entryFrame m #[.ref d, .int (Int32.ofNat B.slots.size)] 2)) (s₁.setTop (mkF m 8 #[.val (.ref d), .val (.int (Int32.ofNat B.slots.size))] [.int (lo8 (ushr (Int32.ofNat B.slots.size - Int32.ofNat B.slots.size) 31))])) := c2.trans (by
    refine X0.alen hexec hB0 rfl rfl (hb hbytes d2) ?_
    refine XS.isub X0.here hexec rfl (hb hbytes d3) rfl ?_
    refine bipushV X0.here hexec rfl 31 (hb hbytes d4) (by decide) ?_
    refine iushr X0.here hexec rfl (hb hbytes d6) rfl ?_
    refine i2b X0.here hexec rfl (hb hbytes d7) rfl ?_
    exact Steps.refl _)
  have e0 : lo8 (ushr (Int32.ofNat B.slots.size - Int32.ofNat B.slots.size) 31) = 0 := by rw [Int32.sub_self]; decide
  rw [e0] at c3
  exact ⟨s₁, some (.int 0), _, _, _, X0, rfl, rfl, rfl, (fun h => by cases h), ⟨rfl, hh0⟩, fun fs hl => c3.trans (X0.ireturnOut hexec hret rfl (Or.inr (Or.inr (Or.inl rfl))) (hb hbytes d8) hl)⟩
end CodL
/-- the String at a is Latin-1 over a new byte[] (the heap's one new cell): the low bytes of the len chars of A from o on; every cell but a is kept -/
def Got (a : Addr) (D : Cell) (fV fC : Field) (A : Cell) (o len : Nat) (r : Option Value) (s u : State) : Prop := r = none ∧ ∃ D' V : Cell, Blank "java/lang/String" a D' u ∧ Same D D' [fV.slot, fC.slot] ∧ D'.slots[fV.slot]? = some (.ref s.heap.size) ∧ D'.slots[fC.slot]? = some (.int 0) ∧ Arr .byte s.heap.size V u ∧ V.vm = .none ∧ u.vm.findClass "[B" = some V.cls ∧ V.slots.size = len ∧ (∀ j, j < len → V.slots[j]? = some (.int (lo8 (cv A (o + j))))) ∧ (∀ (y : Addr) (c : Cell), y ≠ a → s.heap[y]? = some c → u.heap[y]? = some c) ∧ u.heap.size = s.heap.size + 1
theorem Got.mv {a : Addr} {D A : Cell} {fV fC : Field} {o len : Nat} : ∀ r (U U' V V' : State), U'.heap = U.heap → V.vm.Alike V'.vm → V'.heap = V.heap → Got a D fV fC A o len r U V → Got a D fV fC A o len r U' V' :=
  fun r U U' V V' h1 hal h2 ⟨e0, D', X, a1, a2, a3, a4, a5, a6, a7, a8, a9, a10, a11⟩ => ⟨e0, D', X, a1.mv hal h2, a2, by rw [h1]; exact a3, a4, by rw [h1]; exact a5.mv hal h2, a6, by rw [hal.findClass]; exact a7, a8, a9, by rw [h1, h2]; exact a10, by rw [h1, h2]; exact a11⟩
namespace New4
def yN : MethodName := ⟨"java/lang/String", "<init>", "([CIILjava/lang/Void;)V"⟩
abbrev yB : ByteArray := jdk_42_method_149_code
theorem d0 : decode yB 0 = .ok (.aload_n 0, 1) := by decide +kernel
theorem d1 : decode yB 1 = .ok (.invokespecial 1, 3) := by decide +kernel
theorem d4 : decode yB 4 = .ok (.iload_n 3, 1) := by decide +kernel
theorem d5 : decode yB 5 = .ok (.ifCond (.ne) 22, 3) := by decide +kernel
theorem d27 : decode yB 27 = .ok (.getstatic 38, 3) := by decide +kernel
theorem d30 : decode yB 30 = .ok (.ifCond (.eq) 28, 3) := by decide +kernel
theorem d33 : decode yB 33 = .ok (.aload_n 1, 1) := by decide +kernel
theorem d34 : decode yB 34 = .ok (.iload_n 2, 1) := by decide +kernel
theorem d35 : decode yB 35 = .ok (.iload_n 3, 1) := by decide +kernel
theorem d36 : decode yB 36 = .ok (.invokestatic 177, 3) := by decide +kernel
theorem d39 : decode yB 39 = .ok (.astore 5, 2) := by decide +kernel
theorem d41 : decode yB 41 = .ok (.aload_n 0, 1) := by decide +kernel
theorem d42 : decode yB 42 = .ok (.aload 5, 2) := by decide +kernel
theorem d44 : decode yB 44 = .ok (.iload_n 3, 1) := by decide +kernel
theorem d45 : decode yB 45 = .ok (.invokestatic 47, 3) := by decide +kernel
theorem d48 : decode yB 48 = .ok (.putfield 15, 3) := by decide +kernel
theorem d51 : decode yB 51 = .ok (.aload_n 0, 1) := by decide +kernel
theorem d52 : decode yB 52 = .ok (.aload 5, 2) := by decide +kernel
theorem d54 : decode yB 54 = .ok (.putfield 9, 3) := by decide +kernel
theorem d57 : decode yB 57 = .ok (.return_, 1) := by decide +kernel
def site : List Cond := [.fieldLink "java/lang/String" 38 "java/lang/String" "COMPACT_STRINGS" "Z", Cmp3.tab, CodL.tab, .laysFinal "java/lang/String" "java/lang/String" "value" "[B", .fieldLink "java/lang/String" 9 "java/lang/String" "value" "[B", .laysFinal "java/lang/String" "java/lang/String" "coder" "B", .fieldLink "java/lang/String" 15 "java/lang/String" "coder" "B"] ++ objW "java/lang/String" 1 ++ staticW "java/lang/String" 177 Cmp3.yN ++ staticW "java/lang/String" 47 CodL.yN
def tab : Cond := tabOf yN yB 6 none site
def P (a : Addr) (D : Cell) (fV fC : Field) (b : Addr) (A : Cell) (z : Int32) (o len : Nat) (args : Array Value) (s : State) : Prop := args = #[.ref a, .ref b, .int (Int32.ofNat o), .int (Int32.ofNat len), .null] ∧ Blank "java/lang/String" a D s ∧ Found "java/lang/String" "value" "[B" fV s ∧ Found "java/lang/String" "coder" "B" fC s ∧ Ch b A s ∧ StaticIs s "java/lang/String" "COMPACT_STRINGS" "Z" (.int z) ∧ ¬ z = 0 ∧ 0 < len ∧ o + len ≤ A.slots.size ∧ len ≤ 536870912 ∧ ∀ i, i < len → ¬ 255 < cv A (o + i)
def E (a : Addr) (D : Cell) (fV fC : Field) (A : Cell) (o len : Nat) (r : Option Value) (s u : State) : Prop := Got a D fV fC A o len r s u
/-- len > 0, no char of the range above 255: a Latin-1 String of their low bytes -/
theorem law (l : Launch) (a : Addr) (D : Cell) (fV fC : Field) (b : Addr) (A : Cell) (z : Int32) (o len : Nat) : Law l yN 5 4 2 35 yB 6 none site (P a D fV fC b A z o len) (E a D fV fC A o len) [⟨a, fC.slot⟩, ⟨a, fV.slot⟩] 1 len := by
  refine Law.of_walk (plainFor_of_name (by decide +kernel)) (by decide +kernel) (by decide +kernel) (by decide) (fun _ _ h => by rw [h.1]; rfl) (fun _ U U' hal hh h => ⟨h.1, h.2.1.mv hal hh, h.2.2.1.al hal, h.2.2.2.1.al hal, h.2.2.2.2.1.mv hal hh, h.2.2.2.2.2.1.there hal hh, h.2.2.2.2.2.2⟩) (fun r U U' V V' h1 hal h2 h => Got.mv r U U' V V' h1 hal h2 h) ?_
  intro p e s m args below meth c s₁ X0 hexec hbytes hml hret hlk hnm hown hh0 W hP
  obtain ⟨rfl, hB, f1, f2, hA, s1, hz, l0, l1, l2, hp⟩ := hP
  have a31 := hA.1.2.2.2
  have c1 : Steps p.tables e below (s₁.setTop (entryFrame m #[.ref a, .ref b, .int (Int32.ofNat o), .int (Int32.ofNat len), .null] 6)) (s₁.setTop (mkF m 0 #[.val (.ref a), .val (.ref b), .val (.int (Int32.ofNat o)), .val (.int (Int32.ofNat len)), .val .null, .unset] [])) := entry rfl
  have c2 : Steps p.tables e below (s₁.setTop (entryFrame m #[.ref a, .ref b, .int (Int32.ofNat o), .int (Int32.ofNat len), .null] 6)) (s₁.setTop (mkF m 1 #[.val (.ref a), .val (.ref b), .val (.int (Int32.ofNat o)), .val (.int (Int32.ofNat len)), .val .null, .unset] [.ref a])) := c1.trans (by
    refine XS.aloadN X0.here hexec rfl (hb hbytes d0) rfl rfl ?_
    exact Steps.refl _)
  obtain ⟨T3, X3, q3, st3⟩ := X0.oinit hexec hown (wks W (objW "java/lang/String" 1)) (g := (mkF m 1 #[.val (.ref a), .val (.ref b), .val (.int (Int32.ofNat o)), .val (.int (Int32.ofNat len)), .val .null, .unset] [.ref a])) rfl (by rw [hml]; rfl) (rest := []) rfl (hb hbytes d1) (W := 0) (by show 2 * 0 + 0 ≤ _; decide) (Nat.le_of_ble_eq_true rfl) (Nat.le_of_ble_eq_true rfl)
  have hh3 := q3.trans hh0
  have c4 : Steps p.tables e below (s₁.setTop (entryFrame m #[.ref a, .ref b, .int (Int32.ofNat o), .int (Int32.ofNat len), .null] 6)) (T3.setTop (mkF m 27 #[.val (.ref a), .val (.ref b), .val (.int (Int32.ofNat o)), .val (.int (Int32.ofNat len)), .val .null, .unset] [])) := (c2.trans (st3 _ (Steps.refl _))).trans (by
    refine XS.iloadN X3.here hexec rfl (hb hbytes d4) rfl ?_
    refine XS.ifYes X3.here hexec rfl (pc0 := 5) rfl (hb hbytes d5) rfl (i0_ne_t (nz32 (by omega) l0)) (by decide) rfl ?_
    exact Steps.refl _)
  obtain ⟨T5, X5, q5, st5⟩ := X3.sget hexec hown (wk W (.fieldLink "java/lang/String" 38 "java/lang/String" "COMPACT_STRINGS" "Z")) s1 (fun _ _ h => by rw [hh3]; exact h) (g := (mkF m 27 #[.val (.ref a), .val (.ref b), .val (.int (Int32.ofNat o)), .val (.int (Int32.ofNat len)), .val .null, .unset] [])) rfl (hb hbytes d27)
  have hh5 := q5.trans hh3
  have c6 : Steps p.tables e below (s₁.setTop (entryFrame m #[.ref a, .ref b, .int (Int32.ofNat o), .int (Int32.ofNat len), .null] 6)) (T5.setTop (mkF m 30 #[.val (.ref a), .val (.ref b), .val (.int (Int32.ofNat o)), .val (.int (Int32.ofNat len)), .val .null, .unset] [.int z])) := c4.trans (st5 _ (Steps.refl _))
  have c7 : Steps p.tables e below (s₁.setTop (entryFrame m #[.ref a, .ref b, .int (Int32.ofNat o), .int (Int32.ofNat len), .null] 6)) (T5.setTop (mkF m 36 #[.val (.ref a), .val (.ref b), .val (.int (Int32.ofNat o)), .val (.int (Int32.ofNat len)), .val .null, .unset] [.int (Int32.ofNat len), .int (Int32.ofNat o), .ref b])) := c6.trans (by
    refine XS.ifNo X5.here hexec rfl (hb hbytes d30) rfl (i0_eq_f hz) ?_
    refine XS.aloadN X5.here hexec rfl (hb hbytes d33) rfl rfl ?_
    refine XS.iloadN X5.here hexec rfl (hb hbytes d34) rfl ?_
    refine XS.iloadN X5.here hexec rfl (hb hbytes d35) rfl ?_
    exact Steps.refl _)
  obtain ⟨v8, T8, X8, E8, g8⟩ := X5.callS hexec (Cmp3.law l b A o len) hown (wks W (staticW "java/lang/String" 177 Cmp3.yN)) (wk W Cmp3.tab) (W := 0) (Nat.le_of_ble_eq_true rfl) (Nat.le_of_ble_eq_true rfl) (Nat.le_refl _) (by show 0 + len ≤ len; omega) (g := (mkF m 36 #[.val (.ref a), .val (.ref b), .val (.int (Int32.ofNat o)), .val (.int (Int32.ofNat len)), .val .null, .unset] [.int (Int32.ofNat len), .int (Int32.ofNat o), .ref b])) rfl (by rw [hml]; rfl) c7 (argsL := [.ref b, .int (Int32.ofNat o), .int (Int32.ofNat len)]) (rest := []) rfl rfl (by show 2 * 0 + 0 ≤ _; decide) (hb hbytes d36) (⟨rfl, hA.mv X5.warmed.alike hh5, l1, l2, hp⟩)
  obtain ⟨e8, z8⟩ := E8
  obtain ⟨rfl, N, n1, n2, n3, n4, n5, n6⟩ := NewArr.mv _ T5 s _ _ hh5.symm (Vm.Alike.refl _) rfl e8
  rw [hh5] at z8
  have hB1 := hB.keep X8.warmed.alike (n6 _ _ hB.1)
  have hne : s.heap.size ≠ a := (Nat.ne_of_lt (Array.getElem?_eq_some_iff.mp hB.1).1).symm
  have c9 : Steps p.tables e below (s₁.setTop (entryFrame m #[.ref a, .ref b, .int (Int32.ofNat o), .int (Int32.ofNat len), .null] 6)) (T8.setTop (mkF m 39 #[.val (.ref a), .val (.ref b), .val (.int (Int32.ofNat o)), .val (.int (Int32.ofNat len)), .val .null, .unset] [.ref s.heap.size])) := g8
  have c10 : Steps p.tables e below (s₁.setTop (entryFrame m #[.ref a, .ref b, .int (Int32.ofNat o), .int (Int32.ofNat len), .null] 6)) (T8.setTop (mkF m 45 #[.val (.ref a), .val (.ref b), .val (.int (Int32.ofNat o)), .val (.int (Int32.ofNat len)), .val .null, .val (.ref s.heap.size)] [.int (Int32.ofNat N.slots.size), .ref s.heap.size, .ref a])) := by
    have hc : Steps p.tables e below (s₁.setTop (entryFrame m #[.ref a, .ref b, .int (Int32.ofNat o), .int (Int32.ofNat len), .null] 6)) (T8.setTop (mkF m 45 #[.val (.ref a), .val (.ref b), .val (.int (Int32.ofNat o)), .val (.int (Int32.ofNat len)), .val .null, .val (.ref s.heap.size)] [.int (Int32.ofNat len), .ref s.heap.size, .ref a])) := c9.trans (by
      refine XS.astore X8.here hexec rfl (hb hbytes d39) rfl rfl rfl ?_
      refine XS.aloadN X8.here hexec rfl (hb hbytes d41) rfl rfl ?_
      refine XS.aload X8.here hexec rfl (hb hbytes d42) rfl rfl ?_
      refine XS.iloadN X8.here hexec rfl (hb hbytes d44) rfl ?_
      exact Steps.refl _)
    rw [n4]; exact hc
  obtain ⟨v11, T11, X11, E11, g11⟩ := X8.callS hexec (CodL.law l s.heap.size N) hown (wks W (staticW "java/lang/String" 47 CodL.yN)) (wk W CodL.tab) (W := 1) (Nat.le_of_ble_eq_true rfl) (Nat.le_of_ble_eq_true rfl) (Nat.le_refl _) (by show 0 + len + 0 ≤ len; omega) (g := (mkF m 45 #[.val (.ref a), .val (.ref b), .val (.int (Int32.ofNat o)), .val (.int (Int32.ofNat len)), .val .null, .val (.ref s.heap.size)] [.int (Int32.ofNat N.slots.size), .ref s.heap.size, .ref a])) rfl (by rw [hml]; rfl) c10 (argsL := [.ref s.heap.size, .int (Int32.ofNat N.slots.size)]) (rest := [.ref a]) rfl rfl (by show 2 * 0 + (1 + 0) ≤ _; decide) (hb hbytes d45) (⟨rfl, n1⟩)
  obtain ⟨rfl, q11⟩ := E11
  have hB11 := hB1.mv (X8.warmed.alike.symm.trans X11.warmed.alike) q11
  have c12 : Steps p.tables e below (s₁.setTop (entryFrame m #[.ref a, .ref b, .int (Int32.ofNat o), .int (Int32.ofNat len), .null] 6)) (T11.setTop (mkF m 48 #[.val (.ref a), .val (.ref b), .val (.int (Int32.ofNat o)), .val (.int (Int32.ofNat len)), .val .null, .val (.ref s.heap.size)] [.int 0, .ref a])) := g11
  obtain ⟨T13, X13, p13, bl13, sl13, st13⟩ := X11.finit hexec hown (wk W (.fieldLink "java/lang/String" 15 "java/lang/String" "coder" "B")) (Or.inr ⟨_, (wk W (.laysFinal "java/lang/String" "java/lang/String" "coder" "B"))⟩) (Or.inl ⟨rfl, hnm⟩) f2 (Or.inl rfl) hB11 (t := .byte) (by decide +kernel) rfl (g := (mkF m 48 #[.val (.ref a), .val (.ref b), .val (.int (Int32.ofNat o)), .val (.int (Int32.ofNat len)), .val .null, .val (.ref s.heap.size)] [.int 0, .ref a])) rfl (rest := []) rfl (hb hbytes d48)
  have c14 : Steps p.tables e below (s₁.setTop (entryFrame m #[.ref a, .ref b, .int (Int32.ofNat o), .int (Int32.ofNat len), .null] 6)) (T13.setTop (mkF m 54 #[.val (.ref a), .val (.ref b), .val (.int (Int32.ofNat o)), .val (.int (Int32.ofNat len)), .val .null, .val (.ref s.heap.size)] [.ref s.heap.size, .ref a])) := (c12.trans (st13 _ (Steps.refl _))).trans (by
    refine XS.aloadN X13.here hexec rfl (hb hbytes d51) rfl rfl ?_
    refine XS.aload X13.here hexec rfl (hb hbytes d52) rfl rfl ?_
    exact Steps.refl _)
  obtain ⟨T15, X15, p15, bl15, sl15, st15⟩ := X13.finit hexec hown (wk W (.fieldLink "java/lang/String" 9 "java/lang/String" "value" "[B")) (Or.inr ⟨_, (wk W (.laysFinal "java/lang/String" "java/lang/String" "value" "[B"))⟩) (Or.inl ⟨rfl, hnm⟩) f1 (Or.inl rfl) bl13 (t := (.array .byte)) (by decide +kernel) rfl (g := (mkF m 54 #[.val (.ref a), .val (.ref b), .val (.int (Int32.ofNat o)), .val (.int (Int32.ofNat len)), .val .null, .val (.ref s.heap.size)] [.ref s.heap.size, .ref a])) rfl (rest := []) rfl (hb hbytes d54)
  have c16 : Steps p.tables e below (s₁.setTop (entryFrame m #[.ref a, .ref b, .int (Int32.ofNat o), .int (Int32.ofNat len), .null] 6)) (T15.setTop (mkF m 57 #[.val (.ref a), .val (.ref b), .val (.int (Int32.ofNat o)), .val (.int (Int32.ofNat len)), .val .null, .val (.ref s.heap.size)] [])) := c14.trans (st15 _ (Steps.refl _))
  have ap := apart (Or.inr ⟨_, (wk W (.laysFinal "java/lang/String" "java/lang/String" "value" "[B"))⟩) (Or.inr ⟨_, (wk W (.laysFinal "java/lang/String" "java/lang/String" "coder" "B"))⟩) f1 f2 (t₁ := .array .byte) (t₂ := .byte) (by decide +kernel) (by decide +kernel) (by decide)
  have al := X8.warmed.alike.symm.trans X15.warmed.alike
  have n7 : T11.heap[s.heap.size]? = some N := by rw [q11]; exact n1.1
  exact ⟨T15, none, _, _, _, X15, by simp, rfl, by omega, (fun _ => rfl), ⟨rfl, _, N, bl15, ((Same.refl D _).set _ (by simp)).set _ (by simp), sl15, (Cell.slots_setSlot_ne _ ap).trans sl13, n1.keep al (p15.other hne (p13.other hne n7)), n2, by rw [al.findClass]; exact n3, n4, n5, fun y c h1 h2 => p15.other h1 (p13.other h1 (by rw [q11]; exact n6 y c h2)), by rw [p15.2.2, p13.2.2, q11]; exact z8⟩, fun fs hl => c16.trans (X15.returnOut hexec hret (hb hbytes d57) hl)⟩
end New4
namespace New1
def yN : MethodName := ⟨"java/lang/String", "<init>", "([C)V"⟩
abbrev yB : ByteArray := jdk_42_method_3_code
theorem d0 : decode yB 0 = .ok (.aload_n 0, 1) := by decide +kernel
theorem d1 : decode yB 1 = .ok (.aload_n 1, 1) := by decide +kernel
theorem d2 : decode yB 2 = .ok (.iconst 0, 1) := by decide +kernel
theorem d3 : decode yB 3 = .ok (.aload_n 1, 1) := by decide +kernel
theorem d4 : decode yB 4 = .ok (.arraylength, 1) := by decide +kernel
theorem d5 : decode yB 5 = .ok (.aconst_null, 1) := by decide +kernel
theorem d6 : decode yB 6 = .ok (.invokespecial 27, 3) := by decide +kernel
theorem d9 : decode yB 9 = .ok (.return_, 1) := by decide +kernel
def site : List Cond := [New4.tab] ++ initW "java/lang/String" 27 New4.yN
def tab : Cond := tabOf yN yB 2 none site
def P (a : Addr) (D : Cell) (fV fC : Field) (b : Addr) (A : Cell) (z : Int32) (args : Array Value) (s : State) : Prop := args = #[.ref a, .ref b] ∧ Blank "java/lang/String" a D s ∧ Found "java/lang/String" "value" "[B" fV s ∧ Found "java/lang/String" "coder" "B" fC s ∧ Ch b A s ∧ StaticIs s "java/lang/String" "COMPACT_STRINGS" "Z" (.int z) ∧ ¬ z = 0 ∧ 0 < A.slots.size ∧ A.slots.size ≤ 536870912 ∧ ∀ i, i < A.slots.size → ¬ 255 < cv A i
def E (a : Addr) (D : Cell) (fV fC : Field) (A : Cell) (r : Option Value) (s u : State) : Prop := Got a D fV fC A 0 A.slots.size r s u
/-- new String(chars), not empty, no char above 255: a Latin-1 String of their low bytes -/
theorem law (l : Launch) (a : Addr) (D : Cell) (fV fC : Field) (b : Addr) (A : Cell) (z : Int32) : Law l yN 2 1 3 52 yB 2 none site (P a D fV fC b A z) (E a D fV fC A) [⟨a, fC.slot⟩, ⟨a, fV.slot⟩] 1 A.slots.size := by
  refine Law.of_walk (plainFor_of_name (by decide +kernel)) (by decide +kernel) (by decide +kernel) (by decide) (fun _ _ h => by rw [h.1]; rfl) (fun _ U U' hal hh h => ⟨h.1, h.2.1.mv hal hh, h.2.2.1.al hal, h.2.2.2.1.al hal, h.2.2.2.2.1.mv hal hh, h.2.2.2.2.2.1.there hal hh, h.2.2.2.2.2.2⟩) (fun r U U' V V' h1 hal h2 h => Got.mv r U U' V V' h1 hal h2 h) ?_
  intro p e s m args below meth c s₁ X0 hexec hbytes hml hret hlk hnm hown hh0 W hP
  obtain ⟨rfl, hB, f1, f2, hA, s1, hz, l0, l2, hp⟩ := hP
  have c1 : Steps p.tables e below (s₁.setTop (entryFrame m #[.ref a, .ref b] 2)) (s₁.setTop (mkF m 0 #[.val (.ref a), .val (.ref b)] [])) := entry rfl
  have c2 : Steps p.tables e below (s₁.setTop (entryFrame m #[.ref a, .ref b] 2)) (s₁.setTop (mkF m 6 #[.val (.ref a), .val (.ref b)] [.null, .int (Int32.ofNat A.slots.size), .int 0, .ref b, .ref a])) := c1.trans (by
    refine XS.aloadN X0.here hexec rfl (hb hbytes d0) rfl rfl ?_
    refine XS.aloadN X0.here hexec rfl (hb hbytes d1) rfl rfl ?_
    refine iconstV X0.here hexec rfl 0 (hb hbytes d2) (by decide) ?_
    refine XS.aloadN X0.here hexec rfl (hb hbytes d3) rfl rfl ?_
    refine X0.alen hexec (hA.1.mv X0.warmed.alike hh0) rfl rfl (hb hbytes d4) ?_
    refine XS.aconstNull X0.here hexec rfl (hb hbytes d5) ?_
    exact Steps.refl _)
  obtain ⟨v3, T3, X3, E3, g3⟩ := X0.callN hexec (New4.law l a D fV fC b A z 0 A.slots.size) rfl hown (wks W (initW "java/lang/String" 27 New4.yN)) (W New4.tab (by simp only [site, List.mem_cons, List.mem_append, true_or, or_true])) (W := 0) (Nat.le_of_ble_eq_true rfl) (Nat.le_of_ble_eq_true rfl) (Nat.le_refl _) (by show 0 + A.slots.size ≤ A.slots.size; omega) (g := (mkF m 6 #[.val (.ref a), .val (.ref b)] [.null, .int (Int32.ofNat A.slots.size), .int (Int32.ofNat 0), .ref b, .ref a])) rfl (by rw [hml]; rfl) c2 (argsL := [.ref b, .int (Int32.ofNat 0), .int (Int32.ofNat A.slots.size), .null]) (rest := []) rfl rfl (by show 2 * 0 + 0 ≤ _; decide) (hb hbytes d6) (⟨rfl, hB.mv X0.warmed.alike hh0, f1.al X0.warmed.alike, f2.al X0.warmed.alike, hA.mv X0.warmed.alike hh0, s1.there X0.warmed.alike hh0, hz, l0, by omega, l2, fun i hi => by rw [Nat.zero_add]; exact hp i hi⟩)
  have e0 := Got.mv _ s₁ s _ _ hh0.symm (Vm.Alike.refl _) rfl E3
  obtain rfl := e0.1
  have c4 : Steps p.tables e below (s₁.setTop (entryFrame m #[.ref a, .ref b] 2)) (T3.setTop (mkF m 9 #[.val (.ref a), .val (.ref b)] [])) := g3
  exact ⟨T3, none, _, _, _, X3, by simp, rfl, by omega, (fun _ => rfl), e0, fun fs hl => c4.trans (X3.returnOut hexec hret (hb hbytes d9) hl)⟩
theorem pays {l : Launch} {R : Room} {p : Program} {e : Env} {below : List Frame} {s : State} {sargs : Array Value} {len W : Nat} (a : Addr) (D : Cell) (fV fC : Field) (b : Addr) (A : Cell) (z : Int32) (htab : tab.before sargs s = true) (hfr : 4 ≤ R.frames) (hlo : W + 65 ≤ R.locals) :
    Back l R p e below s sargs yN len W (fun A₁ a₁ => A₁.cells + 1 ≤ R.cells ∧ A₁.slots + A.slots.size ≤ R.slots ∧ P a D fV fC b A z a₁ A₁.U) (fun A₁ _ v₁ B₁ => E a D fV fC A v₁ A₁.U B₁.U ∧ B₁.locs = A₁.locs ++ [⟨a, fC.slot⟩, ⟨a, fV.slot⟩] ∧ B₁.cells = A₁.cells + 1 ∧ B₁.slots = A₁.slots + A.slots.size) :=
  (law l a D fV fC b A z).pays htab hfr (by omega)
end New1
end StrChars
namespace StrChars.Road
open Jvm Sem ClassFile Op Lib Jvm.Stand Jvm.Free Jvm.Free.XT
open Jvm.Lib.Cold (StaticIs)
abbrev ST : String := "java/lang/String"
/-- every table word that New1's law asks, flat -/
abbrev words : List Jvm.Cond := [.code New1.yN New1.yB 2 none, .initialized ST, .methodLink ST 27 New4.yN, .instanceMethod New4.yN,
  .code New4.yN New4.yB 6 none, .fieldLink ST 38 ST "COMPACT_STRINGS" "Z", .laysFinal ST ST "value" "[B", .fieldLink ST 9 ST "value" "[B", .laysFinal ST ST "coder" "B", .fieldLink ST 15 ST "coder" "B",
  .methodLink ST 1 Lib.objectInit, .instanceMethod Lib.objectInit, .code Lib.objectInit ⟨#[0xb1]⟩ 1 none, .methodLink ST 177 Cmp3.yN, .static Cmp3.yN, .methodLink ST 47 CodL.yN, .static CodL.yN,
  .code Cmp3.yN Cmp3.yB 6 (some (.array .byte)), .initialized U16, .arrayClass .byte, .methodLink U16 115 Cmp5.yN, .static Cmp5.yN, .code Cmp5.yN Cmp5.yB 7 (some .int), .code CodL.yN CodL.yB 2 (some .byte)]
theorem tab_of {a : Array Value} {s : State} (h : ∀ w ∈ words, w.before a s = true) : New1.tab.before a s = true := by
  have h5 : Cmp5.tab.before a s = true := unparts (wk h (.code Cmp5.yN Cmp5.yB 7 (some .int))) (wks h (.initialized Cmp5.yN.cls :: Cmp5.site))
  have hc : CodL.tab.before a s = true := unparts (wk h (.code CodL.yN CodL.yB 2 (some .byte))) (wks h (.initialized CodL.yN.cls :: CodL.site))
  have q5 : ∀ w ∈ Cmp5.tab :: words, w.before a s = true := fun w hw => (List.mem_cons.mp hw).elim (fun e => e ▸ h5) (h w)
  have h3 : Cmp3.tab.before a s = true := unparts (wk q5 (.code Cmp3.yN Cmp3.yB 6 (some (.array .byte)))) (wks q5 (.initialized Cmp3.yN.cls :: Cmp3.site))
  have q3 : ∀ w ∈ Cmp3.tab :: CodL.tab :: words, w.before a s = true := fun w hw => (List.mem_cons.mp hw).elim (fun e => e ▸ h3) fun hw => (List.mem_cons.mp hw).elim (fun e => e ▸ hc) (h w)
  have h4 : New4.tab.before a s = true := unparts (wk q3 (.code New4.yN New4.yB 6 none)) (wks q3 (.initialized New4.yN.cls :: New4.site))
  have q4 : ∀ w ∈ New4.tab :: words, w.before a s = true := fun w hw => (List.mem_cons.mp hw).elim (fun e => e ▸ h4) (h w)
  exact unparts (wk q4 (.code New1.yN New1.yB 2 none)) (wks q4 (.initialized New1.yN.cls :: New1.site))
/-- the words ride from the start Z to the walk's own state -/
theorem moved {Z s : State} {a0 args : Array Value} (hZ : Z.Warmed39 s.vm) (hw : ∀ d ∈ words, d.before a0 Z = true) : ∀ d ∈ words, d.before args s = true := fun d hd => by
  have q := hw d hd
  have t : ∀ d ∈ words, d = .arrayClass .byte ∨ (d.onTables && d.keepsFace) = true := by decide +kernel
  rcases t d hd with rfl | t
  · exact RoadKit.mvA hZ q
  · exact RoadKit.mv hZ q t
/-- WHAT COMES BACK, over the tables of the start Z: h the heap at the call, h' behind it -/
def Q (Z : State) (x : Addr) (A : Cell) (h : Heap) (v : Option Value) (h' : Heap) (L : List Loc) : Prop := v = none ∧ (∀ y ∈ L, y.base = x) ∧ RoadKit.Keep h h' [x] ∧ h'.size = h.size + 1 ∧ RoadKit.Exa Z h' x ST ∧ RoadKit.Fld Z h' x ST "value" "[B" (.ref h.size) ∧ RoadKit.Fld Z h' x ST "coder" "B" (.int 0) ∧
  (∃ V : Cell, RoadKit.Arr Z h' h.size V .byte ∧ V.vm = .none ∧ Z.vm.findClass "[B" = some V.cls ∧ V.slots.size = A.slots.size ∧ ∀ j, j < A.slots.size → V.slots[j]? = some (.int (lo8 (cv A j)))) ∧
  ∀ (O n d : String) (w : Value), RoadKit.Fld Z h x O n d w → RoadKit.slotOf Z O n d ≠ RoadKit.slotOf Z ST "value" "[B" → RoadKit.slotOf Z O n d ≠ RoadKit.slotOf Z ST "coder" "B" → RoadKit.Fld Z h' x O n d w
/-- **new String(chars) AT A CALL, IN THE ROAD'S FORM**: for specialBack behind newO: x the fresh String, b the char[] with the cell A -/
theorem back {p : Program} {l : Launch} {e : Env} {R : Room} {s : State} {args : Array Value} {below : List Frame} {len W : Nat} {Z : State} {a0 : Array Value} {h : Heap} (hZ : Z.Warmed39 s.vm) (hw : ∀ d ∈ words, d.before a0 Z = true) {kI : Nat} (wi : (Jvm.Cond.instantiable ST kI).before a0 Z = true)
    {x b : Addr} {A : Cell} {z : Int32} {v0 c0 : Value} (E : RoadKit.Exa Z h x ST) (V : RoadKit.Fld Z h x ST "value" "[B" v0) (C : RoadKit.Fld Z h x ST "coder" "B" c0) (K : RoadKit.Arr Z h b A .char) (hty : Typed .char A) (S : RoadKit.Sta Z h ST "COMPACT_STRINGS" "Z" (.int z)) (hz : ¬ z = 0)
    (l0 : 0 < A.slots.size) (l2 : A.slots.size ≤ 536870912) (hp : ∀ i, i < A.slots.size → ¬ 255 < cv A i) (hfr : 4 ≤ R.frames) (hlo : W + 65 ≤ R.locals) :
    Back l R p e below s args New1.yN len W (fun P a => a = #[.ref x, .ref b] ∧ P.U.heap = h ∧ P.cells + 1 ≤ R.cells ∧ P.slots + A.slots.size ≤ R.slots)
      (fun P _ v B => ∃ L, Q Z x A h v B.U.heap L ∧ B.locs = P.locs ++ L ∧ B.cells = P.cells + 1 ∧ B.slots = P.slots + A.slots.size) := by
  intro m meth c P g ig mk a X hg hsize hdg hW hn hp'
  obtain ⟨rfl, rfl, r1, r2⟩ := hp'
  have al : Z.vm.Alike P.U.vm := hZ.alike.trans X.warmed.alike
  obtain ⟨D, cfV, kV, iV, fV, hD, gV, stV, knV, obV, asV, slV⟩ := id V
  obtain ⟨D', cfC, kC, iC, fC, hD', gC, stC, -, -, asC, slC⟩ := id C
  cases hD.symm.trans hD'
  obtain ⟨D2, kD, e1, e2, e3, e4, e5⟩ := id E
  cases hD.symm.trans e1
  obtain ⟨c2, k2, i1, i2, i3, -⟩ := Cond.instantiable_spec wi
  cases e2.symm.trans i1
  cases e3.symm.trans i2
  obtain ⟨kU, u1, u2⟩ := al.2.2 _ _ e3
  have hB : Blank ST x D P.U := ⟨hD, ⟨knV, fun q hq => by rw [hq] at obV; cases obV⟩, by rw [al.findClass]; exact e2, kU, u1, by rw [u2]; exact i3, by rw [u2]; exact e5 i3⟩
  have F1 : Found ST "value" "[B" fV P.U := ⟨SBG.found_only al ⟨cfV, kV, iV, gV⟩, stV⟩
  have F2 : Found ST "coder" "B" fC P.U := ⟨SBG.found_only al ⟨cfC, kC, iC, gC⟩, stC⟩
  have hA : Ch b A P.U := ⟨⟨K.1, State.isArrayOf_alike al K.2.1, K.2.2, by omega⟩, hty⟩
  have hS : StaticIs P.U ST "COMPACT_STRINGS" "Z" (.int z) := by
    obtain ⟨cfS, iS, kS, fS, st, cS, t1, t2, t3, t4, t5, t6, t7⟩ := S
    exact StaticIs.there (s := { Z with heap := P.U.heap }) ⟨cfS, iS, kS, fS, st, cS, t1, t2, t3, t4, t5, (fun q => by rw [q] at t6; cases t6), t7⟩ al rfl
  obtain ⟨v, B, X', ⟨⟨hv, E', V', q1, q2, q3, q4, q5, q6, q7, q8, q9, q10, q11⟩, hl, hc, hs⟩, st⟩ := New1.pays x D fV fC b A z (tab_of (moved hZ hw)) hfr hlo m meth c P g ig mk _ X hg hsize hdg hW hn ⟨r1, r2, rfl, hB, F1, F2, hA, hS, hz, l0, l2, hp⟩
  have al' : Z.vm.Alike B.U.vm := hZ.alike.trans X'.warmed.alike
  have hsz : E'.slots.size = D.slots.size := by
    obtain ⟨-, -, -, kB, w1, w2, w3⟩ := q1
    obtain ⟨kB', y1, y2⟩ := al'.2.2 _ _ e3
    rw [q2.2.1] at w1
    cases w1.symm.trans y1
    rw [w3, e5 i3, y2]
  refine ⟨v, B, X', ⟨_, ⟨hv, ?_, ⟨by omega, fun y cy hy hn' => q10 y cy (by simpa using hn') hy, fun y cy hy => ?_⟩, q11, ⟨E', _, q1.1, by rw [q2.2.1]; exact e2, by rw [q2.2.1]; exact e3, by rw [q2.1]; exact obV, fun _ => by rw [hsz]; exact e5 i3⟩,
    ⟨E', cfV, kV, iV, fV, q1.1, gV, stV, by rw [q2.1]; exact knV, by rw [q2.1]; exact obV, by rw [q2.2.1]; exact asV, q3⟩, ⟨E', cfC, kC, iC, fC, q1.1, gC, stC, by rw [q2.1]; exact knV, by rw [q2.1]; exact obV, by rw [q2.2.1]; exact asC, q4⟩,
    ⟨V', ⟨q5.1, State.isArrayOf_alike al'.symm q5.2.1, q5.2.2.1⟩, q6, by rw [← al'.findClass]; exact q7, q8, fun j hj => by have := q9 j hj; rwa [Nat.zero_add] at this⟩, fun O n d w F n1 n2 => ?_⟩, hl, hc, hs⟩, st⟩
  · intro y hy
    simp only [List.mem_cons, List.not_mem_nil, or_false] at hy
    rcases hy with rfl | rfl <;> rfl
  · by_cases q : y = x
    · subst q
      cases hD.symm.trans hy
      exact ⟨E', q1.1, q2.2.1, q2.1, hsz⟩
    · exact ⟨cy, q10 y cy q hy, rfl, rfl, rfl⟩
  · obtain ⟨D3, cf, k, i, f, g1, g2, g3, g4, g5, g6, g7⟩ := F
    cases hD.symm.trans g1
    simp only [RoadKit.slotOf, g2, gV, gC, Option.map_some, Option.getD_some] at n1 n2
    exact ⟨E', cf, k, i, f, q1.1, g2, g3, by rw [q2.1]; exact g4, by rw [q2.1]; exact g5, by rw [q2.2.1]; exact g6, by rw [q2.2.2 f.slot (by simp [n1, n2])]; exact g7⟩
end StrChars.Road
namespace StrChars.Road
open Jvm Sem ClassFile Op Lib Jvm.Stand Jvm.Free Jvm.Free.XT
/-- WHAT COMES BACK, the byte[] as a list of values -/
def QA (Z : State) (x : Addr) (zn : Int32) (cs : List Int32) (h : Heap) (v : Option Value) (h' : Heap) (L : List Loc) : Prop := v = none ∧ (∀ y ∈ L, y.base = x) ∧ RoadKit.Keep h h' [x] ∧ h'.size = h.size + 1 ∧ RoadKit.Exa Z h' x ST ∧ RoadKit.Fld Z h' x ST "value" "[B" (.ref h.size) ∧ RoadKit.Fld Z h' x ST "coder" "B" (.int 0) ∧
  (∃ kb, Z.vm.findClass "[B" = some kb ∧ RoadKit.Arv Z h' h.size kb .byte zn (cs.map fun c => .int (lo8 c)) (.int 0)) ∧
  ∀ (O n d : String) (w : Value), RoadKit.Fld Z h x O n d w → RoadKit.slotOf Z O n d ≠ RoadKit.slotOf Z ST "value" "[B" → RoadKit.slotOf Z O n d ≠ RoadKit.slotOf Z ST "coder" "B" → RoadKit.Fld Z h' x O n d w
/-- **new String(chars) AT A CALL, THE ARRAYS AS LISTS**: the char[] at b holds cs, not empty, no char above 255 -/
theorem backArv {p : Program} {l : Launch} {e : Env} {R : Room} {s : State} {args : Array Value} {below : List Frame} {len W : Nat} {Z : State} {a0 : Array Value} {h : Heap} (hZ : Z.Warmed39 s.vm) (hw : ∀ d ∈ words, d.before a0 Z = true) {kI : Nat} (wi : (Jvm.Cond.instantiable ST kI).before a0 Z = true)
    {x b : Addr} {k : ClassId} {zn z : Int32} {cs : List Int32} {dv v0 c0 : Value} (E : RoadKit.Exa Z h x ST) (V : RoadKit.Fld Z h x ST "value" "[B" v0) (C : RoadKit.Fld Z h x ST "coder" "B" c0) (K : RoadKit.Arv Z h b k .char zn (cs.map Value.int) dv) (S : RoadKit.Sta Z h ST "COMPACT_STRINGS" "Z" (.int z)) (hz : ¬ z = 0)
    (hlen : zn.toNatClampNeg = cs.length) (h0 : 0 < cs.length) (hbig : cs.length ≤ 536870912) (hall : ∀ c ∈ cs, ¬ 255 < c) (hfr : 4 ≤ R.frames) (hlo : W + 65 ≤ R.locals) :
    Back l R p e below s args New1.yN len W (fun P a => a = #[.ref x, .ref b] ∧ P.U.heap = h ∧ P.cells + 1 ≤ R.cells ∧ P.slots + cs.length ≤ R.slots)
      (fun P _ v B => ∃ L, QA Z x zn cs h v B.U.heap L ∧ B.locs = P.locs ++ L ∧ B.cells = P.cells + 1 ∧ B.slots = P.slots + cs.length) := by
  obtain ⟨A, K1, K2, K3, K4, K5, K6⟩ := K
  have e : A.slots.size = cs.length := K3.trans hlen
  have hat : ∀ (i : Nat) (hi : i < cs.length), A.slots[i]? = some (.int cs[i]) := fun i hi => by rw [K5 i (by omega)]; simp [List.getD_eq_getElem?_getD, hi]
  have hcv : ∀ (i : Nat) (hi : i < cs.length), cv A i = cs[i] := fun i hi => by unfold cv; rw [hat i hi]
  have hty : Typed .char A := fun i v hv => by
    have hi : i < A.slots.size := (Array.getElem?_eq_some_iff.mp hv).1
    have q := K5 i hi
    rw [hv] at q
    rw [Option.some.inj q]
    exact K6 i hi
  refine Back.mono (back hZ hw wi E V C K1 hty S hz (by omega) (by omega) (fun i hi => by rw [hcv i (by omega)]; exact hall _ (List.getElem_mem _)) hfr hlo) (fun P a hp => ⟨hp.1, hp.2.1, hp.2.2.1, by rw [e]; exact hp.2.2.2⟩) (fun P a v B hp hq => ?_)
  obtain ⟨L, ⟨q1, q2, q3, q4, q5, q6, q7, ⟨V', v1, v2, v3, v4, v5⟩, q9⟩, hl, hc, hs⟩ := hq
  refine ⟨L, ⟨q1, q2, q3, q4, q5, q6, q7, ⟨V'.cls, v3, V', v1, rfl, by rw [v4, e, hlen], K4, fun i hi => ?_, fun i hi => ?_⟩, q9⟩, hl, hc, by rw [hs, e]⟩
  · have hi' : i < cs.length := by omega
    rw [v5 i (by omega), hcv i hi']; simp [List.getD_eq_getElem?_getD, hi']
  · have hi' : i < cs.length := by omega
    simp only [List.getD_eq_getElem?_getD, List.getElem?_map, List.getElem?_eq_getElem hi', Option.map_some, Option.getD_some]
    exact fits_lo8 _
end StrChars.Road
namespace StrChars.Road
open Jvm Sem ClassFile Op Lib Jvm.Stand Jvm.Free Jvm.Free.XT
/-- WHAT COMES BACK, in the writer's own shape -/
def QV (Z : State) (x : Addr) (N : Int32) (bs : List Int32) (h : Heap) (n0 : Nat) (v : Option Value) (h' : Heap) (L : List Loc) : Prop := v = none ∧ RoadKit.Fr n0 L ∧ RoadKit.Keep h h' [x] ∧ RoadKit.Exa Z h' x ST ∧ RoadKit.Fld Z h' x ST "coder" "B" (.int 0) ∧
  ∃ (t : Addr) (kb : ClassId), n0 ≤ t ∧ h.size ≤ t ∧ ¬ t = x ∧ RoadKit.Fld Z h' x ST "value" "[B" (.ref t) ∧ RoadKit.Arv Z h' t kb .byte N (bs.map Value.int) (.int 0)
/-- **new String(chars) AT A CALL, FOR THE WRITER**: a char[] of n known ints, each 0 to 255 -/
theorem backV {p : Program} {l : Launch} {e : Env} {R : Room} {s : State} {args : Array Value} {below : List Frame} {len W : Nat} {Z : State} {a0 : Array Value} {h : Heap} (hZ : Z.Warmed39 s.vm) (hw : ∀ d ∈ words, d.before a0 Z = true) {kI : Nat} (wi : (Jvm.Cond.instantiable ST kI).before a0 Z = true)
    {x b : Addr} {kC : ClassId} {cs bs : List Int32} {d v0 c0 : Value} {z N : Int32} {n n0 : Nat} (hx0 : n0 ≤ x) (hh0 : n0 ≤ h.size) (E : RoadKit.Exa Z h x ST) (V : RoadKit.Fld Z h x ST "value" "[B" v0) (C : RoadKit.Fld Z h x ST "coder" "B" c0) (K : RoadKit.Arv Z h b kC .char N (cs.map Value.int) d) (S : RoadKit.Sta Z h ST "COMPACT_STRINGS" "Z" (.int z)) (hz : ¬ z = 0)
    (hn : cs.length = n) (hN : N = Int32.ofNat n) (l0 : 0 < n) (l2 : n ≤ 4000) (hp : ∀ c ∈ cs, ¬ c < 0 ∧ ¬ (255 : Int32) < c) (hb : bs = cs.map (fun c => c.toInt8.toInt32)) (hfr : 4 ≤ R.frames) (hlo : W + 65 ≤ R.locals) :
    Back l R p e below s args (⟨"java/lang/String", "<init>", "([C)V"⟩ : MethodName) len W (fun P a => a = #[.ref x, .ref b] ∧ P.U.heap = h ∧ P.cells + 1 ≤ R.cells ∧ P.slots + n ≤ R.slots)
      (fun P _ v B => ∃ L, QV Z x N bs h n0 v B.U.heap L ∧ B.locs = P.locs ++ L ∧ B.cells = P.cells + 1 ∧ B.slots = P.slots + n) := by
  subst hn hN hb
  refine Back.mono (backArv hZ hw wi E V C K S hz (n32 (by omega)) l0 (by omega) (fun c hc => (hp c hc).2) hfr hlo) (fun P a hp => hp) (fun P a v B hp hq => ?_)
  obtain ⟨L, ⟨q1, q2, q3, q4, q5, q6, q7, ⟨kb, v1, v2⟩, q9⟩, hl, hc, hs⟩ := hq
  exact ⟨L, ⟨q1, fun y hy => by rw [q2 y hy]; exact hx0, q3, q5, q7, h.size, kb, hh0, Nat.le_refl _, Nat.ne_of_gt E.lt, q6, by rw [List.map_map]; exact v2⟩, hl, hc, hs⟩
end StrChars.Road
end Jvm.Pilot.@@N@@

namespace Jvm.Pilot.@@N@@
open Jvm Jvm.ClassFile Sem Op Lib Jvm.Free Jvm.Stand Jvm.LawKit Jvm.RoadKit Bundle Jvm.Pilot.@@N@@.Jvm.D
theorem own_irr (x : Int32) : ¬ x < x := fun h => absurd (Int32.lt_iff_toInt_lt.mp h) (by omega)
theorem own_nn (x : Int32) : ¬ ((x &&& (2147483647 : Int32)) < (0 : Int32)) := fun h => by
  have h1 := Int32.lt_iff_toInt_lt.mp h
  have h2 := (c_and x 2147483647 (by decide)).1
  have h3 : (0 : Int32).toInt = 0 := rfl
  omega
def own_min (a b : Int32) : Int32 := if b < a then b else a
def own_max (a b : Int32) : Int32 := if a < b then b else a
theorem own_mm (a b : Int32) : ¬ (own_max a b < own_min a b) := fun h => by
  have h := Int32.lt_iff_toInt_lt.mp h
  unfold own_max own_min at h
  split at h <;> split at h <;> (simp only [Int32.lt_iff_toInt_lt] at *; omega)
theorem own_min_nn {a b : Int32} (ha : ¬ a < (0 : Int32)) (hb : ¬ b < (0 : Int32)) : ¬ (own_min a b < (0 : Int32)) := by unfold own_min; split <;> assumption
theorem own_max_nn {a b : Int32} (ha : ¬ a < (0 : Int32)) (hb : ¬ b < (0 : Int32)) : ¬ (own_max a b < (0 : Int32)) := by unfold own_max; split <;> assumption
theorem own_mod {x d k : Int32} {D : Int} (hd : d.toInt = D) (hD : 0 < D) (h : (x &&& (2147483647 : Int32)) % d = k) : 0 ≤ k.toInt ∧ k.toInt < D := by
  have h1 := (c_and x 2147483647 (by decide)).1
  have h2 := (c_irem (x &&& 2147483647) d D hd).1 h1
  rw [h] at h2
  rw [h2]
  exact ⟨Int.emod_nonneg _ (by omega), Int.emod_lt_of_pos _ hD⟩
theorem own_ne {k : Int32} (n : Nat) (hc : (Int32.ofNat n).toInt = (n : Int)) (h : ¬ k = Int32.ofNat n) : k.toInt ≠ (n : Int) := fun q => h (Int32.toInt_inj.mp (q.trans hc.symm))
theorem own_r255 {x c : Int32} (h : (x &&& (255 : Int32)) = c) : ¬ (c < (0 : Int32)) ∧ ¬ ((255 : Int32) < c) := by
  have h1 := c_and x 255 (by decide)
  rw [h] at h1
  have e1 : (255 : Int32).toInt = 255 := rfl
  have e0 : (0 : Int32).toInt = 0 := rfl
  simp only [Int32.lt_iff_toInt_lt]
  omega
theorem own_narc {c : Int32} (h : ¬ (c < (0 : Int32)) ∧ ¬ ((255 : Int32) < c)) : nar .char c = c := by
  have e1 : (255 : Int32).toInt = 255 := rfl
  have e0 : (0 : Int32).toInt = 0 := rfl
  have h1 := h.1
  have h2 := h.2
  simp only [Int32.lt_iff_toInt_lt] at h1 h2
  have h3 := c_i2c c
  apply Int32.toInt_inj.mp
  show c.toUInt32.toUInt16.toUInt32.toInt32.toInt = c.toInt
  omega
theorem own_fitc {c : Int32} (h : ¬ (c < (0 : Int32)) ∧ ¬ ((255 : Int32) < c)) : fits .char (.int c) = true := by
  have q := fits_nar_char c
  rw [own_narc h] at q
  exact q
theorem own_b8 (x : Int32) : x.toInt8.toInt32.toInt8.toInt32 = x.toInt8.toInt32 := Int32.toInt_inj.mp (by have a := c_i2b x; have b := c_i2b x.toInt8.toInt32; omega)
theorem own_shr0 (x : Int32) : x >>> ((0 : Int32) &&& 31) = x := Int32.toInt_inj.mp (by rw [c_ishr x 0 0 (by decide)]; simp)
theorem own_nar255 (x : Int32) : nar .char ((x &&& (255 : Int32)).toUInt32.toUInt16.toUInt32.toInt32) = x &&& (255 : Int32) := by rw [i2c_mask]; exact i2c_mask x
/-- from here the run comes to an end at which Q holds, at most so many cells and slots made -/
def own_Go (p : Program) (e : Env) (below : List Frame) (s : State) (Q : Option Value → Heap → List Loc → Prop) (C S : Nat) (A : State) : Prop :=
  ∃ s₂ o, Steps p.tables e below A s₂ ∧ s₂.status = .running ∧ Ended s₂ below o ∧ ∃ v L, o = .returned v ∧ Q v s₂.heap L ∧ FrameEnd s o s₂ L C S
theorem own_go {p : Program} {e : Env} {below : List Frame} {s : State} {Q : Option Value → Heap → List Loc → Prop} {C S : Nat} {A B : State} (k : ∀ t, Steps p.tables e below B t → Steps p.tables e below A t) (h : own_Go p e below s Q C S B) : own_Go p e below s Q C S A := by
  obtain ⟨s₂, o, h1, h2⟩ := h
  exact ⟨s₂, o, k _ h1, h2⟩
theorem own_fin {p : Program} {l : Launch} {e : Env} {R : Room} {s : State} {m : MethodId} {args : Array Value} {below : List Frame} {meth : Method} {c : Code} {T : State} {locs : List Loc} {cells slots : Nat} {Q : Option Value → Heap → List Loc → Prop} {C S : Nat} {A : State} {v : Option Value}
    (X : Stand p l e R s m args below meth c T locs cells slots) (hlocks : meth.locks = false) (hv : meth.sig.returnType = none → v = none)
    (st : ∀ fs, (∀ (f : JFrame) (acts : List Action), f.method = m → f.locked = none → f.entered = [] → (doReturn e (T.setTop f) acts v).1 = T.setFrames fs) → Steps p.tables e below A (T.setFrames fs))
    (hQ : Q v T.heap locs) (hc : cells ≤ C) (hs : slots ≤ S) : own_Go p e below s Q C S A := by
  obtain ⟨fs, hr, hrun, hended, hW, hsame⟩ := X.leave (v := v) hv hlocks
  exact ⟨_, _, st fs hr, hrun, hended, _, _, rfl, hQ, ⟨_, rfl⟩, hW, hsame.mono hc hs⟩
theorem own_eqI {args : Array Value} {first s : State} {o : Option Outcome} {idx : List Nat} {t : Term} {k : Int32} (h : (Jvm.Cond.eq t (.int k)).value args first o s idx = some true) : t.eval args first o idx s = some (.int k) := by
  obtain ⟨x, y, h1, h2, hk, hk'⟩ := cmp_v (Or.inl h)
  have e2 : y = .int k := (Option.some.inj ((Term.int_eval k).symm.trans h2)).symm
  subst e2
  obtain ⟨z, rfl⟩ := hk'
  simp only [Cond.value, h1, h2] at h
  have hz : z = k := by simpa using h
  rw [h1, hz]
theorem own_eqR {args : Array Value} {first s : State} {o : Option Outcome} {idx : List Nat} {t u : Term} {a : Addr} (h : (Jvm.Cond.eq t u).value args first o s idx = some true) (hu : u.eval args first o idx s = some (.ref a)) : t.eval args first o idx s = some (.ref a) := by
  obtain ⟨x, y, h1, h2, hk, hk'⟩ := cmp_v (Or.inl h)
  cases hu.symm.trans h2
  rw [h1, gotT (eq_R h1 hu hk'.2 rfl) h]
theorem own_len {args : Array Value} {s : State} {t : Term} {a : Addr} {cl : Cell} {k : Int32} {ty : FieldType} (h : (Term.length t).eval args s none [] s = some (.int k)) (ht : t.eval args s none [] s = some (.ref a)) (A : Arr s s.heap a cl ty) : cl.slots.size < 2 ^ 31 ∧ cl.slots.size.toInt32 = k := by
  have ha := A.fin (Vm.Alike.refl _)
  simp only [Term.eval, ht, ha, Option.bind_eq_bind, Option.bind_some] at h
  by_cases q : cl.slots.size < 2 ^ 31
  · simp [q] at h; exact ⟨q, h⟩
  · simp [q] at h
theorem own_ofNat {q : Nat} (h : q < 2147483648) : (Int32.ofNat q).toInt = q ∧ (Int32.ofNat q).toNatClampNeg = q := by
  have e : (Int32.ofNat q).toInt = q := Int32.toInt_ofNat_small (by omega)
  exact ⟨e, by show (Int32.ofNat q).toInt.toNat = q; rw [e]; rfl⟩
theorem own_idx {q n : Nat} {N : Int32} (hN : N.toNatClampNeg = n) (hN0 : ¬ N < 0) (hq : q < n) : (¬ (Int32.ofNat q < (0 : Int32)) ∧ Int32.ofNat q < N) ∧ (Int32.ofNat q).toNatClampNeg = q := by
  have h1 := nat_of hN0
  have h2 := (rng32 N).2
  have h3 := own_ofNat (q := q) (by omega)
  refine ⟨⟨fun h => ?_, ?_⟩, h3.2⟩
  · have h4 := Int32.lt_iff_toInt_lt.mp h
    rw [h3.1] at h4
    have e0 : (0 : Int32).toInt = 0 := rfl
    omega
  · rw [Int32.lt_iff_toInt_lt, h3.1, h1, hN]; omega
theorem own_past {n : Nat} {N : Int32} (hN : N.toNatClampNeg = n) (hN0 : ¬ N < 0) : ¬ (Int32.ofNat n < N) := fun h => by
  have h1 := nat_of hN0
  have h2 := (rng32 N).2
  have h3 := own_ofNat (q := n) (by omega)
  have h4 := Int32.lt_iff_toInt_lt.mp h
  rw [h3.1, h1, hN] at h4
  omega
theorem own_incr {q n : Nat} {N : Int32} (hN : N.toNatClampNeg = n) (hN0 : ¬ N < 0) (hq : q < n) : Int32.ofNat q + (1 : Int32) = Int32.ofNat (q + 1) := by
  have h1 := nat_of hN0
  have h2 := (rng32 N).2
  have h3 := own_ofNat (q := q) (by omega)
  apply Int32.toInt_inj.mp
  have a := c_iadd (Int32.ofNat q) 1
  have b := rng32 (Int32.ofNat q + 1)
  have e1 : (1 : Int32).toInt = 1 := rfl
  by_cases hb : q + 1 < 2147483648
  · rw [(own_ofNat hb).1]; rw [h3.1] at a; omega
  · omega
theorem own_mapget (xs : List Int32) (q : Nat) : (xs.map Value.int).getD q (.int (0 : Int32)) = .int (xs.getD q 0) := by
  simp only [List.getD_eq_getElem?_getD, List.getElem?_map]
  cases xs[q]? <;> rfl
theorem own_listeq {xs ys : List Int32} (hl : xs.length = ys.length) (h : ∀ r, r < xs.length → xs.getD r 0 = ys.getD r 0) : xs = ys := by
  apply List.ext_getElem hl
  intro i h1 h2
  have := h i h1
  simpa [List.getD_eq_getElem?_getD, List.getElem?_eq_getElem h1, List.getElem?_eq_getElem h2] using this
def own_eqv (xs ys : List Int32) : Int32 := if xs = ys then 1 else 0
theorem own_fldeq {Z : State} {h : Heap} {a : Addr} {C n d : String} {v w : Value} (F : Fld Z h a C n d v) (G : Fld Z h a C n d w) : v = w := Classical.byContradiction fun q => Fld.ne F G q rfl
theorem own_same {Z : State} {h : Heap} {t : Addr} {k k' : ClassId} {N N' : Int32} {xs ys : List Int32} (F : Arv Z h t k .byte N (xs.map Value.int) (.int (0 : Int32))) (G : Arv Z h t k' .byte N' (ys.map Value.int) (.int (0 : Int32))) (h1 : N.toNatClampNeg = xs.length) (h2 : N'.toNatClampNeg = ys.length) : xs = ys := by
  obtain ⟨c, A, -, S, -, H, -⟩ := F
  obtain ⟨c', A', -, S', -, H', -⟩ := G
  cases A.1.symm.trans A'.1
  refine own_listeq (by omega) fun r hr => ?_
  have e := (H r (by omega)).symm.trans (H' r (by omega))
  rw [own_mapget, own_mapget] at e
  exact Value.int.inj (Option.some.inj e)
theorem own_nat_inj {N N' : Int32} (h : N.toNatClampNeg = N'.toNatClampNeg) (h0 : ¬ N < 0) (h0' : ¬ N' < 0) : N = N' := by
  apply Int32.toInt_inj.mp
  rw [nat_of h0, nat_of h0', h]
theorem own_an {P : Int32 → Prop} : ∀ c ∈ ([] : List Int32), P c := fun _ q => nomatch q
theorem own_ac {P : Int32 → Prop} {x : Int32} {L : List Int32} (h : P x) (r : ∀ c ∈ L, P c) : ∀ c ∈ x :: L, P c := fun c q => (List.mem_cons.mp q).elim (fun u => u ▸ h) (r c)
theorem own_hnew (Z : State) (a0 : Array Value) (hw : ∀ d ∈ tables_1, d.before a0 Z = true) : ∀ d ∈ StrChars.Road.words, d.before a0 Z = true := fun d hd => hw d ((by decide +kernel : ∀ d ∈ StrChars.Road.words, d ∈ tables_1) d hd)
theorem own_d10_0 : decode jdk_43_method_13_code 0 = .ok (.aload_n 0, 1) := by decide +kernel
theorem own_d10_1 : decode jdk_43_method_13_code 1 = .ok (.arraylength, 1) := by decide +kernel
theorem own_d10_2 : decode jdk_43_method_13_code 2 = .ok (.aload_n 1, 1) := by decide +kernel
theorem own_d10_3 : decode jdk_43_method_13_code 3 = .ok (.arraylength, 1) := by decide +kernel
theorem own_d10_4 : decode jdk_43_method_13_code 4 = .ok (.if_icmp .ne 30, 3) := by decide +kernel
theorem own_d10_7 : decode jdk_43_method_13_code 7 = .ok (.iconst 0, 1) := by decide +kernel
theorem own_d10_8 : decode jdk_43_method_13_code 8 = .ok (.istore_n 2, 1) := by decide +kernel
theorem own_d10_9 : decode jdk_43_method_13_code 9 = .ok (.iload_n 2, 1) := by decide +kernel
theorem own_d10_10 : decode jdk_43_method_13_code 10 = .ok (.aload_n 0, 1) := by decide +kernel
theorem own_d10_11 : decode jdk_43_method_13_code 11 = .ok (.arraylength, 1) := by decide +kernel
theorem own_d10_12 : decode jdk_43_method_13_code 12 = .ok (.if_icmp .ge 20, 3) := by decide +kernel
theorem own_d10_32 : decode jdk_43_method_13_code 32 = .ok (.iconst 1, 1) := by decide +kernel
theorem own_d10_33 : decode jdk_43_method_13_code 33 = .ok (.ireturn, 1) := by decide +kernel
theorem own_d10_15 : decode jdk_43_method_13_code 15 = .ok (.aload_n 0, 1) := by decide +kernel
theorem own_d10_16 : decode jdk_43_method_13_code 16 = .ok (.iload_n 2, 1) := by decide +kernel
theorem own_d10_17 : decode jdk_43_method_13_code 17 = .ok (.baload, 1) := by decide +kernel
theorem own_d10_18 : decode jdk_43_method_13_code 18 = .ok (.aload_n 1, 1) := by decide +kernel
theorem own_d10_19 : decode jdk_43_method_13_code 19 = .ok (.iload_n 2, 1) := by decide +kernel
theorem own_d10_20 : decode jdk_43_method_13_code 20 = .ok (.baload, 1) := by decide +kernel
theorem own_d10_21 : decode jdk_43_method_13_code 21 = .ok (.if_icmp .eq 5, 3) := by decide +kernel
theorem own_d10_26 : decode jdk_43_method_13_code 26 = .ok (.iinc 2 1, 3) := by decide +kernel
theorem own_d10_29 : decode jdk_43_method_13_code 29 = .ok (.goto (-20), 3) := by decide +kernel
theorem own_d10_24 : decode jdk_43_method_13_code 24 = .ok (.iconst 0, 1) := by decide +kernel
theorem own_d10_25 : decode jdk_43_method_13_code 25 = .ok (.ireturn, 1) := by decide +kernel
theorem own_d10_34 : decode jdk_43_method_13_code 34 = .ok (.iconst 0, 1) := by decide +kernel
theorem own_d10_35 : decode jdk_43_method_13_code 35 = .ok (.ireturn, 1) := by decide +kernel
theorem own_pn_java_lang_StringLatin1 : plainName "java/lang/StringLatin1" = true := by first | (simp [plainName, overriddenIn]; done) | decide +kernel
theorem own_ef_own_rleq (m : MethodId) (t1 : Addr) (t2 : Addr) : entryFrame m #[(.ref t1), (.ref t2)] 3 = mkF m 0 #[rv t1, rv t2, .unset] [] := by first | (simp [entryFrame, mkF, argsToLocals, Value.category]; done) | rfl
def own_Q_own_rleq (Z : State) (t1 : Addr) (t2 : Addr) (k1 k2 : ClassId) (N1 N2 : Int32) (xs ys : List Int32) (h0 : Heap) (n0 : Nat) (v : Option Value) (h : Heap) (L : List Loc) : Prop := v = some (.int (own_eqv xs ys)) ∧ Fr n0 L ∧ h = h0
set_option maxRecDepth 65536 in
set_option maxHeartbeats 40000000 in
theorem own_rleq (l : Launch) (Z : State) (a0 : Array Value) (hw : ∀ d ∈ tables_1, d.before a0 Z = true) (ws : List Jvm.Cond) (t1 : Addr) (t2 : Addr) (k1 k2 : ClassId) (N1 N2 : Int32) (xs ys : List Int32) (h0 : Heap) (n0 : Nat) (Z0 : n0 ≤ h0.size) (Va1 : Arv Z h0 t1 k1 .byte N1 (xs.map Value.int) (.int (0 : Int32))) (Va2 : Arv Z h0 t2 k2 .byte N2 (ys.map Value.int) (.int (0 : Int32))) (hl1 : N1.toNatClampNeg = xs.length) (hl2 : N2.toNatClampNeg = ys.length) :
    MetFree l (⟨"java/lang/StringLatin1", "equals", "([B[B)Z"⟩ : MethodName) (head1 (Jvm.Cond.code (⟨"java/lang/StringLatin1", "equals", "([B[B)Z"⟩ : MethodName) jdk_43_method_13_code 3 (some .boolean) :: ws) ({ frames := 0, cells := 0, slots := 0, locals := 0 } : Room)) (fun a U => a = #[(.ref t1), (.ref t2)] ∧ Z.Warmed39 U.vm ∧ U.heap = h0) (fun _ _ _ _ _ => True) (fun _ U o U' => ∃ v L, o = .returned v ∧ own_Q_own_rleq Z t1 t2 k1 k2 N1 N2 xs ys h0 n0 v U'.heap L ∧ FrameEnd U o U' L ({ frames := 0, cells := 0, slots := 0, locals := 0 } : Room).cells ({ frames := 0, cells := 0, slots := 0, locals := 0 } : Room).slots) := by
  refine MetFree.of_bodySF (plainFor_of_name own_pn_java_lang_StringLatin1) hisR ?_
  intro p e s m args below meth c s₁ Bd hml0 hP hK
  obtain ⟨rfl, hZ, hh⟩ := hP
  have hx := Bd.exec
  have hby := Bd.bytes
  have hml : c.maxLocals = 3 := hml0
  have hown : s.vm.findClass "java/lang/StringLatin1" = some m.cls := findClass_of_methodNamed Bd.named
  have hnm := (name_of_methodNamed Bd.named Bd.method).1
  have X0 : Stand p l e ({ frames := 0, cells := 0, slots := 0, locals := 0 } : Room) s m #[(.ref t1), (.ref t2)] below meth c s₁ [] 0 0 := Stand.of_body Bd
  have e0 : s₁.heap = h0 := by rw [← hh, Bd.state]; rfl
  have N0 := Fr.nil n0
  show own_Go p e below s (own_Q_own_rleq Z t1 t2 k1 k2 N1 N2 xs ys h0 n0) ({ frames := 0, cells := 0, slots := 0, locals := 0 } : Room).cells ({ frames := 0, cells := 0, slots := 0, locals := 0 } : Room).slots (s₁.setTop (entryFrame m #[(.ref t1), (.ref t2)] 3))
  obtain ⟨-, -, -, -, Nz1, -, -⟩ := id Va1
  obtain ⟨-, -, -, -, Nz2, -, -⟩ := id Va2
  refine own_go (fun zt zk => castTop (own_ef_own_rleq m t1 t2) zk) ?_
  show own_Go p e below s _ _ _ (s₁.setTop (mkF m 0 #[rv t1, rv t2, .unset] []))
  refine own_go (fun zt zk => (XS.aloadN X0.here hx rfl (hb hby own_d10_0) rfl rfl zk)) ?_
  show own_Go p e below s _ _ _ (s₁.setTop (mkF m 1 #[rv t1, rv t2, .unset] [(.ref t1)]))
  obtain ⟨cl1, Ar1, -, Sz1, Nz1, -, -⟩ := id Va1
  refine own_go (X0.arraylength hx (by rw [e0]; exact Ar1.1) (State.isArrayOf_alike hZ.alike Ar1.2.1) (g := (mkF m 1 #[rv t1, rv t2, .unset] [(.ref t1)])) rfl rfl (hb hby own_d10_1)) ?_
  rw [len_of Sz1 Nz1]
  show own_Go p e below s _ _ _ (s₁.setTop (mkF m 2 #[rv t1, rv t2, .unset] [(.int N1)]))
  refine own_go (fun zt zk => (XS.aloadN X0.here hx rfl (hb hby own_d10_2) rfl rfl zk)) ?_
  show own_Go p e below s _ _ _ (s₁.setTop (mkF m 3 #[rv t1, rv t2, .unset] [(.ref t2), (.int N1)]))
  obtain ⟨cl2, Ar2, -, Sz2, Nz2, -, -⟩ := id Va2
  refine own_go (X0.arraylength hx (by rw [e0]; exact Ar2.1) (State.isArrayOf_alike hZ.alike Ar2.2.1) (g := (mkF m 3 #[rv t1, rv t2, .unset] [(.ref t2), (.int N1)])) rfl rfl (hb hby own_d10_3)) ?_
  rw [len_of Sz2 Nz2]
  show own_Go p e below s _ _ _ (s₁.setTop (mkF m 4 #[rv t1, rv t2, .unset] [(.int N2), (.int N1)]))
  by_cases hN : N1 = N2
  · have hll : xs.length = ys.length := by rw [← hl1, ← hl2, hN]
    refine own_go (fun zt zk => (XS.icmpNo X0.here hx rfl (hb hby own_d10_4) rfl (teq (hN : N1 = N2)).2 (XS.iconst X0.here hx rfl (hb hby own_d10_7) (XS.istoreN X0.here hx rfl (hb hby own_d10_8) rfl (l' := #[rv t1, rv t2, iv (0 : Int32)]) rfl zk)))) ?_
    show own_Go p e below s _ _ _ (s₁.setTop (mkF m 9 #[rv t1, rv t2, iv (0 : Int32)] []))
    have loop : ∀ (k q : Nat), q + k = xs.length → (∀ r, r < q → xs.getD r 0 = ys.getD r 0) → own_Go p e below s (own_Q_own_rleq Z t1 t2 k1 k2 N1 N2 xs ys h0 n0) ({ frames := 0, cells := 0, slots := 0, locals := 0 } : Room).cells ({ frames := 0, cells := 0, slots := 0, locals := 0 } : Room).slots (s₁.setTop (mkF m 9 #[.val (.ref t1), .val (.ref t2), .val (.int (Int32.ofNat q))] [])) := by
      intro k
      induction k with
      | zero =>
        intro q hq hr
        have hq' : q = xs.length := by omega
        show own_Go p e below s _ _ _ (s₁.setTop (mkF m 9 #[rv t1, rv t2, iv (Int32.ofNat q)] []))
        refine own_go (fun zt zk => (XS.iloadN X0.here hx rfl (hb hby own_d10_9) rfl (XS.aloadN X0.here hx rfl (hb hby own_d10_10) rfl rfl zk))) ?_
        show own_Go p e below s _ _ _ (s₁.setTop (mkF m 11 #[rv t1, rv t2, iv (Int32.ofNat q)] [(.ref t1), (.int (Int32.ofNat q))]))
        obtain ⟨cl3, Ar3, -, Sz3, Nz3, -, -⟩ := id Va1
        refine own_go (X0.arraylength hx (by rw [e0]; exact Ar3.1) (State.isArrayOf_alike hZ.alike Ar3.2.1) (g := (mkF m 11 #[rv t1, rv t2, iv (Int32.ofNat q)] [(.ref t1), (.int (Int32.ofNat q))])) rfl rfl (hb hby own_d10_11)) ?_
        rw [len_of Sz3 Nz3]
        show own_Go p e below s _ _ _ (s₁.setTop (mkF m 12 #[rv t1, rv t2, iv (Int32.ofNat q)] [(.int N1), (.int (Int32.ofNat q))]))
        refine own_go (fun zt zk => (XS.icmpYes X0.here hx rfl (pc0 := 12) (pc' := 32) rfl (hb hby own_d10_12) rfl (flt ((by rw [hq']; exact own_past hl1 Nz1) : ¬ ((Int32.ofNat q) < N1))).2.1 (by decide) (by decide) (XS.iconst X0.here hx rfl (hb hby own_d10_32) zk))) ?_
        show own_Go p e below s _ _ _ (s₁.setTop (mkF m 33 #[rv t1, rv t2, iv (Int32.ofNat q)] [(.int (1 : Int32))]))
        exact own_fin X0 Bd.notSynchronized (fun h => by rw [Bd.returns] at h; cases h) (fun fs hr => retN X0 hx (t := .boolean) Bd.returns (by simp) (hb hby own_d10_33) hr) (by rw [e0]; exact ⟨congrArg (fun z => some (Value.int z)) (if_pos (own_listeq hll (fun r h => hr r (by omega)))).symm, N0, rfl⟩) (by decide) (by decide)
      | succ k ih =>
        intro q hq hr
        have hq' : q < xs.length := by omega
        obtain ⟨hi1, hi3⟩ := own_idx hl1 Nz1 hq'
        obtain ⟨hi2, -⟩ := own_idx hl2 Nz2 (by omega : q < ys.length)
        show own_Go p e below s _ _ _ (s₁.setTop (mkF m 9 #[rv t1, rv t2, iv (Int32.ofNat q)] []))
        refine own_go (fun zt zk => (XS.iloadN X0.here hx rfl (hb hby own_d10_9) rfl (XS.aloadN X0.here hx rfl (hb hby own_d10_10) rfl rfl zk))) ?_
        show own_Go p e below s _ _ _ (s₁.setTop (mkF m 11 #[rv t1, rv t2, iv (Int32.ofNat q)] [(.ref t1), (.int (Int32.ofNat q))]))
        obtain ⟨cl4, Ar4, -, Sz4, Nz4, -, -⟩ := id Va1
        refine own_go (X0.arraylength hx (by rw [e0]; exact Ar4.1) (State.isArrayOf_alike hZ.alike Ar4.2.1) (g := (mkF m 11 #[rv t1, rv t2, iv (Int32.ofNat q)] [(.ref t1), (.int (Int32.ofNat q))])) rfl rfl (hb hby own_d10_11)) ?_
        rw [len_of Sz4 Nz4]
        show own_Go p e below s _ _ _ (s₁.setTop (mkF m 12 #[rv t1, rv t2, iv (Int32.ofNat q)] [(.int N1), (.int (Int32.ofNat q))]))
        refine own_go (fun zt zk => (XS.icmpNo X0.here hx rfl (hb hby own_d10_12) rfl (tlt (hi1.2 : (Int32.ofNat q) < N1)).2.1 (XS.aloadN X0.here hx rfl (hb hby own_d10_15) rfl rfl (XS.iloadN X0.here hx rfl (hb hby own_d10_16) rfl zk)))) ?_
        show own_Go p e below s _ _ _ (s₁.setTop (mkF m 17 #[rv t1, rv t2, iv (Int32.ofNat q)] [(.int (Int32.ofNat q)), (.ref t1)]))
        obtain ⟨cl5, Ar5, q5, Sz5, Nz5, Ha5, Ga5⟩ := id Va1
        have hin5 : ¬ ((Int32.ofNat q) < 0 ∨ cl5.slots.size ≤ ((Int32.ofNat q)).toNatClampNeg) := inb_of Sz5 hi1
        have hat5 : cl5.slots[((Int32.ofNat q)).toNatClampNeg]? = some (.int (xs.getD q 0)) := Has.at Ha5 hin5 (by rw [hi3]; exact own_mapget xs q)
        refine own_go (X0.baloadBytes hx (j := (Int32.ofNat q)) (v := (.int (xs.getD q 0))) (by rw [e0]; exact Ar5.1) (State.isArrayOf_alike hZ.alike Ar5.2.1) Ar5.2.2 hin5 hat5 (g := (mkF m 17 #[rv t1, rv t2, iv (Int32.ofNat q)] [(.int (Int32.ofNat q)), (.ref t1)])) rfl rfl (hb hby own_d10_17)) ?_
        show own_Go p e below s _ _ _ (s₁.setTop (mkF m 18 #[rv t1, rv t2, iv (Int32.ofNat q)] [(.int (xs.getD q 0))]))
        refine own_go (fun zt zk => (XS.aloadN X0.here hx rfl (hb hby own_d10_18) rfl rfl (XS.iloadN X0.here hx rfl (hb hby own_d10_19) rfl zk))) ?_
        show own_Go p e below s _ _ _ (s₁.setTop (mkF m 20 #[rv t1, rv t2, iv (Int32.ofNat q)] [(.int (Int32.ofNat q)), (.ref t2), (.int (xs.getD q 0))]))
        obtain ⟨cl6, Ar6, q6, Sz6, Nz6, Ha6, Ga6⟩ := id Va2
        have hin6 : ¬ ((Int32.ofNat q) < 0 ∨ cl6.slots.size ≤ ((Int32.ofNat q)).toNatClampNeg) := inb_of Sz6 hi2
        have hat6 : cl6.slots[((Int32.ofNat q)).toNatClampNeg]? = some (.int (ys.getD q 0)) := Has.at Ha6 hin6 (by rw [hi3]; exact own_mapget ys q)
        refine own_go (X0.baloadBytes hx (j := (Int32.ofNat q)) (v := (.int (ys.getD q 0))) (by rw [e0]; exact Ar6.1) (State.isArrayOf_alike hZ.alike Ar6.2.1) Ar6.2.2 hin6 hat6 (g := (mkF m 20 #[rv t1, rv t2, iv (Int32.ofNat q)] [(.int (Int32.ofNat q)), (.ref t2), (.int (xs.getD q 0))])) rfl rfl (hb hby own_d10_20)) ?_
        show own_Go p e below s _ _ _ (s₁.setTop (mkF m 21 #[rv t1, rv t2, iv (Int32.ofNat q)] [(.int (ys.getD q 0)), (.int (xs.getD q 0))]))
        by_cases heq : (xs.getD q 0) = (ys.getD q 0)
        · refine own_go (fun zt zk => (XS.icmpYes X0.here hx rfl (pc0 := 21) (pc' := 26) rfl (hb hby own_d10_21) rfl (teq (heq : (xs.getD q 0) = (ys.getD q 0))).1 (by decide) (by decide) (XS.iinc X0.here hx rfl (hb hby own_d10_26) rfl (l' := #[rv t1, rv t2, iv ((Int32.ofNat q) + (1 : Int32))]) rfl (XS.goto X0.here hx rfl (pc0 := 29) (pc' := 9) rfl (hb hby own_d10_29) (by decide) (by decide) zk)))) ?_
          show own_Go p e below s _ _ _ (s₁.setTop (mkF m 9 #[rv t1, rv t2, iv ((Int32.ofNat q) + (1 : Int32))] []))
          rw [own_incr hl1 Nz1 hq']
          refine ih (q + 1) (by omega) fun r h => ?_
          by_cases h2 : r < q
          · exact hr r h2
          · have h3 : r = q := by omega
            rw [h3]; exact heq
        · refine own_go (fun zt zk => (XS.icmpNo X0.here hx rfl (hb hby own_d10_21) rfl (feq (heq : ¬ ((xs.getD q 0) = (ys.getD q 0)))).1 (XS.iconst X0.here hx rfl (hb hby own_d10_24) zk))) ?_
          show own_Go p e below s _ _ _ (s₁.setTop (mkF m 25 #[rv t1, rv t2, iv (Int32.ofNat q)] [(.int (0 : Int32))]))
          exact own_fin X0 Bd.notSynchronized (fun h => by rw [Bd.returns] at h; cases h) (fun fs hr => retN X0 hx (t := .boolean) Bd.returns (by simp) (hb hby own_d10_25) hr) (by rw [e0]; exact ⟨congrArg (fun z => some (Value.int z)) (if_neg (fun q' => heq (by rw [q']))).symm, N0, rfl⟩) (by decide) (by decide)
    exact loop xs.length 0 (by omega) (fun r h => absurd h (Nat.not_lt_zero r))
  · refine own_go (fun zt zk => (XS.icmpYes X0.here hx rfl (pc0 := 4) (pc' := 34) rfl (hb hby own_d10_4) rfl (feq (hN : ¬ (N1 = N2))).2 (by decide) (by decide) (XS.iconst X0.here hx rfl (hb hby own_d10_34) zk))) ?_
    show own_Go p e below s _ _ _ (s₁.setTop (mkF m 35 #[rv t1, rv t2, .unset] [(.int (0 : Int32))]))
    exact own_fin X0 Bd.notSynchronized (fun h => by rw [Bd.returns] at h; cases h) (fun fs hr => retN X0 hx (t := .boolean) Bd.returns (by simp) (hb hby own_d10_35) hr) (by rw [e0]; exact ⟨congrArg (fun z => some (Value.int z)) (if_neg (fun q => hN ((own_nat_inj (hl1.trans ((congrArg List.length q).trans hl2.symm)) Nz1 Nz2)))).symm, N0, rfl⟩) (by decide) (by decide)
theorem own_d9_0 : decode jdk_42_method_66_code 0 = .ok (.aload_n 0, 1) := by decide +kernel
theorem own_d9_1 : decode jdk_42_method_66_code 1 = .ok (.aload_n 1, 1) := by decide +kernel
theorem own_d9_2 : decode jdk_42_method_66_code 2 = .ok (.if_acmp .ne 5, 3) := by decide +kernel
theorem own_d9_5 : decode jdk_42_method_66_code 5 = .ok (.iconst 1, 1) := by decide +kernel
theorem own_d9_6 : decode jdk_42_method_66_code 6 = .ok (.ireturn, 1) := by decide +kernel
theorem own_d9_7 : decode jdk_42_method_66_code 7 = .ok (.aload_n 1, 1) := by decide +kernel
theorem own_d9_8 : decode jdk_42_method_66_code 8 = .ok (.instanceof 10, 3) := by decide +kernel
theorem own_d9_11 : decode jdk_42_method_66_code 11 = .ok (.ifCond .eq 43, 3) := by decide +kernel
theorem own_d9_14 : decode jdk_42_method_66_code 14 = .ok (.aload_n 1, 1) := by decide +kernel
theorem own_d9_15 : decode jdk_42_method_66_code 15 = .ok (.checkcast 10, 3) := by decide +kernel
theorem own_d9_18 : decode jdk_42_method_66_code 18 = .ok (.astore_n 2, 1) := by decide +kernel
theorem own_d9_19 : decode jdk_42_method_66_code 19 = .ok (.getstatic 38, 3) := by decide +kernel
theorem own_d9_22 : decode jdk_42_method_66_code 22 = .ok (.ifCond .eq 14, 3) := by decide +kernel
theorem own_d9_25 : decode jdk_42_method_66_code 25 = .ok (.aload_n 0, 1) := by decide +kernel
theorem own_d9_26 : decode jdk_42_method_66_code 26 = .ok (.getfield 15, 3) := by decide +kernel
theorem own_d9_29 : decode jdk_42_method_66_code 29 = .ok (.aload_n 2, 1) := by decide +kernel
theorem own_d9_30 : decode jdk_42_method_66_code 30 = .ok (.getfield 15, 3) := by decide +kernel
theorem own_d9_33 : decode jdk_42_method_66_code 33 = .ok (.if_icmp .ne 21, 3) := by decide +kernel
theorem own_d9_36 : decode jdk_42_method_66_code 36 = .ok (.aload_n 0, 1) := by decide +kernel
theorem own_d9_37 : decode jdk_42_method_66_code 37 = .ok (.getfield 9, 3) := by decide +kernel
theorem own_d9_40 : decode jdk_42_method_66_code 40 = .ok (.aload_n 2, 1) := by decide +kernel
theorem own_d9_41 : decode jdk_42_method_66_code 41 = .ok (.getfield 9, 3) := by decide +kernel
theorem own_d9_44 : decode jdk_42_method_66_code 44 = .ok (.invokestatic 541, 3) := by decide +kernel
theorem own_pd___B_B_Z : parseMethodDescriptor "([B[B)Z" = some ⟨[(.array .byte), (.array .byte)], some .boolean⟩ := by decide +kernel
theorem own_d9_47 : decode jdk_42_method_66_code 47 = .ok (.ifCond .eq 7, 3) := by decide +kernel
theorem own_d9_50 : decode jdk_42_method_66_code 50 = .ok (.iconst 1, 1) := by decide +kernel
theorem own_d9_51 : decode jdk_42_method_66_code 51 = .ok (.goto 4, 3) := by decide +kernel
theorem own_d9_55 : decode jdk_42_method_66_code 55 = .ok (.ireturn, 1) := by decide +kernel
theorem own_d9_54 : decode jdk_42_method_66_code 54 = .ok (.iconst 0, 1) := by decide +kernel
theorem own_pn_java_lang_String : plainName "java/lang/String" = true := by first | (simp [plainName, overriddenIn]; done) | decide +kernel
theorem own_ef_own_req (m : MethodId) (a1 : Addr) (a2 : Addr) : entryFrame m #[(.ref a1), (.ref a2)] 3 = mkF m 0 #[rv a1, rv a2, .unset] [] := by first | (simp [entryFrame, mkF, argsToLocals, Value.category]; done) | rfl
def own_Q_own_req (Z : State) (a1 : Addr) (a2 : Addr) (cz : Int32) (t1 t2 : Addr) (k1 k2 : ClassId) (N1 N2 : Int32) (xs ys : List Int32) (h0 : Heap) (n0 : Nat) (v : Option Value) (h : Heap) (L : List Loc) : Prop := v = some (.int (own_eqv xs ys)) ∧ Fr n0 L ∧ h = h0
set_option maxRecDepth 65536 in
set_option maxHeartbeats 40000000 in
theorem own_req (l : Launch) (Z : State) (a0 : Array Value) (hw : ∀ d ∈ tables_1, d.before a0 Z = true) (ws : List Jvm.Cond) (a1 : Addr) (a2 : Addr) (cz : Int32) (t1 t2 : Addr) (k1 k2 : ClassId) (N1 N2 : Int32) (xs ys : List Int32) (h0 : Heap) (n0 : Nat) (Z0 : n0 ≤ h0.size) (O : Old Z n0 h0) (SC : Sta Z Z.heap "java/lang/String" "COMPACT_STRINGS" "Z" (.int cz)) (Ex1 : Exa Z h0 a1 "java/lang/String") (Fv1 : Fld Z h0 a1 "java/lang/String" "value" "[B" (.ref t1)) (Fc1 : Fld Z h0 a1 "java/lang/String" "coder" "B" (.int (0 : Int32))) (Va1 : Arv Z h0 t1 k1 .byte N1 (xs.map Value.int) (.int (0 : Int32))) (Ex2 : Exa Z h0 a2 "java/lang/String") (Fv2 : Fld Z h0 a2 "java/lang/String" "value" "[B" (.ref t2)) (Fc2 : Fld Z h0 a2 "java/lang/String" "coder" "B" (.int (0 : Int32))) (Va2 : Arv Z h0 t2 k2 .byte N2 (ys.map Value.int) (.int (0 : Int32))) (hz : ¬ (cz = (0 : Int32))) (hl1 : N1.toNatClampNeg = xs.length) (hl2 : N2.toNatClampNeg = ys.length) :
    MetFree l (⟨"java/lang/String", "equals", "(Ljava/lang/Object;)Z"⟩ : MethodName) (head1 (Jvm.Cond.code (⟨"java/lang/String", "equals", "(Ljava/lang/Object;)Z"⟩ : MethodName) jdk_42_method_66_code 3 (some .boolean) :: ws) ({ frames := 1, cells := 0, slots := 0, locals := 14 } : Room)) (fun a U => a = #[(.ref a1), (.ref a2)] ∧ Z.Warmed39 U.vm ∧ U.heap = h0) (fun _ _ _ _ _ => True) (fun _ U o U' => ∃ v L, o = .returned v ∧ own_Q_own_req Z a1 a2 cz t1 t2 k1 k2 N1 N2 xs ys h0 n0 v U'.heap L ∧ FrameEnd U o U' L ({ frames := 1, cells := 0, slots := 0, locals := 14 } : Room).cells ({ frames := 1, cells := 0, slots := 0, locals := 14 } : Room).slots) := by
  refine MetFree.of_bodySF (plainFor_of_name own_pn_java_lang_String) hisR ?_
  intro p e s m args below meth c s₁ Bd hml0 hP hK
  obtain ⟨rfl, hZ, hh⟩ := hP
  have hx := Bd.exec
  have hby := Bd.bytes
  have hml : c.maxLocals = 3 := hml0
  have hown : s.vm.findClass "java/lang/String" = some m.cls := findClass_of_methodNamed Bd.named
  have hnm := (name_of_methodNamed Bd.named Bd.method).1
  have X0 : Stand p l e ({ frames := 1, cells := 0, slots := 0, locals := 14 } : Room) s m #[(.ref a1), (.ref a2)] below meth c s₁ [] 0 0 := Stand.of_body Bd
  have e0 : s₁.heap = h0 := by rw [← hh, Bd.state]; rfl
  have N0 := Fr.nil n0
  show own_Go p e below s (own_Q_own_req Z a1 a2 cz t1 t2 k1 k2 N1 N2 xs ys h0 n0) ({ frames := 1, cells := 0, slots := 0, locals := 14 } : Room).cells ({ frames := 1, cells := 0, slots := 0, locals := 14 } : Room).slots (s₁.setTop (entryFrame m #[(.ref a1), (.ref a2)] 3))
  refine own_go (fun zt zk => castTop (own_ef_own_req m a1 a2) zk) ?_
  show own_Go p e below s _ _ _ (s₁.setTop (mkF m 0 #[rv a1, rv a2, .unset] []))
  refine own_go (fun zt zk => (XS.aloadN X0.here hx rfl (hb hby own_d9_0) rfl rfl (XS.aloadN X0.here hx rfl (hb hby own_d9_1) rfl rfl zk))) ?_
  show own_Go p e below s _ _ _ (s₁.setTop (mkF m 2 #[rv a1, rv a2, .unset] [(.ref a2), (.ref a1)]))
  by_cases hsame : a1 = a2
  · subst hsame
    have ht := Value.ref.inj (own_fldeq Fv1 Fv2)
    subst ht
    have hxy := own_same Va1 Va2 hl1 hl2
    show own_Go p e below s _ _ _ (s₁.setTop (mkF m 2 #[rv a1, rv a1, .unset] [(.ref a1), (.ref a1)]))
    refine own_go (fun zt zk => Jvm.RoadKit.acmp (g := (mkF m 2 #[rv a1, rv a1, .unset] [(.ref a1), (.ref a1)])) X0 hx rfl rfl rfl (pc0 := 2) (pc' := 5) (same := true) rfl (hb hby own_d9_2) rfl (decide_eq_true rfl) (by decide) (by decide) zk) ?_
    show own_Go p e below s _ _ _ (s₁.setTop (mkF m 5 #[rv a1, rv a1, .unset] []))
    refine own_go (fun zt zk => (XS.iconst X0.here hx rfl (hb hby own_d9_5) zk)) ?_
    show own_Go p e below s _ _ _ (s₁.setTop (mkF m 6 #[rv a1, rv a1, .unset] [(.int (1 : Int32))]))
    exact own_fin X0 Bd.notSynchronized (fun h => by rw [Bd.returns] at h; cases h) (fun fs hr => retN X0 hx (t := .boolean) Bd.returns (by simp) (hb hby own_d9_6) hr) (by rw [e0]; exact ⟨congrArg (fun z => some (Value.int z)) (if_pos hxy).symm, N0, rfl⟩) (by decide) (by decide)
  · refine own_go (fun zt zk => Jvm.RoadKit.acmp (g := (mkF m 2 #[rv a1, rv a2, .unset] [(.ref a2), (.ref a1)])) X0 hx rfl rfl rfl (pc0 := 2) (pc' := 7) (same := false) rfl (hb hby own_d9_2) rfl (decide_eq_false fun q => hsame (Value.ref.inj q)) (by decide) (by decide) zk) ?_
    show own_Go p e below s _ _ _ (s₁.setTop (mkF m 7 #[rv a1, rv a2, .unset] []))
    refine own_go (fun zt zk => (XS.aloadN X0.here hx rfl (hb hby own_d9_7) rfl rfl zk)) ?_
    show own_Go p e below s _ _ _ (s₁.setTop (mkF m 8 #[rv a1, rv a2, .unset] [(.ref a2)]))
    obtain ⟨T1, X1, e1, st1⟩ := instY X0 hx hZ hown (hw _ (List.mem_of_getElem? (i := 61) rfl)) e0 (Ins.self Ex2) (g := (mkF m 8 #[rv a1, rv a2, .unset] [(.ref a2)])) rfl rfl (hb hby own_d9_8)
    refine own_go st1 ?_
    show own_Go p e below s _ _ _ (T1.setTop (mkF m 11 #[rv a1, rv a2, .unset] [(.int (1 : Int32))]))
    refine own_go (fun zt zk => (XS.ifNo X1.here hx rfl (hb hby own_d9_11) rfl ((if0 _ _).trans (feq ((by decide) : ¬ ((1 : Int32) = (0 : Int32)))).1) (XS.aloadN X1.here hx rfl (hb hby own_d9_14) rfl rfl zk))) ?_
    show own_Go p e below s _ _ _ (T1.setTop (mkF m 15 #[rv a1, rv a2, .unset] [(.ref a2)]))
    obtain ⟨T2, X2, e2, st2⟩ := castY X1 hx hZ hown (hw _ (List.mem_of_getElem? (i := 61) rfl)) e1 (Ins.self Ex2) (g := (mkF m 15 #[rv a1, rv a2, .unset] [(.ref a2)])) rfl rfl (hb hby own_d9_15)
    refine own_go st2 ?_
    show own_Go p e below s _ _ _ (T2.setTop (mkF m 18 #[rv a1, rv a2, .unset] [(.ref a2)]))
    refine own_go (fun zt zk => (XS.astoreN X2.here hx rfl (hb hby own_d9_18) rfl rfl (l' := #[rv a1, rv a2, rv a2]) rfl zk)) ?_
    show own_Go p e below s _ _ _ (T2.setTop (mkF m 19 #[rv a1, rv a2, rv a2] []))
    obtain ⟨T3, X3, e3, st3⟩ := getS2 X2 hx hZ hown (host := "") (Or.inl (hw _ (List.mem_of_getElem? (i := 18) rfl))) Via.refl e2 (SC.ext O.2) (g := (mkF m 19 #[rv a1, rv a2, rv a2] [])) rfl (hb hby own_d9_19)
    refine own_go st3 ?_
    show own_Go p e below s _ _ _ (T3.setTop (mkF m 22 #[rv a1, rv a2, rv a2] [(.int cz)]))
    refine own_go (fun zt zk => (XS.ifNo X3.here hx rfl (hb hby own_d9_22) rfl ((if0 _ _).trans (feq (hz : ¬ (cz = (0 : Int32)))).1) (XS.aloadN X3.here hx rfl (hb hby own_d9_25) rfl rfl zk))) ?_
    show own_Go p e below s _ _ _ (T3.setTop (mkF m 26 #[rv a1, rv a2, rv a2] [(.ref a1)]))
    obtain ⟨T4, X4, e4, st4⟩ := getF X3 hx hZ hown (host := "") (Or.inl (hw _ (List.mem_of_getElem? (i := 30) rfl))) Via.refl e3 Fc1 (g := (mkF m 26 #[rv a1, rv a2, rv a2] [(.ref a1)])) rfl rfl (hb hby own_d9_26)
    refine own_go st4 ?_
    show own_Go p e below s _ _ _ (T4.setTop (mkF m 29 #[rv a1, rv a2, rv a2] [(.int (0 : Int32))]))
    refine own_go (fun zt zk => (XS.aloadN X4.here hx rfl (hb hby own_d9_29) rfl rfl zk)) ?_
    show own_Go p e below s _ _ _ (T4.setTop (mkF m 30 #[rv a1, rv a2, rv a2] [(.ref a2), (.int (0 : Int32))]))
    obtain ⟨T5, X5, e5, st5⟩ := getF X4 hx hZ hown (host := "") (Or.inl (hw _ (List.mem_of_getElem? (i := 30) rfl))) Via.refl e4 Fc2 (g := (mkF m 30 #[rv a1, rv a2, rv a2] [(.ref a2), (.int (0 : Int32))])) rfl rfl (hb hby own_d9_30)
    refine own_go st5 ?_
    show own_Go p e below s _ _ _ (T5.setTop (mkF m 33 #[rv a1, rv a2, rv a2] [(.int (0 : Int32)), (.int (0 : Int32))]))
    refine own_go (fun zt zk => (XS.icmpNo X5.here hx rfl (hb hby own_d9_33) rfl (teq (rfl : (0 : Int32) = (0 : Int32))).2 (XS.aloadN X5.here hx rfl (hb hby own_d9_36) rfl rfl zk))) ?_
    show own_Go p e below s _ _ _ (T5.setTop (mkF m 37 #[rv a1, rv a2, rv a2] [(.ref a1)]))
    obtain ⟨T6, X6, e6, st6⟩ := getF X5 hx hZ hown (host := "") (Or.inl (hw _ (List.mem_of_getElem? (i := 32) rfl))) Via.refl e5 Fv1 (g := (mkF m 37 #[rv a1, rv a2, rv a2] [(.ref a1)])) rfl rfl (hb hby own_d9_37)
    refine own_go st6 ?_
    show own_Go p e below s _ _ _ (T6.setTop (mkF m 40 #[rv a1, rv a2, rv a2] [(.ref t1)]))
    refine own_go (fun zt zk => (XS.aloadN X6.here hx rfl (hb hby own_d9_40) rfl rfl zk)) ?_
    show own_Go p e below s _ _ _ (T6.setTop (mkF m 41 #[rv a1, rv a2, rv a2] [(.ref a2), (.ref t1)]))
    obtain ⟨T7, X7, e7, st7⟩ := getF X6 hx hZ hown (host := "") (Or.inl (hw _ (List.mem_of_getElem? (i := 32) rfl))) Via.refl e6 Fv2 (g := (mkF m 41 #[rv a1, rv a2, rv a2] [(.ref a2), (.ref t1)])) rfl rfl (hb hby own_d9_41)
    refine own_go st7 ?_
    show own_Go p e below s _ _ _ (T7.setTop (mkF m 44 #[rv a1, rv a2, rv a2] [(.ref t2), (.ref t1)]))
    obtain ⟨_, _, ⟨T8, L8, k8, n8⟩, -, X8, ⟨Lc8, hQ8, l8, y8, z8⟩, st8⟩ := Jvm.LawKit.callS X7 hx (y := (⟨"java/lang/StringLatin1", "equals", "([B[B)Z"⟩ : MethodName)) hown (mvT hZ (hw _ (List.mem_of_getElem? (i := 62) rfl))) (mvT hZ (hw _ (List.mem_of_getElem? (i := 63) rfl))) (mvT hZ (hw _ (List.mem_of_getElem? (i := 64) rfl))) (mvT hZ (hw _ (List.mem_of_getElem? (i := 65) rfl))) (by decide) (backOf (W := 0) (own_rleq l Z a0 hw [] t1 t2 k1 k2 N1 N2 xs ys h0 n0 Z0 Va1 Va2 hl1 hl2) hZ (hw _ (List.mem_of_getElem? (i := 65) rfl)) (hw _ (List.mem_of_getElem? (i := 64) rfl)) (by decide) (by decide)) (g := (mkF m 44 #[rv a1, rv a2, rv a2] [(.ref t2), (.ref t1)])) rfl (by rw [hml]; rfl) (argsL := [(.ref t1), (.ref t2)]) (rest := []) (lenOf own_pd___B_B_Z rfl) rfl (by show 2 * 0 + _ ≤ _; exact Nat.le_of_eq rfl) (hb hby own_d9_44) (fun _ _ => ⟨rfl, e7, (by decide : 0 + 0 ≤ _), (by decide : 0 + 0 ≤ _)⟩)
    dsimp only [Pt.U, Pt.locs, Pt.cells, Pt.slots] at X8 l8 y8 z8 st8 hQ8
    subst l8 y8 z8
    obtain ⟨rfl, Nq8, e8⟩ := hQ8
    have N8 := Fr.app N0 Nq8
    refine own_go st8 ?_
    show own_Go p e below s _ _ _ (T8.setTop (mkF m 47 #[rv a1, rv a2, rv a2] [(.int (own_eqv xs ys))]))
    by_cases hxy : xs = ys
    · refine own_go (fun zt zk => (XS.ifNo X8.here hx rfl (hb hby own_d9_47) rfl ((if0 _ _).trans (feq ((by rw [show own_eqv xs ys = (1 : Int32) from if_pos hxy]; decide) : ¬ ((own_eqv xs ys) = (0 : Int32)))).1) (XS.iconst X8.here hx rfl (hb hby own_d9_50) (XS.goto X8.here hx rfl (pc0 := 51) (pc' := 55) rfl (hb hby own_d9_51) (by decide) (by decide) zk)))) ?_
      show own_Go p e below s _ _ _ (T8.setTop (mkF m 55 #[rv a1, rv a2, rv a2] [(.int (1 : Int32))]))
      exact own_fin X8 Bd.notSynchronized (fun h => by rw [Bd.returns] at h; cases h) (fun fs hr => retN X8 hx (t := .boolean) Bd.returns (by simp) (hb hby own_d9_55) hr) (by rw [e8]; exact ⟨congrArg (fun z => some (Value.int z)) (if_pos hxy).symm, N8, rfl⟩) (by decide) (by decide)
    · refine own_go (fun zt zk => (XS.ifYes X8.here hx rfl (pc0 := 47) (pc' := 54) rfl (hb hby own_d9_47) rfl ((if0 _ _).trans (teq ((if_neg hxy) : (own_eqv xs ys) = (0 : Int32))).1) (by decide) (by decide) (XS.iconst X8.here hx rfl (hb hby own_d9_54) zk))) ?_
      show own_Go p e below s _ _ _ (T8.setTop (mkF m 55 #[rv a1, rv a2, rv a2] [(.int (0 : Int32))]))
      exact own_fin X8 Bd.notSynchronized (fun h => by rw [Bd.returns] at h; cases h) (fun fs hr => retN X8 hx (t := .boolean) Bd.returns (by simp) (hb hby own_d9_55) hr) (by rw [e8]; exact ⟨congrArg (fun z => some (Value.int z)) (if_neg hxy).symm, N8, rfl⟩) (by decide) (by decide)
theorem own_d8_0 : decode prog_8_method_1_code 0 = .ok (.getstatic 13, 3) := by decide +kernel
theorem own_d8_3 : decode prog_8_method_1_code 3 = .ok (.invokevirtual 17, 3) := by decide +kernel
theorem own_d8_6 : decode prog_8_method_1_code 6 = .ok (.checkcast 18, 3) := by decide +kernel
theorem own_d8_9 : decode prog_8_method_1_code 9 = .ok (.areturn, 1) := by decide +kernel
theorem own_pn_com_example_boxwright_boxwright_Kind : plainName "com/example/boxwright/boxwright/Kind" = true := by first | (simp [plainName, overriddenIn]; done) | decide +kernel
theorem own_ef_own_rvalues (m : MethodId)  : entryFrame m #[] 0 = mkF m 0 #[] [] := by first | (simp [entryFrame, mkF, argsToLocals, Value.category]; done) | rfl
def own_Q_own_rvalues (Z : State) (o__VALUES : Addr) (k_o__VALUES : ClassId) (o_CLASS : Addr) (o_OBJECT_PROPERTY : Addr) (o_DATA_PROPERTY : Addr) (h0 : Heap) (n0 : Nat) (v : Option Value) (h : Heap) (L : List Loc) : Prop := ∃ b, v = some (.ref b) ∧ Fr n0 L ∧ Keep h0 h [] ∧ h0.size ≤ b ∧ Exa Z h b "[Lcom/example/boxwright/boxwright/Kind;" ∧ Arv Z h b k_o__VALUES (.object "com/example/boxwright/boxwright/Kind") (3 : Int32) [(.ref o_CLASS), (.ref o_OBJECT_PROPERTY), (.ref o_DATA_PROPERTY)] .null
set_option maxRecDepth 65536 in
set_option maxHeartbeats 40000000 in
theorem own_rvalues (l : Launch) (Z : State) (a0 : Array Value) (hw : ∀ d ∈ tables_1, d.before a0 Z = true) (ws : List Jvm.Cond) (o__VALUES : Addr) (k_o__VALUES : ClassId) (o_CLASS : Addr) (o_OBJECT_PROPERTY : Addr) (o_DATA_PROPERTY : Addr) (h0 : Heap) (n0 : Nat) (Z0 : n0 ≤ h0.size) (O : Old Z n0 h0) (S_o__VALUES : Sta Z Z.heap "com/example/boxwright/boxwright/Kind" "$VALUES" "[Lcom/example/boxwright/boxwright/Kind;" (.ref o__VALUES)) (V_o__VALUES : Arv Z Z.heap o__VALUES k_o__VALUES (.object "com/example/boxwright/boxwright/Kind") (3 : Int32) [(.ref o_CLASS), (.ref o_OBJECT_PROPERTY), (.ref o_DATA_PROPERTY)] .null) (Ex_o__VALUES : Exa Z Z.heap o__VALUES "[Lcom/example/boxwright/boxwright/Kind;")  :
    MetFree l (⟨"com/example/boxwright/boxwright/Kind", "values", "()[Lcom/example/boxwright/boxwright/Kind;"⟩ : MethodName) (head1 (Jvm.Cond.code (⟨"com/example/boxwright/boxwright/Kind", "values", "()[Lcom/example/boxwright/boxwright/Kind;"⟩ : MethodName) prog_8_method_1_code 0 (some (.array (.object "com/example/boxwright/boxwright/Kind"))) :: ws) ({ frames := 1, cells := 1, slots := 3, locals := 14 } : Room)) (fun a U => a = #[] ∧ Z.Warmed39 U.vm ∧ U.heap = h0) (fun _ _ _ _ _ => True) (fun _ U o U' => ∃ v L, o = .returned v ∧ own_Q_own_rvalues Z o__VALUES k_o__VALUES o_CLASS o_OBJECT_PROPERTY o_DATA_PROPERTY h0 n0 v U'.heap L ∧ FrameEnd U o U' L ({ frames := 1, cells := 1, slots := 3, locals := 14 } : Room).cells ({ frames := 1, cells := 1, slots := 3, locals := 14 } : Room).slots) := by
  refine MetFree.of_bodySF (plainFor_of_name own_pn_com_example_boxwright_boxwright_Kind) hisR ?_
  intro p e s m args below meth c s₁ Bd hml0 hP hK
  obtain ⟨rfl, hZ, hh⟩ := hP
  have hx := Bd.exec
  have hby := Bd.bytes
  have hml : c.maxLocals = 0 := hml0
  have hown : s.vm.findClass "com/example/boxwright/boxwright/Kind" = some m.cls := findClass_of_methodNamed Bd.named
  have hnm := (name_of_methodNamed Bd.named Bd.method).1
  have X0 : Stand p l e ({ frames := 1, cells := 1, slots := 3, locals := 14 } : Room) s m #[] below meth c s₁ [] 0 0 := Stand.of_body Bd
  have e0 : s₁.heap = h0 := by rw [← hh, Bd.state]; rfl
  have N0 := Fr.nil n0
  have Kp : Keep h0 h0 [] := Keep.refl h0 _
  show own_Go p e below s (own_Q_own_rvalues Z o__VALUES k_o__VALUES o_CLASS o_OBJECT_PROPERTY o_DATA_PROPERTY h0 n0) ({ frames := 1, cells := 1, slots := 3, locals := 14 } : Room).cells ({ frames := 1, cells := 1, slots := 3, locals := 14 } : Room).slots (s₁.setTop (entryFrame m #[] 0))
  refine own_go (fun zt zk => castTop (own_ef_own_rvalues m) zk) ?_
  show own_Go p e below s _ _ _ (s₁.setTop (mkF m 0 #[] []))
  obtain ⟨T1, X1, e1, st1⟩ := getS2 X0 hx hZ hown (host := "") (Or.inl (hw _ (List.mem_of_getElem? (i := 40) rfl))) Via.refl e0 (S_o__VALUES.ext O.2) (g := (mkF m 0 #[] [])) rfl (hb hby own_d8_0)
  refine own_go st1 ?_
  show own_Go p e below s _ _ _ (T1.setTop (mkF m 3 #[] [(.ref o__VALUES)]))
  obtain ⟨T2, h2, X2, e2, E2, A2, Ea2, st2⟩ := cloneH X1 hx hZ hown (hw _ (List.mem_of_getElem? (i := 42) rfl)) (hw _ (List.mem_of_getElem? (i := 43) rfl)) (hw _ (List.mem_of_getElem? (i := 47) rfl)) (hw _ (List.mem_of_getElem? (i := 45) rfl)) (hw _ (List.mem_of_getElem? (i := 46) rfl)) (hw _ (List.mem_of_getElem? (i := 48) rfl)) e1 (Arv.arh (V_o__VALUES.ext O.2)) (Ex_o__VALUES.ext O.2) (g := (mkF m 3 #[] [(.ref o__VALUES)])) rfl (by rw [hml]; rfl) rfl (hb hby own_d8_3) (by decide) (W := 0) (cap := 3) (by show 2 * 0 + _ ≤ _; exact Nat.le_of_eq rfl) (by decide) (by decide) (by decide) (by decide)
  obtain ⟨b2, g2⟩ : ∃ z, z = h0.size := ⟨_, rfl⟩
  rw [← g2] at A2 Ea2 st2
  refine own_go st2 ?_
  have ne_o__VALUES_b2 : o__VALUES ≠ b2 := Nat.ne_of_lt (Nat.lt_of_lt_of_le (V_o__VALUES.ext O.2).lt (Nat.le_of_eq g2.symm))
  have sz_b2 : h0.size ≤ b2 := Nat.le_trans Kp.1 (Nat.le_of_eq g2.symm)
  have g_b2 : n0 ≤ b2 := Nat.le_trans Z0 sz_b2
  replace O := O.ext E2
  replace Kp := Kp.ext E2
  have V_b2 : Arv Z h2 b2 k_o__VALUES (.object "com/example/boxwright/boxwright/Kind") (3 : Int32) [(.ref o_CLASS), (.ref o_OBJECT_PROPERTY), (.ref o_DATA_PROPERTY)] .null := A2
  have Ea_b2 := Ea2
  show own_Go p e below s _ _ _ (T2.setTop (mkF m 6 #[] [(.ref b2)]))
  obtain ⟨T3, X3, e3, st3⟩ := castY X2 hx hZ hown (hw _ (List.mem_of_getElem? (i := 52) rfl)) e2 (Ins.self Ea_b2) (g := (mkF m 6 #[] [(.ref b2)])) rfl rfl (hb hby own_d8_6)
  refine own_go st3 ?_
  show own_Go p e below s _ _ _ (T3.setTop (mkF m 9 #[] [(.ref b2)]))
  exact own_fin X3 Bd.notSynchronized (fun h => by rw [Bd.returns] at h; cases h) (fun fs hr => retOut X3 hx (t := (.array (.object "com/example/boxwright/boxwright/Kind"))) (w := (.ref b2)) Bd.returns rfl (Or.inr (Or.inr (Or.inr (Or.inr ⟨rfl, rfl, rfl⟩)))) (hb hby own_d8_9) hr) (by rw [e3]; exact ⟨_, rfl, N0, Kp, sz_b2, Ea_b2, V_b2⟩) (by decide) (by decide)
theorem own_d7_0 : decode prog_8_method_9_code 0 = .ok (.invokestatic 95, 3) := by decide +kernel
theorem own_pd____Lcom_example_boxwright_boxwright_Kind_ : parseMethodDescriptor "()[Lcom/example/boxwright/boxwright/Kind;" = some ⟨[], some (.array (.object "com/example/boxwright/boxwright/Kind"))⟩ := by decide +kernel
theorem own_d7_3 : decode prog_8_method_9_code 3 = .ok (.astore_n 1, 1) := by decide +kernel
theorem own_d7_4 : decode prog_8_method_9_code 4 = .ok (.aload_n 1, 1) := by decide +kernel
theorem own_d7_5 : decode prog_8_method_9_code 5 = .ok (.arraylength, 1) := by decide +kernel
theorem own_d7_6 : decode prog_8_method_9_code 6 = .ok (.istore_n 2, 1) := by decide +kernel
theorem own_d7_7 : decode prog_8_method_9_code 7 = .ok (.iconst 0, 1) := by decide +kernel
theorem own_d7_8 : decode prog_8_method_9_code 8 = .ok (.istore_n 3, 1) := by decide +kernel
theorem own_d7_9 : decode prog_8_method_9_code 9 = .ok (.iload_n 3, 1) := by decide +kernel
theorem own_d7_10 : decode prog_8_method_9_code 10 = .ok (.iload_n 2, 1) := by decide +kernel
theorem own_d7_11 : decode prog_8_method_9_code 11 = .ok (.if_icmp .ge 29, 3) := by decide +kernel
theorem own_d7_14 : decode prog_8_method_9_code 14 = .ok (.aload_n 1, 1) := by decide +kernel
theorem own_d7_15 : decode prog_8_method_9_code 15 = .ok (.iload_n 3, 1) := by decide +kernel
theorem own_d7_16 : decode prog_8_method_9_code 16 = .ok (.aaload, 1) := by decide +kernel
theorem own_d7_17 : decode prog_8_method_9_code 17 = .ok (.astore 4, 2) := by decide +kernel
theorem own_d7_19 : decode prog_8_method_9_code 19 = .ok (.aload 4, 2) := by decide +kernel
theorem own_d7_21 : decode prog_8_method_9_code 21 = .ok (.getfield 32, 3) := by decide +kernel
theorem own_d7_24 : decode prog_8_method_9_code 24 = .ok (.aload_n 0, 1) := by decide +kernel
theorem own_d7_25 : decode prog_8_method_9_code 25 = .ok (.invokevirtual 99, 3) := by decide +kernel
theorem own_pd__Ljava_lang_Object__Z : parseMethodDescriptor "(Ljava/lang/Object;)Z" = some ⟨[(.object "java/lang/Object")], some .boolean⟩ := by decide +kernel
theorem own_d7_28 : decode prog_8_method_9_code 28 = .ok (.ifCond .eq 6, 3) := by decide +kernel
theorem own_d7_31 : decode prog_8_method_9_code 31 = .ok (.aload 4, 2) := by decide +kernel
theorem own_d7_33 : decode prog_8_method_9_code 33 = .ok (.areturn, 1) := by decide +kernel
theorem own_ef_own_rof0 (m : MethodId) (a1 : Addr) : entryFrame m #[(.ref a1)] 5 = mkF m 0 #[rv a1, .unset, .unset, .unset, .unset] [] := by first | (simp [entryFrame, mkF, argsToLocals, Value.category]; done) | rfl
def own_Q_own_rof0 (Z : State) (a1 : Addr) (t : Addr) (kb : ClassId) (o_COMPACT_STRINGS : Int32) (o__VALUES : Addr) (k_o__VALUES : ClassId) (o_CLASS o_CLASS_label o_CLASS_label_value : Addr) (k_o_CLASS_label_value : ClassId) (o_OBJECT_PROPERTY o_OBJECT_PROPERTY_label o_OBJECT_PROPERTY_label_value : Addr) (k_o_OBJECT_PROPERTY_label_value : ClassId) (o_DATA_PROPERTY o_DATA_PROPERTY_label o_DATA_PROPERTY_label_value : Addr) (k_o_DATA_PROPERTY_label_value : ClassId) (h0 : Heap) (n0 : Nat) (v : Option Value) (h : Heap) (L : List Loc) : Prop := v = some (.ref o_CLASS) ∧ Fr n0 L ∧ Keep h0 h []
set_option maxRecDepth 65536 in
set_option maxHeartbeats 40000000 in
theorem own_rof0 (l : Launch) (Z : State) (a0 : Array Value) (hw : ∀ d ∈ tables_1, d.before a0 Z = true) (ws : List Jvm.Cond) (a1 : Addr) (t : Addr) (kb : ClassId) (o_COMPACT_STRINGS : Int32) (o__VALUES : Addr) (k_o__VALUES : ClassId) (o_CLASS o_CLASS_label o_CLASS_label_value : Addr) (k_o_CLASS_label_value : ClassId) (o_OBJECT_PROPERTY o_OBJECT_PROPERTY_label o_OBJECT_PROPERTY_label_value : Addr) (k_o_OBJECT_PROPERTY_label_value : ClassId) (o_DATA_PROPERTY o_DATA_PROPERTY_label o_DATA_PROPERTY_label_value : Addr) (k_o_DATA_PROPERTY_label_value : ClassId) (h0 : Heap) (n0 : Nat) (Z0 : n0 ≤ h0.size) (O : Old Z n0 h0) (S_o_COMPACT_STRINGS : Sta Z Z.heap "java/lang/String" "COMPACT_STRINGS" "Z" (.int o_COMPACT_STRINGS)) (S_o__VALUES : Sta Z Z.heap "com/example/boxwright/boxwright/Kind" "$VALUES" "[Lcom/example/boxwright/boxwright/Kind;" (.ref o__VALUES)) (V_o__VALUES : Arv Z Z.heap o__VALUES k_o__VALUES (.object "com/example/boxwright/boxwright/Kind") (3 : Int32) [(.ref o_CLASS), (.ref o_OBJECT_PROPERTY), (.ref o_DATA_PROPERTY)] .null) (Ex_o__VALUES : Exa Z Z.heap o__VALUES "[Lcom/example/boxwright/boxwright/Kind;") (Ex_o_CLASS : Exa Z Z.heap o_CLASS "com/example/boxwright/boxwright/Kind") (F_o_CLASS_label : Fld Z Z.heap o_CLASS "com/example/boxwright/boxwright/Kind" "label" "Ljava/lang/String;" (.ref o_CLASS_label)) (Ex_o_CLASS_label : Exa Z Z.heap o_CLASS_label "java/lang/String") (F_o_CLASS_label_coder : Fld Z Z.heap o_CLASS_label "java/lang/String" "coder" "B" (.int (0 : Int32))) (F_o_CLASS_label_value : Fld Z Z.heap o_CLASS_label "java/lang/String" "value" "[B" (.ref o_CLASS_label_value)) (V_o_CLASS_label_value : Arv Z Z.heap o_CLASS_label_value k_o_CLASS_label_value .byte (5 : Int32) [(.int (99 : Int32)), (.int (108 : Int32)), (.int (97 : Int32)), (.int (115 : Int32)), (.int (115 : Int32))] (.int (0 : Int32))) (Ex_o_OBJECT_PROPERTY : Exa Z Z.heap o_OBJECT_PROPERTY "com/example/boxwright/boxwright/Kind") (F_o_OBJECT_PROPERTY_label : Fld Z Z.heap o_OBJECT_PROPERTY "com/example/boxwright/boxwright/Kind" "label" "Ljava/lang/String;" (.ref o_OBJECT_PROPERTY_label)) (Ex_o_OBJECT_PROPERTY_label : Exa Z Z.heap o_OBJECT_PROPERTY_label "java/lang/String") (F_o_OBJECT_PROPERTY_label_coder : Fld Z Z.heap o_OBJECT_PROPERTY_label "java/lang/String" "coder" "B" (.int (0 : Int32))) (F_o_OBJECT_PROPERTY_label_value : Fld Z Z.heap o_OBJECT_PROPERTY_label "java/lang/String" "value" "[B" (.ref o_OBJECT_PROPERTY_label_value)) (V_o_OBJECT_PROPERTY_label_value : Arv Z Z.heap o_OBJECT_PROPERTY_label_value k_o_OBJECT_PROPERTY_label_value .byte (15 : Int32) [(.int (111 : Int32)), (.int (98 : Int32)), (.int (106 : Int32)), (.int (101 : Int32)), (.int (99 : Int32)), (.int (116 : Int32)), (.int (32 : Int32)), (.int (112 : Int32)), (.int (114 : Int32)), (.int (111 : Int32)), (.int (112 : Int32)), (.int (101 : Int32)), (.int (114 : Int32)), (.int (116 : Int32)), (.int (121 : Int32))] (.int (0 : Int32))) (Ex_o_DATA_PROPERTY : Exa Z Z.heap o_DATA_PROPERTY "com/example/boxwright/boxwright/Kind") (F_o_DATA_PROPERTY_label : Fld Z Z.heap o_DATA_PROPERTY "com/example/boxwright/boxwright/Kind" "label" "Ljava/lang/String;" (.ref o_DATA_PROPERTY_label)) (Ex_o_DATA_PROPERTY_label : Exa Z Z.heap o_DATA_PROPERTY_label "java/lang/String") (F_o_DATA_PROPERTY_label_coder : Fld Z Z.heap o_DATA_PROPERTY_label "java/lang/String" "coder" "B" (.int (0 : Int32))) (F_o_DATA_PROPERTY_label_value : Fld Z Z.heap o_DATA_PROPERTY_label "java/lang/String" "value" "[B" (.ref o_DATA_PROPERTY_label_value)) (V_o_DATA_PROPERTY_label_value : Arv Z Z.heap o_DATA_PROPERTY_label_value k_o_DATA_PROPERTY_label_value .byte (17 : Int32) [(.int (100 : Int32)), (.int (97 : Int32)), (.int (116 : Int32)), (.int (97 : Int32)), (.int (116 : Int32)), (.int (121 : Int32)), (.int (112 : Int32)), (.int (101 : Int32)), (.int (32 : Int32)), (.int (112 : Int32)), (.int (114 : Int32)), (.int (111 : Int32)), (.int (112 : Int32)), (.int (101 : Int32)), (.int (114 : Int32)), (.int (116 : Int32)), (.int (121 : Int32))] (.int (0 : Int32))) (Ex : Exa Z h0 a1 "java/lang/String") (Fv : Fld Z h0 a1 "java/lang/String" "value" "[B" (.ref t)) (Fc : Fld Z h0 a1 "java/lang/String" "coder" "B" (.int (0 : Int32))) (Va : Arv Z h0 t kb .byte (5 : Int32) [(.int (99 : Int32)), (.int (108 : Int32)), (.int (97 : Int32)), (.int (115 : Int32)), (.int (115 : Int32))] (.int (0 : Int32))) (nz_o_COMPACT_STRINGS : ¬ (o_COMPACT_STRINGS = (0 : Int32))) :
    MetFree l (⟨"com/example/boxwright/boxwright/Kind", "ofLabel", "(Ljava/lang/String;)Lcom/example/boxwright/boxwright/Kind;"⟩ : MethodName) (head1 (Jvm.Cond.code (⟨"com/example/boxwright/boxwright/Kind", "ofLabel", "(Ljava/lang/String;)Lcom/example/boxwright/boxwright/Kind;"⟩ : MethodName) prog_8_method_9_code 5 (some (.object "com/example/boxwright/boxwright/Kind")) :: ws) ({ frames := 2, cells := 1, slots := 3, locals := 28 } : Room)) (fun a U => a = #[(.ref a1)] ∧ Z.Warmed39 U.vm ∧ U.heap = h0) (fun _ _ _ _ _ => True) (fun _ U o U' => ∃ v L, o = .returned v ∧ own_Q_own_rof0 Z a1 t kb o_COMPACT_STRINGS o__VALUES k_o__VALUES o_CLASS o_CLASS_label o_CLASS_label_value k_o_CLASS_label_value o_OBJECT_PROPERTY o_OBJECT_PROPERTY_label o_OBJECT_PROPERTY_label_value k_o_OBJECT_PROPERTY_label_value o_DATA_PROPERTY o_DATA_PROPERTY_label o_DATA_PROPERTY_label_value k_o_DATA_PROPERTY_label_value h0 n0 v U'.heap L ∧ FrameEnd U o U' L ({ frames := 2, cells := 1, slots := 3, locals := 28 } : Room).cells ({ frames := 2, cells := 1, slots := 3, locals := 28 } : Room).slots) := by
  refine MetFree.of_bodySF (plainFor_of_name own_pn_com_example_boxwright_boxwright_Kind) hisR ?_
  intro p e s m args below meth c s₁ Bd hml0 hP hK
  obtain ⟨rfl, hZ, hh⟩ := hP
  have hx := Bd.exec
  have hby := Bd.bytes
  have hml : c.maxLocals = 5 := hml0
  have hown : s.vm.findClass "com/example/boxwright/boxwright/Kind" = some m.cls := findClass_of_methodNamed Bd.named
  have hnm := (name_of_methodNamed Bd.named Bd.method).1
  have X0 : Stand p l e ({ frames := 2, cells := 1, slots := 3, locals := 28 } : Room) s m #[(.ref a1)] below meth c s₁ [] 0 0 := Stand.of_body Bd
  have e0 : s₁.heap = h0 := by rw [← hh, Bd.state]; rfl
  have N0 := Fr.nil n0
  have Kp : Keep h0 h0 [] := Keep.refl h0 _
  show own_Go p e below s (own_Q_own_rof0 Z a1 t kb o_COMPACT_STRINGS o__VALUES k_o__VALUES o_CLASS o_CLASS_label o_CLASS_label_value k_o_CLASS_label_value o_OBJECT_PROPERTY o_OBJECT_PROPERTY_label o_OBJECT_PROPERTY_label_value k_o_OBJECT_PROPERTY_label_value o_DATA_PROPERTY o_DATA_PROPERTY_label o_DATA_PROPERTY_label_value k_o_DATA_PROPERTY_label_value h0 n0) ({ frames := 2, cells := 1, slots := 3, locals := 28 } : Room).cells ({ frames := 2, cells := 1, slots := 3, locals := 28 } : Room).slots (s₁.setTop (entryFrame m #[(.ref a1)] 5))
  refine own_go (fun zt zk => castTop (own_ef_own_rof0 m a1) zk) ?_
  show own_Go p e below s _ _ _ (s₁.setTop (mkF m 0 #[rv a1, .unset, .unset, .unset, .unset] []))
  obtain ⟨_, _, ⟨T1, L1, k1, n1⟩, -, X1, ⟨Lc1, hQ1, l1, y1, z1⟩, st1⟩ := Jvm.LawKit.callS X0 hx (y := (⟨"com/example/boxwright/boxwright/Kind", "values", "()[Lcom/example/boxwright/boxwright/Kind;"⟩ : MethodName)) hown (mvT hZ (hw _ (List.mem_of_getElem? (i := 37) rfl))) (mvT hZ (hw _ (List.mem_of_getElem? (i := 38) rfl))) (mvT hZ (hw _ (List.mem_of_getElem? (i := 3) rfl))) (mvT hZ (hw _ (List.mem_of_getElem? (i := 39) rfl))) (by decide) (backOf (W := 0) (own_rvalues l Z a0 hw []  o__VALUES k_o__VALUES o_CLASS o_OBJECT_PROPERTY o_DATA_PROPERTY h0 n0 Z0 O S_o__VALUES V_o__VALUES Ex_o__VALUES) hZ (hw _ (List.mem_of_getElem? (i := 39) rfl)) (hw _ (List.mem_of_getElem? (i := 3) rfl)) (by decide) (by decide)) (g := (mkF m 0 #[rv a1, .unset, .unset, .unset, .unset] [])) rfl (by rw [hml]; rfl) (argsL := []) (rest := []) (lenOf own_pd____Lcom_example_boxwright_boxwright_Kind_ rfl) rfl (by show 2 * 0 + _ ≤ _; exact Nat.le_of_eq rfl) (hb hby own_d7_0) (fun _ _ => ⟨rfl, e0, (by decide : 0 + 1 ≤ _), (by decide : 0 + 3 ≤ _)⟩)
  dsimp only [Pt.U, Pt.locs, Pt.cells, Pt.slots] at X1 l1 y1 z1 st1 hQ1
  subst l1 y1 z1
  obtain ⟨b1, rfl, Nq1, K1, sb1, Ea_b1, V_b1⟩ := hQ1
  have N1 := Fr.app N0 Nq1
  refine own_go st1 ?_
  replace O := O.keep K1 all0
  replace Ex := Ex.keep K1
  replace Fv := Fv.keep K1 nin0
  replace Fc := Fc.keep K1 nin0
  replace Va := Va.keep K1 nin0
  replace Kp := Kp.trans K1 all0
  show own_Go p e below s _ _ _ (T1.setTop (mkF m 3 #[rv a1, .unset, .unset, .unset, .unset] [(.ref b1)]))
  refine own_go (fun zt zk => (XS.astoreN X1.here hx rfl (hb hby own_d7_3) rfl rfl (l' := #[rv a1, rv b1, .unset, .unset, .unset]) rfl (XS.aloadN X1.here hx rfl (hb hby own_d7_4) rfl rfl zk))) ?_
  show own_Go p e below s _ _ _ (T1.setTop (mkF m 5 #[rv a1, rv b1, .unset, .unset, .unset] [(.ref b1)]))
  obtain ⟨cl2, Ar2, -, Sz2, Nz2, -, -⟩ := id V_b1
  refine own_go (X1.arraylength hx (by exact Ar2.1) (State.isArrayOf_alike hZ.alike Ar2.2.1) (g := (mkF m 5 #[rv a1, rv b1, .unset, .unset, .unset] [(.ref b1)])) rfl rfl (hb hby own_d7_5)) ?_
  rw [len_of Sz2 Nz2]
  show own_Go p e below s _ _ _ (T1.setTop (mkF m 6 #[rv a1, rv b1, .unset, .unset, .unset] [(.int (3 : Int32))]))
  refine own_go (fun zt zk => (XS.istoreN X1.here hx rfl (hb hby own_d7_6) rfl (l' := #[rv a1, rv b1, iv (3 : Int32), .unset, .unset]) rfl (XS.iconst X1.here hx rfl (hb hby own_d7_7) (XS.istoreN X1.here hx rfl (hb hby own_d7_8) rfl (l' := #[rv a1, rv b1, iv (3 : Int32), iv (0 : Int32), .unset]) rfl (XS.iloadN X1.here hx rfl (hb hby own_d7_9) rfl (XS.iloadN X1.here hx rfl (hb hby own_d7_10) rfl (XS.icmpNo X1.here hx rfl (hb hby own_d7_11) rfl (tlt ((by decide) : (0 : Int32) < (3 : Int32))).2.1 (XS.aloadN X1.here hx rfl (hb hby own_d7_14) rfl rfl (XS.iloadN X1.here hx rfl (hb hby own_d7_15) rfl zk))))))))) ?_
  show own_Go p e below s _ _ _ (T1.setTop (mkF m 16 #[rv a1, rv b1, iv (3 : Int32), iv (0 : Int32), .unset] [(.int (0 : Int32)), (.ref b1)]))
  obtain ⟨cl3, Ar3, q3, Sz3, Nz3, Ha3, Ga3⟩ := id V_b1
  have hin3 : ¬ ((0 : Int32) < 0 ∨ cl3.slots.size ≤ ((0 : Int32)).toNatClampNeg) := inb_of Sz3 ⟨by decide, by decide⟩
  have hat3 : cl3.slots[((0 : Int32)).toNatClampNeg]? = some (.ref o_CLASS) := Has.at Ha3 hin3 rfl
  refine own_go (X1.aaload hx (j := (0 : Int32)) (v := (.ref o_CLASS)) (by exact Ar3.1) (State.isArrayOf_alike hZ.alike Ar3.2.1) rfl Ar3.2.2 hin3 hat3 (g := (mkF m 16 #[rv a1, rv b1, iv (3 : Int32), iv (0 : Int32), .unset] [(.int (0 : Int32)), (.ref b1)])) rfl rfl (hb hby own_d7_16)) ?_
  show own_Go p e below s _ _ _ (T1.setTop (mkF m 17 #[rv a1, rv b1, iv (3 : Int32), iv (0 : Int32), .unset] [(.ref o_CLASS)]))
  refine own_go (fun zt zk => (XS.astore X1.here hx rfl (hb hby own_d7_17) rfl rfl (l' := #[rv a1, rv b1, iv (3 : Int32), iv (0 : Int32), rv o_CLASS]) rfl (XS.aload X1.here hx rfl (hb hby own_d7_19) rfl rfl zk))) ?_
  show own_Go p e below s _ _ _ (T1.setTop (mkF m 21 #[rv a1, rv b1, iv (3 : Int32), iv (0 : Int32), rv o_CLASS] [(.ref o_CLASS)]))
  obtain ⟨T4, X4, e4, st4⟩ := getF X1 hx hZ hown (host := "") (Or.inl (hw _ (List.mem_of_getElem? (i := 54) rfl))) Via.refl rfl (F_o_CLASS_label.ext O.2) (g := (mkF m 21 #[rv a1, rv b1, iv (3 : Int32), iv (0 : Int32), rv o_CLASS] [(.ref o_CLASS)])) rfl rfl (hb hby own_d7_21)
  refine own_go st4 ?_
  show own_Go p e below s _ _ _ (T4.setTop (mkF m 24 #[rv a1, rv b1, iv (3 : Int32), iv (0 : Int32), rv o_CLASS] [(.ref o_CLASS_label)]))
  refine own_go (fun zt zk => (XS.aloadN X4.here hx rfl (hb hby own_d7_24) rfl rfl zk)) ?_
  show own_Go p e below s _ _ _ (T4.setTop (mkF m 25 #[rv a1, rv b1, iv (3 : Int32), iv (0 : Int32), rv o_CLASS] [(.ref a1), (.ref o_CLASS_label)]))
  obtain ⟨cq5, kq5, qa5, qb5, qc5⟩ := isOf hZ e4 (Ex_o_CLASS_label.ext O.2)
  obtain ⟨_, _, ⟨T5, L5, k5, n5⟩, -, X5, ⟨Lc5, hQ5, l5, y5, z5⟩, st5⟩ := X4.virtualBack hx (y := (⟨"java/lang/String", "equals", "(Ljava/lang/Object;)Z"⟩ : MethodName)) (z := (⟨"java/lang/String", "equals", "(Ljava/lang/Object;)Z"⟩ : MethodName)) hown (mvT hZ (hw _ (List.mem_of_getElem? (i := 56) rfl))) (mvT hZ (hw _ (List.mem_of_getElem? (i := 57) rfl))) (notFace_of_selects (args := #[]) (mvT hZ (hw _ (List.mem_of_getElem? (i := 59) rfl)))) (mvT hZ (hw _ (List.mem_of_getElem? (i := 59) rfl))) (mvT hZ (hw _ (List.mem_of_getElem? (i := 58) rfl))) (by decide) (backOf (W := 0) (own_req l Z a0 hw [] o_CLASS_label a1 o_COMPACT_STRINGS o_CLASS_label_value t k_o_CLASS_label_value kb (5 : Int32) (5 : Int32) [(99 : Int32), (108 : Int32), (97 : Int32), (115 : Int32), (115 : Int32)] [(99 : Int32), (108 : Int32), (97 : Int32), (115 : Int32), (115 : Int32)] T1.heap n0 (Nat.le_trans Z0 Kp.1) O S_o_COMPACT_STRINGS (Ex_o_CLASS_label.ext O.2) (F_o_CLASS_label_value.ext O.2) (F_o_CLASS_label_coder.ext O.2) (V_o_CLASS_label_value.ext O.2) Ex Fv Fc Va nz_o_COMPACT_STRINGS rfl rfl) hZ (hw _ (List.mem_of_getElem? (i := 60) rfl)) (hw _ (List.mem_of_getElem? (i := 7) rfl)) (by decide) (by decide)) qa5 qc5 (g := (mkF m 25 #[rv a1, rv b1, iv (3 : Int32), iv (0 : Int32), rv o_CLASS] [(.ref a1), (.ref o_CLASS_label)])) rfl (by rw [hml]; rfl) (Steps.refl _) (argsL := [(.ref a1)]) (rest := []) (lenOf own_pd__Ljava_lang_Object__Z rfl) rfl (by show 2 * 0 + _ ≤ _; exact Nat.le_of_eq rfl) (hb hby own_d7_25) (fun _ _ => ⟨rfl, e4, (by decide : 1 + 0 ≤ _), (by decide : 3 + 0 ≤ _)⟩)
  dsimp only [Pt.U, Pt.locs, Pt.cells, Pt.slots] at X5 l5 y5 z5 st5 hQ5
  subst l5 y5 z5
  obtain ⟨hv5, Nq5, e5⟩ := hQ5
  rw [show own_eqv _ _ = (1 : Int32) by decide] at hv5
  subst hv5
  have N5 := Fr.app N1 Nq5
  refine own_go (fun zt zk => st5.trans zk) ?_
  show own_Go p e below s _ _ _ (T5.setTop (mkF m 28 #[rv a1, rv b1, iv (3 : Int32), iv (0 : Int32), rv o_CLASS] [(.int (1 : Int32))]))
  refine own_go (fun zt zk => (XS.ifNo X5.here hx rfl (hb hby own_d7_28) rfl ((if0 _ _).trans (feq ((by decide) : ¬ ((1 : Int32) = (0 : Int32)))).1) (XS.aload X5.here hx rfl (hb hby own_d7_31) rfl rfl zk))) ?_
  show own_Go p e below s _ _ _ (T5.setTop (mkF m 33 #[rv a1, rv b1, iv (3 : Int32), iv (0 : Int32), rv o_CLASS] [(.ref o_CLASS)]))
  exact own_fin X5 Bd.notSynchronized (fun h => by rw [Bd.returns] at h; cases h) (fun fs hr => retOut X5 hx (t := (.object "com/example/boxwright/boxwright/Kind")) (w := (.ref o_CLASS)) Bd.returns rfl (Or.inr (Or.inr (Or.inr (Or.inr ⟨rfl, rfl, rfl⟩)))) (hb hby own_d7_33) hr) (by rw [e5]; exact ⟨rfl, N5, Kp⟩) (by decide) (by decide)
theorem own_d7_34 : decode prog_8_method_9_code 34 = .ok (.iinc 3 1, 3) := by decide +kernel
theorem own_d7_37 : decode prog_8_method_9_code 37 = .ok (.goto (-28), 3) := by decide +kernel
theorem own_ef_own_rof1 (m : MethodId) (a1 : Addr) : entryFrame m #[(.ref a1)] 5 = mkF m 0 #[rv a1, .unset, .unset, .unset, .unset] [] := by first | (simp [entryFrame, mkF, argsToLocals, Value.category]; done) | rfl
def own_Q_own_rof1 (Z : State) (a1 : Addr) (t : Addr) (kb : ClassId) (o_COMPACT_STRINGS : Int32) (o__VALUES : Addr) (k_o__VALUES : ClassId) (o_CLASS o_CLASS_label o_CLASS_label_value : Addr) (k_o_CLASS_label_value : ClassId) (o_OBJECT_PROPERTY o_OBJECT_PROPERTY_label o_OBJECT_PROPERTY_label_value : Addr) (k_o_OBJECT_PROPERTY_label_value : ClassId) (o_DATA_PROPERTY o_DATA_PROPERTY_label o_DATA_PROPERTY_label_value : Addr) (k_o_DATA_PROPERTY_label_value : ClassId) (h0 : Heap) (n0 : Nat) (v : Option Value) (h : Heap) (L : List Loc) : Prop := v = some (.ref o_OBJECT_PROPERTY) ∧ Fr n0 L ∧ Keep h0 h []
set_option maxRecDepth 65536 in
set_option maxHeartbeats 40000000 in
theorem own_rof1 (l : Launch) (Z : State) (a0 : Array Value) (hw : ∀ d ∈ tables_1, d.before a0 Z = true) (ws : List Jvm.Cond) (a1 : Addr) (t : Addr) (kb : ClassId) (o_COMPACT_STRINGS : Int32) (o__VALUES : Addr) (k_o__VALUES : ClassId) (o_CLASS o_CLASS_label o_CLASS_label_value : Addr) (k_o_CLASS_label_value : ClassId) (o_OBJECT_PROPERTY o_OBJECT_PROPERTY_label o_OBJECT_PROPERTY_label_value : Addr) (k_o_OBJECT_PROPERTY_label_value : ClassId) (o_DATA_PROPERTY o_DATA_PROPERTY_label o_DATA_PROPERTY_label_value : Addr) (k_o_DATA_PROPERTY_label_value : ClassId) (h0 : Heap) (n0 : Nat) (Z0 : n0 ≤ h0.size) (O : Old Z n0 h0) (S_o_COMPACT_STRINGS : Sta Z Z.heap "java/lang/String" "COMPACT_STRINGS" "Z" (.int o_COMPACT_STRINGS)) (S_o__VALUES : Sta Z Z.heap "com/example/boxwright/boxwright/Kind" "$VALUES" "[Lcom/example/boxwright/boxwright/Kind;" (.ref o__VALUES)) (V_o__VALUES : Arv Z Z.heap o__VALUES k_o__VALUES (.object "com/example/boxwright/boxwright/Kind") (3 : Int32) [(.ref o_CLASS), (.ref o_OBJECT_PROPERTY), (.ref o_DATA_PROPERTY)] .null) (Ex_o__VALUES : Exa Z Z.heap o__VALUES "[Lcom/example/boxwright/boxwright/Kind;") (Ex_o_CLASS : Exa Z Z.heap o_CLASS "com/example/boxwright/boxwright/Kind") (F_o_CLASS_label : Fld Z Z.heap o_CLASS "com/example/boxwright/boxwright/Kind" "label" "Ljava/lang/String;" (.ref o_CLASS_label)) (Ex_o_CLASS_label : Exa Z Z.heap o_CLASS_label "java/lang/String") (F_o_CLASS_label_coder : Fld Z Z.heap o_CLASS_label "java/lang/String" "coder" "B" (.int (0 : Int32))) (F_o_CLASS_label_value : Fld Z Z.heap o_CLASS_label "java/lang/String" "value" "[B" (.ref o_CLASS_label_value)) (V_o_CLASS_label_value : Arv Z Z.heap o_CLASS_label_value k_o_CLASS_label_value .byte (5 : Int32) [(.int (99 : Int32)), (.int (108 : Int32)), (.int (97 : Int32)), (.int (115 : Int32)), (.int (115 : Int32))] (.int (0 : Int32))) (Ex_o_OBJECT_PROPERTY : Exa Z Z.heap o_OBJECT_PROPERTY "com/example/boxwright/boxwright/Kind") (F_o_OBJECT_PROPERTY_label : Fld Z Z.heap o_OBJECT_PROPERTY "com/example/boxwright/boxwright/Kind" "label" "Ljava/lang/String;" (.ref o_OBJECT_PROPERTY_label)) (Ex_o_OBJECT_PROPERTY_label : Exa Z Z.heap o_OBJECT_PROPERTY_label "java/lang/String") (F_o_OBJECT_PROPERTY_label_coder : Fld Z Z.heap o_OBJECT_PROPERTY_label "java/lang/String" "coder" "B" (.int (0 : Int32))) (F_o_OBJECT_PROPERTY_label_value : Fld Z Z.heap o_OBJECT_PROPERTY_label "java/lang/String" "value" "[B" (.ref o_OBJECT_PROPERTY_label_value)) (V_o_OBJECT_PROPERTY_label_value : Arv Z Z.heap o_OBJECT_PROPERTY_label_value k_o_OBJECT_PROPERTY_label_value .byte (15 : Int32) [(.int (111 : Int32)), (.int (98 : Int32)), (.int (106 : Int32)), (.int (101 : Int32)), (.int (99 : Int32)), (.int (116 : Int32)), (.int (32 : Int32)), (.int (112 : Int32)), (.int (114 : Int32)), (.int (111 : Int32)), (.int (112 : Int32)), (.int (101 : Int32)), (.int (114 : Int32)), (.int (116 : Int32)), (.int (121 : Int32))] (.int (0 : Int32))) (Ex_o_DATA_PROPERTY : Exa Z Z.heap o_DATA_PROPERTY "com/example/boxwright/boxwright/Kind") (F_o_DATA_PROPERTY_label : Fld Z Z.heap o_DATA_PROPERTY "com/example/boxwright/boxwright/Kind" "label" "Ljava/lang/String;" (.ref o_DATA_PROPERTY_label)) (Ex_o_DATA_PROPERTY_label : Exa Z Z.heap o_DATA_PROPERTY_label "java/lang/String") (F_o_DATA_PROPERTY_label_coder : Fld Z Z.heap o_DATA_PROPERTY_label "java/lang/String" "coder" "B" (.int (0 : Int32))) (F_o_DATA_PROPERTY_label_value : Fld Z Z.heap o_DATA_PROPERTY_label "java/lang/String" "value" "[B" (.ref o_DATA_PROPERTY_label_value)) (V_o_DATA_PROPERTY_label_value : Arv Z Z.heap o_DATA_PROPERTY_label_value k_o_DATA_PROPERTY_label_value .byte (17 : Int32) [(.int (100 : Int32)), (.int (97 : Int32)), (.int (116 : Int32)), (.int (97 : Int32)), (.int (116 : Int32)), (.int (121 : Int32)), (.int (112 : Int32)), (.int (101 : Int32)), (.int (32 : Int32)), (.int (112 : Int32)), (.int (114 : Int32)), (.int (111 : Int32)), (.int (112 : Int32)), (.int (101 : Int32)), (.int (114 : Int32)), (.int (116 : Int32)), (.int (121 : Int32))] (.int (0 : Int32))) (Ex : Exa Z h0 a1 "java/lang/String") (Fv : Fld Z h0 a1 "java/lang/String" "value" "[B" (.ref t)) (Fc : Fld Z h0 a1 "java/lang/String" "coder" "B" (.int (0 : Int32))) (Va : Arv Z h0 t kb .byte (15 : Int32) [(.int (111 : Int32)), (.int (98 : Int32)), (.int (106 : Int32)), (.int (101 : Int32)), (.int (99 : Int32)), (.int (116 : Int32)), (.int (32 : Int32)), (.int (112 : Int32)), (.int (114 : Int32)), (.int (111 : Int32)), (.int (112 : Int32)), (.int (101 : Int32)), (.int (114 : Int32)), (.int (116 : Int32)), (.int (121 : Int32))] (.int (0 : Int32))) (nz_o_COMPACT_STRINGS : ¬ (o_COMPACT_STRINGS = (0 : Int32))) :
    MetFree l (⟨"com/example/boxwright/boxwright/Kind", "ofLabel", "(Ljava/lang/String;)Lcom/example/boxwright/boxwright/Kind;"⟩ : MethodName) (head1 (Jvm.Cond.code (⟨"com/example/boxwright/boxwright/Kind", "ofLabel", "(Ljava/lang/String;)Lcom/example/boxwright/boxwright/Kind;"⟩ : MethodName) prog_8_method_9_code 5 (some (.object "com/example/boxwright/boxwright/Kind")) :: ws) ({ frames := 2, cells := 1, slots := 3, locals := 28 } : Room)) (fun a U => a = #[(.ref a1)] ∧ Z.Warmed39 U.vm ∧ U.heap = h0) (fun _ _ _ _ _ => True) (fun _ U o U' => ∃ v L, o = .returned v ∧ own_Q_own_rof1 Z a1 t kb o_COMPACT_STRINGS o__VALUES k_o__VALUES o_CLASS o_CLASS_label o_CLASS_label_value k_o_CLASS_label_value o_OBJECT_PROPERTY o_OBJECT_PROPERTY_label o_OBJECT_PROPERTY_label_value k_o_OBJECT_PROPERTY_label_value o_DATA_PROPERTY o_DATA_PROPERTY_label o_DATA_PROPERTY_label_value k_o_DATA_PROPERTY_label_value h0 n0 v U'.heap L ∧ FrameEnd U o U' L ({ frames := 2, cells := 1, slots := 3, locals := 28 } : Room).cells ({ frames := 2, cells := 1, slots := 3, locals := 28 } : Room).slots) := by
  refine MetFree.of_bodySF (plainFor_of_name own_pn_com_example_boxwright_boxwright_Kind) hisR ?_
  intro p e s m args below meth c s₁ Bd hml0 hP hK
  obtain ⟨rfl, hZ, hh⟩ := hP
  have hx := Bd.exec
  have hby := Bd.bytes
  have hml : c.maxLocals = 5 := hml0
  have hown : s.vm.findClass "com/example/boxwright/boxwright/Kind" = some m.cls := findClass_of_methodNamed Bd.named
  have hnm := (name_of_methodNamed Bd.named Bd.method).1
  have X0 : Stand p l e ({ frames := 2, cells := 1, slots := 3, locals := 28 } : Room) s m #[(.ref a1)] below meth c s₁ [] 0 0 := Stand.of_body Bd
  have e0 : s₁.heap = h0 := by rw [← hh, Bd.state]; rfl
  have N0 := Fr.nil n0
  have Kp : Keep h0 h0 [] := Keep.refl h0 _
  show own_Go p e below s (own_Q_own_rof1 Z a1 t kb o_COMPACT_STRINGS o__VALUES k_o__VALUES o_CLASS o_CLASS_label o_CLASS_label_value k_o_CLASS_label_value o_OBJECT_PROPERTY o_OBJECT_PROPERTY_label o_OBJECT_PROPERTY_label_value k_o_OBJECT_PROPERTY_label_value o_DATA_PROPERTY o_DATA_PROPERTY_label o_DATA_PROPERTY_label_value k_o_DATA_PROPERTY_label_value h0 n0) ({ frames := 2, cells := 1, slots := 3, locals := 28 } : Room).cells ({ frames := 2, cells := 1, slots := 3, locals := 28 } : Room).slots (s₁.setTop (entryFrame m #[(.ref a1)] 5))
  refine own_go (fun zt zk => castTop (own_ef_own_rof1 m a1) zk) ?_
  show own_Go p e below s _ _ _ (s₁.setTop (mkF m 0 #[rv a1, .unset, .unset, .unset, .unset] []))
  obtain ⟨_, _, ⟨T1, L1, k1, n1⟩, -, X1, ⟨Lc1, hQ1, l1, y1, z1⟩, st1⟩ := Jvm.LawKit.callS X0 hx (y := (⟨"com/example/boxwright/boxwright/Kind", "values", "()[Lcom/example/boxwright/boxwright/Kind;"⟩ : MethodName)) hown (mvT hZ (hw _ (List.mem_of_getElem? (i := 37) rfl))) (mvT hZ (hw _ (List.mem_of_getElem? (i := 38) rfl))) (mvT hZ (hw _ (List.mem_of_getElem? (i := 3) rfl))) (mvT hZ (hw _ (List.mem_of_getElem? (i := 39) rfl))) (by decide) (backOf (W := 0) (own_rvalues l Z a0 hw []  o__VALUES k_o__VALUES o_CLASS o_OBJECT_PROPERTY o_DATA_PROPERTY h0 n0 Z0 O S_o__VALUES V_o__VALUES Ex_o__VALUES) hZ (hw _ (List.mem_of_getElem? (i := 39) rfl)) (hw _ (List.mem_of_getElem? (i := 3) rfl)) (by decide) (by decide)) (g := (mkF m 0 #[rv a1, .unset, .unset, .unset, .unset] [])) rfl (by rw [hml]; rfl) (argsL := []) (rest := []) (lenOf own_pd____Lcom_example_boxwright_boxwright_Kind_ rfl) rfl (by show 2 * 0 + _ ≤ _; exact Nat.le_of_eq rfl) (hb hby own_d7_0) (fun _ _ => ⟨rfl, e0, (by decide : 0 + 1 ≤ _), (by decide : 0 + 3 ≤ _)⟩)
  dsimp only [Pt.U, Pt.locs, Pt.cells, Pt.slots] at X1 l1 y1 z1 st1 hQ1
  subst l1 y1 z1
  obtain ⟨b1, rfl, Nq1, K1, sb1, Ea_b1, V_b1⟩ := hQ1
  have N1 := Fr.app N0 Nq1
  refine own_go st1 ?_
  replace O := O.keep K1 all0
  replace Ex := Ex.keep K1
  replace Fv := Fv.keep K1 nin0
  replace Fc := Fc.keep K1 nin0
  replace Va := Va.keep K1 nin0
  replace Kp := Kp.trans K1 all0
  show own_Go p e below s _ _ _ (T1.setTop (mkF m 3 #[rv a1, .unset, .unset, .unset, .unset] [(.ref b1)]))
  refine own_go (fun zt zk => (XS.astoreN X1.here hx rfl (hb hby own_d7_3) rfl rfl (l' := #[rv a1, rv b1, .unset, .unset, .unset]) rfl (XS.aloadN X1.here hx rfl (hb hby own_d7_4) rfl rfl zk))) ?_
  show own_Go p e below s _ _ _ (T1.setTop (mkF m 5 #[rv a1, rv b1, .unset, .unset, .unset] [(.ref b1)]))
  obtain ⟨cl2, Ar2, -, Sz2, Nz2, -, -⟩ := id V_b1
  refine own_go (X1.arraylength hx (by exact Ar2.1) (State.isArrayOf_alike hZ.alike Ar2.2.1) (g := (mkF m 5 #[rv a1, rv b1, .unset, .unset, .unset] [(.ref b1)])) rfl rfl (hb hby own_d7_5)) ?_
  rw [len_of Sz2 Nz2]
  show own_Go p e below s _ _ _ (T1.setTop (mkF m 6 #[rv a1, rv b1, .unset, .unset, .unset] [(.int (3 : Int32))]))
  refine own_go (fun zt zk => (XS.istoreN X1.here hx rfl (hb hby own_d7_6) rfl (l' := #[rv a1, rv b1, iv (3 : Int32), .unset, .unset]) rfl (XS.iconst X1.here hx rfl (hb hby own_d7_7) (XS.istoreN X1.here hx rfl (hb hby own_d7_8) rfl (l' := #[rv a1, rv b1, iv (3 : Int32), iv (0 : Int32), .unset]) rfl (XS.iloadN X1.here hx rfl (hb hby own_d7_9) rfl (XS.iloadN X1.here hx rfl (hb hby own_d7_10) rfl (XS.icmpNo X1.here hx rfl (hb hby own_d7_11) rfl (tlt ((by decide) : (0 : Int32) < (3 : Int32))).2.1 (XS.aloadN X1.here hx rfl (hb hby own_d7_14) rfl rfl (XS.iloadN X1.here hx rfl (hb hby own_d7_15) rfl zk))))))))) ?_
  show own_Go p e below s _ _ _ (T1.setTop (mkF m 16 #[rv a1, rv b1, iv (3 : Int32), iv (0 : Int32), .unset] [(.int (0 : Int32)), (.ref b1)]))
  obtain ⟨cl3, Ar3, q3, Sz3, Nz3, Ha3, Ga3⟩ := id V_b1
  have hin3 : ¬ ((0 : Int32) < 0 ∨ cl3.slots.size ≤ ((0 : Int32)).toNatClampNeg) := inb_of Sz3 ⟨by decide, by decide⟩
  have hat3 : cl3.slots[((0 : Int32)).toNatClampNeg]? = some (.ref o_CLASS) := Has.at Ha3 hin3 rfl
  refine own_go (X1.aaload hx (j := (0 : Int32)) (v := (.ref o_CLASS)) (by exact Ar3.1) (State.isArrayOf_alike hZ.alike Ar3.2.1) rfl Ar3.2.2 hin3 hat3 (g := (mkF m 16 #[rv a1, rv b1, iv (3 : Int32), iv (0 : Int32), .unset] [(.int (0 : Int32)), (.ref b1)])) rfl rfl (hb hby own_d7_16)) ?_
  show own_Go p e below s _ _ _ (T1.setTop (mkF m 17 #[rv a1, rv b1, iv (3 : Int32), iv (0 : Int32), .unset] [(.ref o_CLASS)]))
  refine own_go (fun zt zk => (XS.astore X1.here hx rfl (hb hby own_d7_17) rfl rfl (l' := #[rv a1, rv b1, iv (3 : Int32), iv (0 : Int32), rv o_CLASS]) rfl (XS.aload X1.here hx rfl (hb hby own_d7_19) rfl rfl zk))) ?_
  show own_Go p e below s _ _ _ (T1.setTop (mkF m 21 #[rv a1, rv b1, iv (3 : Int32), iv (0 : Int32), rv o_CLASS] [(.ref o_CLASS)]))
  obtain ⟨T4, X4, e4, st4⟩ := getF X1 hx hZ hown (host := "") (Or.inl (hw _ (List.mem_of_getElem? (i := 54) rfl))) Via.refl rfl (F_o_CLASS_label.ext O.2) (g := (mkF m 21 #[rv a1, rv b1, iv (3 : Int32), iv (0 : Int32), rv o_CLASS] [(.ref o_CLASS)])) rfl rfl (hb hby own_d7_21)
  refine own_go st4 ?_
  show own_Go p e below s _ _ _ (T4.setTop (mkF m 24 #[rv a1, rv b1, iv (3 : Int32), iv (0 : Int32), rv o_CLASS] [(.ref o_CLASS_label)]))
  refine own_go (fun zt zk => (XS.aloadN X4.here hx rfl (hb hby own_d7_24) rfl rfl zk)) ?_
  show own_Go p e below s _ _ _ (T4.setTop (mkF m 25 #[rv a1, rv b1, iv (3 : Int32), iv (0 : Int32), rv o_CLASS] [(.ref a1), (.ref o_CLASS_label)]))
  obtain ⟨cq5, kq5, qa5, qb5, qc5⟩ := isOf hZ e4 (Ex_o_CLASS_label.ext O.2)
  obtain ⟨_, _, ⟨T5, L5, k5, n5⟩, -, X5, ⟨Lc5, hQ5, l5, y5, z5⟩, st5⟩ := X4.virtualBack hx (y := (⟨"java/lang/String", "equals", "(Ljava/lang/Object;)Z"⟩ : MethodName)) (z := (⟨"java/lang/String", "equals", "(Ljava/lang/Object;)Z"⟩ : MethodName)) hown (mvT hZ (hw _ (List.mem_of_getElem? (i := 56) rfl))) (mvT hZ (hw _ (List.mem_of_getElem? (i := 57) rfl))) (notFace_of_selects (args := #[]) (mvT hZ (hw _ (List.mem_of_getElem? (i := 59) rfl)))) (mvT hZ (hw _ (List.mem_of_getElem? (i := 59) rfl))) (mvT hZ (hw _ (List.mem_of_getElem? (i := 58) rfl))) (by decide) (backOf (W := 0) (own_req l Z a0 hw [] o_CLASS_label a1 o_COMPACT_STRINGS o_CLASS_label_value t k_o_CLASS_label_value kb (5 : Int32) (15 : Int32) [(99 : Int32), (108 : Int32), (97 : Int32), (115 : Int32), (115 : Int32)] [(111 : Int32), (98 : Int32), (106 : Int32), (101 : Int32), (99 : Int32), (116 : Int32), (32 : Int32), (112 : Int32), (114 : Int32), (111 : Int32), (112 : Int32), (101 : Int32), (114 : Int32), (116 : Int32), (121 : Int32)] T1.heap n0 (Nat.le_trans Z0 Kp.1) O S_o_COMPACT_STRINGS (Ex_o_CLASS_label.ext O.2) (F_o_CLASS_label_value.ext O.2) (F_o_CLASS_label_coder.ext O.2) (V_o_CLASS_label_value.ext O.2) Ex Fv Fc Va nz_o_COMPACT_STRINGS rfl rfl) hZ (hw _ (List.mem_of_getElem? (i := 60) rfl)) (hw _ (List.mem_of_getElem? (i := 7) rfl)) (by decide) (by decide)) qa5 qc5 (g := (mkF m 25 #[rv a1, rv b1, iv (3 : Int32), iv (0 : Int32), rv o_CLASS] [(.ref a1), (.ref o_CLASS_label)])) rfl (by rw [hml]; rfl) (Steps.refl _) (argsL := [(.ref a1)]) (rest := []) (lenOf own_pd__Ljava_lang_Object__Z rfl) rfl (by show 2 * 0 + _ ≤ _; exact Nat.le_of_eq rfl) (hb hby own_d7_25) (fun _ _ => ⟨rfl, e4, (by decide : 1 + 0 ≤ _), (by decide : 3 + 0 ≤ _)⟩)
  dsimp only [Pt.U, Pt.locs, Pt.cells, Pt.slots] at X5 l5 y5 z5 st5 hQ5
  subst l5 y5 z5
  obtain ⟨hv5, Nq5, e5⟩ := hQ5
  rw [show own_eqv _ _ = (0 : Int32) by decide] at hv5
  subst hv5
  have N5 := Fr.app N1 Nq5
  refine own_go (fun zt zk => st5.trans zk) ?_
  show own_Go p e below s _ _ _ (T5.setTop (mkF m 28 #[rv a1, rv b1, iv (3 : Int32), iv (0 : Int32), rv o_CLASS] [(.int (0 : Int32))]))
  refine own_go (fun zt zk => (XS.ifYes X5.here hx rfl (pc0 := 28) (pc' := 34) rfl (hb hby own_d7_28) rfl ((if0 _ _).trans (teq (rfl : (0 : Int32) = (0 : Int32))).1) (by decide) (by decide) (XS.iinc X5.here hx rfl (hb hby own_d7_34) rfl (l' := #[rv a1, rv b1, iv (3 : Int32), iv (1 : Int32), rv o_CLASS]) rfl (XS.goto X5.here hx rfl (pc0 := 37) (pc' := 9) rfl (hb hby own_d7_37) (by decide) (by decide) (XS.iloadN X5.here hx rfl (hb hby own_d7_9) rfl (XS.iloadN X5.here hx rfl (hb hby own_d7_10) rfl (XS.icmpNo X5.here hx rfl (hb hby own_d7_11) rfl (tlt ((by decide) : (1 : Int32) < (3 : Int32))).2.1 (XS.aloadN X5.here hx rfl (hb hby own_d7_14) rfl rfl (XS.iloadN X5.here hx rfl (hb hby own_d7_15) rfl zk))))))))) ?_
  show own_Go p e below s _ _ _ (T5.setTop (mkF m 16 #[rv a1, rv b1, iv (3 : Int32), iv (1 : Int32), rv o_CLASS] [(.int (1 : Int32)), (.ref b1)]))
  obtain ⟨cl6, Ar6, q6, Sz6, Nz6, Ha6, Ga6⟩ := id V_b1
  have hin6 : ¬ ((1 : Int32) < 0 ∨ cl6.slots.size ≤ ((1 : Int32)).toNatClampNeg) := inb_of Sz6 ⟨by decide, by decide⟩
  have hat6 : cl6.slots[((1 : Int32)).toNatClampNeg]? = some (.ref o_OBJECT_PROPERTY) := Has.at Ha6 hin6 rfl
  refine own_go (X5.aaload hx (j := (1 : Int32)) (v := (.ref o_OBJECT_PROPERTY)) (by rw [e5]; exact Ar6.1) (State.isArrayOf_alike hZ.alike Ar6.2.1) rfl Ar6.2.2 hin6 hat6 (g := (mkF m 16 #[rv a1, rv b1, iv (3 : Int32), iv (1 : Int32), rv o_CLASS] [(.int (1 : Int32)), (.ref b1)])) rfl rfl (hb hby own_d7_16)) ?_
  show own_Go p e below s _ _ _ (T5.setTop (mkF m 17 #[rv a1, rv b1, iv (3 : Int32), iv (1 : Int32), rv o_CLASS] [(.ref o_OBJECT_PROPERTY)]))
  refine own_go (fun zt zk => (XS.astore X5.here hx rfl (hb hby own_d7_17) rfl rfl (l' := #[rv a1, rv b1, iv (3 : Int32), iv (1 : Int32), rv o_OBJECT_PROPERTY]) rfl (XS.aload X5.here hx rfl (hb hby own_d7_19) rfl rfl zk))) ?_
  show own_Go p e below s _ _ _ (T5.setTop (mkF m 21 #[rv a1, rv b1, iv (3 : Int32), iv (1 : Int32), rv o_OBJECT_PROPERTY] [(.ref o_OBJECT_PROPERTY)]))
  obtain ⟨T7, X7, e7, st7⟩ := getF X5 hx hZ hown (host := "") (Or.inl (hw _ (List.mem_of_getElem? (i := 54) rfl))) Via.refl e5 (F_o_OBJECT_PROPERTY_label.ext O.2) (g := (mkF m 21 #[rv a1, rv b1, iv (3 : Int32), iv (1 : Int32), rv o_OBJECT_PROPERTY] [(.ref o_OBJECT_PROPERTY)])) rfl rfl (hb hby own_d7_21)
  refine own_go st7 ?_
  show own_Go p e below s _ _ _ (T7.setTop (mkF m 24 #[rv a1, rv b1, iv (3 : Int32), iv (1 : Int32), rv o_OBJECT_PROPERTY] [(.ref o_OBJECT_PROPERTY_label)]))
  refine own_go (fun zt zk => (XS.aloadN X7.here hx rfl (hb hby own_d7_24) rfl rfl zk)) ?_
  show own_Go p e below s _ _ _ (T7.setTop (mkF m 25 #[rv a1, rv b1, iv (3 : Int32), iv (1 : Int32), rv o_OBJECT_PROPERTY] [(.ref a1), (.ref o_OBJECT_PROPERTY_label)]))
  obtain ⟨cq8, kq8, qa8, qb8, qc8⟩ := isOf hZ e7 (Ex_o_OBJECT_PROPERTY_label.ext O.2)
  obtain ⟨_, _, ⟨T8, L8, k8, n8⟩, -, X8, ⟨Lc8, hQ8, l8, y8, z8⟩, st8⟩ := X7.virtualBack hx (y := (⟨"java/lang/String", "equals", "(Ljava/lang/Object;)Z"⟩ : MethodName)) (z := (⟨"java/lang/String", "equals", "(Ljava/lang/Object;)Z"⟩ : MethodName)) hown (mvT hZ (hw _ (List.mem_of_getElem? (i := 56) rfl))) (mvT hZ (hw _ (List.mem_of_getElem? (i := 57) rfl))) (notFace_of_selects (args := #[]) (mvT hZ (hw _ (List.mem_of_getElem? (i := 59) rfl)))) (mvT hZ (hw _ (List.mem_of_getElem? (i := 59) rfl))) (mvT hZ (hw _ (List.mem_of_getElem? (i := 58) rfl))) (by decide) (backOf (W := 0) (own_req l Z a0 hw [] o_OBJECT_PROPERTY_label a1 o_COMPACT_STRINGS o_OBJECT_PROPERTY_label_value t k_o_OBJECT_PROPERTY_label_value kb (15 : Int32) (15 : Int32) [(111 : Int32), (98 : Int32), (106 : Int32), (101 : Int32), (99 : Int32), (116 : Int32), (32 : Int32), (112 : Int32), (114 : Int32), (111 : Int32), (112 : Int32), (101 : Int32), (114 : Int32), (116 : Int32), (121 : Int32)] [(111 : Int32), (98 : Int32), (106 : Int32), (101 : Int32), (99 : Int32), (116 : Int32), (32 : Int32), (112 : Int32), (114 : Int32), (111 : Int32), (112 : Int32), (101 : Int32), (114 : Int32), (116 : Int32), (121 : Int32)] T1.heap n0 (Nat.le_trans Z0 Kp.1) O S_o_COMPACT_STRINGS (Ex_o_OBJECT_PROPERTY_label.ext O.2) (F_o_OBJECT_PROPERTY_label_value.ext O.2) (F_o_OBJECT_PROPERTY_label_coder.ext O.2) (V_o_OBJECT_PROPERTY_label_value.ext O.2) Ex Fv Fc Va nz_o_COMPACT_STRINGS rfl rfl) hZ (hw _ (List.mem_of_getElem? (i := 60) rfl)) (hw _ (List.mem_of_getElem? (i := 7) rfl)) (by decide) (by decide)) qa8 qc8 (g := (mkF m 25 #[rv a1, rv b1, iv (3 : Int32), iv (1 : Int32), rv o_OBJECT_PROPERTY] [(.ref a1), (.ref o_OBJECT_PROPERTY_label)])) rfl (by rw [hml]; rfl) (Steps.refl _) (argsL := [(.ref a1)]) (rest := []) (lenOf own_pd__Ljava_lang_Object__Z rfl) rfl (by show 2 * 0 + _ ≤ _; exact Nat.le_of_eq rfl) (hb hby own_d7_25) (fun _ _ => ⟨rfl, e7, (by decide : 1 + 0 ≤ _), (by decide : 3 + 0 ≤ _)⟩)
  dsimp only [Pt.U, Pt.locs, Pt.cells, Pt.slots] at X8 l8 y8 z8 st8 hQ8
  subst l8 y8 z8
  obtain ⟨hv8, Nq8, e8⟩ := hQ8
  rw [show own_eqv _ _ = (1 : Int32) by decide] at hv8
  subst hv8
  have N8 := Fr.app N5 Nq8
  refine own_go (fun zt zk => st8.trans zk) ?_
  show own_Go p e below s _ _ _ (T8.setTop (mkF m 28 #[rv a1, rv b1, iv (3 : Int32), iv (1 : Int32), rv o_OBJECT_PROPERTY] [(.int (1 : Int32))]))
  refine own_go (fun zt zk => (XS.ifNo X8.here hx rfl (hb hby own_d7_28) rfl ((if0 _ _).trans (feq ((by decide) : ¬ ((1 : Int32) = (0 : Int32)))).1) (XS.aload X8.here hx rfl (hb hby own_d7_31) rfl rfl zk))) ?_
  show own_Go p e below s _ _ _ (T8.setTop (mkF m 33 #[rv a1, rv b1, iv (3 : Int32), iv (1 : Int32), rv o_OBJECT_PROPERTY] [(.ref o_OBJECT_PROPERTY)]))
  exact own_fin X8 Bd.notSynchronized (fun h => by rw [Bd.returns] at h; cases h) (fun fs hr => retOut X8 hx (t := (.object "com/example/boxwright/boxwright/Kind")) (w := (.ref o_OBJECT_PROPERTY)) Bd.returns rfl (Or.inr (Or.inr (Or.inr (Or.inr ⟨rfl, rfl, rfl⟩)))) (hb hby own_d7_33) hr) (by rw [e8]; exact ⟨rfl, N8, Kp⟩) (by decide) (by decide)
theorem own_ef_own_rof2 (m : MethodId) (a1 : Addr) : entryFrame m #[(.ref a1)] 5 = mkF m 0 #[rv a1, .unset, .unset, .unset, .unset] [] := by first | (simp [entryFrame, mkF, argsToLocals, Value.category]; done) | rfl
def own_Q_own_rof2 (Z : State) (a1 : Addr) (t : Addr) (kb : ClassId) (o_COMPACT_STRINGS : Int32) (o__VALUES : Addr) (k_o__VALUES : ClassId) (o_CLASS o_CLASS_label o_CLASS_label_value : Addr) (k_o_CLASS_label_value : ClassId) (o_OBJECT_PROPERTY o_OBJECT_PROPERTY_label o_OBJECT_PROPERTY_label_value : Addr) (k_o_OBJECT_PROPERTY_label_value : ClassId) (o_DATA_PROPERTY o_DATA_PROPERTY_label o_DATA_PROPERTY_label_value : Addr) (k_o_DATA_PROPERTY_label_value : ClassId) (h0 : Heap) (n0 : Nat) (v : Option Value) (h : Heap) (L : List Loc) : Prop := v = some (.ref o_DATA_PROPERTY) ∧ Fr n0 L ∧ Keep h0 h []
set_option maxRecDepth 65536 in
set_option maxHeartbeats 40000000 in
theorem own_rof2 (l : Launch) (Z : State) (a0 : Array Value) (hw : ∀ d ∈ tables_1, d.before a0 Z = true) (ws : List Jvm.Cond) (a1 : Addr) (t : Addr) (kb : ClassId) (o_COMPACT_STRINGS : Int32) (o__VALUES : Addr) (k_o__VALUES : ClassId) (o_CLASS o_CLASS_label o_CLASS_label_value : Addr) (k_o_CLASS_label_value : ClassId) (o_OBJECT_PROPERTY o_OBJECT_PROPERTY_label o_OBJECT_PROPERTY_label_value : Addr) (k_o_OBJECT_PROPERTY_label_value : ClassId) (o_DATA_PROPERTY o_DATA_PROPERTY_label o_DATA_PROPERTY_label_value : Addr) (k_o_DATA_PROPERTY_label_value : ClassId) (h0 : Heap) (n0 : Nat) (Z0 : n0 ≤ h0.size) (O : Old Z n0 h0) (S_o_COMPACT_STRINGS : Sta Z Z.heap "java/lang/String" "COMPACT_STRINGS" "Z" (.int o_COMPACT_STRINGS)) (S_o__VALUES : Sta Z Z.heap "com/example/boxwright/boxwright/Kind" "$VALUES" "[Lcom/example/boxwright/boxwright/Kind;" (.ref o__VALUES)) (V_o__VALUES : Arv Z Z.heap o__VALUES k_o__VALUES (.object "com/example/boxwright/boxwright/Kind") (3 : Int32) [(.ref o_CLASS), (.ref o_OBJECT_PROPERTY), (.ref o_DATA_PROPERTY)] .null) (Ex_o__VALUES : Exa Z Z.heap o__VALUES "[Lcom/example/boxwright/boxwright/Kind;") (Ex_o_CLASS : Exa Z Z.heap o_CLASS "com/example/boxwright/boxwright/Kind") (F_o_CLASS_label : Fld Z Z.heap o_CLASS "com/example/boxwright/boxwright/Kind" "label" "Ljava/lang/String;" (.ref o_CLASS_label)) (Ex_o_CLASS_label : Exa Z Z.heap o_CLASS_label "java/lang/String") (F_o_CLASS_label_coder : Fld Z Z.heap o_CLASS_label "java/lang/String" "coder" "B" (.int (0 : Int32))) (F_o_CLASS_label_value : Fld Z Z.heap o_CLASS_label "java/lang/String" "value" "[B" (.ref o_CLASS_label_value)) (V_o_CLASS_label_value : Arv Z Z.heap o_CLASS_label_value k_o_CLASS_label_value .byte (5 : Int32) [(.int (99 : Int32)), (.int (108 : Int32)), (.int (97 : Int32)), (.int (115 : Int32)), (.int (115 : Int32))] (.int (0 : Int32))) (Ex_o_OBJECT_PROPERTY : Exa Z Z.heap o_OBJECT_PROPERTY "com/example/boxwright/boxwright/Kind") (F_o_OBJECT_PROPERTY_label : Fld Z Z.heap o_OBJECT_PROPERTY "com/example/boxwright/boxwright/Kind" "label" "Ljava/lang/String;" (.ref o_OBJECT_PROPERTY_label)) (Ex_o_OBJECT_PROPERTY_label : Exa Z Z.heap o_OBJECT_PROPERTY_label "java/lang/String") (F_o_OBJECT_PROPERTY_label_coder : Fld Z Z.heap o_OBJECT_PROPERTY_label "java/lang/String" "coder" "B" (.int (0 : Int32))) (F_o_OBJECT_PROPERTY_label_value : Fld Z Z.heap o_OBJECT_PROPERTY_label "java/lang/String" "value" "[B" (.ref o_OBJECT_PROPERTY_label_value)) (V_o_OBJECT_PROPERTY_label_value : Arv Z Z.heap o_OBJECT_PROPERTY_label_value k_o_OBJECT_PROPERTY_label_value .byte (15 : Int32) [(.int (111 : Int32)), (.int (98 : Int32)), (.int (106 : Int32)), (.int (101 : Int32)), (.int (99 : Int32)), (.int (116 : Int32)), (.int (32 : Int32)), (.int (112 : Int32)), (.int (114 : Int32)), (.int (111 : Int32)), (.int (112 : Int32)), (.int (101 : Int32)), (.int (114 : Int32)), (.int (116 : Int32)), (.int (121 : Int32))] (.int (0 : Int32))) (Ex_o_DATA_PROPERTY : Exa Z Z.heap o_DATA_PROPERTY "com/example/boxwright/boxwright/Kind") (F_o_DATA_PROPERTY_label : Fld Z Z.heap o_DATA_PROPERTY "com/example/boxwright/boxwright/Kind" "label" "Ljava/lang/String;" (.ref o_DATA_PROPERTY_label)) (Ex_o_DATA_PROPERTY_label : Exa Z Z.heap o_DATA_PROPERTY_label "java/lang/String") (F_o_DATA_PROPERTY_label_coder : Fld Z Z.heap o_DATA_PROPERTY_label "java/lang/String" "coder" "B" (.int (0 : Int32))) (F_o_DATA_PROPERTY_label_value : Fld Z Z.heap o_DATA_PROPERTY_label "java/lang/String" "value" "[B" (.ref o_DATA_PROPERTY_label_value)) (V_o_DATA_PROPERTY_label_value : Arv Z Z.heap o_DATA_PROPERTY_label_value k_o_DATA_PROPERTY_label_value .byte (17 : Int32) [(.int (100 : Int32)), (.int (97 : Int32)), (.int (116 : Int32)), (.int (97 : Int32)), (.int (116 : Int32)), (.int (121 : Int32)), (.int (112 : Int32)), (.int (101 : Int32)), (.int (32 : Int32)), (.int (112 : Int32)), (.int (114 : Int32)), (.int (111 : Int32)), (.int (112 : Int32)), (.int (101 : Int32)), (.int (114 : Int32)), (.int (116 : Int32)), (.int (121 : Int32))] (.int (0 : Int32))) (Ex : Exa Z h0 a1 "java/lang/String") (Fv : Fld Z h0 a1 "java/lang/String" "value" "[B" (.ref t)) (Fc : Fld Z h0 a1 "java/lang/String" "coder" "B" (.int (0 : Int32))) (Va : Arv Z h0 t kb .byte (17 : Int32) [(.int (100 : Int32)), (.int (97 : Int32)), (.int (116 : Int32)), (.int (97 : Int32)), (.int (116 : Int32)), (.int (121 : Int32)), (.int (112 : Int32)), (.int (101 : Int32)), (.int (32 : Int32)), (.int (112 : Int32)), (.int (114 : Int32)), (.int (111 : Int32)), (.int (112 : Int32)), (.int (101 : Int32)), (.int (114 : Int32)), (.int (116 : Int32)), (.int (121 : Int32))] (.int (0 : Int32))) (nz_o_COMPACT_STRINGS : ¬ (o_COMPACT_STRINGS = (0 : Int32))) :
    MetFree l (⟨"com/example/boxwright/boxwright/Kind", "ofLabel", "(Ljava/lang/String;)Lcom/example/boxwright/boxwright/Kind;"⟩ : MethodName) (head1 (Jvm.Cond.code (⟨"com/example/boxwright/boxwright/Kind", "ofLabel", "(Ljava/lang/String;)Lcom/example/boxwright/boxwright/Kind;"⟩ : MethodName) prog_8_method_9_code 5 (some (.object "com/example/boxwright/boxwright/Kind")) :: ws) ({ frames := 2, cells := 1, slots := 3, locals := 28 } : Room)) (fun a U => a = #[(.ref a1)] ∧ Z.Warmed39 U.vm ∧ U.heap = h0) (fun _ _ _ _ _ => True) (fun _ U o U' => ∃ v L, o = .returned v ∧ own_Q_own_rof2 Z a1 t kb o_COMPACT_STRINGS o__VALUES k_o__VALUES o_CLASS o_CLASS_label o_CLASS_label_value k_o_CLASS_label_value o_OBJECT_PROPERTY o_OBJECT_PROPERTY_label o_OBJECT_PROPERTY_label_value k_o_OBJECT_PROPERTY_label_value o_DATA_PROPERTY o_DATA_PROPERTY_label o_DATA_PROPERTY_label_value k_o_DATA_PROPERTY_label_value h0 n0 v U'.heap L ∧ FrameEnd U o U' L ({ frames := 2, cells := 1, slots := 3, locals := 28 } : Room).cells ({ frames := 2, cells := 1, slots := 3, locals := 28 } : Room).slots) := by
  refine MetFree.of_bodySF (plainFor_of_name own_pn_com_example_boxwright_boxwright_Kind) hisR ?_
  intro p e s m args below meth c s₁ Bd hml0 hP hK
  obtain ⟨rfl, hZ, hh⟩ := hP
  have hx := Bd.exec
  have hby := Bd.bytes
  have hml : c.maxLocals = 5 := hml0
  have hown : s.vm.findClass "com/example/boxwright/boxwright/Kind" = some m.cls := findClass_of_methodNamed Bd.named
  have hnm := (name_of_methodNamed Bd.named Bd.method).1
  have X0 : Stand p l e ({ frames := 2, cells := 1, slots := 3, locals := 28 } : Room) s m #[(.ref a1)] below meth c s₁ [] 0 0 := Stand.of_body Bd
  have e0 : s₁.heap = h0 := by rw [← hh, Bd.state]; rfl
  have N0 := Fr.nil n0
  have Kp : Keep h0 h0 [] := Keep.refl h0 _
  show own_Go p e below s (own_Q_own_rof2 Z a1 t kb o_COMPACT_STRINGS o__VALUES k_o__VALUES o_CLASS o_CLASS_label o_CLASS_label_value k_o_CLASS_label_value o_OBJECT_PROPERTY o_OBJECT_PROPERTY_label o_OBJECT_PROPERTY_label_value k_o_OBJECT_PROPERTY_label_value o_DATA_PROPERTY o_DATA_PROPERTY_label o_DATA_PROPERTY_label_value k_o_DATA_PROPERTY_label_value h0 n0) ({ frames := 2, cells := 1, slots := 3, locals := 28 } : Room).cells ({ frames := 2, cells := 1, slots := 3, locals := 28 } : Room).slots (s₁.setTop (entryFrame m #[(.ref a1)] 5))
  refine own_go (fun zt zk => castTop (own_ef_own_rof2 m a1) zk) ?_
  show own_Go p e below s _ _ _ (s₁.setTop (mkF m 0 #[rv a1, .unset, .unset, .unset, .unset] []))
  obtain ⟨_, _, ⟨T1, L1, k1, n1⟩, -, X1, ⟨Lc1, hQ1, l1, y1, z1⟩, st1⟩ := Jvm.LawKit.callS X0 hx (y := (⟨"com/example/boxwright/boxwright/Kind", "values", "()[Lcom/example/boxwright/boxwright/Kind;"⟩ : MethodName)) hown (mvT hZ (hw _ (List.mem_of_getElem? (i := 37) rfl))) (mvT hZ (hw _ (List.mem_of_getElem? (i := 38) rfl))) (mvT hZ (hw _ (List.mem_of_getElem? (i := 3) rfl))) (mvT hZ (hw _ (List.mem_of_getElem? (i := 39) rfl))) (by decide) (backOf (W := 0) (own_rvalues l Z a0 hw []  o__VALUES k_o__VALUES o_CLASS o_OBJECT_PROPERTY o_DATA_PROPERTY h0 n0 Z0 O S_o__VALUES V_o__VALUES Ex_o__VALUES) hZ (hw _ (List.mem_of_getElem? (i := 39) rfl)) (hw _ (List.mem_of_getElem? (i := 3) rfl)) (by decide) (by decide)) (g := (mkF m 0 #[rv a1, .unset, .unset, .unset, .unset] [])) rfl (by rw [hml]; rfl) (argsL := []) (rest := []) (lenOf own_pd____Lcom_example_boxwright_boxwright_Kind_ rfl) rfl (by show 2 * 0 + _ ≤ _; exact Nat.le_of_eq rfl) (hb hby own_d7_0) (fun _ _ => ⟨rfl, e0, (by decide : 0 + 1 ≤ _), (by decide : 0 + 3 ≤ _)⟩)
  dsimp only [Pt.U, Pt.locs, Pt.cells, Pt.slots] at X1 l1 y1 z1 st1 hQ1
  subst l1 y1 z1
  obtain ⟨b1, rfl, Nq1, K1, sb1, Ea_b1, V_b1⟩ := hQ1
  have N1 := Fr.app N0 Nq1
  refine own_go st1 ?_
  replace O := O.keep K1 all0
  replace Ex := Ex.keep K1
  replace Fv := Fv.keep K1 nin0
  replace Fc := Fc.keep K1 nin0
  replace Va := Va.keep K1 nin0
  replace Kp := Kp.trans K1 all0
  show own_Go p e below s _ _ _ (T1.setTop (mkF m 3 #[rv a1, .unset, .unset, .unset, .unset] [(.ref b1)]))
  refine own_go (fun zt zk => (XS.astoreN X1.here hx rfl (hb hby own_d7_3) rfl rfl (l' := #[rv a1, rv b1, .unset, .unset, .unset]) rfl (XS.aloadN X1.here hx rfl (hb hby own_d7_4) rfl rfl zk))) ?_
  show own_Go p e below s _ _ _ (T1.setTop (mkF m 5 #[rv a1, rv b1, .unset, .unset, .unset] [(.ref b1)]))
  obtain ⟨cl2, Ar2, -, Sz2, Nz2, -, -⟩ := id V_b1
  refine own_go (X1.arraylength hx (by exact Ar2.1) (State.isArrayOf_alike hZ.alike Ar2.2.1) (g := (mkF m 5 #[rv a1, rv b1, .unset, .unset, .unset] [(.ref b1)])) rfl rfl (hb hby own_d7_5)) ?_
  rw [len_of Sz2 Nz2]
  show own_Go p e below s _ _ _ (T1.setTop (mkF m 6 #[rv a1, rv b1, .unset, .unset, .unset] [(.int (3 : Int32))]))
  refine own_go (fun zt zk => (XS.istoreN X1.here hx rfl (hb hby own_d7_6) rfl (l' := #[rv a1, rv b1, iv (3 : Int32), .unset, .unset]) rfl (XS.iconst X1.here hx rfl (hb hby own_d7_7) (XS.istoreN X1.here hx rfl (hb hby own_d7_8) rfl (l' := #[rv a1, rv b1, iv (3 : Int32), iv (0 : Int32), .unset]) rfl (XS.iloadN X1.here hx rfl (hb hby own_d7_9) rfl (XS.iloadN X1.here hx rfl (hb hby own_d7_10) rfl (XS.icmpNo X1.here hx rfl (hb hby own_d7_11) rfl (tlt ((by decide) : (0 : Int32) < (3 : Int32))).2.1 (XS.aloadN X1.here hx rfl (hb hby own_d7_14) rfl rfl (XS.iloadN X1.here hx rfl (hb hby own_d7_15) rfl zk))))))))) ?_
  show own_Go p e below s _ _ _ (T1.setTop (mkF m 16 #[rv a1, rv b1, iv (3 : Int32), iv (0 : Int32), .unset] [(.int (0 : Int32)), (.ref b1)]))
  obtain ⟨cl3, Ar3, q3, Sz3, Nz3, Ha3, Ga3⟩ := id V_b1
  have hin3 : ¬ ((0 : Int32) < 0 ∨ cl3.slots.size ≤ ((0 : Int32)).toNatClampNeg) := inb_of Sz3 ⟨by decide, by decide⟩
  have hat3 : cl3.slots[((0 : Int32)).toNatClampNeg]? = some (.ref o_CLASS) := Has.at Ha3 hin3 rfl
  refine own_go (X1.aaload hx (j := (0 : Int32)) (v := (.ref o_CLASS)) (by exact Ar3.1) (State.isArrayOf_alike hZ.alike Ar3.2.1) rfl Ar3.2.2 hin3 hat3 (g := (mkF m 16 #[rv a1, rv b1, iv (3 : Int32), iv (0 : Int32), .unset] [(.int (0 : Int32)), (.ref b1)])) rfl rfl (hb hby own_d7_16)) ?_
  show own_Go p e below s _ _ _ (T1.setTop (mkF m 17 #[rv a1, rv b1, iv (3 : Int32), iv (0 : Int32), .unset] [(.ref o_CLASS)]))
  refine own_go (fun zt zk => (XS.astore X1.here hx rfl (hb hby own_d7_17) rfl rfl (l' := #[rv a1, rv b1, iv (3 : Int32), iv (0 : Int32), rv o_CLASS]) rfl (XS.aload X1.here hx rfl (hb hby own_d7_19) rfl rfl zk))) ?_
  show own_Go p e below s _ _ _ (T1.setTop (mkF m 21 #[rv a1, rv b1, iv (3 : Int32), iv (0 : Int32), rv o_CLASS] [(.ref o_CLASS)]))
  obtain ⟨T4, X4, e4, st4⟩ := getF X1 hx hZ hown (host := "") (Or.inl (hw _ (List.mem_of_getElem? (i := 54) rfl))) Via.refl rfl (F_o_CLASS_label.ext O.2) (g := (mkF m 21 #[rv a1, rv b1, iv (3 : Int32), iv (0 : Int32), rv o_CLASS] [(.ref o_CLASS)])) rfl rfl (hb hby own_d7_21)
  refine own_go st4 ?_
  show own_Go p e below s _ _ _ (T4.setTop (mkF m 24 #[rv a1, rv b1, iv (3 : Int32), iv (0 : Int32), rv o_CLASS] [(.ref o_CLASS_label)]))
  refine own_go (fun zt zk => (XS.aloadN X4.here hx rfl (hb hby own_d7_24) rfl rfl zk)) ?_
  show own_Go p e below s _ _ _ (T4.setTop (mkF m 25 #[rv a1, rv b1, iv (3 : Int32), iv (0 : Int32), rv o_CLASS] [(.ref a1), (.ref o_CLASS_label)]))
  obtain ⟨cq5, kq5, qa5, qb5, qc5⟩ := isOf hZ e4 (Ex_o_CLASS_label.ext O.2)
  obtain ⟨_, _, ⟨T5, L5, k5, n5⟩, -, X5, ⟨Lc5, hQ5, l5, y5, z5⟩, st5⟩ := X4.virtualBack hx (y := (⟨"java/lang/String", "equals", "(Ljava/lang/Object;)Z"⟩ : MethodName)) (z := (⟨"java/lang/String", "equals", "(Ljava/lang/Object;)Z"⟩ : MethodName)) hown (mvT hZ (hw _ (List.mem_of_getElem? (i := 56) rfl))) (mvT hZ (hw _ (List.mem_of_getElem? (i := 57) rfl))) (notFace_of_selects (args := #[]) (mvT hZ (hw _ (List.mem_of_getElem? (i := 59) rfl)))) (mvT hZ (hw _ (List.mem_of_getElem? (i := 59) rfl))) (mvT hZ (hw _ (List.mem_of_getElem? (i := 58) rfl))) (by decide) (backOf (W := 0) (own_req l Z a0 hw [] o_CLASS_label a1 o_COMPACT_STRINGS o_CLASS_label_value t k_o_CLASS_label_value kb (5 : Int32) (17 : Int32) [(99 : Int32), (108 : Int32), (97 : Int32), (115 : Int32), (115 : Int32)] [(100 : Int32), (97 : Int32), (116 : Int32), (97 : Int32), (116 : Int32), (121 : Int32), (112 : Int32), (101 : Int32), (32 : Int32), (112 : Int32), (114 : Int32), (111 : Int32), (112 : Int32), (101 : Int32), (114 : Int32), (116 : Int32), (121 : Int32)] T1.heap n0 (Nat.le_trans Z0 Kp.1) O S_o_COMPACT_STRINGS (Ex_o_CLASS_label.ext O.2) (F_o_CLASS_label_value.ext O.2) (F_o_CLASS_label_coder.ext O.2) (V_o_CLASS_label_value.ext O.2) Ex Fv Fc Va nz_o_COMPACT_STRINGS rfl rfl) hZ (hw _ (List.mem_of_getElem? (i := 60) rfl)) (hw _ (List.mem_of_getElem? (i := 7) rfl)) (by decide) (by decide)) qa5 qc5 (g := (mkF m 25 #[rv a1, rv b1, iv (3 : Int32), iv (0 : Int32), rv o_CLASS] [(.ref a1), (.ref o_CLASS_label)])) rfl (by rw [hml]; rfl) (Steps.refl _) (argsL := [(.ref a1)]) (rest := []) (lenOf own_pd__Ljava_lang_Object__Z rfl) rfl (by show 2 * 0 + _ ≤ _; exact Nat.le_of_eq rfl) (hb hby own_d7_25) (fun _ _ => ⟨rfl, e4, (by decide : 1 + 0 ≤ _), (by decide : 3 + 0 ≤ _)⟩)
  dsimp only [Pt.U, Pt.locs, Pt.cells, Pt.slots] at X5 l5 y5 z5 st5 hQ5
  subst l5 y5 z5
  obtain ⟨hv5, Nq5, e5⟩ := hQ5
  rw [show own_eqv _ _ = (0 : Int32) by decide] at hv5
  subst hv5
  have N5 := Fr.app N1 Nq5
  refine own_go (fun zt zk => st5.trans zk) ?_
  show own_Go p e below s _ _ _ (T5.setTop (mkF m 28 #[rv a1, rv b1, iv (3 : Int32), iv (0 : Int32), rv o_CLASS] [(.int (0 : Int32))]))
  refine own_go (fun zt zk => (XS.ifYes X5.here hx rfl (pc0 := 28) (pc' := 34) rfl (hb hby own_d7_28) rfl ((if0 _ _).trans (teq (rfl : (0 : Int32) = (0 : Int32))).1) (by decide) (by decide) (XS.iinc X5.here hx rfl (hb hby own_d7_34) rfl (l' := #[rv a1, rv b1, iv (3 : Int32), iv (1 : Int32), rv o_CLASS]) rfl (XS.goto X5.here hx rfl (pc0 := 37) (pc' := 9) rfl (hb hby own_d7_37) (by decide) (by decide) (XS.iloadN X5.here hx rfl (hb hby own_d7_9) rfl (XS.iloadN X5.here hx rfl (hb hby own_d7_10) rfl (XS.icmpNo X5.here hx rfl (hb hby own_d7_11) rfl (tlt ((by decide) : (1 : Int32) < (3 : Int32))).2.1 (XS.aloadN X5.here hx rfl (hb hby own_d7_14) rfl rfl (XS.iloadN X5.here hx rfl (hb hby own_d7_15) rfl zk))))))))) ?_
  show own_Go p e below s _ _ _ (T5.setTop (mkF m 16 #[rv a1, rv b1, iv (3 : Int32), iv (1 : Int32), rv o_CLASS] [(.int (1 : Int32)), (.ref b1)]))
  obtain ⟨cl6, Ar6, q6, Sz6, Nz6, Ha6, Ga6⟩ := id V_b1
  have hin6 : ¬ ((1 : Int32) < 0 ∨ cl6.slots.size ≤ ((1 : Int32)).toNatClampNeg) := inb_of Sz6 ⟨by decide, by decide⟩
  have hat6 : cl6.slots[((1 : Int32)).toNatClampNeg]? = some (.ref o_OBJECT_PROPERTY) := Has.at Ha6 hin6 rfl
  refine own_go (X5.aaload hx (j := (1 : Int32)) (v := (.ref o_OBJECT_PROPERTY)) (by rw [e5]; exact Ar6.1) (State.isArrayOf_alike hZ.alike Ar6.2.1) rfl Ar6.2.2 hin6 hat6 (g := (mkF m 16 #[rv a1, rv b1, iv (3 : Int32), iv (1 : Int32), rv o_CLASS] [(.int (1 : Int32)), (.ref b1)])) rfl rfl (hb hby own_d7_16)) ?_
  show own_Go p e below s _ _ _ (T5.setTop (mkF m 17 #[rv a1, rv b1, iv (3 : Int32), iv (1 : Int32), rv o_CLASS] [(.ref o_OBJECT_PROPERTY)]))
  refine own_go (fun zt zk => (XS.astore X5.here hx rfl (hb hby own_d7_17) rfl rfl (l' := #[rv a1, rv b1, iv (3 : Int32), iv (1 : Int32), rv o_OBJECT_PROPERTY]) rfl (XS.aload X5.here hx rfl (hb hby own_d7_19) rfl rfl zk))) ?_
  show own_Go p e below s _ _ _ (T5.setTop (mkF m 21 #[rv a1, rv b1, iv (3 : Int32), iv (1 : Int32), rv o_OBJECT_PROPERTY] [(.ref o_OBJECT_PROPERTY)]))
  obtain ⟨T7, X7, e7, st7⟩ := getF X5 hx hZ hown (host := "") (Or.inl (hw _ (List.mem_of_getElem? (i := 54) rfl))) Via.refl e5 (F_o_OBJECT_PROPERTY_label.ext O.2) (g := (mkF m 21 #[rv a1, rv b1, iv (3 : Int32), iv (1 : Int32), rv o_OBJECT_PROPERTY] [(.ref o_OBJECT_PROPERTY)])) rfl rfl (hb hby own_d7_21)
  refine own_go st7 ?_
  show own_Go p e below s _ _ _ (T7.setTop (mkF m 24 #[rv a1, rv b1, iv (3 : Int32), iv (1 : Int32), rv o_OBJECT_PROPERTY] [(.ref o_OBJECT_PROPERTY_label)]))
  refine own_go (fun zt zk => (XS.aloadN X7.here hx rfl (hb hby own_d7_24) rfl rfl zk)) ?_
  show own_Go p e below s _ _ _ (T7.setTop (mkF m 25 #[rv a1, rv b1, iv (3 : Int32), iv (1 : Int32), rv o_OBJECT_PROPERTY] [(.ref a1), (.ref o_OBJECT_PROPERTY_label)]))
  obtain ⟨cq8, kq8, qa8, qb8, qc8⟩ := isOf hZ e7 (Ex_o_OBJECT_PROPERTY_label.ext O.2)
  obtain ⟨_, _, ⟨T8, L8, k8, n8⟩, -, X8, ⟨Lc8, hQ8, l8, y8, z8⟩, st8⟩ := X7.virtualBack hx (y := (⟨"java/lang/String", "equals", "(Ljava/lang/Object;)Z"⟩ : MethodName)) (z := (⟨"java/lang/String", "equals", "(Ljava/lang/Object;)Z"⟩ : MethodName)) hown (mvT hZ (hw _ (List.mem_of_getElem? (i := 56) rfl))) (mvT hZ (hw _ (List.mem_of_getElem? (i := 57) rfl))) (notFace_of_selects (args := #[]) (mvT hZ (hw _ (List.mem_of_getElem? (i := 59) rfl)))) (mvT hZ (hw _ (List.mem_of_getElem? (i := 59) rfl))) (mvT hZ (hw _ (List.mem_of_getElem? (i := 58) rfl))) (by decide) (backOf (W := 0) (own_req l Z a0 hw [] o_OBJECT_PROPERTY_label a1 o_COMPACT_STRINGS o_OBJECT_PROPERTY_label_value t k_o_OBJECT_PROPERTY_label_value kb (15 : Int32) (17 : Int32) [(111 : Int32), (98 : Int32), (106 : Int32), (101 : Int32), (99 : Int32), (116 : Int32), (32 : Int32), (112 : Int32), (114 : Int32), (111 : Int32), (112 : Int32), (101 : Int32), (114 : Int32), (116 : Int32), (121 : Int32)] [(100 : Int32), (97 : Int32), (116 : Int32), (97 : Int32), (116 : Int32), (121 : Int32), (112 : Int32), (101 : Int32), (32 : Int32), (112 : Int32), (114 : Int32), (111 : Int32), (112 : Int32), (101 : Int32), (114 : Int32), (116 : Int32), (121 : Int32)] T1.heap n0 (Nat.le_trans Z0 Kp.1) O S_o_COMPACT_STRINGS (Ex_o_OBJECT_PROPERTY_label.ext O.2) (F_o_OBJECT_PROPERTY_label_value.ext O.2) (F_o_OBJECT_PROPERTY_label_coder.ext O.2) (V_o_OBJECT_PROPERTY_label_value.ext O.2) Ex Fv Fc Va nz_o_COMPACT_STRINGS rfl rfl) hZ (hw _ (List.mem_of_getElem? (i := 60) rfl)) (hw _ (List.mem_of_getElem? (i := 7) rfl)) (by decide) (by decide)) qa8 qc8 (g := (mkF m 25 #[rv a1, rv b1, iv (3 : Int32), iv (1 : Int32), rv o_OBJECT_PROPERTY] [(.ref a1), (.ref o_OBJECT_PROPERTY_label)])) rfl (by rw [hml]; rfl) (Steps.refl _) (argsL := [(.ref a1)]) (rest := []) (lenOf own_pd__Ljava_lang_Object__Z rfl) rfl (by show 2 * 0 + _ ≤ _; exact Nat.le_of_eq rfl) (hb hby own_d7_25) (fun _ _ => ⟨rfl, e7, (by decide : 1 + 0 ≤ _), (by decide : 3 + 0 ≤ _)⟩)
  dsimp only [Pt.U, Pt.locs, Pt.cells, Pt.slots] at X8 l8 y8 z8 st8 hQ8
  subst l8 y8 z8
  obtain ⟨hv8, Nq8, e8⟩ := hQ8
  rw [show own_eqv _ _ = (0 : Int32) by decide] at hv8
  subst hv8
  have N8 := Fr.app N5 Nq8
  refine own_go (fun zt zk => st8.trans zk) ?_
  show own_Go p e below s _ _ _ (T8.setTop (mkF m 28 #[rv a1, rv b1, iv (3 : Int32), iv (1 : Int32), rv o_OBJECT_PROPERTY] [(.int (0 : Int32))]))
  refine own_go (fun zt zk => (XS.ifYes X8.here hx rfl (pc0 := 28) (pc' := 34) rfl (hb hby own_d7_28) rfl ((if0 _ _).trans (teq (rfl : (0 : Int32) = (0 : Int32))).1) (by decide) (by decide) (XS.iinc X8.here hx rfl (hb hby own_d7_34) rfl (l' := #[rv a1, rv b1, iv (3 : Int32), iv (2 : Int32), rv o_OBJECT_PROPERTY]) rfl (XS.goto X8.here hx rfl (pc0 := 37) (pc' := 9) rfl (hb hby own_d7_37) (by decide) (by decide) (XS.iloadN X8.here hx rfl (hb hby own_d7_9) rfl (XS.iloadN X8.here hx rfl (hb hby own_d7_10) rfl (XS.icmpNo X8.here hx rfl (hb hby own_d7_11) rfl (tlt ((by decide) : (2 : Int32) < (3 : Int32))).2.1 (XS.aloadN X8.here hx rfl (hb hby own_d7_14) rfl rfl (XS.iloadN X8.here hx rfl (hb hby own_d7_15) rfl zk))))))))) ?_
  show own_Go p e below s _ _ _ (T8.setTop (mkF m 16 #[rv a1, rv b1, iv (3 : Int32), iv (2 : Int32), rv o_OBJECT_PROPERTY] [(.int (2 : Int32)), (.ref b1)]))
  obtain ⟨cl9, Ar9, q9, Sz9, Nz9, Ha9, Ga9⟩ := id V_b1
  have hin9 : ¬ ((2 : Int32) < 0 ∨ cl9.slots.size ≤ ((2 : Int32)).toNatClampNeg) := inb_of Sz9 ⟨by decide, by decide⟩
  have hat9 : cl9.slots[((2 : Int32)).toNatClampNeg]? = some (.ref o_DATA_PROPERTY) := Has.at Ha9 hin9 rfl
  refine own_go (X8.aaload hx (j := (2 : Int32)) (v := (.ref o_DATA_PROPERTY)) (by rw [e8]; exact Ar9.1) (State.isArrayOf_alike hZ.alike Ar9.2.1) rfl Ar9.2.2 hin9 hat9 (g := (mkF m 16 #[rv a1, rv b1, iv (3 : Int32), iv (2 : Int32), rv o_OBJECT_PROPERTY] [(.int (2 : Int32)), (.ref b1)])) rfl rfl (hb hby own_d7_16)) ?_
  show own_Go p e below s _ _ _ (T8.setTop (mkF m 17 #[rv a1, rv b1, iv (3 : Int32), iv (2 : Int32), rv o_OBJECT_PROPERTY] [(.ref o_DATA_PROPERTY)]))
  refine own_go (fun zt zk => (XS.astore X8.here hx rfl (hb hby own_d7_17) rfl rfl (l' := #[rv a1, rv b1, iv (3 : Int32), iv (2 : Int32), rv o_DATA_PROPERTY]) rfl (XS.aload X8.here hx rfl (hb hby own_d7_19) rfl rfl zk))) ?_
  show own_Go p e below s _ _ _ (T8.setTop (mkF m 21 #[rv a1, rv b1, iv (3 : Int32), iv (2 : Int32), rv o_DATA_PROPERTY] [(.ref o_DATA_PROPERTY)]))
  obtain ⟨T10, X10, e10, st10⟩ := getF X8 hx hZ hown (host := "") (Or.inl (hw _ (List.mem_of_getElem? (i := 54) rfl))) Via.refl e8 (F_o_DATA_PROPERTY_label.ext O.2) (g := (mkF m 21 #[rv a1, rv b1, iv (3 : Int32), iv (2 : Int32), rv o_DATA_PROPERTY] [(.ref o_DATA_PROPERTY)])) rfl rfl (hb hby own_d7_21)
  refine own_go st10 ?_
  show own_Go p e below s _ _ _ (T10.setTop (mkF m 24 #[rv a1, rv b1, iv (3 : Int32), iv (2 : Int32), rv o_DATA_PROPERTY] [(.ref o_DATA_PROPERTY_label)]))
  refine own_go (fun zt zk => (XS.aloadN X10.here hx rfl (hb hby own_d7_24) rfl rfl zk)) ?_
  show own_Go p e below s _ _ _ (T10.setTop (mkF m 25 #[rv a1, rv b1, iv (3 : Int32), iv (2 : Int32), rv o_DATA_PROPERTY] [(.ref a1), (.ref o_DATA_PROPERTY_label)]))
  obtain ⟨cq11, kq11, qa11, qb11, qc11⟩ := isOf hZ e10 (Ex_o_DATA_PROPERTY_label.ext O.2)
  obtain ⟨_, _, ⟨T11, L11, k11, n11⟩, -, X11, ⟨Lc11, hQ11, l11, y11, z11⟩, st11⟩ := X10.virtualBack hx (y := (⟨"java/lang/String", "equals", "(Ljava/lang/Object;)Z"⟩ : MethodName)) (z := (⟨"java/lang/String", "equals", "(Ljava/lang/Object;)Z"⟩ : MethodName)) hown (mvT hZ (hw _ (List.mem_of_getElem? (i := 56) rfl))) (mvT hZ (hw _ (List.mem_of_getElem? (i := 57) rfl))) (notFace_of_selects (args := #[]) (mvT hZ (hw _ (List.mem_of_getElem? (i := 59) rfl)))) (mvT hZ (hw _ (List.mem_of_getElem? (i := 59) rfl))) (mvT hZ (hw _ (List.mem_of_getElem? (i := 58) rfl))) (by decide) (backOf (W := 0) (own_req l Z a0 hw [] o_DATA_PROPERTY_label a1 o_COMPACT_STRINGS o_DATA_PROPERTY_label_value t k_o_DATA_PROPERTY_label_value kb (17 : Int32) (17 : Int32) [(100 : Int32), (97 : Int32), (116 : Int32), (97 : Int32), (116 : Int32), (121 : Int32), (112 : Int32), (101 : Int32), (32 : Int32), (112 : Int32), (114 : Int32), (111 : Int32), (112 : Int32), (101 : Int32), (114 : Int32), (116 : Int32), (121 : Int32)] [(100 : Int32), (97 : Int32), (116 : Int32), (97 : Int32), (116 : Int32), (121 : Int32), (112 : Int32), (101 : Int32), (32 : Int32), (112 : Int32), (114 : Int32), (111 : Int32), (112 : Int32), (101 : Int32), (114 : Int32), (116 : Int32), (121 : Int32)] T1.heap n0 (Nat.le_trans Z0 Kp.1) O S_o_COMPACT_STRINGS (Ex_o_DATA_PROPERTY_label.ext O.2) (F_o_DATA_PROPERTY_label_value.ext O.2) (F_o_DATA_PROPERTY_label_coder.ext O.2) (V_o_DATA_PROPERTY_label_value.ext O.2) Ex Fv Fc Va nz_o_COMPACT_STRINGS rfl rfl) hZ (hw _ (List.mem_of_getElem? (i := 60) rfl)) (hw _ (List.mem_of_getElem? (i := 7) rfl)) (by decide) (by decide)) qa11 qc11 (g := (mkF m 25 #[rv a1, rv b1, iv (3 : Int32), iv (2 : Int32), rv o_DATA_PROPERTY] [(.ref a1), (.ref o_DATA_PROPERTY_label)])) rfl (by rw [hml]; rfl) (Steps.refl _) (argsL := [(.ref a1)]) (rest := []) (lenOf own_pd__Ljava_lang_Object__Z rfl) rfl (by show 2 * 0 + _ ≤ _; exact Nat.le_of_eq rfl) (hb hby own_d7_25) (fun _ _ => ⟨rfl, e10, (by decide : 1 + 0 ≤ _), (by decide : 3 + 0 ≤ _)⟩)
  dsimp only [Pt.U, Pt.locs, Pt.cells, Pt.slots] at X11 l11 y11 z11 st11 hQ11
  subst l11 y11 z11
  obtain ⟨hv11, Nq11, e11⟩ := hQ11
  rw [show own_eqv _ _ = (1 : Int32) by decide] at hv11
  subst hv11
  have N11 := Fr.app N8 Nq11
  refine own_go (fun zt zk => st11.trans zk) ?_
  show own_Go p e below s _ _ _ (T11.setTop (mkF m 28 #[rv a1, rv b1, iv (3 : Int32), iv (2 : Int32), rv o_DATA_PROPERTY] [(.int (1 : Int32))]))
  refine own_go (fun zt zk => (XS.ifNo X11.here hx rfl (hb hby own_d7_28) rfl ((if0 _ _).trans (feq ((by decide) : ¬ ((1 : Int32) = (0 : Int32)))).1) (XS.aload X11.here hx rfl (hb hby own_d7_31) rfl rfl zk))) ?_
  show own_Go p e below s _ _ _ (T11.setTop (mkF m 33 #[rv a1, rv b1, iv (3 : Int32), iv (2 : Int32), rv o_DATA_PROPERTY] [(.ref o_DATA_PROPERTY)]))
  exact own_fin X11 Bd.notSynchronized (fun h => by rw [Bd.returns] at h; cases h) (fun fs hr => retOut X11 hx (t := (.object "com/example/boxwright/boxwright/Kind")) (w := (.ref o_DATA_PROPERTY)) Bd.returns rfl (Or.inr (Or.inr (Or.inr (Or.inr ⟨rfl, rfl, rfl⟩)))) (hb hby own_d7_33) hr) (by rw [e11]; exact ⟨rfl, N11, Kp⟩) (by decide) (by decide)
theorem own_d11_0 : decode prog_8_method_4_code 0 = .ok (.aload_n 0, 1) := by decide +kernel
theorem own_d11_1 : decode prog_8_method_4_code 1 = .ok (.getfield 32, 3) := by decide +kernel
theorem own_d11_4 : decode prog_8_method_4_code 4 = .ok (.areturn, 1) := by decide +kernel
theorem own_ef_own_rlabel (m : MethodId) (a1 : Addr) : entryFrame m #[(.ref a1)] 1 = mkF m 0 #[rv a1] [] := by first | (simp [entryFrame, mkF, argsToLocals, Value.category]; done) | rfl
def own_Q_own_rlabel (Z : State) (a1 : Addr) (b : Addr) (h0 : Heap) (n0 : Nat) (v : Option Value) (h : Heap) (L : List Loc) : Prop := v = some (.ref b) ∧ Fr n0 L ∧ h = h0
set_option maxRecDepth 65536 in
set_option maxHeartbeats 40000000 in
theorem own_rlabel (l : Launch) (Z : State) (a0 : Array Value) (hw : ∀ d ∈ tables_1, d.before a0 Z = true) (ws : List Jvm.Cond) (a1 : Addr) (b : Addr) (h0 : Heap) (n0 : Nat) (Z0 : n0 ≤ h0.size) (F1 : Fld Z h0 a1 "com/example/boxwright/boxwright/Kind" "label" "Ljava/lang/String;" (.ref b))  :
    MetFree l (⟨"com/example/boxwright/boxwright/Kind", "label", "()Ljava/lang/String;"⟩ : MethodName) (head1 (Jvm.Cond.code (⟨"com/example/boxwright/boxwright/Kind", "label", "()Ljava/lang/String;"⟩ : MethodName) prog_8_method_4_code 1 (some (.object "java/lang/String")) :: ws) ({ frames := 0, cells := 0, slots := 0, locals := 0 } : Room)) (fun a U => a = #[(.ref a1)] ∧ Z.Warmed39 U.vm ∧ U.heap = h0) (fun _ _ _ _ _ => True) (fun _ U o U' => ∃ v L, o = .returned v ∧ own_Q_own_rlabel Z a1 b h0 n0 v U'.heap L ∧ FrameEnd U o U' L ({ frames := 0, cells := 0, slots := 0, locals := 0 } : Room).cells ({ frames := 0, cells := 0, slots := 0, locals := 0 } : Room).slots) := by
  refine MetFree.of_bodySF (plainFor_of_name own_pn_com_example_boxwright_boxwright_Kind) hisR ?_
  intro p e s m args below meth c s₁ Bd hml0 hP hK
  obtain ⟨rfl, hZ, hh⟩ := hP
  have hx := Bd.exec
  have hby := Bd.bytes
  have hml : c.maxLocals = 1 := hml0
  have hown : s.vm.findClass "com/example/boxwright/boxwright/Kind" = some m.cls := findClass_of_methodNamed Bd.named
  have hnm := (name_of_methodNamed Bd.named Bd.method).1
  have X0 : Stand p l e ({ frames := 0, cells := 0, slots := 0, locals := 0 } : Room) s m #[(.ref a1)] below meth c s₁ [] 0 0 := Stand.of_body Bd
  have e0 : s₁.heap = h0 := by rw [← hh, Bd.state]; rfl
  have N0 := Fr.nil n0
  show own_Go p e below s (own_Q_own_rlabel Z a1 b h0 n0) ({ frames := 0, cells := 0, slots := 0, locals := 0 } : Room).cells ({ frames := 0, cells := 0, slots := 0, locals := 0 } : Room).slots (s₁.setTop (entryFrame m #[(.ref a1)] 1))
  refine own_go (fun zt zk => castTop (own_ef_own_rlabel m a1) zk) ?_
  show own_Go p e below s _ _ _ (s₁.setTop (mkF m 0 #[rv a1] []))
  refine own_go (fun zt zk => (XS.aloadN X0.here hx rfl (hb hby own_d11_0) rfl rfl zk)) ?_
  show own_Go p e below s _ _ _ (s₁.setTop (mkF m 1 #[rv a1] [(.ref a1)]))
  obtain ⟨T1, X1, e1, st1⟩ := getF X0 hx hZ hown (host := "") (Or.inl (hw _ (List.mem_of_getElem? (i := 54) rfl))) Via.refl e0 F1 (g := (mkF m 1 #[rv a1] [(.ref a1)])) rfl rfl (hb hby own_d11_1)
  refine own_go st1 ?_
  show own_Go p e below s _ _ _ (T1.setTop (mkF m 4 #[rv a1] [(.ref b)]))
  exact own_fin X1 Bd.notSynchronized (fun h => by rw [Bd.returns] at h; cases h) (fun fs hr => retOut X1 hx (t := (.object "java/lang/String")) (w := (.ref b)) Bd.returns rfl (Or.inr (Or.inr (Or.inr (Or.inr ⟨rfl, rfl, rfl⟩)))) (hb hby own_d11_4) hr) (by rw [e1]; exact ⟨rfl, N0, rfl⟩) (by decide) (by decide)
theorem own_pd___C_V : parseMethodDescriptor "([C)V" = some ⟨[(.array .char)], none⟩ := by decide +kernel
theorem own_pd__Ljava_lang_String__Lcom_example_boxwright_boxwright_Kind_ : parseMethodDescriptor "(Ljava/lang/String;)Lcom/example/boxwright/boxwright/Kind;" = some ⟨[(.object "java/lang/String")], some (.object "com/example/boxwright/boxwright/Kind")⟩ := by decide +kernel
theorem own_pd___Ljava_lang_String_ : parseMethodDescriptor "()Ljava/lang/String;" = some ⟨[], some (.object "java/lang/String")⟩ := by decide +kernel
theorem own_pn_com_example_boxwright_boxwright_KindOfLabelPinLaw : plainName "com/example/boxwright/boxwright/KindOfLabelPinLaw" = true := by first | (simp [plainName, overriddenIn]; done) | decide +kernel
theorem own_ef_own_law (m : MethodId) (p1 : Int32) : entryFrame m #[(.int p1)] maxLocals = mkF m 0 #[iv p1, .unset, .unset, .unset, .unset, .unset] [] := by first | (simp [entryFrame, mkF, argsToLocals, Value.category, maxLocals]; done) | rfl
def own_Q_own_law (Z : State) (p1 : Int32) (o_CLASS : Addr) (o__VALUES : Addr) (o_OBJECT_PROPERTY : Addr) (o_DATA_PROPERTY : Addr) (o_CLASS_label : Addr) (o_CLASS_label_value : Addr) (o_OBJECT_PROPERTY_label : Addr) (o_OBJECT_PROPERTY_label_value : Addr) (o_DATA_PROPERTY_label : Addr) (o_DATA_PROPERTY_label_value : Addr) (o_COMPACT_STRINGS : Int32) (o_SIOOBE_FORMATTER : Value) (k_o__VALUES : ClassId) (k_o_CLASS_label_value : ClassId) (k_o_OBJECT_PROPERTY_label_value : ClassId) (k_o_DATA_PROPERTY_label_value : ClassId) (h0 : Heap) (n0 : Nat) (v : Option Value) (h : Heap) (L : List Loc) : Prop := v = some (.int 1) ∧ Fr n0 L
set_option maxRecDepth 65536 in
set_option maxHeartbeats 40000000 in
theorem own_law (l : Launch) (Z : State) (a0 : Array Value) (hw : ∀ d ∈ tables_1, d.before a0 Z = true) (ws : List Jvm.Cond) (p1 : Int32) (o_CLASS : Addr) (o__VALUES : Addr) (o_OBJECT_PROPERTY : Addr) (o_DATA_PROPERTY : Addr) (o_CLASS_label : Addr) (o_CLASS_label_value : Addr) (o_OBJECT_PROPERTY_label : Addr) (o_OBJECT_PROPERTY_label_value : Addr) (o_DATA_PROPERTY_label : Addr) (o_DATA_PROPERTY_label_value : Addr) (o_COMPACT_STRINGS : Int32) (o_SIOOBE_FORMATTER : Value) (k_o__VALUES : ClassId) (k_o_CLASS_label_value : ClassId) (k_o_OBJECT_PROPERTY_label_value : ClassId) (k_o_DATA_PROPERTY_label_value : ClassId) (h0 : Heap) (n0 : Nat) (Z0 : n0 ≤ h0.size) (O : Old Z n0 h0) (S_o_CLASS : Sta Z Z.heap "com/example/boxwright/boxwright/Kind" "CLASS" "Lcom/example/boxwright/boxwright/Kind;" (.ref o_CLASS)) (Ex_o_CLASS : Exa Z Z.heap o_CLASS "com/example/boxwright/boxwright/Kind") (S_o__VALUES : Sta Z Z.heap "com/example/boxwright/boxwright/Kind" "$VALUES" "[Lcom/example/boxwright/boxwright/Kind;" (.ref o__VALUES)) (Ex_o__VALUES : Exa Z Z.heap o__VALUES "[Lcom/example/boxwright/boxwright/Kind;") (S_o_OBJECT_PROPERTY : Sta Z Z.heap "com/example/boxwright/boxwright/Kind" "OBJECT_PROPERTY" "Lcom/example/boxwright/boxwright/Kind;" (.ref o_OBJECT_PROPERTY)) (Ex_o_OBJECT_PROPERTY : Exa Z Z.heap o_OBJECT_PROPERTY "com/example/boxwright/boxwright/Kind") (S_o_DATA_PROPERTY : Sta Z Z.heap "com/example/boxwright/boxwright/Kind" "DATA_PROPERTY" "Lcom/example/boxwright/boxwright/Kind;" (.ref o_DATA_PROPERTY)) (Ex_o_DATA_PROPERTY : Exa Z Z.heap o_DATA_PROPERTY "com/example/boxwright/boxwright/Kind") (F_o_CLASS_label : Fld Z Z.heap o_CLASS "com/example/boxwright/boxwright/Kind" "label" "Ljava/lang/String;" (.ref o_CLASS_label)) (Ex_o_CLASS_label : Exa Z Z.heap o_CLASS_label "java/lang/String") (F_o_CLASS_label_coder : Fld Z Z.heap o_CLASS_label "java/lang/String" "coder" "B" (.int (0 : Int32))) (F_o_CLASS_label_value : Fld Z Z.heap o_CLASS_label "java/lang/String" "value" "[B" (.ref o_CLASS_label_value)) (F_o_OBJECT_PROPERTY_label : Fld Z Z.heap o_OBJECT_PROPERTY "com/example/boxwright/boxwright/Kind" "label" "Ljava/lang/String;" (.ref o_OBJECT_PROPERTY_label)) (Ex_o_OBJECT_PROPERTY_label : Exa Z Z.heap o_OBJECT_PROPERTY_label "java/lang/String") (F_o_OBJECT_PROPERTY_label_coder : Fld Z Z.heap o_OBJECT_PROPERTY_label "java/lang/String" "coder" "B" (.int (0 : Int32))) (F_o_OBJECT_PROPERTY_label_value : Fld Z Z.heap o_OBJECT_PROPERTY_label "java/lang/String" "value" "[B" (.ref o_OBJECT_PROPERTY_label_value)) (F_o_DATA_PROPERTY_label : Fld Z Z.heap o_DATA_PROPERTY "com/example/boxwright/boxwright/Kind" "label" "Ljava/lang/String;" (.ref o_DATA_PROPERTY_label)) (Ex_o_DATA_PROPERTY_label : Exa Z Z.heap o_DATA_PROPERTY_label "java/lang/String") (F_o_DATA_PROPERTY_label_coder : Fld Z Z.heap o_DATA_PROPERTY_label "java/lang/String" "coder" "B" (.int (0 : Int32))) (F_o_DATA_PROPERTY_label_value : Fld Z Z.heap o_DATA_PROPERTY_label "java/lang/String" "value" "[B" (.ref o_DATA_PROPERTY_label_value)) (S_o_COMPACT_STRINGS : Sta Z Z.heap "java/lang/String" "COMPACT_STRINGS" "Z" (.int o_COMPACT_STRINGS)) (S_o_SIOOBE_FORMATTER : Sta Z Z.heap "jdk/internal/util/Preconditions" "SIOOBE_FORMATTER" "Ljava/util/function/BiFunction;" o_SIOOBE_FORMATTER) (V_o__VALUES : Arv Z Z.heap o__VALUES k_o__VALUES (.object "com/example/boxwright/boxwright/Kind") (3 : Int32) [(.ref o_CLASS), (.ref o_OBJECT_PROPERTY), (.ref o_DATA_PROPERTY)] .null) (V_o_CLASS_label_value : Arv Z Z.heap o_CLASS_label_value k_o_CLASS_label_value .byte (5 : Int32) [(.int (99 : Int32)), (.int (108 : Int32)), (.int (97 : Int32)), (.int (115 : Int32)), (.int (115 : Int32))] (.int (0 : Int32))) (V_o_OBJECT_PROPERTY_label_value : Arv Z Z.heap o_OBJECT_PROPERTY_label_value k_o_OBJECT_PROPERTY_label_value .byte (15 : Int32) [(.int (111 : Int32)), (.int (98 : Int32)), (.int (106 : Int32)), (.int (101 : Int32)), (.int (99 : Int32)), (.int (116 : Int32)), (.int (32 : Int32)), (.int (112 : Int32)), (.int (114 : Int32)), (.int (111 : Int32)), (.int (112 : Int32)), (.int (101 : Int32)), (.int (114 : Int32)), (.int (116 : Int32)), (.int (121 : Int32))] (.int (0 : Int32))) (V_o_DATA_PROPERTY_label_value : Arv Z Z.heap o_DATA_PROPERTY_label_value k_o_DATA_PROPERTY_label_value .byte (17 : Int32) [(.int (100 : Int32)), (.int (97 : Int32)), (.int (116 : Int32)), (.int (97 : Int32)), (.int (116 : Int32)), (.int (121 : Int32)), (.int (112 : Int32)), (.int (101 : Int32)), (.int (32 : Int32)), (.int (112 : Int32)), (.int (114 : Int32)), (.int (111 : Int32)), (.int (112 : Int32)), (.int (101 : Int32)), (.int (114 : Int32)), (.int (116 : Int32)), (.int (121 : Int32))] (.int (0 : Int32))) (nz_o_COMPACT_STRINGS : ¬ (o_COMPACT_STRINGS = (0 : Int32))) (r_o_SIOOBE_FORMATTER : o_SIOOBE_FORMATTER.isRef = true) :
    MetFree l x (head1 (Jvm.Cond.code x code maxLocals ret :: ws) room_1) (fun a U => a = #[(.int p1)] ∧ Z.Warmed39 U.vm ∧ U.heap = h0) (fun _ _ _ _ _ => True) (fun _ U o U' => ∃ v L, o = .returned v ∧ own_Q_own_law Z p1 o_CLASS o__VALUES o_OBJECT_PROPERTY o_DATA_PROPERTY o_CLASS_label o_CLASS_label_value o_OBJECT_PROPERTY_label o_OBJECT_PROPERTY_label_value o_DATA_PROPERTY_label o_DATA_PROPERTY_label_value o_COMPACT_STRINGS o_SIOOBE_FORMATTER k_o__VALUES k_o_CLASS_label_value k_o_OBJECT_PROPERTY_label_value k_o_DATA_PROPERTY_label_value h0 n0 v U'.heap L ∧ FrameEnd U o U' L room_1.cells room_1.slots) := by
  refine MetFree.of_bodySF (plainFor_of_name own_pn_com_example_boxwright_boxwright_KindOfLabelPinLaw) hisR ?_
  intro p e s m args below meth c s₁ Bd hml0 hP hK
  obtain ⟨rfl, hZ, hh⟩ := hP
  have hx := Bd.exec
  have hby := Bd.bytes
  have hml : c.maxLocals = 6 := hml0
  have hown : s.vm.findClass "com/example/boxwright/boxwright/KindOfLabelPinLaw" = some m.cls := findClass_of_methodNamed Bd.named
  have hnm := (name_of_methodNamed Bd.named Bd.method).1
  have X0 : Stand p l e room_1 s m #[(.int p1)] below meth c s₁ [] 0 0 := Stand.of_body Bd
  have e0 : s₁.heap = h0 := by rw [← hh, Bd.state]; rfl
  have N0 := Fr.nil n0
  have Kp : Keep h0 h0 [] := Keep.refl h0 _
  show own_Go p e below s (own_Q_own_law Z p1 o_CLASS o__VALUES o_OBJECT_PROPERTY o_DATA_PROPERTY o_CLASS_label o_CLASS_label_value o_OBJECT_PROPERTY_label o_OBJECT_PROPERTY_label_value o_DATA_PROPERTY_label o_DATA_PROPERTY_label_value o_COMPACT_STRINGS o_SIOOBE_FORMATTER k_o__VALUES k_o_CLASS_label_value k_o_OBJECT_PROPERTY_label_value k_o_DATA_PROPERTY_label_value h0 n0) room_1.cells room_1.slots (s₁.setTop (entryFrame m #[(.int p1)] maxLocals))
  refine own_go (fun zt zk => castTop (own_ef_own_law m p1) zk) ?_
  show own_Go p e below s _ _ _ (s₁.setTop (mkF m 0 #[iv p1, .unset, .unset, .unset, .unset, .unset] []))
  refine own_go (fun zt zk => (XS.iloadN X0.here hx rfl (hb hby at_0) rfl (X0.ldcI hx hown (mvT hZ (hw _ (List.mem_of_getElem? (i := 0) rfl))) (g := (mkF m 1 #[iv p1, .unset, .unset, .unset, .unset, .unset] [(.int p1)])) rfl (hb hby at_1) (XS.iand X0.here hx rfl (hb hby at_3) rfl (XS.iconst X0.here hx rfl (hb hby at_4) (iremM X0 hx rfl (hb hby at_5) rfl (by decide) (XS.istoreN X0.here hx rfl (hb hby at_6) rfl (l' := #[iv p1, iv ((p1 &&& (2147483647 : Int32)) % (3 : Int32)), .unset, .unset, .unset, .unset]) rfl zk))))))) ?_
  show own_Go p e below s _ _ _ (s₁.setTop (mkF m 7 #[iv p1, iv ((p1 &&& (2147483647 : Int32)) % (3 : Int32)), .unset, .unset, .unset, .unset] []))
  generalize hv_k : ((p1 &&& (2147483647 : Int32)) % (3 : Int32)) = k
  show own_Go p e below s _ _ _ (s₁.setTop (mkF m 7 #[iv p1, iv k, .unset, .unset, .unset, .unset] []))
  by_cases hk0_k : k = (0 : Int32)
  · subst hk0_k
    show own_Go p e below s _ _ _ (s₁.setTop (mkF m 7 #[iv p1, iv (0 : Int32), .unset, .unset, .unset, .unset] []))
    refine own_go (fun zt zk => (XS.iloadN X0.here hx rfl (hb hby at_7) rfl (XS.ifNo X0.here hx rfl (hb hby at_8) rfl ((if0 _ _).trans (teq (rfl : (0 : Int32) = (0 : Int32))).2) (XS.iconst X0.here hx rfl (hb hby at_11) zk)))) ?_
    show own_Go p e below s _ _ _ (s₁.setTop (mkF m 12 #[iv p1, iv (0 : Int32), .unset, .unset, .unset, .unset] [(.int (5 : Int32))]))
    obtain ⟨T1, h1, k1, X1, e1, E1, A1, Ea1, st1⟩ := newPE X0 hx hZ (hw _ (List.mem_of_getElem? (i := 1) rfl)) e0 (g := (mkF m 12 #[iv p1, iv (0 : Int32), .unset, .unset, .unset, .unset] [(.int (5 : Int32))])) rfl (hb hby at_12) rfl (by decide) (cap := 5) (by decide) (by decide) (by decide) (by decide) (ad := "[C") (by decide)
    obtain ⟨b1, g1⟩ : ∃ z, z = h0.size := ⟨_, rfl⟩
    rw [← g1] at A1 Ea1 st1
    refine own_go st1 ?_
    have ne_o_CLASS_b1 : o_CLASS ≠ b1 := Nat.ne_of_lt (Nat.lt_of_lt_of_le (Ex_o_CLASS.ext O.2).lt (Nat.le_of_eq g1.symm))
    have ne_o__VALUES_b1 : o__VALUES ≠ b1 := Nat.ne_of_lt (Nat.lt_of_lt_of_le (Ex_o__VALUES.ext O.2).lt (Nat.le_of_eq g1.symm))
    have ne_o_OBJECT_PROPERTY_b1 : o_OBJECT_PROPERTY ≠ b1 := Nat.ne_of_lt (Nat.lt_of_lt_of_le (Ex_o_OBJECT_PROPERTY.ext O.2).lt (Nat.le_of_eq g1.symm))
    have ne_o_DATA_PROPERTY_b1 : o_DATA_PROPERTY ≠ b1 := Nat.ne_of_lt (Nat.lt_of_lt_of_le (Ex_o_DATA_PROPERTY.ext O.2).lt (Nat.le_of_eq g1.symm))
    have ne_o_CLASS_label_b1 : o_CLASS_label ≠ b1 := Nat.ne_of_lt (Nat.lt_of_lt_of_le (Ex_o_CLASS_label.ext O.2).lt (Nat.le_of_eq g1.symm))
    have ne_o_OBJECT_PROPERTY_label_b1 : o_OBJECT_PROPERTY_label ≠ b1 := Nat.ne_of_lt (Nat.lt_of_lt_of_le (Ex_o_OBJECT_PROPERTY_label.ext O.2).lt (Nat.le_of_eq g1.symm))
    have ne_o_DATA_PROPERTY_label_b1 : o_DATA_PROPERTY_label ≠ b1 := Nat.ne_of_lt (Nat.lt_of_lt_of_le (Ex_o_DATA_PROPERTY_label.ext O.2).lt (Nat.le_of_eq g1.symm))
    have ne_o_CLASS_label_value_b1 : o_CLASS_label_value ≠ b1 := Nat.ne_of_lt (Nat.lt_of_lt_of_le (V_o_CLASS_label_value.ext O.2).lt (Nat.le_of_eq g1.symm))
    have ne_o_OBJECT_PROPERTY_label_value_b1 : o_OBJECT_PROPERTY_label_value ≠ b1 := Nat.ne_of_lt (Nat.lt_of_lt_of_le (V_o_OBJECT_PROPERTY_label_value.ext O.2).lt (Nat.le_of_eq g1.symm))
    have ne_o_DATA_PROPERTY_label_value_b1 : o_DATA_PROPERTY_label_value ≠ b1 := Nat.ne_of_lt (Nat.lt_of_lt_of_le (V_o_DATA_PROPERTY_label_value.ext O.2).lt (Nat.le_of_eq g1.symm))
    have sz_b1 : h0.size ≤ b1 := Nat.le_trans Kp.1 (Nat.le_of_eq g1.symm)
    have g_b1 : n0 ≤ b1 := Nat.le_trans Z0 sz_b1
    replace O := O.ext E1
    replace Kp := Kp.ext E1
    have V_b1 : Arv Z h1 b1 k1 .char (5 : Int32) [(.int (0 : Int32)), (.int (0 : Int32)), (.int (0 : Int32)), (.int (0 : Int32)), (.int (0 : Int32))] (.int (0 : Int32)) := (Arv.new A1 (by decide)).pad (pad_rep [] (.int (0 : Int32)) 5)
    have Ea_b1 := Ea1
    show own_Go p e below s _ _ _ (T1.setTop (mkF m 14 #[iv p1, iv (0 : Int32), .unset, .unset, .unset, .unset] [(.ref b1)]))
    refine own_go (fun zt zk => (XS.dup X1.here hx rfl (hb hby at_14) rfl rfl (XS.iconst X1.here hx rfl (hb hby at_15) (XS.bipush X1.here hx rfl (hb hby at_16) zk)))) ?_
    show own_Go p e below s _ _ _ (T1.setTop (mkF m 18 #[iv p1, iv (0 : Int32), .unset, .unset, .unset, .unset] [(.int (99 : Int32)), (.int (0 : Int32)), (.ref b1), (.ref b1)]))
    obtain ⟨cl2, Ar2, q2, Sz2, Nz2, Ha2, Ga2⟩ := id V_b1
    have hin2 : ¬ ((0 : Int32) < 0 ∨ cl2.slots.size ≤ ((0 : Int32)).toNatClampNeg) := inb_of Sz2 ⟨by decide, by decide⟩
    obtain ⟨T3, h3, X3, e3, W3, st3⟩ := stC X1 hx hZ e1 Ar2 (j := (0 : Int32)) hin2 (g := (mkF m 18 #[iv p1, iv (0 : Int32), .unset, .unset, .unset, .unset] [(.int (99 : Int32)), (.int (0 : Int32)), (.ref b1), (.ref b1)])) rfl rfl (hb hby at_18)
    refine own_go st3 ?_
    replace W3 : Wr h1 h3 b1 _ (.int (99 : Int32)) := W3
    have V3 := Arv.set Ar2 q2 Sz2 Nz2 Ha2 Ga2 (by decide) W3 0 rfl (Nat.le_of_ble_eq_true rfl)
    have N3 := Fr.snoc X3 N0 g_b1
    replace O := O.wr W3 g_b1
    replace Kp := Kp.wr W3 (Or.inr sz_b1)
    replace Ea_b1 := Ea_b1.wr W3
    replace V_b1 : Arv Z h3 b1 k1 .char (5 : Int32) [(.int (99 : Int32)), (.int (0 : Int32)), (.int (0 : Int32)), (.int (0 : Int32)), (.int (0 : Int32))] (.int (0 : Int32)) := V3
    show own_Go p e below s _ _ _ (T3.setTop (mkF m 19 #[iv p1, iv (0 : Int32), .unset, .unset, .unset, .unset] [(.ref b1)]))
    refine own_go (fun zt zk => (XS.dup X3.here hx rfl (hb hby at_19) rfl rfl (XS.iconst X3.here hx rfl (hb hby at_20) (XS.bipush X3.here hx rfl (hb hby at_21) zk)))) ?_
    show own_Go p e below s _ _ _ (T3.setTop (mkF m 23 #[iv p1, iv (0 : Int32), .unset, .unset, .unset, .unset] [(.int (108 : Int32)), (.int (1 : Int32)), (.ref b1), (.ref b1)]))
    obtain ⟨cl4, Ar4, q4, Sz4, Nz4, Ha4, Ga4⟩ := id V_b1
    have hin4 : ¬ ((1 : Int32) < 0 ∨ cl4.slots.size ≤ ((1 : Int32)).toNatClampNeg) := inb_of Sz4 ⟨by decide, by decide⟩
    obtain ⟨T5, h5, X5, e5, W5, st5⟩ := stC X3 hx hZ e3 Ar4 (j := (1 : Int32)) hin4 (g := (mkF m 23 #[iv p1, iv (0 : Int32), .unset, .unset, .unset, .unset] [(.int (108 : Int32)), (.int (1 : Int32)), (.ref b1), (.ref b1)])) rfl rfl (hb hby at_23)
    refine own_go st5 ?_
    replace W5 : Wr h3 h5 b1 _ (.int (108 : Int32)) := W5
    have V5 := Arv.set Ar4 q4 Sz4 Nz4 Ha4 Ga4 (by decide) W5 1 rfl (Nat.le_of_ble_eq_true rfl)
    have N5 := Fr.snoc X5 N3 g_b1
    replace O := O.wr W5 g_b1
    replace Kp := Kp.wr W5 (Or.inr sz_b1)
    replace Ea_b1 := Ea_b1.wr W5
    replace V_b1 : Arv Z h5 b1 k1 .char (5 : Int32) [(.int (99 : Int32)), (.int (108 : Int32)), (.int (0 : Int32)), (.int (0 : Int32)), (.int (0 : Int32))] (.int (0 : Int32)) := V5
    show own_Go p e below s _ _ _ (T5.setTop (mkF m 24 #[iv p1, iv (0 : Int32), .unset, .unset, .unset, .unset] [(.ref b1)]))
    refine own_go (fun zt zk => (XS.dup X5.here hx rfl (hb hby at_24) rfl rfl (XS.iconst X5.here hx rfl (hb hby at_25) (XS.bipush X5.here hx rfl (hb hby at_26) zk)))) ?_
    show own_Go p e below s _ _ _ (T5.setTop (mkF m 28 #[iv p1, iv (0 : Int32), .unset, .unset, .unset, .unset] [(.int (97 : Int32)), (.int (2 : Int32)), (.ref b1), (.ref b1)]))
    obtain ⟨cl6, Ar6, q6, Sz6, Nz6, Ha6, Ga6⟩ := id V_b1
    have hin6 : ¬ ((2 : Int32) < 0 ∨ cl6.slots.size ≤ ((2 : Int32)).toNatClampNeg) := inb_of Sz6 ⟨by decide, by decide⟩
    obtain ⟨T7, h7, X7, e7, W7, st7⟩ := stC X5 hx hZ e5 Ar6 (j := (2 : Int32)) hin6 (g := (mkF m 28 #[iv p1, iv (0 : Int32), .unset, .unset, .unset, .unset] [(.int (97 : Int32)), (.int (2 : Int32)), (.ref b1), (.ref b1)])) rfl rfl (hb hby at_28)
    refine own_go st7 ?_
    replace W7 : Wr h5 h7 b1 _ (.int (97 : Int32)) := W7
    have V7 := Arv.set Ar6 q6 Sz6 Nz6 Ha6 Ga6 (by decide) W7 2 rfl (Nat.le_of_ble_eq_true rfl)
    have N7 := Fr.snoc X7 N5 g_b1
    replace O := O.wr W7 g_b1
    replace Kp := Kp.wr W7 (Or.inr sz_b1)
    replace Ea_b1 := Ea_b1.wr W7
    replace V_b1 : Arv Z h7 b1 k1 .char (5 : Int32) [(.int (99 : Int32)), (.int (108 : Int32)), (.int (97 : Int32)), (.int (0 : Int32)), (.int (0 : Int32))] (.int (0 : Int32)) := V7
    show own_Go p e below s _ _ _ (T7.setTop (mkF m 29 #[iv p1, iv (0 : Int32), .unset, .unset, .unset, .unset] [(.ref b1)]))
    refine own_go (fun zt zk => (XS.dup X7.here hx rfl (hb hby at_29) rfl rfl (XS.iconst X7.here hx rfl (hb hby at_30) (XS.bipush X7.here hx rfl (hb hby at_31) zk)))) ?_
    show own_Go p e below s _ _ _ (T7.setTop (mkF m 33 #[iv p1, iv (0 : Int32), .unset, .unset, .unset, .unset] [(.int (115 : Int32)), (.int (3 : Int32)), (.ref b1), (.ref b1)]))
    obtain ⟨cl8, Ar8, q8, Sz8, Nz8, Ha8, Ga8⟩ := id V_b1
    have hin8 : ¬ ((3 : Int32) < 0 ∨ cl8.slots.size ≤ ((3 : Int32)).toNatClampNeg) := inb_of Sz8 ⟨by decide, by decide⟩
    obtain ⟨T9, h9, X9, e9, W9, st9⟩ := stC X7 hx hZ e7 Ar8 (j := (3 : Int32)) hin8 (g := (mkF m 33 #[iv p1, iv (0 : Int32), .unset, .unset, .unset, .unset] [(.int (115 : Int32)), (.int (3 : Int32)), (.ref b1), (.ref b1)])) rfl rfl (hb hby at_33)
    refine own_go st9 ?_
    replace W9 : Wr h7 h9 b1 _ (.int (115 : Int32)) := W9
    have V9 := Arv.set Ar8 q8 Sz8 Nz8 Ha8 Ga8 (by decide) W9 3 rfl (Nat.le_of_ble_eq_true rfl)
    have N9 := Fr.snoc X9 N7 g_b1
    replace O := O.wr W9 g_b1
    replace Kp := Kp.wr W9 (Or.inr sz_b1)
    replace Ea_b1 := Ea_b1.wr W9
    replace V_b1 : Arv Z h9 b1 k1 .char (5 : Int32) [(.int (99 : Int32)), (.int (108 : Int32)), (.int (97 : Int32)), (.int (115 : Int32)), (.int (0 : Int32))] (.int (0 : Int32)) := V9
    show own_Go p e below s _ _ _ (T9.setTop (mkF m 34 #[iv p1, iv (0 : Int32), .unset, .unset, .unset, .unset] [(.ref b1)]))
    refine own_go (fun zt zk => (XS.dup X9.here hx rfl (hb hby at_34) rfl rfl (XS.iconst X9.here hx rfl (hb hby at_35) (XS.bipush X9.here hx rfl (hb hby at_36) zk)))) ?_
    show own_Go p e below s _ _ _ (T9.setTop (mkF m 38 #[iv p1, iv (0 : Int32), .unset, .unset, .unset, .unset] [(.int (115 : Int32)), (.int (4 : Int32)), (.ref b1), (.ref b1)]))
    obtain ⟨cl10, Ar10, q10, Sz10, Nz10, Ha10, Ga10⟩ := id V_b1
    have hin10 : ¬ ((4 : Int32) < 0 ∨ cl10.slots.size ≤ ((4 : Int32)).toNatClampNeg) := inb_of Sz10 ⟨by decide, by decide⟩
    obtain ⟨T11, h11, X11, e11, W11, st11⟩ := stC X9 hx hZ e9 Ar10 (j := (4 : Int32)) hin10 (g := (mkF m 38 #[iv p1, iv (0 : Int32), .unset, .unset, .unset, .unset] [(.int (115 : Int32)), (.int (4 : Int32)), (.ref b1), (.ref b1)])) rfl rfl (hb hby at_38)
    refine own_go st11 ?_
    replace W11 : Wr h9 h11 b1 _ (.int (115 : Int32)) := W11
    have V11 := Arv.set Ar10 q10 Sz10 Nz10 Ha10 Ga10 (by decide) W11 4 rfl (Nat.le_of_ble_eq_true rfl)
    have N11 := Fr.snoc X11 N9 g_b1
    replace O := O.wr W11 g_b1
    replace Kp := Kp.wr W11 (Or.inr sz_b1)
    replace Ea_b1 := Ea_b1.wr W11
    replace V_b1 : Arv Z h11 b1 k1 .char (5 : Int32) [(.int (99 : Int32)), (.int (108 : Int32)), (.int (97 : Int32)), (.int (115 : Int32)), (.int (115 : Int32))] (.int (0 : Int32)) := V11
    show own_Go p e below s _ _ _ (T11.setTop (mkF m 39 #[iv p1, iv (0 : Int32), .unset, .unset, .unset, .unset] [(.ref b1)]))
    refine own_go (fun zt zk => (XS.astoreN X11.here hx rfl (hb hby at_39) rfl rfl (l' := #[iv p1, iv (0 : Int32), rv b1, .unset, .unset, .unset]) rfl zk)) ?_
    show own_Go p e below s _ _ _ (T11.setTop (mkF m 40 #[iv p1, iv (0 : Int32), rv b1, .unset, .unset, .unset] []))
    obtain ⟨T12, X12, e12, st12⟩ := getS2 X11 hx hZ hown (host := "") (Or.inl (hw _ (List.mem_of_getElem? (i := 2) rfl))) Via.refl e11 (S_o_CLASS.ext O.2) (g := (mkF m 40 #[iv p1, iv (0 : Int32), rv b1, .unset, .unset, .unset] [])) rfl (hb hby at_40)
    refine own_go st12 ?_
    show own_Go p e below s _ _ _ (T12.setTop (mkF m 43 #[iv p1, iv (0 : Int32), rv b1, .unset, .unset, .unset] [(.ref o_CLASS)]))
    refine own_go (fun zt zk => (XS.astoreN X12.here hx rfl (hb hby at_43) rfl rfl (l' := #[iv p1, iv (0 : Int32), rv b1, rv o_CLASS, .unset, .unset]) rfl (XS.goto X12.here hx rfl (pc0 := 44) (pc' := 253) rfl (hb hby at_44) (by decide) (by decide) zk))) ?_
    show own_Go p e below s _ _ _ (T12.setTop (mkF m 253 #[iv p1, iv (0 : Int32), rv b1, rv o_CLASS, .unset, .unset] []))
    obtain ⟨T13, h13, X13, e13, E13, A13, D13, -, st13⟩ := newO X12 hx hZ hown (hw _ (List.mem_of_getElem? (i := 5) rfl)) (hw _ (List.mem_of_getElem? (i := 6) rfl)) (hw _ (List.mem_of_getElem? (i := 7) rfl)) e12 (g := (mkF m 253 #[iv p1, iv (0 : Int32), rv b1, rv o_CLASS, .unset, .unset] [])) rfl (hb hby at_253) (by decide) (by decide)
    obtain ⟨b13, g13⟩ : ∃ z, z = h11.size := ⟨_, rfl⟩
    rw [← g13] at A13 D13 st13
    refine own_go st13 ?_
    have ne_o_CLASS_b13 : o_CLASS ≠ b13 := Nat.ne_of_lt (Nat.lt_of_lt_of_le (Ex_o_CLASS.ext O.2).lt (Nat.le_of_eq g13.symm))
    have ne_o__VALUES_b13 : o__VALUES ≠ b13 := Nat.ne_of_lt (Nat.lt_of_lt_of_le (Ex_o__VALUES.ext O.2).lt (Nat.le_of_eq g13.symm))
    have ne_o_OBJECT_PROPERTY_b13 : o_OBJECT_PROPERTY ≠ b13 := Nat.ne_of_lt (Nat.lt_of_lt_of_le (Ex_o_OBJECT_PROPERTY.ext O.2).lt (Nat.le_of_eq g13.symm))
    have ne_o_DATA_PROPERTY_b13 : o_DATA_PROPERTY ≠ b13 := Nat.ne_of_lt (Nat.lt_of_lt_of_le (Ex_o_DATA_PROPERTY.ext O.2).lt (Nat.le_of_eq g13.symm))
    have ne_o_CLASS_label_b13 : o_CLASS_label ≠ b13 := Nat.ne_of_lt (Nat.lt_of_lt_of_le (Ex_o_CLASS_label.ext O.2).lt (Nat.le_of_eq g13.symm))
    have ne_o_OBJECT_PROPERTY_label_b13 : o_OBJECT_PROPERTY_label ≠ b13 := Nat.ne_of_lt (Nat.lt_of_lt_of_le (Ex_o_OBJECT_PROPERTY_label.ext O.2).lt (Nat.le_of_eq g13.symm))
    have ne_o_DATA_PROPERTY_label_b13 : o_DATA_PROPERTY_label ≠ b13 := Nat.ne_of_lt (Nat.lt_of_lt_of_le (Ex_o_DATA_PROPERTY_label.ext O.2).lt (Nat.le_of_eq g13.symm))
    have ne_o_CLASS_label_value_b13 : o_CLASS_label_value ≠ b13 := Nat.ne_of_lt (Nat.lt_of_lt_of_le (V_o_CLASS_label_value.ext O.2).lt (Nat.le_of_eq g13.symm))
    have ne_o_OBJECT_PROPERTY_label_value_b13 : o_OBJECT_PROPERTY_label_value ≠ b13 := Nat.ne_of_lt (Nat.lt_of_lt_of_le (V_o_OBJECT_PROPERTY_label_value.ext O.2).lt (Nat.le_of_eq g13.symm))
    have ne_o_DATA_PROPERTY_label_value_b13 : o_DATA_PROPERTY_label_value ≠ b13 := Nat.ne_of_lt (Nat.lt_of_lt_of_le (V_o_DATA_PROPERTY_label_value.ext O.2).lt (Nat.le_of_eq g13.symm))
    have ne_b1_b13 : b1 ≠ b13 := Nat.ne_of_lt (Nat.lt_of_lt_of_le V_b1.lt (Nat.le_of_eq g13.symm))
    have sz_b13 : h0.size ≤ b13 := Nat.le_trans Kp.1 (Nat.le_of_eq g13.symm)
    have g_b13 : n0 ≤ b13 := Nat.le_trans Z0 sz_b13
    replace O := O.ext E13
    replace Kp := Kp.ext E13
    replace V_b1 := V_b1.ext E13
    replace Ea_b1 := Ea_b1.ext E13
    have Ex_b13 := A13
    have F_coder_b13 : Fld Z h13 b13 "java/lang/String" "coder" "B" (.int (0 : Int32)) := D13 (Or.inr (hw _ (List.mem_of_getElem? (i := 31) rfl))) (ty := .byte) (by decide)
    have F_value_b13 : Fld Z h13 b13 "java/lang/String" "value" "[B" .null := D13 (Or.inr (hw _ (List.mem_of_getElem? (i := 33) rfl))) (ty := (.array .byte)) (by decide)
    show own_Go p e below s _ _ _ (T13.setTop (mkF m 256 #[iv p1, iv (0 : Int32), rv b1, rv o_CLASS, .unset, .unset] [(.ref b13)]))
    refine own_go (fun zt zk => (XS.dup X13.here hx rfl (hb hby at_256) rfl rfl (XS.aloadN X13.here hx rfl (hb hby at_257) rfl rfl zk))) ?_
    show own_Go p e below s _ _ _ (T13.setTop (mkF m 258 #[iv p1, iv (0 : Int32), rv b1, rv o_CLASS, .unset, .unset] [(.ref b1), (.ref b13), (.ref b13)]))
    obtain ⟨_, _, ⟨T14, L14, k14, n14⟩, -, X14, ⟨Lc14, hQ14, l14, y14, z14⟩, st14⟩ := X13.specialBack hx (y := (⟨"java/lang/String", "<init>", "([C)V"⟩ : MethodName)) rfl hown (mvT hZ (hw _ (List.mem_of_getElem? (i := 8) rfl))) (mvT hZ (hw _ (List.mem_of_getElem? (i := 9) rfl))) (mvT hZ (hw _ (List.mem_of_getElem? (i := 10) rfl))) (by decide) (StrChars.Road.backV (W := 1) hZ (own_hnew Z a0 hw) (kI := 4) (hw _ (List.mem_of_getElem? (i := 6) rfl)) (cs := [(99 : Int32), (108 : Int32), (97 : Int32), (115 : Int32), (115 : Int32)]) (bs := [(99 : Int32), (108 : Int32), (97 : Int32), (115 : Int32), (115 : Int32)]) (n := 5) g_b13 (Nat.le_trans Z0 Kp.1) Ex_b13 F_value_b13 F_coder_b13 V_b1 (S_o_COMPACT_STRINGS.ext O.2) nz_o_COMPACT_STRINGS rfl rfl (by decide) (by decide) (own_ac (by decide) (own_ac (by decide) (own_ac (by decide) (own_ac (by decide) (own_ac (by decide) own_an))))) rfl (by decide) (by decide)) (g := (mkF m 258 #[iv p1, iv (0 : Int32), rv b1, rv o_CLASS, .unset, .unset] [(.ref b1), (.ref b13), (.ref b13)])) rfl (by rw [hml]; rfl) (Steps.refl _) (a := b13) (argsL := [(.ref b1)]) (rest := [(.ref b13)]) (lenOf own_pd___C_V rfl) rfl (by show 2 * 0 + _ ≤ _; exact Nat.le_of_eq rfl) (hb hby at_258) (fun _ _ => ⟨rfl, e13, (by decide : 2 + 1 ≤ _), (by decide : 9 + 5 ≤ _)⟩)
    dsimp only [Pt.U, Pt.locs, Pt.cells, Pt.slots] at X14 l14 y14 z14 st14 hQ14
    subst l14 y14 z14
    obtain ⟨rfl, Nq14, K14, -, Fc14, t14, kb14, -, sz14, -, Fv14, Vt14⟩ := hQ14
    have sz_t14 : h0.size ≤ t14 := Nat.le_trans Kp.1 sz14
    have g_t14 : n0 ≤ t14 := Nat.le_trans Z0 sz_t14
    have ne_b1_t14 : b1 ≠ t14 := Nat.ne_of_lt (Nat.lt_of_lt_of_le V_b1.lt sz14)
    have ne_b13_t14 : b13 ≠ t14 := Nat.ne_of_lt (Nat.lt_of_lt_of_le Ex_b13.lt sz14)
    have N14 := Fr.app N11 Nq14
    refine own_go (fun zt zk => st14.trans zk) ?_
    replace O := O.keep K14 (allS g_b13 all0)
    replace Kp := Kp.trans K14 (allS (Or.inr sz_b13) all0)
    replace V_b1 := V_b1.keep K14 (ninS ne_b1_b13 nin0)
    replace Ea_b1 := Ea_b1.keep K14
    replace Ex_b13 := Ex_b13.keep K14
    show own_Go p e below s _ _ _ (T14.setTop (mkF m 261 #[iv p1, iv (0 : Int32), rv b1, rv o_CLASS, .unset, .unset] [(.ref b13)]))
    refine own_go (fun zt zk => (XS.astore X14.here hx rfl (hb hby at_261) rfl rfl (l' := #[iv p1, iv (0 : Int32), rv b1, rv o_CLASS, rv b13, .unset]) rfl (XS.aload X14.here hx rfl (hb hby at_263) rfl rfl zk))) ?_
    show own_Go p e below s _ _ _ (T14.setTop (mkF m 265 #[iv p1, iv (0 : Int32), rv b1, rv o_CLASS, rv b13, .unset] [(.ref b13)]))
    obtain ⟨_, _, ⟨T15, L15, k15, n15⟩, -, X15, ⟨Lc15, hQ15, l15, y15, z15⟩, st15⟩ := Jvm.LawKit.callS X14 hx (y := (⟨"com/example/boxwright/boxwright/Kind", "ofLabel", "(Ljava/lang/String;)Lcom/example/boxwright/boxwright/Kind;"⟩ : MethodName)) hown (mvT hZ (hw _ (List.mem_of_getElem? (i := 34) rfl))) (mvT hZ (hw _ (List.mem_of_getElem? (i := 35) rfl))) (mvT hZ (hw _ (List.mem_of_getElem? (i := 3) rfl))) (mvT hZ (hw _ (List.mem_of_getElem? (i := 36) rfl))) (by decide) (backOf (W := 0) (own_rof0 l Z a0 hw [] b13 t14 kb14 o_COMPACT_STRINGS o__VALUES k_o__VALUES o_CLASS o_CLASS_label o_CLASS_label_value k_o_CLASS_label_value o_OBJECT_PROPERTY o_OBJECT_PROPERTY_label o_OBJECT_PROPERTY_label_value k_o_OBJECT_PROPERTY_label_value o_DATA_PROPERTY o_DATA_PROPERTY_label o_DATA_PROPERTY_label_value k_o_DATA_PROPERTY_label_value T14.heap n0 (Nat.le_trans Z0 Kp.1) O S_o_COMPACT_STRINGS S_o__VALUES V_o__VALUES Ex_o__VALUES Ex_o_CLASS F_o_CLASS_label Ex_o_CLASS_label F_o_CLASS_label_coder F_o_CLASS_label_value V_o_CLASS_label_value Ex_o_OBJECT_PROPERTY F_o_OBJECT_PROPERTY_label Ex_o_OBJECT_PROPERTY_label F_o_OBJECT_PROPERTY_label_coder F_o_OBJECT_PROPERTY_label_value V_o_OBJECT_PROPERTY_label_value Ex_o_DATA_PROPERTY F_o_DATA_PROPERTY_label Ex_o_DATA_PROPERTY_label F_o_DATA_PROPERTY_label_coder F_o_DATA_PROPERTY_label_value V_o_DATA_PROPERTY_label_value Ex_b13 Fv14 Fc14 Vt14 nz_o_COMPACT_STRINGS) hZ (hw _ (List.mem_of_getElem? (i := 36) rfl)) (hw _ (List.mem_of_getElem? (i := 3) rfl)) (by decide) (by decide)) (g := (mkF m 265 #[iv p1, iv (0 : Int32), rv b1, rv o_CLASS, rv b13, .unset] [(.ref b13)])) rfl (by rw [hml]; rfl) (argsL := [(.ref b13)]) (rest := []) (lenOf own_pd__Ljava_lang_String__Lcom_example_boxwright_boxwright_Kind_ rfl) rfl (by show 2 * 0 + _ ≤ _; exact Nat.le_of_eq rfl) (hb hby at_265) (fun _ _ => ⟨rfl, rfl, (by decide : 3 + 1 ≤ _), (by decide : 14 + 3 ≤ _)⟩)
    dsimp only [Pt.U, Pt.locs, Pt.cells, Pt.slots] at X15 l15 y15 z15 st15 hQ15
    subst l15 y15 z15
    obtain ⟨rfl, Nq15, K15⟩ := hQ15
    have N15 := Fr.app N14 Nq15
    refine own_go st15 ?_
    replace O := O.keep K15 all0
    replace Kp := Kp.trans K15 all0
    replace V_b1 := V_b1.keep K15 nin0
    replace Ea_b1 := Ea_b1.keep K15
    replace Ex_b13 := Ex_b13.keep K15
    replace Fc14 := Fc14.keep K15 nin0
    replace Fv14 := Fv14.keep K15 nin0
    replace Vt14 := Vt14.keep K15 nin0
    show own_Go p e below s _ _ _ (T15.setTop (mkF m 268 #[iv p1, iv (0 : Int32), rv b1, rv o_CLASS, rv b13, .unset] [(.ref o_CLASS)]))
    refine own_go (fun zt zk => (XS.astore X15.here hx rfl (hb hby at_268) rfl rfl (l' := #[iv p1, iv (0 : Int32), rv b1, rv o_CLASS, rv b13, rv o_CLASS]) rfl (XS.aload X15.here hx rfl (hb hby at_270) rfl rfl (XS.aloadN X15.here hx rfl (hb hby at_272) rfl rfl zk)))) ?_
    show own_Go p e below s _ _ _ (T15.setTop (mkF m 273 #[iv p1, iv (0 : Int32), rv b1, rv o_CLASS, rv b13, rv o_CLASS] [(.ref o_CLASS), (.ref o_CLASS)]))
    refine own_go (fun zt zk => Jvm.RoadKit.acmp (g := (mkF m 273 #[iv p1, iv (0 : Int32), rv b1, rv o_CLASS, rv b13, rv o_CLASS] [(.ref o_CLASS), (.ref o_CLASS)])) X15 hx rfl rfl rfl (pc0 := 273) (pc' := 276) (same := true) rfl (hb hby at_273) rfl (decide_eq_true rfl) (by decide) (by decide) zk) ?_
    show own_Go p e below s _ _ _ (T15.setTop (mkF m 276 #[iv p1, iv (0 : Int32), rv b1, rv o_CLASS, rv b13, rv o_CLASS] []))
    refine own_go (fun zt zk => (XS.aload X15.here hx rfl (hb hby at_276) rfl rfl zk)) ?_
    show own_Go p e below s _ _ _ (T15.setTop (mkF m 278 #[iv p1, iv (0 : Int32), rv b1, rv o_CLASS, rv b13, rv o_CLASS] [(.ref o_CLASS)]))
    obtain ⟨cq16, kq16, qa16, qb16, qc16⟩ := isOf hZ rfl (Ex_o_CLASS.ext O.2)
    obtain ⟨_, _, ⟨T16, L16, k16, n16⟩, -, X16, ⟨Lc16, hQ16, l16, y16, z16⟩, st16⟩ := X15.virtualBack hx (y := (⟨"com/example/boxwright/boxwright/Kind", "label", "()Ljava/lang/String;"⟩ : MethodName)) (z := (⟨"com/example/boxwright/boxwright/Kind", "label", "()Ljava/lang/String;"⟩ : MethodName)) hown (mvT hZ (hw _ (List.mem_of_getElem? (i := 66) rfl))) (mvT hZ (hw _ (List.mem_of_getElem? (i := 67) rfl))) (notFace_of_selects (args := #[]) (mvT hZ (hw _ (List.mem_of_getElem? (i := 69) rfl)))) (mvT hZ (hw _ (List.mem_of_getElem? (i := 69) rfl))) (mvT hZ (hw _ (List.mem_of_getElem? (i := 68) rfl))) (by decide) (backOf (W := 0) (own_rlabel l Z a0 hw [] o_CLASS o_CLASS_label T15.heap n0 (Nat.le_trans Z0 Kp.1) (F_o_CLASS_label.ext O.2)) hZ (hw _ (List.mem_of_getElem? (i := 70) rfl)) (hw _ (List.mem_of_getElem? (i := 3) rfl)) (by decide) (by decide)) qa16 qc16 (g := (mkF m 278 #[iv p1, iv (0 : Int32), rv b1, rv o_CLASS, rv b13, rv o_CLASS] [(.ref o_CLASS)])) rfl (by rw [hml]; rfl) (Steps.refl _) (argsL := []) (rest := []) (lenOf own_pd___Ljava_lang_String_ rfl) rfl (by show 2 * 0 + _ ≤ _; exact Nat.le_of_eq rfl) (hb hby at_278) (fun _ _ => ⟨rfl, rfl, (by decide : 4 + 0 ≤ _), (by decide : 17 + 0 ≤ _)⟩)
    dsimp only [Pt.U, Pt.locs, Pt.cells, Pt.slots] at X16 l16 y16 z16 st16 hQ16
    subst l16 y16 z16
    obtain ⟨rfl, Nq16, e16⟩ := hQ16
    have N16 := Fr.app N15 Nq16
    refine own_go (fun zt zk => st16.trans zk) ?_
    show own_Go p e below s _ _ _ (T16.setTop (mkF m 281 #[iv p1, iv (0 : Int32), rv b1, rv o_CLASS, rv b13, rv o_CLASS] [(.ref o_CLASS_label)]))
    refine own_go (fun zt zk => (XS.aload X16.here hx rfl (hb hby at_281) rfl rfl zk)) ?_
    show own_Go p e below s _ _ _ (T16.setTop (mkF m 283 #[iv p1, iv (0 : Int32), rv b1, rv o_CLASS, rv b13, rv o_CLASS] [(.ref b13), (.ref o_CLASS_label)]))
    obtain ⟨cq17, kq17, qa17, qb17, qc17⟩ := isOf hZ e16 (Ex_o_CLASS_label.ext O.2)
    obtain ⟨_, _, ⟨T17, L17, k17, n17⟩, -, X17, ⟨Lc17, hQ17, l17, y17, z17⟩, st17⟩ := X16.virtualBack hx (y := (⟨"java/lang/String", "equals", "(Ljava/lang/Object;)Z"⟩ : MethodName)) (z := (⟨"java/lang/String", "equals", "(Ljava/lang/Object;)Z"⟩ : MethodName)) hown (mvT hZ (hw _ (List.mem_of_getElem? (i := 71) rfl))) (mvT hZ (hw _ (List.mem_of_getElem? (i := 57) rfl))) (notFace_of_selects (args := #[]) (mvT hZ (hw _ (List.mem_of_getElem? (i := 59) rfl)))) (mvT hZ (hw _ (List.mem_of_getElem? (i := 59) rfl))) (mvT hZ (hw _ (List.mem_of_getElem? (i := 58) rfl))) (by decide) (backOf (W := 0) (own_req l Z a0 hw [] o_CLASS_label b13 o_COMPACT_STRINGS o_CLASS_label_value t14 k_o_CLASS_label_value kb14 (5 : Int32) (5 : Int32) [(99 : Int32), (108 : Int32), (97 : Int32), (115 : Int32), (115 : Int32)] [(99 : Int32), (108 : Int32), (97 : Int32), (115 : Int32), (115 : Int32)] T15.heap n0 (Nat.le_trans Z0 Kp.1) O S_o_COMPACT_STRINGS (Ex_o_CLASS_label.ext O.2) (F_o_CLASS_label_value.ext O.2) (F_o_CLASS_label_coder.ext O.2) (V_o_CLASS_label_value.ext O.2) Ex_b13 Fv14 Fc14 Vt14 nz_o_COMPACT_STRINGS rfl rfl) hZ (hw _ (List.mem_of_getElem? (i := 60) rfl)) (hw _ (List.mem_of_getElem? (i := 7) rfl)) (by decide) (by decide)) qa17 qc17 (g := (mkF m 283 #[iv p1, iv (0 : Int32), rv b1, rv o_CLASS, rv b13, rv o_CLASS] [(.ref b13), (.ref o_CLASS_label)])) rfl (by rw [hml]; rfl) (Steps.refl _) (argsL := [(.ref b13)]) (rest := []) (lenOf own_pd__Ljava_lang_Object__Z rfl) rfl (by show 2 * 0 + _ ≤ _; exact Nat.le_of_eq rfl) (hb hby at_283) (fun _ _ => ⟨rfl, e16, (by decide : 4 + 0 ≤ _), (by decide : 17 + 0 ≤ _)⟩)
    dsimp only [Pt.U, Pt.locs, Pt.cells, Pt.slots] at X17 l17 y17 z17 st17 hQ17
    subst l17 y17 z17
    obtain ⟨hv17, Nq17, e17⟩ := hQ17
    rw [show own_eqv _ _ = (1 : Int32) from if_pos rfl] at hv17
    subst hv17
    have N17 := Fr.app N16 Nq17
    refine own_go (fun zt zk => st17.trans zk) ?_
    show own_Go p e below s _ _ _ (T17.setTop (mkF m 286 #[iv p1, iv (0 : Int32), rv b1, rv o_CLASS, rv b13, rv o_CLASS] [(.int (1 : Int32))]))
    refine own_go (fun zt zk => (XS.ifNo X17.here hx rfl (hb hby at_286) rfl ((if0 _ _).trans (feq ((by decide) : ¬ ((1 : Int32) = (0 : Int32)))).1) (XS.iconst X17.here hx rfl (hb hby at_289) (XS.goto X17.here hx rfl (pc0 := 290) (pc' := 294) rfl (hb hby at_290) (by decide) (by decide) zk)))) ?_
    show own_Go p e below s _ _ _ (T17.setTop (mkF m 294 #[iv p1, iv (0 : Int32), rv b1, rv o_CLASS, rv b13, rv o_CLASS] [(.int (1 : Int32))]))
    exact own_fin X17 Bd.notSynchronized (fun h => by rw [Bd.returns] at h; cases h) (fun fs hr => retN X17 hx (t := .boolean) Bd.returns (by simp) (hb hby at_294) hr) (by rw [e17]; exact ⟨rfl, N17⟩) (by decide) (by decide)
  · by_cases hk1_k : k = (1 : Int32)
    · subst hk1_k
      show own_Go p e below s _ _ _ (s₁.setTop (mkF m 7 #[iv p1, iv (1 : Int32), .unset, .unset, .unset, .unset] []))
      refine own_go (fun zt zk => (XS.iloadN X0.here hx rfl (hb hby at_7) rfl (XS.ifYes X0.here hx rfl (pc0 := 8) (pc' := 47) rfl (hb hby at_8) rfl ((if0 _ _).trans (feq ((by decide) : ¬ ((1 : Int32) = (0 : Int32)))).2) (by decide) (by decide) (XS.iloadN X0.here hx rfl (hb hby at_47) rfl (XS.iconst X0.here hx rfl (hb hby at_48) (XS.icmpNo X0.here hx rfl (hb hby at_49) rfl (teq (rfl : (1 : Int32) = (1 : Int32))).2 (XS.bipush X0.here hx rfl (hb hby at_52) zk))))))) ?_
      show own_Go p e below s _ _ _ (s₁.setTop (mkF m 54 #[iv p1, iv (1 : Int32), .unset, .unset, .unset, .unset] [(.int (15 : Int32))]))
      obtain ⟨T18, h18, k18, X18, e18, E18, A18, Ea18, st18⟩ := newPE X0 hx hZ (hw _ (List.mem_of_getElem? (i := 1) rfl)) e0 (g := (mkF m 54 #[iv p1, iv (1 : Int32), .unset, .unset, .unset, .unset] [(.int (15 : Int32))])) rfl (hb hby at_54) rfl (by decide) (cap := 15) (by decide) (by decide) (by decide) (by decide) (ad := "[C") (by decide)
      obtain ⟨b18, g18⟩ : ∃ z, z = h0.size := ⟨_, rfl⟩
      rw [← g18] at A18 Ea18 st18
      refine own_go st18 ?_
      have ne_o_CLASS_b18 : o_CLASS ≠ b18 := Nat.ne_of_lt (Nat.lt_of_lt_of_le (Ex_o_CLASS.ext O.2).lt (Nat.le_of_eq g18.symm))
      have ne_o__VALUES_b18 : o__VALUES ≠ b18 := Nat.ne_of_lt (Nat.lt_of_lt_of_le (Ex_o__VALUES.ext O.2).lt (Nat.le_of_eq g18.symm))
      have ne_o_OBJECT_PROPERTY_b18 : o_OBJECT_PROPERTY ≠ b18 := Nat.ne_of_lt (Nat.lt_of_lt_of_le (Ex_o_OBJECT_PROPERTY.ext O.2).lt (Nat.le_of_eq g18.symm))
      have ne_o_DATA_PROPERTY_b18 : o_DATA_PROPERTY ≠ b18 := Nat.ne_of_lt (Nat.lt_of_lt_of_le (Ex_o_DATA_PROPERTY.ext O.2).lt (Nat.le_of_eq g18.symm))
      have ne_o_CLASS_label_b18 : o_CLASS_label ≠ b18 := Nat.ne_of_lt (Nat.lt_of_lt_of_le (Ex_o_CLASS_label.ext O.2).lt (Nat.le_of_eq g18.symm))
      have ne_o_OBJECT_PROPERTY_label_b18 : o_OBJECT_PROPERTY_label ≠ b18 := Nat.ne_of_lt (Nat.lt_of_lt_of_le (Ex_o_OBJECT_PROPERTY_label.ext O.2).lt (Nat.le_of_eq g18.symm))
      have ne_o_DATA_PROPERTY_label_b18 : o_DATA_PROPERTY_label ≠ b18 := Nat.ne_of_lt (Nat.lt_of_lt_of_le (Ex_o_DATA_PROPERTY_label.ext O.2).lt (Nat.le_of_eq g18.symm))
      have ne_o_CLASS_label_value_b18 : o_CLASS_label_value ≠ b18 := Nat.ne_of_lt (Nat.lt_of_lt_of_le (V_o_CLASS_label_value.ext O.2).lt (Nat.le_of_eq g18.symm))
      have ne_o_OBJECT_PROPERTY_label_value_b18 : o_OBJECT_PROPERTY_label_value ≠ b18 := Nat.ne_of_lt (Nat.lt_of_lt_of_le (V_o_OBJECT_PROPERTY_label_value.ext O.2).lt (Nat.le_of_eq g18.symm))
      have ne_o_DATA_PROPERTY_label_value_b18 : o_DATA_PROPERTY_label_value ≠ b18 := Nat.ne_of_lt (Nat.lt_of_lt_of_le (V_o_DATA_PROPERTY_label_value.ext O.2).lt (Nat.le_of_eq g18.symm))
      have sz_b18 : h0.size ≤ b18 := Nat.le_trans Kp.1 (Nat.le_of_eq g18.symm)
      have g_b18 : n0 ≤ b18 := Nat.le_trans Z0 sz_b18
      replace O := O.ext E18
      replace Kp := Kp.ext E18
      have V_b18 : Arv Z h18 b18 k18 .char (15 : Int32) [(.int (0 : Int32)), (.int (0 : Int32)), (.int (0 : Int32)), (.int (0 : Int32)), (.int (0 : Int32)), (.int (0 : Int32)), (.int (0 : Int32)), (.int (0 : Int32)), (.int (0 : Int32)), (.int (0 : Int32)), (.int (0 : Int32)), (.int (0 : Int32)), (.int (0 : Int32)), (.int (0 : Int32)), (.int (0 : Int32))] (.int (0 : Int32)) := (Arv.new A18 (by decide)).pad (pad_rep [] (.int (0 : Int32)) 15)
      have Ea_b18 := Ea18
      show own_Go p e below s _ _ _ (T18.setTop (mkF m 56 #[iv p1, iv (1 : Int32), .unset, .unset, .unset, .unset] [(.ref b18)]))
      refine own_go (fun zt zk => (XS.dup X18.here hx rfl (hb hby at_56) rfl rfl (XS.iconst X18.here hx rfl (hb hby at_57) (XS.bipush X18.here hx rfl (hb hby at_58) zk)))) ?_
      show own_Go p e below s _ _ _ (T18.setTop (mkF m 60 #[iv p1, iv (1 : Int32), .unset, .unset, .unset, .unset] [(.int (111 : Int32)), (.int (0 : Int32)), (.ref b18), (.ref b18)]))
      obtain ⟨cl19, Ar19, q19, Sz19, Nz19, Ha19, Ga19⟩ := id V_b18
      have hin19 : ¬ ((0 : Int32) < 0 ∨ cl19.slots.size ≤ ((0 : Int32)).toNatClampNeg) := inb_of Sz19 ⟨by decide, by decide⟩
      obtain ⟨T20, h20, X20, e20, W20, st20⟩ := stC X18 hx hZ e18 Ar19 (j := (0 : Int32)) hin19 (g := (mkF m 60 #[iv p1, iv (1 : Int32), .unset, .unset, .unset, .unset] [(.int (111 : Int32)), (.int (0 : Int32)), (.ref b18), (.ref b18)])) rfl rfl (hb hby at_60)
      refine own_go st20 ?_
      replace W20 : Wr h18 h20 b18 _ (.int (111 : Int32)) := W20
      have V20 := Arv.set Ar19 q19 Sz19 Nz19 Ha19 Ga19 (by decide) W20 0 rfl (Nat.le_of_ble_eq_true rfl)
      have N20 := Fr.snoc X20 N0 g_b18
      replace O := O.wr W20 g_b18
      replace Kp := Kp.wr W20 (Or.inr sz_b18)
      replace Ea_b18 := Ea_b18.wr W20
      replace V_b18 : Arv Z h20 b18 k18 .char (15 : Int32) [(.int (111 : Int32)), (.int (0 : Int32)), (.int (0 : Int32)), (.int (0 : Int32)), (.int (0 : Int32)), (.int (0 : Int32)), (.int (0 : Int32)), (.int (0 : Int32)), (.int (0 : Int32)), (.int (0 : Int32)), (.int (0 : Int32)), (.int (0 : Int32)), (.int (0 : Int32)), (.int (0 : Int32)), (.int (0 : Int32))] (.int (0 : Int32)) := V20
      show own_Go p e below s _ _ _ (T20.setTop (mkF m 61 #[iv p1, iv (1 : Int32), .unset, .unset, .unset, .unset] [(.ref b18)]))
      refine own_go (fun zt zk => (XS.dup X20.here hx rfl (hb hby at_61) rfl rfl (XS.iconst X20.here hx rfl (hb hby at_62) (XS.bipush X20.here hx rfl (hb hby at_63) zk)))) ?_
      show own_Go p e below s _ _ _ (T20.setTop (mkF m 65 #[iv p1, iv (1 : Int32), .unset, .unset, .unset, .unset] [(.int (98 : Int32)), (.int (1 : Int32)), (.ref b18), (.ref b18)]))
      obtain ⟨cl21, Ar21, q21, Sz21, Nz21, Ha21, Ga21⟩ := id V_b18
      have hin21 : ¬ ((1 : Int32) < 0 ∨ cl21.slots.size ≤ ((1 : Int32)).toNatClampNeg) := inb_of Sz21 ⟨by decide, by decide⟩
      obtain ⟨T22, h22, X22, e22, W22, st22⟩ := stC X20 hx hZ e20 Ar21 (j := (1 : Int32)) hin21 (g := (mkF m 65 #[iv p1, iv (1 : Int32), .unset, .unset, .unset, .unset] [(.int (98 : Int32)), (.int (1 : Int32)), (.ref b18), (.ref b18)])) rfl rfl (hb hby at_65)
      refine own_go st22 ?_
      replace W22 : Wr h20 h22 b18 _ (.int (98 : Int32)) := W22
      have V22 := Arv.set Ar21 q21 Sz21 Nz21 Ha21 Ga21 (by decide) W22 1 rfl (Nat.le_of_ble_eq_true rfl)
      have N22 := Fr.snoc X22 N20 g_b18
      replace O := O.wr W22 g_b18
      replace Kp := Kp.wr W22 (Or.inr sz_b18)
      replace Ea_b18 := Ea_b18.wr W22
      replace V_b18 : Arv Z h22 b18 k18 .char (15 : Int32) [(.int (111 : Int32)), (.int (98 : Int32)), (.int (0 : Int32)), (.int (0 : Int32)), (.int (0 : Int32)), (.int (0 : Int32)), (.int (0 : Int32)), (.int (0 : Int32)), (.int (0 : Int32)), (.int (0 : Int32)), (.int (0 : Int32)), (.int (0 : Int32)), (.int (0 : Int32)), (.int (0 : Int32)), (.int (0 : Int32))] (.int (0 : Int32)) := V22
      show own_Go p e below s _ _ _ (T22.setTop (mkF m 66 #[iv p1, iv (1 : Int32), .unset, .unset, .unset, .unset] [(.ref b18)]))
      refine own_go (fun zt zk => (XS.dup X22.here hx rfl (hb hby at_66) rfl rfl (XS.iconst X22.here hx rfl (hb hby at_67) (XS.bipush X22.here hx rfl (hb hby at_68) zk)))) ?_
      show own_Go p e below s _ _ _ (T22.setTop (mkF m 70 #[iv p1, iv (1 : Int32), .unset, .unset, .unset, .unset] [(.int (106 : Int32)), (.int (2 : Int32)), (.ref b18), (.ref b18)]))
      obtain ⟨cl23, Ar23, q23, Sz23, Nz23, Ha23, Ga23⟩ := id V_b18
      have hin23 : ¬ ((2 : Int32) < 0 ∨ cl23.slots.size ≤ ((2 : Int32)).toNatClampNeg) := inb_of Sz23 ⟨by decide, by decide⟩
      obtain ⟨T24, h24, X24, e24, W24, st24⟩ := stC X22 hx hZ e22 Ar23 (j := (2 : Int32)) hin23 (g := (mkF m 70 #[iv p1, iv (1 : Int32), .unset, .unset, .unset, .unset] [(.int (106 : Int32)), (.int (2 : Int32)), (.ref b18), (.ref b18)])) rfl rfl (hb hby at_70)
      refine own_go st24 ?_
      replace W24 : Wr h22 h24 b18 _ (.int (106 : Int32)) := W24
      have V24 := Arv.set Ar23 q23 Sz23 Nz23 Ha23 Ga23 (by decide) W24 2 rfl (Nat.le_of_ble_eq_true rfl)
      have N24 := Fr.snoc X24 N22 g_b18
      replace O := O.wr W24 g_b18
      replace Kp := Kp.wr W24 (Or.inr sz_b18)
      replace Ea_b18 := Ea_b18.wr W24
      replace V_b18 : Arv Z h24 b18 k18 .char (15 : Int32) [(.int (111 : Int32)), (.int (98 : Int32)), (.int (106 : Int32)), (.int (0 : Int32)), (.int (0 : Int32)), (.int (0 : Int32)), (.int (0 : Int32)), (.int (0 : Int32)), (.int (0 : Int32)), (.int (0 : Int32)), (.int (0 : Int32)), (.int (0 : Int32)), (.int (0 : Int32)), (.int (0 : Int32)), (.int (0 : Int32))] (.int (0 : Int32)) := V24
      show own_Go p e below s _ _ _ (T24.setTop (mkF m 71 #[iv p1, iv (1 : Int32), .unset, .unset, .unset, .unset] [(.ref b18)]))
      refine own_go (fun zt zk => (XS.dup X24.here hx rfl (hb hby at_71) rfl rfl (XS.iconst X24.here hx rfl (hb hby at_72) (XS.bipush X24.here hx rfl (hb hby at_73) zk)))) ?_
      show own_Go p e below s _ _ _ (T24.setTop (mkF m 75 #[iv p1, iv (1 : Int32), .unset, .unset, .unset, .unset] [(.int (101 : Int32)), (.int (3 : Int32)), (.ref b18), (.ref b18)]))
      obtain ⟨cl25, Ar25, q25, Sz25, Nz25, Ha25, Ga25⟩ := id V_b18
      have hin25 : ¬ ((3 : Int32) < 0 ∨ cl25.slots.size ≤ ((3 : Int32)).toNatClampNeg) := inb_of Sz25 ⟨by decide, by decide⟩
      obtain ⟨T26, h26, X26, e26, W26, st26⟩ := stC X24 hx hZ e24 Ar25 (j := (3 : Int32)) hin25 (g := (mkF m 75 #[iv p1, iv (1 : Int32), .unset, .unset, .unset, .unset] [(.int (101 : Int32)), (.int (3 : Int32)), (.ref b18), (.ref b18)])) rfl rfl (hb hby at_75)
      refine own_go st26 ?_
      replace W26 : Wr h24 h26 b18 _ (.int (101 : Int32)) := W26
      have V26 := Arv.set Ar25 q25 Sz25 Nz25 Ha25 Ga25 (by decide) W26 3 rfl (Nat.le_of_ble_eq_true rfl)
      have N26 := Fr.snoc X26 N24 g_b18
      replace O := O.wr W26 g_b18
      replace Kp := Kp.wr W26 (Or.inr sz_b18)
      replace Ea_b18 := Ea_b18.wr W26
      replace V_b18 : Arv Z h26 b18 k18 .char (15 : Int32) [(.int (111 : Int32)), (.int (98 : Int32)), (.int (106 : Int32)), (.int (101 : Int32)), (.int (0 : Int32)), (.int (0 : Int32)), (.int (0 : Int32)), (.int (0 : Int32)), (.int (0 : Int32)), (.int (0 : Int32)), (.int (0 : Int32)), (.int (0 : Int32)), (.int (0 : Int32)), (.int (0 : Int32)), (.int (0 : Int32))] (.int (0 : Int32)) := V26
      show own_Go p e below s _ _ _ (T26.setTop (mkF m 76 #[iv p1, iv (1 : Int32), .unset, .unset, .unset, .unset] [(.ref b18)]))
      refine own_go (fun zt zk => (XS.dup X26.here hx rfl (hb hby at_76) rfl rfl (XS.iconst X26.here hx rfl (hb hby at_77) (XS.bipush X26.here hx rfl (hb hby at_78) zk)))) ?_
      show own_Go p e below s _ _ _ (T26.setTop (mkF m 80 #[iv p1, iv (1 : Int32), .unset, .unset, .unset, .unset] [(.int (99 : Int32)), (.int (4 : Int32)), (.ref b18), (.ref b18)]))
      obtain ⟨cl27, Ar27, q27, Sz27, Nz27, Ha27, Ga27⟩ := id V_b18
      have hin27 : ¬ ((4 : Int32) < 0 ∨ cl27.slots.size ≤ ((4 : Int32)).toNatClampNeg) := inb_of Sz27 ⟨by decide, by decide⟩
      obtain ⟨T28, h28, X28, e28, W28, st28⟩ := stC X26 hx hZ e26 Ar27 (j := (4 : Int32)) hin27 (g := (mkF m 80 #[iv p1, iv (1 : Int32), .unset, .unset, .unset, .unset] [(.int (99 : Int32)), (.int (4 : Int32)), (.ref b18), (.ref b18)])) rfl rfl (hb hby at_80)
      refine own_go st28 ?_
      replace W28 : Wr h26 h28 b18 _ (.int (99 : Int32)) := W28
      have V28 := Arv.set Ar27 q27 Sz27 Nz27 Ha27 Ga27 (by decide) W28 4 rfl (Nat.le_of_ble_eq_true rfl)
      have N28 := Fr.snoc X28 N26 g_b18
      replace O := O.wr W28 g_b18
      replace Kp := Kp.wr W28 (Or.inr sz_b18)
      replace Ea_b18 := Ea_b18.wr W28
      replace V_b18 : Arv Z h28 b18 k18 .char (15 : Int32) [(.int (111 : Int32)), (.int (98 : Int32)), (.int (106 : Int32)), (.int (101 : Int32)), (.int (99 : Int32)), (.int (0 : Int32)), (.int (0 : Int32)), (.int (0 : Int32)), (.int (0 : Int32)), (.int (0 : Int32)), (.int (0 : Int32)), (.int (0 : Int32)), (.int (0 : Int32)), (.int (0 : Int32)), (.int (0 : Int32))] (.int (0 : Int32)) := V28
      show own_Go p e below s _ _ _ (T28.setTop (mkF m 81 #[iv p1, iv (1 : Int32), .unset, .unset, .unset, .unset] [(.ref b18)]))
      refine own_go (fun zt zk => (XS.dup X28.here hx rfl (hb hby at_81) rfl rfl (XS.iconst X28.here hx rfl (hb hby at_82) (XS.bipush X28.here hx rfl (hb hby at_83) zk)))) ?_
      show own_Go p e below s _ _ _ (T28.setTop (mkF m 85 #[iv p1, iv (1 : Int32), .unset, .unset, .unset, .unset] [(.int (116 : Int32)), (.int (5 : Int32)), (.ref b18), (.ref b18)]))
      obtain ⟨cl29, Ar29, q29, Sz29, Nz29, Ha29, Ga29⟩ := id V_b18
      have hin29 : ¬ ((5 : Int32) < 0 ∨ cl29.slots.size ≤ ((5 : Int32)).toNatClampNeg) := inb_of Sz29 ⟨by decide, by decide⟩
      obtain ⟨T30, h30, X30, e30, W30, st30⟩ := stC X28 hx hZ e28 Ar29 (j := (5 : Int32)) hin29 (g := (mkF m 85 #[iv p1, iv (1 : Int32), .unset, .unset, .unset, .unset] [(.int (116 : Int32)), (.int (5 : Int32)), (.ref b18), (.ref b18)])) rfl rfl (hb hby at_85)
      refine own_go st30 ?_
      replace W30 : Wr h28 h30 b18 _ (.int (116 : Int32)) := W30
      have V30 := Arv.set Ar29 q29 Sz29 Nz29 Ha29 Ga29 (by decide) W30 5 rfl (Nat.le_of_ble_eq_true rfl)
      have N30 := Fr.snoc X30 N28 g_b18
      replace O := O.wr W30 g_b18
      replace Kp := Kp.wr W30 (Or.inr sz_b18)
      replace Ea_b18 := Ea_b18.wr W30
      replace V_b18 : Arv Z h30 b18 k18 .char (15 : Int32) [(.int (111 : Int32)), (.int (98 : Int32)), (.int (106 : Int32)), (.int (101 : Int32)), (.int (99 : Int32)), (.int (116 : Int32)), (.int (0 : Int32)), (.int (0 : Int32)), (.int (0 : Int32)), (.int (0 : Int32)), (.int (0 : Int32)), (.int (0 : Int32)), (.int (0 : Int32)), (.int (0 : Int32)), (.int (0 : Int32))] (.int (0 : Int32)) := V30
      show own_Go p e below s _ _ _ (T30.setTop (mkF m 86 #[iv p1, iv (1 : Int32), .unset, .unset, .unset, .unset] [(.ref b18)]))
      refine own_go (fun zt zk => (XS.dup X30.here hx rfl (hb hby at_86) rfl rfl (XS.bipush X30.here hx rfl (hb hby at_87) (XS.bipush X30.here hx rfl (hb hby at_89) zk)))) ?_
      show own_Go p e below s _ _ _ (T30.setTop (mkF m 91 #[iv p1, iv (1 : Int32), .unset, .unset, .unset, .unset] [(.int (32 : Int32)), (.int (6 : Int32)), (.ref b18), (.ref b18)]))
      obtain ⟨cl31, Ar31, q31, Sz31, Nz31, Ha31, Ga31⟩ := id V_b18
      have hin31 : ¬ ((6 : Int32) < 0 ∨ cl31.slots.size ≤ ((6 : Int32)).toNatClampNeg) := inb_of Sz31 ⟨by decide, by decide⟩
      obtain ⟨T32, h32, X32, e32, W32, st32⟩ := stC X30 hx hZ e30 Ar31 (j := (6 : Int32)) hin31 (g := (mkF m 91 #[iv p1, iv (1 : Int32), .unset, .unset, .unset, .unset] [(.int (32 : Int32)), (.int (6 : Int32)), (.ref b18), (.ref b18)])) rfl rfl (hb hby at_91)
      refine own_go st32 ?_
      replace W32 : Wr h30 h32 b18 _ (.int (32 : Int32)) := W32
      have V32 := Arv.set Ar31 q31 Sz31 Nz31 Ha31 Ga31 (by decide) W32 6 rfl (Nat.le_of_ble_eq_true rfl)
      have N32 := Fr.snoc X32 N30 g_b18
      replace O := O.wr W32 g_b18
      replace Kp := Kp.wr W32 (Or.inr sz_b18)
      replace Ea_b18 := Ea_b18.wr W32
      replace V_b18 : Arv Z h32 b18 k18 .char (15 : Int32) [(.int (111 : Int32)), (.int (98 : Int32)), (.int (106 : Int32)), (.int (101 : Int32)), (.int (99 : Int32)), (.int (116 : Int32)), (.int (32 : Int32)), (.int (0 : Int32)), (.int (0 : Int32)), (.int (0 : Int32)), (.int (0 : Int32)), (.int (0 : Int32)), (.int (0 : Int32)), (.int (0 : Int32)), (.int (0 : Int32))] (.int (0 : Int32)) := V32
      show own_Go p e below s _ _ _ (T32.setTop (mkF m 92 #[iv p1, iv (1 : Int32), .unset, .unset, .unset, .unset] [(.ref b18)]))
      refine own_go (fun zt zk => (XS.dup X32.here hx rfl (hb hby at_92) rfl rfl (XS.bipush X32.here hx rfl (hb hby at_93) (XS.bipush X32.here hx rfl (hb hby at_95) zk)))) ?_
      show own_Go p e below s _ _ _ (T32.setTop (mkF m 97 #[iv p1, iv (1 : Int32), .unset, .unset, .unset, .unset] [(.int (112 : Int32)), (.int (7 : Int32)), (.ref b18), (.ref b18)]))
      obtain ⟨cl33, Ar33, q33, Sz33, Nz33, Ha33, Ga33⟩ := id V_b18
      have hin33 : ¬ ((7 : Int32) < 0 ∨ cl33.slots.size ≤ ((7 : Int32)).toNatClampNeg) := inb_of Sz33 ⟨by decide, by decide⟩
      obtain ⟨T34, h34, X34, e34, W34, st34⟩ := stC X32 hx hZ e32 Ar33 (j := (7 : Int32)) hin33 (g := (mkF m 97 #[iv p1, iv (1 : Int32), .unset, .unset, .unset, .unset] [(.int (112 : Int32)), (.int (7 : Int32)), (.ref b18), (.ref b18)])) rfl rfl (hb hby at_97)
      refine own_go st34 ?_
      replace W34 : Wr h32 h34 b18 _ (.int (112 : Int32)) := W34
      have V34 := Arv.set Ar33 q33 Sz33 Nz33 Ha33 Ga33 (by decide) W34 7 rfl (Nat.le_of_ble_eq_true rfl)
      have N34 := Fr.snoc X34 N32 g_b18
      replace O := O.wr W34 g_b18
      replace Kp := Kp.wr W34 (Or.inr sz_b18)
      replace Ea_b18 := Ea_b18.wr W34
      replace V_b18 : Arv Z h34 b18 k18 .char (15 : Int32) [(.int (111 : Int32)), (.int (98 : Int32)), (.int (106 : Int32)), (.int (101 : Int32)), (.int (99 : Int32)), (.int (116 : Int32)), (.int (32 : Int32)), (.int (112 : Int32)), (.int (0 : Int32)), (.int (0 : Int32)), (.int (0 : Int32)), (.int (0 : Int32)), (.int (0 : Int32)), (.int (0 : Int32)), (.int (0 : Int32))] (.int (0 : Int32)) := V34
      show own_Go p e below s _ _ _ (T34.setTop (mkF m 98 #[iv p1, iv (1 : Int32), .unset, .unset, .unset, .unset] [(.ref b18)]))
      refine own_go (fun zt zk => (XS.dup X34.here hx rfl (hb hby at_98) rfl rfl (XS.bipush X34.here hx rfl (hb hby at_99) (XS.bipush X34.here hx rfl (hb hby at_101) zk)))) ?_
      show own_Go p e below s _ _ _ (T34.setTop (mkF m 103 #[iv p1, iv (1 : Int32), .unset, .unset, .unset, .unset] [(.int (114 : Int32)), (.int (8 : Int32)), (.ref b18), (.ref b18)]))
      obtain ⟨cl35, Ar35, q35, Sz35, Nz35, Ha35, Ga35⟩ := id V_b18
      have hin35 : ¬ ((8 : Int32) < 0 ∨ cl35.slots.size ≤ ((8 : Int32)).toNatClampNeg) := inb_of Sz35 ⟨by decide, by decide⟩
      obtain ⟨T36, h36, X36, e36, W36, st36⟩ := stC X34 hx hZ e34 Ar35 (j := (8 : Int32)) hin35 (g := (mkF m 103 #[iv p1, iv (1 : Int32), .unset, .unset, .unset, .unset] [(.int (114 : Int32)), (.int (8 : Int32)), (.ref b18), (.ref b18)])) rfl rfl (hb hby at_103)
      refine own_go st36 ?_
      replace W36 : Wr h34 h36 b18 _ (.int (114 : Int32)) := W36
      have V36 := Arv.set Ar35 q35 Sz35 Nz35 Ha35 Ga35 (by decide) W36 8 rfl (Nat.le_of_ble_eq_true rfl)
      have N36 := Fr.snoc X36 N34 g_b18
      replace O := O.wr W36 g_b18
      replace Kp := Kp.wr W36 (Or.inr sz_b18)
      replace Ea_b18 := Ea_b18.wr W36
      replace V_b18 : Arv Z h36 b18 k18 .char (15 : Int32) [(.int (111 : Int32)), (.int (98 : Int32)), (.int (106 : Int32)), (.int (101 : Int32)), (.int (99 : Int32)), (.int (116 : Int32)), (.int (32 : Int32)), (.int (112 : Int32)), (.int (114 : Int32)), (.int (0 : Int32)), (.int (0 : Int32)), (.int (0 : Int32)), (.int (0 : Int32)), (.int (0 : Int32)), (.int (0 : Int32))] (.int (0 : Int32)) := V36
      show own_Go p e below s _ _ _ (T36.setTop (mkF m 104 #[iv p1, iv (1 : Int32), .unset, .unset, .unset, .unset] [(.ref b18)]))
      refine own_go (fun zt zk => (XS.dup X36.here hx rfl (hb hby at_104) rfl rfl (XS.bipush X36.here hx rfl (hb hby at_105) (XS.bipush X36.here hx rfl (hb hby at_107) zk)))) ?_
      show own_Go p e below s _ _ _ (T36.setTop (mkF m 109 #[iv p1, iv (1 : Int32), .unset, .unset, .unset, .unset] [(.int (111 : Int32)), (.int (9 : Int32)), (.ref b18), (.ref b18)]))
      obtain ⟨cl37, Ar37, q37, Sz37, Nz37, Ha37, Ga37⟩ := id V_b18
      have hin37 : ¬ ((9 : Int32) < 0 ∨ cl37.slots.size ≤ ((9 : Int32)).toNatClampNeg) := inb_of Sz37 ⟨by decide, by decide⟩
      obtain ⟨T38, h38, X38, e38, W38, st38⟩ := stC X36 hx hZ e36 Ar37 (j := (9 : Int32)) hin37 (g := (mkF m 109 #[iv p1, iv (1 : Int32), .unset, .unset, .unset, .unset] [(.int (111 : Int32)), (.int (9 : Int32)), (.ref b18), (.ref b18)])) rfl rfl (hb hby at_109)
      refine own_go st38 ?_
      replace W38 : Wr h36 h38 b18 _ (.int (111 : Int32)) := W38
      have V38 := Arv.set Ar37 q37 Sz37 Nz37 Ha37 Ga37 (by decide) W38 9 rfl (Nat.le_of_ble_eq_true rfl)
      have N38 := Fr.snoc X38 N36 g_b18
      replace O := O.wr W38 g_b18
      replace Kp := Kp.wr W38 (Or.inr sz_b18)
      replace Ea_b18 := Ea_b18.wr W38
      replace V_b18 : Arv Z h38 b18 k18 .char (15 : Int32) [(.int (111 : Int32)), (.int (98 : Int32)), (.int (106 : Int32)), (.int (101 : Int32)), (.int (99 : Int32)), (.int (116 : Int32)), (.int (32 : Int32)), (.int (112 : Int32)), (.int (114 : Int32)), (.int (111 : Int32)), (.int (0 : Int32)), (.int (0 : Int32)), (.int (0 : Int32)), (.int (0 : Int32)), (.int (0 : Int32))] (.int (0 : Int32)) := V38
      show own_Go p e below s _ _ _ (T38.setTop (mkF m 110 #[iv p1, iv (1 : Int32), .unset, .unset, .unset, .unset] [(.ref b18)]))
      refine own_go (fun zt zk => (XS.dup X38.here hx rfl (hb hby at_110) rfl rfl (XS.bipush X38.here hx rfl (hb hby at_111) (XS.bipush X38.here hx rfl (hb hby at_113) zk)))) ?_
      show own_Go p e below s _ _ _ (T38.setTop (mkF m 115 #[iv p1, iv (1 : Int32), .unset, .unset, .unset, .unset] [(.int (112 : Int32)), (.int (10 : Int32)), (.ref b18), (.ref b18)]))
      obtain ⟨cl39, Ar39, q39, Sz39, Nz39, Ha39, Ga39⟩ := id V_b18
      have hin39 : ¬ ((10 : Int32) < 0 ∨ cl39.slots.size ≤ ((10 : Int32)).toNatClampNeg) := inb_of Sz39 ⟨by decide, by decide⟩
      obtain ⟨T40, h40, X40, e40, W40, st40⟩ := stC X38 hx hZ e38 Ar39 (j := (10 : Int32)) hin39 (g := (mkF m 115 #[iv p1, iv (1 : Int32), .unset, .unset, .unset, .unset] [(.int (112 : Int32)), (.int (10 : Int32)), (.ref b18), (.ref b18)])) rfl rfl (hb hby at_115)
      refine own_go st40 ?_
      replace W40 : Wr h38 h40 b18 _ (.int (112 : Int32)) := W40
      have V40 := Arv.set Ar39 q39 Sz39 Nz39 Ha39 Ga39 (by decide) W40 10 rfl (Nat.le_of_ble_eq_true rfl)
      have N40 := Fr.snoc X40 N38 g_b18
      replace O := O.wr W40 g_b18
      replace Kp := Kp.wr W40 (Or.inr sz_b18)
      replace Ea_b18 := Ea_b18.wr W40
      replace V_b18 : Arv Z h40 b18 k18 .char (15 : Int32) [(.int (111 : Int32)), (.int (98 : Int32)), (.int (106 : Int32)), (.int (101 : Int32)), (.int (99 : Int32)), (.int (116 : Int32)), (.int (32 : Int32)), (.int (112 : Int32)), (.int (114 : Int32)), (.int (111 : Int32)), (.int (112 : Int32)), (.int (0 : Int32)), (.int (0 : Int32)), (.int (0 : Int32)), (.int (0 : Int32))] (.int (0 : Int32)) := V40
      show own_Go p e below s _ _ _ (T40.setTop (mkF m 116 #[iv p1, iv (1 : Int32), .unset, .unset, .unset, .unset] [(.ref b18)]))
      refine own_go (fun zt zk => (XS.dup X40.here hx rfl (hb hby at_116) rfl rfl (XS.bipush X40.here hx rfl (hb hby at_117) (XS.bipush X40.here hx rfl (hb hby at_119) zk)))) ?_
      show own_Go p e below s _ _ _ (T40.setTop (mkF m 121 #[iv p1, iv (1 : Int32), .unset, .unset, .unset, .unset] [(.int (101 : Int32)), (.int (11 : Int32)), (.ref b18), (.ref b18)]))
      obtain ⟨cl41, Ar41, q41, Sz41, Nz41, Ha41, Ga41⟩ := id V_b18
      have hin41 : ¬ ((11 : Int32) < 0 ∨ cl41.slots.size ≤ ((11 : Int32)).toNatClampNeg) := inb_of Sz41 ⟨by decide, by decide⟩
      obtain ⟨T42, h42, X42, e42, W42, st42⟩ := stC X40 hx hZ e40 Ar41 (j := (11 : Int32)) hin41 (g := (mkF m 121 #[iv p1, iv (1 : Int32), .unset, .unset, .unset, .unset] [(.int (101 : Int32)), (.int (11 : Int32)), (.ref b18), (.ref b18)])) rfl rfl (hb hby at_121)
      refine own_go st42 ?_
      replace W42 : Wr h40 h42 b18 _ (.int (101 : Int32)) := W42
      have V42 := Arv.set Ar41 q41 Sz41 Nz41 Ha41 Ga41 (by decide) W42 11 rfl (Nat.le_of_ble_eq_true rfl)
      have N42 := Fr.snoc X42 N40 g_b18
      replace O := O.wr W42 g_b18
      replace Kp := Kp.wr W42 (Or.inr sz_b18)
      replace Ea_b18 := Ea_b18.wr W42
      replace V_b18 : Arv Z h42 b18 k18 .char (15 : Int32) [(.int (111 : Int32)), (.int (98 : Int32)), (.int (106 : Int32)), (.int (101 : Int32)), (.int (99 : Int32)), (.int (116 : Int32)), (.int (32 : Int32)), (.int (112 : Int32)), (.int (114 : Int32)), (.int (111 : Int32)), (.int (112 : Int32)), (.int (101 : Int32)), (.int (0 : Int32)), (.int (0 : Int32)), (.int (0 : Int32))] (.int (0 : Int32)) := V42
      show own_Go p e below s _ _ _ (T42.setTop (mkF m 122 #[iv p1, iv (1 : Int32), .unset, .unset, .unset, .unset] [(.ref b18)]))
      refine own_go (fun zt zk => (XS.dup X42.here hx rfl (hb hby at_122) rfl rfl (XS.bipush X42.here hx rfl (hb hby at_123) (XS.bipush X42.here hx rfl (hb hby at_125) zk)))) ?_
      show own_Go p e below s _ _ _ (T42.setTop (mkF m 127 #[iv p1, iv (1 : Int32), .unset, .unset, .unset, .unset] [(.int (114 : Int32)), (.int (12 : Int32)), (.ref b18), (.ref b18)]))
      obtain ⟨cl43, Ar43, q43, Sz43, Nz43, Ha43, Ga43⟩ := id V_b18
      have hin43 : ¬ ((12 : Int32) < 0 ∨ cl43.slots.size ≤ ((12 : Int32)).toNatClampNeg) := inb_of Sz43 ⟨by decide, by decide⟩
      obtain ⟨T44, h44, X44, e44, W44, st44⟩ := stC X42 hx hZ e42 Ar43 (j := (12 : Int32)) hin43 (g := (mkF m 127 #[iv p1, iv (1 : Int32), .unset, .unset, .unset, .unset] [(.int (114 : Int32)), (.int (12 : Int32)), (.ref b18), (.ref b18)])) rfl rfl (hb hby at_127)
      refine own_go st44 ?_
      replace W44 : Wr h42 h44 b18 _ (.int (114 : Int32)) := W44
      have V44 := Arv.set Ar43 q43 Sz43 Nz43 Ha43 Ga43 (by decide) W44 12 rfl (Nat.le_of_ble_eq_true rfl)
      have N44 := Fr.snoc X44 N42 g_b18
      replace O := O.wr W44 g_b18
      replace Kp := Kp.wr W44 (Or.inr sz_b18)
      replace Ea_b18 := Ea_b18.wr W44
      replace V_b18 : Arv Z h44 b18 k18 .char (15 : Int32) [(.int (111 : Int32)), (.int (98 : Int32)), (.int (106 : Int32)), (.int (101 : Int32)), (.int (99 : Int32)), (.int (116 : Int32)), (.int (32 : Int32)), (.int (112 : Int32)), (.int (114 : Int32)), (.int (111 : Int32)), (.int (112 : Int32)), (.int (101 : Int32)), (.int (114 : Int32)), (.int (0 : Int32)), (.int (0 : Int32))] (.int (0 : Int32)) := V44
      show own_Go p e below s _ _ _ (T44.setTop (mkF m 128 #[iv p1, iv (1 : Int32), .unset, .unset, .unset, .unset] [(.ref b18)]))
      refine own_go (fun zt zk => (XS.dup X44.here hx rfl (hb hby at_128) rfl rfl (XS.bipush X44.here hx rfl (hb hby at_129) (XS.bipush X44.here hx rfl (hb hby at_131) zk)))) ?_
      show own_Go p e below s _ _ _ (T44.setTop (mkF m 133 #[iv p1, iv (1 : Int32), .unset, .unset, .unset, .unset] [(.int (116 : Int32)), (.int (13 : Int32)), (.ref b18), (.ref b18)]))
      obtain ⟨cl45, Ar45, q45, Sz45, Nz45, Ha45, Ga45⟩ := id V_b18
      have hin45 : ¬ ((13 : Int32) < 0 ∨ cl45.slots.size ≤ ((13 : Int32)).toNatClampNeg) := inb_of Sz45 ⟨by decide, by decide⟩
      obtain ⟨T46, h46, X46, e46, W46, st46⟩ := stC X44 hx hZ e44 Ar45 (j := (13 : Int32)) hin45 (g := (mkF m 133 #[iv p1, iv (1 : Int32), .unset, .unset, .unset, .unset] [(.int (116 : Int32)), (.int (13 : Int32)), (.ref b18), (.ref b18)])) rfl rfl (hb hby at_133)
      refine own_go st46 ?_
      replace W46 : Wr h44 h46 b18 _ (.int (116 : Int32)) := W46
      have V46 := Arv.set Ar45 q45 Sz45 Nz45 Ha45 Ga45 (by decide) W46 13 rfl (Nat.le_of_ble_eq_true rfl)
      have N46 := Fr.snoc X46 N44 g_b18
      replace O := O.wr W46 g_b18
      replace Kp := Kp.wr W46 (Or.inr sz_b18)
      replace Ea_b18 := Ea_b18.wr W46
      replace V_b18 : Arv Z h46 b18 k18 .char (15 : Int32) [(.int (111 : Int32)), (.int (98 : Int32)), (.int (106 : Int32)), (.int (101 : Int32)), (.int (99 : Int32)), (.int (116 : Int32)), (.int (32 : Int32)), (.int (112 : Int32)), (.int (114 : Int32)), (.int (111 : Int32)), (.int (112 : Int32)), (.int (101 : Int32)), (.int (114 : Int32)), (.int (116 : Int32)), (.int (0 : Int32))] (.int (0 : Int32)) := V46
      show own_Go p e below s _ _ _ (T46.setTop (mkF m 134 #[iv p1, iv (1 : Int32), .unset, .unset, .unset, .unset] [(.ref b18)]))
      refine own_go (fun zt zk => (XS.dup X46.here hx rfl (hb hby at_134) rfl rfl (XS.bipush X46.here hx rfl (hb hby at_135) (XS.bipush X46.here hx rfl (hb hby at_137) zk)))) ?_
      show own_Go p e below s _ _ _ (T46.setTop (mkF m 139 #[iv p1, iv (1 : Int32), .unset, .unset, .unset, .unset] [(.int (121 : Int32)), (.int (14 : Int32)), (.ref b18), (.ref b18)]))
      obtain ⟨cl47, Ar47, q47, Sz47, Nz47, Ha47, Ga47⟩ := id V_b18
      have hin47 : ¬ ((14 : Int32) < 0 ∨ cl47.slots.size ≤ ((14 : Int32)).toNatClampNeg) := inb_of Sz47 ⟨by decide, by decide⟩
      obtain ⟨T48, h48, X48, e48, W48, st48⟩ := stC X46 hx hZ e46 Ar47 (j := (14 : Int32)) hin47 (g := (mkF m 139 #[iv p1, iv (1 : Int32), .unset, .unset, .unset, .unset] [(.int (121 : Int32)), (.int (14 : Int32)), (.ref b18), (.ref b18)])) rfl rfl (hb hby at_139)
      refine own_go st48 ?_
      replace W48 : Wr h46 h48 b18 _ (.int (121 : Int32)) := W48
      have V48 := Arv.set Ar47 q47 Sz47 Nz47 Ha47 Ga47 (by decide) W48 14 rfl (Nat.le_of_ble_eq_true rfl)
      have N48 := Fr.snoc X48 N46 g_b18
      replace O := O.wr W48 g_b18
      replace Kp := Kp.wr W48 (Or.inr sz_b18)
      replace Ea_b18 := Ea_b18.wr W48
      replace V_b18 : Arv Z h48 b18 k18 .char (15 : Int32) [(.int (111 : Int32)), (.int (98 : Int32)), (.int (106 : Int32)), (.int (101 : Int32)), (.int (99 : Int32)), (.int (116 : Int32)), (.int (32 : Int32)), (.int (112 : Int32)), (.int (114 : Int32)), (.int (111 : Int32)), (.int (112 : Int32)), (.int (101 : Int32)), (.int (114 : Int32)), (.int (116 : Int32)), (.int (121 : Int32))] (.int (0 : Int32)) := V48
      show own_Go p e below s _ _ _ (T48.setTop (mkF m 140 #[iv p1, iv (1 : Int32), .unset, .unset, .unset, .unset] [(.ref b18)]))
      refine own_go (fun zt zk => (XS.astoreN X48.here hx rfl (hb hby at_140) rfl rfl (l' := #[iv p1, iv (1 : Int32), rv b18, .unset, .unset, .unset]) rfl zk)) ?_
      show own_Go p e below s _ _ _ (T48.setTop (mkF m 141 #[iv p1, iv (1 : Int32), rv b18, .unset, .unset, .unset] []))
      obtain ⟨T49, X49, e49, st49⟩ := getS2 X48 hx hZ hown (host := "") (Or.inl (hw _ (List.mem_of_getElem? (i := 73) rfl))) Via.refl e48 (S_o_OBJECT_PROPERTY.ext O.2) (g := (mkF m 141 #[iv p1, iv (1 : Int32), rv b18, .unset, .unset, .unset] [])) rfl (hb hby at_141)
      refine own_go st49 ?_
      show own_Go p e below s _ _ _ (T49.setTop (mkF m 144 #[iv p1, iv (1 : Int32), rv b18, .unset, .unset, .unset] [(.ref o_OBJECT_PROPERTY)]))
      refine own_go (fun zt zk => (XS.astoreN X49.here hx rfl (hb hby at_144) rfl rfl (l' := #[iv p1, iv (1 : Int32), rv b18, rv o_OBJECT_PROPERTY, .unset, .unset]) rfl (XS.goto X49.here hx rfl (pc0 := 145) (pc' := 253) rfl (hb hby at_145) (by decide) (by decide) zk))) ?_
      show own_Go p e below s _ _ _ (T49.setTop (mkF m 253 #[iv p1, iv (1 : Int32), rv b18, rv o_OBJECT_PROPERTY, .unset, .unset] []))
      obtain ⟨T50, h50, X50, e50, E50, A50, D50, -, st50⟩ := newO X49 hx hZ hown (hw _ (List.mem_of_getElem? (i := 5) rfl)) (hw _ (List.mem_of_getElem? (i := 6) rfl)) (hw _ (List.mem_of_getElem? (i := 7) rfl)) e49 (g := (mkF m 253 #[iv p1, iv (1 : Int32), rv b18, rv o_OBJECT_PROPERTY, .unset, .unset] [])) rfl (hb hby at_253) (by decide) (by decide)
      obtain ⟨b50, g50⟩ : ∃ z, z = h48.size := ⟨_, rfl⟩
      rw [← g50] at A50 D50 st50
      refine own_go st50 ?_
      have ne_o_CLASS_b50 : o_CLASS ≠ b50 := Nat.ne_of_lt (Nat.lt_of_lt_of_le (Ex_o_CLASS.ext O.2).lt (Nat.le_of_eq g50.symm))
      have ne_o__VALUES_b50 : o__VALUES ≠ b50 := Nat.ne_of_lt (Nat.lt_of_lt_of_le (Ex_o__VALUES.ext O.2).lt (Nat.le_of_eq g50.symm))
      have ne_o_OBJECT_PROPERTY_b50 : o_OBJECT_PROPERTY ≠ b50 := Nat.ne_of_lt (Nat.lt_of_lt_of_le (Ex_o_OBJECT_PROPERTY.ext O.2).lt (Nat.le_of_eq g50.symm))
      have ne_o_DATA_PROPERTY_b50 : o_DATA_PROPERTY ≠ b50 := Nat.ne_of_lt (Nat.lt_of_lt_of_le (Ex_o_DATA_PROPERTY.ext O.2).lt (Nat.le_of_eq g50.symm))
      have ne_o_CLASS_label_b50 : o_CLASS_label ≠ b50 := Nat.ne_of_lt (Nat.lt_of_lt_of_le (Ex_o_CLASS_label.ext O.2).lt (Nat.le_of_eq g50.symm))
      have ne_o_OBJECT_PROPERTY_label_b50 : o_OBJECT_PROPERTY_label ≠ b50 := Nat.ne_of_lt (Nat.lt_of_lt_of_le (Ex_o_OBJECT_PROPERTY_label.ext O.2).lt (Nat.le_of_eq g50.symm))
      have ne_o_DATA_PROPERTY_label_b50 : o_DATA_PROPERTY_label ≠ b50 := Nat.ne_of_lt (Nat.lt_of_lt_of_le (Ex_o_DATA_PROPERTY_label.ext O.2).lt (Nat.le_of_eq g50.symm))
      have ne_o_CLASS_label_value_b50 : o_CLASS_label_value ≠ b50 := Nat.ne_of_lt (Nat.lt_of_lt_of_le (V_o_CLASS_label_value.ext O.2).lt (Nat.le_of_eq g50.symm))
      have ne_o_OBJECT_PROPERTY_label_value_b50 : o_OBJECT_PROPERTY_label_value ≠ b50 := Nat.ne_of_lt (Nat.lt_of_lt_of_le (V_o_OBJECT_PROPERTY_label_value.ext O.2).lt (Nat.le_of_eq g50.symm))
      have ne_o_DATA_PROPERTY_label_value_b50 : o_DATA_PROPERTY_label_value ≠ b50 := Nat.ne_of_lt (Nat.lt_of_lt_of_le (V_o_DATA_PROPERTY_label_value.ext O.2).lt (Nat.le_of_eq g50.symm))
      have ne_b18_b50 : b18 ≠ b50 := Nat.ne_of_lt (Nat.lt_of_lt_of_le V_b18.lt (Nat.le_of_eq g50.symm))
      have sz_b50 : h0.size ≤ b50 := Nat.le_trans Kp.1 (Nat.le_of_eq g50.symm)
      have g_b50 : n0 ≤ b50 := Nat.le_trans Z0 sz_b50
      replace O := O.ext E50
      replace Kp := Kp.ext E50
      replace V_b18 := V_b18.ext E50
      replace Ea_b18 := Ea_b18.ext E50
      have Ex_b50 := A50
      have F_coder_b50 : Fld Z h50 b50 "java/lang/String" "coder" "B" (.int (0 : Int32)) := D50 (Or.inr (hw _ (List.mem_of_getElem? (i := 31) rfl))) (ty := .byte) (by decide)
      have F_value_b50 : Fld Z h50 b50 "java/lang/String" "value" "[B" .null := D50 (Or.inr (hw _ (List.mem_of_getElem? (i := 33) rfl))) (ty := (.array .byte)) (by decide)
      show own_Go p e below s _ _ _ (T50.setTop (mkF m 256 #[iv p1, iv (1 : Int32), rv b18, rv o_OBJECT_PROPERTY, .unset, .unset] [(.ref b50)]))
      refine own_go (fun zt zk => (XS.dup X50.here hx rfl (hb hby at_256) rfl rfl (XS.aloadN X50.here hx rfl (hb hby at_257) rfl rfl zk))) ?_
      show own_Go p e below s _ _ _ (T50.setTop (mkF m 258 #[iv p1, iv (1 : Int32), rv b18, rv o_OBJECT_PROPERTY, .unset, .unset] [(.ref b18), (.ref b50), (.ref b50)]))
      obtain ⟨_, _, ⟨T51, L51, k51, n51⟩, -, X51, ⟨Lc51, hQ51, l51, y51, z51⟩, st51⟩ := X50.specialBack hx (y := (⟨"java/lang/String", "<init>", "([C)V"⟩ : MethodName)) rfl hown (mvT hZ (hw _ (List.mem_of_getElem? (i := 8) rfl))) (mvT hZ (hw _ (List.mem_of_getElem? (i := 9) rfl))) (mvT hZ (hw _ (List.mem_of_getElem? (i := 10) rfl))) (by decide) (StrChars.Road.backV (W := 1) hZ (own_hnew Z a0 hw) (kI := 4) (hw _ (List.mem_of_getElem? (i := 6) rfl)) (cs := [(111 : Int32), (98 : Int32), (106 : Int32), (101 : Int32), (99 : Int32), (116 : Int32), (32 : Int32), (112 : Int32), (114 : Int32), (111 : Int32), (112 : Int32), (101 : Int32), (114 : Int32), (116 : Int32), (121 : Int32)]) (bs := [(111 : Int32), (98 : Int32), (106 : Int32), (101 : Int32), (99 : Int32), (116 : Int32), (32 : Int32), (112 : Int32), (114 : Int32), (111 : Int32), (112 : Int32), (101 : Int32), (114 : Int32), (116 : Int32), (121 : Int32)]) (n := 15) g_b50 (Nat.le_trans Z0 Kp.1) Ex_b50 F_value_b50 F_coder_b50 V_b18 (S_o_COMPACT_STRINGS.ext O.2) nz_o_COMPACT_STRINGS rfl rfl (by decide) (by decide) (own_ac (by decide) (own_ac (by decide) (own_ac (by decide) (own_ac (by decide) (own_ac (by decide) (own_ac (by decide) (own_ac (by decide) (own_ac (by decide) (own_ac (by decide) (own_ac (by decide) (own_ac (by decide) (own_ac (by decide) (own_ac (by decide) (own_ac (by decide) (own_ac (by decide) own_an))))))))))))))) rfl (by decide) (by decide)) (g := (mkF m 258 #[iv p1, iv (1 : Int32), rv b18, rv o_OBJECT_PROPERTY, .unset, .unset] [(.ref b18), (.ref b50), (.ref b50)])) rfl (by rw [hml]; rfl) (Steps.refl _) (a := b50) (argsL := [(.ref b18)]) (rest := [(.ref b50)]) (lenOf own_pd___C_V rfl) rfl (by show 2 * 0 + _ ≤ _; exact Nat.le_of_eq rfl) (hb hby at_258) (fun _ _ => ⟨rfl, e50, (by decide : 2 + 1 ≤ _), (by decide : 19 + 15 ≤ _)⟩)
      dsimp only [Pt.U, Pt.locs, Pt.cells, Pt.slots] at X51 l51 y51 z51 st51 hQ51
      subst l51 y51 z51
      obtain ⟨rfl, Nq51, K51, -, Fc51, t51, kb51, -, sz51, -, Fv51, Vt51⟩ := hQ51
      have sz_t51 : h0.size ≤ t51 := Nat.le_trans Kp.1 sz51
      have g_t51 : n0 ≤ t51 := Nat.le_trans Z0 sz_t51
      have ne_b18_t51 : b18 ≠ t51 := Nat.ne_of_lt (Nat.lt_of_lt_of_le V_b18.lt sz51)
      have ne_b50_t51 : b50 ≠ t51 := Nat.ne_of_lt (Nat.lt_of_lt_of_le Ex_b50.lt sz51)
      have N51 := Fr.app N48 Nq51
      refine own_go (fun zt zk => st51.trans zk) ?_
      replace O := O.keep K51 (allS g_b50 all0)
      replace Kp := Kp.trans K51 (allS (Or.inr sz_b50) all0)
      replace V_b18 := V_b18.keep K51 (ninS ne_b18_b50 nin0)
      replace Ea_b18 := Ea_b18.keep K51
      replace Ex_b50 := Ex_b50.keep K51
      show own_Go p e below s _ _ _ (T51.setTop (mkF m 261 #[iv p1, iv (1 : Int32), rv b18, rv o_OBJECT_PROPERTY, .unset, .unset] [(.ref b50)]))
      refine own_go (fun zt zk => (XS.astore X51.here hx rfl (hb hby at_261) rfl rfl (l' := #[iv p1, iv (1 : Int32), rv b18, rv o_OBJECT_PROPERTY, rv b50, .unset]) rfl (XS.aload X51.here hx rfl (hb hby at_263) rfl rfl zk))) ?_
      show own_Go p e below s _ _ _ (T51.setTop (mkF m 265 #[iv p1, iv (1 : Int32), rv b18, rv o_OBJECT_PROPERTY, rv b50, .unset] [(.ref b50)]))
      obtain ⟨_, _, ⟨T52, L52, k52, n52⟩, -, X52, ⟨Lc52, hQ52, l52, y52, z52⟩, st52⟩ := Jvm.LawKit.callS X51 hx (y := (⟨"com/example/boxwright/boxwright/Kind", "ofLabel", "(Ljava/lang/String;)Lcom/example/boxwright/boxwright/Kind;"⟩ : MethodName)) hown (mvT hZ (hw _ (List.mem_of_getElem? (i := 34) rfl))) (mvT hZ (hw _ (List.mem_of_getElem? (i := 35) rfl))) (mvT hZ (hw _ (List.mem_of_getElem? (i := 3) rfl))) (mvT hZ (hw _ (List.mem_of_getElem? (i := 36) rfl))) (by decide) (backOf (W := 0) (own_rof1 l Z a0 hw [] b50 t51 kb51 o_COMPACT_STRINGS o__VALUES k_o__VALUES o_CLASS o_CLASS_label o_CLASS_label_value k_o_CLASS_label_value o_OBJECT_PROPERTY o_OBJECT_PROPERTY_label o_OBJECT_PROPERTY_label_value k_o_OBJECT_PROPERTY_label_value o_DATA_PROPERTY o_DATA_PROPERTY_label o_DATA_PROPERTY_label_value k_o_DATA_PROPERTY_label_value T51.heap n0 (Nat.le_trans Z0 Kp.1) O S_o_COMPACT_STRINGS S_o__VALUES V_o__VALUES Ex_o__VALUES Ex_o_CLASS F_o_CLASS_label Ex_o_CLASS_label F_o_CLASS_label_coder F_o_CLASS_label_value V_o_CLASS_label_value Ex_o_OBJECT_PROPERTY F_o_OBJECT_PROPERTY_label Ex_o_OBJECT_PROPERTY_label F_o_OBJECT_PROPERTY_label_coder F_o_OBJECT_PROPERTY_label_value V_o_OBJECT_PROPERTY_label_value Ex_o_DATA_PROPERTY F_o_DATA_PROPERTY_label Ex_o_DATA_PROPERTY_label F_o_DATA_PROPERTY_label_coder F_o_DATA_PROPERTY_label_value V_o_DATA_PROPERTY_label_value Ex_b50 Fv51 Fc51 Vt51 nz_o_COMPACT_STRINGS) hZ (hw _ (List.mem_of_getElem? (i := 36) rfl)) (hw _ (List.mem_of_getElem? (i := 3) rfl)) (by decide) (by decide)) (g := (mkF m 265 #[iv p1, iv (1 : Int32), rv b18, rv o_OBJECT_PROPERTY, rv b50, .unset] [(.ref b50)])) rfl (by rw [hml]; rfl) (argsL := [(.ref b50)]) (rest := []) (lenOf own_pd__Ljava_lang_String__Lcom_example_boxwright_boxwright_Kind_ rfl) rfl (by show 2 * 0 + _ ≤ _; exact Nat.le_of_eq rfl) (hb hby at_265) (fun _ _ => ⟨rfl, rfl, (by decide : 3 + 1 ≤ _), (by decide : 34 + 3 ≤ _)⟩)
      dsimp only [Pt.U, Pt.locs, Pt.cells, Pt.slots] at X52 l52 y52 z52 st52 hQ52
      subst l52 y52 z52
      obtain ⟨rfl, Nq52, K52⟩ := hQ52
      have N52 := Fr.app N51 Nq52
      refine own_go st52 ?_
      replace O := O.keep K52 all0
      replace Kp := Kp.trans K52 all0
      replace V_b18 := V_b18.keep K52 nin0
      replace Ea_b18 := Ea_b18.keep K52
      replace Ex_b50 := Ex_b50.keep K52
      replace Fc51 := Fc51.keep K52 nin0
      replace Fv51 := Fv51.keep K52 nin0
      replace Vt51 := Vt51.keep K52 nin0
      show own_Go p e below s _ _ _ (T52.setTop (mkF m 268 #[iv p1, iv (1 : Int32), rv b18, rv o_OBJECT_PROPERTY, rv b50, .unset] [(.ref o_OBJECT_PROPERTY)]))
      refine own_go (fun zt zk => (XS.astore X52.here hx rfl (hb hby at_268) rfl rfl (l' := #[iv p1, iv (1 : Int32), rv b18, rv o_OBJECT_PROPERTY, rv b50, rv o_OBJECT_PROPERTY]) rfl (XS.aload X52.here hx rfl (hb hby at_270) rfl rfl (XS.aloadN X52.here hx rfl (hb hby at_272) rfl rfl zk)))) ?_
      show own_Go p e below s _ _ _ (T52.setTop (mkF m 273 #[iv p1, iv (1 : Int32), rv b18, rv o_OBJECT_PROPERTY, rv b50, rv o_OBJECT_PROPERTY] [(.ref o_OBJECT_PROPERTY), (.ref o_OBJECT_PROPERTY)]))
      refine own_go (fun zt zk => Jvm.RoadKit.acmp (g := (mkF m 273 #[iv p1, iv (1 : Int32), rv b18, rv o_OBJECT_PROPERTY, rv b50, rv o_OBJECT_PROPERTY] [(.ref o_OBJECT_PROPERTY), (.ref o_OBJECT_PROPERTY)])) X52 hx rfl rfl rfl (pc0 := 273) (pc' := 276) (same := true) rfl (hb hby at_273) rfl (decide_eq_true rfl) (by decide) (by decide) zk) ?_
      show own_Go p e below s _ _ _ (T52.setTop (mkF m 276 #[iv p1, iv (1 : Int32), rv b18, rv o_OBJECT_PROPERTY, rv b50, rv o_OBJECT_PROPERTY] []))
      refine own_go (fun zt zk => (XS.aload X52.here hx rfl (hb hby at_276) rfl rfl zk)) ?_
      show own_Go p e below s _ _ _ (T52.setTop (mkF m 278 #[iv p1, iv (1 : Int32), rv b18, rv o_OBJECT_PROPERTY, rv b50, rv o_OBJECT_PROPERTY] [(.ref o_OBJECT_PROPERTY)]))
      obtain ⟨cq53, kq53, qa53, qb53, qc53⟩ := isOf hZ rfl (Ex_o_OBJECT_PROPERTY.ext O.2)
      obtain ⟨_, _, ⟨T53, L53, k53, n53⟩, -, X53, ⟨Lc53, hQ53, l53, y53, z53⟩, st53⟩ := X52.virtualBack hx (y := (⟨"com/example/boxwright/boxwright/Kind", "label", "()Ljava/lang/String;"⟩ : MethodName)) (z := (⟨"com/example/boxwright/boxwright/Kind", "label", "()Ljava/lang/String;"⟩ : MethodName)) hown (mvT hZ (hw _ (List.mem_of_getElem? (i := 66) rfl))) (mvT hZ (hw _ (List.mem_of_getElem? (i := 67) rfl))) (notFace_of_selects (args := #[]) (mvT hZ (hw _ (List.mem_of_getElem? (i := 69) rfl)))) (mvT hZ (hw _ (List.mem_of_getElem? (i := 69) rfl))) (mvT hZ (hw _ (List.mem_of_getElem? (i := 68) rfl))) (by decide) (backOf (W := 0) (own_rlabel l Z a0 hw [] o_OBJECT_PROPERTY o_OBJECT_PROPERTY_label T52.heap n0 (Nat.le_trans Z0 Kp.1) (F_o_OBJECT_PROPERTY_label.ext O.2)) hZ (hw _ (List.mem_of_getElem? (i := 70) rfl)) (hw _ (List.mem_of_getElem? (i := 3) rfl)) (by decide) (by decide)) qa53 qc53 (g := (mkF m 278 #[iv p1, iv (1 : Int32), rv b18, rv o_OBJECT_PROPERTY, rv b50, rv o_OBJECT_PROPERTY] [(.ref o_OBJECT_PROPERTY)])) rfl (by rw [hml]; rfl) (Steps.refl _) (argsL := []) (rest := []) (lenOf own_pd___Ljava_lang_String_ rfl) rfl (by show 2 * 0 + _ ≤ _; exact Nat.le_of_eq rfl) (hb hby at_278) (fun _ _ => ⟨rfl, rfl, (by decide : 4 + 0 ≤ _), (by decide : 37 + 0 ≤ _)⟩)
      dsimp only [Pt.U, Pt.locs, Pt.cells, Pt.slots] at X53 l53 y53 z53 st53 hQ53
      subst l53 y53 z53
      obtain ⟨rfl, Nq53, e53⟩ := hQ53
      have N53 := Fr.app N52 Nq53
      refine own_go (fun zt zk => st53.trans zk) ?_
      show own_Go p e below s _ _ _ (T53.setTop (mkF m 281 #[iv p1, iv (1 : Int32), rv b18, rv o_OBJECT_PROPERTY, rv b50, rv o_OBJECT_PROPERTY] [(.ref o_OBJECT_PROPERTY_label)]))
      refine own_go (fun zt zk => (XS.aload X53.here hx rfl (hb hby at_281) rfl rfl zk)) ?_
      show own_Go p e below s _ _ _ (T53.setTop (mkF m 283 #[iv p1, iv (1 : Int32), rv b18, rv o_OBJECT_PROPERTY, rv b50, rv o_OBJECT_PROPERTY] [(.ref b50), (.ref o_OBJECT_PROPERTY_label)]))
      obtain ⟨cq54, kq54, qa54, qb54, qc54⟩ := isOf hZ e53 (Ex_o_OBJECT_PROPERTY_label.ext O.2)
      obtain ⟨_, _, ⟨T54, L54, k54, n54⟩, -, X54, ⟨Lc54, hQ54, l54, y54, z54⟩, st54⟩ := X53.virtualBack hx (y := (⟨"java/lang/String", "equals", "(Ljava/lang/Object;)Z"⟩ : MethodName)) (z := (⟨"java/lang/String", "equals", "(Ljava/lang/Object;)Z"⟩ : MethodName)) hown (mvT hZ (hw _ (List.mem_of_getElem? (i := 71) rfl))) (mvT hZ (hw _ (List.mem_of_getElem? (i := 57) rfl))) (notFace_of_selects (args := #[]) (mvT hZ (hw _ (List.mem_of_getElem? (i := 59) rfl)))) (mvT hZ (hw _ (List.mem_of_getElem? (i := 59) rfl))) (mvT hZ (hw _ (List.mem_of_getElem? (i := 58) rfl))) (by decide) (backOf (W := 0) (own_req l Z a0 hw [] o_OBJECT_PROPERTY_label b50 o_COMPACT_STRINGS o_OBJECT_PROPERTY_label_value t51 k_o_OBJECT_PROPERTY_label_value kb51 (15 : Int32) (15 : Int32) [(111 : Int32), (98 : Int32), (106 : Int32), (101 : Int32), (99 : Int32), (116 : Int32), (32 : Int32), (112 : Int32), (114 : Int32), (111 : Int32), (112 : Int32), (101 : Int32), (114 : Int32), (116 : Int32), (121 : Int32)] [(111 : Int32), (98 : Int32), (106 : Int32), (101 : Int32), (99 : Int32), (116 : Int32), (32 : Int32), (112 : Int32), (114 : Int32), (111 : Int32), (112 : Int32), (101 : Int32), (114 : Int32), (116 : Int32), (121 : Int32)] T52.heap n0 (Nat.le_trans Z0 Kp.1) O S_o_COMPACT_STRINGS (Ex_o_OBJECT_PROPERTY_label.ext O.2) (F_o_OBJECT_PROPERTY_label_value.ext O.2) (F_o_OBJECT_PROPERTY_label_coder.ext O.2) (V_o_OBJECT_PROPERTY_label_value.ext O.2) Ex_b50 Fv51 Fc51 Vt51 nz_o_COMPACT_STRINGS rfl rfl) hZ (hw _ (List.mem_of_getElem? (i := 60) rfl)) (hw _ (List.mem_of_getElem? (i := 7) rfl)) (by decide) (by decide)) qa54 qc54 (g := (mkF m 283 #[iv p1, iv (1 : Int32), rv b18, rv o_OBJECT_PROPERTY, rv b50, rv o_OBJECT_PROPERTY] [(.ref b50), (.ref o_OBJECT_PROPERTY_label)])) rfl (by rw [hml]; rfl) (Steps.refl _) (argsL := [(.ref b50)]) (rest := []) (lenOf own_pd__Ljava_lang_Object__Z rfl) rfl (by show 2 * 0 + _ ≤ _; exact Nat.le_of_eq rfl) (hb hby at_283) (fun _ _ => ⟨rfl, e53, (by decide : 4 + 0 ≤ _), (by decide : 37 + 0 ≤ _)⟩)
      dsimp only [Pt.U, Pt.locs, Pt.cells, Pt.slots] at X54 l54 y54 z54 st54 hQ54
      subst l54 y54 z54
      obtain ⟨hv54, Nq54, e54⟩ := hQ54
      rw [show own_eqv _ _ = (1 : Int32) from if_pos rfl] at hv54
      subst hv54
      have N54 := Fr.app N53 Nq54
      refine own_go (fun zt zk => st54.trans zk) ?_
      show own_Go p e below s _ _ _ (T54.setTop (mkF m 286 #[iv p1, iv (1 : Int32), rv b18, rv o_OBJECT_PROPERTY, rv b50, rv o_OBJECT_PROPERTY] [(.int (1 : Int32))]))
      refine own_go (fun zt zk => (XS.ifNo X54.here hx rfl (hb hby at_286) rfl ((if0 _ _).trans (feq ((by decide) : ¬ ((1 : Int32) = (0 : Int32)))).1) (XS.iconst X54.here hx rfl (hb hby at_289) (XS.goto X54.here hx rfl (pc0 := 290) (pc' := 294) rfl (hb hby at_290) (by decide) (by decide) zk)))) ?_
      show own_Go p e below s _ _ _ (T54.setTop (mkF m 294 #[iv p1, iv (1 : Int32), rv b18, rv o_OBJECT_PROPERTY, rv b50, rv o_OBJECT_PROPERTY] [(.int (1 : Int32))]))
      exact own_fin X54 Bd.notSynchronized (fun h => by rw [Bd.returns] at h; cases h) (fun fs hr => retN X54 hx (t := .boolean) Bd.returns (by simp) (hb hby at_294) hr) (by rw [e54]; exact ⟨rfl, N54⟩) (by decide) (by decide)
    · have hk2_k : k = (2 : Int32) := Int32.toInt_inj.mp (by have a := own_mod (D := 3) rfl (by decide) hv_k; have b := own_ne 0 rfl hk0_k; have c := own_ne 1 rfl hk1_k; show k.toInt = 2; omega)
      subst hk2_k
      show own_Go p e below s _ _ _ (s₁.setTop (mkF m 7 #[iv p1, iv (2 : Int32), .unset, .unset, .unset, .unset] []))
      refine own_go (fun zt zk => (XS.iloadN X0.here hx rfl (hb hby at_7) rfl (XS.ifYes X0.here hx rfl (pc0 := 8) (pc' := 47) rfl (hb hby at_8) rfl ((if0 _ _).trans (feq ((by decide) : ¬ ((2 : Int32) = (0 : Int32)))).2) (by decide) (by decide) (XS.iloadN X0.here hx rfl (hb hby at_47) rfl (XS.iconst X0.here hx rfl (hb hby at_48) (XS.icmpYes X0.here hx rfl (pc0 := 49) (pc' := 148) rfl (hb hby at_49) rfl (feq ((by decide) : ¬ ((2 : Int32) = (1 : Int32)))).2 (by decide) (by decide) (XS.bipush X0.here hx rfl (hb hby at_148) zk))))))) ?_
      show own_Go p e below s _ _ _ (s₁.setTop (mkF m 150 #[iv p1, iv (2 : Int32), .unset, .unset, .unset, .unset] [(.int (17 : Int32))]))
      obtain ⟨T55, h55, k55, X55, e55, E55, A55, Ea55, st55⟩ := newPE X0 hx hZ (hw _ (List.mem_of_getElem? (i := 1) rfl)) e0 (g := (mkF m 150 #[iv p1, iv (2 : Int32), .unset, .unset, .unset, .unset] [(.int (17 : Int32))])) rfl (hb hby at_150) rfl (by decide) (cap := 17) (by decide) (by decide) (by decide) (by decide) (ad := "[C") (by decide)
      obtain ⟨b55, g55⟩ : ∃ z, z = h0.size := ⟨_, rfl⟩
      rw [← g55] at A55 Ea55 st55
      refine own_go st55 ?_
      have ne_o_CLASS_b55 : o_CLASS ≠ b55 := Nat.ne_of_lt (Nat.lt_of_lt_of_le (Ex_o_CLASS.ext O.2).lt (Nat.le_of_eq g55.symm))
      have ne_o__VALUES_b55 : o__VALUES ≠ b55 := Nat.ne_of_lt (Nat.lt_of_lt_of_le (Ex_o__VALUES.ext O.2).lt (Nat.le_of_eq g55.symm))
      have ne_o_OBJECT_PROPERTY_b55 : o_OBJECT_PROPERTY ≠ b55 := Nat.ne_of_lt (Nat.lt_of_lt_of_le (Ex_o_OBJECT_PROPERTY.ext O.2).lt (Nat.le_of_eq g55.symm))
      have ne_o_DATA_PROPERTY_b55 : o_DATA_PROPERTY ≠ b55 := Nat.ne_of_lt (Nat.lt_of_lt_of_le (Ex_o_DATA_PROPERTY.ext O.2).lt (Nat.le_of_eq g55.symm))
      have ne_o_CLASS_label_b55 : o_CLASS_label ≠ b55 := Nat.ne_of_lt (Nat.lt_of_lt_of_le (Ex_o_CLASS_label.ext O.2).lt (Nat.le_of_eq g55.symm))
      have ne_o_OBJECT_PROPERTY_label_b55 : o_OBJECT_PROPERTY_label ≠ b55 := Nat.ne_of_lt (Nat.lt_of_lt_of_le (Ex_o_OBJECT_PROPERTY_label.ext O.2).lt (Nat.le_of_eq g55.symm))
      have ne_o_DATA_PROPERTY_label_b55 : o_DATA_PROPERTY_label ≠ b55 := Nat.ne_of_lt (Nat.lt_of_lt_of_le (Ex_o_DATA_PROPERTY_label.ext O.2).lt (Nat.le_of_eq g55.symm))
      have ne_o_CLASS_label_value_b55 : o_CLASS_label_value ≠ b55 := Nat.ne_of_lt (Nat.lt_of_lt_of_le (V_o_CLASS_label_value.ext O.2).lt (Nat.le_of_eq g55.symm))
      have ne_o_OBJECT_PROPERTY_label_value_b55 : o_OBJECT_PROPERTY_label_value ≠ b55 := Nat.ne_of_lt (Nat.lt_of_lt_of_le (V_o_OBJECT_PROPERTY_label_value.ext O.2).lt (Nat.le_of_eq g55.symm))
      have ne_o_DATA_PROPERTY_label_value_b55 : o_DATA_PROPERTY_label_value ≠ b55 := Nat.ne_of_lt (Nat.lt_of_lt_of_le (V_o_DATA_PROPERTY_label_value.ext O.2).lt (Nat.le_of_eq g55.symm))
      have sz_b55 : h0.size ≤ b55 := Nat.le_trans Kp.1 (Nat.le_of_eq g55.symm)
      have g_b55 : n0 ≤ b55 := Nat.le_trans Z0 sz_b55
      replace O := O.ext E55
      replace Kp := Kp.ext E55
      have V_b55 : Arv Z h55 b55 k55 .char (17 : Int32) [(.int (0 : Int32)), (.int (0 : Int32)), (.int (0 : Int32)), (.int (0 : Int32)), (.int (0 : Int32)), (.int (0 : Int32)), (.int (0 : Int32)), (.int (0 : Int32)), (.int (0 : Int32)), (.int (0 : Int32)), (.int (0 : Int32)), (.int (0 : Int32)), (.int (0 : Int32)), (.int (0 : Int32)), (.int (0 : Int32)), (.int (0 : Int32)), (.int (0 : Int32))] (.int (0 : Int32)) := (Arv.new A55 (by decide)).pad (pad_rep [] (.int (0 : Int32)) 17)
      have Ea_b55 := Ea55
      show own_Go p e below s _ _ _ (T55.setTop (mkF m 152 #[iv p1, iv (2 : Int32), .unset, .unset, .unset, .unset] [(.ref b55)]))
      refine own_go (fun zt zk => (XS.dup X55.here hx rfl (hb hby at_152) rfl rfl (XS.iconst X55.here hx rfl (hb hby at_153) (XS.bipush X55.here hx rfl (hb hby at_154) zk)))) ?_
      show own_Go p e below s _ _ _ (T55.setTop (mkF m 156 #[iv p1, iv (2 : Int32), .unset, .unset, .unset, .unset] [(.int (100 : Int32)), (.int (0 : Int32)), (.ref b55), (.ref b55)]))
      obtain ⟨cl56, Ar56, q56, Sz56, Nz56, Ha56, Ga56⟩ := id V_b55
      have hin56 : ¬ ((0 : Int32) < 0 ∨ cl56.slots.size ≤ ((0 : Int32)).toNatClampNeg) := inb_of Sz56 ⟨by decide, by decide⟩
      obtain ⟨T57, h57, X57, e57, W57, st57⟩ := stC X55 hx hZ e55 Ar56 (j := (0 : Int32)) hin56 (g := (mkF m 156 #[iv p1, iv (2 : Int32), .unset, .unset, .unset, .unset] [(.int (100 : Int32)), (.int (0 : Int32)), (.ref b55), (.ref b55)])) rfl rfl (hb hby at_156)
      refine own_go st57 ?_
      replace W57 : Wr h55 h57 b55 _ (.int (100 : Int32)) := W57
      have V57 := Arv.set Ar56 q56 Sz56 Nz56 Ha56 Ga56 (by decide) W57 0 rfl (Nat.le_of_ble_eq_true rfl)
      have N57 := Fr.snoc X57 N0 g_b55
      replace O := O.wr W57 g_b55
      replace Kp := Kp.wr W57 (Or.inr sz_b55)
      replace Ea_b55 := Ea_b55.wr W57
      replace V_b55 : Arv Z h57 b55 k55 .char (17 : Int32) [(.int (100 : Int32)), (.int (0 : Int32)), (.int (0 : Int32)), (.int (0 : Int32)), (.int (0 : Int32)), (.int (0 : Int32)), (.int (0 : Int32)), (.int (0 : Int32)), (.int (0 : Int32)), (.int (0 : Int32)), (.int (0 : Int32)), (.int (0 : Int32)), (.int (0 : Int32)), (.int (0 : Int32)), (.int (0 : Int32)), (.int (0 : Int32)), (.int (0 : Int32))] (.int (0 : Int32)) := V57
      show own_Go p e below s _ _ _ (T57.setTop (mkF m 157 #[iv p1, iv (2 : Int32), .unset, .unset, .unset, .unset] [(.ref b55)]))
      refine own_go (fun zt zk => (XS.dup X57.here hx rfl (hb hby at_157) rfl rfl (XS.iconst X57.here hx rfl (hb hby at_158) (XS.bipush X57.here hx rfl (hb hby at_159) zk)))) ?_
      show own_Go p e below s _ _ _ (T57.setTop (mkF m 161 #[iv p1, iv (2 : Int32), .unset, .unset, .unset, .unset] [(.int (97 : Int32)), (.int (1 : Int32)), (.ref b55), (.ref b55)]))
      obtain ⟨cl58, Ar58, q58, Sz58, Nz58, Ha58, Ga58⟩ := id V_b55
      have hin58 : ¬ ((1 : Int32) < 0 ∨ cl58.slots.size ≤ ((1 : Int32)).toNatClampNeg) := inb_of Sz58 ⟨by decide, by decide⟩
      obtain ⟨T59, h59, X59, e59, W59, st59⟩ := stC X57 hx hZ e57 Ar58 (j := (1 : Int32)) hin58 (g := (mkF m 161 #[iv p1, iv (2 : Int32), .unset, .unset, .unset, .unset] [(.int (97 : Int32)), (.int (1 : Int32)), (.ref b55), (.ref b55)])) rfl rfl (hb hby at_161)
      refine own_go st59 ?_
      replace W59 : Wr h57 h59 b55 _ (.int (97 : Int32)) := W59
      have V59 := Arv.set Ar58 q58 Sz58 Nz58 Ha58 Ga58 (by decide) W59 1 rfl (Nat.le_of_ble_eq_true rfl)
      have N59 := Fr.snoc X59 N57 g_b55
      replace O := O.wr W59 g_b55
      replace Kp := Kp.wr W59 (Or.inr sz_b55)
      replace Ea_b55 := Ea_b55.wr W59
      replace V_b55 : Arv Z h59 b55 k55 .char (17 : Int32) [(.int (100 : Int32)), (.int (97 : Int32)), (.int (0 : Int32)), (.int (0 : Int32)), (.int (0 : Int32)), (.int (0 : Int32)), (.int (0 : Int32)), (.int (0 : Int32)), (.int (0 : Int32)), (.int (0 : Int32)), (.int (0 : Int32)), (.int (0 : Int32)), (.int (0 : Int32)), (.int (0 : Int32)), (.int (0 : Int32)), (.int (0 : Int32)), (.int (0 : Int32))] (.int (0 : Int32)) := V59
      show own_Go p e below s _ _ _ (T59.setTop (mkF m 162 #[iv p1, iv (2 : Int32), .unset, .unset, .unset, .unset] [(.ref b55)]))
      refine own_go (fun zt zk => (XS.dup X59.here hx rfl (hb hby at_162) rfl rfl (XS.iconst X59.here hx rfl (hb hby at_163) (XS.bipush X59.here hx rfl (hb hby at_164) zk)))) ?_
      show own_Go p e below s _ _ _ (T59.setTop (mkF m 166 #[iv p1, iv (2 : Int32), .unset, .unset, .unset, .unset] [(.int (116 : Int32)), (.int (2 : Int32)), (.ref b55), (.ref b55)]))
      obtain ⟨cl60, Ar60, q60, Sz60, Nz60, Ha60, Ga60⟩ := id V_b55
      have hin60 : ¬ ((2 : Int32) < 0 ∨ cl60.slots.size ≤ ((2 : Int32)).toNatClampNeg) := inb_of Sz60 ⟨by decide, by decide⟩
      obtain ⟨T61, h61, X61, e61, W61, st61⟩ := stC X59 hx hZ e59 Ar60 (j := (2 : Int32)) hin60 (g := (mkF m 166 #[iv p1, iv (2 : Int32), .unset, .unset, .unset, .unset] [(.int (116 : Int32)), (.int (2 : Int32)), (.ref b55), (.ref b55)])) rfl rfl (hb hby at_166)
      refine own_go st61 ?_
      replace W61 : Wr h59 h61 b55 _ (.int (116 : Int32)) := W61
      have V61 := Arv.set Ar60 q60 Sz60 Nz60 Ha60 Ga60 (by decide) W61 2 rfl (Nat.le_of_ble_eq_true rfl)
      have N61 := Fr.snoc X61 N59 g_b55
      replace O := O.wr W61 g_b55
      replace Kp := Kp.wr W61 (Or.inr sz_b55)
      replace Ea_b55 := Ea_b55.wr W61
      replace V_b55 : Arv Z h61 b55 k55 .char (17 : Int32) [(.int (100 : Int32)), (.int (97 : Int32)), (.int (116 : Int32)), (.int (0 : Int32)), (.int (0 : Int32)), (.int (0 : Int32)), (.int (0 : Int32)), (.int (0 : Int32)), (.int (0 : Int32)), (.int (0 : Int32)), (.int (0 : Int32)), (.int (0 : Int32)), (.int (0 : Int32)), (.int (0 : Int32)), (.int (0 : Int32)), (.int (0 : Int32)), (.int (0 : Int32))] (.int (0 : Int32)) := V61
      show own_Go p e below s _ _ _ (T61.setTop (mkF m 167 #[iv p1, iv (2 : Int32), .unset, .unset, .unset, .unset] [(.ref b55)]))
      refine own_go (fun zt zk => (XS.dup X61.here hx rfl (hb hby at_167) rfl rfl (XS.iconst X61.here hx rfl (hb hby at_168) (XS.bipush X61.here hx rfl (hb hby at_169) zk)))) ?_
      show own_Go p e below s _ _ _ (T61.setTop (mkF m 171 #[iv p1, iv (2 : Int32), .unset, .unset, .unset, .unset] [(.int (97 : Int32)), (.int (3 : Int32)), (.ref b55), (.ref b55)]))
      obtain ⟨cl62, Ar62, q62, Sz62, Nz62, Ha62, Ga62⟩ := id V_b55
      have hin62 : ¬ ((3 : Int32) < 0 ∨ cl62.slots.size ≤ ((3 : Int32)).toNatClampNeg) := inb_of Sz62 ⟨by decide, by decide⟩
      obtain ⟨T63, h63, X63, e63, W63, st63⟩ := stC X61 hx hZ e61 Ar62 (j := (3 : Int32)) hin62 (g := (mkF m 171 #[iv p1, iv (2 : Int32), .unset, .unset, .unset, .unset] [(.int (97 : Int32)), (.int (3 : Int32)), (.ref b55), (.ref b55)])) rfl rfl (hb hby at_171)
      refine own_go st63 ?_
      replace W63 : Wr h61 h63 b55 _ (.int (97 : Int32)) := W63
      have V63 := Arv.set Ar62 q62 Sz62 Nz62 Ha62 Ga62 (by decide) W63 3 rfl (Nat.le_of_ble_eq_true rfl)
      have N63 := Fr.snoc X63 N61 g_b55
      replace O := O.wr W63 g_b55
      replace Kp := Kp.wr W63 (Or.inr sz_b55)
      replace Ea_b55 := Ea_b55.wr W63
      replace V_b55 : Arv Z h63 b55 k55 .char (17 : Int32) [(.int (100 : Int32)), (.int (97 : Int32)), (.int (116 : Int32)), (.int (97 : Int32)), (.int (0 : Int32)), (.int (0 : Int32)), (.int (0 : Int32)), (.int (0 : Int32)), (.int (0 : Int32)), (.int (0 : Int32)), (.int (0 : Int32)), (.int (0 : Int32)), (.int (0 : Int32)), (.int (0 : Int32)), (.int (0 : Int32)), (.int (0 : Int32)), (.int (0 : Int32))] (.int (0 : Int32)) := V63
      show own_Go p e below s _ _ _ (T63.setTop (mkF m 172 #[iv p1, iv (2 : Int32), .unset, .unset, .unset, .unset] [(.ref b55)]))
      refine own_go (fun zt zk => (XS.dup X63.here hx rfl (hb hby at_172) rfl rfl (XS.iconst X63.here hx rfl (hb hby at_173) (XS.bipush X63.here hx rfl (hb hby at_174) zk)))) ?_
      show own_Go p e below s _ _ _ (T63.setTop (mkF m 176 #[iv p1, iv (2 : Int32), .unset, .unset, .unset, .unset] [(.int (116 : Int32)), (.int (4 : Int32)), (.ref b55), (.ref b55)]))
      obtain ⟨cl64, Ar64, q64, Sz64, Nz64, Ha64, Ga64⟩ := id V_b55
      have hin64 : ¬ ((4 : Int32) < 0 ∨ cl64.slots.size ≤ ((4 : Int32)).toNatClampNeg) := inb_of Sz64 ⟨by decide, by decide⟩
      obtain ⟨T65, h65, X65, e65, W65, st65⟩ := stC X63 hx hZ e63 Ar64 (j := (4 : Int32)) hin64 (g := (mkF m 176 #[iv p1, iv (2 : Int32), .unset, .unset, .unset, .unset] [(.int (116 : Int32)), (.int (4 : Int32)), (.ref b55), (.ref b55)])) rfl rfl (hb hby at_176)
      refine own_go st65 ?_
      replace W65 : Wr h63 h65 b55 _ (.int (116 : Int32)) := W65
      have V65 := Arv.set Ar64 q64 Sz64 Nz64 Ha64 Ga64 (by decide) W65 4 rfl (Nat.le_of_ble_eq_true rfl)
      have N65 := Fr.snoc X65 N63 g_b55
      replace O := O.wr W65 g_b55
      replace Kp := Kp.wr W65 (Or.inr sz_b55)
      replace Ea_b55 := Ea_b55.wr W65
      replace V_b55 : Arv Z h65 b55 k55 .char (17 : Int32) [(.int (100 : Int32)), (.int (97 : Int32)), (.int (116 : Int32)), (.int (97 : Int32)), (.int (116 : Int32)), (.int (0 : Int32)), (.int (0 : Int32)), (.int (0 : Int32)), (.int (0 : Int32)), (.int (0 : Int32)), (.int (0 : Int32)), (.int (0 : Int32)), (.int (0 : Int32)), (.int (0 : Int32)), (.int (0 : Int32)), (.int (0 : Int32)), (.int (0 : Int32))] (.int (0 : Int32)) := V65
      show own_Go p e below s _ _ _ (T65.setTop (mkF m 177 #[iv p1, iv (2 : Int32), .unset, .unset, .unset, .unset] [(.ref b55)]))
      refine own_go (fun zt zk => (XS.dup X65.here hx rfl (hb hby at_177) rfl rfl (XS.iconst X65.here hx rfl (hb hby at_178) (XS.bipush X65.here hx rfl (hb hby at_179) zk)))) ?_
      show own_Go p e below s _ _ _ (T65.setTop (mkF m 181 #[iv p1, iv (2 : Int32), .unset, .unset, .unset, .unset] [(.int (121 : Int32)), (.int (5 : Int32)), (.ref b55), (.ref b55)]))
      obtain ⟨cl66, Ar66, q66, Sz66, Nz66, Ha66, Ga66⟩ := id V_b55
      have hin66 : ¬ ((5 : Int32) < 0 ∨ cl66.slots.size ≤ ((5 : Int32)).toNatClampNeg) := inb_of Sz66 ⟨by decide, by decide⟩
      obtain ⟨T67, h67, X67, e67, W67, st67⟩ := stC X65 hx hZ e65 Ar66 (j := (5 : Int32)) hin66 (g := (mkF m 181 #[iv p1, iv (2 : Int32), .unset, .unset, .unset, .unset] [(.int (121 : Int32)), (.int (5 : Int32)), (.ref b55), (.ref b55)])) rfl rfl (hb hby at_181)
      refine own_go st67 ?_
      replace W67 : Wr h65 h67 b55 _ (.int (121 : Int32)) := W67
      have V67 := Arv.set Ar66 q66 Sz66 Nz66 Ha66 Ga66 (by decide) W67 5 rfl (Nat.le_of_ble_eq_true rfl)
      have N67 := Fr.snoc X67 N65 g_b55
      replace O := O.wr W67 g_b55
      replace Kp := Kp.wr W67 (Or.inr sz_b55)
      replace Ea_b55 := Ea_b55.wr W67
      replace V_b55 : Arv Z h67 b55 k55 .char (17 : Int32) [(.int (100 : Int32)), (.int (97 : Int32)), (.int (116 : Int32)), (.int (97 : Int32)), (.int (116 : Int32)), (.int (121 : Int32)), (.int (0 : Int32)), (.int (0 : Int32)), (.int (0 : Int32)), (.int (0 : Int32)), (.int (0 : Int32)), (.int (0 : Int32)), (.int (0 : Int32)), (.int (0 : Int32)), (.int (0 : Int32)), (.int (0 : Int32)), (.int (0 : Int32))] (.int (0 : Int32)) := V67
      show own_Go p e below s _ _ _ (T67.setTop (mkF m 182 #[iv p1, iv (2 : Int32), .unset, .unset, .unset, .unset] [(.ref b55)]))
      refine own_go (fun zt zk => (XS.dup X67.here hx rfl (hb hby at_182) rfl rfl (XS.bipush X67.here hx rfl (hb hby at_183) (XS.bipush X67.here hx rfl (hb hby at_185) zk)))) ?_
      show own_Go p e below s _ _ _ (T67.setTop (mkF m 187 #[iv p1, iv (2 : Int32), .unset, .unset, .unset, .unset] [(.int (112 : Int32)), (.int (6 : Int32)), (.ref b55), (.ref b55)]))
      obtain ⟨cl68, Ar68, q68, Sz68, Nz68, Ha68, Ga68⟩ := id V_b55
      have hin68 : ¬ ((6 : Int32) < 0 ∨ cl68.slots.size ≤ ((6 : Int32)).toNatClampNeg) := inb_of Sz68 ⟨by decide, by decide⟩
      obtain ⟨T69, h69, X69, e69, W69, st69⟩ := stC X67 hx hZ e67 Ar68 (j := (6 : Int32)) hin68 (g := (mkF m 187 #[iv p1, iv (2 : Int32), .unset, .unset, .unset, .unset] [(.int (112 : Int32)), (.int (6 : Int32)), (.ref b55), (.ref b55)])) rfl rfl (hb hby at_187)
      refine own_go st69 ?_
      replace W69 : Wr h67 h69 b55 _ (.int (112 : Int32)) := W69
      have V69 := Arv.set Ar68 q68 Sz68 Nz68 Ha68 Ga68 (by decide) W69 6 rfl (Nat.le_of_ble_eq_true rfl)
      have N69 := Fr.snoc X69 N67 g_b55
      replace O := O.wr W69 g_b55
      replace Kp := Kp.wr W69 (Or.inr sz_b55)
      replace Ea_b55 := Ea_b55.wr W69
      replace V_b55 : Arv Z h69 b55 k55 .char (17 : Int32) [(.int (100 : Int32)), (.int (97 : Int32)), (.int (116 : Int32)), (.int (97 : Int32)), (.int (116 : Int32)), (.int (121 : Int32)), (.int (112 : Int32)), (.int (0 : Int32)), (.int (0 : Int32)), (.int (0 : Int32)), (.int (0 : Int32)), (.int (0 : Int32)), (.int (0 : Int32)), (.int (0 : Int32)), (.int (0 : Int32)), (.int (0 : Int32)), (.int (0 : Int32))] (.int (0 : Int32)) := V69
      show own_Go p e below s _ _ _ (T69.setTop (mkF m 188 #[iv p1, iv (2 : Int32), .unset, .unset, .unset, .unset] [(.ref b55)]))
      refine own_go (fun zt zk => (XS.dup X69.here hx rfl (hb hby at_188) rfl rfl (XS.bipush X69.here hx rfl (hb hby at_189) (XS.bipush X69.here hx rfl (hb hby at_191) zk)))) ?_
      show own_Go p e below s _ _ _ (T69.setTop (mkF m 193 #[iv p1, iv (2 : Int32), .unset, .unset, .unset, .unset] [(.int (101 : Int32)), (.int (7 : Int32)), (.ref b55), (.ref b55)]))
      obtain ⟨cl70, Ar70, q70, Sz70, Nz70, Ha70, Ga70⟩ := id V_b55
      have hin70 : ¬ ((7 : Int32) < 0 ∨ cl70.slots.size ≤ ((7 : Int32)).toNatClampNeg) := inb_of Sz70 ⟨by decide, by decide⟩
      obtain ⟨T71, h71, X71, e71, W71, st71⟩ := stC X69 hx hZ e69 Ar70 (j := (7 : Int32)) hin70 (g := (mkF m 193 #[iv p1, iv (2 : Int32), .unset, .unset, .unset, .unset] [(.int (101 : Int32)), (.int (7 : Int32)), (.ref b55), (.ref b55)])) rfl rfl (hb hby at_193)
      refine own_go st71 ?_
      replace W71 : Wr h69 h71 b55 _ (.int (101 : Int32)) := W71
      have V71 := Arv.set Ar70 q70 Sz70 Nz70 Ha70 Ga70 (by decide) W71 7 rfl (Nat.le_of_ble_eq_true rfl)
      have N71 := Fr.snoc X71 N69 g_b55
      replace O := O.wr W71 g_b55
      replace Kp := Kp.wr W71 (Or.inr sz_b55)
      replace Ea_b55 := Ea_b55.wr W71
      replace V_b55 : Arv Z h71 b55 k55 .char (17 : Int32) [(.int (100 : Int32)), (.int (97 : Int32)), (.int (116 : Int32)), (.int (97 : Int32)), (.int (116 : Int32)), (.int (121 : Int32)), (.int (112 : Int32)), (.int (101 : Int32)), (.int (0 : Int32)), (.int (0 : Int32)), (.int (0 : Int32)), (.int (0 : Int32)), (.int (0 : Int32)), (.int (0 : Int32)), (.int (0 : Int32)), (.int (0 : Int32)), (.int (0 : Int32))] (.int (0 : Int32)) := V71
      show own_Go p e below s _ _ _ (T71.setTop (mkF m 194 #[iv p1, iv (2 : Int32), .unset, .unset, .unset, .unset] [(.ref b55)]))
      refine own_go (fun zt zk => (XS.dup X71.here hx rfl (hb hby at_194) rfl rfl (XS.bipush X71.here hx rfl (hb hby at_195) (XS.bipush X71.here hx rfl (hb hby at_197) zk)))) ?_
      show own_Go p e below s _ _ _ (T71.setTop (mkF m 199 #[iv p1, iv (2 : Int32), .unset, .unset, .unset, .unset] [(.int (32 : Int32)), (.int (8 : Int32)), (.ref b55), (.ref b55)]))
      obtain ⟨cl72, Ar72, q72, Sz72, Nz72, Ha72, Ga72⟩ := id V_b55
      have hin72 : ¬ ((8 : Int32) < 0 ∨ cl72.slots.size ≤ ((8 : Int32)).toNatClampNeg) := inb_of Sz72 ⟨by decide, by decide⟩
      obtain ⟨T73, h73, X73, e73, W73, st73⟩ := stC X71 hx hZ e71 Ar72 (j := (8 : Int32)) hin72 (g := (mkF m 199 #[iv p1, iv (2 : Int32), .unset, .unset, .unset, .unset] [(.int (32 : Int32)), (.int (8 : Int32)), (.ref b55), (.ref b55)])) rfl rfl (hb hby at_199)
      refine own_go st73 ?_
      replace W73 : Wr h71 h73 b55 _ (.int (32 : Int32)) := W73
      have V73 := Arv.set Ar72 q72 Sz72 Nz72 Ha72 Ga72 (by decide) W73 8 rfl (Nat.le_of_ble_eq_true rfl)
      have N73 := Fr.snoc X73 N71 g_b55
      replace O := O.wr W73 g_b55
      replace Kp := Kp.wr W73 (Or.inr sz_b55)
      replace Ea_b55 := Ea_b55.wr W73
      replace V_b55 : Arv Z h73 b55 k55 .char (17 : Int32) [(.int (100 : Int32)), (.int (97 : Int32)), (.int (116 : Int32)), (.int (97 : Int32)), (.int (116 : Int32)), (.int (121 : Int32)), (.int (112 : Int32)), (.int (101 : Int32)), (.int (32 : Int32)), (.int (0 : Int32)), (.int (0 : Int32)), (.int (0 : Int32)), (.int (0 : Int32)), (.int (0 : Int32)), (.int (0 : Int32)), (.int (0 : Int32)), (.int (0 : Int32))] (.int (0 : Int32)) := V73
      show own_Go p e below s _ _ _ (T73.setTop (mkF m 200 #[iv p1, iv (2 : Int32), .unset, .unset, .unset, .unset] [(.ref b55)]))
      refine own_go (fun zt zk => (XS.dup X73.here hx rfl (hb hby at_200) rfl rfl (XS.bipush X73.here hx rfl (hb hby at_201) (XS.bipush X73.here hx rfl (hb hby at_203) zk)))) ?_
      show own_Go p e below s _ _ _ (T73.setTop (mkF m 205 #[iv p1, iv (2 : Int32), .unset, .unset, .unset, .unset] [(.int (112 : Int32)), (.int (9 : Int32)), (.ref b55), (.ref b55)]))
      obtain ⟨cl74, Ar74, q74, Sz74, Nz74, Ha74, Ga74⟩ := id V_b55
      have hin74 : ¬ ((9 : Int32) < 0 ∨ cl74.slots.size ≤ ((9 : Int32)).toNatClampNeg) := inb_of Sz74 ⟨by decide, by decide⟩
      obtain ⟨T75, h75, X75, e75, W75, st75⟩ := stC X73 hx hZ e73 Ar74 (j := (9 : Int32)) hin74 (g := (mkF m 205 #[iv p1, iv (2 : Int32), .unset, .unset, .unset, .unset] [(.int (112 : Int32)), (.int (9 : Int32)), (.ref b55), (.ref b55)])) rfl rfl (hb hby at_205)
      refine own_go st75 ?_
      replace W75 : Wr h73 h75 b55 _ (.int (112 : Int32)) := W75
      have V75 := Arv.set Ar74 q74 Sz74 Nz74 Ha74 Ga74 (by decide) W75 9 rfl (Nat.le_of_ble_eq_true rfl)
      have N75 := Fr.snoc X75 N73 g_b55
      replace O := O.wr W75 g_b55
      replace Kp := Kp.wr W75 (Or.inr sz_b55)
      replace Ea_b55 := Ea_b55.wr W75
      replace V_b55 : Arv Z h75 b55 k55 .char (17 : Int32) [(.int (100 : Int32)), (.int (97 : Int32)), (.int (116 : Int32)), (.int (97 : Int32)), (.int (116 : Int32)), (.int (121 : Int32)), (.int (112 : Int32)), (.int (101 : Int32)), (.int (32 : Int32)), (.int (112 : Int32)), (.int (0 : Int32)), (.int (0 : Int32)), (.int (0 : Int32)), (.int (0 : Int32)), (.int (0 : Int32)), (.int (0 : Int32)), (.int (0 : Int32))] (.int (0 : Int32)) := V75
      show own_Go p e below s _ _ _ (T75.setTop (mkF m 206 #[iv p1, iv (2 : Int32), .unset, .unset, .unset, .unset] [(.ref b55)]))
      refine own_go (fun zt zk => (XS.dup X75.here hx rfl (hb hby at_206) rfl rfl (XS.bipush X75.here hx rfl (hb hby at_207) (XS.bipush X75.here hx rfl (hb hby at_209) zk)))) ?_
      show own_Go p e below s _ _ _ (T75.setTop (mkF m 211 #[iv p1, iv (2 : Int32), .unset, .unset, .unset, .unset] [(.int (114 : Int32)), (.int (10 : Int32)), (.ref b55), (.ref b55)]))
      obtain ⟨cl76, Ar76, q76, Sz76, Nz76, Ha76, Ga76⟩ := id V_b55
      have hin76 : ¬ ((10 : Int32) < 0 ∨ cl76.slots.size ≤ ((10 : Int32)).toNatClampNeg) := inb_of Sz76 ⟨by decide, by decide⟩
      obtain ⟨T77, h77, X77, e77, W77, st77⟩ := stC X75 hx hZ e75 Ar76 (j := (10 : Int32)) hin76 (g := (mkF m 211 #[iv p1, iv (2 : Int32), .unset, .unset, .unset, .unset] [(.int (114 : Int32)), (.int (10 : Int32)), (.ref b55), (.ref b55)])) rfl rfl (hb hby at_211)
      refine own_go st77 ?_
      replace W77 : Wr h75 h77 b55 _ (.int (114 : Int32)) := W77
      have V77 := Arv.set Ar76 q76 Sz76 Nz76 Ha76 Ga76 (by decide) W77 10 rfl (Nat.le_of_ble_eq_true rfl)
      have N77 := Fr.snoc X77 N75 g_b55
      replace O := O.wr W77 g_b55
      replace Kp := Kp.wr W77 (Or.inr sz_b55)
      replace Ea_b55 := Ea_b55.wr W77
      replace V_b55 : Arv Z h77 b55 k55 .char (17 : Int32) [(.int (100 : Int32)), (.int (97 : Int32)), (.int (116 : Int32)), (.int (97 : Int32)), (.int (116 : Int32)), (.int (121 : Int32)), (.int (112 : Int32)), (.int (101 : Int32)), (.int (32 : Int32)), (.int (112 : Int32)), (.int (114 : Int32)), (.int (0 : Int32)), (.int (0 : Int32)), (.int (0 : Int32)), (.int (0 : Int32)), (.int (0 : Int32)), (.int (0 : Int32))] (.int (0 : Int32)) := V77
      show own_Go p e below s _ _ _ (T77.setTop (mkF m 212 #[iv p1, iv (2 : Int32), .unset, .unset, .unset, .unset] [(.ref b55)]))
      refine own_go (fun zt zk => (XS.dup X77.here hx rfl (hb hby at_212) rfl rfl (XS.bipush X77.here hx rfl (hb hby at_213) (XS.bipush X77.here hx rfl (hb hby at_215) zk)))) ?_
      show own_Go p e below s _ _ _ (T77.setTop (mkF m 217 #[iv p1, iv (2 : Int32), .unset, .unset, .unset, .unset] [(.int (111 : Int32)), (.int (11 : Int32)), (.ref b55), (.ref b55)]))
      obtain ⟨cl78, Ar78, q78, Sz78, Nz78, Ha78, Ga78⟩ := id V_b55
      have hin78 : ¬ ((11 : Int32) < 0 ∨ cl78.slots.size ≤ ((11 : Int32)).toNatClampNeg) := inb_of Sz78 ⟨by decide, by decide⟩
      obtain ⟨T79, h79, X79, e79, W79, st79⟩ := stC X77 hx hZ e77 Ar78 (j := (11 : Int32)) hin78 (g := (mkF m 217 #[iv p1, iv (2 : Int32), .unset, .unset, .unset, .unset] [(.int (111 : Int32)), (.int (11 : Int32)), (.ref b55), (.ref b55)])) rfl rfl (hb hby at_217)
      refine own_go st79 ?_
      replace W79 : Wr h77 h79 b55 _ (.int (111 : Int32)) := W79
      have V79 := Arv.set Ar78 q78 Sz78 Nz78 Ha78 Ga78 (by decide) W79 11 rfl (Nat.le_of_ble_eq_true rfl)
      have N79 := Fr.snoc X79 N77 g_b55
      replace O := O.wr W79 g_b55
      replace Kp := Kp.wr W79 (Or.inr sz_b55)
      replace Ea_b55 := Ea_b55.wr W79
      replace V_b55 : Arv Z h79 b55 k55 .char (17 : Int32) [(.int (100 : Int32)), (.int (97 : Int32)), (.int (116 : Int32)), (.int (97 : Int32)), (.int (116 : Int32)), (.int (121 : Int32)), (.int (112 : Int32)), (.int (101 : Int32)), (.int (32 : Int32)), (.int (112 : Int32)), (.int (114 : Int32)), (.int (111 : Int32)), (.int (0 : Int32)), (.int (0 : Int32)), (.int (0 : Int32)), (.int (0 : Int32)), (.int (0 : Int32))] (.int (0 : Int32)) := V79
      show own_Go p e below s _ _ _ (T79.setTop (mkF m 218 #[iv p1, iv (2 : Int32), .unset, .unset, .unset, .unset] [(.ref b55)]))
      refine own_go (fun zt zk => (XS.dup X79.here hx rfl (hb hby at_218) rfl rfl (XS.bipush X79.here hx rfl (hb hby at_219) (XS.bipush X79.here hx rfl (hb hby at_221) zk)))) ?_
      show own_Go p e below s _ _ _ (T79.setTop (mkF m 223 #[iv p1, iv (2 : Int32), .unset, .unset, .unset, .unset] [(.int (112 : Int32)), (.int (12 : Int32)), (.ref b55), (.ref b55)]))
      obtain ⟨cl80, Ar80, q80, Sz80, Nz80, Ha80, Ga80⟩ := id V_b55
      have hin80 : ¬ ((12 : Int32) < 0 ∨ cl80.slots.size ≤ ((12 : Int32)).toNatClampNeg) := inb_of Sz80 ⟨by decide, by decide⟩
      obtain ⟨T81, h81, X81, e81, W81, st81⟩ := stC X79 hx hZ e79 Ar80 (j := (12 : Int32)) hin80 (g := (mkF m 223 #[iv p1, iv (2 : Int32), .unset, .unset, .unset, .unset] [(.int (112 : Int32)), (.int (12 : Int32)), (.ref b55), (.ref b55)])) rfl rfl (hb hby at_223)
      refine own_go st81 ?_
      replace W81 : Wr h79 h81 b55 _ (.int (112 : Int32)) := W81
      have V81 := Arv.set Ar80 q80 Sz80 Nz80 Ha80 Ga80 (by decide) W81 12 rfl (Nat.le_of_ble_eq_true rfl)
      have N81 := Fr.snoc X81 N79 g_b55
      replace O := O.wr W81 g_b55
      replace Kp := Kp.wr W81 (Or.inr sz_b55)
      replace Ea_b55 := Ea_b55.wr W81
      replace V_b55 : Arv Z h81 b55 k55 .char (17 : Int32) [(.int (100 : Int32)), (.int (97 : Int32)), (.int (116 : Int32)), (.int (97 : Int32)), (.int (116 : Int32)), (.int (121 : Int32)), (.int (112 : Int32)), (.int (101 : Int32)), (.int (32 : Int32)), (.int (112 : Int32)), (.int (114 : Int32)), (.int (111 : Int32)), (.int (112 : Int32)), (.int (0 : Int32)), (.int (0 : Int32)), (.int (0 : Int32)), (.int (0 : Int32))] (.int (0 : Int32)) := V81
      show own_Go p e below s _ _ _ (T81.setTop (mkF m 224 #[iv p1, iv (2 : Int32), .unset, .unset, .unset, .unset] [(.ref b55)]))
      refine own_go (fun zt zk => (XS.dup X81.here hx rfl (hb hby at_224) rfl rfl (XS.bipush X81.here hx rfl (hb hby at_225) (XS.bipush X81.here hx rfl (hb hby at_227) zk)))) ?_
      show own_Go p e below s _ _ _ (T81.setTop (mkF m 229 #[iv p1, iv (2 : Int32), .unset, .unset, .unset, .unset] [(.int (101 : Int32)), (.int (13 : Int32)), (.ref b55), (.ref b55)]))
      obtain ⟨cl82, Ar82, q82, Sz82, Nz82, Ha82, Ga82⟩ := id V_b55
      have hin82 : ¬ ((13 : Int32) < 0 ∨ cl82.slots.size ≤ ((13 : Int32)).toNatClampNeg) := inb_of Sz82 ⟨by decide, by decide⟩
      obtain ⟨T83, h83, X83, e83, W83, st83⟩ := stC X81 hx hZ e81 Ar82 (j := (13 : Int32)) hin82 (g := (mkF m 229 #[iv p1, iv (2 : Int32), .unset, .unset, .unset, .unset] [(.int (101 : Int32)), (.int (13 : Int32)), (.ref b55), (.ref b55)])) rfl rfl (hb hby at_229)
      refine own_go st83 ?_
      replace W83 : Wr h81 h83 b55 _ (.int (101 : Int32)) := W83
      have V83 := Arv.set Ar82 q82 Sz82 Nz82 Ha82 Ga82 (by decide) W83 13 rfl (Nat.le_of_ble_eq_true rfl)
      have N83 := Fr.snoc X83 N81 g_b55
      replace O := O.wr W83 g_b55
      replace Kp := Kp.wr W83 (Or.inr sz_b55)
      replace Ea_b55 := Ea_b55.wr W83
      replace V_b55 : Arv Z h83 b55 k55 .char (17 : Int32) [(.int (100 : Int32)), (.int (97 : Int32)), (.int (116 : Int32)), (.int (97 : Int32)), (.int (116 : Int32)), (.int (121 : Int32)), (.int (112 : Int32)), (.int (101 : Int32)), (.int (32 : Int32)), (.int (112 : Int32)), (.int (114 : Int32)), (.int (111 : Int32)), (.int (112 : Int32)), (.int (101 : Int32)), (.int (0 : Int32)), (.int (0 : Int32)), (.int (0 : Int32))] (.int (0 : Int32)) := V83
      show own_Go p e below s _ _ _ (T83.setTop (mkF m 230 #[iv p1, iv (2 : Int32), .unset, .unset, .unset, .unset] [(.ref b55)]))
      refine own_go (fun zt zk => (XS.dup X83.here hx rfl (hb hby at_230) rfl rfl (XS.bipush X83.here hx rfl (hb hby at_231) (XS.bipush X83.here hx rfl (hb hby at_233) zk)))) ?_
      show own_Go p e below s _ _ _ (T83.setTop (mkF m 235 #[iv p1, iv (2 : Int32), .unset, .unset, .unset, .unset] [(.int (114 : Int32)), (.int (14 : Int32)), (.ref b55), (.ref b55)]))
      obtain ⟨cl84, Ar84, q84, Sz84, Nz84, Ha84, Ga84⟩ := id V_b55
      have hin84 : ¬ ((14 : Int32) < 0 ∨ cl84.slots.size ≤ ((14 : Int32)).toNatClampNeg) := inb_of Sz84 ⟨by decide, by decide⟩
      obtain ⟨T85, h85, X85, e85, W85, st85⟩ := stC X83 hx hZ e83 Ar84 (j := (14 : Int32)) hin84 (g := (mkF m 235 #[iv p1, iv (2 : Int32), .unset, .unset, .unset, .unset] [(.int (114 : Int32)), (.int (14 : Int32)), (.ref b55), (.ref b55)])) rfl rfl (hb hby at_235)
      refine own_go st85 ?_
      replace W85 : Wr h83 h85 b55 _ (.int (114 : Int32)) := W85
      have V85 := Arv.set Ar84 q84 Sz84 Nz84 Ha84 Ga84 (by decide) W85 14 rfl (Nat.le_of_ble_eq_true rfl)
      have N85 := Fr.snoc X85 N83 g_b55
      replace O := O.wr W85 g_b55
      replace Kp := Kp.wr W85 (Or.inr sz_b55)
      replace Ea_b55 := Ea_b55.wr W85
      replace V_b55 : Arv Z h85 b55 k55 .char (17 : Int32) [(.int (100 : Int32)), (.int (97 : Int32)), (.int (116 : Int32)), (.int (97 : Int32)), (.int (116 : Int32)), (.int (121 : Int32)), (.int (112 : Int32)), (.int (101 : Int32)), (.int (32 : Int32)), (.int (112 : Int32)), (.int (114 : Int32)), (.int (111 : Int32)), (.int (112 : Int32)), (.int (101 : Int32)), (.int (114 : Int32)), (.int (0 : Int32)), (.int (0 : Int32))] (.int (0 : Int32)) := V85
      show own_Go p e below s _ _ _ (T85.setTop (mkF m 236 #[iv p1, iv (2 : Int32), .unset, .unset, .unset, .unset] [(.ref b55)]))
      refine own_go (fun zt zk => (XS.dup X85.here hx rfl (hb hby at_236) rfl rfl (XS.bipush X85.here hx rfl (hb hby at_237) (XS.bipush X85.here hx rfl (hb hby at_239) zk)))) ?_
      show own_Go p e below s _ _ _ (T85.setTop (mkF m 241 #[iv p1, iv (2 : Int32), .unset, .unset, .unset, .unset] [(.int (116 : Int32)), (.int (15 : Int32)), (.ref b55), (.ref b55)]))
      obtain ⟨cl86, Ar86, q86, Sz86, Nz86, Ha86, Ga86⟩ := id V_b55
      have hin86 : ¬ ((15 : Int32) < 0 ∨ cl86.slots.size ≤ ((15 : Int32)).toNatClampNeg) := inb_of Sz86 ⟨by decide, by decide⟩
      obtain ⟨T87, h87, X87, e87, W87, st87⟩ := stC X85 hx hZ e85 Ar86 (j := (15 : Int32)) hin86 (g := (mkF m 241 #[iv p1, iv (2 : Int32), .unset, .unset, .unset, .unset] [(.int (116 : Int32)), (.int (15 : Int32)), (.ref b55), (.ref b55)])) rfl rfl (hb hby at_241)
      refine own_go st87 ?_
      replace W87 : Wr h85 h87 b55 _ (.int (116 : Int32)) := W87
      have V87 := Arv.set Ar86 q86 Sz86 Nz86 Ha86 Ga86 (by decide) W87 15 rfl (Nat.le_of_ble_eq_true rfl)
      have N87 := Fr.snoc X87 N85 g_b55
      replace O := O.wr W87 g_b55
      replace Kp := Kp.wr W87 (Or.inr sz_b55)
      replace Ea_b55 := Ea_b55.wr W87
      replace V_b55 : Arv Z h87 b55 k55 .char (17 : Int32) [(.int (100 : Int32)), (.int (97 : Int32)), (.int (116 : Int32)), (.int (97 : Int32)), (.int (116 : Int32)), (.int (121 : Int32)), (.int (112 : Int32)), (.int (101 : Int32)), (.int (32 : Int32)), (.int (112 : Int32)), (.int (114 : Int32)), (.int (111 : Int32)), (.int (112 : Int32)), (.int (101 : Int32)), (.int (114 : Int32)), (.int (116 : Int32)), (.int (0 : Int32))] (.int (0 : Int32)) := V87
      show own_Go p e below s _ _ _ (T87.setTop (mkF m 242 #[iv p1, iv (2 : Int32), .unset, .unset, .unset, .unset] [(.ref b55)]))
      refine own_go (fun zt zk => (XS.dup X87.here hx rfl (hb hby at_242) rfl rfl (XS.bipush X87.here hx rfl (hb hby at_243) (XS.bipush X87.here hx rfl (hb hby at_245) zk)))) ?_
      show own_Go p e below s _ _ _ (T87.setTop (mkF m 247 #[iv p1, iv (2 : Int32), .unset, .unset, .unset, .unset] [(.int (121 : Int32)), (.int (16 : Int32)), (.ref b55), (.ref b55)]))
      obtain ⟨cl88, Ar88, q88, Sz88, Nz88, Ha88, Ga88⟩ := id V_b55
      have hin88 : ¬ ((16 : Int32) < 0 ∨ cl88.slots.size ≤ ((16 : Int32)).toNatClampNeg) := inb_of Sz88 ⟨by decide, by decide⟩
      obtain ⟨T89, h89, X89, e89, W89, st89⟩ := stC X87 hx hZ e87 Ar88 (j := (16 : Int32)) hin88 (g := (mkF m 247 #[iv p1, iv (2 : Int32), .unset, .unset, .unset, .unset] [(.int (121 : Int32)), (.int (16 : Int32)), (.ref b55), (.ref b55)])) rfl rfl (hb hby at_247)
      refine own_go st89 ?_
      replace W89 : Wr h87 h89 b55 _ (.int (121 : Int32)) := W89
      have V89 := Arv.set Ar88 q88 Sz88 Nz88 Ha88 Ga88 (by decide) W89 16 rfl (Nat.le_of_ble_eq_true rfl)
      have N89 := Fr.snoc X89 N87 g_b55
      replace O := O.wr W89 g_b55
      replace Kp := Kp.wr W89 (Or.inr sz_b55)
      replace Ea_b55 := Ea_b55.wr W89
      replace V_b55 : Arv Z h89 b55 k55 .char (17 : Int32) [(.int (100 : Int32)), (.int (97 : Int32)), (.int (116 : Int32)), (.int (97 : Int32)), (.int (116 : Int32)), (.int (121 : Int32)), (.int (112 : Int32)), (.int (101 : Int32)), (.int (32 : Int32)), (.int (112 : Int32)), (.int (114 : Int32)), (.int (111 : Int32)), (.int (112 : Int32)), (.int (101 : Int32)), (.int (114 : Int32)), (.int (116 : Int32)), (.int (121 : Int32))] (.int (0 : Int32)) := V89
      show own_Go p e below s _ _ _ (T89.setTop (mkF m 248 #[iv p1, iv (2 : Int32), .unset, .unset, .unset, .unset] [(.ref b55)]))
      refine own_go (fun zt zk => (XS.astoreN X89.here hx rfl (hb hby at_248) rfl rfl (l' := #[iv p1, iv (2 : Int32), rv b55, .unset, .unset, .unset]) rfl zk)) ?_
      show own_Go p e below s _ _ _ (T89.setTop (mkF m 249 #[iv p1, iv (2 : Int32), rv b55, .unset, .unset, .unset] []))
      obtain ⟨T90, X90, e90, st90⟩ := getS2 X89 hx hZ hown (host := "") (Or.inl (hw _ (List.mem_of_getElem? (i := 72) rfl))) Via.refl e89 (S_o_DATA_PROPERTY.ext O.2) (g := (mkF m 249 #[iv p1, iv (2 : Int32), rv b55, .unset, .unset, .unset] [])) rfl (hb hby at_249)
      refine own_go st90 ?_
      show own_Go p e below s _ _ _ (T90.setTop (mkF m 252 #[iv p1, iv (2 : Int32), rv b55, .unset, .unset, .unset] [(.ref o_DATA_PROPERTY)]))
      refine own_go (fun zt zk => (XS.astoreN X90.here hx rfl (hb hby at_252) rfl rfl (l' := #[iv p1, iv (2 : Int32), rv b55, rv o_DATA_PROPERTY, .unset, .unset]) rfl zk)) ?_
      show own_Go p e below s _ _ _ (T90.setTop (mkF m 253 #[iv p1, iv (2 : Int32), rv b55, rv o_DATA_PROPERTY, .unset, .unset] []))
      obtain ⟨T91, h91, X91, e91, E91, A91, D91, -, st91⟩ := newO X90 hx hZ hown (hw _ (List.mem_of_getElem? (i := 5) rfl)) (hw _ (List.mem_of_getElem? (i := 6) rfl)) (hw _ (List.mem_of_getElem? (i := 7) rfl)) e90 (g := (mkF m 253 #[iv p1, iv (2 : Int32), rv b55, rv o_DATA_PROPERTY, .unset, .unset] [])) rfl (hb hby at_253) (by decide) (by decide)
      obtain ⟨b91, g91⟩ : ∃ z, z = h89.size := ⟨_, rfl⟩
      rw [← g91] at A91 D91 st91
      refine own_go st91 ?_
      have ne_o_CLASS_b91 : o_CLASS ≠ b91 := Nat.ne_of_lt (Nat.lt_of_lt_of_le (Ex_o_CLASS.ext O.2).lt (Nat.le_of_eq g91.symm))
      have ne_o__VALUES_b91 : o__VALUES ≠ b91 := Nat.ne_of_lt (Nat.lt_of_lt_of_le (Ex_o__VALUES.ext O.2).lt (Nat.le_of_eq g91.symm))
      have ne_o_OBJECT_PROPERTY_b91 : o_OBJECT_PROPERTY ≠ b91 := Nat.ne_of_lt (Nat.lt_of_lt_of_le (Ex_o_OBJECT_PROPERTY.ext O.2).lt (Nat.le_of_eq g91.symm))
      have ne_o_DATA_PROPERTY_b91 : o_DATA_PROPERTY ≠ b91 := Nat.ne_of_lt (Nat.lt_of_lt_of_le (Ex_o_DATA_PROPERTY.ext O.2).lt (Nat.le_of_eq g91.symm))
      have ne_o_CLASS_label_b91 : o_CLASS_label ≠ b91 := Nat.ne_of_lt (Nat.lt_of_lt_of_le (Ex_o_CLASS_label.ext O.2).lt (Nat.le_of_eq g91.symm))
      have ne_o_OBJECT_PROPERTY_label_b91 : o_OBJECT_PROPERTY_label ≠ b91 := Nat.ne_of_lt (Nat.lt_of_lt_of_le (Ex_o_OBJECT_PROPERTY_label.ext O.2).lt (Nat.le_of_eq g91.symm))
      have ne_o_DATA_PROPERTY_label_b91 : o_DATA_PROPERTY_label ≠ b91 := Nat.ne_of_lt (Nat.lt_of_lt_of_le (Ex_o_DATA_PROPERTY_label.ext O.2).lt (Nat.le_of_eq g91.symm))
      have ne_o_CLASS_label_value_b91 : o_CLASS_label_value ≠ b91 := Nat.ne_of_lt (Nat.lt_of_lt_of_le (V_o_CLASS_label_value.ext O.2).lt (Nat.le_of_eq g91.symm))
      have ne_o_OBJECT_PROPERTY_label_value_b91 : o_OBJECT_PROPERTY_label_value ≠ b91 := Nat.ne_of_lt (Nat.lt_of_lt_of_le (V_o_OBJECT_PROPERTY_label_value.ext O.2).lt (Nat.le_of_eq g91.symm))
      have ne_o_DATA_PROPERTY_label_value_b91 : o_DATA_PROPERTY_label_value ≠ b91 := Nat.ne_of_lt (Nat.lt_of_lt_of_le (V_o_DATA_PROPERTY_label_value.ext O.2).lt (Nat.le_of_eq g91.symm))
      have ne_b55_b91 : b55 ≠ b91 := Nat.ne_of_lt (Nat.lt_of_lt_of_le V_b55.lt (Nat.le_of_eq g91.symm))
      have sz_b91 : h0.size ≤ b91 := Nat.le_trans Kp.1 (Nat.le_of_eq g91.symm)
      have g_b91 : n0 ≤ b91 := Nat.le_trans Z0 sz_b91
      replace O := O.ext E91
      replace Kp := Kp.ext E91
      replace V_b55 := V_b55.ext E91
      replace Ea_b55 := Ea_b55.ext E91
      have Ex_b91 := A91
      have F_coder_b91 : Fld Z h91 b91 "java/lang/String" "coder" "B" (.int (0 : Int32)) := D91 (Or.inr (hw _ (List.mem_of_getElem? (i := 31) rfl))) (ty := .byte) (by decide)
      have F_value_b91 : Fld Z h91 b91 "java/lang/String" "value" "[B" .null := D91 (Or.inr (hw _ (List.mem_of_getElem? (i := 33) rfl))) (ty := (.array .byte)) (by decide)
      show own_Go p e below s _ _ _ (T91.setTop (mkF m 256 #[iv p1, iv (2 : Int32), rv b55, rv o_DATA_PROPERTY, .unset, .unset] [(.ref b91)]))
      refine own_go (fun zt zk => (XS.dup X91.here hx rfl (hb hby at_256) rfl rfl (XS.aloadN X91.here hx rfl (hb hby at_257) rfl rfl zk))) ?_
      show own_Go p e below s _ _ _ (T91.setTop (mkF m 258 #[iv p1, iv (2 : Int32), rv b55, rv o_DATA_PROPERTY, .unset, .unset] [(.ref b55), (.ref b91), (.ref b91)]))
      obtain ⟨_, _, ⟨T92, L92, k92, n92⟩, -, X92, ⟨Lc92, hQ92, l92, y92, z92⟩, st92⟩ := X91.specialBack hx (y := (⟨"java/lang/String", "<init>", "([C)V"⟩ : MethodName)) rfl hown (mvT hZ (hw _ (List.mem_of_getElem? (i := 8) rfl))) (mvT hZ (hw _ (List.mem_of_getElem? (i := 9) rfl))) (mvT hZ (hw _ (List.mem_of_getElem? (i := 10) rfl))) (by decide) (StrChars.Road.backV (W := 1) hZ (own_hnew Z a0 hw) (kI := 4) (hw _ (List.mem_of_getElem? (i := 6) rfl)) (cs := [(100 : Int32), (97 : Int32), (116 : Int32), (97 : Int32), (116 : Int32), (121 : Int32), (112 : Int32), (101 : Int32), (32 : Int32), (112 : Int32), (114 : Int32), (111 : Int32), (112 : Int32), (101 : Int32), (114 : Int32), (116 : Int32), (121 : Int32)]) (bs := [(100 : Int32), (97 : Int32), (116 : Int32), (97 : Int32), (116 : Int32), (121 : Int32), (112 : Int32), (101 : Int32), (32 : Int32), (112 : Int32), (114 : Int32), (111 : Int32), (112 : Int32), (101 : Int32), (114 : Int32), (116 : Int32), (121 : Int32)]) (n := 17) g_b91 (Nat.le_trans Z0 Kp.1) Ex_b91 F_value_b91 F_coder_b91 V_b55 (S_o_COMPACT_STRINGS.ext O.2) nz_o_COMPACT_STRINGS rfl rfl (by decide) (by decide) (own_ac (by decide) (own_ac (by decide) (own_ac (by decide) (own_ac (by decide) (own_ac (by decide) (own_ac (by decide) (own_ac (by decide) (own_ac (by decide) (own_ac (by decide) (own_ac (by decide) (own_ac (by decide) (own_ac (by decide) (own_ac (by decide) (own_ac (by decide) (own_ac (by decide) (own_ac (by decide) (own_ac (by decide) own_an))))))))))))))))) rfl (by decide) (by decide)) (g := (mkF m 258 #[iv p1, iv (2 : Int32), rv b55, rv o_DATA_PROPERTY, .unset, .unset] [(.ref b55), (.ref b91), (.ref b91)])) rfl (by rw [hml]; rfl) (Steps.refl _) (a := b91) (argsL := [(.ref b55)]) (rest := [(.ref b91)]) (lenOf own_pd___C_V rfl) rfl (by show 2 * 0 + _ ≤ _; exact Nat.le_of_eq rfl) (hb hby at_258) (fun _ _ => ⟨rfl, e91, (by decide : 2 + 1 ≤ _), (by decide : 21 + 17 ≤ _)⟩)
      dsimp only [Pt.U, Pt.locs, Pt.cells, Pt.slots] at X92 l92 y92 z92 st92 hQ92
      subst l92 y92 z92
      obtain ⟨rfl, Nq92, K92, -, Fc92, t92, kb92, -, sz92, -, Fv92, Vt92⟩ := hQ92
      have sz_t92 : h0.size ≤ t92 := Nat.le_trans Kp.1 sz92
      have g_t92 : n0 ≤ t92 := Nat.le_trans Z0 sz_t92
      have ne_b55_t92 : b55 ≠ t92 := Nat.ne_of_lt (Nat.lt_of_lt_of_le V_b55.lt sz92)
      have ne_b91_t92 : b91 ≠ t92 := Nat.ne_of_lt (Nat.lt_of_lt_of_le Ex_b91.lt sz92)
      have N92 := Fr.app N89 Nq92
      refine own_go (fun zt zk => st92.trans zk) ?_
      replace O := O.keep K92 (allS g_b91 all0)
      replace Kp := Kp.trans K92 (allS (Or.inr sz_b91) all0)
      replace V_b55 := V_b55.keep K92 (ninS ne_b55_b91 nin0)
      replace Ea_b55 := Ea_b55.keep K92
      replace Ex_b91 := Ex_b91.keep K92
      show own_Go p e below s _ _ _ (T92.setTop (mkF m 261 #[iv p1, iv (2 : Int32), rv b55, rv o_DATA_PROPERTY, .unset, .unset] [(.ref b91)]))
      refine own_go (fun zt zk => (XS.astore X92.here hx rfl (hb hby at_261) rfl rfl (l' := #[iv p1, iv (2 : Int32), rv b55, rv o_DATA_PROPERTY, rv b91, .unset]) rfl (XS.aload X92.here hx rfl (hb hby at_263) rfl rfl zk))) ?_
      show own_Go p e below s _ _ _ (T92.setTop (mkF m 265 #[iv p1, iv (2 : Int32), rv b55, rv o_DATA_PROPERTY, rv b91, .unset] [(.ref b91)]))
      obtain ⟨_, _, ⟨T93, L93, k93, n93⟩, -, X93, ⟨Lc93, hQ93, l93, y93, z93⟩, st93⟩ := Jvm.LawKit.callS X92 hx (y := (⟨"com/example/boxwright/boxwright/Kind", "ofLabel", "(Ljava/lang/String;)Lcom/example/boxwright/boxwright/Kind;"⟩ : MethodName)) hown (mvT hZ (hw _ (List.mem_of_getElem? (i := 34) rfl))) (mvT hZ (hw _ (List.mem_of_getElem? (i := 35) rfl))) (mvT hZ (hw _ (List.mem_of_getElem? (i := 3) rfl))) (mvT hZ (hw _ (List.mem_of_getElem? (i := 36) rfl))) (by decide) (backOf (W := 0) (own_rof2 l Z a0 hw [] b91 t92 kb92 o_COMPACT_STRINGS o__VALUES k_o__VALUES o_CLASS o_CLASS_label o_CLASS_label_value k_o_CLASS_label_value o_OBJECT_PROPERTY o_OBJECT_PROPERTY_label o_OBJECT_PROPERTY_label_value k_o_OBJECT_PROPERTY_label_value o_DATA_PROPERTY o_DATA_PROPERTY_label o_DATA_PROPERTY_label_value k_o_DATA_PROPERTY_label_value T92.heap n0 (Nat.le_trans Z0 Kp.1) O S_o_COMPACT_STRINGS S_o__VALUES V_o__VALUES Ex_o__VALUES Ex_o_CLASS F_o_CLASS_label Ex_o_CLASS_label F_o_CLASS_label_coder F_o_CLASS_label_value V_o_CLASS_label_value Ex_o_OBJECT_PROPERTY F_o_OBJECT_PROPERTY_label Ex_o_OBJECT_PROPERTY_label F_o_OBJECT_PROPERTY_label_coder F_o_OBJECT_PROPERTY_label_value V_o_OBJECT_PROPERTY_label_value Ex_o_DATA_PROPERTY F_o_DATA_PROPERTY_label Ex_o_DATA_PROPERTY_label F_o_DATA_PROPERTY_label_coder F_o_DATA_PROPERTY_label_value V_o_DATA_PROPERTY_label_value Ex_b91 Fv92 Fc92 Vt92 nz_o_COMPACT_STRINGS) hZ (hw _ (List.mem_of_getElem? (i := 36) rfl)) (hw _ (List.mem_of_getElem? (i := 3) rfl)) (by decide) (by decide)) (g := (mkF m 265 #[iv p1, iv (2 : Int32), rv b55, rv o_DATA_PROPERTY, rv b91, .unset] [(.ref b91)])) rfl (by rw [hml]; rfl) (argsL := [(.ref b91)]) (rest := []) (lenOf own_pd__Ljava_lang_String__Lcom_example_boxwright_boxwright_Kind_ rfl) rfl (by show 2 * 0 + _ ≤ _; exact Nat.le_of_eq rfl) (hb hby at_265) (fun _ _ => ⟨rfl, rfl, (by decide : 3 + 1 ≤ _), (by decide : 38 + 3 ≤ _)⟩)
      dsimp only [Pt.U, Pt.locs, Pt.cells, Pt.slots] at X93 l93 y93 z93 st93 hQ93
      subst l93 y93 z93
      obtain ⟨rfl, Nq93, K93⟩ := hQ93
      have N93 := Fr.app N92 Nq93
      refine own_go st93 ?_
      replace O := O.keep K93 all0
      replace Kp := Kp.trans K93 all0
      replace V_b55 := V_b55.keep K93 nin0
      replace Ea_b55 := Ea_b55.keep K93
      replace Ex_b91 := Ex_b91.keep K93
      replace Fc92 := Fc92.keep K93 nin0
      replace Fv92 := Fv92.keep K93 nin0
      replace Vt92 := Vt92.keep K93 nin0
      show own_Go p e below s _ _ _ (T93.setTop (mkF m 268 #[iv p1, iv (2 : Int32), rv b55, rv o_DATA_PROPERTY, rv b91, .unset] [(.ref o_DATA_PROPERTY)]))
      refine own_go (fun zt zk => (XS.astore X93.here hx rfl (hb hby at_268) rfl rfl (l' := #[iv p1, iv (2 : Int32), rv b55, rv o_DATA_PROPERTY, rv b91, rv o_DATA_PROPERTY]) rfl (XS.aload X93.here hx rfl (hb hby at_270) rfl rfl (XS.aloadN X93.here hx rfl (hb hby at_272) rfl rfl zk)))) ?_
      show own_Go p e below s _ _ _ (T93.setTop (mkF m 273 #[iv p1, iv (2 : Int32), rv b55, rv o_DATA_PROPERTY, rv b91, rv o_DATA_PROPERTY] [(.ref o_DATA_PROPERTY), (.ref o_DATA_PROPERTY)]))
      refine own_go (fun zt zk => Jvm.RoadKit.acmp (g := (mkF m 273 #[iv p1, iv (2 : Int32), rv b55, rv o_DATA_PROPERTY, rv b91, rv o_DATA_PROPERTY] [(.ref o_DATA_PROPERTY), (.ref o_DATA_PROPERTY)])) X93 hx rfl rfl rfl (pc0 := 273) (pc' := 276) (same := true) rfl (hb hby at_273) rfl (decide_eq_true rfl) (by decide) (by decide) zk) ?_
      show own_Go p e below s _ _ _ (T93.setTop (mkF m 276 #[iv p1, iv (2 : Int32), rv b55, rv o_DATA_PROPERTY, rv b91, rv o_DATA_PROPERTY] []))
      refine own_go (fun zt zk => (XS.aload X93.here hx rfl (hb hby at_276) rfl rfl zk)) ?_
      show own_Go p e below s _ _ _ (T93.setTop (mkF m 278 #[iv p1, iv (2 : Int32), rv b55, rv o_DATA_PROPERTY, rv b91, rv o_DATA_PROPERTY] [(.ref o_DATA_PROPERTY)]))
      obtain ⟨cq94, kq94, qa94, qb94, qc94⟩ := isOf hZ rfl (Ex_o_DATA_PROPERTY.ext O.2)
      obtain ⟨_, _, ⟨T94, L94, k94, n94⟩, -, X94, ⟨Lc94, hQ94, l94, y94, z94⟩, st94⟩ := X93.virtualBack hx (y := (⟨"com/example/boxwright/boxwright/Kind", "label", "()Ljava/lang/String;"⟩ : MethodName)) (z := (⟨"com/example/boxwright/boxwright/Kind", "label", "()Ljava/lang/String;"⟩ : MethodName)) hown (mvT hZ (hw _ (List.mem_of_getElem? (i := 66) rfl))) (mvT hZ (hw _ (List.mem_of_getElem? (i := 67) rfl))) (notFace_of_selects (args := #[]) (mvT hZ (hw _ (List.mem_of_getElem? (i := 69) rfl)))) (mvT hZ (hw _ (List.mem_of_getElem? (i := 69) rfl))) (mvT hZ (hw _ (List.mem_of_getElem? (i := 68) rfl))) (by decide) (backOf (W := 0) (own_rlabel l Z a0 hw [] o_DATA_PROPERTY o_DATA_PROPERTY_label T93.heap n0 (Nat.le_trans Z0 Kp.1) (F_o_DATA_PROPERTY_label.ext O.2)) hZ (hw _ (List.mem_of_getElem? (i := 70) rfl)) (hw _ (List.mem_of_getElem? (i := 3) rfl)) (by decide) (by decide)) qa94 qc94 (g := (mkF m 278 #[iv p1, iv (2 : Int32), rv b55, rv o_DATA_PROPERTY, rv b91, rv o_DATA_PROPERTY] [(.ref o_DATA_PROPERTY)])) rfl (by rw [hml]; rfl) (Steps.refl _) (argsL := []) (rest := []) (lenOf own_pd___Ljava_lang_String_ rfl) rfl (by show 2 * 0 + _ ≤ _; exact Nat.le_of_eq rfl) (hb hby at_278) (fun _ _ => ⟨rfl, rfl, (by decide : 4 + 0 ≤ _), (by decide : 41 + 0 ≤ _)⟩)
      dsimp only [Pt.U, Pt.locs, Pt.cells, Pt.slots] at X94 l94 y94 z94 st94 hQ94
      subst l94 y94 z94
      obtain ⟨rfl, Nq94, e94⟩ := hQ94
      have N94 := Fr.app N93 Nq94
      refine own_go (fun zt zk => st94.trans zk) ?_
      show own_Go p e below s _ _ _ (T94.setTop (mkF m 281 #[iv p1, iv (2 : Int32), rv b55, rv o_DATA_PROPERTY, rv b91, rv o_DATA_PROPERTY] [(.ref o_DATA_PROPERTY_label)]))
      refine own_go (fun zt zk => (XS.aload X94.here hx rfl (hb hby at_281) rfl rfl zk)) ?_
      show own_Go p e below s _ _ _ (T94.setTop (mkF m 283 #[iv p1, iv (2 : Int32), rv b55, rv o_DATA_PROPERTY, rv b91, rv o_DATA_PROPERTY] [(.ref b91), (.ref o_DATA_PROPERTY_label)]))
      obtain ⟨cq95, kq95, qa95, qb95, qc95⟩ := isOf hZ e94 (Ex_o_DATA_PROPERTY_label.ext O.2)
      obtain ⟨_, _, ⟨T95, L95, k95, n95⟩, -, X95, ⟨Lc95, hQ95, l95, y95, z95⟩, st95⟩ := X94.virtualBack hx (y := (⟨"java/lang/String", "equals", "(Ljava/lang/Object;)Z"⟩ : MethodName)) (z := (⟨"java/lang/String", "equals", "(Ljava/lang/Object;)Z"⟩ : MethodName)) hown (mvT hZ (hw _ (List.mem_of_getElem? (i := 71) rfl))) (mvT hZ (hw _ (List.mem_of_getElem? (i := 57) rfl))) (notFace_of_selects (args := #[]) (mvT hZ (hw _ (List.mem_of_getElem? (i := 59) rfl)))) (mvT hZ (hw _ (List.mem_of_getElem? (i := 59) rfl))) (mvT hZ (hw _ (List.mem_of_getElem? (i := 58) rfl))) (by decide) (backOf (W := 0) (own_req l Z a0 hw [] o_DATA_PROPERTY_label b91 o_COMPACT_STRINGS o_DATA_PROPERTY_label_value t92 k_o_DATA_PROPERTY_label_value kb92 (17 : Int32) (17 : Int32) [(100 : Int32), (97 : Int32), (116 : Int32), (97 : Int32), (116 : Int32), (121 : Int32), (112 : Int32), (101 : Int32), (32 : Int32), (112 : Int32), (114 : Int32), (111 : Int32), (112 : Int32), (101 : Int32), (114 : Int32), (116 : Int32), (121 : Int32)] [(100 : Int32), (97 : Int32), (116 : Int32), (97 : Int32), (116 : Int32), (121 : Int32), (112 : Int32), (101 : Int32), (32 : Int32), (112 : Int32), (114 : Int32), (111 : Int32), (112 : Int32), (101 : Int32), (114 : Int32), (116 : Int32), (121 : Int32)] T93.heap n0 (Nat.le_trans Z0 Kp.1) O S_o_COMPACT_STRINGS (Ex_o_DATA_PROPERTY_label.ext O.2) (F_o_DATA_PROPERTY_label_value.ext O.2) (F_o_DATA_PROPERTY_label_coder.ext O.2) (V_o_DATA_PROPERTY_label_value.ext O.2) Ex_b91 Fv92 Fc92 Vt92 nz_o_COMPACT_STRINGS rfl rfl) hZ (hw _ (List.mem_of_getElem? (i := 60) rfl)) (hw _ (List.mem_of_getElem? (i := 7) rfl)) (by decide) (by decide)) qa95 qc95 (g := (mkF m 283 #[iv p1, iv (2 : Int32), rv b55, rv o_DATA_PROPERTY, rv b91, rv o_DATA_PROPERTY] [(.ref b91), (.ref o_DATA_PROPERTY_label)])) rfl (by rw [hml]; rfl) (Steps.refl _) (argsL := [(.ref b91)]) (rest := []) (lenOf own_pd__Ljava_lang_Object__Z rfl) rfl (by show 2 * 0 + _ ≤ _; exact Nat.le_of_eq rfl) (hb hby at_283) (fun _ _ => ⟨rfl, e94, (by decide : 4 + 0 ≤ _), (by decide : 41 + 0 ≤ _)⟩)
      dsimp only [Pt.U, Pt.locs, Pt.cells, Pt.slots] at X95 l95 y95 z95 st95 hQ95
      subst l95 y95 z95
      obtain ⟨hv95, Nq95, e95⟩ := hQ95
      rw [show own_eqv _ _ = (1 : Int32) from if_pos rfl] at hv95
      subst hv95
      have N95 := Fr.app N94 Nq95
      refine own_go (fun zt zk => st95.trans zk) ?_
      show own_Go p e below s _ _ _ (T95.setTop (mkF m 286 #[iv p1, iv (2 : Int32), rv b55, rv o_DATA_PROPERTY, rv b91, rv o_DATA_PROPERTY] [(.int (1 : Int32))]))
      refine own_go (fun zt zk => (XS.ifNo X95.here hx rfl (hb hby at_286) rfl ((if0 _ _).trans (feq ((by decide) : ¬ ((1 : Int32) = (0 : Int32)))).1) (XS.iconst X95.here hx rfl (hb hby at_289) (XS.goto X95.here hx rfl (pc0 := 290) (pc' := 294) rfl (hb hby at_290) (by decide) (by decide) zk)))) ?_
      show own_Go p e below s _ _ _ (T95.setTop (mkF m 294 #[iv p1, iv (2 : Int32), rv b55, rv o_DATA_PROPERTY, rv b91, rv o_DATA_PROPERTY] [(.int (1 : Int32))]))
      exact own_fin X95 Bd.notSynchronized (fun h => by rw [Bd.returns] at h; cases h) (fun fs hr => retN X95 hx (t := .boolean) Bd.returns (by simp) (hb hby at_294) hr) (by rw [e95]; exact ⟨rfl, N95⟩) (by decide) (by decide)
set_option maxRecDepth 65536 in
set_option maxHeartbeats 40000000 in
theorem comes_1 {Post : Tables → Env → Array Value → State → Outcome → State → Prop} (hpost : ∀ tb e args s v u, (limb_1_1.after args s (.returned v) u = true ∧ limb_1_2.after args s (.returned v) u = true ∧ True) → FrameEnd s (.returned v) u (Jvm.fieldLocs frame_1_writes args s ++ Jvm.arrayLocs frame_1_arrays args s ++ Jvm.staticLocs frame_1_statics s) 16 192 → Post tb e args s (.returned v) u) :
    ArmFor flags0 classFile x code maxLocals ret World_1 tables_1 room_1 Calls_1 rest_1 Pre_1 Post := by
  intro l hfl _ _ p e ha hc hk s m args below hf hA hF happ hP
  obtain ⟨hcalls, hrest, hpre⟩ := hP
  obtain ⟨-, -, -, hnamed, -, -, -, hat⟩ := (Spec.applies_iff hf).mp happ
  obtain ⟨hg, hn⟩ := and_e (Cond.before_iff.mp (show (Jvm.Cond.and given_1 narrow_1).before args s = true from hpre))
  obtain ⟨g0, r0⟩ := and_e hg
  have g1 := r0
  obtain ⟨w0, rfl⟩ : ∃ w0 : Value, args = #[w0] := by
    have hs : args.size = 1 := by simpa [Cond.value, given_1] using g0
    obtain ⟨L⟩ := args
    match L, hs with
    | [w0], _ => exact ⟨w0, rfl⟩
  have hw := fun d (hd : d ∈ tables_1) => atoms_spec (ws := Jvm.Cond.code x code maxLocals ret :: tables_1) hat d (List.mem_cons_of_mem _ hd)
  have hfit : Fit s := fun {y c} hc i hi => by
    obtain ⟨ha, rfl⟩ := Array.getElem?_eq_some_iff.mp hc
    have q := List.all_eq_true.mp ((Array.all_eq_true_iff_forall_mem.mp hF) _ (Array.getElem_mem ha)) i (List.mem_range.mpr hi)
    simpa [Array.getElem?_eq_getElem hi] using q
  obtain ⟨hsets, hown0⟩ := atoms_of _ (rest_1_c_eq ▸ (show rest_1_c.before _ s = true from hrest))
  obtain ⟨i0, ei0⟩ := is_v g1
  obtain rfl : w0 = (.int i0) := Option.some.inj ei0
  obtain ⟨n0, m0⟩ := and_e hn
  obtain ⟨n1, m1⟩ := and_e m0
  obtain ⟨n2, m2⟩ := and_e m1
  obtain ⟨n3, m3⟩ := and_e m2
  obtain ⟨n4, m4⟩ := and_e m3
  obtain ⟨n5, m5⟩ := and_e m4
  obtain ⟨n6, m6⟩ := and_e m5
  obtain ⟨n7, m7⟩ := and_e m6
  obtain ⟨n8, m8⟩ := and_e m7
  obtain ⟨n9, m9⟩ := and_e m8
  obtain ⟨n10, m10⟩ := and_e m9
  obtain ⟨n11, m11⟩ := and_e m10
  obtain ⟨n12, m12⟩ := and_e m11
  obtain ⟨n13, m13⟩ := and_e m12
  obtain ⟨n14, m14⟩ := and_e m13
  obtain ⟨n15, m15⟩ := and_e m14
  obtain ⟨n16, m16⟩ := and_e m15
  obtain ⟨n17, m17⟩ := and_e m16
  obtain ⟨n18, m18⟩ := and_e m17
  obtain ⟨n19, m19⟩ := and_e m18
  obtain ⟨n20, m20⟩ := and_e m19
  obtain ⟨n21, m21⟩ := and_e m20
  obtain ⟨n22, m22⟩ := and_e m21
  obtain ⟨n23, m23⟩ := and_e m22
  obtain ⟨n24, m24⟩ := and_e m23
  obtain ⟨n25, m25⟩ := and_e m24
  obtain ⟨n26, m26⟩ := and_e m25
  obtain ⟨n27, m27⟩ := and_e m26
  obtain ⟨n28, m28⟩ := and_e m27
  obtain ⟨n29, m29⟩ := and_e m28
  obtain ⟨n30, m30⟩ := and_e m29
  obtain ⟨n31, m31⟩ := and_e m30
  obtain ⟨n32, m32⟩ := and_e m31
  obtain ⟨n33, m33⟩ := and_e m32
  obtain ⟨n34, m34⟩ := and_e m33
  obtain ⟨n35, m35⟩ := and_e m34
  obtain ⟨n36, m36⟩ := and_e m35
  obtain ⟨n37, m37⟩ := and_e m36
  obtain ⟨n38, m38⟩ := and_e m37
  obtain ⟨n39, m39⟩ := and_e m38
  obtain ⟨n40, m40⟩ := and_e m39
  obtain ⟨n41, m41⟩ := and_e m40
  obtain ⟨n42, m42⟩ := and_e m41
  obtain ⟨n43, m43⟩ := and_e m42
  obtain ⟨n44, m44⟩ := and_e m43
  obtain ⟨n45, m45⟩ := and_e m44
  obtain ⟨n46, m46⟩ := and_e m45
  obtain ⟨n47, m47⟩ := and_e m46
  obtain ⟨n48, m48⟩ := and_e m47
  obtain ⟨n49, m49⟩ := and_e m48
  obtain ⟨n50, m50⟩ := and_e m49
  obtain ⟨n51, m51⟩ := and_e m50
  obtain ⟨n52, m52⟩ := and_e m51
  obtain ⟨n53, m53⟩ := and_e m52
  obtain ⟨n54, m54⟩ := and_e m53
  obtain ⟨n55, m55⟩ := and_e m54
  obtain ⟨n56, m56⟩ := and_e m55
  have n57 := m56
  obtain ⟨o_CLASS, e_o_CLASS⟩ := exa_v n0
  have S_o_CLASS := Sta.start e_o_CLASS (Or.inr ⟨hw _ (List.mem_of_getElem? (i := 3) rfl), hw _ (List.mem_of_getElem? (i := 4) rfl)⟩)
  have Ex_o_CLASS := Exa.start e_o_CLASS n0
  obtain ⟨o__VALUES, e_o__VALUES⟩ := arr_v n1
  obtain ⟨cl_o__VALUES, Ar_o__VALUES⟩ := Arr.start e_o__VALUES n1
  have S_o__VALUES := Sta.start e_o__VALUES (Or.inr ⟨hw _ (List.mem_of_getElem? (i := 3) rfl), hw _ (List.mem_of_getElem? (i := 41) rfl)⟩)
  have Ex_o__VALUES := Exa.start e_o__VALUES n2
  have Ln_o__VALUES := own_len (own_eqI n3) e_o__VALUES Ar_o__VALUES
  have El_o__VALUES_0 := (elem_in (own_eqR n4 e_o_CLASS) e_o__VALUES (Term.int_eval 0) Ar_o__VALUES.1).2
  obtain ⟨o_OBJECT_PROPERTY, e_o_OBJECT_PROPERTY⟩ := exa_v n5
  have S_o_OBJECT_PROPERTY := Sta.start e_o_OBJECT_PROPERTY (Or.inr ⟨hw _ (List.mem_of_getElem? (i := 3) rfl), hw _ (List.mem_of_getElem? (i := 49) rfl)⟩)
  have Ex_o_OBJECT_PROPERTY := Exa.start e_o_OBJECT_PROPERTY n5
  have El_o__VALUES_1 := (elem_in (own_eqR n6 e_o_OBJECT_PROPERTY) e_o__VALUES (Term.int_eval 1) Ar_o__VALUES.1).2
  obtain ⟨o_DATA_PROPERTY, e_o_DATA_PROPERTY⟩ := exa_v n7
  have S_o_DATA_PROPERTY := Sta.start e_o_DATA_PROPERTY (Or.inr ⟨hw _ (List.mem_of_getElem? (i := 3) rfl), hw _ (List.mem_of_getElem? (i := 50) rfl)⟩)
  have Ex_o_DATA_PROPERTY := Exa.start e_o_DATA_PROPERTY n7
  have El_o__VALUES_2 := (elem_in (own_eqR n8 e_o_DATA_PROPERTY) e_o__VALUES (Term.int_eval 2) Ar_o__VALUES.1).2
  obtain ⟨o_CLASS_label, e_o_CLASS_label⟩ := exa_v n9
  have F_o_CLASS_label := Fld.start ((fld_at e_o_CLASS).symm.trans e_o_CLASS_label)
  have Ex_o_CLASS_label := Exa.start e_o_CLASS_label n9
  have F_o_CLASS_label_coder := Fld.start ((fld_at e_o_CLASS_label).symm.trans (own_eqI n10))
  obtain ⟨o_CLASS_label_value, e_o_CLASS_label_value⟩ := arr_v n11
  obtain ⟨cl_o_CLASS_label_value, Ar_o_CLASS_label_value⟩ := Arr.start e_o_CLASS_label_value n11
  have F_o_CLASS_label_value := Fld.start ((fld_at e_o_CLASS_label).symm.trans e_o_CLASS_label_value)
  have Ln_o_CLASS_label_value := own_len (own_eqI n12) e_o_CLASS_label_value Ar_o_CLASS_label_value
  obtain ⟨o_OBJECT_PROPERTY_label, e_o_OBJECT_PROPERTY_label⟩ := exa_v n13
  have F_o_OBJECT_PROPERTY_label := Fld.start ((fld_at e_o_OBJECT_PROPERTY).symm.trans e_o_OBJECT_PROPERTY_label)
  have Ex_o_OBJECT_PROPERTY_label := Exa.start e_o_OBJECT_PROPERTY_label n13
  have F_o_OBJECT_PROPERTY_label_coder := Fld.start ((fld_at e_o_OBJECT_PROPERTY_label).symm.trans (own_eqI n14))
  obtain ⟨o_OBJECT_PROPERTY_label_value, e_o_OBJECT_PROPERTY_label_value⟩ := arr_v n15
  obtain ⟨cl_o_OBJECT_PROPERTY_label_value, Ar_o_OBJECT_PROPERTY_label_value⟩ := Arr.start e_o_OBJECT_PROPERTY_label_value n15
  have F_o_OBJECT_PROPERTY_label_value := Fld.start ((fld_at e_o_OBJECT_PROPERTY_label).symm.trans e_o_OBJECT_PROPERTY_label_value)
  have Ln_o_OBJECT_PROPERTY_label_value := own_len (own_eqI n16) e_o_OBJECT_PROPERTY_label_value Ar_o_OBJECT_PROPERTY_label_value
  obtain ⟨o_DATA_PROPERTY_label, e_o_DATA_PROPERTY_label⟩ := exa_v n17
  have F_o_DATA_PROPERTY_label := Fld.start ((fld_at e_o_DATA_PROPERTY).symm.trans e_o_DATA_PROPERTY_label)
  have Ex_o_DATA_PROPERTY_label := Exa.start e_o_DATA_PROPERTY_label n17
  have F_o_DATA_PROPERTY_label_coder := Fld.start ((fld_at e_o_DATA_PROPERTY_label).symm.trans (own_eqI n18))
  obtain ⟨o_DATA_PROPERTY_label_value, e_o_DATA_PROPERTY_label_value⟩ := arr_v n19
  obtain ⟨cl_o_DATA_PROPERTY_label_value, Ar_o_DATA_PROPERTY_label_value⟩ := Arr.start e_o_DATA_PROPERTY_label_value n19
  have F_o_DATA_PROPERTY_label_value := Fld.start ((fld_at e_o_DATA_PROPERTY_label).symm.trans e_o_DATA_PROPERTY_label_value)
  have Ln_o_DATA_PROPERTY_label_value := own_len (own_eqI n20) e_o_DATA_PROPERTY_label_value Ar_o_DATA_PROPERTY_label_value
  have El_o_CLASS_label_value_0 := (elem_in (own_eqI n21) e_o_CLASS_label_value (Term.int_eval 0) Ar_o_CLASS_label_value.1).2
  have El_o_CLASS_label_value_1 := (elem_in (own_eqI n22) e_o_CLASS_label_value (Term.int_eval 1) Ar_o_CLASS_label_value.1).2
  have El_o_CLASS_label_value_2 := (elem_in (own_eqI n23) e_o_CLASS_label_value (Term.int_eval 2) Ar_o_CLASS_label_value.1).2
  have El_o_CLASS_label_value_3 := (elem_in (own_eqI n24) e_o_CLASS_label_value (Term.int_eval 3) Ar_o_CLASS_label_value.1).2
  have El_o_CLASS_label_value_4 := (elem_in (own_eqI n25) e_o_CLASS_label_value (Term.int_eval 4) Ar_o_CLASS_label_value.1).2
  have El_o_OBJECT_PROPERTY_label_value_0 := (elem_in (own_eqI n26) e_o_OBJECT_PROPERTY_label_value (Term.int_eval 0) Ar_o_OBJECT_PROPERTY_label_value.1).2
  have El_o_OBJECT_PROPERTY_label_value_1 := (elem_in (own_eqI n27) e_o_OBJECT_PROPERTY_label_value (Term.int_eval 1) Ar_o_OBJECT_PROPERTY_label_value.1).2
  have El_o_OBJECT_PROPERTY_label_value_2 := (elem_in (own_eqI n28) e_o_OBJECT_PROPERTY_label_value (Term.int_eval 2) Ar_o_OBJECT_PROPERTY_label_value.1).2
  have El_o_OBJECT_PROPERTY_label_value_3 := (elem_in (own_eqI n29) e_o_OBJECT_PROPERTY_label_value (Term.int_eval 3) Ar_o_OBJECT_PROPERTY_label_value.1).2
  have El_o_OBJECT_PROPERTY_label_value_4 := (elem_in (own_eqI n30) e_o_OBJECT_PROPERTY_label_value (Term.int_eval 4) Ar_o_OBJECT_PROPERTY_label_value.1).2
  have El_o_OBJECT_PROPERTY_label_value_5 := (elem_in (own_eqI n31) e_o_OBJECT_PROPERTY_label_value (Term.int_eval 5) Ar_o_OBJECT_PROPERTY_label_value.1).2
  have El_o_OBJECT_PROPERTY_label_value_6 := (elem_in (own_eqI n32) e_o_OBJECT_PROPERTY_label_value (Term.int_eval 6) Ar_o_OBJECT_PROPERTY_label_value.1).2
  have El_o_OBJECT_PROPERTY_label_value_7 := (elem_in (own_eqI n33) e_o_OBJECT_PROPERTY_label_value (Term.int_eval 7) Ar_o_OBJECT_PROPERTY_label_value.1).2
  have El_o_OBJECT_PROPERTY_label_value_8 := (elem_in (own_eqI n34) e_o_OBJECT_PROPERTY_label_value (Term.int_eval 8) Ar_o_OBJECT_PROPERTY_label_value.1).2
  have El_o_OBJECT_PROPERTY_label_value_9 := (elem_in (own_eqI n35) e_o_OBJECT_PROPERTY_label_value (Term.int_eval 9) Ar_o_OBJECT_PROPERTY_label_value.1).2
  have El_o_OBJECT_PROPERTY_label_value_10 := (elem_in (own_eqI n36) e_o_OBJECT_PROPERTY_label_value (Term.int_eval 10) Ar_o_OBJECT_PROPERTY_label_value.1).2
  have El_o_OBJECT_PROPERTY_label_value_11 := (elem_in (own_eqI n37) e_o_OBJECT_PROPERTY_label_value (Term.int_eval 11) Ar_o_OBJECT_PROPERTY_label_value.1).2
  have El_o_OBJECT_PROPERTY_label_value_12 := (elem_in (own_eqI n38) e_o_OBJECT_PROPERTY_label_value (Term.int_eval 12) Ar_o_OBJECT_PROPERTY_label_value.1).2
  have El_o_OBJECT_PROPERTY_label_value_13 := (elem_in (own_eqI n39) e_o_OBJECT_PROPERTY_label_value (Term.int_eval 13) Ar_o_OBJECT_PROPERTY_label_value.1).2
  have El_o_OBJECT_PROPERTY_label_value_14 := (elem_in (own_eqI n40) e_o_OBJECT_PROPERTY_label_value (Term.int_eval 14) Ar_o_OBJECT_PROPERTY_label_value.1).2
  have El_o_DATA_PROPERTY_label_value_0 := (elem_in (own_eqI n41) e_o_DATA_PROPERTY_label_value (Term.int_eval 0) Ar_o_DATA_PROPERTY_label_value.1).2
  have El_o_DATA_PROPERTY_label_value_1 := (elem_in (own_eqI n42) e_o_DATA_PROPERTY_label_value (Term.int_eval 1) Ar_o_DATA_PROPERTY_label_value.1).2
  have El_o_DATA_PROPERTY_label_value_2 := (elem_in (own_eqI n43) e_o_DATA_PROPERTY_label_value (Term.int_eval 2) Ar_o_DATA_PROPERTY_label_value.1).2
  have El_o_DATA_PROPERTY_label_value_3 := (elem_in (own_eqI n44) e_o_DATA_PROPERTY_label_value (Term.int_eval 3) Ar_o_DATA_PROPERTY_label_value.1).2
  have El_o_DATA_PROPERTY_label_value_4 := (elem_in (own_eqI n45) e_o_DATA_PROPERTY_label_value (Term.int_eval 4) Ar_o_DATA_PROPERTY_label_value.1).2
  have El_o_DATA_PROPERTY_label_value_5 := (elem_in (own_eqI n46) e_o_DATA_PROPERTY_label_value (Term.int_eval 5) Ar_o_DATA_PROPERTY_label_value.1).2
  have El_o_DATA_PROPERTY_label_value_6 := (elem_in (own_eqI n47) e_o_DATA_PROPERTY_label_value (Term.int_eval 6) Ar_o_DATA_PROPERTY_label_value.1).2
  have El_o_DATA_PROPERTY_label_value_7 := (elem_in (own_eqI n48) e_o_DATA_PROPERTY_label_value (Term.int_eval 7) Ar_o_DATA_PROPERTY_label_value.1).2
  have El_o_DATA_PROPERTY_label_value_8 := (elem_in (own_eqI n49) e_o_DATA_PROPERTY_label_value (Term.int_eval 8) Ar_o_DATA_PROPERTY_label_value.1).2
  have El_o_DATA_PROPERTY_label_value_9 := (elem_in (own_eqI n50) e_o_DATA_PROPERTY_label_value (Term.int_eval 9) Ar_o_DATA_PROPERTY_label_value.1).2
  have El_o_DATA_PROPERTY_label_value_10 := (elem_in (own_eqI n51) e_o_DATA_PROPERTY_label_value (Term.int_eval 10) Ar_o_DATA_PROPERTY_label_value.1).2
  have El_o_DATA_PROPERTY_label_value_11 := (elem_in (own_eqI n52) e_o_DATA_PROPERTY_label_value (Term.int_eval 11) Ar_o_DATA_PROPERTY_label_value.1).2
  have El_o_DATA_PROPERTY_label_value_12 := (elem_in (own_eqI n53) e_o_DATA_PROPERTY_label_value (Term.int_eval 12) Ar_o_DATA_PROPERTY_label_value.1).2
  have El_o_DATA_PROPERTY_label_value_13 := (elem_in (own_eqI n54) e_o_DATA_PROPERTY_label_value (Term.int_eval 13) Ar_o_DATA_PROPERTY_label_value.1).2
  have El_o_DATA_PROPERTY_label_value_14 := (elem_in (own_eqI n55) e_o_DATA_PROPERTY_label_value (Term.int_eval 14) Ar_o_DATA_PROPERTY_label_value.1).2
  have El_o_DATA_PROPERTY_label_value_15 := (elem_in (own_eqI n56) e_o_DATA_PROPERTY_label_value (Term.int_eval 15) Ar_o_DATA_PROPERTY_label_value.1).2
  have El_o_DATA_PROPERTY_label_value_16 := (elem_in (own_eqI n57) e_o_DATA_PROPERTY_label_value (Term.int_eval 16) Ar_o_DATA_PROPERTY_label_value.1).2
  obtain ⟨o_COMPACT_STRINGS, e_o_COMPACT_STRINGS⟩ := is_v (Cond.before_iff.mp (hsets _ (List.mem_of_getElem? (i := 1) rfl)))
  have S_o_COMPACT_STRINGS := Sta.start e_o_COMPACT_STRINGS (Or.inl (hsets _ (List.mem_of_getElem? (i := 0) rfl)))
  have nz_o_COMPACT_STRINGS : ¬ (o_COMPACT_STRINGS = (0 : Int32)) := gotF (Cond.eq_ints e_o_COMPACT_STRINGS (Term.int_eval 0)) (not_v (Cond.before_iff.mp (hsets _ (List.mem_of_getElem? (i := 2) rfl))))
  obtain ⟨o_SIOOBE_FORMATTER, e_o_SIOOBE_FORMATTER, r_o_SIOOBE_FORMATTER⟩ := isR_v (Cond.before_iff.mp (hsets _ (List.mem_of_getElem? (i := 8) rfl)))
  have S_o_SIOOBE_FORMATTER := Sta.start e_o_SIOOBE_FORMATTER (Or.inl (hsets _ (List.mem_of_getElem? (i := 7) rfl)))
  have V_o__VALUES : Arv s s.heap o__VALUES cl_o__VALUES.cls (.object "com/example/boxwright/boxwright/Kind") (3 : Int32) [(.ref o_CLASS), (.ref o_OBJECT_PROPERTY), (.ref o_DATA_PROPERTY)] .null := Arv.start hfit Ar_o__VALUES Ln_o__VALUES.1 Ln_o__VALUES.2 (by decide) rfl ⟨El_o__VALUES_0, El_o__VALUES_1, El_o__VALUES_2, trivial⟩
  have V_o_CLASS_label_value : Arv s s.heap o_CLASS_label_value cl_o_CLASS_label_value.cls .byte (5 : Int32) [(.int (99 : Int32)), (.int (108 : Int32)), (.int (97 : Int32)), (.int (115 : Int32)), (.int (115 : Int32))] (.int (0 : Int32)) := Arv.start hfit Ar_o_CLASS_label_value Ln_o_CLASS_label_value.1 Ln_o_CLASS_label_value.2 (by decide) rfl ⟨El_o_CLASS_label_value_0, El_o_CLASS_label_value_1, El_o_CLASS_label_value_2, El_o_CLASS_label_value_3, El_o_CLASS_label_value_4, trivial⟩
  have V_o_OBJECT_PROPERTY_label_value : Arv s s.heap o_OBJECT_PROPERTY_label_value cl_o_OBJECT_PROPERTY_label_value.cls .byte (15 : Int32) [(.int (111 : Int32)), (.int (98 : Int32)), (.int (106 : Int32)), (.int (101 : Int32)), (.int (99 : Int32)), (.int (116 : Int32)), (.int (32 : Int32)), (.int (112 : Int32)), (.int (114 : Int32)), (.int (111 : Int32)), (.int (112 : Int32)), (.int (101 : Int32)), (.int (114 : Int32)), (.int (116 : Int32)), (.int (121 : Int32))] (.int (0 : Int32)) := Arv.start hfit Ar_o_OBJECT_PROPERTY_label_value Ln_o_OBJECT_PROPERTY_label_value.1 Ln_o_OBJECT_PROPERTY_label_value.2 (by decide) rfl ⟨El_o_OBJECT_PROPERTY_label_value_0, El_o_OBJECT_PROPERTY_label_value_1, El_o_OBJECT_PROPERTY_label_value_2, El_o_OBJECT_PROPERTY_label_value_3, El_o_OBJECT_PROPERTY_label_value_4, El_o_OBJECT_PROPERTY_label_value_5, El_o_OBJECT_PROPERTY_label_value_6, El_o_OBJECT_PROPERTY_label_value_7, El_o_OBJECT_PROPERTY_label_value_8, El_o_OBJECT_PROPERTY_label_value_9, El_o_OBJECT_PROPERTY_label_value_10, El_o_OBJECT_PROPERTY_label_value_11, El_o_OBJECT_PROPERTY_label_value_12, El_o_OBJECT_PROPERTY_label_value_13, El_o_OBJECT_PROPERTY_label_value_14, trivial⟩
  have V_o_DATA_PROPERTY_label_value : Arv s s.heap o_DATA_PROPERTY_label_value cl_o_DATA_PROPERTY_label_value.cls .byte (17 : Int32) [(.int (100 : Int32)), (.int (97 : Int32)), (.int (116 : Int32)), (.int (97 : Int32)), (.int (116 : Int32)), (.int (121 : Int32)), (.int (112 : Int32)), (.int (101 : Int32)), (.int (32 : Int32)), (.int (112 : Int32)), (.int (114 : Int32)), (.int (111 : Int32)), (.int (112 : Int32)), (.int (101 : Int32)), (.int (114 : Int32)), (.int (116 : Int32)), (.int (121 : Int32))] (.int (0 : Int32)) := Arv.start hfit Ar_o_DATA_PROPERTY_label_value Ln_o_DATA_PROPERTY_label_value.1 Ln_o_DATA_PROPERTY_label_value.2 (by decide) rfl ⟨El_o_DATA_PROPERTY_label_value_0, El_o_DATA_PROPERTY_label_value_1, El_o_DATA_PROPERTY_label_value_2, El_o_DATA_PROPERTY_label_value_3, El_o_DATA_PROPERTY_label_value_4, El_o_DATA_PROPERTY_label_value_5, El_o_DATA_PROPERTY_label_value_6, El_o_DATA_PROPERTY_label_value_7, El_o_DATA_PROPERTY_label_value_8, El_o_DATA_PROPERTY_label_value_9, El_o_DATA_PROPERTY_label_value_10, El_o_DATA_PROPERTY_label_value_11, El_o_DATA_PROPERTY_label_value_12, El_o_DATA_PROPERTY_label_value_13, El_o_DATA_PROPERTY_label_value_14, El_o_DATA_PROPERTY_label_value_15, El_o_DATA_PROPERTY_label_value_16, trivial⟩
  obtain ⟨n, o, h1, h2, h3, _, L, rfl, ⟨rfl, N⟩, hq⟩ := own_law l s _ hw tables_1 i0 o_CLASS o__VALUES o_OBJECT_PROPERTY o_DATA_PROPERTY o_CLASS_label o_CLASS_label_value o_OBJECT_PROPERTY_label o_OBJECT_PROPERTY_label_value o_DATA_PROPERTY_label o_DATA_PROPERTY_label_value o_COMPACT_STRINGS o_SIOOBE_FORMATTER cl_o__VALUES.cls cl_o_CLASS_label_value.cls cl_o_OBJECT_PROPERTY_label_value.cls cl_o_DATA_PROPERTY_label_value.cls s.heap s.heap.size (Nat.le_refl _) (Old.start s) S_o_CLASS Ex_o_CLASS S_o__VALUES Ex_o__VALUES S_o_OBJECT_PROPERTY Ex_o_OBJECT_PROPERTY S_o_DATA_PROPERTY Ex_o_DATA_PROPERTY F_o_CLASS_label Ex_o_CLASS_label F_o_CLASS_label_coder F_o_CLASS_label_value F_o_OBJECT_PROPERTY_label Ex_o_OBJECT_PROPERTY_label F_o_OBJECT_PROPERTY_label_coder F_o_OBJECT_PROPERTY_label_value F_o_DATA_PROPERTY_label Ex_o_DATA_PROPERTY_label F_o_DATA_PROPERTY_label_coder F_o_DATA_PROPERTY_label_value S_o_COMPACT_STRINGS S_o_SIOOBE_FORMATTER V_o__VALUES V_o_CLASS_label_value V_o_OBJECT_PROPERTY_label_value V_o_DATA_PROPERTY_label_value nz_o_COMPACT_STRINGS r_o_SIOOBE_FORMATTER p e ha hc hk s m _ below hf ((Spec.applies_iff_loose hf).mp happ).1 ⟨rfl, State.Warmed39.refl s, rfl⟩ trivial
  refine ⟨n, _, h1, h2, h3, hpost _ _ _ _ _ _ ⟨Cond.after_iff.mpr rfl, Cond.after_iff.mpr (eq_i res_at (Term.int_eval (1)) rfl), trivial⟩ ⟨hq.1, hq.2.1, (hq.2.2.sift fun y hy => Or.inr (N y hy)).mono (by decide) (by decide)⟩⟩
theorem main_1_1 : Claimed_1_1 := comes_1 fun _ _ _ _ _ _ h hF => ⟨h.1, hF⟩
theorem main_1_2 : Claimed_1_2 := comes_1 fun _ _ _ _ _ _ h hF => ⟨h.2.1, hF⟩
end Jvm.Pilot.@@N@@
namespace Jvm.Pilot.@@N@@
open Jvm Jvm.ClassFile Sem Op Lib Jvm.Free Jvm.Stand Jvm.Pilot.@@N@@.Jvm.D
/-! MADE BY PROGRAM (witnessworld.py) out of the Statement's table words and the real class files: 20 classes; the members and pool entries that the words name. The judged class is class 1, her method 1. -/
namespace start1
open Jvm.ClassFile
def u (s : String) : CpInfo := .utf8 (stringToUtf16 s)
/-- a pool by its gaps: so many unusable entries, then the entry; so many at the end -/
def gap : Nat → List CpInfo → List CpInfo
  | 0, r => r
  | n + 1, r => .unusable :: gap n r
def poolList (es : List (Nat × CpInfo)) (last : Nat) : List CpInfo := es.foldr (fun e r => gap e.1 (e.2 :: r)) (gap last [])
def pool (es : List (Nat × CpInfo)) (last : Nat) : Array CpInfo := ⟨poolList es last⟩
def fileOf (pool : Array CpInfo) (this : Nat) (attrs : Array Attribute := #[]) (ms : Array MethodInfo := #[]) (fl : Nat := 33) (sup : Nat := 0) (ifs : Array Nat := #[]) (fds : Array FieldInfo := #[]) : ClassFile where
  minorVersion := 0
  majorVersion := 65
  constantPool := pool
  accessFlags := fl
  thisClass := this
  superClass := sup
  interfaces := ifs
  fields := fds
  methods := ms
  attributes := attrs
def plain (name : String) (sup : Option ClassId) : Class where
  name := name
  kind := .ordinary
  loader := none
  accessFlags := 33
  super := sup
  interfaces := #[]
  cf := none
  fields := #[]
  methods := #[]
  instanceTypes := #[]
  staticTypes := #[]
  resolved := #[]
  callSites := []
  init := .initialized
  statics := none
  mirror := none

def pool0 : Array CpInfo := pool [(5, u "<init>"), (0, u "()V"), (1, .class_ 10), (1, u "java/lang/Object"), (85, u "clone"), (0, u "()Ljava/lang/Object;")] 26

def k0c0 : Code := { maxStack := 0, maxLocals := 1, code := object_method_1_code, exceptionTable := #[], attributes := #[] }
def k0m0 : Method := { name := "<init>", desc := "()V", sig := { parameters := [], returnType := none }, accessFlags := 1, code := some k0c0 }
def k0m1 : Method := { name := "clone", desc := "()Ljava/lang/Object;", sig := { parameters := [], returnType := some (.object "java/lang/Object") }, accessFlags := 260, code := none }
/-- java/lang/Object -/
def k0 : Class := { plain "java/lang/Object" none with
  accessFlags := 33
  interfaces := #[]
  cf := some (fileOf pool0 8 #[] #[{ accessFlags := 1, nameIndex := 5, descriptorIndex := 6, attributes := #[] }, { accessFlags := 260, nameIndex := 96, descriptorIndex := 97, attributes := #[] }] 33 0 #[] #[])
  fields := #[]
  methods := #[k0m0, k0m1]
  instanceTypes := #[]
  staticTypes := #[]
  resolved := Array.replicate 124 none
  statics := none }

def pool1 : Array CpInfo := pool [(2, .class_ 4), (1, u "java/lang/Object"), (0, u "<init>"), (0, u "()V"), (0, .integer 2147483647), (0, .fieldref 9 10), (0, .class_ 11), (0, .nameAndType 12 13), (0, u "com/example/boxwright/boxwright/Kind"), (0, u "CLASS"), (0, u "Lcom/example/boxwright/boxwright/Kind;"), (0, .fieldref 9 15), (0, .nameAndType 16 13), (0, u "OBJECT_PROPERTY"), (0, .fieldref 9 18), (0, .nameAndType 19 13), (0, u "DATA_PROPERTY"), (0, .class_ 21), (0, u "java/lang/String"), (0, .methodref 20 23), (0, .nameAndType 5 24), (0, u "([C)V"), (0, .methodref 9 26), (0, .nameAndType 27 28), (0, u "ofLabel"), (0, u "(Ljava/lang/String;)Lcom/example/boxwright/boxwright/Kind;"), (0, .methodref 9 30), (0, .nameAndType 31 32), (0, u "label"), (0, u "()Ljava/lang/String;"), (0, .methodref 20 34), (0, .nameAndType 35 36), (0, u "equals"), (0, u "(Ljava/lang/Object;)Z"), (0, .class_ 38), (0, u "com/example/boxwright/boxwright/KindOfLabelPinLaw"), (2, u "law"), (0, u "(I)Z")] 5

def k1m0 : Method := { name := "<init>", desc := "()V", sig := { parameters := [], returnType := none }, accessFlags := 1, code := none }
def k1c1 : Code := { maxStack := 4, maxLocals := 6, code := code, exceptionTable := #[], attributes := #[] }
def k1m1 : Method := { name := "law", desc := "(I)Z", sig := { parameters := [.int], returnType := some .boolean }, accessFlags := 9, code := some k1c1 }
/-- com/example/boxwright/boxwright/KindOfLabelPinLaw -/
def k1 : Class := { plain "com/example/boxwright/boxwright/KindOfLabelPinLaw" (some 0) with
  accessFlags := 49
  interfaces := #[]
  cf := some (fileOf pool1 37 #[] #[{ accessFlags := 1, nameIndex := 5, descriptorIndex := 6, attributes := #[] }, { accessFlags := 9, nameIndex := 41, descriptorIndex := 42, attributes := #[] }] 49 2 #[] #[])
  fields := #[]
  methods := #[k1m0, k1m1]
  instanceTypes := #[]
  staticTypes := #[]
  resolved := Array.replicate 48 none
  statics := none }

def pool2 : Array CpInfo := pool [(1, .class_ 2), (0, u "java/lang/constant/Constable"), (0, .class_ 4), (0, u "java/lang/Object")] 6

/-- java/lang/constant/Constable -/
def k2 : Class := { plain "java/lang/constant/Constable" (some 0) with
  accessFlags := 1537
  interfaces := #[]
  cf := some (fileOf pool2 1 #[] #[] 1537 3 #[] #[])
  fields := #[]
  methods := #[]
  instanceTypes := #[]
  staticTypes := #[]
  resolved := Array.replicate 11 none
  statics := none }

def pool3 : Array CpInfo := pool [(1, .class_ 2), (0, u "java/lang/Comparable"), (0, .class_ 4), (0, u "java/lang/Object")] 7

/-- java/lang/Comparable -/
def k3 : Class := { plain "java/lang/Comparable" (some 0) with
  accessFlags := 1537
  interfaces := #[]
  cf := some (fileOf pool3 1 #[] #[] 1537 3 #[] #[])
  fields := #[]
  methods := #[]
  instanceTypes := #[]
  staticTypes := #[]
  resolved := Array.replicate 12 none
  statics := none }

def pool4 : Array CpInfo := pool [(1, .class_ 2), (0, u "java/io/Serializable"), (0, .class_ 4), (0, u "java/lang/Object")] 2

/-- java/io/Serializable -/
def k4 : Class := { plain "java/io/Serializable" (some 0) with
  accessFlags := 1537
  interfaces := #[]
  cf := some (fileOf pool4 1 #[] #[] 1537 3 #[] #[])
  fields := #[]
  methods := #[]
  instanceTypes := #[]
  staticTypes := #[]
  resolved := Array.replicate 7 none
  statics := none }

def pool5 : Array CpInfo := pool [(2, .class_ 4), (1, u "java/lang/Enum"), (0, u "name"), (0, u "Ljava/lang/String;"), (2, u "ordinal"), (0, u "I"), (1, .class_ 14), (1, u "java/lang/Object"), (4, u "hash"), (86, .class_ 108), (1, u "java/lang/Enum$EnumDesc"), (2, .class_ 112), (0, u "java/lang/constant/Constable"), (0, .class_ 114), (0, u "java/lang/Comparable"), (0, .class_ 116), (0, u "java/io/Serializable")] 87

/-- java/lang/Enum -/
def k5 : Class := { plain "java/lang/Enum" (some 0) with
  accessFlags := 1057
  interfaces := #[2, 3, 4]
  cf := some (fileOf pool5 2 #[.nestMembers #[106]] #[] 1057 12 #[111, 113, 115] #[{ accessFlags := 18, nameIndex := 5, descriptorIndex := 6, attributes := #[] }, { accessFlags := 18, nameIndex := 9, descriptorIndex := 10, attributes := #[] }, { accessFlags := 2, nameIndex := 19, descriptorIndex := 10, attributes := #[] }])
  fields := #[{ name := "name", type := (.object "java/lang/String"), accessFlags := 18, slot := 0, constantValue := 0 }, { name := "ordinal", type := .int, accessFlags := 18, slot := 1, constantValue := 0 }, { name := "hash", type := .int, accessFlags := 2, slot := 2, constantValue := 0 }]
  methods := #[]
  instanceTypes := #[(.object "java/lang/String"), .int, .int]
  staticTypes := #[]
  resolved := Array.replicate 204 none
  statics := none }

def pool6 : Array CpInfo := pool [(1, .class_ 2), (0, u "com/example/boxwright/boxwright/Kind"), (2, u "CLASS"), (0, u "Lcom/example/boxwright/boxwright/Kind;"), (2, u "OBJECT_PROPERTY"), (2, u "DATA_PROPERTY"), (0, .fieldref 1 14), (0, .nameAndType 15 16), (0, u "$VALUES"), (0, u "[Lcom/example/boxwright/boxwright/Kind;"), (0, .methodref 18 19), (0, .class_ 16), (0, .nameAndType 20 21), (0, u "clone"), (0, u "()Ljava/lang/Object;"), (1, .class_ 25), (1, u "java/lang/Enum"), (6, .fieldref 1 33), (0, .nameAndType 34 35), (0, u "label"), (0, u "Ljava/lang/String;"), (8, u "columns"), (0, u "Ljava/util/List;"), (22, .class_ 69), (0, u "java/lang/String"), (24, u "(Ljava/lang/Object;)Z"), (0, .methodref 1 96), (0, .nameAndType 97 98), (0, u "values"), (0, u "()[Lcom/example/boxwright/boxwright/Kind;"), (0, .methodref 68 100), (0, .nameAndType 101 94), (0, u "equals"), (34, u "(Ljava/lang/String;)Lcom/example/boxwright/boxwright/Kind;"), (2, u "()Ljava/lang/String;"), (6, u "ofLabel")] 21

def k6c0 : Code := { maxStack := 1, maxLocals := 0, code := prog_8_method_1_code, exceptionTable := #[], attributes := #[] }
def k6m0 : Method := { name := "values", desc := "()[Lcom/example/boxwright/boxwright/Kind;", sig := { parameters := [], returnType := some (.array (.object "com/example/boxwright/boxwright/Kind")) }, accessFlags := 9, code := some k6c0 }
def k6c1 : Code := { maxStack := 1, maxLocals := 1, code := prog_8_method_4_code, exceptionTable := #[], attributes := #[] }
def k6m1 : Method := { name := "label", desc := "()Ljava/lang/String;", sig := { parameters := [], returnType := some (.object "java/lang/String") }, accessFlags := 0, code := some k6c1 }
def k6c2 : Code := { maxStack := 3, maxLocals := 5, code := prog_8_method_9_code, exceptionTable := #[], attributes := #[] }
def k6m2 : Method := { name := "ofLabel", desc := "(Ljava/lang/String;)Lcom/example/boxwright/boxwright/Kind;", sig := { parameters := [(.object "java/lang/String")], returnType := some (.object "com/example/boxwright/boxwright/Kind") }, accessFlags := 8, code := some k6c2 }
/-- com/example/boxwright/boxwright/Kind -/
def k6 : Class := { plain "com/example/boxwright/boxwright/Kind" (some 5) with
  accessFlags := 16432
  interfaces := #[]
  cf := some (fileOf pool6 1 #[] #[{ accessFlags := 9, nameIndex := 97, descriptorIndex := 98, attributes := #[] }, { accessFlags := 0, nameIndex := 34, descriptorIndex := 139, attributes := #[] }, { accessFlags := 8, nameIndex := 146, descriptorIndex := 136, attributes := #[] }] 16432 23 #[] #[{ accessFlags := 16409, nameIndex := 5, descriptorIndex := 6, attributes := #[] }, { accessFlags := 16409, nameIndex := 9, descriptorIndex := 6, attributes := #[] }, { accessFlags := 16409, nameIndex := 12, descriptorIndex := 6, attributes := #[] }, { accessFlags := 18, nameIndex := 34, descriptorIndex := 35, attributes := #[] }, { accessFlags := 18, nameIndex := 44, descriptorIndex := 45, attributes := #[] }, { accessFlags := 4122, nameIndex := 15, descriptorIndex := 16, attributes := #[] }])
  fields := #[{ name := "CLASS", type := (.object "com/example/boxwright/boxwright/Kind"), accessFlags := 16409, slot := 0, constantValue := 0 }, { name := "OBJECT_PROPERTY", type := (.object "com/example/boxwright/boxwright/Kind"), accessFlags := 16409, slot := 1, constantValue := 0 }, { name := "DATA_PROPERTY", type := (.object "com/example/boxwright/boxwright/Kind"), accessFlags := 16409, slot := 2, constantValue := 0 }, { name := "label", type := (.object "java/lang/String"), accessFlags := 18, slot := 3, constantValue := 0 }, { name := "columns", type := (.object "java/util/List"), accessFlags := 18, slot := 4, constantValue := 0 }, { name := "$VALUES", type := (.array (.object "com/example/boxwright/boxwright/Kind")), accessFlags := 4122, slot := 3, constantValue := 0 }]
  methods := #[k6m0, k6m1, k6m2]
  instanceTypes := #[(.object "java/lang/String"), .int, .int, (.object "java/lang/String"), (.object "java/util/List")]
  staticTypes := #[(.object "com/example/boxwright/boxwright/Kind"), (.object "com/example/boxwright/boxwright/Kind"), (.object "com/example/boxwright/boxwright/Kind"), (.array (.object "com/example/boxwright/boxwright/Kind"))]
  resolved := Array.replicate 168 none
  statics := some 0 }

def pool7 : Array CpInfo := pool [(2, .class_ 4), (1, u "java/lang/CharSequence"), (42, .class_ 48), (0, u "java/lang/CharSequence$1CodePointIterator"), (10, .class_ 60), (0, u "java/lang/CharSequence$1CharIterator"), (5, .class_ 67), (0, u "java/lang/Object")] 63

/-- java/lang/CharSequence -/
def k7 : Class := { plain "java/lang/CharSequence" (some 0) with
  accessFlags := 1537
  interfaces := #[]
  cf := some (fileOf pool7 2 #[.nestMembers #[47, 59]] #[] 1537 66 #[] #[])
  fields := #[]
  methods := #[]
  instanceTypes := #[]
  staticTypes := #[]
  resolved := Array.replicate 131 none
  statics := none }

def pool8 : Array CpInfo := pool [(1, .class_ 2), (0, u "java/lang/constant/ConstantDesc"), (0, .class_ 4), (0, u "java/lang/Object")] 32

/-- java/lang/constant/ConstantDesc -/
def k8 : Class := { plain "java/lang/constant/ConstantDesc" (some 0) with
  accessFlags := 1537
  interfaces := #[]
  cf := some (fileOf pool8 1 #[] #[] 1537 3 #[] #[])
  fields := #[]
  methods := #[]
  instanceTypes := #[]
  staticTypes := #[]
  resolved := Array.replicate 37 none
  statics := none }

def pool9 : Array CpInfo := pool [(1, .methodref 2 3), (0, .class_ 4), (0, .nameAndType 5 6), (0, u "java/lang/Object"), (0, u "<init>"), (0, u "()V"), (2, .fieldref 10 11), (0, .class_ 12), (0, .nameAndType 13 14), (0, u "java/lang/String"), (0, u "value"), (0, u "[B"), (0, .fieldref 10 16), (0, .nameAndType 17 18), (0, u "coder"), (0, u "B"), (2, u "hash"), (0, u "I"), (2, u "hashIsZero"), (0, u "Z"), (0, .methodref 10 28), (0, .nameAndType 5 29), (0, u "([CIILjava/lang/Void;)V"), (8, .fieldref 10 39), (0, .nameAndType 40 26), (0, u "COMPACT_STRINGS"), (1, .class_ 44), (1, u "java/lang/StringUTF16"), (0, u "compress"), (1, .methodref 42 48), (0, .nameAndType 49 50), (0, u "coderFromArrayLen"), (0, u "([BI)B"), (56, .class_ 109), (1, u "java/lang/StringLatin1"), (67, .methodref 42 178), (0, .nameAndType 45 179), (0, u "([CII)[B"), (361, .methodref 107 542), (0, .nameAndType 543 544), (0, u "equals"), (0, u "([B[B)Z"), (28, u "(Ljava/lang/Object;)Z"), (1, .class_ 576), (0, u "java/lang/CharSequence"), (22, u "CASE_INSENSITIVE_ORDER"), (0, u "Ljava/util/Comparator;"), (409, u "([C)V"), (90, u "serialPersistentFields"), (0, u "[Ljava/io/ObjectStreamField;"), (0, .class_ 1104), (0, u "java/lang/String$CaseInsensitiveComparator"), (1, .class_ 1107), (0, u "java/io/Serializable"), (0, .class_ 1109), (0, u "java/lang/Comparable"), (0, .class_ 1111), (0, u "java/lang/constant/Constable"), (0, .class_ 1113), (0, u "java/lang/constant/ConstantDesc"), (2, u "serialVersionUID"), (0, u "J"), (3, u "REPL"), (0, u "C"), (2, u "LATIN1"), (1, u "UTF16")] 323

def k9m0 : Method := { name := "<init>", desc := "()V", sig := { parameters := [], returnType := none }, accessFlags := 1, code := none }
def k9c1 : Code := { maxStack := 5, maxLocals := 2, code := jdk_42_method_3_code, exceptionTable := #[], attributes := #[] }
def k9m1 : Method := { name := "<init>", desc := "([C)V", sig := { parameters := [(.array .char)], returnType := none }, accessFlags := 1, code := some k9c1 }
def k9c2 : Code := { maxStack := 2, maxLocals := 3, code := jdk_42_method_66_code, exceptionTable := #[], attributes := #[] }
def k9m2 : Method := { name := "equals", desc := "(Ljava/lang/Object;)Z", sig := { parameters := [(.object "java/lang/Object")], returnType := some .boolean }, accessFlags := 1, code := some k9c2 }
def k9c3 : Code := { maxStack := 4, maxLocals := 6, code := jdk_42_method_149_code, exceptionTable := #[], attributes := #[] }
def k9m3 : Method := { name := "<init>", desc := "([CIILjava/lang/Void;)V", sig := { parameters := [(.array .char), .int, .int, (.object "java/lang/Void")], returnType := none }, accessFlags := 2, code := some k9c3 }
/-- java/lang/String -/
def k9 : Class := { plain "java/lang/String" (some 0) with
  accessFlags := 49
  interfaces := #[4, 3, 7, 2, 8]
  cf := some (fileOf pool9 10 #[.nestMembers #[1103]] #[{ accessFlags := 1, nameIndex := 5, descriptorIndex := 6, attributes := #[] }, { accessFlags := 1, nameIndex := 5, descriptorIndex := 1010, attributes := #[] }, { accessFlags := 1, nameIndex := 543, descriptorIndex := 573, attributes := #[] }, { accessFlags := 2, nameIndex := 5, descriptorIndex := 29, attributes := #[] }] 49 2 #[1106, 1108, 575, 1110, 1112] #[{ accessFlags := 18, nameIndex := 13, descriptorIndex := 14, attributes := #[] }, { accessFlags := 18, nameIndex := 17, descriptorIndex := 18, attributes := #[] }, { accessFlags := 2, nameIndex := 21, descriptorIndex := 22, attributes := #[] }, { accessFlags := 2, nameIndex := 25, descriptorIndex := 26, attributes := #[] }, { accessFlags := 26, nameIndex := 1116, descriptorIndex := 1117, attributes := #[] }, { accessFlags := 24, nameIndex := 40, descriptorIndex := 26, attributes := #[] }, { accessFlags := 26, nameIndex := 1101, descriptorIndex := 1102, attributes := #[] }, { accessFlags := 26, nameIndex := 1121, descriptorIndex := 1122, attributes := #[] }, { accessFlags := 25, nameIndex := 599, descriptorIndex := 600, attributes := #[] }, { accessFlags := 24, nameIndex := 1125, descriptorIndex := 18, attributes := #[] }, { accessFlags := 24, nameIndex := 1127, descriptorIndex := 18, attributes := #[] }])
  fields := #[{ name := "value", type := (.array .byte), accessFlags := 18, slot := 0, constantValue := 0 }, { name := "coder", type := .byte, accessFlags := 18, slot := 1, constantValue := 0 }, { name := "hash", type := .int, accessFlags := 2, slot := 2, constantValue := 0 }, { name := "hashIsZero", type := .boolean, accessFlags := 2, slot := 3, constantValue := 0 }, { name := "serialVersionUID", type := .long, accessFlags := 26, slot := 0, constantValue := 0 }, { name := "COMPACT_STRINGS", type := .boolean, accessFlags := 24, slot := 1, constantValue := 0 }, { name := "serialPersistentFields", type := (.array (.object "java/io/ObjectStreamField")), accessFlags := 26, slot := 2, constantValue := 0 }, { name := "REPL", type := .char, accessFlags := 26, slot := 3, constantValue := 0 }, { name := "CASE_INSENSITIVE_ORDER", type := (.object "java/util/Comparator"), accessFlags := 25, slot := 4, constantValue := 0 }, { name := "LATIN1", type := .byte, accessFlags := 24, slot := 5, constantValue := 0 }, { name := "UTF16", type := .byte, accessFlags := 24, slot := 6, constantValue := 0 }]
  methods := #[k9m0, k9m1, k9m2, k9m3]
  instanceTypes := #[(.array .byte), .byte, .int, .boolean]
  staticTypes := #[.long, .boolean, (.array (.object "java/io/ObjectStreamField")), .char, (.object "java/util/Comparator"), .byte, .byte]
  resolved := Array.replicate 1451 none
  statics := some 1 }

def pool10 : Array CpInfo := pool [(6, .class_ 8), (1, u "java/lang/Object"), (0, u "<init>"), (0, u "()V"), (1, .class_ 14), (1, u "java/lang/StringUTF16"), (31, u "$assertionsDisabled"), (0, u "Z"), (13, u "HI_BYTE_SHIFT"), (0, u "I"), (2, u "LO_BYTE_SHIFT"), (49, .methodref 12 116), (0, .nameAndType 117 118), (0, u "compress"), (0, u "([CI[BII)I"), (3, u "([CII)[B"), (138, u "coderFromArrayLen"), (0, u "([BI)B"), (106, .class_ 371), (1, u "java/lang/StringUTF16$LinesSpliterator"), (58, u "MAX_LENGTH"), (196, .class_ 628), (0, u "java/lang/StringUTF16$CodePointsSpliterator"), (0, .class_ 630), (0, u "java/lang/StringUTF16$CharsSpliterator")] 4

def k10m0 : Method := { name := "<init>", desc := "()V", sig := { parameters := [], returnType := none }, accessFlags := 0, code := none }
def k10c1 : Code := { maxStack := 2, maxLocals := 2, code := jdk_52_method_15_code, exceptionTable := #[], attributes := #[] }
def k10m1 : Method := { name := "coderFromArrayLen", desc := "([BI)B", sig := { parameters := [(.array .byte), .int], returnType := some .byte }, accessFlags := 8, code := some k10c1 }
def k10c2 : Code := { maxStack := 5, maxLocals := 6, code := jdk_52_method_16_code, exceptionTable := #[], attributes := #[] }
def k10m2 : Method := { name := "compress", desc := "([CII)[B", sig := { parameters := [(.array .char), .int, .int], returnType := some (.array .byte) }, accessFlags := 9, code := some k10c2 }
def k10c3 : Code := { maxStack := 3, maxLocals := 7, code := jdk_52_method_21_code, exceptionTable := #[], attributes := #[] }
def k10m3 : Method := { name := "compress", desc := "([CI[BII)I", sig := { parameters := [(.array .char), .int, (.array .byte), .int, .int], returnType := some .int }, accessFlags := 9, code := some k10c3 }
/-- java/lang/StringUTF16 -/
def k10 : Class := { plain "java/lang/StringUTF16" (some 0) with
  accessFlags := 48
  interfaces := #[]
  cf := some (fileOf pool10 12 #[.nestMembers #[627, 629, 369]] #[{ accessFlags := 0, nameIndex := 9, descriptorIndex := 10, attributes := #[] }, { accessFlags := 8, nameIndex := 261, descriptorIndex := 262, attributes := #[] }, { accessFlags := 9, nameIndex := 117, descriptorIndex := 122, attributes := #[] }, { accessFlags := 9, nameIndex := 117, descriptorIndex := 118, attributes := #[] }] 48 6 #[] #[{ accessFlags := 26, nameIndex := 61, descriptorIndex := 62, attributes := #[] }, { accessFlags := 26, nameIndex := 65, descriptorIndex := 62, attributes := #[] }, { accessFlags := 24, nameIndex := 430, descriptorIndex := 62, attributes := #[] }, { accessFlags := 4120, nameIndex := 46, descriptorIndex := 47, attributes := #[] }])
  fields := #[{ name := "HI_BYTE_SHIFT", type := .int, accessFlags := 26, slot := 0, constantValue := 0 }, { name := "LO_BYTE_SHIFT", type := .int, accessFlags := 26, slot := 1, constantValue := 0 }, { name := "MAX_LENGTH", type := .int, accessFlags := 24, slot := 2, constantValue := 0 }, { name := "$assertionsDisabled", type := .boolean, accessFlags := 4120, slot := 3, constantValue := 0 }]
  methods := #[k10m0, k10m1, k10m2, k10m3]
  instanceTypes := #[]
  staticTypes := #[.int, .int, .int, .boolean]
  resolved := Array.replicate 635 none
  statics := none }

def pool11 : Array CpInfo := pool [(1, .class_ 2), (0, u "java/lang/Cloneable"), (0, .class_ 4), (0, u "java/lang/Object")] 2

/-- java/lang/Cloneable -/
def k11 : Class := { plain "java/lang/Cloneable" (some 0) with
  accessFlags := 1537
  interfaces := #[]
  cf := some (fileOf pool11 1 #[] #[] 1537 3 #[] #[])
  fields := #[]
  methods := #[]
  instanceTypes := #[]
  staticTypes := #[]
  resolved := Array.replicate 7 none
  statics := none }

def pool12 : Array CpInfo := pool [(4, .class_ 6), (1, u "java/lang/Object"), (0, u "<init>"), (0, u "()V"), (5, .class_ 16), (1, u "java/lang/StringLatin1"), (104, u "$assertionsDisabled"), (0, u "Z"), (98, .class_ 223), (1, u "java/lang/StringLatin1$LinesSpliterator"), (57, u "equals"), (0, u "([B[B)Z"), (107, .class_ 391), (0, u "java/lang/StringLatin1$CharsSpliterator")] 3

def k12m0 : Method := { name := "<init>", desc := "()V", sig := { parameters := [], returnType := none }, accessFlags := 0, code := none }
def k12c1 : Code := { maxStack := 3, maxLocals := 3, code := jdk_43_method_13_code, exceptionTable := #[], attributes := #[] }
def k12m1 : Method := { name := "equals", desc := "([B[B)Z", sig := { parameters := [(.array .byte), (.array .byte)], returnType := some .boolean }, accessFlags := 9, code := some k12c1 }
/-- java/lang/StringLatin1 -/
def k12 : Class := { plain "java/lang/StringLatin1" (some 0) with
  accessFlags := 48
  interfaces := #[]
  cf := some (fileOf pool12 14 #[.nestMembers #[390, 221]] #[{ accessFlags := 0, nameIndex := 7, descriptorIndex := 8, attributes := #[] }, { accessFlags := 9, nameIndex := 281, descriptorIndex := 282, attributes := #[] }] 48 4 #[] #[{ accessFlags := 4120, nameIndex := 121, descriptorIndex := 122, attributes := #[] }])
  fields := #[{ name := "$assertionsDisabled", type := .boolean, accessFlags := 4120, slot := 0, constantValue := 0 }]
  methods := #[k12m0, k12m1]
  instanceTypes := #[]
  staticTypes := #[.boolean]
  resolved := Array.replicate 395 none
  statics := none }

def pool13 : Array CpInfo := pool [(2, .class_ 4), (1, u "java/lang/Object"), (0, u "<init>"), (0, u "()V"), (17, .class_ 26), (1, u "jdk/internal/util/Preconditions"), (28, .class_ 56), (0, u "jdk/internal/util/Preconditions$4"), (57, .class_ 115), (0, u "jdk/internal/util/Preconditions$1"), (7, u "SIOOBE_FORMATTER"), (0, u "Ljava/util/function/BiFunction;"), (0, .class_ 126), (0, u "jdk/internal/util/Preconditions$2"), (3, u "AIOOBE_FORMATTER"), (0, .class_ 132), (0, u "jdk/internal/util/Preconditions$3"), (3, u "IOOBE_FORMATTER")] 57

def k13m0 : Method := { name := "<init>", desc := "()V", sig := { parameters := [], returnType := none }, accessFlags := 1, code := none }
/-- jdk/internal/util/Preconditions -/
def k13 : Class := { plain "jdk/internal/util/Preconditions" (some 0) with
  accessFlags := 33
  interfaces := #[]
  cf := some (fileOf pool13 24 #[.nestMembers #[55, 131, 125, 114]] #[{ accessFlags := 1, nameIndex := 5, descriptorIndex := 6, attributes := #[] }] 33 2 #[] #[{ accessFlags := 25, nameIndex := 123, descriptorIndex := 124, attributes := #[] }, { accessFlags := 25, nameIndex := 130, descriptorIndex := 124, attributes := #[] }, { accessFlags := 25, nameIndex := 136, descriptorIndex := 124, attributes := #[] }])
  fields := #[{ name := "SIOOBE_FORMATTER", type := (.object "java/util/function/BiFunction"), accessFlags := 25, slot := 0, constantValue := 0 }, { name := "AIOOBE_FORMATTER", type := (.object "java/util/function/BiFunction"), accessFlags := 25, slot := 1, constantValue := 0 }, { name := "IOOBE_FORMATTER", type := (.object "java/util/function/BiFunction"), accessFlags := 25, slot := 2, constantValue := 0 }]
  methods := #[k13m0]
  instanceTypes := #[]
  staticTypes := #[(.object "java/util/function/BiFunction"), (.object "java/util/function/BiFunction"), (.object "java/util/function/BiFunction")]
  resolved := Array.replicate 194 none
  statics := some 2 }

def pool14 : Array CpInfo := pool [(9, u "<init>"), (6, .class_ 18), (1, u "java/lang/Object"), (0, u "()V"), (1, .class_ 23), (1, u "jdk/internal/util/ArraysSupport"), (0, u "LOG2_ARRAY_LONG_INDEX_SCALE"), (0, u "I"), (2, u "U"), (0, u "Ljdk/internal/misc/Unsafe;"), (8, u "BIG_ENDIAN"), (0, u "Z"), (8, u "LOG2_BYTE_BIT_SIZE"), (4, u "LOG2_ARRAY_INT_INDEX_SCALE"), (54, u "JLA"), (0, u "Ljdk/internal/access/JavaLangAccess;"), (11, u "LOG2_ARRAY_BOOLEAN_INDEX_SCALE"), (9, u "LOG2_ARRAY_BYTE_INDEX_SCALE"), (5, u "LOG2_ARRAY_CHAR_INDEX_SCALE"), (5, u "LOG2_ARRAY_SHORT_INDEX_SCALE"), (18, u "LOG2_ARRAY_FLOAT_INDEX_SCALE"), (24, u "LOG2_ARRAY_DOUBLE_INDEX_SCALE"), (89, u "T_BOOLEAN"), (2, u "T_CHAR"), (1, u "T_FLOAT"), (1, u "T_DOUBLE"), (1, u "T_BYTE"), (1, u "T_SHORT"), (1, u "T_INT"), (1, u "T_LONG"), (1, u "SOFT_MAX_ARRAY_LENGTH")] 83

def k14m0 : Method := { name := "<init>", desc := "()V", sig := { parameters := [], returnType := none }, accessFlags := 2, code := none }
/-- jdk/internal/util/ArraysSupport -/
def k14 : Class := { plain "jdk/internal/util/ArraysSupport" (some 0) with
  accessFlags := 33
  interfaces := #[]
  cf := some (fileOf pool14 21 #[] #[{ accessFlags := 2, nameIndex := 9, descriptorIndex := 19, attributes := #[] }] 33 16 #[] #[{ accessFlags := 24, nameIndex := 28, descriptorIndex := 29, attributes := #[] }, { accessFlags := 26, nameIndex := 38, descriptorIndex := 39, attributes := #[] }, { accessFlags := 25, nameIndex := 121, descriptorIndex := 25, attributes := #[] }, { accessFlags := 25, nameIndex := 131, descriptorIndex := 25, attributes := #[] }, { accessFlags := 25, nameIndex := 137, descriptorIndex := 25, attributes := #[] }, { accessFlags := 25, nameIndex := 143, descriptorIndex := 25, attributes := #[] }, { accessFlags := 25, nameIndex := 53, descriptorIndex := 25, attributes := #[] }, { accessFlags := 25, nameIndex := 24, descriptorIndex := 25, attributes := #[] }, { accessFlags := 25, nameIndex := 162, descriptorIndex := 25, attributes := #[] }, { accessFlags := 25, nameIndex := 187, descriptorIndex := 25, attributes := #[] }, { accessFlags := 26, nameIndex := 48, descriptorIndex := 25, attributes := #[] }, { accessFlags := 25, nameIndex := 277, descriptorIndex := 25, attributes := #[] }, { accessFlags := 25, nameIndex := 280, descriptorIndex := 25, attributes := #[] }, { accessFlags := 25, nameIndex := 282, descriptorIndex := 25, attributes := #[] }, { accessFlags := 25, nameIndex := 284, descriptorIndex := 25, attributes := #[] }, { accessFlags := 25, nameIndex := 286, descriptorIndex := 25, attributes := #[] }, { accessFlags := 25, nameIndex := 288, descriptorIndex := 25, attributes := #[] }, { accessFlags := 25, nameIndex := 290, descriptorIndex := 25, attributes := #[] }, { accessFlags := 25, nameIndex := 292, descriptorIndex := 25, attributes := #[] }, { accessFlags := 26, nameIndex := 108, descriptorIndex := 109, attributes := #[] }, { accessFlags := 25, nameIndex := 294, descriptorIndex := 25, attributes := #[] }])
  fields := #[{ name := "U", type := (.object "jdk/internal/misc/Unsafe"), accessFlags := 24, slot := 0, constantValue := 0 }, { name := "BIG_ENDIAN", type := .boolean, accessFlags := 26, slot := 1, constantValue := 0 }, { name := "LOG2_ARRAY_BOOLEAN_INDEX_SCALE", type := .int, accessFlags := 25, slot := 2, constantValue := 0 }, { name := "LOG2_ARRAY_BYTE_INDEX_SCALE", type := .int, accessFlags := 25, slot := 3, constantValue := 0 }, { name := "LOG2_ARRAY_CHAR_INDEX_SCALE", type := .int, accessFlags := 25, slot := 4, constantValue := 0 }, { name := "LOG2_ARRAY_SHORT_INDEX_SCALE", type := .int, accessFlags := 25, slot := 5, constantValue := 0 }, { name := "LOG2_ARRAY_INT_INDEX_SCALE", type := .int, accessFlags := 25, slot := 6, constantValue := 0 }, { name := "LOG2_ARRAY_LONG_INDEX_SCALE", type := .int, accessFlags := 25, slot := 7, constantValue := 0 }, { name := "LOG2_ARRAY_FLOAT_INDEX_SCALE", type := .int, accessFlags := 25, slot := 8, constantValue := 0 }, { name := "LOG2_ARRAY_DOUBLE_INDEX_SCALE", type := .int, accessFlags := 25, slot := 9, constantValue := 0 }, { name := "LOG2_BYTE_BIT_SIZE", type := .int, accessFlags := 26, slot := 10, constantValue := 0 }, { name := "T_BOOLEAN", type := .int, accessFlags := 25, slot := 11, constantValue := 0 }, { name := "T_CHAR", type := .int, accessFlags := 25, slot := 12, constantValue := 0 }, { name := "T_FLOAT", type := .int, accessFlags := 25, slot := 13, constantValue := 0 }, { name := "T_DOUBLE", type := .int, accessFlags := 25, slot := 14, constantValue := 0 }, { name := "T_BYTE", type := .int, accessFlags := 25, slot := 15, constantValue := 0 }, { name := "T_SHORT", type := .int, accessFlags := 25, slot := 16, constantValue := 0 }, { name := "T_INT", type := .int, accessFlags := 25, slot := 17, constantValue := 0 }, { name := "T_LONG", type := .int, accessFlags := 25, slot := 18, constantValue := 0 }, { name := "JLA", type := (.object "jdk/internal/access/JavaLangAccess"), accessFlags := 26, slot := 19, constantValue := 0 }, { name := "SOFT_MAX_ARRAY_LENGTH", type := .int, accessFlags := 25, slot := 20, constantValue := 0 }]
  methods := #[k14m0]
  instanceTypes := #[]
  staticTypes := #[(.object "jdk/internal/misc/Unsafe"), .boolean, .int, .int, .int, .int, .int, .int, .int, .int, .int, .int, .int, .int, .int, .int, .int, .int, .int, (.object "jdk/internal/access/JavaLangAccess"), .int]
  resolved := Array.replicate 378 none
  statics := none }

/-- the primitive byte -/
def k15 : Class := { plain "byte" none with kind := .primitive 'B', accessFlags := 0x411 }
/-- [B -/
def k16 : Class := { plain "[B" (some 0) with kind := .array 15 .byte, interfaces := #[11, 4], accessFlags := 1041 }

/-- the primitive char -/
def k17 : Class := { plain "char" none with kind := .primitive 'C', accessFlags := 0x411 }
/-- [C -/
def k18 : Class := { plain "[C" (some 0) with kind := .array 17 .char, interfaces := #[11, 4], accessFlags := 1041 }

/-- [Lcom/example/boxwright/boxwright/Kind; -/
def k19 : Class := { plain "[Lcom/example/boxwright/boxwright/Kind;" (some 0) with kind := .array 6 (.object "com/example/boxwright/boxwright/Kind"), interfaces := #[11, 4], accessFlags := 1041 }

def heap : Heap := #[{ cls := 6, slots := #[.ref 3, .ref 5, .ref 6, .ref 4], vm := .statics 6 },
  { cls := 9, slots := #[.long 0, .int 1, .null, .int 0, .null, .int 0, .int 0], vm := .statics 9 },
  { cls := 13, slots := #[.null, .null, .null], vm := .statics 13 },
  { cls := 6, slots := #[.null, .int 0, .int 0, .ref 7, .null], vm := .none },
  { cls := 19, slots := #[.ref 3, .ref 5, .ref 6], vm := .none },
  { cls := 6, slots := #[.null, .int 0, .int 0, .ref 9, .null], vm := .none },
  { cls := 6, slots := #[.null, .int 0, .int 0, .ref 11, .null], vm := .none },
  { cls := 9, slots := #[.ref 8, .int 0, .int 0, .int 0], vm := .none },
  { cls := 16, slots := #[.int 99, .int 108, .int 97, .int 115, .int 115], vm := .none },
  { cls := 9, slots := #[.ref 10, .int 0, .int 0, .int 0], vm := .none },
  { cls := 16, slots := #[.int 111, .int 98, .int 106, .int 101, .int 99, .int 116, .int 32, .int 112, .int 114, .int 111, .int 112, .int 101, .int 114, .int 116, .int 121], vm := .none },
  { cls := 9, slots := #[.ref 12, .int 0, .int 0, .int 0], vm := .none },
  { cls := 16, slots := #[.int 100, .int 97, .int 116, .int 97, .int 116, .int 121, .int 112, .int 101, .int 32, .int 112, .int 114, .int 111, .int 112, .int 101, .int 114, .int 116, .int 121], vm := .none }]
def classes : Array Class := #[k0, k1, k2, k3, k4, k5, k6, k7, k8, k9, k10, k11, k12, k13, k14, k15, k16, k17, k18, k19]
def interned : List (Array UInt16 × Addr) := []
def slotsUsed : Nat := 81
def theMethod : MethodId := ⟨1, 1⟩
def args0 : Array Value := #[.int 5]
def aboutOver (below : List Frame) : State where
  vm := { classes := classes, interned := interned.toArray }
  heap := heap
  slotsUsed := slotsUsed
  threads := #[{ frames := .invoking theMethod args0 :: below }]
def below0 : List Frame := [.native { method := ⟨0, 0⟩, args := #[] }]
def about1 : State := aboutOver below0
def p0 : Program := .bare "" "" ""
def e0 : Env := launch0.env 0 0 0
theorem w_frames : about1.frames = Frame.invoking theMethod args0 :: below0 := rfl
set_option maxRecDepth 65536 in
theorem w_args : argsFit about1.vm theMethod args0 = true := by decide +kernel
set_option maxRecDepth 65536 in
theorem w_heap : heapFits about1 = true := by decide +kernel
set_option maxRecDepth 65536 in
theorem w_runnable : about1.curStatus? = some .runnable := by decide +kernel
set_option maxRecDepth 65536 in
theorem w_alone : about1.alone = true := by decide +kernel
set_option maxRecDepth 65536 in
theorem w_named : about1.methodNamed? x = some theMethod := by decide +kernel
set_option maxRecDepth 65536 in
theorem w_hears : about1.hears theMethod below0 = true := by decide +kernel
set_option maxRecDepth 65536 in
theorem w_ripe : about1.ripe theMethod args0 below0 = true := by decide +kernel
theorem w_running : about1.status = .running := rfl
set_option maxRecDepth 65536 in
theorem w_room : about1.hasRoom e0.platform room_1 = true :=
  launch0.hasRoom_least _ room_1 (by decide +kernel) (by decide +kernel) (by decide +kernel) (by decide +kernel) (by decide +kernel) (by decide +kernel)
theorem allAtoms_all (ts : List Jvm.Cond) (a : Array Jvm.Value) (st : Jvm.State) : (allAtoms ts).before a st = ts.all (fun c => c.before a st) := by
  induction ts with
  | nil => rfl
  | cons c t ih =>
    show (Jvm.Cond.and c (allAtoms t)).before a st = _
    rw [Jvm.Cond.before_and, ih, List.all_cons]
def words1 : List Jvm.Cond := Jvm.Cond.code x code maxLocals ret :: tables_1
/-- a 'code' word, met by the world's own term for the bytes: nothing is compared byte by byte -/
theorem code_word {y : MethodName} {bytes : ByteArray} {mx : Nat} {rt : Option FieldType} {a : Array Value} {s : State} {m : MethodId} {meth : Method} {c : Code} (h1 : s.methodNamed? y = some m) (h2 : s.vm.method? m = some meth) (h3 : meth.code = some c) (h4 : c.code = bytes)
    (h5 : (c.maxLocals == mx && c.exceptionTable.isEmpty && decide (c.maxStack ≤ mostOperands) && decide (meth.sig.returnType = rt) && !meth.locks && decide (parseMethodDescriptor y.desc = some meth.sig)) = true) : (Jvm.Cond.code y bytes mx rt).before a s = true := by
  simp only [Bool.and_eq_true, beq_iff_eq, Bool.not_eq_true', decide_eq_true_eq] at h5
  obtain ⟨⟨⟨⟨⟨g1, g2⟩, g3⟩, g4⟩, g5⟩, g6⟩ := h5
  simp [Cond.before, Cond.holds, Cond.value, h1, h2, h3, h4, g1, g2, g3, g4, g5, g6]
def isCode : Jvm.Cond → Bool
  | .code _ _ _ _ => true
  | _ => false
theorem all_split {L : List Jvm.Cond} {P : Jvm.Cond → Bool} (h1 : L.all (fun c => isCode c || P c) = true) (h2 : ∀ c ∈ L.filter isCode, P c = true) : L.all P = true := by
  refine List.all_eq_true.mpr fun c hc => ?_
  have h := List.all_eq_true.mp h1 c hc
  rcases Bool.eq_false_or_eq_true (isCode c) with hi | hi
  · exact h2 c (List.mem_filter.mpr ⟨hc, hi⟩)
  · simpa [hi] using h
set_option maxRecDepth 65536 in
theorem w_c0 : (Jvm.Cond.code x code maxLocals ret).before args0 about1 = true := code_word (m := ⟨1, 1⟩) (meth := k1m1) (c := k1c1) (by decide +kernel) rfl rfl rfl (by decide +kernel)
set_option maxRecDepth 65536 in
theorem w_c1 : (Jvm.Cond.code ({ cls := "java/lang/String", name := "<init>", desc := "([C)V" } : Jvm.MethodName) jdk_42_method_3_code (2 : Nat) (Option.none : Option Jvm.ClassFile.FieldType)).before args0 about1 = true := code_word (m := ⟨9, 1⟩) (meth := k9m1) (c := k9c1) (by decide +kernel) rfl rfl rfl (by decide +kernel)
set_option maxRecDepth 65536 in
theorem w_c2 : (Jvm.Cond.code ({ cls := "java/lang/String", name := "<init>", desc := "([CIILjava/lang/Void;)V" } : Jvm.MethodName) jdk_42_method_149_code (6 : Nat) (Option.none : Option Jvm.ClassFile.FieldType)).before args0 about1 = true := code_word (m := ⟨9, 3⟩) (meth := k9m3) (c := k9c3) (by decide +kernel) rfl rfl rfl (by decide +kernel)
set_option maxRecDepth 65536 in
theorem w_c3 : (Jvm.Cond.code ({ cls := "java/lang/Object", name := "<init>", desc := "()V" } : Jvm.MethodName) object_method_1_code (1 : Nat) (Option.none : Option Jvm.ClassFile.FieldType)).before args0 about1 = true := code_word (m := ⟨0, 0⟩) (meth := k0m0) (c := k0c0) (by decide +kernel) rfl rfl rfl (by decide +kernel)
set_option maxRecDepth 65536 in
theorem w_c4 : (Jvm.Cond.code ({ cls := "java/lang/StringUTF16", name := "compress", desc := "([CII)[B" } : Jvm.MethodName) jdk_52_method_16_code (6 : Nat) (Option.some (Jvm.ClassFile.FieldType.array Jvm.ClassFile.FieldType.byte))).before args0 about1 = true := code_word (m := ⟨10, 2⟩) (meth := k10m2) (c := k10c2) (by decide +kernel) rfl rfl rfl (by decide +kernel)
set_option maxRecDepth 65536 in
theorem w_c5 : (Jvm.Cond.code ({ cls := "java/lang/StringUTF16", name := "compress", desc := "([CI[BII)I" } : Jvm.MethodName) jdk_52_method_21_code (7 : Nat) (Option.some Jvm.ClassFile.FieldType.int)).before args0 about1 = true := code_word (m := ⟨10, 3⟩) (meth := k10m3) (c := k10c3) (by decide +kernel) rfl rfl rfl (by decide +kernel)
set_option maxRecDepth 65536 in
theorem w_c6 : (Jvm.Cond.code ({ cls := "java/lang/StringUTF16", name := "coderFromArrayLen", desc := "([BI)B" } : Jvm.MethodName) jdk_52_method_15_code (2 : Nat) (Option.some Jvm.ClassFile.FieldType.byte)).before args0 about1 = true := code_word (m := ⟨10, 1⟩) (meth := k10m1) (c := k10c1) (by decide +kernel) rfl rfl rfl (by decide +kernel)
set_option maxRecDepth 65536 in
theorem w_c7 : (Jvm.Cond.code ({ cls := "com/example/boxwright/boxwright/Kind", name := "ofLabel", desc := "(Ljava/lang/String;)Lcom/example/boxwright/boxwright/Kind;" } : Jvm.MethodName) prog_8_method_9_code (5 : Nat) (Option.some (Jvm.ClassFile.FieldType.object "com/example/boxwright/boxwright/Kind"))).before args0 about1 = true := code_word (m := ⟨6, 2⟩) (meth := k6m2) (c := k6c2) (by decide +kernel) rfl rfl rfl (by decide +kernel)
set_option maxRecDepth 65536 in
theorem w_c8 : (Jvm.Cond.code ({ cls := "com/example/boxwright/boxwright/Kind", name := "values", desc := "()[Lcom/example/boxwright/boxwright/Kind;" } : Jvm.MethodName) prog_8_method_1_code (0 : Nat) (Option.some (Jvm.ClassFile.FieldType.array (Jvm.ClassFile.FieldType.object "com/example/boxwright/boxwright/Kind")))).before args0 about1 = true := code_word (m := ⟨6, 0⟩) (meth := k6m0) (c := k6c0) (by decide +kernel) rfl rfl rfl (by decide +kernel)
set_option maxRecDepth 65536 in
theorem w_c9 : (Jvm.Cond.code ({ cls := "java/lang/String", name := "equals", desc := "(Ljava/lang/Object;)Z" } : Jvm.MethodName) jdk_42_method_66_code (3 : Nat) (Option.some Jvm.ClassFile.FieldType.boolean)).before args0 about1 = true := code_word (m := ⟨9, 2⟩) (meth := k9m2) (c := k9c2) (by decide +kernel) rfl rfl rfl (by decide +kernel)
set_option maxRecDepth 65536 in
theorem w_c10 : (Jvm.Cond.code ({ cls := "java/lang/StringLatin1", name := "equals", desc := "([B[B)Z" } : Jvm.MethodName) jdk_43_method_13_code (3 : Nat) (Option.some Jvm.ClassFile.FieldType.boolean)).before args0 about1 = true := code_word (m := ⟨12, 1⟩) (meth := k12m1) (c := k12c1) (by decide +kernel) rfl rfl rfl (by decide +kernel)
set_option maxRecDepth 65536 in
theorem w_c11 : (Jvm.Cond.code ({ cls := "com/example/boxwright/boxwright/Kind", name := "label", desc := "()Ljava/lang/String;" } : Jvm.MethodName) prog_8_method_4_code (1 : Nat) (Option.some (Jvm.ClassFile.FieldType.object "java/lang/String"))).before args0 about1 = true := code_word (m := ⟨6, 1⟩) (meth := k6m1) (c := k6c1) (by decide +kernel) rfl rfl rfl (by decide +kernel)
def codes1 : List Jvm.Cond := [Jvm.Cond.code x code maxLocals ret, Jvm.Cond.code ({ cls := "java/lang/String", name := "<init>", desc := "([C)V" } : Jvm.MethodName) jdk_42_method_3_code (2 : Nat) (Option.none : Option Jvm.ClassFile.FieldType), Jvm.Cond.code ({ cls := "java/lang/String", name := "<init>", desc := "([CIILjava/lang/Void;)V" } : Jvm.MethodName) jdk_42_method_149_code (6 : Nat) (Option.none : Option Jvm.ClassFile.FieldType), Jvm.Cond.code ({ cls := "java/lang/Object", name := "<init>", desc := "()V" } : Jvm.MethodName) object_method_1_code (1 : Nat) (Option.none : Option Jvm.ClassFile.FieldType), Jvm.Cond.code ({ cls := "java/lang/StringUTF16", name := "compress", desc := "([CII)[B" } : Jvm.MethodName) jdk_52_method_16_code (6 : Nat) (Option.some (Jvm.ClassFile.FieldType.array Jvm.ClassFile.FieldType.byte)), Jvm.Cond.code ({ cls := "java/lang/StringUTF16", name := "compress", desc := "([CI[BII)I" } : Jvm.MethodName) jdk_52_method_21_code (7 : Nat) (Option.some Jvm.ClassFile.FieldType.int), Jvm.Cond.code ({ cls := "java/lang/StringUTF16", name := "coderFromArrayLen", desc := "([BI)B" } : Jvm.MethodName) jdk_52_method_15_code (2 : Nat) (Option.some Jvm.ClassFile.FieldType.byte), Jvm.Cond.code ({ cls := "com/example/boxwright/boxwright/Kind", name := "ofLabel", desc := "(Ljava/lang/String;)Lcom/example/boxwright/boxwright/Kind;" } : Jvm.MethodName) prog_8_method_9_code (5 : Nat) (Option.some (Jvm.ClassFile.FieldType.object "com/example/boxwright/boxwright/Kind")), Jvm.Cond.code ({ cls := "com/example/boxwright/boxwright/Kind", name := "values", desc := "()[Lcom/example/boxwright/boxwright/Kind;" } : Jvm.MethodName) prog_8_method_1_code (0 : Nat) (Option.some (Jvm.ClassFile.FieldType.array (Jvm.ClassFile.FieldType.object "com/example/boxwright/boxwright/Kind"))), Jvm.Cond.code ({ cls := "java/lang/String", name := "equals", desc := "(Ljava/lang/Object;)Z" } : Jvm.MethodName) jdk_42_method_66_code (3 : Nat) (Option.some Jvm.ClassFile.FieldType.boolean), Jvm.Cond.code ({ cls := "java/lang/StringLatin1", name := "equals", desc := "([B[B)Z" } : Jvm.MethodName) jdk_43_method_13_code (3 : Nat) (Option.some Jvm.ClassFile.FieldType.boolean), Jvm.Cond.code ({ cls := "com/example/boxwright/boxwright/Kind", name := "label", desc := "()Ljava/lang/String;" } : Jvm.MethodName) prog_8_method_4_code (1 : Nat) (Option.some (Jvm.ClassFile.FieldType.object "java/lang/String"))]
set_option maxRecDepth 65536 in
theorem codes_eq : words1.filter isCode = codes1 := rfl
theorem w_codes : ∀ c ∈ words1.filter isCode, c.before args0 about1 = true := by
  rw [codes_eq]
  intro c hc
  simp only [codes1, List.mem_cons, List.not_mem_nil, or_false] at hc
  rcases hc with rfl | rfl | rfl | rfl | rfl | rfl | rfl | rfl | rfl | rfl | rfl | rfl
  · exact w_c0
  · exact w_c1
  · exact w_c2
  · exact w_c3
  · exact w_c4
  · exact w_c5
  · exact w_c6
  · exact w_c7
  · exact w_c8
  · exact w_c9
  · exact w_c10
  · exact w_c11
set_option maxRecDepth 65536 in
theorem w_t1 : (words1.take 24).all (fun c => isCode c || c.before args0 about1) = true := by decide +kernel
set_option maxRecDepth 65536 in
theorem w_t2 : ((words1.drop 24).take 24).all (fun c => isCode c || c.before args0 about1) = true := by decide +kernel
set_option maxRecDepth 65536 in
theorem w_t3 : (((words1.drop 24).drop 24).take 24).all (fun c => isCode c || c.before args0 about1) = true := by decide +kernel
set_option maxRecDepth 65536 in
theorem w_t4 : (((words1.drop 24).drop 24).drop 24).all (fun c => isCode c || c.before args0 about1) = true := by decide +kernel
theorem w_tables : (allAtoms (Jvm.Cond.code x code maxLocals ret :: tables_1)).before args0 about1 = true := by
  rw [allAtoms_all]
  show words1.all (fun c => c.before args0 about1) = true
  refine all_split ?_ w_codes
  rw [← List.take_append_drop 24 words1, List.all_append, w_t1, ← List.take_append_drop 24 (words1.drop 24), List.all_append, w_t2, ← List.take_append_drop 24 ((words1.drop 24).drop 24), List.all_append, w_t3, w_t4]
  rfl
set_option maxRecDepth 65536 in
theorem w_rest : rest_1_c.before args0 about1 = true := by decide +kernel
set_option maxRecDepth 65536 in
theorem w_case : (Jvm.Cond.and given_1 narrow_1).before args0 about1 = true := by decide +kernel
theorem w_applies : (headSpec (Jvm.Cond.code x code maxLocals ret :: tables_1) room_1).applies x e0.platform about1 = true :=
  (Spec.applies_iff w_frames).mpr ⟨w_running, w_runnable, w_alone, w_named, w_hears, w_ripe, w_room, w_tables⟩
theorem atStart : AtStart classFile x code maxLocals ret World_1 tables_1 room_1 Calls_1 rest_1 Pre_1 launch0 p0 e0 about1 theMethod args0 below0 :=
  ⟨lists_1, trivial, launch0.admits_env _ _ _, launch0.least_env, fairChoices_fair.cas, fairChoices_fair.clock, w_frames, w_args, w_heap, w_applies, trivial, w_rest, w_case⟩
end start1
theorem witness_1 : WitnessClaimed_1 := ⟨start1.p0, start1.e0, start1.about1, start1.theMethod, start1.args0, start1.below0, start1.atStart⟩
end Jvm.Pilot.@@N@@
